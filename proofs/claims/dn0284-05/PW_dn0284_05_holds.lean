import PyProof.Rows.All
import Wide.All
import OpenK.AllK
import Wide.FinOn
import PySem.Challenge.RW_dn0284_05
set_option Elab.async false
set_option compiler.extract_closed false
set_option genInjectivity false
set_option genSizeOf false
section
open PySem PySem.W PyProof.Rows
set_option maxRecDepth 100000
namespace Mine

/-- a thing that may be said of an object -/
noncomputable abbrev Cell := Obj → Prop
noncomputable abbrev Ledger := List (Addr × Cell)
noncomputable abbrev Loc := List (Str × Option Value)

structure Led (B : Heap) (nw : Ledger) (h : Heap) : Prop where
  keep : ∀ b o, B.get? b = some o → h.get? b = some o
  own : ∀ p ∈ nw, B.get? p.1 = none ∧ ∃ o, h.get? p.1 = some o ∧ p.2 o
  nodup : (nw.map Prod.fst).Nodup

noncomputable def lk (loc : Loc) (x : Str) : Option Value := (loc.lookup x).join
noncomputable def IsNs (loc : Loc) : Cell := fun o => (loc.map Prod.fst).Nodup ∧ ∃ es ep, o.data = .dict es ep ∧ StrKeys es ∧ ∀ name, nsFind es name = lk loc name
noncomputable def IsLst (xs : List Value) : Cell := fun o => ∃ n, o = { cls := .type "list", data := .seq xs.toArray n }
noncomputable def IsTpl (xs : List Value) : Cell := fun o => ∃ n, o = { cls := .type "tuple", data := .seq xs.toArray n }
noncomputable def IsObj (o₀ : Obj) : Cell := fun o => o = o₀

/-- one entry turned -/
inductive Upd (a : Addr) (c c' : Cell) : Ledger → Ledger → Prop
  | head {r} : Upd a c c' ((a, c) :: r) ((a, c') :: r)
  | tail {p r r'} : Upd a c c' r r' → Upd a c c' (p :: r) (p :: r')
inductive Put (x : Str) (v : Option Value) : Loc → Loc → Prop
  | head {u r} : Put x v ((x, u) :: r) ((x, v) :: r)
  | tail {p r r'} : Put x v r r' → Put x v (p :: r) (p :: r')

theorem Upd.keys {a c c' l l'} (h : Upd a c c' l l') : l'.map Prod.fst = l.map Prod.fst := by
  induction h with
  | head => rfl
  | tail h ih => rw [List.map_cons, List.map_cons, ih]
theorem Upd.mem {a c c' l l'} (h : Upd a c c' l l') : (a, c) ∈ l := by
  induction h with
  | head => exact .head _
  | tail h ih => exact .tail _ ih
theorem Upd.from {a c c' l l'} (h : Upd a c c' l l') : (l.map Prod.fst).Nodup → ∀ p ∈ l', p = (a, c') ∨ (p ∈ l ∧ p.1 ≠ a) := by
  induction h with
  | head =>
    intro nd p hp
    rw [List.map_cons, List.nodup_cons] at nd
    rcases List.mem_cons.mp hp with rfl | hp
    · exact .inl rfl
    · exact .inr ⟨.tail _ hp, fun e => nd.1 (List.mem_map.mpr ⟨p, hp, e⟩)⟩
  | tail h ih =>
    intro nd p hp
    rw [List.map_cons, List.nodup_cons] at nd
    rcases List.mem_cons.mp hp with rfl | hp
    · exact .inr ⟨.head _, fun e => nd.1 (by rw [e]; exact List.mem_map_of_mem h.mem)⟩
    · rcases ih nd.2 p hp with e | ⟨m, n⟩
      · exact .inl e
      · exact .inr ⟨.tail _ m, n⟩

namespace Led
variable {B h h' : Heap} {nw nw' : Ledger} {a : Addr} {c c' : Cell}

theorem get (D : Led B nw h) (m : (a, c) ∈ nw) : ∃ o, h.get? a = some o ∧ c o := (D.own _ m).2
theorem size_ne (D : Led B nw h) : h.objs.size ∉ nw.map Prod.fst := fun m => by
  obtain ⟨p, hp, e⟩ := List.mem_map.mp m
  obtain ⟨o, ho, _⟩ := (D.own p hp).2
  exact absurd (Heap.lt_size ho) (by rw [e]; exact Nat.lt_irrefl _)
theorem size_new (D : Led B nw h) : B.get? h.objs.size = none := by
  cases q : B.get? h.objs.size with
  | none => rfl
  | some o => exact absurd (Heap.lt_size (D.keep _ _ q)) (Nat.lt_irrefl _)
/-- the heap grown, nothing turned -/
theorem grow (D : Led B nw h) (k : ∀ b o, h.get? b = some o → h'.get? b = some o) : Led B nw h' :=
  ⟨fun b o e => k _ _ (D.keep b o e), fun p hp => let ⟨x, o, ho, hc⟩ := D.own p hp; ⟨x, o, k _ _ ho, hc⟩, D.nodup⟩
theorem sub (D : Led B nw h) (s : List.Sublist nw' nw) : Led B nw' h :=
  ⟨D.keep, fun p hp => D.own p (s.subset hp), D.nodup.sublist (s.map _)⟩
theorem perm (D : Led B nw h) (s : List.Perm nw nw') : Led B nw' h :=
  ⟨D.keep, fun p hp => D.own p (s.mem_iff.mpr hp), (s.map Prod.fst).nodup_iff.mp D.nodup⟩
theorem tail {p : Addr × Cell} (D : Led B (p :: nw) h) : Led B nw h := D.sub (List.sublist_cons_self _ _)
theorem cons_new (D : Led B nw h) {o : Obj} (k : ∀ b o', h.get? b = some o' → h'.get? b = some o') (hs : a ∉ nw.map Prod.fst) (hB : B.get? a = none) (ho : h'.get? a = some o) (hc : c o) : Led B ((a, c) :: nw) h' := by
  have G := D.grow k
  refine ⟨G.keep, fun p hp => ?_, ?_⟩
  · rcases List.mem_cons.mp hp with rfl | hp
    · exact ⟨hB, o, ho, hc⟩
    · exact G.own p hp
  · rw [List.map_cons, List.nodup_cons]; exact ⟨hs, D.nodup⟩
theorem new (D : Led B nw h) {o : Obj} (hf : o.isFreed = false) (hc : c o) : Led B ((h.objs.size, c) :: nw) (h.push o) :=
  D.cons_new (fun _ _ e => Heap.get?_push_of_some _ e) D.size_ne D.size_new (Heap.get?_push_size _ hf) hc
theorem set (D : Led B nw h) (U : Upd a c c' nw nw') (hs : ∀ b o, b ≠ a → h.get? b = some o → h'.get? b = some o) {o : Obj} (ho : h'.get? a = some o) (hc : c' o) : Led B nw' h' := by
  have hB := (D.own _ U.mem).1
  refine ⟨fun b o' e => hs b o' (fun q => by rw [q, hB] at e; cases e) (D.keep b o' e), fun p hp => ?_, by rw [U.keys]; exact D.nodup⟩
  rcases U.from D.nodup p hp with rfl | ⟨m, n⟩
  · exact ⟨hB, o, ho, hc⟩
  · obtain ⟨x, o', ho', hc'⟩ := D.own p m
    exact ⟨x, o', hs _ _ n ho', hc'⟩
theorem ne {b : Addr} {o : Obj} (D : Led B nw h) (m : (a, c) ∈ nw) (e : B.get? b = some o) : a ≠ b := fun q => by
  have := (D.own _ m).1
  rw [q, e] at this; cases this
end Led
end Mine
namespace Mine
theorem Put.keys {x : Str} {v : Option Value} {l l' : Loc} (h : Put x v l l') : l'.map Prod.fst = l.map Prod.fst := by
  induction h with
  | head => rfl
  | tail h ih => rw [List.map_cons, List.map_cons, ih]
theorem Put.mem {x : Str} {v : Option Value} {l l' : Loc} (h : Put x v l l') : x ∈ l.map Prod.fst := by
  induction h with
  | head => exact .head _
  | tail h ih => exact .tail _ ih
theorem Put.look {x : Str} {v : Option Value} {l l' : Loc} (h : Put x v l l') : (l.map Prod.fst).Nodup → ∀ y, lk l' y = if y = x then v else lk l y := by
  induction h with
  | head =>
    intro _ y
    unfold lk
    rw [List.lookup_cons, List.lookup_cons]
    by_cases h : y = x
    · subst h; simp
    · rw [beq_eq_false_iff_ne.mpr h, if_neg h]
  | @tail p r r' h ih =>
    intro nd y
    rw [List.map_cons, List.nodup_cons] at nd
    have ih := ih nd.2 y
    unfold lk at ih ⊢
    rw [List.lookup_cons, List.lookup_cons]
    by_cases q : y = p.1
    · have hx : ¬ y = x := fun e => nd.1 (by rw [← q, e]; exact h.mem)
      rw [if_neg hx, beq_iff_eq.mpr q]
    · rw [beq_eq_false_iff_ne.mpr q]; exact ih
theorem lk_of_mem {x : Str} {v : Option Value} : ∀ {l : Loc}, (l.map Prod.fst).Nodup → (x, v) ∈ l → lk l x = v
  | p :: l, nd, m => by
    rw [List.map_cons, List.nodup_cons] at nd
    unfold lk
    rw [List.lookup_cons]
    rcases List.mem_cons.mp m with rfl | m
    · simp
    · have : x ≠ p.1 := fun e => nd.1 (by rw [← e]; exact List.mem_map.mpr ⟨_, m, rfl⟩)
      rw [beq_eq_false_iff_ne.mpr this]
      exact lk_of_mem nd.2 m

structure Wd where
  prog : Program
  w : World
  K : Frag
  B : Heap
  os : OsState

structure Wd.Ok (W : Wd) : Prop where
  kin : W.K.In W.B
  top : ∃ loose mean mg mb, Top topProg loose mean mg mb W.B
theorem Wd.Ok.g {W : Wd} (O : W.Ok) : ∃ mg, W.B.Ns mainGlobals mg := let ⟨_, _, _, _, T⟩ := O.top; ⟨_, T.g⟩
theorem Wd.Ok.b {W : Wd} (O : W.Ok) : ∃ mb, W.B.Ns builtinsNs mb ∧ ∀ x : Str, x ≠ "__name__" → mb x = bootBuiltins x := let ⟨_, _, _, _, T⟩ := O.top; ⟨_, T.b, T.builtins⟩
theorem Wd.Ok.nolimit {W : Wd} (O : W.Ok) : W.B.NoLimit := let ⟨_, _, _, _, T⟩ := O.top; T.nolimit
theorem Wd.Ok.bm {W : Wd} (O : W.Ok) : ∃ mg bm ob, W.B.Ns mainGlobals mg ∧ mg "__builtins__" = some (.ref bm) ∧ bm ≠ builtinsNs ∧ bm ≠ mainGlobals ∧ W.B.get? bm = some ob ∧ ob.cls = .type "module" ∧ ob.dict = some builtinsNs ∧ ob.data = .plain := by
  obtain ⟨_, _, mg, _, T⟩ := O.top
  obtain ⟨bm, ob, h1, h2, h3, h4, h5, h6⟩ := T.bmain
  refine ⟨mg, bm, ob, T.g, h1, h2, fun q => ?_, h3, h4, h5, h6⟩
  obtain ⟨o, es, ep, e, hd, _⟩ := T.g
  rw [q, e] at h3
  cases h3
  rw [hd] at h6
  cases h6

structure EnvOk (env : Env) (ks : List Str) : Prop where
  fn : env.scope.kind = .function
  glob : env.globals = mainGlobals
  bi : env.builtins = builtinsNs
  kinds : ∀ x ∈ ks, env.kindOf x = some .local
  nodebug : ∀ x ∈ ks, (x == ("__debug__" : Str)) = false
  nodup : ks.Nodup

noncomputable abbrev Gens := List (Nat × GenState)
structure Sta (W : Wd) (G : Gens) (env : Env) (loc : Loc) (nw : Ledger) (s : Shared) : Prop where
  ok : W.Ok
  eok : EnvOk env (loc.map Prod.fst)
  led : Led W.B ((env.locals, IsNs loc) :: nw) s.heap
  bare : AllBare s.gens
  os : s.os = W.os
  gens : ∀ p ∈ G, s.gens[p.1]? = some p.2
  gnd : (G.map Prod.fst).Nodup

namespace Sta
variable {W : Wd} {G : Gens} {env : Env} {loc loc' : Loc} {nw nw' : Ledger} {s : Shared} {A : Around} {E : Value → Shared → Prop}
theorem kin (S : Sta W G env loc nw s) : W.K.In s.heap := S.ok.kin.keeps S.led.keep
theorem nolimit (S : Sta W G env loc nw s) : s.heap.NoLimit := S.ok.nolimit.keeps S.led.keep
theorem toks (S : Sta W G env loc nw s) (t : Nat) : Sta W G env loc nw { s with toks := t } := ⟨S.ok, S.eok, S.led, S.bare, S.os, S.gens, S.gnd⟩
theorem ns (S : Sta W G env loc nw s) : s.heap.Ns env.locals (lk loc) := by
  obtain ⟨o, ho, _, es, ep, hd, hk, hf⟩ := S.led.get (.head _)
  exact ⟨o, es, ep, ho, hd, hk, hf⟩
theorem get {a : Addr} {c : Cell} (S : Sta W G env loc nw s) (m : (a, c) ∈ nw) : ∃ o, s.heap.get? a = some o ∧ c o := S.led.get (.tail _ m)
/-- heap grown, nothing turned -/
theorem grow (S : Sta W G env loc nw s) {h' : Heap} (k : ∀ b o, s.heap.get? b = some o → h'.get? b = some o) (t : Nat) : Sta W G env loc nw { s with heap := h', toks := t } :=
  ⟨S.ok, S.eok, S.led.grow k, S.bare, S.os, S.gens, S.gnd⟩
theorem new (S : Sta W G env loc nw s) {o : Obj} {c : Cell} (hf : o.isFreed = false) (hc : c o) (t : Nat) : Sta W G env loc ((s.heap.objs.size, c) :: nw) { s with heap := s.heap.push o, toks := t } :=
  ⟨S.ok, S.eok, (S.led.new hf hc).perm (List.Perm.swap ..), S.bare, S.os, S.gens, S.gnd⟩
theorem set (S : Sta W G env loc nw s) {a : Addr} {c c' : Cell} {o : Obj} {h' : Heap} (U : Upd a c c' nw nw') (hs : ∀ b o, b ≠ a → s.heap.get? b = some o → h'.get? b = some o) (ho : h'.get? a = some o) (hc : c' o) (t : Nat) : Sta W G env loc nw' { s with heap := h', toks := t } :=
  ⟨S.ok, S.eok, S.led.set (.tail U) hs ho hc, S.bare, S.os, S.gens, S.gnd⟩
theorem sub (S : Sta W G env loc nw s) (h : List.Sublist nw' nw) : Sta W G env loc nw' s := ⟨S.ok, S.eok, S.led.sub (h.cons_cons _), S.bare, S.os, S.gens, S.gnd⟩
theorem perm (S : Sta W G env loc nw s) (h : List.Perm nw nw') : Sta W G env loc nw' s := ⟨S.ok, S.eok, S.led.perm (h.cons _), S.bare, S.os, S.gens, S.gnd⟩
theorem put (S : Sta W G env loc nw s) {x : Str} {v : Option Value} {h' : Heap} (P : Put x v loc loc') (hn : h'.Ns env.locals (fun y => if y = x then v else lk loc y)) (hs : Heap.SameBut env.locals s.heap h') (t : Nat) :
    Sta W G env loc' nw { s with heap := h', toks := t } := by
  obtain ⟨o, es, ep, ho, hd, hk, hf⟩ := hn
  have nd : (loc.map Prod.fst).Nodup := S.eok.nodup
  refine ⟨S.ok, by rw [P.keys]; exact S.eok, S.led.set (.head) (fun b o hb e => (hs.2 b hb).trans e) ho ⟨by rw [P.keys]; exact nd, es, ep, hd, hk, fun y => ?_⟩, S.bare, S.os, S.gens, S.gnd⟩
  rw [hf y, P.look nd]

theorem local_ {x : Str} {pos : Pos} {v : Value} {Q : Value → Shared → Prop} {M : Model} (S : Sta W G env loc nw s) (hv : (x, some v) ∈ loc) (h : Q v s) : wpAny M A (eval (.Name x pos) env) Q E s :=
  have hx : x ∈ loc.map Prod.fst := List.mem_map.mpr ⟨_, hv, rfl⟩
  wpAny_Name (wpAny_loadName_local S.eok.fn (S.eok.kinds _ hx) S.ns (lk_of_mem S.eok.nodup hv) h) (S.eok.nodebug _ hx)
theorem local' {x : Str} {v : Value} {Q : Value → Shared → Prop} {M : Model} (S : Sta W G env loc nw s) (hv : (x, some v) ∈ loc) (h : Q v s) : wpAny M A (loadName env x) Q E s :=
  have hx : x ∈ loc.map Prod.fst := List.mem_map.mpr ⟨_, hv, rfl⟩
  wpAny_loadName_local S.eok.fn (S.eok.kinds _ hx) S.ns (lk_of_mem S.eok.nodup hv) h
theorem store {x : Str} {v : Value} {Q : Unit → Shared → Prop} {M : Model} (S : Sta W G env loc nw s) (hp : Put x (some v) loc loc') (h : ∀ s', Sta W G env loc' nw s' → Q () s') : wpAny M A (storeName env x v) Q E s := by
  refine wpAny_storeName_local (S.eok.kinds _ hp.mem) S.ns (fun h' hn hs => h _ (S.put hp hn hs _)) ?_
  rw [S.eok.fn]; rfl
theorem global {x : Str} {pos : Pos} {v : Value} {Q : Value → Shared → Prop} {M : Model} (S : Sta W G env loc nw s) (e : nsIn W.K mainGlobals x = some (some v)) (hx : env.kindOf x = some .globalImplicit) (h : Q v s) (hd : (x == ("__debug__" : Str)) = false := by decide +kernel) :
    wpAny M A (eval (.Name x pos) env) Q E s := by
  obtain ⟨mg, hg⟩ := S.ok.g
  exact Calls.Name_function_global S.eok.fn hx (Calls.loadGlobal_global (by rw [S.eok.glob]; exact hg.keeps S.led.keep) (mg_of S.ok.kin hg e) h) hd
theorem builtin {x : Str} {pos : Pos} {v : Value} {Q : Value → Shared → Prop} {M : Model} (S : Sta W G env loc nw s) (e : nsIn W.K mainGlobals x = some none) (hv : bootBuiltins x = some v) (hx : env.kindOf x = some .globalImplicit) (h : Q v s) (hn : x ≠ "__name__" := by decide +kernel) (hd : (x == ("__debug__" : Str)) = false := by decide +kernel) :
    wpAny M A (eval (.Name x pos) env) Q E s := by
  obtain ⟨mg, hg⟩ := S.ok.g
  obtain ⟨mb, hb, hbb⟩ := S.ok.b
  exact Calls.Name_function_global S.eok.fn hx (Calls.loadGlobal_builtin (by rw [S.eok.glob]; exact hg.keeps S.led.keep) (mg_none_of S.ok.kin hg e) (by rw [S.eok.bi]; exact hb.keeps S.led.keep) ((hbb x hn).trans hv) h) hd
end Sta
end Mine
end
section
open PySem PySem.W PyProof.Rows
set_option maxRecDepth 100000
namespace Mine
theorem slice_from (xs : List Value) (a : Nat) : (slicePick xs.toArray (some (a : Int)) none none).toList = xs.drop a := by
  rw [slicePick_from']
section
variable {W : Wd} {G : Gens} {env : Env} {loc loc' : Loc} {nw nw' : Ledger} {s : Shared} {A : Around} {E : Value → Shared → Prop}

theorem Sta.isList {a : Addr} {xs : List Value} (S : Sta W G env loc nw s) (m : (a, IsLst xs) ∈ nw) : s.heap.IsList a xs.toArray := by
  obtain ⟨o, ho, n, rfl⟩ := S.get m
  exact ⟨_, ho, rfl, n, rfl⟩
theorem Sta.isL {a : Addr} {xs : List Value} (S : Sta W G env loc nw s) (m : (a, IsLst xs) ∈ nw) : ∃ n, IsL s.heap a xs.toArray n := by
  obtain ⟨o, ho, n, rfl⟩ := S.get m
  exact ⟨n, ho⟩

/-- constants -/
theorem Sta.int_ {i : Int} {k : Nat} {pos : Pos} {Q : Value → Shared → Prop} {M : Model} (S : Sta W G env loc nw s) (h : ∀ t s', Sta W G env loc nw s' → Q (.int i t) s') : wpAny M A (eval (.Constant (.int i) k pos) env) Q E s :=
  wpAny_Constant_int (h _ _ (S.toks _))
theorem Sta.str_ {x : Str} {k : Nat} {pos : Pos} {Q : Value → Shared → Prop} {M : Model} (S : Sta W G env loc nw s) (h : ∀ t s', Sta W G env loc nw s' → Q (.str x t) s') : wpAny M A (eval (.Constant (.str x) k pos) env) Q E s :=
  wpAny_Constant_str (h _ _ (S.toks _))
/-- ints -/
theorem Sta.add {a b : Int} {t u : Tok} {Q : Value → Shared → Prop} (S : Sta W G env loc nw s) (h : ∀ t s', Sta W G env loc nw s' → Q (.int (a + b) t) s') : wpAny (model W.prog W.w) A (binaryOp .Add (.int a t) (.int b u)) Q E s :=
  PyProof.Rows.add_int (h _ _ (S.toks _))
theorem Sta.sub_ {a b : Int} {t u : Tok} {Q : Value → Shared → Prop} (S : Sta W G env loc nw s) (h : ∀ t s', Sta W G env loc nw s' → Q (.int (a - b) t) s') : wpAny (model W.prog W.w) A (binaryOp .Sub (.int a t) (.int b u)) Q E s :=
  PyProof.Rows.sub_int (h _ _ (S.toks _))
theorem Sta.mod {a b : Int} {t u : Tok} {Q : Value → Shared → Prop} (S : Sta W G env loc nw s) (hb : b ≠ 0) (h : ∀ t s', Sta W G env loc nw s' → Q (.int (a.fmod b) t) s') : wpAny (model W.prog W.w) A (binaryOp .Mod (.int a t) (.int b u)) Q E s :=
  PyProof.Rows.mod_int hb (h _ _ (S.toks _))
/-- slices of a list -/
noncomputable def SliceK (W : Wd) (env : Env) (Q : Value → Shared → Prop) (o vl vu : Value) (s : Shared) : Prop :=
  ∃ G loc nw l xs lo hi, Sta W G env loc nw s ∧ o = .ref l ∧ (l, IsLst xs) ∈ nw ∧ xs.length ≤ sizeLine ∧ IsPart vl lo ∧ IsPart vu hi ∧
    ∀ a s', Sta W G env loc ((a, IsLst (slicePick xs.toArray lo hi none).toList) :: nw) s' → Q (.ref a) s'
theorem slice_ {value : Expr} {lower upper : Option Expr} {p pos : Pos} {Q : Value → Shared → Prop}
    (h : wpAny (model W.prog W.w) A (eval value env) (fun o s₁ => wpAny (model W.prog W.w) A (evalPart lower env) (fun vl s₂ => wpAny (model W.prog W.w) A (evalPart upper env) (fun vu s₃ => SliceK W env Q o vl vu s₃) E s₂) E s₁) E s)
    (ht : ∀ o r, letTemporaryGo value o r = pure () := by intro _ _; rfl) :
    wpAny (model W.prog W.w) A (eval (.Subscript value (.Slice lower upper none p) pos) env) Q E s := by
  refine wpAny_Subscript_list_slice (wpAny_mono h (fun o s₁ h₁ => wpAny_mono h₁ (fun vl s₂ h₂ => wpAny_mono h₂ (fun vu s₃ h₃ => ?_) fun _ _ e => e) fun _ _ e => e) fun _ _ e => e) ht
  obtain ⟨G, loc, nw, l, xs, lo, hi, S, rfl, m, hz, pl, pu, q⟩ := h₃
  refine ⟨l, xs.toArray, lo, hi, rfl, S.isList m, by simpa using hz, pl, pu, ?_⟩
  have S1 := S.grow (h' := s₃.heap.push { cls := .type "slice", data := .fields #[vl, vu, .none] }) (fun _ _ e => Heap.get?_push_of_some _ e) s₃.toks
  have S2 := S1.new (o := { cls := .type "list", data := .seq (slicePick xs.toArray lo hi none) }) (c := IsLst (slicePick xs.toArray lo hi none).toList) rfl ⟨0, rfl⟩ s₃.toks
  have e : s₃.heap.objs.size + 1 = (s₃.heap.push { cls := .type "slice", data := .fields #[vl, vu, .none] }).objs.size := by rw [Heap.size_push]
  rw [e]
  exact q _ _ S2
end
end Mine
end
section
open PySem PySem.W PyProof.Rows
set_option maxRecDepth 100000
namespace Mine
noncomputable def topStmt (p : Program) (i : Nat) : Stmt := p.main.body.getD i (.Pass default)
noncomputable def inClass (st : Stmt) (j : Nat) : Stmt := match st with
  | .ClassDef _ _ _ body _ _ _ _ _ _ _ => body.getD j (.Pass default)
  | st => st
noncomputable def fnArgs : Stmt → Arguments
  | .FunctionDef _ a _ _ _ _ _ _ _ _ => a
  | _ => default
noncomputable def fnBody : Stmt → List Stmt
  | .FunctionDef _ _ b _ _ _ _ _ _ _ => b
  | _ => []
noncomputable def fnScope : Stmt → Scope
  | .FunctionDef _ _ _ _ _ _ sc _ _ _ => sc
  | _ => default

noncomputable def mkLoc (binds : List (Str × Value)) (rest : List Str) : Loc := binds.map (fun p => (p.1, some p.2)) ++ rest.map (fun k => (k, none))
theorem lk_none : ∀ (rest : List Str) (x : Str), lk (rest.map fun k => (k, none)) x = none
  | [], _ => rfl
  | k :: r, x => by
    unfold lk
    rw [List.map_cons, List.lookup_cons]
    cases x == k with
    | true => rfl
    | false => exact lk_none r x
theorem lk_mkLoc : ∀ (binds : List (Str × Value)) (rest : List Str), (binds.map Prod.fst).Nodup → ∀ x, lk (mkLoc binds rest) x = binds.reverse.lookup x
  | [], rest, _, x => lk_none rest x
  | (k, v) :: r, rest, nd, x => by
    rw [List.map_cons, List.nodup_cons] at nd
    have ih := lk_mkLoc r rest nd.2 x
    have key : (r.reverse ++ [(k, v)]).lookup x = (r.reverse.lookup x).or (if x == k then some v else none) := by
      rw [List.lookup_append]
      congr 1
      rw [List.lookup_cons]
      cases x == k <;> rfl
    rw [List.reverse_cons, key]
    unfold lk mkLoc at ih ⊢
    rw [List.map_cons, List.cons_append, List.lookup_cons]
    by_cases h : x = k
    · subst h
      have : r.reverse.lookup x = none := by
        rw [List.lookup_eq_none_iff]
        intro p hp
        rw [bne_iff_ne]
        exact fun e => nd.1 (List.mem_map.mpr ⟨p, List.mem_reverse.mp hp, e.symm⟩)
      rw [this]; simp
    · rw [beq_eq_false_iff_ne.mpr h]
      simp only [Bool.false_eq_true, if_false, Option.or_none]
      exact ih

section
variable {W : Wd} {G : Gens} {env : Env} {loc loc' : Loc} {nw nw' : Ledger} {s : Shared} {A : Around} {E : Value → Shared → Prop}

/-- the kinds of the names of a def, looked at once -/
noncomputable def kindsOk (sc : Scope) (ks : List Str) : Bool := sc.kind == .function && !sc.isCoroutine && !sc.isGenerator && (sc.names.all fun x => x.2 != .cell) && (ks.all fun x => sc.names.lookup x == some .local && !(x == ("__debug__" : Str))) && decide ks.Nodup

theorem Sta.code_def {R : Result → Shared → Prop} {f : Addr} {name qual : Str} {st : Stmt} {dV kV doc pm cdv ct oc : Value} {an od : Option Addr} {osl : Array (Option Value)} {args : Args} {binds : List (Str × Value)} (rest : List Str)
    (S : Sta W G env loc nw s) (hroom : A.depth < recursionLimit)
    (ho : W.K.lookup f = some ⟨oc, od, .func (fnOf name qual (fnArgs st) (fnBody st) (fnScope st) dV kV doc pm an cdv ct), osl⟩) (hcd : codeIn W.K cdv qual = true)
    (hbind : BindsTo s (fnOf name qual (fnArgs st) (fnBody st) (fnScope st) dV kV doc pm an cdv ct) args binds)
    (hk : kindsOk (fnScope st) (binds.map Prod.fst ++ rest) = true)
    (h : ∀ L s', Sta W G (envOf qual (fnScope st) L f cdv) (mkLoc binds rest) ((env.locals, IsNs loc) :: nw) s' →
      wpAny (model W.prog W.w) (A.deeper (envOf qual (fnScope st) L f cdv)) (execs (fnBody st) (envOf qual (fnScope st) L f cdv)) (fun fl s'' => R (.ok (.ret (match fl with | .ret v => v | _ => .none))) s'') (fun _ _ => False) s') :
    codeAny (model W.prog W.w) A (.call (.ref f) args) R s := by
  simp only [kindsOk, Bool.and_eq_true, beq_iff_eq, Bool.not_eq_true', List.all_eq_true, bne_iff_ne, decide_eq_true_eq] at hk
  obtain ⟨⟨⟨⟨⟨hkind, hco⟩, hgen⟩, hcell⟩, hks⟩, hnd⟩ := hk
  have hks2 : ((mkLoc binds rest).map Prod.fst) = binds.map Prod.fst ++ rest := by
    simp [mkLoc, List.map_map, Function.comp_def]
  refine (codeAny_call_def (fd := fnOf name qual (fnArgs st) (fnBody st) (fnScope st) dV kV doc pm an cdv ct) (body := fnBody st) (binds := binds) hroom (S.kin _ _ ho) rfl S.nolimit (codeRec_of S.kin hcd) rfl hbind hcell
    (fun x hx => (hks x.1 (List.mem_append_left _ (List.mem_map.mpr ⟨x, hx, rfl⟩))).1) (fun h₁ hns hkp => ?_) hco hgen hkind)
  have D : Led W.B ((s.heap.objs.size, IsNs (mkLoc binds rest)) :: (env.locals, IsNs loc) :: nw) h₁ := by
    obtain ⟨o, es, ep, ho', hd, hsk, hf⟩ := hns
    refine S.led.cons_new hkp S.led.size_ne S.led.size_new ho' ⟨by rw [hks2]; exact hnd, es, ep, hd, hsk, fun x => ?_⟩
    rw [hf x, lk_mkLoc _ _ (hnd.sublist (List.sublist_append_left _ _))]
  have S' : Sta W G (envOf qual (fnScope st) s.heap.objs.size f cdv) (mkLoc binds rest) ((env.locals, IsNs loc) :: nw) { s with heap := h₁, toks := s.toks + binds.length } :=
    ⟨S.ok, by rw [hks2]; exact ⟨hkind, rfl, rfl, fun x hx => (hks x hx).1, fun x hx => (hks x hx).2, hnd⟩, D, S.bare, S.os, S.gens, S.gnd⟩
  exact wpAny_mono (h _ _ S') (fun fl s'' q => q) (fun _ _ q => q.elim)
theorem Sta.call_def {Q : Value → Shared → Prop} {f : Addr} {name qual : Str} {st : Stmt} {dV kV doc pm cdv ct oc : Value} {an od : Option Addr} {osl : Array (Option Value)} {args : Args} {binds : List (Str × Value)} (rest : List Str)
    (S : Sta W G env loc nw s) (hroom : A.depth < recursionLimit)
    (ho : W.K.lookup f = some ⟨oc, od, .func (fnOf name qual (fnArgs st) (fnBody st) (fnScope st) dV kV doc pm an cdv ct), osl⟩) (hcd : codeIn W.K cdv qual = true)
    (hbind : BindsTo s (fnOf name qual (fnArgs st) (fnBody st) (fnScope st) dV kV doc pm an cdv ct) args binds)
    (hk : kindsOk (fnScope st) (binds.map Prod.fst ++ rest) = true)
    (h : ∀ L s', Sta W G (envOf qual (fnScope st) L f cdv) (mkLoc binds rest) ((env.locals, IsNs loc) :: nw) s' →
      wpAny (model W.prog W.w) (A.deeper (envOf qual (fnScope st) L f cdv)) (execs (fnBody st) (envOf qual (fnScope st) L f cdv)) (fun fl s'' => Q (match fl with | .ret v => v | _ => .none) s'') (fun _ _ => False) s') :
    wpAny (model W.prog W.w) A (call (.ref f) args.pos args.kw) Q E s := wpAny_call (S.code_def rest hroom ho hcd hbind hk h)
theorem Sta.back {env' : Env} (S : Sta W G env' loc' ((env.locals, IsNs loc) :: nw) s) (S₀ : EnvOk env (loc.map Prod.fst)) : Sta W G env loc nw s :=
  ⟨S.ok, S₀, S.led.tail, S.bare, S.os, S.gens, S.gnd⟩
end
end Mine
end
section
open PySem PySem.W PyProof.Rows
set_option maxRecDepth 100000
namespace Mine
/-- a method looked up -/
noncomputable def GetM (M : Model) (A : Around) (E : Value → Shared → Prop) (name : Str) (ov : Value) (Q : Value × List Value → Shared → Prop) (s : Shared) : Prop := ∀ pl, wpAny M A (getMethod ov name pl) Q E s
section
variable {M : Model} {env : Env} {s : Shared} {A : Around} {E : Value → Shared → Prop}
theorem Call_m {o : Expr} {name : Str} {apos pos : Pos} {args : List Expr} {kws : List Keyword} {Q : Value → Shared → Prop}
    (h : wpAny M A (eval o env) (fun ov s₁ => GetM M A E name ov (fun p s₂ => wpAny M A (callWith pos p.1 p.2 (backTo pos (starEach args env)) (backToKw pos (keywordEach kws env))) Q E s₂) s₁) E s)
    (hbase : attributeBase o name env (eval o env) = eval o env) (hform : methodCallForm (args.length + kws.length) (backTo pos (starEach args env)) (backToKw pos (keywordEach kws env)) = true) (hline : (apos.endLine == pos.line) = true) :
    wpAny M A (eval (.Call (.Attribute o name apos) args kws pos) env) Q E s := by
  rw [arm_eval_Call, hbase]
  refine wpAny_bind (wpAny_mono h (fun ov s₁ h₁ => wpAny_bind (wpAny_standAt ?_)) fun _ _ e => e)
  have hpos : methodCallPos true o env apos pos = pure pos := by unfold methodCallPos; simp [hline]
  unfold methodCall
  rw [hform]
  exact wpAny_bind (wpAny_holding (wpAny_mono (h₁ _) (fun p s₂ h₂ => wpAny_bind (wpAny_of_eq hpos h₂)) fun _ _ e => e))
theorem getM_builtin {name : Str} {ov : Value} {Q : Value × List Value → Shared → Prop} {T id : String} (pa : PlainAttrs T) (slot : Slot T name id) (hty : typeOf (.builtin id) = pure (.type "method_descriptor")) (hT : s.TypeIs ov T)
    (hd : ∀ a, ov = .ref a → ∃ o, s.heap.get? a = some o ∧ o.dict = none) (h : Q (.builtin id, [ov]) s) : GetM M A E name ov Q s := fun _ => getMethod_builtin hT pa slot hty hd h
theorem getM_str {name : Str} {x : Str} {t : Tok} {Q : Value × List Value → Shared → Prop} {id : String} (slot : Slot "str" name id) (hty : typeOf (.builtin id) = pure (.type "method_descriptor")) (h : Q (.builtin id, [.str x t]) s) : GetM M A E name (.str x t) Q s :=
  getM_builtin F.plainAttrs_str slot hty (typeIs_str _ _ _) (fun _ e => nomatch e) h
theorem callWith_bi0 {pos : Pos} {id : String} {first : List Value} {Q : Value → Shared → Prop}
    (h : wpAny M A (call (.builtin id) first) Q E s) : wpAny M A (callWith pos (.builtin id) first (backTo pos (starEach [] env)) (backToKw pos (keywordEach [] env))) Q E s :=
  Calls.callWith_builtin rfl (PySem.evalArgs_none (by rw [List.append_nil]; exact h))
theorem callWith_bi {pos : Pos} {id : String} {first : List Value} {e : Expr} {rest : List Expr} {Q : Value → Shared → Prop}
    (h : wpAny M A (spliced (backTo pos (starEach (e :: rest) env))) (fun vs s₁ => wpAny M A (call (.builtin id) (first ++ vs)) Q E s₁) E s)
    (he : starEach (e :: rest) env = (false, eval e env) :: starEach rest env)
    (hplain : (backTo pos (starEach rest env)).any (·.1) = false) :
    wpAny M A (callWith pos (.builtin id) first (backTo pos (starEach (e :: rest) env)) (backToKw pos (keywordEach [] env))) Q E s := by
  rw [he] at h ⊢
  exact Calls.callWith_builtin (by show (false || (backTo pos (starEach rest env)).any (·.1)) = false; rw [hplain]; rfl) (Calls.evalArgs_plain h)
end

section
variable {W : Wd} {G : Gens} {env : Env} {loc loc' : Loc} {nw nw' : Ledger} {s : Shared} {A : Around} {E : Value → Shared → Prop}
theorem Sta.getM_list {name : Str} {a : Addr} {xs : List Value} {Q : Value × List Value → Shared → Prop} {id : String} (S : Sta W G env loc nw s) (m : (a, IsLst xs) ∈ nw) (slot : Slot "list" name id) (hty : typeOf (.builtin id) = pure (.type "method_descriptor")) (h : Q (.builtin id, [.ref a]) s) :
    GetM (model W.prog W.w) A E name (.ref a) Q s := by
  obtain ⟨n, hl⟩ := S.isL m
  exact getM_builtin F.plainAttrs_list slot hty ⟨_, hl, rfl⟩ (fun b e => by cases e; exact ⟨_, hl, rfl⟩) h
theorem IsL_set {h : Heap} {a : Addr} {xs ys : List Value} {n : Nat} (hl : IsL h a xs.toArray n) (f : Array Value → Array Value) (e : f xs.toArray = ys.toArray) : ∃ o, (h.update a (Obj.mapSeq f)).get? a = some o ∧ IsLst ys o := by
  refine ⟨_, IsL.update hl f, ?_⟩
  rw [e]; exact ⟨_, rfl⟩
theorem Sta.setL {a : Addr} {xs ys : List Value} {n : Nat} (S : Sta W G env loc nw s) (hl : IsL s.heap a xs.toArray n) (f : Array Value → Array Value) (e : f xs.toArray = ys.toArray) (U : Upd a (IsLst xs) (IsLst ys) nw nw') (t : Nat) :
    Sta W G env loc nw' { s with heap := s.heap.update a (Obj.mapSeq f), toks := t } := by
  obtain ⟨o, ho, hc⟩ := IsL_set hl f e
  exact S.set U (fun b o hb e => ((Heap.SameBut.update s.heap a _).2 b hb).trans e) ho hc t
theorem Sta.append {a : Addr} {xs : List Value} {v : Value} {Q : Value → Shared → Prop} (S : Sta W G env loc nw s) (U : Upd a (IsLst xs) (IsLst (xs ++ [v])) nw nw') (hz : xs.length ≤ sizeLine) (h : ∀ s', Sta W G env loc nw' s' → Q .none s') :
    wpAny (model W.prog W.w) A (call (.builtin "list.append") [.ref a, v]) Q E s := by
  obtain ⟨n, hl⟩ := S.isL U.mem
  exact call_meets F.slot_list_append ⟨_, hl, rfl⟩ F.entry_list_append (F.args_list_append_2 _ _) (list_append a xs.toArray n v (by simpa using hz)) ⟨hl, h _ (S.setL hl _ (by simp) U _)⟩
theorem Sta.pop {a : Addr} {xs : List Value} {v : Value} {Q : Value → Shared → Prop} (S : Sta W G env loc nw s) (U : Upd a (IsLst (xs ++ [v])) (IsLst xs) nw nw') (hz : xs.length < sizeLine) (h : ∀ s', Sta W G env loc nw' s' → Q v s') :
    wpAny (model W.prog W.w) A (call (.builtin "list.pop") [.ref a]) Q E s := by
  obtain ⟨n, hl⟩ := S.isL U.mem
  refine call_meets F.slot_list_pop ⟨_, hl, rfl⟩ F.entry_list_pop (F.args_list_pop_1 _) (MeetsSeq.list_pop_last a (xs ++ [v]).toArray n v (by simp) (by simp; omega)) ⟨hl, h _ (S.setL hl _ ?_ U _)⟩
  simp [Array.eraseIdxIfInBounds, List.eraseIdx_append_of_length_le]
theorem Sta.len {a : Addr} {xs : List Value} {Q : Value → Shared → Prop} (S : Sta W G env loc nw s) (m : (a, IsLst xs) ∈ nw) (hz : xs.length ≤ sizeLine) (h : ∀ t s', Sta W G env loc nw s' → Q (.int xs.length t) s') :
    wpAny (model W.prog W.w) A (call (.builtin "len") [.ref a]) Q E s := by
  have q := h (s.toks + 1) _ (S.toks (s.toks + 1 + 1))
  refine len_list (S.isList m) ?_ ?_
  · rw [sizeLine_eq] at hz; simp; omega
  · simpa using q
theorem Sta.newList {vs : List Value} {Q : Value → Shared → Prop} {M : Model} (S : Sta W G env loc nw s) (hz : vs.length ≤ sizeLine) (h : ∀ a s', Sta W G env loc ((a, IsLst vs) :: nw) s' → Q (.ref a) s') : wpAny M A (newList vs) Q E s :=
  wpAny_newObj_type (h _ _ (S.new (c := IsLst vs) rfl ⟨0, rfl⟩ s.toks)) (by show vs.toArray.size ≤ sizeLine; rw [List.size_toArray]; exact hz)
theorem Sta.newTuple {vs : List Value} {Q : Value → Shared → Prop} {M : Model} (S : Sta W G env loc nw s) (hz : vs.length ≤ sizeLine) (h : ∀ a s', Sta W G env loc ((a, IsTpl vs) :: nw) s' → Q (.ref a) s') : wpAny M A (newTuple vs) Q E s :=
  wpAny_newObj_type (h _ _ (S.new (c := IsTpl vs) rfl ⟨0, rfl⟩ s.toks)) (by show vs.toArray.size ≤ sizeLine; rw [List.size_toArray]; exact hz)
end
end Mine
end
section
open PySem PySem.W PyProof.Rows
set_option maxRecDepth 100000
namespace Mine
noncomputable def cnt (vals : Loc) : Nat := (vals.filter fun p => p.2.isSome).length
/-- a dict of str keys: an instance's own -/
noncomputable def IsAttrs (vals : Loc) : Cell := fun o => (vals.map Prod.fst).Nodup ∧ o.cls = .type "dict" ∧ ∃ es ep, o.data = .dict es ep ∧ StrKeys es ∧ (∀ name, nsFind es name = lk vals name) ∧ es.size = cnt vals
noncomputable def IsInst (C d : Addr) : Cell := fun o => o = instObj C d

theorem lookIn_of {name : Str} {o : Obj} {es ep} {r : Option Value} (hd : o.data = .dict es ep) (hk : StrKeys es) (hf : nsFind es name = r) : lookIn name o = some r := by
  unfold lookIn
  rw [hd]
  dsimp only
  unfold nsFind findBy at hf
  rw [← Array.find?_toList] at hf
  cases q : es.toList.find? (fun e => e.key.isStr name) with
  | some e => rw [q] at hf; rw [← hf]; rfl
  | none =>
    rw [q] at hf
    rw [← hf]
    have : es.toList.any (·.refKey) = false := by
      rw [List.any_eq_false]
      intro e he
      obtain ⟨n, t, h⟩ := hk e (Array.mem_toList_iff.mp he)
      simp [DictEntry.refKey, h]
    simp [this]

/-- what is asked of a class of the text -/
structure Cl (K : Frag) (C : Addr) (names : List Str) : Prop where
  ga : findIn K (.ref C) "__getattribute__" = some (some (.builtin "object.__getattribute__"))
  gh : findIn K (.ref C) "__getattr__" = some none
  sa : findIn K (.ref C) "__setattr__" = some (some (.builtin "object.__setattr__"))
  plain : plainOver K C = true
  dict : hasDictIn K C = true
  own : ∀ n ∈ names, findIn K (.ref C) n = some none

section
variable {W : Wd} {G : Gens} {env : Env} {loc loc' : Loc} {nw nw' : Ledger} {s : Shared} {A : Around} {E : Value → Shared → Prop} {C x d : Addr} {names : List Str} {vals vals' : Loc}
theorem Sta.inst (S : Sta W G env loc nw s) (mx : (x, IsInst C d) ∈ nw) (md : (d, IsAttrs vals) ∈ nw) : ∃ od, InstAt s.heap x (instObj C d) C (some od) ∧ IsAttrs vals od := by
  obtain ⟨o, ho, rfl⟩ := S.get mx
  obtain ⟨od, hod, hc⟩ := S.get md
  exact ⟨od, ⟨ho, rfl, rfl, hod⟩, hc⟩
theorem Sta.getattr {name : Str} {v : Value} {expr : Bool} {Q : Value → Shared → Prop} (S : Sta W G env loc nw s) (c : Cl W.K C names) (mx : (x, IsInst C d) ∈ nw) (md : (d, IsAttrs vals) ∈ nw) (hk : vals.map Prod.fst = names) (hv : (name, some v) ∈ vals) (hh : handedIn v = true)
    (h : ∀ s', Sta W G env loc nw s' → Q v s') : wpAny (model W.prog W.w) A (getAttr (.ref x) name expr) Q E s := by
  obtain ⟨od, I, nd, _, es, ep, hd, hsk, hf, _⟩ := S.inst mx md
  have hn : findIn W.K (.ref C) name = some none := c.own _ (by rw [← hk]; exact List.mem_map.mpr ⟨_, hv, rfl⟩)
  exact get_value S.kin I c.ga (findObj_own c.dict hn rfl (lookIn_of hd hsk ((hf name).trans (lk_of_mem nd hv)))) hh (h _ (S.toks _))
theorem Sta.getM_inst {name : Str} {f : Addr} {Q : Value × List Value → Shared → Prop} (S : Sta W G env loc nw s) (c : Cl W.K C names) (mx : (x, IsInst C d) ∈ nw) (md : (d, IsAttrs vals) ∈ nw) (hk : vals.map Prod.fst = names) (hn : name ∉ names)
    (hf : findIn W.K (.ref C) name = some (some (.ref f))) (ht : typeIn W.K (.ref f) = some (.type "function")) (h : Q (.ref f, [.ref x]) s) : GetM (model W.prog W.w) A E name (.ref x) Q s := fun pl => by
  obtain ⟨od, I, nd, _, es, ep, hd, hsk, hl, _⟩ := S.inst mx md
  have hno : lk vals name = none := by
    unfold lk
    rw [List.lookup_eq_none_iff.mpr]
    · rfl
    · intro p hp
      rw [bne_iff_ne]
      exact fun e => hn (by rw [← hk, e]; exact List.mem_map.mpr ⟨p, hp, rfl⟩)
  exact method_fn S.kin I c.ga c.gh hf ht (by show (lookIn name od).map _ = _; rw [lookIn_of hd hsk ((hl name).trans hno)]; rfl) h
theorem Put.cnt {y : Str} {v : Value} {l l' : Loc} (h : Put y (some v) l l') : (l.map Prod.fst).Nodup → cnt l' = if (lk l y).isSome then cnt l else cnt l + 1 := by
  induction h with
  | @head u r =>
    intro _
    unfold Mine.cnt lk
    rw [List.lookup_cons]
    cases u <;> simp
  | @tail p r r' h ih =>
    intro nd
    rw [List.map_cons, List.nodup_cons] at nd
    have ih := ih nd.2
    have hne : y ≠ p.1 := fun e => nd.1 (e ▸ h.mem)
    have e1 : lk (p :: r) y = lk r y := by unfold lk; rw [List.lookup_cons, beq_eq_false_iff_ne.mpr hne]
    rw [e1]
    unfold Mine.cnt at ih ⊢
    cases q : p.2.isSome <;> simp only [List.filter_cons, q, if_true, Bool.false_eq_true, if_false, List.length_cons] <;> rw [ih] <;> split <;> rfl
theorem putName_attrs {name : Str} {hsh : Int} {t : Tok} {v : Value} {o : Obj} (h : IsAttrs vals o) (P : Put name (some v) vals vals') :
    IsAttrs vals' (Obj.putName name hsh (.str name t) v o) ∧ (Obj.putName name hsh (.str name t) v o).isFreed = false ∧ ∃ es ep, (Obj.putName name hsh (.str name t) v o).data = .dict es ep ∧ es.size ≤ vals.length := by
  obtain ⟨nd, hcl, es, ep, hd, hk, hf, hz⟩ := h
  obtain ⟨c, di, dt, sl⟩ := o
  dsimp only at hd hcl
  subst hd hcl
  have cz : cnt vals' ≤ vals.length := by
    have : vals'.length = vals.length := by have := congrArg List.length P.keys; simpa using this
    rw [← this]; exact List.length_filter_le _ _
  have hc := P.cnt nd
  rw [Obj.putName_eq]
  unfold Obj.putNameByArray
  dsimp only
  cases hi : es.findIdx? (·.key.isStr name) with
  | some i =>
    have hs : (lk vals name).isSome = true := by
      rw [← hf]; unfold nsFind; rw [findBy_of_findIdx?, hi]
      have := Array.findIdx?_eq_some_iff_getElem.mp hi
      obtain ⟨hlt, _⟩ := this
      simp [hlt]
    rw [if_pos hs] at hc
    refine ⟨⟨by rw [P.keys]; exact nd, rfl, _, _, rfl, hk.modify _ _, fun y => ?_, by simp [hz, hc]⟩, rfl, _, _, rfl, by simp [hz, ← hc]; exact cz⟩
    rw [P.look nd, ← hf]; exact findBy_modify (fun n v => v.isStr n) Value.isStr_inj es name y v i hi
  | none =>
    have hs : (lk vals name).isSome = false := by
      rw [← hf]; unfold nsFind; rw [findBy_of_findIdx?, hi]; rfl
    rw [if_neg (by rw [hs]; decide)] at hc
    refine ⟨⟨by rw [P.keys]; exact nd, rfl, _, _, rfl, hk.push _ _ _ _, fun y => ?_, by simp [hz, hc]⟩, rfl, _, _, rfl, by simp [hz, ← hc]; exact cz⟩
    rw [P.look nd, ← hf]
    exact findBy_push (fun n v => v.isStr n) es name y _ _ v (fun y => by
      show (name == y) = decide (y = name)
      by_cases h : y = name
      · subst h; simp
      · have : ¬ name = y := fun e => h e.symm
        simp [h, this]) hi
theorem Sta.setattr {name : Str} {v : Value} {Q : Unit → Shared → Prop} (S : Sta W G env loc nw s) (c : Cl W.K C names) (mx : (x, IsInst C d) ∈ nw) (U : Upd d (IsAttrs vals) (IsAttrs vals') nw nw') (hk : vals.map Prod.fst = names) (P : Put name (some v) vals vals') (hz : names.length ≤ 1000)
    (h : ∀ s', Sta W G env loc nw' s' → Q () s') : wpAny (model W.prog W.w) A (setAttr (.ref x) name v) Q E s := by
  obtain ⟨od, I, ha⟩ := S.inst mx U.mem
  have hn : findIn W.K (.ref C) name = some none := c.own _ (by rw [← hk]; exact P.mem)
  have ht : takerIn W.K C name = some none := by unfold takerIn; rw [hn]; rfl
  refine set_plain S.kin I c.sa ?_
  have S1 := S.toks (s.toks + 1)
  refine osa_open (s := { s with toks := s.toks + 1 }) S1.kin I c.plain ht fun b => ?_
  obtain ⟨cd, hc, hd'⟩ := any_some c.dict
  obtain ⟨hx, -, -, hdx⟩ := I
  have hdx' : s.heap.get? d = some od := hdx
  obtain ⟨A1, A2, es', ep', A3, A4⟩ := putName_attrs (hsh := PyData.keyHash W.w.params name) (t := s.toks + 1) ha P
  obtain ⟨nd, hcl, es, ep, hd, hsk, hf, hsz⟩ := ha
  refine wpAny_bind (wpAny_pure (wpAny_bind (wpAny_bind (wpAny_loadPart hx (wpAny_bind ((looks_clsIn S1.kin hc).here ?_))))))
  rw [hd']
  refine wpAny_pure (a := some d) (wpAny_bind (wpAny_pure (wpAny_bind ?_)))
  unfold nsSet
  refine wpAny_bind (wpAny_bind (wpAny_askSetting (wpAny_pure (wpAny_bind (wpAny_mkText (wpAny_bind (wpAny_loadPart hdx' ?_)))))))
  rw [hd]
  dsimp only
  have hany : es.any (·.refKey) = false := by
    rw [Array.any_eq_false']; intro e he; obtain ⟨n, t, h⟩ := hsk e he; simp [DictEntry.refKey, h]
  rw [aRefKeyMayBeTheName_at, hany, Bool.and_false]
  refine wpAny_updatePart hdx' ?_
  have D' := Heap.get?_update_self (Obj.putName name (PyData.keyHash W.w.params name) (.str name (s.toks + 1)) v) hdx' A2
  refine wpAny_bind (wpAny_lookBehind D' (by rw [A3]; exact pastItsLine_dict (by rw [sizeLine_eq]; have : vals.length = names.length := by rw [← hk]; simp
                                                                                 omega)) ?_)
  exact wpAny_pure (h _ (S.set U (fun b o hb e => ((Heap.SameBut.update s.heap d _).2 b hb).trans e) D' A1 _))
end
end Mine
end
section
open PySem PySem.W PyProof.Rows PySem.W.X
set_option maxRecDepth 100000
namespace Mine
section
variable {prog : Program} {w : World} {A : Around} {c : Code} {fs : List Frame} {P : End → Shared → Prop} {s : Shared}
theorem sx_wrap {α : Type} {m : Sem α} {K : α → Sem Fin} {H : Value → Sem Fin} {gd lv} (h : wpAny (model prog w) (A.over c fs) m (fun a s' => SegX (model prog w) A c (K a) fs s' P) (fun x s' => SegX (model prog w) A c (H x) fs s' P) s) :
    SegX (model prog w) A c (m.wrap K H gd lv) fs s P := by
  rintro Γ p rfl hΓ
  obtain ⟨e, s', hr, hq⟩ := runs_wrap_of_wp (Φ := fun e s' => e.quiet = true ∧ P e s') K H gd lv m (h (Γ.over fs) p (hΓ.over fs)) (fun a p' s' h' => h' Γ p' rfl hΓ) (fun x p' s' h' => h' Γ p' rfl hΓ)
  exact ⟨e, s', hr, hq⟩
theorem wrap_bind {α β : Type} (m : Sem α) (f : α → Sem β) {K : β → Sem Fin} {H : Value → Sem Fin} {gd lv} : (m >>= f).wrap K H gd lv = m.wrap (fun a => (f a).wrap K H gd lv) H gd lv := by
  rw [Sem.bind_eq_wrap', Sem.wrap_wrap]; rfl
theorem wrap_onRaise {α : Type} (m : Sem α) (h : Value → Sem Unit) {K : α → Sem Fin} {H : Value → Sem Fin} {gd lv} : (m.onRaise h).wrap K H gd lv = m.wrap K (fun e => ((h e).bind fun _ => (.raise e : Sem α)).wrap K H gd lv) gd lv := by
  rw [Sem.onRaise_eq_wrap, Sem.wrap_wrap]; rfl
theorem sx_bind {α β : Type} {m : Sem α} {f : α → Sem β} {K : β → Sem Fin} {H : Value → Sem Fin} {gd lv} (h : SegX (model prog w) A c (m.wrap (fun a => (f a).wrap K H gd lv) H gd lv) fs s P) : SegX (model prog w) A c ((m >>= f).wrap K H gd lv) fs s P := by
  rw [wrap_bind]; exact h
theorem sx_then {α β : Type} {m : Sem α} {f : α → Sem β} {K : β → Sem Fin} {H : Value → Sem Fin} {gd lv} (h : wpAny (model prog w) (A.over c fs) m (fun a s' => SegX (model prog w) A c ((f a).wrap K H gd lv) fs s' P) (fun x s' => SegX (model prog w) A c (H x) fs s' P) s) : SegX (model prog w) A c ((m >>= f).wrap K H gd lv) fs s P :=
  sx_bind (sx_wrap h)
theorem sx_onRaise {α : Type} {m : Sem α} {h : Value → Sem Unit} {K : α → Sem Fin} {H : Value → Sem Fin} {gd lv} (x : SegX (model prog w) A c (m.wrap K (fun e => ((h e).bind fun _ => (.raise e : Sem α)).wrap K H gd lv) gd lv) fs s P) : SegX (model prog w) A c ((m.onRaise h).wrap K H gd lv) fs s P := by
  rw [wrap_onRaise]; exact x
theorem sx_top {t : Sem Fin} (h : SegX (model prog w) A c (t.wrap .pure .raise id id) fs s P) : SegX (model prog w) A c t fs s P := by
  have : ∀ t : Sem Fin, t.wrap .pure .raise id id = t := fun t => by induction t <;> simp only [Sem.wrap, id, *]
  rw [this] at h; exact h
theorem sx_topOn {t : Sem Fin} {h : Value → Sem Unit} (x : SegX (model prog w) A c (t.wrap .pure (fun e => (h e).bind fun _ => .raise e) id id) fs s P) : SegX (model prog w) A c (t.onRaise h) fs s P := by
  rw [Sem.onRaise_eq_wrap]; exact x
theorem den_builtin {id : String} {args : Args} {b : Builtin} (h : entryFor table id = some b) : denote table (.builtin id args) = b args := by simp only [denote, h]
end
theorem entry_yf : entryFor table "proto.yield_from" = some Builtin.«proto.yield_from» := entryFor_of_tree (by kernel_rfl)
theorem li_no_close : typeLookup (.type "list_iterator") "close" = pure none := by rw [typeLookup_type, builtinLookup_eq_fast]; kernel_rfl
noncomputable abbrev yfCode (it : Addr) : Code := .builtin "proto.yield_from" ⟨[.ref it, .bool false, .none], []⟩
section
variable {prog : Program} {w : World} {A : Around} {fs : List Frame} {P : End → Shared → Prop} {s : Shared}
theorem yf_item {it l : Addr} {i : Nat} {xs : Array Value} {v : Value} (hit : s.heap.IsListIter it l i) (hl : s.heap.IsList l xs) (hx : xs[i]? = some v) (hfs : splitAtGen fs = none) (hfg : fs.any Frame.guarded = false)
    (h : ∀ k lv p h', h'.IsListIter it l (i + 1) → Heap.SameBut it s.heap h' →
      (∀ A' fs' s' P', s'.TypeIs (.ref it) "list_iterator" → SegX (model prog w) A' (yfCode it) (denote table (yfCode it)) fs' s' P' → SegX (model prog w) A' (yfCode it) (k (.send .none)) fs' s' P') →
      P (.susp v false lv k (yfCode it) p fs) { s with heap := h' }) :
    SegX (model prog w) A (yfCode it) (denote table (yfCode it)) fs s P := by
  rw [den_builtin entry_yf]
  unfold Builtin.«proto.yield_from»
  refine sx_top ?_
  refine sx_then (wpAny_pure ?_)
  obtain ⟨o, ho, hc, hd⟩ := id hit
  obtain ⟨ol, hol, _, nl, hdl⟩ := hl
  refine sx_then (wpAny_attempt (wpAny_holding ?_))
  simp only [Bool.false_eq_true, if_false, beq_self_eq_true, if_true]
  refine wpAny_bind (wpAny_rule (wpAny_bind (wpAny_callSpecial?_slot (name := Str.ofString "__next__") hit.typeIs slot_listiter_next
    (wpAny_call_entry slot_listiter_next hit.typeIs entry_listiter_next ?_ (args_listiter_next _)))))
  show wpAny _ _ (field (.ref it) 0 >>= _) _ _ s
  refine wpAny_bind (wpAny_field ho hd (x := .ref l) rfl ?_)
  show wpAny _ _ (if (Value.ref l == Value.none) = true then _ else _) _ _ s
  rw [if_neg (show ¬ ((Value.ref l == Value.none) = true) from Bool.false_ne_true)]
  show wpAny _ _ (field (.ref it) 1 >>= _) _ _ s
  refine wpAny_bind (wpAny_field ho hd (x := .int i 0) rfl ?_)
  show wpAny _ _ (seqItems? (.ref l) >>= _) _ _ s
  refine wpAny_bind (wpAny_seqItems hol hdl ?_)
  simp only [Int.toNat_natCast, hx]
  refine wpAny_bind (wpAny_setField ho hd (by simp) (wpAny_pure ⟨v, rfl, wpAny_pure ?_⟩))
  have hs' := Heap.SameBut.update s.heap it (Obj.mapFields fun vs => vs.setIfInBounds 1 (rawInt ((i : Int) + 1)))
  have hit' : (s.heap.update it (Obj.mapFields fun vs => vs.setIfInBounds 1 (rawInt ((i : Int) + 1)))).IsListIter it l (i + 1) :=
    ⟨_, Heap.get?_update_self _ ho (Obj.isFreed_of_fields (Obj.data_mapFields hd _)), (Obj.cls_mapFields ..).trans hc, by rw [Obj.data_mapFields hd]; simp [rawInt]⟩
  generalize (s.heap.update it (Obj.mapFields fun vs => vs.setIfInBounds 1 (rawInt ((i : Int) + 1)))) = h' at hs' hit' ⊢
  have hT' : ({ s with heap := h' } : Shared).TypeIs (.ref it) "list_iterator" := hit'.typeIs (s := { s with heap := h' })
  obtain ⟨o', ho', hc', hd'⟩ := id hit'
  refine sx_then (wpAny_typeOf hT' ?_)
  refine sx_then (wpAny_of_eq li_no_close ?_)
  refine sx_then (wpAny_pure ?_)
  have slept : ∀ b (s' : Shared), s'.TypeIs (.ref it) "list_iterator" → ∀ (A' : Around) (Q : Unit → Shared → Prop) (E : Value → Shared → Prop), Q () s' → wpAny (model prog w) A' (Builtin.Generator.sleptOver (.ref it) b) Q E s' := fun b s' hT A' Q E hq => by
    obtain ⟨o₁, ho₁, hc₁⟩ := hT
    unfold Builtin.Generator.sleptOver
    refine wpAny_bind (wpAny_load ho₁ ?_)
    rw [hc₁]
    exact wpAny_pure hq
  refine sx_then (slept _ _ hT' _ _ _ ?_)
  refine s_yield _ _ _ _ _ _ _ _ _ _ hfs hfg fun p => ?_
  refine h _ _ p h' hit' hs' fun A' fs' s' P' hT hseg => ?_
  refine sx_then (wpAny_pure ?_)
  refine sx_then (slept _ _ hT _ _ _ ?_)
  refine sx_then (wpAny_of_eq (a := Value.none) rfl ?_)
  exact s_again _ _ _ _ _ _ _ _ (Code.quiet_builtin _ (by decide +kernel)) hseg
theorem yf_end {it l : Addr} {i : Nat} {xs : Array Value} (hA : (A.over (yfCode it) fs).handled = none) (hit : s.heap.IsListIter it l i) (hl : s.heap.IsList l xs) (hx : xs[i]? = none)
    (h : ∀ h', Heap.ExtBut it s.heap h' → SegX (model prog w) A (yfCode it) (leafOf (.ok (.ret .none))) fs { s with heap := h' } P) :
    SegX (model prog w) A (yfCode it) (denote table (yfCode it)) fs s P := by
  rw [den_builtin entry_yf]
  unfold Builtin.«proto.yield_from»
  refine sx_top ?_
  refine sx_then (wpAny_pure ?_)
  obtain ⟨o, ho, hc, hd⟩ := id hit
  obtain ⟨ol, hol, _, nl, hdl⟩ := hl
  refine sx_then (wpAny_attempt (wpAny_holding ?_))
  simp only [Bool.false_eq_true, if_false, beq_self_eq_true, if_true]
  refine wpAny_bind (wpAny_rule (wpAny_bind (wpAny_callSpecial?_slot (name := Str.ofString "__next__") hit.typeIs slot_listiter_next
    (wpAny_call_entry slot_listiter_next hit.typeIs entry_listiter_next ?_ (args_listiter_next _)))))
  show wpAny _ _ (field (.ref it) 0 >>= _) _ _ s
  refine wpAny_bind (wpAny_field ho hd (x := .ref l) rfl ?_)
  show wpAny _ _ (if (Value.ref l == Value.none) = true then _ else _) _ _ s
  rw [if_neg (show ¬ ((Value.ref l == Value.none) = true) from Bool.false_ne_true)]
  show wpAny _ _ (field (.ref it) 1 >>= _) _ _ s
  refine wpAny_bind (wpAny_field ho hd (x := .int i 0) rfl ?_)
  show wpAny _ _ (seqItems? (.ref l) >>= _) _ _ s
  refine wpAny_bind (wpAny_seqItems hol hdl ?_)
  simp only [Int.toNat_natCast, hx]
  refine wpAny_bind (wpAny_rule (wpAny_bind (wpAny_setField ho hd (by simp) ?_)))
  show wpAny _ _ (newExc (.type "StopIteration") [] >>= _) _ _ _
  refine wpAny_bind ?_
  simp only [newExc, newTuple]
  refine wpAny_bind (wpAny_newObj_type ?_ (by size_fits))
  refine wpAny_bind (m := firstArgMember _ _) (wpAny_of_eq (a := Value.none) (by first | rfl | (simp only [firstArgMember]; rfl)) ?_)
  refine wpAny_newObj_type ?_ (by size_fits)
  simp only [raiseNew]
  refine wpAny_bind (wpAny_handled ?_)
  rw [show (A.over (yfCode it) fs).in1.handled = none from hA]
  refine wpAny_bind (wpAny_pure (wpAny_throw ?_))
  have hs' := (((Heap.SameBut.update s.heap it (Obj.mapFields fun vs => vs.setIfInBounds 0 Value.none)).extBut.push { cls := .type "tuple", data := .seq #[] }).push
    { cls := .type "StopIteration", data := .fields (#[.ref (s.heap.update it (Obj.mapFields fun vs => vs.setIfInBounds 0 Value.none)).objs.size, .none, .none, .none, .bool false, .none] ++ ownMembersOf (.type "StopIteration") []) })
  have he := Heap.get?_push_size ((s.heap.update it (Obj.mapFields fun vs => vs.setIfInBounds 0 Value.none)).push { cls := .type "tuple", data := .seq #[] })
    (o := { cls := .type "StopIteration", data := .fields (#[.ref (s.heap.update it (Obj.mapFields fun vs => vs.setIfInBounds 0 Value.none)).objs.size, .none, .none, .none, .bool false, .none] ++ ownMembersOf (.type "StopIteration") []) }) rfl
  generalize (((s.heap.update it (Obj.mapFields fun vs => vs.setIfInBounds 0 Value.none)).push { cls := .type "tuple", data := .seq #[] }).push
    { cls := .type "StopIteration", data := .fields (#[.ref (s.heap.update it (Obj.mapFields fun vs => vs.setIfInBounds 0 Value.none)).objs.size, .none, .none, .none, .bool false, .none] ++ ownMembersOf (.type "StopIteration") []) }) = h' at hs' he ⊢
  generalize ((s.heap.update it (Obj.mapFields fun vs => vs.setIfInBounds 0 Value.none)).push { cls := .type "tuple", data := .seq #[] }).objs.size = e at he ⊢
  have hT : ({ s with heap := h' } : Shared).TypeIs (.ref e) "StopIteration" := ⟨_, he, rfl⟩
  refine sx_then ?_
  unfold Builtin.Generator.endsTheTurnAsAValue Builtin.Generator.isStopAndMetaclass
  refine wpAny_bind (wpAny_bind (wpAny_typeOf hT (wpAny_bind (wpAny_of_eq isSubtype_stop (wpAny_bind (wpAny_of_eq (a := .type "type") (by kernel_rfl) (wpAny_pure (wpAny_pure ?_))))))))
  refine sx_then (wpAny_rule (sx_then (wpAny_field he rfl (x := .none) (by kernel_rfl) ?_)))
  exact h _ hs'
end
end Mine
end
section
open PySem PySem.W PyProof.Rows PySem.W.X
set_option maxRecDepth 100000
namespace Mine
structure Aok (k : Nat) (A : Around) : Prop where
  handled : A.handled = none
  depth : A.depth + k < recursionLimit
  units : A.units + 8 * k < cLine
theorem Aok.le {k j : Nat} {A : Around} (h : Aok k A) (e : j ≤ k) : Aok j A := ⟨h.handled, by have := h.depth; omega, by have := h.units; omega⟩
theorem Aok.in1 {k : Nat} {A : Around} (h : Aok (k + 1) A) : Aok k A.in1 := ⟨h.handled, by have := h.depth; show A.depth + k < _; omega, by have := h.units; show A.units + 1 + 8 * k < _; omega⟩
theorem Aok.deeper {k : Nat} {A : Around} {env : Env} (h : Aok (k + 1) A) : Aok k (A.deeper env) := ⟨h.handled, by have := h.depth; show A.depth + 1 + k < _; omega, by have := h.units; show A.units + 3 + 8 * k < _; omega⟩
theorem Aok.room {k : Nat} {A : Around} (h : Aok k A) : A.depth < recursionLimit := by have := h.depth; omega

/-- a state without a frame -/
structure St0 (W : Wd) (G : Gens) (nw : Ledger) (s : Shared) : Prop where
  ok : W.Ok
  led : Led W.B nw s.heap
  bare : AllBare s.gens
  os : s.os = W.os
  gens : ∀ p ∈ G, s.gens[p.1]? = some p.2
  gnd : (G.map Prod.fst).Nodup

noncomputable def Wake (W : Wd) (A : Around) (gs : GenState) (s : Shared) (P : End → Shared → Prop) : Prop := match gs with
  | .fresh c => SegX (model W.prog W.w) A c (denote table c) [] s P
  | .suspended k _ c _ fs _ => SegX (model W.prog W.w) A c (k (.send .none)) fs s P
  | _ => False

/-- a generator that will hand out vs, then end; own: its private things, sh: what it reads -/
noncomputable def GoodGen (W : Wd) (sh : Ledger) : List Value → GenState → Ledger → Prop
  | [], gs, own => ∀ A R GR s, Aok 6 A → St0 W GR (R ++ (sh ++ own)) s → Wake W A gs s (fun e s' => e = .ret (.ok (.ret .none)) ∧ St0 W GR (R ++ sh) s')
  | v :: vs, gs, own => ∀ A R GR s, Aok 6 A → St0 W GR (R ++ (sh ++ own)) s → Wake W A gs s (fun e s' => ∃ own', e.result = .yielded v ∧ St0 W GR (R ++ (sh ++ own')) s' ∧ GoodGen W sh vs e.genState own')

noncomputable def plainIt (o : Obj) : Bool := match o.cls with
  | .type n => !(["enumerate", "zip", "dict_itemiterator", "dict_reverseitemiterator", "odict_iterator", "itertools.zip_longest", "itertools.pairwise"].contains n)
  | _ => true
noncomputable def Typ (sh : Ledger) (it : Addr) (own : Ledger) : Prop := ∃ c, (it, c) ∈ sh ++ own ∧ ∀ o, c o → plainIt o = true
/-- an iterator that will hand out vs, then end -/
noncomputable def Yields (W : Wd) (sh : Ledger) (it : Addr) : List Value → Ledger → Gens → Prop
  | [], own, og => Typ sh it own ∧ (∀ A R GR s (Q : Option Value → Shared → Prop) E, Aok 7 A → St0 W (GR ++ og) (R ++ (sh ++ own)) s → (∀ s', St0 W GR (R ++ sh) s' → Q none s') → wpAny (model W.prog W.w) A (pyNext (.ref it)) Q E s)
  | v :: vs, own, og => Typ sh it own ∧ (∀ A R GR s (Q : Option Value → Shared → Prop) E, Aok 7 A → St0 W (GR ++ og) (R ++ (sh ++ own)) s → (∀ own' og' s', St0 W (GR ++ og') (R ++ (sh ++ own')) s' → Yields W sh it vs own' og' → Q (some v) s') →
      wpAny (model W.prog W.w) A (pyNext (.ref it)) Q E s)

noncomputable def IsGenO (g : Nat) : Cell := fun o => ∃ nm qn, o = { cls := .type "generator", data := .fields #[.int g 0, nm, qn] }
noncomputable def IsLI (l : Addr) (i : Nat) : Cell := fun o => o.cls = .type "list_iterator" ∧ o.data = .fields #[.ref l, .int i 0]
noncomputable def IsRI (l : Addr) (i : Int) : Cell := fun o => o.cls = .type "list_reverseiterator" ∧ o.data = .fields #[.ref l, rawInt i]

theorem SegX.withQuiet {M : Model} {A : Around} {c : Code} {t : Sem Fin} {fs : List Frame} {s : Shared} {P : End → Shared → Prop} (x : SegX M A c t fs s P) : SegX M A c t fs s (fun e s' => e.quiet = true ∧ P e s') := fun Γ p hc hΓ => by
  obtain ⟨e, s', hr, hq, hp⟩ := x Γ p hc hΓ
  exact ⟨e, s', hr, hq, hq, hp⟩
theorem Wake.mono {W : Wd} {A : Around} {gs : GenState} {s : Shared} {P P' : End → Shared → Prop} (x : Wake W A gs s P) (h : ∀ e s', e.quiet = true → P e s' → P' e s') : Wake W A gs s P' := by
  cases gs with
  | fresh c => exact SegX.mono (SegX.withQuiet x) fun e s' q => h e s' q.1 q.2
  | suspended k l c p fs cl => exact SegX.mono (SegX.withQuiet x) fun e s' q => h e s' q.1 q.2
  | running => exact x.elim
  | finished => exact x.elim

section
variable {W : Wd} {A : Around} {E : Value → Shared → Prop} {s : Shared}
theorem wake_resume {g : Nat} {gs : GenState} {l : List Value} {α : Type} {k : GenResult → Sem α} {Q : α → Shared → Prop} (hg : s.gens[g]? = some gs)
    (x : Wake W A gs (s.setGen g .running) (fun e s₁ => wpAny (model W.prog W.w) A (k e.result) Q E (s₁.setGen g e.genState))) :
    wpAny (model W.prog W.w) A (.resume g (.send .none) l k) Q E s := by
  intro Γ p hΓ
  cases gs with
  | fresh c => exact wake_any α W.prog W.w hg (.inl ⟨rfl, rfl, rfl, rfl⟩) (fun Γ => Γ.In A) (fun _ h => h) (SegX.mono x fun e s₁ h Γ p hC => h Γ p hC) Γ p hΓ
  | suspended k₀ l₀ c₀ p₀ fs₀ cl => exact wake_any α W.prog W.w hg (.inr ⟨k₀, l₀, p₀, cl, rfl, rfl⟩) (fun Γ => Γ.In A) (fun _ h => h) (SegX.mono x fun e s₁ h Γ p hC => h Γ p hC) Γ p hΓ
  | running => exact x.elim
  | finished => exact x.elim

theorem next_gen {a : Addr} {g : Nat} {gs : GenState} {Q : Option Value → Shared → Prop} (hA : Aok 7 A) (hl : s.heap.NoLimit) (hg : s.heap.IsGen a g) (hgs : s.gens[g]? = some gs)
    (x : Wake W A.in1 gs (s.setGen g .running) (fun e s₁ => (e = .ret (.ok (.ret .none)) ∧ ∀ h', (∀ b o, s₁.heap.get? b = some o → h'.get? b = some o) → Q none { s₁.setGen g .finished with heap := h' }) ∨ (∃ v, e.result = .yielded v ∧ Q (some v) (s₁.setGen g e.genState)))) :
    wpAny (model W.prog W.w) A (pyNext (.ref a)) Q E s := by
  unfold pyNext
  refine wpAny_bind (wpAny_attempt (wpAny_callSpecial?_slot (name := Str.ofString "__next__") hg.typeIs slot_gen_next
    (wpAny_call_entry slot_gen_next hg.typeIs entry_gen_next ?_ (args_gen_next _))))
  show wpAny _ _ (Builtin.Generator.genWake (.ref a) (.send .none)) _ _ s
  unfold Builtin.Generator.genWake
  refine wpAny_bind (wpAny_holding (wpAny_genNumber hg (wpAny_bind (wpAny_genState hgs ?_))))
  have hd : A.in1.depth < recursionLimit := by have := hA.depth; show A.depth < recursionLimit; omega
  cases gs with
  | running => exact x.elim
  | finished => exact x.elim
  | _ =>
    refine wpAny_bind (wpAny_roomToWake hl hd ?_)
    show wpAny _ _ (.resume g (.send .none) [] _) _ _ s
    refine wake_resume (W := W) hgs (Wake.mono x fun e s₁ hq he => ?_)
    rcases he with ⟨rfl, hQ⟩ | ⟨v, hv, hQ⟩
    · show wpAny _ _ (newExc (.type "StopIteration") [] >>= _) _ _ _
      refine wpAny_bind ?_
      simp only [newExc, newTuple]
      refine wpAny_bind (wpAny_newObj_type ?_ (by size_fits))
      refine wpAny_bind (m := firstArgMember _ _) (wpAny_of_eq (a := Value.none) (by first | rfl | (simp only [firstArgMember]; rfl)) ?_)
      refine wpAny_newObj_type ?_ (by size_fits)
      simp only [raiseNew]
      refine wpAny_bind (wpAny_bind (wpAny_handled ?_))
      rw [show A.in1.handled = none from hA.handled]
      refine wpAny_throw ?_
      refine wpAny_bind (wpAny_isInstance (T := "StopIteration") (b := true) ⟨_, Heap.get?_push_size _ rfl, rfl⟩ isSubtype_stop ?_)
      exact wpAny_pure (hQ _ fun b o hb => Heap.get?_push_of_some _ (Heap.get?_push_of_some _ hb))
    · rw [hv]
      exact wpAny_pure ⟨v, rfl, wpAny_pure hQ⟩

theorem setGen_gens (s : Shared) (g : Nat) (x : GenState) : (s.setGen g x).gens = s.gens.setIfInBounds g x := rfl
theorem bare_set {gens : Array GenState} {g : Nat} {x : GenState} (h : AllBare gens) (hx : x.bare = true) : AllBare (gens.setIfInBounds g x) := fun y hy => by
  rcases Array.mem_or_eq_of_mem_setIfInBounds hy with h1 | h1
  · exact h y h1
  · rw [h1]; exact hx

theorem run_state {GR : Gens} {nw nw' : Ledger} {g : Nat} {gs : GenState} (S : St0 W (GR ++ [(g, gs)]) nw s) (D : Led W.B nw' s.heap) : St0 W (GR ++ [(g, .running)]) nw' (s.setGen g .running) := by
  have hgs : s.gens[g]? = some gs := S.gens (g, gs) (by simp)
  refine ⟨S.ok, D, bare_set S.bare rfl, S.os, fun p hp => ?_, by have := S.gnd; rw [List.map_append] at this ⊢; exact this⟩
  rw [setGen_gens]
  rcases List.mem_append.mp hp with hp | hp
  · have hne : p.1 ≠ g := fun e => by
      have nd := S.gnd
      rw [List.map_append, List.nodup_append] at nd
      exact nd.2.2 p.1 (List.mem_map_of_mem hp) g (by simp) e
    rw [Array.getElem?_setIfInBounds_ne (Ne.symm hne)]
    exact S.gens p (by simp [hp])
  · have : p = (g, .running) := by simpa using hp
    subst this
    have hlt : g < s.gens.size := (Array.getElem?_eq_some_iff.mp hgs).1
    simp [hlt]
theorem put_state {GR : Gens} {nw nw' : Ledger} {g : Nat} {gs gs' : GenState} {h' : Heap} (S : St0 W (GR ++ [(g, gs)]) nw s) (D : Led W.B nw' h') (hb : gs'.bare = true) : St0 W (GR ++ [(g, gs')]) nw' { s.setGen g gs' with heap := h' } := by
  have hgs : s.gens[g]? = some gs := S.gens (g, gs) (by simp)
  refine ⟨S.ok, D, bare_set S.bare hb, S.os, fun p hp => ?_, by have := S.gnd; rw [List.map_append] at this ⊢; exact this⟩
  show (s.gens.setIfInBounds g gs')[p.1]? = _
  rcases List.mem_append.mp hp with hp | hp
  · have hne : p.1 ≠ g := fun e => by
      have nd := S.gnd
      rw [List.map_append, List.nodup_append] at nd
      exact nd.2.2 p.1 (List.mem_map_of_mem hp) g (by simp) e
    rw [Array.getElem?_setIfInBounds_ne (Ne.symm hne)]
    exact S.gens p (by simp [hp])
  · have : p = (g, gs') := by simpa using hp
    subst this
    have hlt : g < s.gens.size := (Array.getElem?_eq_some_iff.mp hgs).1
    simp [hlt]
theorem St0.fewer {G G' : Gens} {nw : Ledger} (S : St0 W (G ++ G') nw s) : St0 W G nw s :=
  ⟨S.ok, S.led, S.bare, S.os, fun p hp => S.gens p (by simp [hp]), by have := S.gnd; rw [List.map_append] at this; exact (List.nodup_append.mp this).1⟩
theorem yields_gen {sh : Ledger} {a : Addr} {g : Nat} : ∀ {vs : List Value} {gs : GenState} {own : Ledger}, GoodGen W sh vs gs own → Yields W sh a vs (own ++ [(a, IsGenO g)]) [(g, gs)]
  | [], gs, own, H => ⟨⟨IsGenO g, by simp, fun o ⟨_, _, e⟩ => by subst e; unfold plainIt; show (!(["enumerate", "zip", "dict_itemiterator", "dict_reverseitemiterator", "odict_iterator", "itertools.zip_longest", "itertools.pairwise"].contains "generator")) = true; decide⟩, fun A R GR s Q E hA S hQ => by
    have D := S.led
    obtain ⟨o, ho, nm, qn, rfl⟩ := D.get (a := a) (c := IsGenO g) (by simp)
    have hgs : s.gens[g]? = some gs := S.gens (g, gs) (by simp)
    have D' : Led W.B ((R ++ [(a, IsGenO g)]) ++ (sh ++ own)) s.heap := D.perm (by
      rw [List.append_assoc]
      refine List.Perm.append_left _ ?_
      rw [← List.append_assoc]
      exact List.perm_append_comm)
    refine next_gen (W := W) hA (S.ok.nolimit.keeps D.keep) ⟨_, nm, qn, ho, rfl, rfl, rfl⟩ hgs (Wake.mono (H A.in1 (R ++ [(a, IsGenO g)]) _ (s.setGen g .running) hA.in1 (run_state S D')) fun e s₁ hq he => ?_)
    obtain ⟨he, S1⟩ := he
    refine .inl ⟨he, fun h' hk => hQ _ ?_⟩
    exact (put_state S1 ((S1.led.grow hk).sub (List.Sublist.append (List.sublist_append_left _ _) (List.Sublist.refl _))) rfl).fewer⟩
  | v :: vs, gs, own, H => ⟨⟨IsGenO g, by simp, fun o ⟨_, _, e⟩ => by subst e; unfold plainIt; show (!(["enumerate", "zip", "dict_itemiterator", "dict_reverseitemiterator", "odict_iterator", "itertools.zip_longest", "itertools.pairwise"].contains "generator")) = true; decide⟩, fun A R GR s Q E hA S hQ => by
    have D := S.led
    obtain ⟨o, ho, nm, qn, rfl⟩ := D.get (a := a) (c := IsGenO g) (by simp)
    have hgs : s.gens[g]? = some gs := S.gens (g, gs) (by simp)
    have D' : Led W.B ((R ++ [(a, IsGenO g)]) ++ (sh ++ own)) s.heap := D.perm (by
      rw [List.append_assoc]
      refine List.Perm.append_left _ ?_
      rw [← List.append_assoc]
      exact List.perm_append_comm)
    refine next_gen (W := W) hA (S.ok.nolimit.keeps D.keep) ⟨_, nm, qn, ho, rfl, rfl, rfl⟩ hgs (Wake.mono (H A.in1 (R ++ [(a, IsGenO g)]) _ (s.setGen g .running) hA.in1 (run_state S D')) fun e s₁ hq he => ?_)
    obtain ⟨own', he, S1, H'⟩ := he
    have D2 : Led W.B (R ++ (sh ++ (own' ++ [(a, IsGenO g)]))) s₁.heap := S1.led.perm (by
      rw [List.append_assoc]
      refine List.Perm.append_left _ ?_
      rw [← List.append_assoc sh]
      exact List.perm_append_comm)
    exact .inr ⟨v, he, hQ (own' ++ [(a, IsGenO g)]) [(g, e.genState)] _ (put_state S1 D2 (End.bare_of_quiet hq)) (yields_gen H')⟩⟩
end
end Mine
end
section
open PySem PySem.W PyProof.Rows PySem.W.X
set_option maxRecDepth 100000
namespace Mine
/-- an iterator that touches no generator -/
noncomputable def LY (W : Wd) (sh : Ledger) (it : Addr) : List Value → Ledger → Prop
  | [], own => Typ sh it own ∧ ∀ A R s (Q : Option Value → Shared → Prop) E, A.handled = none → Led W.B (R ++ (sh ++ own)) s.heap → (∀ h', Led W.B (R ++ sh) h' → Q none { s with heap := h' }) → wpAny (model W.prog W.w) A (pyNext (.ref it)) Q E s
  | v :: vs, own => Typ sh it own ∧ ∀ A R s (Q : Option Value → Shared → Prop) E, A.handled = none → Led W.B (R ++ (sh ++ own)) s.heap → (∀ own' h', Led W.B (R ++ (sh ++ own')) h' → LY W sh it vs own' → Q (some v) { s with heap := h' }) → wpAny (model W.prog W.w) A (pyNext (.ref it)) Q E s

theorem LY.yields {W : Wd} {sh : Ledger} {it : Addr} : ∀ {vs : List Value} {own : Ledger}, LY W sh it vs own → Yields W sh it vs own []
  | [], own, H => ⟨H.1, fun A R GR s Q E hA S hQ => H.2 A R s Q E hA.handled S.led fun h' D => hQ _ ⟨S.ok, D, S.bare, S.os, fun p hp => S.gens p (by simpa using hp), by have := S.gnd; simpa using this⟩⟩
  | v :: vs, own, H => ⟨H.1, fun A R GR s Q E hA S hQ => H.2 A R s Q E hA.handled S.led fun own' h' D H' => hQ own' [] _ ⟨S.ok, D, S.bare, S.os, S.gens, S.gnd⟩ H'.yields⟩

/-- the same with what is handed out known by a relation -/
noncomputable def YieldsR (W : Wd) (sh : Ledger) (it : Addr) {α : Type} (P : α → Value → Prop) : List α → Ledger → Gens → Prop
  | [], own, og => Typ sh it own ∧ (∀ A R GR s (Q : Option Value → Shared → Prop) E, Aok 7 A → St0 W (GR ++ og) (R ++ (sh ++ own)) s → (∀ s', St0 W GR (R ++ sh) s' → Q none s') → wpAny (model W.prog W.w) A (pyNext (.ref it)) Q E s)
  | x :: xs, own, og => Typ sh it own ∧ (∀ A R GR s (Q : Option Value → Shared → Prop) E, Aok 7 A → St0 W (GR ++ og) (R ++ (sh ++ own)) s → (∀ v own' og' s', P x v → St0 W (GR ++ og') (R ++ (sh ++ own')) s' → YieldsR W sh it P xs own' og' → Q (some v) s') →
      wpAny (model W.prog W.w) A (pyNext (.ref it)) Q E s)
theorem Yields.rel {W : Wd} {sh : Ledger} {it : Addr} : ∀ {vs : List Value} {own : Ledger} {og : Gens}, Yields W sh it vs own og → YieldsR W sh it (fun x v => v = x) vs own og
  | [], _, _, H => H
  | _ :: _, _, _, H => ⟨H.1, fun A R GR s Q E hA S hQ => H.2 A R GR s Q E hA S fun own' og' s' S' H' => hQ _ own' og' s' rfl S' H'.rel⟩
theorem Led.isLst {B h : Heap} {nw : Ledger} {a : Addr} {xs : List Value} (D : Led B nw h) (m : (a, IsLst xs) ∈ nw) : h.IsList a xs.toArray := by
  obtain ⟨o, ho, n, rfl⟩ := D.get m
  exact ⟨_, ho, rfl, n, rfl⟩

/-- one entry at the back turned -/
theorem Led.back {B h h' : Heap} {nw : Ledger} {a : Addr} {c c' : Cell} {post : Ledger} (D : Led B (nw ++ ((a, c) :: post)) h) (hs : ∀ b o, b ≠ a → h.get? b = some o → h'.get? b = some o) {o : Obj} (ho : h'.get? a = some o) (hc : c' o) : Led B (nw ++ ((a, c') :: post)) h' := by
  have D1 : Led B ((a, c) :: (nw ++ post)) h := D.perm List.perm_middle
  exact (D1.set .head hs ho hc).perm List.perm_middle.symm
theorem Led.dropBack {B h h' : Heap} {nw : Ledger} {a : Addr} {c : Cell} {post : Ledger} (D : Led B (nw ++ ((a, c) :: post)) h) (hs : ∀ b o, b ≠ a → h.get? b = some o → h'.get? b = some o) : Led B (nw ++ post) h' := by
  have D1 : Led B ((a, c) :: (nw ++ post)) h := D.perm List.perm_middle
  have hB := (D1.own _ (.head _)).1
  have nd := D1.nodup
  rw [List.map_cons, List.nodup_cons] at nd
  refine ⟨fun b o e => hs b o (fun q => by rw [q] at e; rw [hB] at e; cases e) (D1.keep b o e), fun p hp => ?_, nd.2⟩
  obtain ⟨x, o, ho, hc⟩ := D1.own p (.tail _ hp)
  exact ⟨x, o, hs _ _ (fun q => nd.1 (List.mem_map.mpr ⟨p, hp, q⟩)) ho, hc⟩

theorem ly_list {W : Wd} {sh : Ledger} {it l : Addr} {xs : List Value} {own₀ : Ledger} (m : (l, IsLst xs) ∈ sh ++ own₀) : ∀ (vs : List Value) (i : Nat), xs.drop i = vs → LY W sh it vs ((it, IsLI l i) :: own₀)
  | [], i, e => ⟨⟨IsLI l i, by simp, fun o h => by unfold plainIt; rw [h.1]; decide⟩, fun A R s Q E hA D hQ => by
    have D0 : Led W.B ((R ++ sh) ++ ((it, IsLI l i) :: own₀)) s.heap := by rw [List.append_assoc]; exact D
    obtain ⟨o, ho, hcl, hda⟩ := D0.get (a := it) (c := IsLI l i) (by simp)
    have hl := D0.isLst (a := l) (xs := xs) (by
      rcases List.mem_append.mp m with m | m
      · simp [m]
      · simp [m])
    refine wpAny_pyNext_list_end hA ⟨_, ho, hcl, hda⟩ hl (by simpa [List.drop_eq_nil_iff] using e) fun h' hx => hQ h' ?_
    exact (D0.dropBack fun b o hb e => hx b o hb e).sub (List.sublist_append_left _ _)⟩
  | v :: vs, i, e => ⟨⟨IsLI l i, by simp, fun o h => by unfold plainIt; rw [h.1]; decide⟩, fun A R s Q E hA D hQ => by
    have D0 : Led W.B ((R ++ sh) ++ ((it, IsLI l i) :: own₀)) s.heap := by rw [List.append_assoc]; exact D
    obtain ⟨o, ho, hcl, hda⟩ := D0.get (a := it) (c := IsLI l i) (by simp)
    have hl := D0.isLst (a := l) (xs := xs) (by
      rcases List.mem_append.mp m with m | m
      · simp [m]
      · simp [m])
    have hx : xs[i]? = some v := by
      have := congrArg List.head? e
      simpa [List.head?_drop] using this
    have e' : xs.drop (i + 1) = vs := by
      have := congrArg List.tail e
      simpa [List.tail_drop] using this
    refine wpAny_pyNext_list_item ⟨_, ho, hcl, hda⟩ hl (by simpa using hx) fun h' hit hs => ?_
    obtain ⟨o', ho', hc', hd'⟩ := hit
    have D1 := D0.back (c' := IsLI l (i + 1)) (fun b o hb e => (hs.2 b hb).trans e) ho' ⟨hc', hd'⟩
    exact hQ ((it, IsLI l (i + 1)) :: own₀) h' (by rw [← List.append_assoc]; exact D1) (ly_list m vs (i + 1) e')⟩

theorem ly_base {W : Wd} {sh : Ledger} {it l : Addr} {xs : List Value} (m : W.B.IsList l xs.toArray) : ∀ (vs : List Value) (i : Nat), xs.drop i = vs → LY W sh it vs [(it, IsLI l i)]
  | [], i, e => ⟨⟨IsLI l i, by simp, fun o h => by unfold plainIt; rw [h.1]; decide⟩, fun A R s Q E hA D hQ => by
    have D0 : Led W.B ((R ++ sh) ++ ((it, IsLI l i) :: [])) s.heap := by rw [List.append_assoc]; exact D
    obtain ⟨o, ho, hcl, hda⟩ := D0.get (a := it) (c := IsLI l i) (by simp)
    have hl : s.heap.IsList l xs.toArray := let ⟨o, e, r⟩ := m; ⟨o, D0.keep _ _ e, r⟩
    refine wpAny_pyNext_list_end hA ⟨_, ho, hcl, hda⟩ hl (by simpa [List.drop_eq_nil_iff] using e) fun h' hx => hQ h' ?_
    exact (D0.dropBack fun b o hb e => hx b o hb e).sub (List.sublist_append_left _ _)⟩
  | v :: vs, i, e => ⟨⟨IsLI l i, by simp, fun o h => by unfold plainIt; rw [h.1]; decide⟩, fun A R s Q E hA D hQ => by
    have D0 : Led W.B ((R ++ sh) ++ ((it, IsLI l i) :: [])) s.heap := by rw [List.append_assoc]; exact D
    obtain ⟨o, ho, hcl, hda⟩ := D0.get (a := it) (c := IsLI l i) (by simp)
    have hl : s.heap.IsList l xs.toArray := let ⟨o, e, r⟩ := m; ⟨o, D0.keep _ _ e, r⟩
    have hx : xs[i]? = some v := by
      have := congrArg List.head? e
      simpa [List.head?_drop] using this
    have e' : xs.drop (i + 1) = vs := by
      have := congrArg List.tail e
      simpa [List.tail_drop] using this
    refine wpAny_pyNext_list_item ⟨_, ho, hcl, hda⟩ hl (by simpa using hx) fun h' hit hs => ?_
    obtain ⟨o', ho', hc', hd'⟩ := hit
    have D1 := D0.back (c' := IsLI l (i + 1)) (fun b o hb e => (hs.2 b hb).trans e) ho' ⟨hc', hd'⟩
    exact hQ [(it, IsLI l (i + 1))] h' (by rw [← List.append_assoc]; exact D1) (ly_base m vs (i + 1) e')⟩

theorem ly_rev {W : Wd} {sh : Ledger} {it l : Addr} {xs : List Value} (m : (l, IsLst xs) ∈ sh) : ∀ (n : Nat), n ≤ xs.length → LY W sh it (xs.take n).reverse [(it, IsRI l ((n : Int) - 1))]
  | 0, _ => ⟨⟨IsRI l (((0 : Nat) : Int) - 1), List.mem_append_right _ (.head _), fun o h => by unfold plainIt; rw [h.1]; decide⟩, fun A R s Q E hA D hQ => by
    have D0 : Led W.B ((R ++ sh) ++ [(it, IsRI l ((0 : Nat) - 1))]) s.heap := by rw [List.append_assoc]; exact D
    obtain ⟨o, ho, hcl, hda⟩ := D0.get (a := it) (c := IsRI l ((0 : Nat) - 1)) (by simp)
    refine wpAny_pyNext_rev_end hA ⟨o, ho, hcl, hda⟩ fun h' hx => hQ h' ?_
    have := D0.dropBack (h' := h') fun b o hb e => hx b o hb e
    simpa using this⟩
  | n + 1, hn => by
    have hlt : n < xs.length := by omega
    have e : (xs.take (n + 1)).reverse = xs[n] :: (xs.take n).reverse := by
      rw [List.take_succ, List.getElem?_eq_getElem hlt]; simp
    rw [e]
    refine ⟨⟨IsRI l (((n + 1 : Nat) : Int) - 1), List.mem_append_right _ (.head _), fun o h => by unfold plainIt; rw [h.1]; decide⟩, ?_⟩
    intro A R s Q E hA D hQ
    have D0 : Led W.B ((R ++ sh) ++ [(it, IsRI l ((n + 1 : Nat) - 1))]) s.heap := by rw [List.append_assoc]; exact D
    obtain ⟨o, ho, hcl, hda⟩ := D0.get (a := it) (c := IsRI l ((n + 1 : Nat) - 1)) (by simp)
    have hl := D0.isLst (a := l) (xs := xs) (by simp [m])
    have e1 : ((n + 1 : Nat) : Int) - 1 = (n : Int) := by omega
    rw [e1] at hda
    refine wpAny_pyNext_rev_item ⟨o, ho, hcl, hda⟩ hl (x := xs[n]) (by simp [hlt]) fun h' hit hs => ?_
    obtain ⟨o', ho', hc', hd'⟩ := hit
    have D1 := D0.back (c' := IsRI l ((n : Int) - 1)) (fun b o hb e => (hs.2 b hb).trans e) ho' ⟨hc', hd'⟩
    exact hQ [(it, IsRI l ((n : Int) - 1))] h' (by rw [← List.append_assoc]; exact D1) (ly_rev m n (by omega))
end Mine
end
section
open PySem PySem.W PyProof.Rows PySem.W.X
set_option maxRecDepth 100000
namespace Mine
noncomputable def GenEnd (W : Wd) (sh R : Ledger) (GR : Gens) (vs : List Value) (e : End) (s' : Shared) : Prop := match vs with
  | [] => e = .ret (.ok (.ret .none)) ∧ St0 W GR (R ++ sh) s'
  | v :: vs => ∃ own', e.result = .yielded v ∧ St0 W GR (R ++ (sh ++ own')) s' ∧ GoodGen W sh vs e.genState own'
theorem goodGen_iff {W : Wd} {sh : Ledger} {vs : List Value} {gs : GenState} {own : Ledger} : GoodGen W sh vs gs own ↔ ∀ A R GR s, Aok 6 A → St0 W GR (R ++ (sh ++ own)) s → Wake W A gs s (GenEnd W sh R GR vs) := by
  cases vs <;> exact Iff.rfl

/-- a frame below a loop of a generator -/
structure FrOk (W : Wd) (fr : Frame) : Prop where
  split : splitAtGen [fr] = none
  guarded : fr.guarded = false
  marks : ∀ x, fr.marks x = x
  weight : fr.where_.1.weight ≤ 1
  units : fr.where_.1.cUnits ≤ 3
  back : ∀ A c s P, P (.ret (.ok (.ret .none))) s → SegX (model W.prog W.w) A c (leafOf (.ok .next)) [fr] s P

theorem Sta.st0 {W : Wd} {G : Gens} {nw pre post : Ledger} {s : Shared} {env : Env} {loc : Loc} (S : Sta W G env loc (pre ++ post) s) (e : nw = pre ++ ((env.locals, IsNs loc) :: post)) : St0 W G nw s := by
  subst e
  exact ⟨S.ok, S.led.perm List.perm_middle.symm, S.bare, S.os, S.gens, S.gnd⟩

section
variable {W : Wd} {sh : Ledger} {env : Env} {nm : Str} {p1 p5 p6 p7 p8 p9 : Pos} {rit : Addr} {ks : List Str}
noncomputable abbrev itBody (nm : Str) (p5 p6 p7 p8 p9 : Pos) : List Stmt := [.If (.Name nm p5) [.Expr (.YieldFrom (.Name nm p6) p7) p8] [] p9]
noncomputable abbrev itLoop (env : Env) (nm : Str) (p1 p5 p6 p7 p8 p9 : Pos) (rit : Addr) : Code := .forLoop (.Name nm p1) (.ref rit) (itBody nm p5 p6 p7 p8 p9) [] env

theorem over1 {k : Nat} {A : Around} {c' : Code} {fr : Frame} (hA : Aok (k + 2) A) (hf : FrOk W fr) (hw : c'.weight = 0) (hu : c'.cUnits ≤ 1) : Aok k (A.over c' [fr]) := by
  refine ⟨?_, ?_, ?_⟩
  · show (marksOver [fr] (A.handled, A.handled)).1 = none
    simp only [marksOver, List.foldr, hf.marks]; exact hA.handled
  · have := hA.depth; have := hf.weight
    show A.depth + frameCount ([fr].map Frame.where_) + c'.weight + k < recursionLimit
    simp only [List.map_cons, List.map_nil, frameCount, List.sum_cons, List.sum_nil, hw]; omega
  · have := hA.units; have := hf.units
    show A.units + unitsOf ([fr].map Frame.where_) + c'.cUnits + 8 * k < cLine
    simp only [List.map_cons, List.map_nil, unitsOf, List.sum_cons, List.sum_nil]; omega

/-- the delegation to one list, within any two frames -/
theorem iter_inner {l it : Addr} {xs : List Value} {fr fr2 : Frame} (hf : FrOk W fr) (h2 : splitAtGen [fr2, fr] = none) (g2 : [fr2, fr].any Frame.guarded = false)
    (hov : ∀ A, Aok 6 A → (A.over (yfCode it) [fr2, fr]).handled = none) (m : (l, IsLst xs) ∈ sh) (own₀ : Ledger) (ws : List Value)
    (rest : ∀ A R GR s, Aok 6 A → St0 W GR (R ++ (sh ++ own₀)) s → SegX (model W.prog W.w) A (yfCode it) (leafOf (.ok (.ret .none))) [fr2, fr] s (GenEnd W sh R GR ws)) :
    ∀ (vs : List Value) (i : Nat), xs.drop i = vs → ∀ A R GR s, Aok 6 A → St0 W GR (R ++ (sh ++ ((it, IsLI l i) :: own₀))) s →
      SegX (model W.prog W.w) A (yfCode it) (denote table (yfCode it)) [fr2, fr] s (GenEnd W sh R GR (vs ++ ws))
  | [], i, e => fun A R GR s hA S => by
    have D0 : Led W.B ((R ++ sh) ++ ((it, IsLI l i) :: own₀)) s.heap := by rw [List.append_assoc]; exact S.led
    obtain ⟨o, ho, hcl, hda⟩ := D0.get (a := it) (c := IsLI l i) (by simp)
    have hl := D0.isLst (a := l) (xs := xs) (by simp [m])
    refine yf_end (hov A hA) ⟨o, ho, hcl, hda⟩ hl (by simpa [List.drop_eq_nil_iff] using e) fun h' hx => ?_
    have D1 := D0.dropBack (h' := h') fun b o hb e => hx b o hb e
    exact rest A R GR { s with heap := h' } hA ⟨S.ok, by rw [← List.append_assoc]; exact D1, S.bare, S.os, S.gens, S.gnd⟩
  | v :: vs, i, e => fun A R GR s hA S => by
    have D0 : Led W.B ((R ++ sh) ++ ((it, IsLI l i) :: own₀)) s.heap := by rw [List.append_assoc]; exact S.led
    obtain ⟨o, ho, hcl, hda⟩ := D0.get (a := it) (c := IsLI l i) (by simp)
    have hl := D0.isLst (a := l) (xs := xs) (by simp [m])
    have hx : xs[i]? = some v := by
      have := congrArg List.head? e
      simpa [List.head?_drop] using this
    have e' : xs.drop (i + 1) = vs := by
      have := congrArg List.tail e
      simpa [List.tail_drop] using this
    refine yf_item ⟨o, ho, hcl, hda⟩ hl (by simpa using hx) h2 g2 fun k lv p h' hit hs hk => ?_
    obtain ⟨o', ho', hc', hd'⟩ := hit
    have D1 := D0.back (c' := IsLI l (i + 1)) (fun b o hb e => (hs.2 b hb).trans e) ho' ⟨hc', hd'⟩
    refine ⟨(it, IsLI l (i + 1)) :: own₀, rfl, ⟨S.ok, by rw [← List.append_assoc]; exact D1, S.bare, S.os, S.gens, S.gnd⟩, goodGen_iff.mpr fun A' R' GR' s' hA' S' => ?_⟩
    have D2 : Led W.B ((R' ++ sh) ++ ((it, IsLI l (i + 1)) :: own₀)) s'.heap := by rw [List.append_assoc]; exact S'.led
    obtain ⟨o2, ho2, hcl2, hda2⟩ := D2.get (a := it) (c := IsLI l (i + 1)) (by simp)
    exact hk A' _ s' _ ⟨o2, ho2, hcl2⟩ (iter_inner hf h2 g2 hov m own₀ ws rest vs (i + 1) e' A' R' GR' s' hA' S')

theorem put_of_mem {x : Str} {v : Option Value} : ∀ {l : Loc}, x ∈ l.map Prod.fst → ∃ l', Put x v l l'
  | p :: l, h => by
    rcases List.mem_cons.mp h with e | h
    · obtain ⟨k, u⟩ := p
      dsimp only at e
      subst e
      exact ⟨_, .head⟩
    · obtain ⟨l', h'⟩ := put_of_mem (v := v) h
      exact ⟨_, .tail h'⟩
theorem Put.mem' {x : Str} {v : Option Value} {l l' : Loc} (h : Put x v l l') : (x, v) ∈ l' := by
  induction h with
  | head => exact .head _
  | tail h ih => exact .tail _ ih
theorem Sta.truthyL {G : Gens} {loc : Loc} {nw : Ledger} {s : Shared} {A : Around} {E : Value → Shared → Prop} {a : Addr} {xs : List Value} {Q : Bool → Shared → Prop} (S : Sta W G env loc nw s) (m : (a, IsLst xs) ∈ nw) (hz : xs.length ≤ sizeLine) (h : ∀ s', Sta W G env loc nw s' → Q (!xs.isEmpty) s') :
    wpAny (model W.prog W.w) A (truthy (.ref a)) Q E s := by
  refine wpAny_truthy_list (S.isList m) ?_ ?_
  · rw [sizeLine_eq] at hz; simp; omega
  · have := h _ (S.toks (s.toks + 1 + 1))
    simpa using this
theorem Sta.iterL {G : Gens} {loc : Loc} {nw : Ledger} {s : Shared} {A : Around} {E : Value → Shared → Prop} {a : Addr} {xs : List Value} {Q : Value → Shared → Prop} (S : Sta W G env loc nw s) (m : (a, IsLst xs) ∈ nw) (h : ∀ it s', Sta W G env loc ((it, IsLI a 0) :: nw) s' → Q (.ref it) s') :
    wpAny (model W.prog W.w) A (pyIter (.ref a)) Q E s :=
  wpAny_pyIter_list (S.isList m) (h _ _ (S.new (c := IsLI a 0) rfl ⟨rfl, rfl⟩ s.toks))

theorem iter_outer {fr : Frame} (hf : FrOk W fr) (hi : interactive env = false) (hnm : nm ∈ ks) :
    ∀ (ls : List (Addr × List Value)), (∀ p ∈ ls, (p.1, IsLst p.2) ∈ sh ∧ p.2.length ≤ sizeLine) → ∀ (ownO : Ledger) (loc : Loc) A R GR s, Aok 6 A → loc.map Prod.fst = ks → EnvOk env ks →
      St0 W GR (R ++ (sh ++ ((env.locals, IsNs loc) :: ownO))) s → LY W sh rit (ls.map fun p => .ref p.1) ownO →
      SegX (model W.prog W.w) A (itLoop env nm p1 p5 p6 p7 p8 p9 rit) (denote table (itLoop env nm p1 p5 p6 p7 p8 p9 rit)) [fr] s (GenEnd W sh R GR (ls.flatMap (·.2)))
  | [], _, ownO, loc, A, R, GR, s, hA, hk, he, S, hy => by
    refine sx_topOn ?_
    unfold forTurn
    refine sx_then (wpAny_standAt ?_)
    have hA' : Aok 4 (A.over (itLoop env nm p1 p5 p6 p7 p8 p9 rit) [fr]) := over1 hA hf rfl (Nat.zero_le _)
    have D : Led W.B ((R ++ [(env.locals, IsNs loc)]) ++ (sh ++ ownO)) s.heap := S.led.perm (by
      rw [List.append_assoc]; refine List.Perm.append_left _ ?_
      exact List.perm_middle)
    refine sx_then (wpAny_onRaise (hy.2 _ _ s _ _ hA'.handled D fun h' D' => ?_))
    refine s_again _ _ _ _ _ _ _ _ rfl ?_
    refine hf.back _ _ _ _ ⟨rfl, S.ok, ?_, S.bare, S.os, S.gens, S.gnd⟩
    exact D'.sub (List.Sublist.append (List.sublist_append_left _ _) (List.Sublist.refl _))
  | (l, xs) :: ls, hls, ownO, loc, A, R, GR, s, hA, hk, he, S, hy => by
    have hm : (l, IsLst xs) ∈ sh := (hls (l, xs) (.head _)).1
    have hz : xs.length ≤ sizeLine := (hls (l, xs) (.head _)).2
    have hls' : ∀ p ∈ ls, (p.1, IsLst p.2) ∈ sh ∧ p.2.length ≤ sizeLine := fun p hp => hls p (.tail _ hp)
    refine sx_topOn ?_
    unfold forTurn
    refine sx_then (wpAny_standAt ?_)
    have hA' : Aok 4 (A.over (itLoop env nm p1 p5 p6 p7 p8 p9 rit) [fr]) := over1 hA hf rfl (Nat.zero_le _)
    have D : Led W.B ((R ++ [(env.locals, IsNs loc)]) ++ (sh ++ ownO)) s.heap := S.led.perm (by
      rw [List.append_assoc]; refine List.Perm.append_left _ ?_
      exact List.perm_middle)
    refine sx_then (wpAny_onRaise (hy.2 _ _ s _ _ hA'.handled D fun ownO' h' D' hy' => ?_))
    refine sx_then (wpAny_of_eq (a := ()) rfl ?_)
    have S1 : Sta W GR env loc (R ++ (sh ++ ownO')) { s with heap := h' } := by
      refine ⟨S.ok, by rw [hk]; exact he, D'.perm ?_, S.bare, S.os, S.gens, S.gnd⟩
      rw [List.append_assoc]
      exact List.perm_middle
    obtain ⟨loc', hput⟩ := put_of_mem (v := some (.ref l)) (l := loc) (x := nm) (by rw [hk]; exact hnm)
    have hk' : loc'.map Prod.fst = ks := by rw [hput.keys]; exact hk
    refine sx_then (wpAny_assign_Name (S1.store hput fun s2 S2 => ?_))
    rw [execs_cons]
    refine sx_bind (sx_bind ?_)
    rw [exec_If]
    refine sx_then (wpAny_standAt ?_)
    refine sx_then (wpAny_isTrue_value (S2.local_ hput.mem' (S2.truthyL (by simp [hm]) hz fun s3 S3 => ?_)))
    have back : ∀ A R GR s, Aok 6 A → St0 W GR (R ++ (sh ++ ((env.locals, IsNs loc') :: ownO'))) s →
        SegX (model W.prog W.w) A (itLoop env nm p1 p5 p6 p7 p8 p9 rit) (.pure (.again (itLoop env nm p1 p5 p6 p7 p8 p9 rit))) [fr] s (GenEnd W sh R GR (ls.flatMap (·.2))) := fun A R GR s hA S =>
      s_again _ _ _ _ _ _ _ _ rfl (iter_outer hf hi hnm ls hls' ownO' loc' A R GR s hA hk' he S hy')
    cases xs with
    | nil =>
      refine back A R GR s3 hA (Sta.st0 (pre := R ++ sh) (post := ownO') (loc := loc') (env := env) ?_ (by simp))
      rw [List.append_assoc]; exact S3
    | cons v vs =>
      rw [if_pos (show (!(v :: vs).isEmpty) = true from rfl), execs_cons]
      refine sx_bind ?_
      rw [exec_Expr env _ _ hi rfl]
      refine sx_then (wpAny_standAt (sx_bind ?_))
      show SegX _ _ _ (Sem.wrap _ _ _ _ (eval (.Name nm p6) env >>= fun v => standAt p7 >>= fun _ => yieldFrom env v)) _ _ _
      refine sx_then (S3.local_ hput.mem' (sx_then (wpAny_standAt ?_)))
      unfold yieldFrom
      have hT : s3.TypeIs (.ref l) "list" := (S3.isList (a := l) (xs := v :: vs) (by simp [hm])).typeIs
      refine sx_then (wpAny_typeOf hT ?_)
      rw [if_neg (by decide)]
      refine sx_then (wpAny_holding (S3.iterL (xs := v :: vs) (by simp [hm]) fun it s4 S4 => ?_))
      refine s_call W.prog W.w A _ [fr] _ s4 (yfCode it) none false [] _ fun p => ?_
      refine iter_inner (xs := v :: vs) (l := l) hf ?kk2 ?kg2 ?khov hm ((env.locals, IsNs loc') :: ownO') (ls.flatMap (·.2)) ?krest (v :: vs) 0 rfl A R GR s4 hA ?kst
      · simp only [splitAtGen, hf.split, Option.map_none]
      · show (false || (fr.guarded || false)) = false
        rw [hf.guarded]; rfl
      · intro A hA
        show (marksOver _ (A.handled, A.handled)).1 = none
        simp only [marksOver, List.foldr_cons, List.foldr_nil]
        rw [hf.marks]; exact hA.handled
      · intro A R GR s hA S
        exact s_pop _ _ _ _ _ _ _ _ _ rfl _ _ _ _ _ _ _ (back A R GR s hA S)
      · refine ⟨S4.ok, S4.led.perm ?_, S4.bare, S4.os, S4.gens, S.gnd⟩
        refine (List.Perm.swap _ _ _).trans ?_
        rw [← List.append_assoc R sh, ← List.append_assoc R sh]
        exact List.Perm.trans (List.Perm.cons _ List.perm_middle.symm) List.perm_middle.symm
end
end Mine
end
section
open PySem PySem.W PyProof.Rows PySem.W.X
set_option maxRecDepth 100000
namespace Mine
section
variable {W : Wd} {sh : Ledger} {env : Env} {nm rv sk : Str} {p1 p2 p3 p4 p5 p6 p7 p8 p9 p10 : Pos} {ks : List Str}
noncomputable abbrev itWhole (nm rv sk : Str) (p1 p2 p3 p4 p5 p6 p7 p8 p9 p10 : Pos) : List Stmt := [.For (.Name nm p1) (.Call (.Name rv p2) [.Name sk p3] [] p4) (itBody nm p5 p6 p7 p8 p9) [] p10]
theorem iter_good (hi : interactive env = false) (hnm : nm ∈ ks) (loc : Loc) (hk : loc.map Prod.fst = ks) (he : EnvOk env ks) (ls : List (Addr × List Value)) (hls : ∀ p ∈ ls, (p.1, IsLst p.2) ∈ sh ∧ p.2.length ≤ sizeLine)
    (hrev : ∀ A R GR s, Aok 4 A → Sta W GR env loc (R ++ sh) s → ∀ Q E, (∀ rit own s', Sta W GR env loc (R ++ (sh ++ own)) s' → LY W sh rit (ls.map fun p => .ref p.1) own → Q (.ref rit) s') → wpAny (model W.prog W.w) A (eval (.Call (.Name rv p2) [.Name sk p3] [] p4) env) (fun x s₁ => wpAny (model W.prog W.w) A (pyIter x) Q E s₁) E s) :
    GoodGen W sh (ls.flatMap (·.2)) (.fresh (.func (itWhole nm rv sk p1 p2 p3 p4 p5 p6 p7 p8 p9 p10) env)) [(env.locals, IsNs loc)] := by
  refine goodGen_iff.mpr fun A R GR s hA S => ?_
  show SegX _ A _ (denote table (.func (itWhole nm rv sk p1 p2 p3 p4 p5 p6 p7 p8 p9 p10) env)) [] s _
  refine sx_top ?_
  simp only [denote]
  refine sx_then (wpAny_point ?_)
  refine sx_bind (sx_onRaise ?_)
  rw [execs_cons]
  refine sx_bind ?_
  rw [exec_For]
  have hA' : Aok 4 (A.over (.func (itWhole nm rv sk p1 p2 p3 p4 p5 p6 p7 p8 p9 p10) env) []) := ⟨hA.handled, by
      have := hA.depth
      show A.depth + 0 + 1 + 4 < _
      omega, by
      have := hA.units
      show A.units + 0 + 3 + 8 * 4 < _
      omega⟩
  have S1 : Sta W GR env loc (R ++ sh) s := ⟨S.ok, by rw [hk]; exact he, S.led.perm (by rw [← List.append_assoc]; exact List.perm_append_comm), S.bare, S.os, S.gens, S.gnd⟩
  refine sx_then (wpAny_standAt ?_)
  have main := hrev _ R GR s hA' S1
  refine sx_then (wpAny_mono (main (fun x s₁ => ∃ rit own, x = .ref rit ∧ Sta W GR env loc (R ++ (sh ++ own)) s₁ ∧ LY W sh rit (ls.map fun p => .ref p.1) own) (fun _ _ => False) fun rit own s' S' hy => ⟨rit, own, rfl, S', hy⟩) (fun x s₁ h₁ => ?_) fun _ _ h => h.elim)
  refine sx_then (wpAny_of_eq (a := x) rfl ?_)
  refine sx_then (wpAny_standAt ?_)
  refine sx_then (wpAny_holding (wpAny_mono h₁ (fun y s₂ h₂ => ?_) fun _ _ h => h.elim))
  obtain ⟨rit, own, rfl, S2, hy⟩ := h₂
  refine s_call W.prog W.w A _ [] _ s₂ (itLoop env nm p1 p5 p6 p7 p8 p9 rit) none false [] _ fun p => ?_
  refine iter_outer ?hf hi hnm ls hls own loc A R GR s₂ hA hk he ⟨S2.ok, S2.led.perm ?_, S2.bare, S2.os, S2.gens, S.gnd⟩ hy
  · refine ⟨rfl, rfl, fun x => rfl, Nat.le_refl _, Nat.le_refl _, fun A c s P hP => ?_⟩
    refine s_pop _ _ _ _ _ _ _ _ _ rfl _ _ _ _ _ _ _ ?_
    exact s_end _ _ _ _ _ _ _ _ rfl hP
  · rw [← List.append_assoc R sh, ← List.append_assoc R sh]
    exact List.perm_middle.symm
end
end Mine
end
section
open PySem PySem.W PyProof.Rows PySem.W.X
set_option maxRecDepth 100000
namespace Mine
/-- a def of the text, as the top left it -/
structure Fn (K : Frag) (f : Addr) (st : Stmt) (qual : Str) (dV kV cdv : Value) : Prop where
  at_ : ∃ name doc pm ct oc an od osl, K.lookup f = some ⟨oc, od, .func (fnOf name qual (fnArgs st) (fnBody st) (fnScope st) dV kV doc pm an cdv ct), osl⟩
  code : codeIn K cdv qual = true
/-- what a call binds -/
noncomputable def Binds (s : Shared) (st : Stmt) (qual : Str) (dV kV cdv : Value) (args : Args) (binds : List (Str × Value)) : Prop :=
  ∀ name doc pm ct an, BindsTo s (fnOf name qual (fnArgs st) (fnBody st) (fnScope st) dV kV doc pm an cdv ct) args binds
noncomputable def kindsGen (sc : Scope) (ks : List Str) : Bool := sc.kind == .function && !sc.isCoroutine && sc.isGenerator && (sc.names.all fun x => x.2 != .cell) && (ks.all fun x => sc.names.lookup x == some .local && !(x == ("__debug__" : Str))) && decide ks.Nodup

section
variable {W : Wd} {G : Gens} {env : Env} {loc loc' : Loc} {nw nw' : Ledger} {s : Shared} {A : Around} {E : Value → Shared → Prop}
theorem Sta.call_fn {Q : Value → Shared → Prop} {f : Addr} {qual : Str} {st : Stmt} {dV kV cdv : Value} {pos : List Value} {kw : List (Str × Value)} {binds : List (Str × Value)} (rest : List Str)
    (S : Sta W G env loc nw s) (hf : Fn W.K f st qual dV kV cdv) (hroom : A.depth < recursionLimit) (hbind : Binds s st qual dV kV cdv ⟨pos, kw⟩ binds) (hk : kindsOk (fnScope st) (binds.map Prod.fst ++ rest) = true)
    (h : ∀ L s', Sta W G (envOf qual (fnScope st) L f cdv) (mkLoc binds rest) ((env.locals, IsNs loc) :: nw) s' →
      wpAny (model W.prog W.w) (A.deeper (envOf qual (fnScope st) L f cdv)) (execs (fnBody st) (envOf qual (fnScope st) L f cdv)) (fun fl s'' => Q (match fl with | .ret v => v | _ => .none) s'') (fun _ _ => False) s') :
    wpAny (model W.prog W.w) A (call (.ref f) pos kw) Q E s := by
  obtain ⟨name, doc, pm, ct, oc, an, od, osl, ho⟩ := hf.at_
  exact S.call_def (args := ⟨pos, kw⟩) rest hroom ho hf.code (hbind _ _ _ _ _) hk h
theorem Sta.code_fn {R : Result → Shared → Prop} {f : Addr} {qual : Str} {st : Stmt} {dV kV cdv : Value} {pos : List Value} {kw : List (Str × Value)} {binds : List (Str × Value)} (rest : List Str)
    (S : Sta W G env loc nw s) (hf : Fn W.K f st qual dV kV cdv) (hroom : A.depth < recursionLimit) (hbind : Binds s st qual dV kV cdv ⟨pos, kw⟩ binds) (hk : kindsOk (fnScope st) (binds.map Prod.fst ++ rest) = true)
    (h : ∀ L s', Sta W G (envOf qual (fnScope st) L f cdv) (mkLoc binds rest) ((env.locals, IsNs loc) :: nw) s' →
      wpAny (model W.prog W.w) (A.deeper (envOf qual (fnScope st) L f cdv)) (execs (fnBody st) (envOf qual (fnScope st) L f cdv)) (fun fl s'' => R (.ok (.ret (match fl with | .ret v => v | _ => .none))) s'') (fun _ _ => False) s') :
    codeAny (model W.prog W.w) A (.call (.ref f) ⟨pos, kw⟩) R s := by
  obtain ⟨name, doc, pm, ct, oc, an, od, osl, ho⟩ := hf.at_
  exact S.code_def (args := ⟨pos, kw⟩) rest hroom ho hf.code (hbind _ _ _ _ _) hk h
theorem Sta.call_gen {Q : Value → Shared → Prop} {f : Addr} {qual : Str} {st : Stmt} {dV kV cdv : Value} {pos : List Value} {kw : List (Str × Value)} {binds : List (Str × Value)} (rest : List Str)
    (S : Sta W G env loc nw s) (hf : Fn W.K f st qual dV kV cdv) (hroom : A.depth < recursionLimit) (hbind : Binds s st qual dV kV cdv ⟨pos, kw⟩ binds) (hk : kindsGen (fnScope st) (binds.map Prod.fst ++ rest) = true)
    (h : ∀ a g L s', EnvOk (envOf qual (fnScope st) L f cdv) (binds.map Prod.fst ++ rest) →
      Sta W (G ++ [(g, .fresh (.func (fnBody st) (envOf qual (fnScope st) L f cdv)))]) env loc ((a, IsGenO g) :: (L, IsNs (mkLoc binds rest)) :: nw) s' → Q (.ref a) s') :
    wpAny (model W.prog W.w) A (call (.ref f) pos kw) Q E s := by
  obtain ⟨name, doc, pm, ct, oc, an, od, osl, ho⟩ := hf.at_
  simp only [kindsGen, Bool.and_eq_true, beq_iff_eq, Bool.not_eq_true', List.all_eq_true, bne_iff_ne, decide_eq_true_eq] at hk
  obtain ⟨⟨⟨⟨⟨hkind, hco⟩, hgen⟩, hcell⟩, hks⟩, hnd⟩ := hk
  have hks2 : ((mkLoc binds rest).map Prod.fst) = binds.map Prod.fst ++ rest := by
    simp [mkLoc, List.map_map, Function.comp_def]
  refine wpAny_call (codeAny_call_generator (fd := fnOf name qual (fnArgs st) (fnBody st) (fnScope st) dV kV doc pm an cdv ct) (body := fnBody st) hroom (S.kin _ _ ho) rfl hco hgen rfl (codeRec_of S.kin hf.code) (hbind _ _ _ _ _ _ _ _ _ ?_))
  refine wpAny_newFunctionEnv hcell (fun x hx => (hks x.1 (List.mem_append_left _ (List.mem_map.mpr ⟨x, hx, rfl⟩))).1) (fun h₁ hns hsb => ?_) hkind
  have hkp : ∀ b o, s.heap.get? b = some o → h₁.get? b = some o := fun b o e => hsb.extBut b o (Nat.ne_of_lt (Heap.lt_size e)) (Heap.get?_push_of_some _ e)
  refine ⟨S.nolimit.keeps hkp, ?_⟩
  have D : Led W.B ((s.heap.objs.size, IsNs (mkLoc binds rest)) :: (env.locals, IsNs loc) :: nw) h₁ := by
    obtain ⟨o, es, ep, ho', hd, hsk, hf⟩ := hns
    refine S.led.cons_new hkp S.led.size_ne S.led.size_new ho' ⟨by rw [hks2]; exact hnd, es, ep, hd, hsk, fun x => ?_⟩
    rw [hf x, lk_mkLoc _ _ (hnd.sublist (List.sublist_append_left _ _))]
  refine h h₁.objs.size s.gens.size s.heap.objs.size _ ⟨hkind, rfl, rfl, fun x hx => (hks x hx).1, fun x hx => (hks x hx).2, hnd⟩ ⟨S.ok, S.eok, ?_, ?_, S.os, ?_, ?_⟩
  case refine_4 =>
    rw [List.map_append, List.nodup_append]
    refine ⟨S.gnd, by simp, fun a ha b hb e => ?_⟩
    have : b = s.gens.size := by simpa using hb
    subst this
    obtain ⟨p, hp, q⟩ := List.mem_map.mp ha
    have := (Array.getElem?_eq_some_iff.mp (S.gens p hp)).1
    rw [q, e] at this
    exact Nat.lt_irrefl _ this
  · refine ((D.new (c := IsGenO s.gens.size) (o := { cls := .type "generator", data := .fields #[.int s.gens.size 0, .str name (s.toks + binds.length), .str qual (s.toks + binds.length + 1)] }) rfl ⟨_, _, rfl⟩).perm ?_)
    exact (List.Perm.cons _ (List.Perm.swap ..)).trans (List.Perm.swap ..)
  · exact S.bare.push rfl
  · intro p hp
    show (s.gens.push _)[p.1]? = _
    rcases List.mem_append.mp hp with hp | hp
    · have hlt := (Array.getElem?_eq_some_iff.mp (S.gens p hp)).1
      rw [Array.getElem?_push_lt hlt]
      have := S.gens p hp
      rw [Array.getElem?_eq_getElem hlt] at this
      exact this
    · have : p = (s.gens.size, .fresh (.func (fnBody st) (envOf qual (fnScope st) s.heap.objs.size f cdv))) := by simpa using hp
      subst this
      simp; rfl
end
end Mine
end
section
open PySem PySem.W PyProof.Rows PySem.W.X
set_option maxRecDepth 100000
namespace Mine
theorem St0.setL {W : Wd} {G : Gens} {R : Ledger} {s : Shared} {a : Addr} {xs ys : List Value} {n : Nat} (S : St0 W G ((a, IsLst xs) :: R) s) (hl : IsL s.heap a xs.toArray n) (f : Array Value → Array Value) (e : f xs.toArray = ys.toArray) :
    St0 W G ((a, IsLst ys) :: R) { s with heap := s.heap.update a (Obj.mapSeq f) } := by
  obtain ⟨o, ho, hc⟩ := IsL_set hl f e
  exact ⟨S.ok, S.led.set .head (fun b o hb e => ((Heap.SameBut.update s.heap a _).2 b hb).trans e) ho hc, S.bare, S.os, S.gens, S.gnd⟩
theorem St0.isL {W : Wd} {G : Gens} {R : Ledger} {s : Shared} {a : Addr} {xs : List Value} (S : St0 W G R s) (m : (a, IsLst xs) ∈ R) : ∃ n, IsL s.heap a xs.toArray n := by
  obtain ⟨o, ho, n, rfl⟩ := S.led.get m
  exact ⟨n, ho⟩
section
variable {W : Wd} {sh : Ledger} {I : Addr} {E : Value → Shared → Prop}
theorem extend_loop_y {T : Addr} {res : Value} {Rr : Result → Shared → Prop} {R : Ledger} {GR : Gens} : ∀ (vs : List Value) (own : Ledger) (og : Gens) (acc : List Value) (A : Around) (s : Shared), Aok 8 A → Yields W sh I vs own og → acc.length + vs.length ≤ sizeLine →
    St0 W (GR ++ og) (((T, IsLst acc) :: R) ++ (sh ++ own)) s → (∀ s', St0 W GR (((T, IsLst (acc ++ vs)) :: R) ++ sh) s' → Rr (.ok (.ret res)) s') → codeAny (model W.prog W.w) A (.builtin "list.extend.loop" ⟨[.ref T, .ref I, res], []⟩) Rr s
  | [], own, og, acc, A, s, hA, hy, hz, S, hR => by
    refine codeAny_builtin F.entry_extend_loop ?_
    rw [Around.under_plainId F.plain_extend_loop _]
    show wpAny _ A.in1 (pyNext (.ref I) >>= _) _ _ s
    refine wpAny_bind (hy.2 A.in1 _ GR s _ _ (Aok.in1 hA) S fun s' S' => wpAny_pure (hR s' ?_))
    rw [List.append_nil]; exact S'
  | v :: vs, own, og, acc, A, s, hA, hy, hz, S, hR => by
    refine codeAny_builtin F.entry_extend_loop ?_
    rw [Around.under_plainId F.plain_extend_loop _]
    show wpAny _ A.in1 (pyNext (.ref I) >>= _) _ _ s
    refine wpAny_bind (hy.2 A.in1 _ GR s _ _ (Aok.in1 hA) S fun own' og' s' S' hy' => ?_)
    show wpAny _ A.in1 (updateSeq T (·.push v) >>= _) _ _ _
    have S'' : St0 W (GR ++ og') ((T, IsLst acc) :: (R ++ (sh ++ own'))) s' := S'
    obtain ⟨n, hl⟩ := S''.isL (.head _)
    rw [List.length_cons] at hz
    refine wpAny_bind ?_
    refine wpAny_updateSeq hl rfl (wpAny_pure ⟨plainId_quiet F.plain_extend_loop _, extend_loop_y vs own' og' (acc ++ [v]) A _ hA hy' (by simp; omega) (S''.setL hl _ (by simp)) fun s'' S3 => hR s'' ?_⟩)
      (by simp; omega) (by show (acc.toArray.push v).size ≤ sizeLine + 1; simp; omega)
    rw [List.append_assoc] at S3; exact S3

end
end Mine
end
section
open PySem PySem.W PyProof.Rows PySem.W.X
set_option maxRecDepth 100000
namespace Mine
theorem Sta.to0 {W : Wd} {G : Gens} {env : Env} {loc : Loc} {nw : Ledger} {s : Shared} (S : Sta W G env loc nw s) : St0 W G ((env.locals, IsNs loc) :: nw) s := ⟨S.ok, S.led, S.bare, S.os, S.gens, S.gnd⟩
theorem St0.toSta {W : Wd} {G : Gens} {env : Env} {loc : Loc} {nw : Ledger} {s : Shared} (S : St0 W G ((env.locals, IsNs loc) :: nw) s) (e : EnvOk env (loc.map Prod.fst)) : Sta W G env loc nw s := ⟨S.ok, e, S.led, S.bare, S.os, S.gens, S.gnd⟩
theorem codeAny_for {prog : Program} {w : World} {A : Around} {s : Shared} {R : Result → Shared → Prop} {target : Expr} {it : Value} {body orelse : List Stmt} {env : Env} (I : Nat → Shared → Prop)
    (turn : ∀ n s, I n s → wpAny (model prog w) A (pyNext it) (fun r s₁ => match r with
      | none => wpAny (model prog w) A (execs orelse env) (fun f s₃ => R (.ok f) s₃) (fun _ _ => False) s₁
      | some v => wpAny (model prog w) A (letOwnedTupleGo target it v) (fun _ s₁ => wpAny (model prog w) A (assign target env v) (fun _ s₂ => wpAny (model prog w) A (execs body env) (fun f s₃ => match f with
          | .next | .cont => ∃ m, m < n ∧ I m s₃
          | .brk => R (.ok .next) s₃
          | .ret v => R (.ok (.ret v)) s₃) (fun _ _ => False) s₂) (fun _ _ => False) s₁) (fun _ _ => False) s₁) (fun _ _ => False) s)
    (n : Nat) (h : I n s) : codeAny (model prog w) A (.forLoop target it body orelse env) R s := by
  refine codeAny_loop' rfl I (fun n s hI => ?_) n h
  show wpAny _ _ ((forTurn target it body orelse env).onRaise (fun x => do noteFrame x env; theTreesLotGoes x)) _ _ s
  refine wpAny_noted ?_
  simp only [forTurn]
  refine wpAny_bind (wpAny_standAt (wpAny_bind (wpAny_onRaise (wpAny_mono (turn n s hI) (fun r s₁ h₁ => ?_) fun _ _ h' => h'.elim))))
  cases r with
  | none => exact wpAny_pure (.inr ⟨rfl, codeAny_block (wpAny_mono h₁ (fun _ _ h => h) fun _ _ h => h.elim)⟩)
  | some v =>
    refine wpAny_bind (wpAny_mono h₁ (fun _ s₁' h₁' => ?_) fun _ _ h' => h'.elim)
    refine wpAny_bind (wpAny_mono h₁' (fun _ s₂ h₂ => wpAny_bind (wpAny_mono h₂ (fun f s₃ h₃ => ?_) fun _ _ h' => h'.elim)) fun _ _ h' => h'.elim)
    cases f with
    | next => exact wpAny_pure (.inl ⟨rfl, h₃⟩)
    | cont => exact wpAny_pure (.inl ⟨rfl, h₃⟩)
    | brk => exact wpAny_pure h₃
    | ret v => exact wpAny_pure h₃

theorem tupGo {prog : Program} {w : World} {A : Around} {E : Value → Shared → Prop} {s : Shared} {target : Expr} {it : Addr} {v : Value} {o : Obj} {Q : Unit → Shared → Prop} (ho : s.heap.get? it = some o) (hp : plainIt o = true) (h : Q () s) : wpAny (model prog w) A (letOwnedTupleGo target (.ref it) v) Q E s := by
  have key : wpAny (model prog w) A (letOwnedTupleGo (.Tuple [] 0 default) (.ref it) v) Q E s := by
    unfold letOwnedTupleGo
    cases v with
    | ref a =>
      refine wpAny_bind (m := load it) (wpAny_load ho ?_)
      unfold plainIt at hp
      split
      · rename_i n vs hc hd
        rw [hc] at hp
        dsimp only at hp
        rw [Bool.not_eq_true'] at hp
        rw [hp]
        exact wpAny_pure h
      · exact wpAny_pure h
    | _ => exact wpAny_pure h
  cases target with
  | Tuple => exact key
  | List => exact key
  | _ => exact wpAny_pure h

section
variable {W : Wd} {sh : Ledger} {env : Env} {A : Around} {R : Result → Shared → Prop} {it : Addr} {target : Expr} {body : List Stmt}
/-- a for, by an invariant J of what is yet to come, the frame's names, the ledger -/
theorem for_y {α : Type} {P : α → Value → Prop} (hA : Aok 7 A) (J : List α → Loc → Ledger → Gens → Prop)
    (turn : ∀ x v rest tl tg loc nw G s, P x v → Sta W (G ++ tg) env loc (nw ++ (sh ++ tl)) s → J (x :: rest) loc nw G →
      wpAny (model W.prog W.w) A (assign target env v) (fun _ s₂ => wpAny (model W.prog W.w) A (execs body env) (fun f s₃ => match f with
          | .next | .cont => ∃ loc' nw' G', Sta W (G' ++ tg) env loc' (nw' ++ (sh ++ tl)) s₃ ∧ J rest loc' nw' G'
          | .brk => R (.ok .next) s₃
          | .ret v => R (.ok (.ret v)) s₃) (fun _ _ => False) s₂) (fun _ _ => False) s)
    (fin : ∀ loc nw G s, Sta W G env loc (nw ++ sh) s → J [] loc nw G → R (.ok .next) s)
    {xs : List α} {own : Ledger} {og G : Gens} {loc : Loc} {nw : Ledger} {s : Shared} (S : Sta W (G ++ og) env loc (nw ++ (sh ++ own)) s) (hy : YieldsR W sh it P xs own og) (hJ : J xs loc nw G) :
    codeAny (model W.prog W.w) A (.forLoop target (.ref it) body [] env) R s := by
  refine codeAny_for (fun n s => ∃ xs own og G loc nw, xs.length = n ∧ Sta W (G ++ og) env loc (nw ++ (sh ++ own)) s ∧ YieldsR W sh it P xs own og ∧ J xs loc nw G) (fun n s hI => ?_) xs.length ⟨xs, own, og, G, loc, nw, rfl, S, hy, hJ⟩
  obtain ⟨vs, own, og, G, loc, nw, hn, S, hy, hJ⟩ := hI
  cases vs with
  | nil =>
    refine hy.2 A ((env.locals, IsNs loc) :: nw) G s _ _ hA S.to0 fun s' S' => ?_
    exact wpAny_execs_nil (fin loc nw G s' (St0.toSta S' S.eok) hJ)
  | cons x rest =>
    refine hy.2 A ((env.locals, IsNs loc) :: nw) G s _ _ hA S.to0 fun v own' og' s' hp S' hy' => ?_
    have S1 : Sta W (G ++ og') env loc (nw ++ (sh ++ own')) s' := St0.toSta S' S.eok
    have ht : Typ sh it own' := by cases rest <;> exact hy'.1
    obtain ⟨c, hc, hpl⟩ := ht
    obtain ⟨o, ho, hco⟩ := S1.get (a := it) (c := c) (List.mem_append_right _ hc)
    refine tupGo ho (hpl o hco) ?_
    refine wpAny_mono (turn x v rest own' og' loc nw G s' hp S1 hJ) (fun _ s₂ h₂ => wpAny_mono h₂ (fun f s₃ h₃ => ?_) fun _ _ h => h) fun _ _ h => h
    cases f with
    | next => obtain ⟨loc', nw', G', S3, hJ'⟩ := h₃; exact ⟨rest.length, by rw [← hn]; simp, rest, own', og', G', loc', nw', rfl, S3, hy', hJ'⟩
    | cont => obtain ⟨loc', nw', G', S3, hJ'⟩ := h₃; exact ⟨rest.length, by rw [← hn]; simp, rest, own', og', G', loc', nw', rfl, S3, hy', hJ'⟩
    | brk => exact h₃
    | ret v => exact h₃
end
end Mine
end
section
open PySem PySem.W PyProof.Rows PySem.W.X
set_option maxRecDepth 100000
namespace Mine
noncomputable def IsCel (v : Option Value) : Cell := fun o => o.data = .cell v
structure CellOk (env : Env) (k : NameKind) (x : Str) (c : Addr) : Prop where
  kind : env.kindOf x = some k
  at_ : env.cells.lookup x = some c
  nodebug : (x == ("__debug__" : Str)) = false
  noclass : (x == ("__classdict__" : Str)) = false
section
variable {W : Wd} {G : Gens} {env : Env} {loc loc' : Loc} {nw nw' : Ledger} {s : Shared} {A : Around} {E : Value → Shared → Prop}
theorem Sta.isCell {c : Addr} {v : Option Value} (S : Sta W G env loc nw s) (m : (c, IsCel v) ∈ nw) : s.heap.IsCell c v := S.get m
theorem Sta.cell {x : Str} {pos : Pos} {c : Addr} {v : Value} {Q : Value → Shared → Prop} {M : Model} (S : Sta W G env loc nw s) (hc : CellOk env .cell x c) (m : (c, IsCel (some v)) ∈ nw) (h : Q v s) : wpAny M A (eval (.Name x pos) env) Q E s :=
  wpAny_Name (wpAny_loadName_cell S.eok.fn hc.kind hc.at_ (S.isCell m) h) hc.nodebug
theorem Sta.storeC {x : Str} {c : Addr} {v : Value} {v₀ : Option Value} {Q : Unit → Shared → Prop} {M : Model} (S : Sta W G env loc nw s) (hc : CellOk env .cell x c) (U : Upd c (IsCel v₀) (IsCel (some v)) nw nw') (h : ∀ s', Sta W G env loc nw' s' → Q () s') : wpAny M A (storeName env x v) Q E s := by
  refine wpAny_storeName_cell S.eok.fn hc.kind hc.at_ (S.isCell U.mem) fun h' hc' hs => ?_
  obtain ⟨o, ho, hd⟩ := hc'
  exact h _ (S.set U (fun b o hb e => (hs.2 b hb).trans e) ho hd s.toks)
end

noncomputable def cellNames (names : List (Str × NameKind)) : List Str := (names.filter fun p => p.2 == .cell).map Prod.fst
theorem cellsFrom_eq : ∀ (names : List (Str × NameKind)) (n : Nat) (acc : List (Str × Addr)), cellsFrom n names acc = ((cellNames names).zip (List.range' n (cellNames names).length)).reverse ++ acc
  | [], n, acc => rfl
  | (x, k) :: r, n, acc => by
    unfold cellsFrom
    cases hk : k == .cell with
    | true =>
      rw [if_pos rfl, cellsFrom_eq r (n + 1) ((x, n) :: acc)]
      simp [cellNames, hk, List.range'_succ]
    | false =>
      rw [if_neg (by decide), cellsFrom_eq r n acc]
      simp [cellNames, hk]
theorem lookup_rev_zip : ∀ (ks : List Str) (n : Nat), ks.Nodup → ∀ i (h : i < ks.length), ((ks.zip (List.range' n ks.length)).reverse ++ []).lookup ks[i] = some (n + i)
  | [], _, _, i, h => by simp at h
  | k :: r, n, nd, i, h => by
    rw [List.nodup_cons] at nd
    rw [List.append_nil]
    simp only [List.length_cons, List.range'_succ, List.zip_cons_cons, List.reverse_cons, List.lookup_append]
    cases i with
    | zero =>
      have : ((r.zip (List.range' (n + 1) r.length)).reverse).lookup k = none := by
        rw [List.lookup_eq_none_iff]
        intro p hp
        rw [bne_iff_ne]
        intro e
        exact nd.1 (by rw [e]; exact (List.of_mem_zip (List.mem_reverse.mp hp)).1)
      simp [this]
    | succ j =>
      have hj : j < r.length := by simpa using h
      have := lookup_rev_zip r (n + 1) nd.2 j hj
      rw [List.append_nil] at this
      simp only [List.getElem_cons_succ, this]
      simp; omega

noncomputable def mapL (sc : Scope) (binds : List (Str × Value)) : List (Str × Value) := binds.filter fun p => sc.names.lookup p.1 == some .local
theorem bindL_eq (k : Str → Option NameKind) : ∀ (binds : List (Str × Value)) (m : Str → Option Value) (x : Str), (binds.map Prod.fst).Nodup → bindL k binds m x = ((binds.filter fun p => k p.1 == some .local).lookup x).or (m x)
  | [], m, x, _ => by simp [bindL]
  | (n, v) :: r, m, x, nd => by
    rw [List.map_cons, List.nodup_cons] at nd
    unfold bindL
    rw [bindL_eq k r _ x nd.2]
    by_cases hk : k n = some .local
    · rw [if_pos hk]
      rw [List.filter_cons_of_pos (by simp [hk]), List.lookup_cons]
      by_cases hx : x = n
      · subst hx
        have : (r.filter fun p => k p.1 == some .local).lookup x = none := by
          rw [List.lookup_eq_none_iff]
          intro p hp
          rw [bne_iff_ne]
          exact fun e => nd.1 (List.mem_map.mpr ⟨p, (List.mem_filter.mp hp).1, e.symm⟩)
        simp [this]
      · simp [beq_eq_false_iff_ne.mpr hx, hx]
    · rw [if_neg hk, List.filter_cons_of_neg (by simp [hk])]
theorem bindC_eq (k : Str → Option NameKind) : ∀ (binds : List (Str × Value)) (m : Str → Option Value) (x : Str), (binds.map Prod.fst).Nodup → k x ≠ some .local → bindC k binds m x = (binds.lookup x).or (m x)
  | [], m, x, _, _ => by simp [bindC]
  | (n, v) :: r, m, x, nd, hx => by
    rw [List.map_cons, List.nodup_cons] at nd
    unfold bindC
    rw [bindC_eq k r _ x nd.2 hx, List.lookup_cons]
    by_cases e : x = n
    · subst e
      rw [if_neg hx]
      have : r.lookup x = none := by
        rw [List.lookup_eq_none_iff]
        intro p hp
        rw [bne_iff_ne]
        exact fun e => nd.1 (List.mem_map.mpr ⟨p, hp, e.symm⟩)
      simp [this]
    · rw [beq_eq_false_iff_ne.mpr e]
      by_cases hk : k n = some .local
      · rw [if_pos hk]
      · rw [if_neg hk]; simp [e]

noncomputable def kindsC (sc : Scope) (binds : List (Str × Value)) (ks : List Str) : Bool := sc.kind == .function && !sc.isCoroutine && !sc.isGenerator && (binds.all fun x => sc.names.lookup x.1 == some .local || sc.names.lookup x.1 == some .cell) &&
  (ks.all fun x => sc.names.lookup x == some .local && !(x == ("__debug__" : Str))) && decide ks.Nodup && decide (binds.map Prod.fst).Nodup && decide (cellNames sc.names).Nodup &&
  ((cellNames sc.names).all fun x => sc.names.lookup x == some .cell && !(x == ("__debug__" : Str)) && !(x == ("__classdict__" : Str)))
noncomputable def CellsAt (env : Env) : List Str → List Addr → Prop
  | x :: xs, c :: cs => CellOk env .cell x c ∧ CellsAt env xs cs
  | [], [] => True
  | _, _ => False
noncomputable def cellLed : List (Option Value) → List Addr → Ledger
  | v :: vs, c :: cs => (c, IsCel v) :: cellLed vs cs
  | _, _ => []
theorem cellsAt_of {env : Env} : ∀ (ks : List Str) (n : Nat), (∀ i (h : i < ks.length), CellOk env .cell ks[i] (n + i)) → CellsAt env ks (List.range' n ks.length)
  | [], _, _ => trivial
  | k :: r, n, h => ⟨h 0 (by simp), cellsAt_of r (n + 1) fun i hi => by have := h (i + 1) (by simpa using hi); simp only [List.getElem_cons_succ] at this; rwa [show n + 1 + i = n + (i + 1) by omega]⟩
theorem cellLed_mem : ∀ (vs : List (Option Value)) (n : Nat) (p : Addr × Cell), p ∈ cellLed vs (List.range' n vs.length) → ∃ i, ∃ h : i < vs.length, p = (n + i, IsCel vs[i])
  | [], _, _, h => by simp [cellLed] at h
  | v :: vs, n, p, h => by
    simp only [List.length_cons, List.range'_succ, cellLed] at h
    rcases List.mem_cons.mp h with rfl | h
    · exact ⟨0, by simp, rfl⟩
    · obtain ⟨i, hi, e⟩ := cellLed_mem vs (n + 1) p h
      exact ⟨i + 1, by simpa using hi, by rw [e]; simp; omega⟩
theorem cellLed_keys : ∀ (vs : List (Option Value)) (n : Nat), (cellLed vs (List.range' n vs.length)).map Prod.fst = List.range' n vs.length
  | [], _ => rfl
  | v :: vs, n => by simp only [List.length_cons, List.range'_succ, cellLed, List.map_cons, cellLed_keys vs (n + 1)]

section
variable {W : Wd} {G : Gens} {env : Env} {loc loc' : Loc} {nw nw' : Ledger} {s : Shared} {A : Around} {E : Value → Shared → Prop}
theorem Sta.call_fnC {Q : Value → Shared → Prop} {f : Addr} {qual : Str} {st : Stmt} {dV kV cdv : Value} {pos : List Value} {kw : List (Str × Value)} {binds : List (Str × Value)} (bl : List (Str × Value)) (rest : List Str) (cv : List (Option Value))
    (S : Sta W G env loc nw s) (hf : Fn W.K f st qual dV kV cdv) (hroom : A.depth < recursionLimit) (hbind : Binds s st qual dV kV cdv ⟨pos, kw⟩ binds)
    (hbl : mapL (fnScope st) binds = bl) (hcv : (cellNames (fnScope st).names).map (fun n => binds.lookup n) = cv) (hk : kindsC (fnScope st) binds (bl.map Prod.fst ++ rest) = true)
    (h : ∀ L cs s', CellsAt (envOfC qual (fnScope st) L f cdv) (cellNames (fnScope st).names) cs → Sta W G (envOfC qual (fnScope st) L f cdv) (mkLoc bl rest) (cellLed cv cs ++ ((env.locals, IsNs loc) :: nw)) s' →
      wpAny (model W.prog W.w) (A.deeper (envOfC qual (fnScope st) L f cdv)) (execs (fnBody st) (envOfC qual (fnScope st) L f cdv)) (fun fl s'' => Q (match fl with | .ret v => v | _ => .none) s'') (fun _ _ => False) s') :
    wpAny (model W.prog W.w) A (call (.ref f) pos kw) Q E s := by
  obtain ⟨name, doc, pm, ct, oc, an, od, osl, ho⟩ := hf.at_
  simp only [kindsC, Bool.and_eq_true, beq_iff_eq, Bool.not_eq_true', List.all_eq_true, bne_iff_ne, decide_eq_true_eq, Bool.or_eq_true] at hk
  obtain ⟨⟨⟨⟨⟨⟨⟨⟨hkind, hco⟩, hgen⟩, hbk⟩, hks⟩, hnd⟩, hbnd⟩, hcnd⟩, hcs⟩ := hk
  have hks2 : ((mkLoc bl rest).map Prod.fst) = bl.map Prod.fst ++ rest := by
    simp [mkLoc, List.map_map, Function.comp_def]
  have hcf : cellsFrom (s.heap.objs.size + 1) (fnScope st).names [] = ((cellNames (fnScope st).names).zip (List.range' (s.heap.objs.size + 1) (cellNames (fnScope st).names).length)).reverse ++ [] := cellsFrom_eq _ _ _
  have hlk : ∀ i (hi : i < (cellNames (fnScope st).names).length), (cellsFrom (s.heap.objs.size + 1) (fnScope st).names []).lookup (cellNames (fnScope st).names)[i] = some (s.heap.objs.size + 1 + i) := fun i hi => by
    rw [hcf]; exact lookup_rev_zip _ _ hcnd i hi
  refine wpAny_call (codeAny_call_function (fd := fnOf name qual (fnArgs st) (fnBody st) (fnScope st) dV kV doc pm an cdv ct) hroom (S.kin _ _ ho) rfl hco hgen rfl (codeRec_of S.kin hf.code) (hbind _ _ _ _ _ _ _ _ _ ?_))
  refine wpAny_newFunctionEnv_cells hkind (fun x hx => ?_) fun env' he s' X => ?_
  · rcases hbk x hx with q | q
    · exact .inl q
    · refine .inr ⟨q, ?_⟩
      have : x.1 ∈ cellNames (fnScope st).names := by
        refine List.mem_map.mpr ⟨(x.1, .cell), List.mem_filter.mpr ⟨mem_of_lookup q, rfl⟩, rfl⟩
      obtain ⟨i, hi, e⟩ := List.getElem_of_mem this
      rw [← e, hlk i hi]; rfl
  · subst he
    have hkp := X.toInCall.keep
    obtain ⟨h₁, tk, e⟩ := X.toInCall.same
    refine ⟨S.nolimit.keeps hkp, codeAny_func ?_⟩
    have hlen : cv.length = (cellNames (fnScope st).names).length := by rw [← hcv]; simp
    have hE : newEnv (fnScope st) s.heap.objs.size mainGlobals (cellsFrom (s.heap.objs.size + 1) (fnScope st).names []) (qual ++ ".<locals>.") (some f) cdv none builtinsNs = envOfC qual (fnScope st) s.heap.objs.size f cdv := rfl
    have D : Led W.B (cellLed cv (List.range' (s.heap.objs.size + 1) cv.length) ++ ((s.heap.objs.size, IsNs (mkLoc bl rest)) :: (env.locals, IsNs loc) :: nw)) s'.heap := by
      have D0 : Led W.B ((s.heap.objs.size, IsNs (mkLoc bl rest)) :: (env.locals, IsNs loc) :: nw) s'.heap := by
        obtain ⟨o, es, ep, ho', hd, hsk, hf⟩ := X.toInCall.ns
        refine S.led.cons_new hkp S.led.size_ne S.led.size_new ho' ⟨by rw [hks2]; exact hnd, es, ep, hd, hsk, fun x => ?_⟩
        have hnd2 : (bl.map Prod.fst).Nodup := hnd.sublist (List.sublist_append_left _ _)
        rw [hf x, bindL_eq _ _ _ _ hbnd, Option.or_none, lk_mkLoc _ _ hnd2]
        show (mapL (fnScope st) binds).lookup x = _
        rw [hbl]
        have hrev : ∀ (l : List (Str × Value)), (l.map Prod.fst).Nodup → l.lookup x = l.reverse.lookup x := by
          intro l hl
          induction l with
          | nil => rfl
          | cons p r ih =>
            rw [List.map_cons, List.nodup_cons] at hl
            rw [List.reverse_cons, List.lookup_append, ← ih hl.2, List.lookup_cons, List.lookup_cons]
            by_cases q : x = p.1
            · subst q
              have : r.lookup p.1 = none := by
                rw [List.lookup_eq_none_iff]
                intro z hz
                rw [bne_iff_ne]
                exact fun e => hl.1 (List.mem_map.mpr ⟨z, hz, e.symm⟩)
              simp [this]
            · rw [beq_eq_false_iff_ne.mpr q]; simp
        exact hrev bl hnd2
      have hcell : ∀ i (hi : i < cv.length), s'.heap.IsCell (s.heap.objs.size + 1 + i) cv[i] := fun i hi => by
        have hi' : i < (cellNames (fnScope st).names).length := by rw [← hlen]; exact hi
        have := X.cell _ _ (hlk i hi')
        have hkc : (fnScope st).names.lookup (cellNames (fnScope st).names)[i] = some .cell := (hcs _ (List.getElem_mem hi')).1.1
        have e2 : bindC (newEnv (fnScope st) s.heap.objs.size mainGlobals (cellsFrom (s.heap.objs.size + 1) (fnScope st).names []) (qual ++ ".<locals>.") (some f) cdv none builtinsNs).kindOf binds (fun _ => none) (cellNames (fnScope st).names)[i] = cv[i] := by
          rw [bindC_eq _ _ _ _ hbnd (by show (fnScope st).names.lookup _ ≠ _; rw [hkc]; decide), Option.or_none]
          simp only [← hcv, List.getElem_map]
        rw [← e2]; exact this
      refine ⟨D0.keep, fun p hp => ?_, ?_⟩
      · rcases List.mem_append.mp hp with hp | hp
        · obtain ⟨i, hi, rfl⟩ := cellLed_mem _ _ _ hp
          obtain ⟨o, ho2, hd2⟩ := hcell i hi
          refine ⟨?_, o, ho2, hd2⟩
          cases q : W.B.get? (s.heap.objs.size + 1 + i) with
          | none => rfl
          | some o2 => exact absurd (Heap.lt_size (S.led.keep _ _ q)) (fun hh => by
              have hh' : s.heap.objs.size + 1 + i < s.heap.objs.size := hh
              omega)
        · exact D0.own p hp
      · rw [List.map_append, List.nodup_append, cellLed_keys]
        refine ⟨List.nodup_range', D0.nodup, fun a ha b hb e => ?_⟩
        subst e
        have hge : s.heap.objs.size + 1 ≤ a := by
          have := List.mem_range'_1.mp ha
          exact this.1
        rw [List.map_cons] at hb
        rcases List.mem_cons.mp hb with q | hb
        · exact absurd q (Nat.ne_of_gt hge)
        · obtain ⟨p, hp, q⟩ := List.mem_map.mp hb
          obtain ⟨o, ho2, _⟩ := (S.led.own p hp).2
          have hl : p.1 < s.heap.objs.size := Heap.lt_size ho2
          exact absurd q (Nat.ne_of_lt (Nat.lt_trans hl hge))
    have S' : Sta W G (envOfC qual (fnScope st) s.heap.objs.size f cdv) (mkLoc bl rest) (cellLed cv (List.range' (s.heap.objs.size + 1) cv.length) ++ ((env.locals, IsNs loc) :: nw)) s' := by
      subst e
      refine ⟨S.ok, by rw [hks2]; exact ⟨hkind, rfl, rfl, fun x hx => (hks x hx).1, fun x hx => (hks x hx).2, hnd⟩, D.perm List.perm_middle, S.bare, S.os, S.gens, S.gnd⟩
    refine wpAny_mono (h _ _ _ ?_ S') (fun fl s'' q => q) (fun _ _ q => q.elim)
    rw [hlen]
    refine cellsAt_of _ _ fun i hi => ⟨(hcs _ (List.getElem_mem hi)).1.1, hlk i hi, (hcs _ (List.getElem_mem hi)).1.2, (hcs _ (List.getElem_mem hi)).2⟩
end
end Mine
end
section
open PySem PySem.W PyProof.Rows PySem.W.X
set_option maxRecDepth 100000
namespace Mine
/-- a thing that is its own iterator -/
noncomputable def SelfIt (W : Wd) (it : Addr) (c : Cell) : Prop := ∀ A s (Q : Value → Shared → Prop) E o, s.heap.get? it = some o → c o → Q (.ref it) s → wpAny (model W.prog W.w) A (pyIter (.ref it)) Q E s

theorem codeAny_compLoop {prog : Program} {w : World} {A : Around} {s : Shared} {R : Result → Shared → Prop} {elt : Expr} {gens : List Comprehension} {scope : Scope} {pos p : Pos} {d : Nat} {target : Expr} {it acc : Value} {env : Env} {body : Sem Unit}
    (hT : compTurn (.ListComp elt gens scope pos) d it acc env = (standAt p >>= fun _ => pyNext it >>= fun r => match r with
      | none => pure (.done .next)
      | some v => letOwnedTupleGo target it v >>= fun _ => assign target env v >>= fun _ => body >>= fun _ => again (.compLoop (.ListComp elt gens scope pos) d it acc env)))
    (I : Nat → Shared → Prop)
    (turn : ∀ n s, I n s → wpAny (model prog w) A (pyNext it) (fun r s₁ => match r with
      | none => R (.ok .next) s₁
      | some v => wpAny (model prog w) A (letOwnedTupleGo target it v) (fun _ s₁ => wpAny (model prog w) A (assign target env v) (fun _ s₂ => wpAny (model prog w) A body (fun _ s₃ => ∃ m, m < n ∧ I m s₃)
          (fun _ _ => False) s₂) (fun _ _ => False) s₁) (fun _ _ => False) s₁) (fun _ _ => False) s)
    (n : Nat) (h : I n s) : codeAny (model prog w) A (.compLoop (.ListComp elt gens scope pos) d it acc env) R s := by
  refine codeAny_loop rfl I (fun n s hI => ?_) n h
  show wpAny _ _ ((compTurn (.ListComp elt gens scope pos) d it acc env).onRaise (fun x => do noteFrame x env; theTreesLotGoes x)) _ _ s
  refine wpAny_noted ?_
  rw [hT]
  refine wpAny_bind (wpAny_standAt (wpAny_bind (wpAny_mono (turn n s hI) (fun r s₁ h₁ => ?_) fun _ _ h' => h'.elim)))
  cases r with
  | none => exact wpAny_pure h₁
  | some v =>
    refine wpAny_bind (wpAny_mono h₁ (fun _ s₁' h₁' => ?_) fun _ _ h' => h'.elim)
    refine wpAny_bind (wpAny_mono h₁' (fun _ s₂ h₂ => wpAny_bind (wpAny_mono h₂ (fun _ s₃ h₃ => ?_) fun _ _ h' => h'.elim)) fun _ _ h' => h'.elim)
    exact wpAny_pure ⟨rfl, h₃⟩

section
variable {W : Wd} {sh : Ledger} {env : Env} {A : Around} {R : Result → Shared → Prop} {it : Addr} {target : Expr} {elt : Expr} {gens : List Comprehension} {scope : Scope} {pos p : Pos} {d : Nat} {acc : Value} {body : Sem Unit}
theorem comp_y {α : Type} {P : α → Value → Prop} (hA : Aok 7 A)
    (hT : compTurn (.ListComp elt gens scope pos) d (.ref it) acc env = (standAt p >>= fun _ => pyNext (.ref it) >>= fun r => match r with
      | none => pure (.done .next)
      | some v => letOwnedTupleGo target (.ref it) v >>= fun _ => assign target env v >>= fun _ => body >>= fun _ => again (.compLoop (.ListComp elt gens scope pos) d (.ref it) acc env)))
    (J : List α → Loc → Ledger → Gens → Prop)
    (turn : ∀ x v rest tl tg loc nw G s, P x v → Sta W (G ++ tg) env loc (nw ++ (sh ++ tl)) s → J (x :: rest) loc nw G →
      wpAny (model W.prog W.w) A (assign target env v) (fun _ s₂ => wpAny (model W.prog W.w) A body (fun _ s₃ => ∃ loc' nw' G', Sta W (G' ++ tg) env loc' (nw' ++ (sh ++ tl)) s₃ ∧ J rest loc' nw' G') (fun _ _ => False) s₂) (fun _ _ => False) s)
    (fin : ∀ loc nw G s, Sta W G env loc (nw ++ sh) s → J [] loc nw G → R (.ok .next) s)
    {vs : List α} {own : Ledger} {og G : Gens} {loc : Loc} {nw : Ledger} {s : Shared} (S : Sta W (G ++ og) env loc (nw ++ (sh ++ own)) s) (hy : YieldsR W sh it P vs own og) (hJ : J vs loc nw G) :
    codeAny (model W.prog W.w) A (.compLoop (.ListComp elt gens scope pos) d (.ref it) acc env) R s := by
  refine codeAny_compLoop hT (fun n s => ∃ vs own og G loc nw, vs.length = n ∧ Sta W (G ++ og) env loc (nw ++ (sh ++ own)) s ∧ YieldsR W sh it P vs own og ∧ J vs loc nw G) (fun n s hI => ?_) vs.length ⟨vs, own, og, G, loc, nw, rfl, S, hy, hJ⟩
  obtain ⟨vs, own, og, G, loc, nw, hn, S, hy, hJ⟩ := hI
  cases vs with
  | nil => exact hy.2 A ((env.locals, IsNs loc) :: nw) G s _ _ hA S.to0 fun s' S' => fin loc nw G s' (St0.toSta S' S.eok) hJ
  | cons x rest =>
    refine hy.2 A ((env.locals, IsNs loc) :: nw) G s _ _ hA S.to0 fun v own' og' s' hpv S' hy' => ?_
    have S1 : Sta W (G ++ og') env loc (nw ++ (sh ++ own')) s' := St0.toSta S' S.eok
    have ht : Typ sh it own' := by cases rest <;> exact hy'.1
    obtain ⟨c, hc, hp⟩ := ht
    obtain ⟨o, ho, hco⟩ := S1.get (a := it) (c := c) (List.mem_append_right _ hc)
    refine tupGo ho (hp o hco) ?_
    refine wpAny_mono (turn x v rest own' og' loc nw G s' hpv S1 hJ) (fun _ s₂ h₂ => wpAny_mono h₂ (fun f s₃ h₃ => ?_) fun _ _ h => h) fun _ _ h => h
    obtain ⟨loc', nw', G', S3, hJ'⟩ := h₃
    exact ⟨rest.length, by rw [← hn]; simp, rest, own', og', G', loc', nw', rfl, S3, hy', hJ'⟩
/-- the start of a comprehension's loop -/
theorem comp_start {c : Cell} {s : Shared} {g : Comprehension} (hg : gens[d]? = some g) (ha : g.is_async = 0) (hs : SelfIt W it c) (m : ∃ o, s.heap.get? it = some o ∧ c o)
    (h : codeAny (model W.prog W.w) A (.compLoop (.ListComp elt gens scope pos) d (.ref it) acc env) R s) :
    codeAny (model W.prog W.w) A (.compStart (.ListComp elt gens scope pos) d (.ref it) acc env) R s := by
  obtain ⟨o, ho, hc⟩ := m
  refine codeAny_of_tree ?_
  show wpAny _ _ ((compStart (.ListComp elt gens scope pos) d (.ref it) acc env).onRaise (fun x => do noteFrame x env; standAt theWindowsPlace)) _ _ s
  refine wpAny_notedAt ?_
  have e : (clausesOf (.ListComp elt gens scope pos))[d]? = some g := hg
  unfold compStart
  rw [e]
  simp only [Option.elim_some, ha]
  show wpAny _ _ (ask >>= _) _ _ s
  refine wpAny_bind (wpAny_askSetting (wpAny_ite ?_))
  split
  · exact wpAny_pure (And.intro rfl h)
  · exact wpAny_bind (wpAny_rule (wpAny_bind (wpAny_standAt (wpAny_bind (hs A _ _ _ o ho hc (wpAny_pure (And.intro rfl h)))))))
end

section
variable {W : Wd} {G : Gens} {env : Env} {loc loc' : Loc} {nw nw' : Ledger} {s : Shared} {A : Around} {E : Value → Shared → Prop}
noncomputable def kindsComp (sc : Scope) (ks : List Str) : Bool := sc.kind == .function && (sc.names.all fun x => x.2 != .cell) && (sc.names.all fun x => x.2 != .local || sc.names.lookup x.1 == some .local) && (ks.all fun x => sc.names.lookup x == some .local && !(x == ("__debug__" : Str))) && decide ks.Nodup
/-- what a comprehension does once its first iterator stands -/
noncomputable def CompK (W : Wd) (A : Around) (env : Env) (e : Expr) (scope : Scope) (cl : List (Str × Addr)) (ks : List Str) (Q : Value → Shared → Prop) (it : Value) (s : Shared) : Prop :=
  ∃ G loc nw, Sta W G env loc nw s ∧ ∀ acc C s', EnvOk (compEnvC scope cl C env) ks → Sta W G (compEnvC scope cl C env) (ks.map fun k => (k, none)) ((acc, IsLst []) :: (env.locals, IsNs loc) :: nw) s' →
    codeAny (model W.prog W.w) A (.compStart e 0 it (.ref acc) (compEnvC scope cl C env)) (fun r s'' => ∃ f loc' nw' G', r = .ok f ∧ Sta W G' (compEnvC scope cl C env) loc' ((env.locals, IsNs loc) :: nw') s'' ∧ ∀ s₃, Sta W G' env loc nw' s₃ → Q (.ref acc) s₃) s'
theorem listComp {elt target iter : Expr} {gens : List Comprehension} {scope : Scope} {pos : Pos} {cl : List (Str × Addr)} {Q : Value → Shared → Prop} (ks : List Str)
    (hclos : closureFor scope env = pure cl) (hk : kindsComp scope ks = true) (he : env.globals = mainGlobals) (hb : env.builtins = builtinsNs)
    (h : wpAny (model W.prog W.w) A (eval iter env) (fun x s₁ => wpAny (model W.prog W.w) A (pyIter x) (fun it s₂ => CompK W A env (.ListComp elt (⟨target, iter, [], 0⟩ :: gens) scope pos) scope cl ks Q it s₂) E s₁) E s)
    (hs : ∀ x, foldedSetIterable iter env x = pure x := by intro _; rfl) :
    wpAny (model W.prog W.w) A (eval (.ListComp elt (⟨target, iter, [], 0⟩ :: gens) scope pos) env) Q E s := by
  simp only [kindsComp, Bool.and_eq_true, beq_iff_eq, Bool.not_eq_true', List.all_eq_true, bne_iff_ne, decide_eq_true_eq, Bool.or_eq_true] at hk
  obtain ⟨⟨⟨⟨hkind, hcell⟩, hnames⟩, hks⟩, hnd⟩ := hk
  rw [eval_ListComp]
  refine wpAny_comprehension_free (use := none) (cl := cl) rfl hs hclos hkind (fun x hx hl => (hnames x hx).resolve_left fun q => q hl) (wpAny_mono h (fun xv s₁ h₁ => wpAny_mono h₁ (fun it s₂ h₂ => ?_) fun _ _ e => e) fun _ _ e => e)
  obtain ⟨G, loc, nw, S, kk⟩ := h₂
  refine S.newList (by simp) fun acc s₃ S₃ => ?_
  refine wpAny_newFunctionEnv hcell (by intro y hy; simp at hy) (fun h₁ hns hsb => ?_) hkind
  have hkp : ∀ b o, s₃.heap.get? b = some o → h₁.get? b = some o := fun b o e => hsb.extBut b o (Nat.ne_of_lt (Heap.lt_size e)) (Heap.get?_push_of_some _ e)
  have D : Led W.B ((s₃.heap.objs.size, IsNs (ks.map fun k => (k, none))) :: (env.locals, IsNs loc) :: (acc, IsLst []) :: nw) h₁ := by
    obtain ⟨o, es, ep, ho', hd, hsk, hf⟩ := hns
    refine S₃.led.cons_new hkp S₃.led.size_ne S₃.led.size_new ho' ⟨by rw [List.map_map]; simpa [Function.comp_def] using hnd, es, ep, hd, hsk, fun x => ?_⟩
    rw [hf x, lk_none]; rfl
  have ek : (ks.map fun k => ((k, none) : Str × Option Value)).map Prod.fst = ks := by rw [List.map_map]; simp [Function.comp_def]
  have eok : EnvOk (compEnvC scope cl s₃.heap.objs.size env) ks := ⟨hkind, he, hb, fun x hx => lookup_relabel_local (hks x hx).1, fun x hx => (hks x hx).2, hnd⟩
  refine codeAny_mono (kk acc s₃.heap.objs.size { s₃ with heap := h₁, toks := s₃.toks + 0 } eok ⟨S₃.ok, by rw [ek]; exact eok, D.perm (List.Perm.cons _ (List.Perm.swap ..)), S₃.bare, S₃.os, S₃.gens, S₃.gnd⟩) fun r s'' h'' => ?_
  obtain ⟨f, loc', nw', G', rfl, S', hQ⟩ := h''
  refine ⟨_, S'.ns, fun h' hs' => hQ _ ⟨S'.ok, S.eok, ?_, S'.bare, S'.os, S'.gens, S'.gnd⟩⟩
  have := Led.dropBack (nw := []) (h' := h') S'.led fun b o hb e => (hs'.2 b hb).trans e
  exact this
end
end Mine
end
section
open PySem PySem.W PyProof.Rows PySem.W.X
set_option maxRecDepth 100000
namespace Mine
noncomputable def IsCodeQ (qual : Str) : Cell := fun o => ∃ vs t, o.data = .fields vs ∧ vs[1]? = some (.str qual t)
noncomputable def IsTab (ps : List Value) : Cell := fun o => o = tabObj ps.toArray
noncomputable def IsLam (qual : Str) (params : Arguments) (body : Expr) (scope : Scope) (clos : List (Str × Addr)) (c' : Addr) : Cell := fun o => ∃ pm ctv, o = kla_obj "<lambda>" qual params body scope clos pm c' ctv
/-- the table of the law's own inner codes: none, or that of its one lambda -/
noncomputable def Tabs (P : Addr) (pos : Pos) (qual : Str) (c? : Option Addr) : Ledger := match c? with
  | none => [(P, IsTab [])]
  | some c' => [(P, IsTab [rawInt pos.line, rawInt pos.col, .ref c']), (c', IsCodeQ qual)]
noncomputable def frees (names : List (Str × NameKind)) : List Str := (names.filter fun p => p.2 == .free).map Prod.fst
theorem closure_go {env : Env} (ca : Str → Addr) (f : Str × NameKind → List (Str × Addr) → Sem (ForInStep (List (Str × Addr))))
    (hf : ∀ x cs, f x cs = if x.2 == .free then (cellOf env x.1 >>= fun c => pure (.yield ((x.1, c) :: cs))) else pure (.yield cs)) :
    ∀ (names : List (Str × NameKind)) (acc : List (Str × Addr)), (∀ x ∈ frees names, env.cells.lookup x = some (ca x)) →
    forIn names acc f = (pure (((frees names).map fun x => (x, ca x)).reverse ++ acc) : Sem _)
  | [], acc, _ => rfl
  | (n, k) :: r, acc, h => by
    rw [List.forIn_cons, hf]
    cases hk : k == .free with
    | true =>
      have e : frees ((n, k) :: r) = n :: frees r := by simp [frees, hk]
      have hc : cellOf env n = pure (ca n) := by unfold cellOf; rw [h n (by rw [e]; exact .head _)]
      simp only [if_true, hc, pure_bind]
      rw [closure_go ca f hf r _ fun x hx => h x (by rw [e]; exact .tail _ hx), e]
      simp
    | false =>
      have e : frees ((n, k) :: r) = frees r := by simp [frees, hk]
      simp only [Bool.false_eq_true, if_false, pure_bind]
      rw [closure_go ca f hf r _ fun x hx => h x (by rw [e]; exact hx), e]
theorem closure_eq {scope : Scope} {env : Env} (ca : Str → Addr) (h : ∀ x ∈ frees scope.names, env.cells.lookup x = some (ca x)) : closureFor scope env = pure (((frees scope.names).map fun x => (x, ca x)).reverse) := by
  simp only [closureFor]
  rw [closure_go ca _ (fun x cs => by obtain ⟨n, k⟩ := x; cases hk : k == NameKind.free <;> simp) _ _ h]
  simp
theorem closure_one {scope : Scope} {env : Env} {x : Str} {c : Addr} (h : frees scope.names = [x]) (hc : CellOk env .cell x c) : closureFor scope env = pure [(x, c)] := by
  rw [closure_eq (fun _ => c) (by rw [h]; intro y hy; rw [List.mem_singleton.mp hy]; exact hc.at_), h]; rfl
section
variable {W : Wd} {G : Gens} {env : Env} {loc loc' : Loc} {nw nw' : Ledger} {s : Shared} {A : Around} {E : Value → Shared → Prop}
theorem Sta.bmAt (S : Sta W G env loc nw s) {P : Addr} {c : Cell} (m : (P, c) ∈ nw) : ∃ mg, s.heap.Ns mainGlobals mg ∧ mainGlobals ≠ P ∧ s.heap.BuiltinsAt mg P := by
  obtain ⟨mg, bm, ob, hg, h1, h2, h3, h4, h5, h6, h7⟩ := S.ok.bm
  have hB := (S.led.own _ (.tail _ m)).1
  refine ⟨mg, hg.keeps S.led.keep, fun q => ?_, bm, ob, h1, h2, h3, fun q => ?_, S.led.keep _ _ h4, h5, h6, h7⟩
  · obtain ⟨o, es, ep, e, _⟩ := hg
    rw [q] at e; rw [hB] at e; cases e
  · rw [q] at h4; rw [hB] at h4; cases h4
theorem Sta.lambda {params : Arguments} {body : Expr} {scope : Scope} {pos : Pos} {clos : List (Str × Addr)} {P c : Addr} {c? : Option Addr} {Q : Value → Shared → Prop}
    (S : Sta W G env loc (Tabs P pos (env.qual ++ "<lambda>") c? ++ nw) s) (hdef : defaultsOf params env = ([], [])) (hcl : closureFor scope env = pure clos) (hcode : env.code = .ref c) (C : CodeHd W.B c P)
    (h : ∀ f c' s', Sta W G env loc ((f, IsLam (env.qual ++ "<lambda>") params body scope clos c') :: (Tabs P pos (env.qual ++ "<lambda>") (some c') ++ nw)) s' → Q (.ref f) s') :
    wpAny (model W.prog W.w) A (eval (.Lambda params body scope pos) env) Q E s := by
  refine kla_eval hdef ?_
  cases c? with
  | none =>
    have m : (P, IsTab []) ∈ Tabs P pos (env.qual ++ "<lambda>") none ++ nw := .head _
    obtain ⟨mg, hg, hgP, hb⟩ := S.bmAt m
    obtain ⟨o, hP, rfl⟩ := S.get m
    refine kla_makeFunction hcl S.eok.glob hg hcode (C.keeps S.led.keep) hP trivial rfl hgP hb fun c' ctv h' tk hx hge hlt hrec hP' => ?_
    obtain ⟨c2, oc, vs, t, e, hc, hd, hv⟩ := hrec
    cases e
    refine h _ c' _ ?_
    have D := S.led
    have hne : ∀ p ∈ ((env.locals, IsNs loc) :: (Tabs P pos (env.qual ++ "<lambda>") none ++ nw)), p.1 ≠ c' := fun p hp q => by
      obtain ⟨o2, ho2, _⟩ := (D.own p hp).2
      have := Heap.lt_size ho2
      rw [q] at this
      exact absurd hge (Nat.not_le.mpr this)
    have D1 : Led W.B ((env.locals, IsNs loc) :: (P, IsTab [rawInt pos.line, rawInt pos.col, .ref c']) :: nw) h' := by
      refine D.set (a := P) (c := IsTab []) (.tail .head) (fun b o hb e => hx b o hb e) hP' ?_
      show tabObj _ = tabObj _
      simp
    have D2 : Led W.B ((c', IsCodeQ (env.qual ++ "<lambda>")) :: (env.locals, IsNs loc) :: (P, IsTab [rawInt pos.line, rawInt pos.col, .ref c']) :: nw) h' := by
      refine D1.cons_new (fun _ _ e => e) (fun q => ?_) ?_ hc ⟨vs, t, hd, hv⟩
      · obtain ⟨p, hp, e⟩ := List.mem_map.mp q
        rcases List.mem_cons.mp hp with rfl | hp
        · exact hne _ (.head _) e
        rcases List.mem_cons.mp hp with rfl | hp
        · exact hne (P, IsTab []) (.tail _ (.head _)) e
        · exact hne p (.tail _ (.tail _ hp)) e
      · cases q : W.B.get? c' with
        | none => rfl
        | some o2 => exact absurd (Heap.lt_size (D.keep _ _ q)) (Nat.not_lt.mpr hge)
    have D3 := D2.new (c := IsLam (env.qual ++ "<lambda>") params body scope clos c') (o := kla_obj "<lambda>" (env.qual ++ "<lambda>") params body scope clos ((mg "__name__").getD .none) c' ctv) rfl ⟨_, _, rfl⟩
    refine ⟨S.ok, S.eok, D3.perm ?_, S.bare, S.os, S.gens, S.gnd⟩
    show List.Perm (_ :: (c', _) :: (env.locals, _) :: (P, _) :: nw) ((env.locals, _) :: _ :: (P, _) :: (c', _) :: nw)
    refine (List.Perm.cons _ (List.Perm.swap ..)).trans ((List.Perm.swap ..).trans (List.Perm.cons _ (List.Perm.cons _ (List.Perm.swap ..))))
  | some c' =>
    have m : (P, IsTab [rawInt pos.line, rawInt pos.col, .ref c']) ∈ Tabs P pos (env.qual ++ "<lambda>") (some c') ++ nw := .head _
    obtain ⟨mg, hg, hgP, hb⟩ := S.bmAt m
    obtain ⟨o, hP, rfl⟩ := S.get m
    refine kla_makeFunctionHit (cv := .ref c') hcl S.eok.glob hg hcode (C.keeps S.led.keep) hP ⟨⟩ (by simp [codeAmong, rawInt]) hb fun ctv h' tk hk _ => ?_
    refine h _ c' _ ?_
    exact (S.grow hk tk).new (c := IsLam (env.qual ++ "<lambda>") params body scope clos c') rfl ⟨_, _, rfl⟩ tk
theorem Sta.call_lam {qual : Str} {params : Arguments} {body : Expr} {scope : Scope} {clos : List (Str × Addr)} {f c' : Addr} {Q : Value → Shared → Prop} {pos : List Value} {binds : List (Str × Value)}
    (S : Sta W G env loc nw s) (m : (f, IsLam qual params body scope clos c') ∈ nw) (mc : (c', IsCodeQ qual) ∈ nw) (hroom : A.depth < recursionLimit)
    (hbind : ∀ pm ctv, bindArgs (kla_fn "<lambda>" qual params body scope clos pm (.ref c') ctv) ⟨pos, []⟩ = pure binds) (hk : kindsOk scope (binds.map Prod.fst) = true)
    (h : ∀ L s', Sta W G (envX qual scope L f (.ref c') clos) (mkLoc binds []) ((env.locals, IsNs loc) :: nw) s' →
      wpAny (model W.prog W.w) (A.deeper (envX qual scope L f (.ref c') clos)) (eval body (envX qual scope L f (.ref c') clos)) Q (fun _ _ => False) s') :
    wpAny (model W.prog W.w) A (call (.ref f) pos) Q E s := by
  simp only [kindsOk, Bool.and_eq_true, beq_iff_eq, Bool.not_eq_true', List.all_eq_true, bne_iff_ne, decide_eq_true_eq] at hk
  obtain ⟨⟨⟨⟨⟨hkind, hco⟩, hgen⟩, hcell⟩, hks⟩, hnd⟩ := hk
  have hks2 : ((mkLoc binds []).map Prod.fst) = binds.map Prod.fst := by
    simp [mkLoc, List.map_map, Function.comp_def]
  obtain ⟨o, ho, pm, ctv, rfl⟩ := S.get m
  obtain ⟨oc, hoc, vs, t, hd, hv⟩ := S.get mc
  refine wpAny_call (kla_callFunE hroom ho rfl hco hgen rfl ⟨c', oc, vs, t, rfl, hoc, hd, hv⟩ ?_)
  rw [hbind]
  refine wpAny_pure (wpAny_newFunctionEnv hcell (fun x hx => (hks x.1 (List.mem_map.mpr ⟨x, hx, rfl⟩)).1) (fun h₁ hns hsb => ?_) hkind)
  have hkp : ∀ b o, s.heap.get? b = some o → h₁.get? b = some o := fun b o e => hsb.extBut b o (Nat.ne_of_lt (Heap.lt_size e)) (Heap.get?_push_of_some _ e)
  refine ⟨S.nolimit.keeps hkp, kla_codeExpr ?_⟩
  have D : Led W.B ((s.heap.objs.size, IsNs (mkLoc binds [])) :: (env.locals, IsNs loc) :: nw) h₁ := by
    obtain ⟨o, es, ep, ho', hd, hsk, hf⟩ := hns
    refine S.led.cons_new hkp S.led.size_ne S.led.size_new ho' ⟨by rw [hks2]; exact hnd, es, ep, hd, hsk, fun x => ?_⟩
    rw [hf x, lk_mkLoc _ _ hnd]
  have S' : Sta W G (envX qual scope s.heap.objs.size f (.ref c') clos) (mkLoc binds []) ((env.locals, IsNs loc) :: nw) { s with heap := h₁, toks := s.toks + binds.length } :=
    ⟨S.ok, by rw [hks2]; exact ⟨hkind, rfl, rfl, fun x hx => (hks x hx).1, fun x hx => (hks x hx).2, hnd⟩, D, S.bare, S.os, S.gens, S.gnd⟩
  exact wpAny_mono (h _ _ S') (fun fl s'' q => q) (fun _ _ q => q.elim)
end
end Mine
end
section
open PySem PySem.W PyProof.Rows PySem.W.X
set_option maxRecDepth 100000
namespace Mine
noncomputable def IsRng (a b : Int) : Cell := fun o => ∃ t u v, o = { cls := .type "range", dict := none, data := .fields #[.int a t, .int b u, .int 1 v], slots := #[] }
noncomputable def IsRngIt (x left : Int) : Cell := fun o => o = { cls := .type "range_iterator", dict := none, data := .fields #[rawInt x, rawInt left, rawInt 1], slots := #[] }
theorem plain_rng {d : Option Addr} {dt : Data} {sl : Array (Option Value)} : plainIt { cls := .type "range_iterator", dict := d, data := dt, slots := sl } = true := by unfold plainIt; dsimp only; decide
theorem yields_range {W : Wd} {sh : Ledger} {it : Addr} : ∀ (n a : Nat), YieldsR W sh it (fun (k : Nat) v => ∃ t, v = .int (k : Int) t) (List.range' a n) [(it, IsRngIt (a : Int) (n : Int))] []
  | 0, a => ⟨⟨IsRngIt (a : Int) ((0 : Nat) : Int), by simp, fun o h => by rw [h]; exact plain_rng⟩, fun A R GR s Q E hA S hQ => by
    have D0 : Led W.B ((R ++ sh) ++ ((it, IsRngIt (a : Int) ((0 : Nat) : Int)) :: [])) s.heap := by rw [List.append_assoc]; exact S.led
    obtain ⟨o, ho, rfl⟩ := D0.get (a := it) (c := IsRngIt (a : Int) ((0 : Nat) : Int)) (by simp)
    refine wpAny_pyNext_range_end hA.handled ho (by simp) fun h' hx => hQ _ ?_
    refine ⟨S.ok, ?_, S.bare, S.os, fun p hp => S.gens p (by simpa using hp), by simpa using S.gnd⟩
    exact (D0.dropBack fun b o hb e => hx b o hb e).sub (List.sublist_append_left _ _)⟩
  | n + 1, a => by
    rw [List.range'_succ]
    refine ⟨⟨IsRngIt (a : Int) ((n + 1 : Nat) : Int), by simp, fun o h => by rw [h]; exact plain_rng⟩, ?_⟩
    intro A R GR s Q E hA S hQ
    have D0 : Led W.B ((R ++ sh) ++ ((it, IsRngIt (a : Int) ((n + 1 : Nat) : Int)) :: [])) s.heap := by rw [List.append_assoc]; exact S.led
    obtain ⟨o, ho, rfl⟩ := D0.get (a := it) (c := IsRngIt (a : Int) ((n + 1 : Nat) : Int)) (by simp)
    refine wpAny_pyNext_range_item ho (by omega) fun h' hit hs => ?_
    have D1 := D0.back (c' := IsRngIt ((a + 1 : Nat) : Int) (n : Int)) (h' := h') (fun b o hb e => (hs.2 b hb).trans e) hit (by
      have e1 : ((a : Int) + 1) = ((a + 1 : Nat) : Int) := by omega
      have e2 : (((n + 1 : Nat) : Int) - 1) = (n : Int) := by omega
      rw [e1, e2]; rfl)
    rw [List.append_assoc] at D1
    exact hQ _ _ [] _ ⟨_, rfl⟩ ⟨S.ok, D1, S.bare, S.os, S.gens, S.gnd⟩ (yields_range n (a + 1))

theorem self_li {W : Wd} {it l : Addr} {i : Nat} : SelfIt W it (IsLI l i) := fun A s Q E o ho hc h => wpAny_pyIter_listiter ⟨o, ho, hc.1, hc.2⟩ h

section
variable {W : Wd} {G : Gens} {env : Env} {loc loc' : Loc} {nw nw' : Ledger} {s : Shared} {A : Around} {E : Value → Shared → Prop}
theorem Sta.range1 {n : Int} {t : Tok} {Q : Value → Shared → Prop} (S : Sta W G env loc nw s) (h : ∀ r s', Sta W G env loc ((r, IsRng 0 n) :: nw) s' → Q (.ref r) s') : wpAny (model W.prog W.w) A (call (.type "range") [.int n t]) Q E s :=
  call_range_1 (h _ _ (S.new (c := IsRng 0 n) rfl ⟨_, _, _, rfl⟩ _))
theorem Sta.iterRange {r : Addr} {a b : Nat} {Q : Value → Shared → Prop} (S : Sta W G env loc nw s) (m : (r, IsRng (a : Int) (b : Int)) ∈ nw) (ha : a ≤ 1000000) (hb : b ≤ 1000000) (h : ∀ it s', Sta W G env loc ((it, IsRngIt (a : Int) ((b - a : Nat) : Int)) :: nw) s' → Q (.ref it) s') :
    wpAny (model W.prog W.w) A (pyIter (.ref r)) Q E s := by
  obtain ⟨o, ho, t, u, v, rfl⟩ := S.get m
  refine wpAny_pyIter_range ho (small_one (by omega) (by omega) (by omega) (by omega)) (h _ _ (S.new (c := IsRngIt (a : Int) ((b - a : Nat) : Int)) rfl ?_ s.toks))
  rw [rangeSize_one]
  have : (if (a : Int) < (b : Int) then (b : Int) - (a : Int) else 0) = ((b - a : Nat) : Int) := by split <;> omega
  rw [this]; rfl
theorem Sta.iterList {l : Addr} {xs : List Value} {Q : Value → Shared → Prop} (S : Sta W G env loc nw s) (m : (l, IsLst xs) ∈ nw) (h : ∀ it s', Sta W G env loc ((it, IsLI l 0) :: nw) s' → Q (.ref it) s') :
    wpAny (model W.prog W.w) A (pyIter (.ref l)) Q E s :=
  wpAny_pyIter_list (S.isList m) (h _ _ (S.new (c := IsLI l 0) rfl ⟨rfl, rfl⟩ s.toks))
theorem Sta.iterBase {l : Addr} {xs : List Value} {Q : Value → Shared → Prop} (S : Sta W G env loc nw s) (m : W.B.IsList l xs.toArray) (h : ∀ it s', Sta W G env loc ((it, IsLI l 0) :: nw) s' → Q (.ref it) s') :
    wpAny (model W.prog W.w) A (pyIter (.ref l)) Q E s :=
  wpAny_pyIter_list (let ⟨o, e, r⟩ := m; ⟨o, S.led.keep _ _ e, r⟩) (h _ _ (S.new (c := IsLI l 0) rfl ⟨rfl, rfl⟩ s.toks))
theorem Sta.reversed {l : Addr} {xs : List Value} {Q : Value → Shared → Prop} (S : Sta W G env loc nw s) (m : (l, IsLst xs) ∈ nw) (h : ∀ it s', Sta W G env loc ((it, IsRI l ((xs.length : Int) - 1)) :: nw) s' → Q (.ref it) s') :
    wpAny (model W.prog W.w) A (call (.type "reversed") [.ref l]) Q E s :=
  call_reversed_list (S.isList m) (h _ _ (S.new (c := IsRI l ((xs.length : Int) - 1)) rfl ⟨rfl, by simp [revObj]⟩ s.toks))
theorem Sta.iterRev {it l : Addr} {i : Int} {Q : Value → Shared → Prop} (S : Sta W G env loc nw s) (m : (it, IsRI l i) ∈ nw) (h : Q (.ref it) s) : wpAny (model W.prog W.w) A (pyIter (.ref it)) Q E s := by
  obtain ⟨o, ho, hc, hd⟩ := S.get m
  exact wpAny_pyIter_revIter ⟨o, ho, hc, hd⟩ h
/-- items -/
theorem Sta.item {l : Addr} {xs : List Value} {k : Int} {t : Tok} {v : Value} {Q : Value → Shared → Prop} (S : Sta W G env loc nw s) (m : (l, IsLst xs) ∈ nw) (h0 : 0 ≤ k) (h1 : k < 1000000) (hx : xs[k.toNat]? = some v) (h : Q v s) :
    wpAny (model W.prog W.w) A (getItem (.ref l) (.int k t)) Q E s := wpAny_getItem_list (S.isList m) h0 (by omega) (by simpa using hx) h
theorem Sta.setItem {l : Addr} {xs : List Value} {k : Int} {t : Tok} {v : Value} {Q : Unit → Shared → Prop} (S : Sta W G env loc nw s) (U : Upd l (IsLst xs) (IsLst (xs.set k.toNat v)) nw nw') (h0 : 0 ≤ k) (h1 : k < 1000000) (hx : k.toNat < xs.length) (h : ∀ s', Sta W G env loc nw' s' → Q () s') :
    wpAny (model W.prog W.w) A (PySem.setItem (.ref l) (.int k t) v) Q E s := by
  obtain ⟨n, hl⟩ := S.isL U.mem
  have hT : s.TypeIs (.ref l) "list" := ⟨_, hl, rfl⟩
  have hj : k.toNat < xs.toArray.size := by simpa using hx
  have hS := h _ (S.setL hl (·.setIfInBounds k.toNat v) (by simp) U s.toks)
  have hfit := fitsIndex_of h0 (by omega)
  clear h1 h hx
  unfold PySem.setItem
  refine wpAny_holding (wpAny_bind (wpAny_sequenceKey hT (by decide) ?_))
  refine wpAny_bind (wpAny_callSpecial?_slot (name := Str.ofString "__setitem__") hT F.slot_list_setitem (wpAny_call_entry F.slot_list_setitem hT F.entry_list_setitem ?_ (F.args_list_setitem_3 _ _ _)))
  show wpAny _ _ (Builtin.List.listSubscript? (.int k t) >>= _) _ _ s
  refine wpAny_bind (wpAny_listSubscript_int hfit ?_)
  clear hfit
  obtain ⟨j, rfl⟩ := Int.eq_ofNat_of_zero_le h0
  have hj : j < xs.toArray.size := hj
  show wpAny _ _ ((seqItemAt l j >>= fun r => pure (r.map (j, ·))) >>= _) _ _ s
  refine wpAny_bind (wpAny_bind (wpAny_seqItemAt hl rfl (wpAny_pure ?_)))
  rw [Array.getElem?_eq_getElem hj]
  show wpAny _ _ (setSeqItemAt l j v >>= _) _ _ s
  refine wpAny_bind (wpAny_setSeqItemAt hl rfl ?_)
  exact wpAny_pure ⟨.none, rfl, wpAny_pure hS⟩
theorem Sta.sub_list {l : Addr} {xs : List Value} {k : Int} {t : Tok} {v : Value} {Q : Value → Shared → Prop} (S : Sta W G env loc nw s) (m : (l, IsLst xs) ∈ nw) (h0 : 0 ≤ k) (h1 : k < 1000000) (hx : xs[k.toNat]? = some v) (h : Q v s) :
    SubscriptOn (model W.prog W.w) A (.ref l) (.int k t) Q E s := ⟨"list", _, F.slot_list_getitem.lookup, (S.isList m).typeIs, S.item m h0 h1 hx h⟩
/-- any subscript by an index, whatever stands ahead of it -/
theorem Subscript_any {value slice : Expr} {pos : Pos} {Q : Value → Shared → Prop}
    (h : wpAny (model W.prog W.w) A (eval value env) (fun o s₁ => wpAny (model W.prog W.w) A (eval slice env) (fun i s₂ => SubscriptOn (model W.prog W.w) A o i Q E s₂) E s₁) E s)
    (he : ∀ o i, subscripted slice false o i = operate [o, i] (getItem o i)) :
    wpAny (model W.prog W.w) A (eval (.Subscript value slice pos) env) Q E s := by
  rw [eval_Subscript]
  refine wpAny_bind (wpAny_mono h (fun o s₁ h₁ => wpAny_bind (wpAny_holding (wpAny_mono h₁ (fun i s₂ h₂ => wpAny_bind (wpAny_standAt ?_)) fun _ _ x => x))) fun _ _ x => x)
  obtain ⟨T, id, hl, hT, hg⟩ := h₂
  refine wpAny_bind ?_
  rw [getitemInPython_of_ne hT.not_modules]
  refine wpAny_bind (wpAny_specialOf hT hl ?_)
  have fin : wpAny (model W.prog W.w) A (subscripted slice false o i) (fun r s₃ => wpAny (model W.prog W.w) A (letTemporaryGo value o r >>= fun _ => pure r) Q E s₃) E s₂ := by
    rw [he]
    exact wpAny_operating (wpAny_mono hg (fun r s₃ h₃ => wpAny_bind (wpAny_letTemporaryGo (wpAny_pure h₃))) fun _ _ x => x)
  first
    | exact wpAny_pure (wpAny_bind fin)
    | exact wpAny_bind (wpAny_pure (wpAny_bind fin))
    | exact wpAny_bind fin
theorem Sta.fdiv {a b : Int} {t u : Tok} {Q : Value → Shared → Prop} (S : Sta W G env loc nw s) (hb : b ≠ 0) (hp : b.natAbs < 1073741824) (h : ∀ t s', Sta W G env loc nw s' → Q (.int (a.fdiv b) t) s') : wpAny (model W.prog W.w) A (binaryOp .FloorDiv (.int a t) (.int b u)) Q E s :=
  floordiv_int hb (h _ _ (S.toks _)) (.inl (PyProof.noPylong_small hp))
theorem Sta.iadd {a b : Int} {t u : Tok} {Q : Value → Shared → Prop} (S : Sta W G env loc nw s) (h : ∀ t s', Sta W G env loc nw s' → Q (.int (a + b) t) s') : wpAny (model W.prog W.w) A (inplaceOp .Add (.int a t) (.int b u)) Q E s :=
  PyProof.Rows.iadd_int (h _ _ (S.toks _))
/-- a tuple unpacked -/
theorem Sta.isTup {a : Addr} {xs : List Value} (S : Sta W G env loc nw s) (m : (a, IsTpl xs) ∈ nw) : IsTup s.heap a xs.toArray := by
  obtain ⟨o, ho, n, rfl⟩ := S.get m
  exact ⟨_, ho, rfl, n, rfl⟩
theorem Sta.unpackI {a : Addr} {xs : List Value} {n : Nat} {Q : List Value → Shared → Prop} (S : Sta W G env loc nw s) (hh : A.handled = none) (m : (a, IsTpl xs) ∈ nw) (hn : n = xs.length) (h : ∀ s', Sta W G env loc nw s' → Q xs s') : wpAny (model W.prog W.w) A (unpackItems (.ref a) n none) Q E s := by
  subst hn
  have e : xs.length = xs.toArray.size := by simp
  rw [e]
  exact unpackItems_tuple hh (S.isTup m) fun h' he => h _ (S.grow (fun b o e => he b o (Nat.ne_of_lt (Heap.lt_size e)) e) s.toks)
theorem Sta.unpackT {elts : List Expr} {x1} {pos : Pos} {a : Addr} {xs : List Value} {Q : Unit → Shared → Prop} (S : Sta W G env loc nw s) (hh : A.handled = none) (m : (a, IsTpl xs) ∈ nw)
    (hn : (assignEach elts env).length = xs.length) (hstar : (assignEach elts env).findIdx? (·.1) = none) (h : ∀ s', Sta W G env loc nw s' → wpAny (model W.prog W.w) A (assignInOrder ((assignEach elts env).map (·.2)) xs) Q E s') :
    wpAny (model W.prog W.w) A (assign (.Tuple elts x1 pos) env (.ref a)) Q E s :=
  assign_Tuple_tuple hh (S.isTup m) (by simpa using hn) hstar fun h' he => h _ (S.grow (fun b o e => he b o (Nat.ne_of_lt (Heap.lt_size e)) e) s.toks)
/-- a call of a def or class of the text -/
theorem callW {pos : Pos} {f : Addr} {first : List Value} {e : Expr} {rest : List Expr} {Q : Value → Shared → Prop} (hk : keepIn W.K (.ref f) = true)
    (h : wpAny (model W.prog W.w) A (spliced (backTo pos (starEach (e :: rest) env))) (fun vs s₁ => W.K.In s₁.heap ∧ wpAny (model W.prog W.w) A (call (.ref f) (first ++ vs)) Q E s₁) E s)
    (he : starEach (e :: rest) env = (false, eval e env) :: starEach rest env) (hplain : (backTo pos (starEach rest env)).any (·.1) = false) :
    wpAny (model W.prog W.w) A (callWith pos (.ref f) first (backTo pos (starEach (e :: rest) env)) []) Q E s := by
  rw [he] at h ⊢
  refine callWith_of (P := fun h => W.K.In h) (by show (false || (backTo pos (starEach rest env)).any (·.1) || false) = false; rw [hplain]; rfl) (fun h X => keeps_K hk h X) (Calls.evalArgs_plain h)
theorem callW0 {pos : Pos} {f : Addr} {first : List Value} {Q : Value → Shared → Prop} (hk : keepIn W.K (.ref f) = true) (X : W.K.In s.heap)
    (h : wpAny (model W.prog W.w) A (call (.ref f) first) Q E s) :
    wpAny (model W.prog W.w) A (callWith pos (.ref f) first (backTo pos (starEach [] env)) []) Q E s :=
  callWith_of (P := fun h => W.K.In h) rfl (fun h X => keeps_K hk h X) (PySem.evalArgs_none ⟨X, by rw [List.append_nil]; exact h⟩)
end
end Mine
end
section
open PySem PySem.W PyProof.Rows PySem.W.X
set_option maxRecDepth 100000
namespace Mine
theorem lk_list_append : typeLookup (.type "list") "append" = pure (some (.builtin "list.append")) := by rw [typeLookup_type, builtinLookup_eq_fast]; kernel_rfl
theorem lk_md_get : typeLookup (.type "method_descriptor") "__get__" = pure (some (.builtin "method_descriptor.__get__")) := by rw [typeLookup_type, builtinLookup_eq_fast]; kernel_rfl
theorem lk_md_set : typeLookup (.type "method_descriptor") "__set__" = pure none := by rw [typeLookup_type, builtinLookup_eq_fast]; kernel_rfl
theorem lk_md_del : typeLookup (.type "method_descriptor") "__delete__" = pure none := by rw [typeLookup_type, builtinLookup_eq_fast]; kernel_rfl
theorem ty_append : typeOf (.builtin "list.append") = pure (.type "method_descriptor") := by show builtinType _ = _; rw [builtinType_eq_fast]; kernel_rfl
theorem slot_md_get : Slot "method_descriptor" "__get__" "method_descriptor.__get__" :=
  Slot.of lk_md_get (owner := "method_descriptor") (n := "__get__") (by decide +kernel) (by decide +kernel) (by decide +kernel) (.inl (by decide +kernel)) (by rw [isSubtype_type]; kernel_rfl)
theorem entry_md_get : entryFor table "method_descriptor.__get__" = some Builtin.«method_descriptor.__get__» := entryFor_of_tree (by kernel_rfl)
theorem args_md_get (a b c : Value) : argsOk "method_descriptor.__get__" ⟨[a, b, c], []⟩ := by unfold argsOk; kernel_rfl
theorem ty_ga : typeOf (.builtin "list.__getattribute__") = pure (.type "wrapper_descriptor") := by show builtinType _ = _; rw [builtinType_eq_fast]; kernel_rfl
noncomputable def IsBound (id : String) (self : Value) : Cell := fun o => o = { cls := .type "builtin_function_or_method", data := .fields #[.builtin id, self] }
theorem getattr_append {prog : Program} {w : World} {A : Around} {E : Value → Shared → Prop}  {h : Heap} {g : Array GenState} {d : Drawn} {t : Nat} {os : OsState} {a : Addr} {xs : List Value} {n : Nat} {Q : Value → Shared → Prop}
   (hx : h.get? a = some { cls := .type "list", data := .seq xs.toArray n }) (hq : ∀ t, Q (.ref h.objs.size) ⟨h.push { cls := .type "builtin_function_or_method", data := .fields #[.builtin "list.append", .ref a] }, g, d, t, os⟩) :
   wpAny (model prog w) A (getAttr (.ref a) "append" true) Q E ⟨h, g, d, t, os⟩ := by
  have hT : ∀ t, (⟨h, g, d, t, os⟩ : Shared).TypeIs (.ref a) "list" := fun _ => ⟨_, hx, rfl⟩
  unfold getAttr
  refine wpAny_bind (wpAny_mkText ?_)
  unfold getAttrBy
  refine wpAny_holding (wpAny_bind (wpAny_typeOf (hT _) ?_))
  refine wpAny_bind (wpAny_of_eq F.slot_list_getattribute.lookup ?_)
  show wpAny _ _ (getAttrByItsOwn _ _ _ _ _ _) _ _ _
  unfold getAttrByItsOwn
  refine wpAny_bind (wpAny_of_eq (a := none) rfl ?_)
  refine wpAny_bind (wpAny_attempt (wpAny_holding ?_))
  show wpAny _ _ (boundAndCalled _ _ _) _ _ _
  unfold boundAndCalled
  refine wpAny_bind (wpAny_of_eq (a := (.builtin "list.__getattribute__", [.ref a])) (by unfold bindSpecial; rw [ty_ga]; rfl) ?_)
  refine wpAny_call_entry F.slot_list_getattribute (hT _) F.entry_list_ga ?_ (F.args_list_getattribute_2 _ _)
  have L1 : Looks (model prog w) h (typeOf (.ref a)) (.type "list") := (Looks.ld hx).andThen .now
  have L2 : Looks (model prog w) h (typeLookup (.type "list") "append") (some (.builtin "list.append")) := Looks.of_pure lk_list_append
  have L3 : Looks (model prog w) h (specialOf (.builtin "list.append") "__get__") (some (.builtin "method_descriptor.__get__")) := (Looks.of_pure ty_append).andThen (Looks.of_pure lk_md_get)
  have L4 : Looks (model prog w) h (specialOf (.builtin "list.append") "__set__") none := (Looks.of_pure ty_append).andThen (Looks.of_pure lk_md_set)
  have L5 : Looks (model prog w) h (specialOf (.builtin "list.append") "__delete__") none := (Looks.of_pure ty_append).andThen (Looks.of_pure lk_md_del)
  dsimp only
  unfold Builtin.«object.__getattribute__»
  have hB : ∀ t, (⟨h, g, d, t, os⟩ : Shared).TypeIs (.builtin "list.append") "method_descriptor" := fun _ => ty_append
  repeat (first | (with_reducible refine wpAny_call_entry slot_md_get (hB _) entry_md_get ?_ (args_md_get _ _ _)) | lk)
  refine ⟨_, rfl, wpAny_pure ⟨_, rfl, ?_⟩⟩
  rw [handedOut_of rfl]; exact wpAny_pure (hq _)

section
variable {W : Wd} {G : Gens} {env : Env} {loc loc' : Loc} {nw nw' : Ledger} {s : Shared} {A : Around} {E : Value → Shared → Prop}
theorem Sta.getAppend {a : Addr} {xs : List Value} {Q : Value → Shared → Prop} (S : Sta W G env loc nw s) (m : (a, IsLst xs) ∈ nw) (h : ∀ q s', Sta W G env loc ((q, IsBound "list.append" (.ref a)) :: nw) s' → Q (.ref q) s') :
    wpAny (model W.prog W.w) A (getAttr (.ref a) "append" true) Q E s := by
  obtain ⟨n, hl⟩ := S.isL m
  exact getattr_append hl fun t => h _ _ (S.new (c := IsBound "list.append" (.ref a)) rfl rfl t)
theorem Attribute_ {value : Expr} {attr : Str} {pos : Pos} {Q : Value → Shared → Prop} (h : wpAny (model W.prog W.w) A (eval value env) (fun o s₁ => wpAny (model W.prog W.w) A (getAttr o attr true) Q E s₁) E s)
    (hb : attributeBase value attr env (eval value env) = eval value env) : wpAny (model W.prog W.w) A (eval (.Attribute value attr pos) env) Q E s := by
  rw [arm_eval_Attribute, hb]
  exact wpAny_bind (wpAny_mono h (fun o s₁ h₁ => wpAny_bind (wpAny_standAt (wpAny_bind (wpAny_holding (wpAny_mono h₁ (fun r s₂ h₂ => wpAny_bind (wpAny_letTemporaryGo (wpAny_pure h₂))) fun _ _ x => x))))) fun _ _ x => x)
theorem attrs_empty (names : List Str) (hn : names.Nodup) : IsAttrs (names.map fun k => (k, none)) emptyDict := by
  refine ⟨by rw [List.map_map]; simpa [Function.comp_def] using hn, rfl, #[], 0, rfl, fun e he => by simp at he, fun x => by rw [lk_none]; rfl, ?_⟩
  unfold cnt
  induction names with
  | nil => rfl
  | cons k r ih => simpa using ih (by simp at hn; exact hn.2)
/-- an instance made -/
theorem Sta.make {C fI : Addr} (names : List Str) {rest : List Value} {kw : List (Str × Value)} {Q : Value → Shared → Prop} (S : Sta W G env loc nw s) (hn : names.Nodup) (hm : makesIn W.K C = true) (hi : findIn W.K (.ref C) "__init__" = some (some (.ref fI))) (hf : typeIn W.K (.ref fI) = some (.type "function"))
    (h : ∀ x dx s', Sta W G env loc ((x, IsInst C dx) :: (dx, IsAttrs (names.map fun k => (k, none))) :: nw) s' →
      codeAny (model W.prog W.w) (A.under (.builtin "type.__call__" ⟨.ref C :: rest, kw⟩)) (.call (.ref fI) ⟨.ref x :: rest, kw⟩) (fun r s'' => r = .ok (.ret .none) ∧ Q (.ref x) s'') s') :
    wpAny (model W.prog W.w) A (call (.ref C) rest kw) Q E s := by
  have K0 := S.kin
  have S1 := S.new (c := IsAttrs (names.map fun k => (k, none))) (o := emptyDict) rfl (attrs_empty names hn) s.toks
  have S2 := S1.new (c := IsInst C s.heap.objs.size) (o := instObj C s.heap.objs.size) rfl rfl s.toks
  refine wpAny_call ?_
  obtain ⟨hh, g, d, t, os⟩ := s
  refine make_core (makes_of K0 hm) (looks_findIn K0 hi) (fun self => bind_fn K0 self hf) (.inl rfl) ?_
  have e : (hh.push emptyDict).objs.size = hh.objs.size + 1 := Heap.size_push ..
  have := h _ _ _ S2
  dsimp only at this
  rw [e] at this
  refine codeAny_mono this fun r s'' q => ?_
  obtain ⟨rfl, q⟩ := q
  exact ⟨rfl, q⟩
theorem aok_make {k : Nat} {C : Addr} {rest : List Value} {kw : List (Str × Value)} (hA : Aok (k + 1) A) : Aok k (A.under (.builtin "type.__call__" ⟨.ref C :: rest, kw⟩)) := by
  have hw : (Code.builtin "type.__call__" ⟨.ref C :: rest, kw⟩).weight = 1 := by rfl
  have hu : (Code.builtin "type.__call__" ⟨.ref C :: rest, kw⟩).cUnits = 1 := by rfl
  refine ⟨hA.handled, ?_, ?_⟩
  · have := hA.depth
    unfold Around.under
    rw [hw]
    show A.depth + 1 + k < _
    omega
  · have := hA.units
    unfold Around.under
    rw [hu]
    show A.units + 1 + 8 * k < _
    omega
end
end Mine
end
section
open PySem PySem.W PyProof.Rows PySem.W.X PySem.SeqAt
set_option maxRecDepth 100000
namespace Mine
theorem eqLists {A : Around} {s : Shared} {l b : Addr} {xs ys : List Value} (hl : s.heap.IsList l xs.toArray) (hb : s.heap.IsList b ys.toArray) (hz : xs.length = ys.length) (hu : A.units < cLine)
    (he : ∀ j (h1 : j < xs.length) (h2 : j < ys.length), EqAt A.in1 s xs[j] ys[j] true) : RcAt A s (.ref l) (.ref b) true := by
  have := RcAt.lists (e := fun _ => true) hl hb (by simpa using hz) hu (fun j h1 h2 => by simpa using he j (by simpa using h1) (by simpa using h2))
  have e : (List.range xs.toArray.size).all (fun _ => true) = true := by simp
  rwa [e] at this
noncomputable def IsView (d : Addr) : Cell := fun o => o = { cls := .type "dict_items", data := .fields #[.ref d] }
section
variable {W : Wd} {G : Gens} {env : Env} {loc loc' : Loc} {nw nw' : Ledger} {s : Shared} {A : Around} {E : Value → Shared → Prop}
theorem Sta.eqOp {l b : Addr} {Q : Value → Shared → Prop} (_S : Sta W G env loc nw s) (h : RcAt A s (.ref l) (.ref b) true) (hq : Q (.bool true) s) : wpAny (model W.prog W.w) A (compareOp .Eq (.ref l) (.ref b)) Q E s := h _ _ _ _ hq
theorem dictAt_keeps {P : Program} {w : World} {h h' : Heap} {d : Addr} {kvs : List (Str × Value)} {ep : Nat} (x : h.DictAt (PySem.strKind P w) d kvs ep) (k : ∀ b o, h.get? b = some o → h'.get? b = some o) : h'.DictAt (PySem.strKind P w) d kvs ep :=
  let ⟨o, es, e, r⟩ := x; ⟨o, es, k _ _ e, r⟩
theorem Sta.items {d : Addr} {kvs : List (Str × Value)} {ep : Nat} {Q : Value → Shared → Prop} (S : Sta W G env loc nw s) (hm : W.B.DictAt (PySem.strKind W.prog W.w) d kvs ep) (hd : (d == sysModules) = false) (h : ∀ r s', Sta W G env loc ((r, IsView d) :: nw) s' → Q (.ref r) s') :
    wpAny (model W.prog W.w) A (call (.builtin "dict.items") [.ref d]) Q E s := by
  have hD := dictAt_keeps hm S.led.keep
  have hO : s.heap.DictOf (PySem.strKind W.prog W.w) d kvs := by
    obtain ⟨o, es, e, a, b, c⟩ := hD
    exact ⟨o, es, ep, e, a, b, c⟩
  exact call_meetsIn PySem.F.slot_dict_items hO.typeIs PySem.F.entry_dict_items (PySem.F.args_dict_items_1 _) (meets_dict_items (PySem.strKind W.prog W.w) d hd) ⟨⟨kvs, hO⟩, h _ _ (S.new (c := IsView d) rfl rfl s.toks)⟩
theorem Sta.listItems {r d : Addr} {kvs : List (Str × Value)} {ep : Nat} {Q : Value → Shared → Prop} (S : Sta W G env loc nw s) (hh : A.handled = none) (hm : W.B.DictAt (PySem.strKind W.prog W.w) d kvs ep) (mv : (r, IsView d) ∈ nw) (hn : kvs.length ≤ sizeLine)
    (h : ∀ (l : Addr) (as : List Addr) s', as.length = kvs.length → Sta W G env loc ((l, IsLst (as.map Value.ref)) :: nw) s' → Q (.ref l) s') : wpAny (model W.prog W.w) A (call (.type "list") [.ref r]) Q E s := by
  obtain ⟨o, ho, rfl⟩ := S.get mv
  refine kdx_call (knd := PySem.strKind W.prog W.w) hh ⟨_, ho, rfl, rfl⟩ (dictAt_keeps hm S.led.keep) hn fun h' tk acc c as hk hS hl hG hacc => h _ as _ hl ⟨S.ok, S.eok, ?_, S.bare, S.os, S.gens, S.gnd⟩
  refine (S.led.cons_new hk S.led.size_ne S.led.size_new hS ⟨c, ?_⟩).perm (List.Perm.swap ..)
  rw [← hacc]
/-- the dict's own getM -/
theorem Sta.getM_dict {name : Str} {d : Addr} {kvs : List (Str × Value)} {ep : Nat} {Q : Value × List Value → Shared → Prop} {id : String} (S : Sta W G env loc nw s) (hm : W.B.DictAt (PySem.strKind W.prog W.w) d kvs ep) (slot : Slot "dict" name id) (hty : typeOf (.builtin id) = pure (.type "method_descriptor")) (h : Q (.builtin id, [.ref d]) s) :
    GetM (model W.prog W.w) A E name (.ref d) Q s := by
  obtain ⟨o, es, e, a, b, c⟩ := dictAt_keeps hm S.led.keep
  exact getM_builtin F.plainAttrs_dict slot hty ⟨_, e, a.1⟩ (fun b e' => by cases e'; exact ⟨_, e, a.2.1⟩) h
theorem Assign_attr {o : Expr} {attr : Str} {pos' : Pos} {value : Expr} {pos : Pos} {Q : Flow → Shared → Prop}
    (h : wpAny (model W.prog W.w) A (eval value env) (fun v s₁ => wpAny (model W.prog W.w) A (eval o env) (fun ov s₂ => wpAny (model W.prog W.w) A (setAttr ov attr v) (fun _ => Q .next) E s₂) E s₁) E s)
    (hs : swapsWith value (some (.Attribute o attr pos')) pos.line env = pure false) : wpAny (model W.prog W.w) A (exec (.Assign [.Attribute o attr pos'] value pos) env) Q E s := plainObj_wpAny_Assign_Attribute h hs
end
end Mine
end
section
open PySem PySem.W PyProof.Rows PySem.W.X PySem.SeqAt
set_option maxRecDepth 100000
namespace Mine
theorem ite_t {P R : Prop} (h : P) : (if true = true then P else R) := by rw [if_pos rfl]; exact h
theorem ite_f {P R : Prop} (h : R) : (if false = true then P else R) := by rw [if_neg (by decide)]; exact h
theorem ite_nf {P R : Prop} (h : P) : (if (!false) = true then P else R) := by rw [if_pos (by decide)]; exact h
theorem ite_nt {P R : Prop} (h : R) : (if (!true) = true then P else R) := by rw [if_neg (by decide)]; exact h
section
variable {W : Wd} {G : Gens} {env : Env} {loc loc' : Loc} {nw nw' : Ledger} {s : Shared} {A : Around} {E : Value → Shared → Prop}
theorem Sta.dict0 {pos : Pos} {Q : Value → Shared → Prop} {M : Model} (S : Sta W G env loc nw s) (h : ∀ a s', Sta W G env loc ((a, IsObj { cls := .type "dict", data := .dict #[] }) :: nw) s' → Q (.ref a) s') : wpAny M A (eval (.Dict [] [] pos) env) Q E s :=
  wpAny_Dict_empty (h _ _ (S.new (c := IsObj { cls := .type "dict", data := .dict #[] }) rfl rfl s.toks))
theorem callWith_m1 {M : Model} {pos : Pos} {id : String} {self : Value} {e : Expr} {rest : List Expr} {Q : Value → Shared → Prop}
    (h : wpAny M A (spliced (backTo pos (starEach (e :: rest) env))) (fun vs s₁ => wpAny M A (call (.builtin id) (self :: vs)) Q E s₁) E s)
    (he : starEach (e :: rest) env = (false, eval e env) :: starEach rest env)
    (hplain : (backTo pos (starEach rest env)).any (·.1) = false) :
    wpAny M A (callWith pos (.builtin id) [self] (backTo pos (starEach (e :: rest) env)) (backToKw pos (keywordEach [] env))) Q E s := callWith_bi h he hplain
theorem callW_1 {pos : Pos} {f : Addr} {e : Expr} {rest : List Expr} {Q : Value → Shared → Prop} (hk : keepIn W.K (.ref f) = true)
    (h : wpAny (model W.prog W.w) A (spliced (backTo pos (starEach (e :: rest) env))) (fun vs s₁ => W.K.In s₁.heap ∧ wpAny (model W.prog W.w) A (call (.ref f) vs) Q E s₁) E s)
    (he : starEach (e :: rest) env = (false, eval e env) :: starEach rest env) (hplain : (backTo pos (starEach rest env)).any (·.1) = false) :
    wpAny (model W.prog W.w) A (callWith pos (.ref f) [] (backTo pos (starEach (e :: rest) env)) []) Q E s := callW (first := []) hk h he hplain
theorem callW_m {pos : Pos} {f : Addr} {self : Value} {e : Expr} {rest : List Expr} {Q : Value → Shared → Prop} (hk : keepIn W.K (.ref f) = true)
    (h : wpAny (model W.prog W.w) A (spliced (backTo pos (starEach (e :: rest) env))) (fun vs s₁ => W.K.In s₁.heap ∧ wpAny (model W.prog W.w) A (call (.ref f) (self :: vs)) Q E s₁) E s)
    (he : starEach (e :: rest) env = (false, eval e env) :: starEach rest env) (hplain : (backTo pos (starEach rest env)).any (·.1) = false) :
    wpAny (model W.prog W.w) A (callWith pos (.ref f) [self] (backTo pos (starEach (e :: rest) env)) (backToKw pos (keywordEach [] env))) Q E s := callW (first := [self]) hk h he hplain
end
end Mine
end
section
open PySem PySem.W PyProof.Rows PySem.W.X PySem.SeqAt
set_option maxRecDepth 100000
namespace Mine
inductive Pull {α : Type} (p : α) : List α → List α → Prop
  | head {r} : Pull p (p :: r) r
  | tail {q r r'} : Pull p r r' → Pull p (q :: r) (q :: r')
theorem Pull.perm {α : Type} {p : α} {l l' : List α} (h : Pull p l l') : l.Perm (p :: l') := by
  induction h with
  | head => exact List.Perm.refl _
  | tail h ih => exact (List.Perm.cons _ ih).trans (List.Perm.swap ..)
noncomputable def Sel (L L2 : Ledger) : Prop := ∃ rest, L.Perm (L2 ++ rest)
theorem Sel.refl (L : Ledger) : Sel L L := ⟨[], by rw [List.append_nil]⟩
theorem Sel.drop {q : Addr × Cell} {L L2 : Ledger} (h : Sel L L2) : Sel (q :: L) L2 := by
  obtain ⟨r, h⟩ := h
  exact ⟨q :: r, (List.Perm.cons _ h).trans List.perm_middle.symm⟩
theorem Sel.cons {p : Addr × Cell} {L L' L2 : Ledger} (hp : Pull p L L') (h : Sel L' L2) : Sel L (p :: L2) := by
  obtain ⟨r, h⟩ := h
  exact ⟨r, hp.perm.trans (List.Perm.cons _ h)⟩
theorem Sel.of_perm {L L2 : Ledger} (h : L.Perm L2) : Sel L L2 := ⟨[], by rw [List.append_nil]; exact h⟩
theorem Sel.trans {L L2 L3 : Ledger} (h : Sel L L2) (k : Sel L2 L3) : Sel L L3 := by
  obtain ⟨r, h⟩ := h
  obtain ⟨r', k⟩ := k
  exact ⟨r' ++ r, h.trans ((List.Perm.append_right r k).trans (by rw [List.append_assoc]))⟩
theorem Sta.sel {W : Wd} {G : Gens} {env : Env} {loc : Loc} {nw nw' : Ledger} {s : Shared} (S : Sta W G env loc nw s) (h : Sel nw nw') : Sta W G env loc nw' s := by
  obtain ⟨r, h⟩ := h
  exact (S.perm h).sub (List.sublist_append_left _ _)
theorem perm_in1 {α : Type} (p : α) (A T : List α) : List.Perm (p :: (A ++ T)) (A ++ p :: T) := List.perm_middle.symm
theorem ite_by {b : Bool} {P R : Prop} (h1 : b = true → P) (h2 : b = false → R) : (if b = true then P else R) := by
  cases b with
  | true => exact h1 rfl
  | false => exact h2 rfl
theorem IntsAre.length' {vs : List Value} {ns : List Int} (h : IntsAre vs ns) : vs.length = ns.length := by
  induction h with
  | nil => rfl
  | cons m u h ih => rw [List.length_cons, List.length_cons, ih]
theorem IntsAre.getAt {vs : List Value} {ns : List Int} (h : IntsAre vs ns) : ∀ (k : Nat) (h : k < ns.length), ∃ t, vs[k]? = some (.int ns[k] t) := by
  induction h with
  | nil => intro k h; cases h
  | cons n t h ih =>
    intro k hk
    cases k with
    | zero => exact ⟨t, rfl⟩
    | succ k =>
      obtain ⟨u, e⟩ := ih k (by simpa using hk)
      exact ⟨u, by simpa using e⟩
theorem IntsAre.setAt {vs : List Value} {ns : List Int} (h : IntsAre vs ns) : ∀ (k : Nat) (n : Int) (t : Tok), IntsAre (vs.set k (.int n t)) (ns.set k n) := by
  induction h with
  | nil => intro k n t; exact .nil
  | cons m u h ih =>
    intro k n t
    cases k with
    | zero => exact .cons n t h
    | succ k => exact .cons m u (ih k n t)
end Mine
end
section
open PySem PySem.W PyProof.Rows PySem.W.X PySem.SeqAt
set_option maxRecDepth 100000
namespace Mine
section
variable {W : Wd} {G : Gens} {env : Env} {loc loc' : Loc} {nw nw' : Ledger} {s : Shared} {A : Around} {E : Value → Shared → Prop}
theorem St0.kin (S : St0 W G nw s) : W.K.In s.heap := S.ok.kin.keeps S.led.keep
theorem St0.nolimit (S : St0 W G nw s) : s.heap.NoLimit := S.ok.nolimit.keeps S.led.keep
theorem St0.code_def {R : Result → Shared → Prop} {f : Addr} {name qual : Str} {st : Stmt} {dV kV doc pm cdv ct oc : Value} {an od : Option Addr} {osl : Array (Option Value)} {args : Args} {binds : List (Str × Value)} (rest : List Str)
    (S : St0 W G nw s) (hroom : A.depth < recursionLimit)
    (ho : W.K.lookup f = some ⟨oc, od, .func (fnOf name qual (fnArgs st) (fnBody st) (fnScope st) dV kV doc pm an cdv ct), osl⟩) (hcd : codeIn W.K cdv qual = true)
    (hbind : BindsTo s (fnOf name qual (fnArgs st) (fnBody st) (fnScope st) dV kV doc pm an cdv ct) args binds)
    (hk : kindsOk (fnScope st) (binds.map Prod.fst ++ rest) = true)
    (h : ∀ L s', Sta W G (envOf qual (fnScope st) L f cdv) (mkLoc binds rest) nw s' →
      wpAny (model W.prog W.w) (A.deeper (envOf qual (fnScope st) L f cdv)) (execs (fnBody st) (envOf qual (fnScope st) L f cdv)) (fun fl s'' => R (.ok (.ret (match fl with | .ret v => v | _ => .none))) s'') (fun _ _ => False) s') :
    codeAny (model W.prog W.w) A (.call (.ref f) args) R s := by
  simp only [kindsOk, Bool.and_eq_true, beq_iff_eq, Bool.not_eq_true', List.all_eq_true, bne_iff_ne, decide_eq_true_eq] at hk
  obtain ⟨⟨⟨⟨⟨hkind, hco⟩, hgen⟩, hcell⟩, hks⟩, hnd⟩ := hk
  have hks2 : ((mkLoc binds rest).map Prod.fst) = binds.map Prod.fst ++ rest := by
    simp [mkLoc, List.map_map, Function.comp_def]
  refine (codeAny_call_def (fd := fnOf name qual (fnArgs st) (fnBody st) (fnScope st) dV kV doc pm an cdv ct) (body := fnBody st) (binds := binds) hroom (S.kin _ _ ho) rfl S.nolimit (codeRec_of S.kin hcd) rfl hbind hcell
    (fun x hx => (hks x.1 (List.mem_append_left _ (List.mem_map.mpr ⟨x, hx, rfl⟩))).1) (fun h₁ hns hkp => ?_) hco hgen hkind)
  have D : Led W.B ((s.heap.objs.size, IsNs (mkLoc binds rest)) :: nw) h₁ := by
    obtain ⟨o, es, ep, ho', hd, hsk, hf⟩ := hns
    refine S.led.cons_new hkp S.led.size_ne S.led.size_new ho' ⟨by rw [hks2]; exact hnd, es, ep, hd, hsk, fun x => ?_⟩
    rw [hf x, lk_mkLoc _ _ (hnd.sublist (List.sublist_append_left _ _))]
  have S' : Sta W G (envOf qual (fnScope st) s.heap.objs.size f cdv) (mkLoc binds rest) nw { s with heap := h₁, toks := s.toks + binds.length } :=
    ⟨S.ok, by rw [hks2]; exact ⟨hkind, rfl, rfl, fun x hx => (hks x hx).1, fun x hx => (hks x hx).2, hnd⟩, D, S.bare, S.os, S.gens, S.gnd⟩
  exact wpAny_mono (h _ _ S') (fun fl s'' q => q) (fun _ _ q => q.elim)
theorem St0.code {R : Result → Shared → Prop} {f : Addr} {qual : Str} {st : Stmt} {dV kV cdv : Value} {pos : List Value} {kw : List (Str × Value)} {binds : List (Str × Value)} (rest : List Str)
    (S : St0 W G nw s) (hf : Fn W.K f st qual dV kV cdv) (hroom : A.depth < recursionLimit) (hbind : Binds s st qual dV kV cdv ⟨pos, kw⟩ binds) (hk : kindsOk (fnScope st) (binds.map Prod.fst ++ rest) = true)
    (h : ∀ L s', Sta W G (envOf qual (fnScope st) L f cdv) (mkLoc binds rest) nw s' →
      wpAny (model W.prog W.w) (A.deeper (envOf qual (fnScope st) L f cdv)) (execs (fnBody st) (envOf qual (fnScope st) L f cdv)) (fun fl s'' => R (.ok (.ret (match fl with | .ret v => v | _ => .none))) s'') (fun _ _ => False) s') :
    codeAny (model W.prog W.w) A (.call (.ref f) ⟨pos, kw⟩) R s := by
  obtain ⟨name, doc, pm, ct, oc, an, od, osl, ho⟩ := hf.at_
  exact S.code_def (args := ⟨pos, kw⟩) rest hroom ho hf.code (hbind _ _ _ _ _) hk h
end
theorem kn_postG {M : Model} {A : Around} {cd : Code} {s s₁ : Shared} {cw : ClaimW} {cl : Str → Option Addr} {mean : ExcName → Option Value} {args : List WData} {tabs : List (Addr × Addr)} (hT : TabsAt tabs s₁.heap) (hr : ∀ x, cw.raises args x = false) (hp : cw.post args (.bool true) args = true)
    (h : codeAny M A cd (fun r s' => r = .ok (.ret (.bool true)) ∧ (∀ b o, (ghostOf s₁.heap tabs).get? b = some o → s'.heap.get? b = some o) ∧ s'.os = s₁.os ∧ AllBare s'.gens ∧ GrownAll tabs s'.heap) s) : codeAny M A cd (GoodWG cw cl mean args s₁) s :=
  codeAny_mono h fun r s' ⟨hr1, hk, hos, hg, hgr⟩ => by
    have keep : ∀ b o, b ∉ tabs.map (·.2) → s₁.heap.get? b = some o → s'.heap.get? b = some o := fun b o hb e => hk b o (ghost_ne e hb)
    have grown : ∀ b o, b ∈ tabs.map (·.2) → s₁.heap.get? b = some o → isCodeTable s₁.heap b ∧ o = tabObj #[] ∧ ∃ ps, s'.heap.get? b = some (tabObj ps) := fun b o hb e => by
      obtain ⟨q, hq, rfl⟩ := List.mem_map.mp hb
      have e2 := (hT q hq).2
      rw [e] at e2
      exact ⟨((hT q hq).1.tab (hT q hq).2).isCodeTable, Option.some.inj e2, hgr.get q hq⟩
    refine ⟨.inl ⟨_, _, [], hr1, hr, ReadsW.bool true, hp, fun _ => ⟨List.nodup_nil, fun _ hm => (nomatch hm)⟩⟩, ⟨fun b o e => ?_, fun b o e => ?_⟩, hos, hg⟩
    · by_cases hb : b ∈ tabs.map (·.2)
      · obtain ⟨ht, rfl, ps, hP⟩ := grown b o hb e
        exact .inr (.inl ⟨ht, rfl, #[], ps, rfl, by rw [Array.empty_append]; exact hP⟩)
      · exact .inl (keep b o hb e)
    · by_cases hb : b ∈ tabs.map (·.2)
      · obtain ⟨_, _, ps, hP⟩ := grown b o hb e
        exact ⟨_, hP⟩
      · exact ⟨o, keep b o hb e⟩
noncomputable def tabLed (tabs : List (Addr × Addr)) : Ledger := tabs.map fun q => (q.2, IsTab [])
/-- the world of a law that is called -/
theorem sta0_of {W : Wd} {p : Program} {loose : List Str} {mean : ExcName → Option Value} {mg mb : Str → Option Value} {s₁ : Shared} {tabs : List (Addr × Addr)} (hT : TabsAt tabs s₁.heap) (hn : (tabs.map (·.2)).Nodup) (X : W.K.In s₁.heap) (hK : noTabs W.K = true) (T : Top p loose mean mg mb s₁.heap) (hg : s₁.gens = #[])
    (hB : W.B = ghostOf s₁.heap tabs) (ho : W.os = s₁.os) : St0 W [] (tabLed tabs) s₁ := by
  refine ⟨⟨?_, ?_⟩, ⟨?_, ?_, ?_⟩, .of_eq hg, ho.symm, fun _ h => by simp at h, List.nodup_nil⟩
  · rw [hB]; exact ghost_K hT X hK
  · rw [hB]; exact ⟨_, _, _, _, ghost_top hT T⟩
  · intro b o e; rw [hB] at e; exact of_hideAll _ e
  · intro q hq
    obtain ⟨r, hr, rfl⟩ := List.mem_map.mp hq
    exact ⟨by rw [hB]; exact hideAll_none _ (List.mem_map_of_mem hr), _, (hT r hr).2, rfl⟩
  · simpa [tabLed, List.map_map, Function.comp_def] using hn
end Mine
end
section
open PySem PySem.W PyProof.Rows PySem.W.X PySem.SeqAt
set_option maxRecDepth 100000
namespace Mine
noncomputable def fdAt (K : Frag) (f : Addr) : FuncData := match K.lookup f with
  | some ⟨_, _, .func fd, _⟩ => fd
  | _ => default
noncomputable def obAt (K : Frag) (f : Addr) : Obj := (K.lookup f).getD default
noncomputable def selfNames : List Str := ["_write", "_data", "_with_comments", "_strip_text", "_exclude_attrs", "_exclude_tags", "_rewrite_prefixes", "_qname_aware_tags", "_find_qname_aware_attrs", "_declared_ns_stack", "_ns_stack", "_prefix_map", "_preserve_space", "_pending_start", "_root_seen", "_root_done", "_ignored_depth"]
theorem bo_list : bootBuiltins "list" = some (.type "list") := by kernel_rfl
theorem bo_len : bootBuiltins "len" = some (.builtin "len") := by kernel_rfl
theorem bo_range : bootBuiltins "range" = some (.type "range") := by kernel_rfl
theorem bo_set : bootBuiltins "set" = some (.type "set") := by kernel_rfl
theorem bo_sorted : bootBuiltins "sorted" = some (.builtin "sorted") := by kernel_rfl
end Mine
end
section
open PySem PySem.W PyProof.Rows
set_option maxRecDepth 100000
set_option maxHeartbeats 8000000
namespace Mine
/-- the law is well said: by the kernel alone, without the twin of the text that open_top lays (4 MB) -/
theorem ws : PySem.Challenge.rw_dn0284_05.wellSaid = true := by kernel_rfl
open_top hd for (PySem.W.OpenLaw.row PySem.Challenge.rw_dn0284_05)
end Mine
end
section
open PySem PySem.W PyProof.Rows PySem.W.X PySem.SeqAt
set_option maxRecDepth 100000
namespace Mine
noncomputable abbrev pp : Program := PySem.Challenge.pw_dn0284_05
noncomputable abbrev KK (P : Params) : Frag := hd.heap_1 P
structure IsC (W : Wd) : Prop where
  k : W.K = KK W.w.params
noncomputable def stC : Stmt := topStmt pp 7
noncomputable def st_escC : Stmt := topStmt pp 8
theorem fn_escC (P : Params) : Fn (KK P) 161 st_escC "_escape_cdata_c14n" .none .none (.ref 160) :=
  ⟨⟨(fdAt (KK P) 161).name, (fdAt (KK P) 161).doc, (fdAt (KK P) 161).pyModule, (fdAt (KK P) 161).closureTuple, (obAt (KK P) 161).cls, (fdAt (KK P) 161).annotations, (obAt (KK P) 161).dict, (obAt (KK P) 161).slots, by kernel_rfl⟩, by kernel_rfl⟩
theorem IsC.f_escC {W : Wd} (I : IsC W) : Fn W.K 161 st_escC "_escape_cdata_c14n" .none .none (.ref 160) := by rw [I.k]; exact fn_escC _
theorem IsC.g_escC {W : Wd} (I : IsC W) : nsIn W.K mainGlobals "_escape_cdata_c14n" = some (some (.ref 161)) := by rw [I.k]; kernel_rfl
noncomputable def st_escA : Stmt := topStmt pp 9
theorem fn_escA (P : Params) : Fn (KK P) 168 st_escA "_escape_attrib_c14n" .none .none (.ref 167) :=
  ⟨⟨(fdAt (KK P) 168).name, (fdAt (KK P) 168).doc, (fdAt (KK P) 168).pyModule, (fdAt (KK P) 168).closureTuple, (obAt (KK P) 168).cls, (fdAt (KK P) 168).annotations, (obAt (KK P) 168).dict, (obAt (KK P) 168).slots, by kernel_rfl⟩, by kernel_rfl⟩
theorem IsC.f_escA {W : Wd} (I : IsC W) : Fn W.K 168 st_escA "_escape_attrib_c14n" .none .none (.ref 167) := by rw [I.k]; exact fn_escA _
theorem IsC.g_escA {W : Wd} (I : IsC W) : nsIn W.K mainGlobals "_escape_attrib_c14n" = some (some (.ref 168)) := by rw [I.k]; kernel_rfl
noncomputable def st_law : Stmt := topStmt pp 15
theorem fn_law (P : Params) : Fn (KK P) 201 st_law "law" .none .none (.ref 200) :=
  ⟨⟨(fdAt (KK P) 201).name, (fdAt (KK P) 201).doc, (fdAt (KK P) 201).pyModule, (fdAt (KK P) 201).closureTuple, (obAt (KK P) 201).cls, (fdAt (KK P) 201).annotations, (obAt (KK P) 201).dict, (obAt (KK P) 201).slots, by kernel_rfl⟩, by kernel_rfl⟩
theorem IsC.f_law {W : Wd} (I : IsC W) : Fn W.K 201 st_law "law" .none .none (.ref 200) := by rw [I.k]; exact fn_law _
noncomputable def st_l_spelled : Stmt := topStmt pp 11
theorem fn_l_spelled (P : Params) : Fn (KK P) 173 st_l_spelled "_law_spelled" .none .none (.ref 172) :=
  ⟨⟨(fdAt (KK P) 173).name, (fdAt (KK P) 173).doc, (fdAt (KK P) 173).pyModule, (fdAt (KK P) 173).closureTuple, (obAt (KK P) 173).cls, (fdAt (KK P) 173).annotations, (obAt (KK P) 173).dict, (obAt (KK P) 173).slots, by kernel_rfl⟩, by kernel_rfl⟩
theorem IsC.f_l_spelled {W : Wd} (I : IsC W) : Fn W.K 173 st_l_spelled "_law_spelled" .none .none (.ref 172) := by rw [I.k]; exact fn_l_spelled _
theorem IsC.g_l_spelled {W : Wd} (I : IsC W) : nsIn W.K mainGlobals "_law_spelled" = some (some (.ref 173)) := by rw [I.k]; kernel_rfl
noncomputable def st_l_calls : Stmt := topStmt pp 12
theorem fn_l_calls (P : Params) : Fn (KK P) 180 st_l_calls "_law_calls" .none .none (.ref 179) :=
  ⟨⟨(fdAt (KK P) 180).name, (fdAt (KK P) 180).doc, (fdAt (KK P) 180).pyModule, (fdAt (KK P) 180).closureTuple, (obAt (KK P) 180).cls, (fdAt (KK P) 180).annotations, (obAt (KK P) 180).dict, (obAt (KK P) 180).slots, by kernel_rfl⟩, by kernel_rfl⟩
theorem IsC.f_l_calls {W : Wd} (I : IsC W) : Fn W.K 180 st_l_calls "_law_calls" .none .none (.ref 179) := by rw [I.k]; exact fn_l_calls _
theorem IsC.g_l_calls {W : Wd} (I : IsC W) : nsIn W.K mainGlobals "_law_calls" = some (some (.ref 180)) := by rw [I.k]; kernel_rfl
noncomputable def st_l_tell : Stmt := topStmt pp 13
theorem fn_l_tell (P : Params) : Fn (KK P) 187 st_l_tell "_law_tell" .none .none (.ref 186) :=
  ⟨⟨(fdAt (KK P) 187).name, (fdAt (KK P) 187).doc, (fdAt (KK P) 187).pyModule, (fdAt (KK P) 187).closureTuple, (obAt (KK P) 187).cls, (fdAt (KK P) 187).annotations, (obAt (KK P) 187).dict, (obAt (KK P) 187).slots, by kernel_rfl⟩, by kernel_rfl⟩
theorem IsC.f_l_tell {W : Wd} (I : IsC W) : Fn W.K 187 st_l_tell "_law_tell" .none .none (.ref 186) := by rw [I.k]; exact fn_l_tell _
theorem IsC.g_l_tell {W : Wd} (I : IsC W) : nsIn W.K mainGlobals "_law_tell" = some (some (.ref 187)) := by rw [I.k]; kernel_rfl
noncomputable def st_l_mark : Stmt := topStmt pp 14
theorem fn_l_mark (P : Params) : Fn (KK P) 194 st_l_mark "_law_mark" .none .none (.ref 193) :=
  ⟨⟨(fdAt (KK P) 194).name, (fdAt (KK P) 194).doc, (fdAt (KK P) 194).pyModule, (fdAt (KK P) 194).closureTuple, (obAt (KK P) 194).cls, (fdAt (KK P) 194).annotations, (obAt (KK P) 194).dict, (obAt (KK P) 194).slots, by kernel_rfl⟩, by kernel_rfl⟩
theorem IsC.f_l_mark {W : Wd} (I : IsC W) : Fn W.K 194 st_l_mark "_law_mark" .none .none (.ref 193) := by rw [I.k]; exact fn_l_mark _
theorem IsC.g_l_mark {W : Wd} (I : IsC W) : nsIn W.K mainGlobals "_law_mark" = some (some (.ref 194)) := by rw [I.k]; kernel_rfl
noncomputable def st_init : Stmt := inClass stC 0
theorem fn_init (P : Params) : Fn (KK P) 67 st_init "C14NWriterTarget.__init__" .none (.ref 60) (.ref 66) :=
  ⟨⟨(fdAt (KK P) 67).name, (fdAt (KK P) 67).doc, (fdAt (KK P) 67).pyModule, (fdAt (KK P) 67).closureTuple, (obAt (KK P) 67).cls, (fdAt (KK P) 67).annotations, (obAt (KK P) 67).dict, (obAt (KK P) 67).slots, by kernel_rfl⟩, by kernel_rfl⟩
theorem IsC.f_init {W : Wd} (I : IsC W) : Fn W.K 67 st_init "C14NWriterTarget.__init__" .none (.ref 60) (.ref 66) := by rw [I.k]; exact fn_init _
noncomputable def st_iter : Stmt := inClass stC 1
theorem fn_iter (P : Params) : Fn (KK P) 75 st_iter "C14NWriterTarget._iter_namespaces" (.ref 68) .none (.ref 74) :=
  ⟨⟨(fdAt (KK P) 75).name, (fdAt (KK P) 75).doc, (fdAt (KK P) 75).pyModule, (fdAt (KK P) 75).closureTuple, (obAt (KK P) 75).cls, (fdAt (KK P) 75).annotations, (obAt (KK P) 75).dict, (obAt (KK P) 75).slots, by kernel_rfl⟩, by kernel_rfl⟩
theorem IsC.f_iter {W : Wd} (I : IsC W) : Fn W.K 75 st_iter "C14NWriterTarget._iter_namespaces" (.ref 68) .none (.ref 74) := by rw [I.k]; exact fn_iter _
noncomputable def st_qname : Stmt := inClass stC 3
theorem fn_qname (P : Params) : Fn (KK P) 90 st_qname "C14NWriterTarget._qname" (.ref 83) .none (.ref 89) :=
  ⟨⟨(fdAt (KK P) 90).name, (fdAt (KK P) 90).doc, (fdAt (KK P) 90).pyModule, (fdAt (KK P) 90).closureTuple, (obAt (KK P) 90).cls, (fdAt (KK P) 90).annotations, (obAt (KK P) 90).dict, (obAt (KK P) 90).slots, by kernel_rfl⟩, by kernel_rfl⟩
theorem IsC.f_qname {W : Wd} (I : IsC W) : Fn W.K 90 st_qname "C14NWriterTarget._qname" (.ref 83) .none (.ref 89) := by rw [I.k]; exact fn_qname _
noncomputable def st_data : Stmt := inClass stC 4
theorem fn_data (P : Params) : Fn (KK P) 97 st_data "C14NWriterTarget.data" .none .none (.ref 96) :=
  ⟨⟨(fdAt (KK P) 97).name, (fdAt (KK P) 97).doc, (fdAt (KK P) 97).pyModule, (fdAt (KK P) 97).closureTuple, (obAt (KK P) 97).cls, (fdAt (KK P) 97).annotations, (obAt (KK P) 97).dict, (obAt (KK P) 97).slots, by kernel_rfl⟩, by kernel_rfl⟩
theorem IsC.f_data {W : Wd} (I : IsC W) : Fn W.K 97 st_data "C14NWriterTarget.data" .none .none (.ref 96) := by rw [I.k]; exact fn_data _
noncomputable def st_flush : Stmt := inClass stC 5
theorem fn_flush (P : Params) : Fn (KK P) 106 st_flush "C14NWriterTarget._flush" (.ref 99) .none (.ref 105) :=
  ⟨⟨(fdAt (KK P) 106).name, (fdAt (KK P) 106).doc, (fdAt (KK P) 106).pyModule, (fdAt (KK P) 106).closureTuple, (obAt (KK P) 106).cls, (fdAt (KK P) 106).annotations, (obAt (KK P) 106).dict, (obAt (KK P) 106).slots, by kernel_rfl⟩, by kernel_rfl⟩
theorem IsC.f_flush {W : Wd} (I : IsC W) : Fn W.K 106 st_flush "C14NWriterTarget._flush" (.ref 99) .none (.ref 105) := by rw [I.k]; exact fn_flush _
noncomputable def st_start : Stmt := inClass stC 7
theorem fn_start (P : Params) : Fn (KK P) 120 st_start "C14NWriterTarget.start" .none .none (.ref 119) :=
  ⟨⟨(fdAt (KK P) 120).name, (fdAt (KK P) 120).doc, (fdAt (KK P) 120).pyModule, (fdAt (KK P) 120).closureTuple, (obAt (KK P) 120).cls, (fdAt (KK P) 120).annotations, (obAt (KK P) 120).dict, (obAt (KK P) 120).slots, by kernel_rfl⟩, by kernel_rfl⟩
theorem IsC.f_start {W : Wd} (I : IsC W) : Fn W.K 120 st_start "C14NWriterTarget.start" .none .none (.ref 119) := by rw [I.k]; exact fn_start _
noncomputable def st_start1 : Stmt := inClass stC 8
theorem fn_start1 (P : Params) : Fn (KK P) 126 st_start1 "C14NWriterTarget._start" (.ref 121) .none (.ref 125) :=
  ⟨⟨(fdAt (KK P) 126).name, (fdAt (KK P) 126).doc, (fdAt (KK P) 126).pyModule, (fdAt (KK P) 126).closureTuple, (obAt (KK P) 126).cls, (fdAt (KK P) 126).annotations, (obAt (KK P) 126).dict, (obAt (KK P) 126).slots, by kernel_rfl⟩, by kernel_rfl⟩
theorem IsC.f_start1 {W : Wd} (I : IsC W) : Fn W.K 126 st_start1 "C14NWriterTarget._start" (.ref 121) .none (.ref 125) := by rw [I.k]; exact fn_start1 _
noncomputable def st_end : Stmt := inClass stC 9
theorem fn_end (P : Params) : Fn (KK P) 133 st_end "C14NWriterTarget.end" .none .none (.ref 132) :=
  ⟨⟨(fdAt (KK P) 133).name, (fdAt (KK P) 133).doc, (fdAt (KK P) 133).pyModule, (fdAt (KK P) 133).closureTuple, (obAt (KK P) 133).cls, (fdAt (KK P) 133).annotations, (obAt (KK P) 133).dict, (obAt (KK P) 133).slots, by kernel_rfl⟩, by kernel_rfl⟩
theorem IsC.f_end {W : Wd} (I : IsC W) : Fn W.K 133 st_end "C14NWriterTarget.end" .none .none (.ref 132) := by rw [I.k]; exact fn_end _
noncomputable def st_comment : Stmt := inClass stC 10
theorem fn_comment (P : Params) : Fn (KK P) 140 st_comment "C14NWriterTarget.comment" .none .none (.ref 139) :=
  ⟨⟨(fdAt (KK P) 140).name, (fdAt (KK P) 140).doc, (fdAt (KK P) 140).pyModule, (fdAt (KK P) 140).closureTuple, (obAt (KK P) 140).cls, (fdAt (KK P) 140).annotations, (obAt (KK P) 140).dict, (obAt (KK P) 140).slots, by kernel_rfl⟩, by kernel_rfl⟩
theorem IsC.f_comment {W : Wd} (I : IsC W) : Fn W.K 140 st_comment "C14NWriterTarget.comment" .none .none (.ref 139) := by rw [I.k]; exact fn_comment _
noncomputable def st_pi : Stmt := inClass stC 11
theorem fn_pi (P : Params) : Fn (KK P) 147 st_pi "C14NWriterTarget.pi" .none .none (.ref 146) :=
  ⟨⟨(fdAt (KK P) 147).name, (fdAt (KK P) 147).doc, (fdAt (KK P) 147).pyModule, (fdAt (KK P) 147).closureTuple, (obAt (KK P) 147).cls, (fdAt (KK P) 147).annotations, (obAt (KK P) 147).dict, (obAt (KK P) 147).slots, by kernel_rfl⟩, by kernel_rfl⟩
theorem IsC.f_pi {W : Wd} (I : IsC W) : Fn W.K 147 st_pi "C14NWriterTarget.pi" .none .none (.ref 146) := by rw [I.k]; exact fn_pi _
theorem IsC.g_cls {W : Wd} (I : IsC W) : nsIn W.K mainGlobals "C14NWriterTarget" = some (some (.ref 150)) := by rw [I.k]; kernel_rfl
theorem IsC.g_map {W : Wd} (I : IsC W) : nsIn W.K mainGlobals "_namespace_map" = some (some (.ref 44)) := by rw [I.k]; kernel_rfl
theorem IsC.b_list {W : Wd} (I : IsC W) : nsIn W.K mainGlobals "list" = some none := by rw [I.k]; kernel_rfl
theorem IsC.b_len {W : Wd} (I : IsC W) : nsIn W.K mainGlobals "len" = some none := by rw [I.k]; kernel_rfl
theorem IsC.b_range {W : Wd} (I : IsC W) : nsIn W.K mainGlobals "range" = some none := by rw [I.k]; kernel_rfl
theorem IsC.b_set {W : Wd} (I : IsC W) : nsIn W.K mainGlobals "set" = some none := by rw [I.k]; kernel_rfl
theorem IsC.b_sorted {W : Wd} (I : IsC W) : nsIn W.K mainGlobals "sorted" = some none := by rw [I.k]; kernel_rfl
theorem cl_C (P : Params) : Cl (KK P) 150 selfNames where
  ga := by kernel_rfl
  gh := by kernel_rfl
  sa := by kernel_rfl
  plain := by kernel_rfl
  dict := by kernel_rfl
  own := by
    intro n hn
    simp only [selfNames, List.mem_cons, List.not_mem_nil, or_false] at hn
    rcases hn with rfl | rfl | rfl | rfl | rfl | rfl | rfl | rfl | rfl | rfl | rfl | rfl | rfl | rfl | rfl | rfl | rfl <;> kernel_rfl
theorem IsC.cl {W : Wd} (I : IsC W) : Cl W.K 150 selfNames := by rw [I.k]; exact cl_C _
end Mine
end
section
open PySem PySem.W PyProof.Rows PySem.W.X PySem.SeqAt
set_option maxRecDepth 100000
namespace Mine
/-- texts sign by sign -/
noncomputable def mapS (f : Nat → List Nat) (x : Str) : Str := ⟨(x.cps.toList.flatMap f).toArray⟩
theorem Str.ext' {a b : Str} (h : a.cps.toList = b.cps.toList) : a = b := by
  obtain ⟨⟨a⟩⟩ := a; obtain ⟨⟨b⟩⟩ := b; cases h; rfl
theorem mapS_list (f : Nat → List Nat) (x : Str) : (mapS f x).cps.toList = x.cps.toList.flatMap f := rfl
theorem mapS_append (f : Nat → List Nat) (a b : Str) : mapS f (a ++ b) = mapS f a ++ mapS f b := by
  apply Str.ext'
  simp [mapS, Str.cps_append]
theorem mapS_mapS (f g : Nat → List Nat) (x : Str) : mapS f (mapS g x) = mapS (fun c => (g c).flatMap f) x := by
  apply Str.ext'
  simp [mapS, List.flatMap_assoc]
theorem flatMap_le {α β : Type} (f : α → List β) (k : Nat) (h : ∀ c, (f c).length ≤ k) : ∀ l : List α, (l.flatMap f).length ≤ k * l.length
  | [] => by simp
  | c :: r => by
    have h1 := flatMap_le f k h r
    have h2 := h c
    rw [List.flatMap_cons, List.length_append, List.length_cons, Nat.mul_succ]
    omega
theorem Str.len_list (x : Str) : x.length = x.cps.toList.length := by simp [Str.length]
theorem mapS_len (f : Nat → List Nat) (k : Nat) (h : ∀ c, (f c).length ≤ k) (x : Str) : (mapS f x).length ≤ k * x.length := by
  rw [Str.len_list, Str.len_list, mapS_list]; exact flatMap_le f k h _
/-- one sign spelled otherwise -/
noncomputable def r1 (c : Nat) (z : List Nat) (k : Nat) : List Nat := if k = c then z else [k]
theorem r1_free (c : Nat) (z : List Nat) : ∀ l : List Nat, c ∉ l → l.flatMap (r1 c z) = l
  | [], _ => rfl
  | k :: r, h => by
    have h1 : ¬ k = c := fun e => h (e ▸ List.mem_cons_self ..)
    have h2 : c ∉ r := fun m => h (List.mem_cons_of_mem _ m)
    rw [List.flatMap_cons, r1_free c z r h2]
    simp [r1, h1]
theorem r1_join (c : Nat) (z : Str) : ∀ parts : List Str, (∀ p ∈ parts, c ∉ p.cps.toList) → (Str.join ⟨#[c]⟩ parts).cps.toList.flatMap (r1 c z.cps.toList) = (Str.join z parts).cps.toList
  | [], _ => rfl
  | [p], h => r1_free c _ _ (h p (List.mem_singleton.mpr rfl))
  | p :: q :: r, h => by
    have ih := r1_join c z (q :: r) fun a ha => h a (List.mem_cons_of_mem _ ha)
    show (p ++ ⟨#[c]⟩ ++ Str.join ⟨#[c]⟩ (q :: r)).cps.toList.flatMap _ = (p ++ z ++ Str.join z (q :: r)).cps.toList
    simp only [Str.cps_append, Array.toList_append, List.flatMap_append]
    rw [ih, r1_free c _ _ (h p (List.mem_cons_self ..))]
    simp [r1]
theorem replace_r1 (x z : Str) (c : Nat) : Txt.replace x ⟨#[c]⟩ z = mapS (r1 c z.cps.toList) x := by
  apply Str.ext'
  rw [StrLaws.replace_one, ← r1_join c z _ (StrLaws.split_free x c), StrLaws.join_split]
  rfl
theorem mapS_free {x : Str} {c : Nat} {z : List Nat} (h : c ∉ x.cps.toList) : mapS (r1 c z) x = x := Str.ext' (r1_free c z _ h)
noncomputable def fC (c : Nat) : List Nat := if c = 38 then [38, 97, 109, 112, 59] else if c = 60 then [38, 108, 116, 59] else if c = 62 then [38, 103, 116, 59] else if c = 13 then [38, 35, 120, 68, 59] else [c]
noncomputable def fA (c : Nat) : List Nat := if c = 38 then [38, 97, 109, 112, 59] else if c = 60 then [38, 108, 116, 59] else if c = 34 then [38, 113, 117, 111, 116, 59] else if c = 9 then [38, 35, 120, 57, 59] else if c = 10 then [38, 35, 120, 65, 59] else if c = 13 then [38, 35, 120, 68, 59] else [c]
noncomputable def escC (x : Str) : Str := mapS fC x
noncomputable def escA (x : Str) : Str := mapS fA x
noncomputable def gC1 : Nat → List Nat := r1 38 [38, 97, 109, 112, 59]
noncomputable def gC2 (c : Nat) : List Nat := (gC1 c).flatMap (r1 60 [38, 108, 116, 59])
noncomputable def gC3 (c : Nat) : List Nat := (gC2 c).flatMap (r1 62 [38, 103, 116, 59])
noncomputable def gC4 (c : Nat) : List Nat := (gC3 c).flatMap (r1 13 [38, 35, 120, 68, 59])
theorem gC1_len (c : Nat) : (gC1 c).length ≤ 6 := by unfold gC1 r1; split <;> simp
theorem gC2_eq (c : Nat) : gC2 c = if c = 38 then [38, 97, 109, 112, 59] else if c = 60 then [38, 108, 116, 59] else [c] := by
  unfold gC2 gC1 r1; by_cases h : c = 38 <;> simp [h]
theorem gC3_eq (c : Nat) : gC3 c = if c = 38 then [38, 97, 109, 112, 59] else if c = 60 then [38, 108, 116, 59] else if c = 62 then [38, 103, 116, 59] else [c] := by
  unfold gC3; rw [gC2_eq]; unfold r1; by_cases h : c = 38 <;> by_cases h2 : c = 60 <;> simp [h, h2]
theorem gC4_eq (c : Nat) : gC4 c = fC c := by
  unfold gC4; rw [gC3_eq]; unfold r1 fC; by_cases h : c = 38 <;> by_cases h2 : c = 60 <;> by_cases h3 : c = 62 <;> simp [h, h2, h3]
theorem gC2_len (c : Nat) : (gC2 c).length ≤ 6 := by rw [gC2_eq]; (repeat' split) <;> simp
theorem gC3_len (c : Nat) : (gC3 c).length ≤ 6 := by rw [gC3_eq]; (repeat' split) <;> simp
theorem fC_len (c : Nat) : (fC c).length ≤ 6 := by unfold fC; (repeat' split) <;> simp
theorem fA_len (c : Nat) : (fA c).length ≤ 6 := by unfold fA; (repeat' split) <;> simp
noncomputable def gA3 (c : Nat) : List Nat := (gC2 c).flatMap (r1 34 [38, 113, 117, 111, 116, 59])
noncomputable def gA4 (c : Nat) : List Nat := (gA3 c).flatMap (r1 9 [38, 35, 120, 57, 59])
noncomputable def gA5 (c : Nat) : List Nat := (gA4 c).flatMap (r1 10 [38, 35, 120, 65, 59])
noncomputable def gA6 (c : Nat) : List Nat := (gA5 c).flatMap (r1 13 [38, 35, 120, 68, 59])
theorem gA3_eq (c : Nat) : gA3 c = if c = 38 then [38, 97, 109, 112, 59] else if c = 60 then [38, 108, 116, 59] else if c = 34 then [38, 113, 117, 111, 116, 59] else [c] := by
  unfold gA3; rw [gC2_eq]; unfold r1; by_cases h : c = 38 <;> by_cases h2 : c = 60 <;> simp [h, h2]
theorem gA4_eq (c : Nat) : gA4 c = if c = 38 then [38, 97, 109, 112, 59] else if c = 60 then [38, 108, 116, 59] else if c = 34 then [38, 113, 117, 111, 116, 59] else if c = 9 then [38, 35, 120, 57, 59] else [c] := by
  unfold gA4; rw [gA3_eq]; unfold r1; by_cases h : c = 38 <;> by_cases h2 : c = 60 <;> by_cases h3 : c = 34 <;> simp [h, h2, h3]
theorem gA5_eq (c : Nat) : gA5 c = if c = 38 then [38, 97, 109, 112, 59] else if c = 60 then [38, 108, 116, 59] else if c = 34 then [38, 113, 117, 111, 116, 59] else if c = 9 then [38, 35, 120, 57, 59] else if c = 10 then [38, 35, 120, 65, 59] else [c] := by
  unfold gA5; rw [gA4_eq]; unfold r1; by_cases h : c = 38 <;> by_cases h2 : c = 60 <;> by_cases h3 : c = 34 <;> by_cases h4 : c = 9 <;> simp [h, h2, h3, h4]
theorem gA6_eq (c : Nat) : gA6 c = fA c := by
  unfold gA6; rw [gA5_eq]; unfold r1 fA; by_cases h : c = 38 <;> by_cases h2 : c = 60 <;> by_cases h3 : c = 34 <;> by_cases h4 : c = 9 <;> by_cases h5 : c = 10 <;> simp [h, h2, h3, h4, h5]
theorem gA3_len (c : Nat) : (gA3 c).length ≤ 6 := by rw [gA3_eq]; (repeat' split) <;> simp
theorem gA4_len (c : Nat) : (gA4 c).length ≤ 6 := by rw [gA4_eq]; (repeat' split) <;> simp
theorem gA5_len (c : Nat) : (gA5 c).length ≤ 6 := by rw [gA5_eq]; (repeat' split) <;> simp
noncomputable def txtLine : Nat := 300000
section
variable {W : Wd} {G : Gens} {env : Env} {loc loc' : Loc} {nw nw' : Ledger} {s : Shared} {A : Around} {E : Value → Shared → Prop}
/-- a written text, its token told -/
theorem Sta.strT {x : Str} {k : Nat} {pos : Pos} {Q : Value → Shared → Prop} {M : Model} (S : Sta W G env loc nw s) (h : ∀ s', Sta W G env loc nw s' → s'.toks = s.toks + 1 → Q (.str x s.toks) s') : wpAny M A (eval (.Constant (.str x) k pos) env) Q E s :=
  wpAny_Constant_str (h _ (S.toks _) rfl)
theorem Sta.replace_ {x z : Str} {c : Nat} {y : Str} {t u v : Tok} {Q : Value → Shared → Prop} (S : Sta W G env loc nw s) (hy : y = ⟨#[c]⟩) (hu : u ≠ 0) (hv : v ≠ 0) (huv : u ≠ v) (hyz : (y == z) = false) (hx : x.length ≤ 6 * txtLine) (hz : z.length ≤ 6)
    (h : ∀ t' s', Sta W G env loc nw s' → Q (.str (mapS (r1 c z.cps.toList) x) t') s') : wpAny (model W.prog W.w) A (call (.builtin "str.replace") [.str x t, .str y u, .str z v]) Q E s := by
  subst hy
  refine SC.replace hu hv huv hyz ?_ fun t' k => ?_
  · have h1 : (x.length + 1) * z.length ≤ (x.length + 1) * 6 := Nat.mul_le_mul_left _ hz
    unfold txtLine at hx
    omega
  · rw [replace_r1]; exact h _ _ (S.toks k)
theorem Sta.inStr {x y : Str} {c : Nat} {t u : Tok} {Q : Value → Shared → Prop} (hy : y = ⟨#[c]⟩) (h1 : c ∈ x.cps.toList → Q (.bool true) s) (h2 : c ∉ x.cps.toList → Q (.bool false) s) : wpAny (model W.prog W.w) A (compareOp .In (.str y u) (.str x t)) Q E s := by
  subst hy
  refine PyProof.Rows.in_str ?_
  rw [StrLaws.found_one]
  by_cases h : c ∈ x.cps.toList
  · rw [decide_eq_true h]; exact h1 h
  · rw [decide_eq_false h]; exact h2 h
end
end Mine
end
section
open PySem PySem.W PyProof.Rows PySem.W.X PySem.SeqAt
set_option maxRecDepth 100000
namespace Mine
inductive TxtsAre : List Value → List Str → Prop
  | nil : TxtsAre [] []
  | cons {vs ss} (x : Str) (t : Tok) : TxtsAre vs ss → TxtsAre (.str x t :: vs) (x :: ss)
theorem TxtsAre.snoc {vs : List Value} {ss : List Str} (h : TxtsAre vs ss) (x : Str) (t : Tok) : TxtsAre (vs ++ [.str x t]) (ss ++ [x]) := by
  induction h with
  | nil => exact .cons x t .nil
  | cons y u h ih => exact .cons y u ih
theorem TxtsAre.length {vs : List Value} {ss : List Str} (h : TxtsAre vs ss) : vs.length = ss.length := by
  induction h with
  | nil => rfl
  | cons y u h ih => rw [List.length_cons, List.length_cons, ih]
theorem TxtsAre.values {vs : List Value} {ss : List Str} (h : TxtsAre vs ss) : ∃ l : List (Str × Tok), vs = strValues l ∧ l.map (·.1) = ss := by
  induction h with
  | nil => exact ⟨[], rfl, rfl⟩
  | cons x t h ih =>
    obtain ⟨l, e1, e2⟩ := ih
    exact ⟨(x, t) :: l, by rw [e1]; rfl, by rw [← e2]; rfl⟩
theorem TxtsAre.drop {vs : List Value} {ss : List Str} (h : TxtsAre vs ss) : ∀ k, TxtsAre (vs.drop k) (ss.drop k) := by
  induction h with
  | nil => intro k; rw [List.drop_nil, List.drop_nil]; exact .nil
  | cons y u h ih =>
    intro k
    cases k with
    | zero => exact .cons y u h
    | succ k => exact ih k
noncomputable def IsTxts (ss : List Str) : Cell := fun o => ∃ vs, TxtsAre vs ss ∧ IsLst vs o
/-- texts glued -/
noncomputable def cat : List Str → Str
  | [] => Str.empty
  | x :: r => x ++ cat r
theorem cat_append : ∀ a b : List Str, cat (a ++ b) = cat a ++ cat b
  | [], b => (Str.empty_append _).symm
  | x :: r, b => by
    show x ++ cat (r ++ b) = x ++ cat r ++ cat b
    rw [cat_append r b, Str.append_assoc]
theorem cat_join : ∀ l : List Str, Txt.join Str.empty l = cat l
  | [] => rfl
  | [x] => by
    show x = x ++ Str.empty
    rw [Str.append_empty]
  | x :: y :: r => by
    have ih := cat_join (y :: r)
    unfold Txt.join at ih ⊢
    rw [StrLaws.glued_eq_join] at ih ⊢
    show x ++ Str.empty ++ Str.join Str.empty (y :: r) = x ++ cat (y :: r)
    rw [ih, Str.append_empty]
theorem cat_len : ∀ l : List Str, (cat l).length = (l.map (·.length)).sum
  | [] => rfl
  | x :: r => by
    show (x ++ cat r).length = _
    rw [Str.length_append, cat_len r]; simp
theorem joinOk_cat {l : List Str} (h : (cat l).length ≤ 16777216) : JoinOk Str.empty l = true := by
  unfold JoinOk
  rw [StrLaws.joinTotal, ← cat_len]
  have e : Str.empty.length = 0 := rfl
  rw [e, Nat.mul_zero, Nat.add_zero]
  have hh : Builtin.Str.tooLong (cat l).length = false := by
    unfold Builtin.Str.tooLong sizeLine
    exact decide_eq_false (by omega)
  rw [hh]; rfl
theorem Upd.via2 {a : Addr} {c c' : Cell} {l l' : Ledger} (h : Upd a c c' l l') : ∀ c1, ∃ l1, Upd a c c1 l l1 ∧ Upd a c1 c' l1 l' := by
  induction h with
  | head => exact fun c1 => ⟨_, .head, .head⟩
  | tail h ih =>
    intro c1
    obtain ⟨l1, h1, h2⟩ := ih c1
    exact ⟨_, .tail h1, .tail h2⟩
section
variable {W : Wd} {G : Gens} {env : Env} {loc loc' : Loc} {nw nw' : Ledger} {s : Shared} {A : Around} {E : Value → Shared → Prop}
/-- one cell told otherwise -/
theorem Sta.tell {a : Addr} {c c' : Cell} (S : Sta W G env loc nw s) (U : Upd a c c' nw nw') (h : ∀ o, s.heap.get? a = some o → c o → c' o) : Sta W G env loc nw' s := by
  obtain ⟨o, ho, hc⟩ := S.get U.mem
  exact S.set U (fun b o _ e => e) ho (h o ho hc) s.toks
theorem Sta.openT {a : Addr} {ss : List Str} {c' : Cell} (S : Sta W G env loc nw s) (U : Upd a (IsTxts ss) c' nw nw') : ∃ vs nw1, TxtsAre vs ss ∧ Upd a (IsTxts ss) (IsLst vs) nw nw1 ∧ Upd a (IsLst vs) c' nw1 nw' ∧ Sta W G env loc nw1 s := by
  obtain ⟨o, ho, vs, ht, hl⟩ := S.get U.mem
  obtain ⟨nw1, U1, U2⟩ := U.via2 (IsLst vs)
  exact ⟨vs, nw1, ht, U1, U2, S.tell U1 fun o' ho' _ => by rw [ho] at ho'; cases ho'; exact hl⟩
theorem Sta.txts {a : Addr} {ss : List Str} (S : Sta W G env loc nw s) (m : (a, IsTxts ss) ∈ nw) : ∃ vs, TxtsAre vs ss ∧ s.heap.IsList a vs.toArray := by
  obtain ⟨o, ho, vs, ht, n, rfl⟩ := S.get m
  exact ⟨vs, ht, _, ho, rfl, n, rfl⟩
theorem Sta.appendT {a : Addr} {ss : List Str} {x : Str} {t : Tok} {Q : Value → Shared → Prop} (S : Sta W G env loc nw s) (U : Upd a (IsTxts ss) (IsTxts (ss ++ [x])) nw nw') (hz : ss.length ≤ sizeLine) (h : ∀ s', Sta W G env loc nw' s' → Q .none s') :
    wpAny (model W.prog W.w) A (call (.builtin "list.append") [.ref a, .str x t]) Q E s := by
  obtain ⟨vs, nw1, ht, U1, U2, S1⟩ := S.openT U
  obtain ⟨nw2, U3, U4⟩ := U2.via2 (IsLst (vs ++ [.str x t]))
  exact S1.append U3 (by rw [ht.length]; exact hz) fun s' S2 => h _ (S2.tell U4 fun o _ ho => ⟨_, ht.snoc x t, ho⟩)
theorem Sta.joinT {a : Addr} {ss : List Str} {x : Str} {t : Tok} {Q : Value → Shared → Prop} (S : Sta W G env loc nw s) (m : (a, IsTxts ss) ∈ nw) (hx : x = Str.empty) (hz : (cat ss).length ≤ 16777216) (h : ∀ t' s', Sta W G env loc nw s' → Q (.str (cat ss) t') s') :
    wpAny (model W.prog W.w) A (call (.builtin "str.join") [.str x t, .ref a]) Q E s := by
  subst hx
  obtain ⟨vs, ht, hl⟩ := S.txts m
  obtain ⟨l, e1, e2⟩ := ht.values
  rw [e1] at hl
  refine SC.join hl e2 (joinOk_cat hz) fun t' k => ?_
  rw [cat_join]; exact h _ _ (S.toks k)
/-- a bound method of a built-in called -/
theorem bound_call {p : Addr} {id : String} {self : Value} {pos : List Value} {R : Result → Shared → Prop} {b : Builtin} (hq : plainId id = true) (hb : entryFor table id = some b) (ho : s.heap.get? p = some { cls := .type "builtin_function_or_method", data := .fields #[.builtin id, self] })
    (hc : ∀ (A' : Around) (Q' : Unit → Shared → Prop) (E' : Value → Shared → Prop), Q' () s → wpAny (model W.prog W.w) A' (checkBoundCall id ⟨self :: pos, []⟩) Q' E' s)
    (h : wpAny (model W.prog W.w) A.in1 (b ⟨self :: pos, []⟩)
      (fun fin s' => match fin with | .done f => R (.ok f) s' | .again c' => c'.quiet = true ∧ codeAny (model W.prog W.w) A c' R s') (fun e s' => R (.error e) s') s) :
    codeAny (model W.prog W.w) A (.call (.ref p) ⟨pos, []⟩) R s := by
  obtain ⟨hh, g, dr, t, os⟩ := s
  refine codeAny_of_tree ?_
  show wpAny _ _ (callAny (.ref p) _) _ _ _
  dsimp only at ho
  refine nd_load ho ?_
  show wpAny _ _ (checkBoundCall id ⟨self :: pos, []⟩ >>= fun _ => again (Code.builtin id ⟨self :: pos, []⟩)) _ _ _
  refine wpAny_bind (hc _ _ _ ?_)
  refine wpAny_pure ⟨plainId_quiet hq _, codeAny_builtin hb ?_⟩
  rw [Around.under_plainId hq]
  exact h
theorem check_append {a : Addr} {v : Value} {h : Heap} {g : Array GenState} {d : Drawn} {t : Nat} {os : OsState} {xs : List Value} {n : Nat} (hx : h.get? a = some { cls := .type "list", data := .seq xs.toArray n }) (A' : Around) (Q' : Unit → Shared → Prop) (E' : Value → Shared → Prop) (hq : Q' () ⟨h, g, d, t, os⟩) : wpAny (model W.prog W.w) A' (checkBoundCall "list.append" ⟨[.ref a, v], []⟩) Q' E' ⟨h, g, d, t, os⟩ := by
  have hT : (⟨h, g, d, t, os⟩ : Shared).TypeIs (.ref a) "list" := ⟨_, hx, rfl⟩
  have f1 : Manifest.signature? "list.append" = some ⟨.oneArg, "list.append", "append", .self, [⟨"object", .posOnly, true⟩]⟩ := by kernel_rfl
  have f2 : builtinKind "list.append" = some .method := by kernel_rfl
  have f3 : isSubtype (.type "list") (.type "module") = pure false := by rw [isSubtype_type]; kernel_rfl
  have f4 : Manifest.varargsMethods.contains "list.append" = false := by decide +kernel
  have f5 : ∀ sig : Manifest.Signature, sig = ⟨.oneArg, "list.append", "append", .self, [⟨"object", .posOnly, true⟩]⟩ → Bind.checkArgs "list.append" { sig with full := s!"{Bind.lastOf "list"}.{Bind.lastOf "list.append"}" } ⟨[.ref a, v], []⟩ = pure () := by intro sig e; subst e; kernel_rfl
  unfold checkBoundCall
  rw [f1, f2]
  refine wpAny_bind (wpAny_isInstance hT f3 ?_)
  rw [f4]
  show wpAny _ _ (isType (.ref a) >>= _) _ _ _
  refine wpAny_bind ?_
  unfold isType
  repeat lk
  exact hq
end
end Mine
end
section
open PySem PySem.W PyProof.Rows PySem.W.X PySem.SeqAt
set_option maxRecDepth 100000
namespace Mine
noncomputable def VV (a1 a2 a3 a4 a5 a6 a7 a8 a9 a10 a11 a12 a13 a14 a15 a16 a17 : Value) : Loc := [("_write", some a1), ("_data", some a2), ("_with_comments", some a3), ("_strip_text", some a4), ("_exclude_attrs", some a5), ("_exclude_tags", some a6), ("_rewrite_prefixes", some a7), ("_qname_aware_tags", some a8), ("_find_qname_aware_attrs", some a9), ("_declared_ns_stack", some a10), ("_ns_stack", some a11), ("_prefix_map", some a12), ("_preserve_space", some a13), ("_pending_start", some a14), ("_root_seen", some a15), ("_root_done", some a16), ("_ignored_depth", some a17)]
theorem VV.keys {a1 a2 a3 a4 a5 a6 a7 a8 a9 a10 a11 a12 a13 a14 a15 a16 a17 : Value} : (VV a1 a2 a3 a4 a5 a6 a7 a8 a9 a10 a11 a12 a13 a14 a15 a16 a17).map Prod.fst = selfNames := rfl
theorem m_write {a1 a2 a3 a4 a5 a6 a7 a8 a9 a10 a11 a12 a13 a14 a15 a16 a17 : Value} : (("_write" : Str), some a1) ∈ VV a1 a2 a3 a4 a5 a6 a7 a8 a9 a10 a11 a12 a13 a14 a15 a16 a17 := (.head _)
theorem m_data {a1 a2 a3 a4 a5 a6 a7 a8 a9 a10 a11 a12 a13 a14 a15 a16 a17 : Value} : (("_data" : Str), some a2) ∈ VV a1 a2 a3 a4 a5 a6 a7 a8 a9 a10 a11 a12 a13 a14 a15 a16 a17 := (.tail _ (.head _))
theorem m_with_comments {a1 a2 a3 a4 a5 a6 a7 a8 a9 a10 a11 a12 a13 a14 a15 a16 a17 : Value} : (("_with_comments" : Str), some a3) ∈ VV a1 a2 a3 a4 a5 a6 a7 a8 a9 a10 a11 a12 a13 a14 a15 a16 a17 := (.tail _ (.tail _ (.head _)))
theorem m_strip_text {a1 a2 a3 a4 a5 a6 a7 a8 a9 a10 a11 a12 a13 a14 a15 a16 a17 : Value} : (("_strip_text" : Str), some a4) ∈ VV a1 a2 a3 a4 a5 a6 a7 a8 a9 a10 a11 a12 a13 a14 a15 a16 a17 := (.tail _ (.tail _ (.tail _ (.head _))))
theorem m_exclude_attrs {a1 a2 a3 a4 a5 a6 a7 a8 a9 a10 a11 a12 a13 a14 a15 a16 a17 : Value} : (("_exclude_attrs" : Str), some a5) ∈ VV a1 a2 a3 a4 a5 a6 a7 a8 a9 a10 a11 a12 a13 a14 a15 a16 a17 := (.tail _ (.tail _ (.tail _ (.tail _ (.head _)))))
theorem m_exclude_tags {a1 a2 a3 a4 a5 a6 a7 a8 a9 a10 a11 a12 a13 a14 a15 a16 a17 : Value} : (("_exclude_tags" : Str), some a6) ∈ VV a1 a2 a3 a4 a5 a6 a7 a8 a9 a10 a11 a12 a13 a14 a15 a16 a17 := (.tail _ (.tail _ (.tail _ (.tail _ (.tail _ (.head _))))))
theorem m_rewrite_prefixes {a1 a2 a3 a4 a5 a6 a7 a8 a9 a10 a11 a12 a13 a14 a15 a16 a17 : Value} : (("_rewrite_prefixes" : Str), some a7) ∈ VV a1 a2 a3 a4 a5 a6 a7 a8 a9 a10 a11 a12 a13 a14 a15 a16 a17 := (.tail _ (.tail _ (.tail _ (.tail _ (.tail _ (.tail _ (.head _)))))))
theorem m_qname_aware_tags {a1 a2 a3 a4 a5 a6 a7 a8 a9 a10 a11 a12 a13 a14 a15 a16 a17 : Value} : (("_qname_aware_tags" : Str), some a8) ∈ VV a1 a2 a3 a4 a5 a6 a7 a8 a9 a10 a11 a12 a13 a14 a15 a16 a17 := (.tail _ (.tail _ (.tail _ (.tail _ (.tail _ (.tail _ (.tail _ (.head _))))))))
theorem m_find_qname_aware_attrs {a1 a2 a3 a4 a5 a6 a7 a8 a9 a10 a11 a12 a13 a14 a15 a16 a17 : Value} : (("_find_qname_aware_attrs" : Str), some a9) ∈ VV a1 a2 a3 a4 a5 a6 a7 a8 a9 a10 a11 a12 a13 a14 a15 a16 a17 := (.tail _ (.tail _ (.tail _ (.tail _ (.tail _ (.tail _ (.tail _ (.tail _ (.head _)))))))))
theorem m_declared_ns_stack {a1 a2 a3 a4 a5 a6 a7 a8 a9 a10 a11 a12 a13 a14 a15 a16 a17 : Value} : (("_declared_ns_stack" : Str), some a10) ∈ VV a1 a2 a3 a4 a5 a6 a7 a8 a9 a10 a11 a12 a13 a14 a15 a16 a17 := (.tail _ (.tail _ (.tail _ (.tail _ (.tail _ (.tail _ (.tail _ (.tail _ (.tail _ (.head _))))))))))
theorem m_ns_stack {a1 a2 a3 a4 a5 a6 a7 a8 a9 a10 a11 a12 a13 a14 a15 a16 a17 : Value} : (("_ns_stack" : Str), some a11) ∈ VV a1 a2 a3 a4 a5 a6 a7 a8 a9 a10 a11 a12 a13 a14 a15 a16 a17 := (.tail _ (.tail _ (.tail _ (.tail _ (.tail _ (.tail _ (.tail _ (.tail _ (.tail _ (.tail _ (.head _)))))))))))
theorem m_preserve_space {a1 a2 a3 a4 a5 a6 a7 a8 a9 a10 a11 a12 a13 a14 a15 a16 a17 : Value} : (("_preserve_space" : Str), some a13) ∈ VV a1 a2 a3 a4 a5 a6 a7 a8 a9 a10 a11 a12 a13 a14 a15 a16 a17 := (.tail _ (.tail _ (.tail _ (.tail _ (.tail _ (.tail _ (.tail _ (.tail _ (.tail _ (.tail _ (.tail _ (.tail _ (.head _)))))))))))))
theorem m_pending_start {a1 a2 a3 a4 a5 a6 a7 a8 a9 a10 a11 a12 a13 a14 a15 a16 a17 : Value} : (("_pending_start" : Str), some a14) ∈ VV a1 a2 a3 a4 a5 a6 a7 a8 a9 a10 a11 a12 a13 a14 a15 a16 a17 := (.tail _ (.tail _ (.tail _ (.tail _ (.tail _ (.tail _ (.tail _ (.tail _ (.tail _ (.tail _ (.tail _ (.tail _ (.tail _ (.head _))))))))))))))
theorem m_root_seen {a1 a2 a3 a4 a5 a6 a7 a8 a9 a10 a11 a12 a13 a14 a15 a16 a17 : Value} : (("_root_seen" : Str), some a15) ∈ VV a1 a2 a3 a4 a5 a6 a7 a8 a9 a10 a11 a12 a13 a14 a15 a16 a17 := (.tail _ (.tail _ (.tail _ (.tail _ (.tail _ (.tail _ (.tail _ (.tail _ (.tail _ (.tail _ (.tail _ (.tail _ (.tail _ (.tail _ (.head _)))))))))))))))
theorem m_root_done {a1 a2 a3 a4 a5 a6 a7 a8 a9 a10 a11 a12 a13 a14 a15 a16 a17 : Value} : (("_root_done" : Str), some a16) ∈ VV a1 a2 a3 a4 a5 a6 a7 a8 a9 a10 a11 a12 a13 a14 a15 a16 a17 := (.tail _ (.tail _ (.tail _ (.tail _ (.tail _ (.tail _ (.tail _ (.tail _ (.tail _ (.tail _ (.tail _ (.tail _ (.tail _ (.tail _ (.tail _ (.head _))))))))))))))))
theorem m_ignored_depth {a1 a2 a3 a4 a5 a6 a7 a8 a9 a10 a11 a12 a13 a14 a15 a16 a17 : Value} : (("_ignored_depth" : Str), some a17) ∈ VV a1 a2 a3 a4 a5 a6 a7 a8 a9 a10 a11 a12 a13 a14 a15 a16 a17 := (.tail _ (.tail _ (.tail _ (.tail _ (.tail _ (.tail _ (.tail _ (.tail _ (.tail _ (.tail _ (.tail _ (.tail _ (.tail _ (.tail _ (.tail _ (.tail _ (.head _)))))))))))))))))
theorem p_root_seen {a1 a2 a3 a4 a5 a6 a7 a8 a9 a10 a11 a12 a13 a14 a15 a16 a17 v : Value} : Put "_root_seen" (some v) (VV a1 a2 a3 a4 a5 a6 a7 a8 a9 a10 a11 a12 a13 a14 a15 a16 a17) (VV a1 a2 a3 a4 a5 a6 a7 a8 a9 a10 a11 a12 a13 a14 v a16 a17) := (.tail (.tail (.tail (.tail (.tail (.tail (.tail (.tail (.tail (.tail (.tail (.tail (.tail (.tail .head))))))))))))))
theorem p_root_done {a1 a2 a3 a4 a5 a6 a7 a8 a9 a10 a11 a12 a13 a14 a15 a16 a17 v : Value} : Put "_root_done" (some v) (VV a1 a2 a3 a4 a5 a6 a7 a8 a9 a10 a11 a12 a13 a14 a15 a16 a17) (VV a1 a2 a3 a4 a5 a6 a7 a8 a9 a10 a11 a12 a13 a14 a15 v a17) := (.tail (.tail (.tail (.tail (.tail (.tail (.tail (.tail (.tail (.tail (.tail (.tail (.tail (.tail (.tail .head)))))))))))))))
theorem p_ignored_depth {a1 a2 a3 a4 a5 a6 a7 a8 a9 a10 a11 a12 a13 a14 a15 a16 a17 v : Value} : Put "_ignored_depth" (some v) (VV a1 a2 a3 a4 a5 a6 a7 a8 a9 a10 a11 a12 a13 a14 a15 a16 a17) (VV a1 a2 a3 a4 a5 a6 a7 a8 a9 a10 a11 a12 a13 a14 a15 a16 v) := (.tail (.tail (.tail (.tail (.tail (.tail (.tail (.tail (.tail (.tail (.tail (.tail (.tail (.tail (.tail (.tail .head))))))))))))))))
inductive Mid (L L' : Ledger) : Ledger → Ledger → Prop
  | head {N} : Mid L L' (L ++ N) (L' ++ N)
  | tail {p r r'} : Mid L L' r r' → Mid L L' (p :: r) (p :: r')
  | app {P r r'} : Mid L L' r r' → Mid L L' (P ++ r) (P ++ r')
theorem Mid.perm {L L' nw nw' : Ledger} (h : Mid L L' nw nw') : ∃ N, nw.Perm (L ++ N) ∧ nw'.Perm (L' ++ N) := by
  induction h with
  | @head N => exact ⟨N, .refl _, .refl _⟩
  | @tail p r r' h ih =>
    obtain ⟨N, h1, h2⟩ := ih
    exact ⟨p :: N, (List.Perm.cons _ h1).trans List.perm_middle.symm, (List.Perm.cons _ h2).trans List.perm_middle.symm⟩
  | @app P r r' h ih =>
    obtain ⟨N, h1, h2⟩ := ih
    have e : ∀ L : Ledger, List.Perm (P ++ (L ++ N)) (L ++ (P ++ N)) := fun L => by
      rw [← List.append_assoc, ← List.append_assoc]
      exact List.Perm.append_right _ List.perm_append_comm
    exact ⟨P ++ N, (List.Perm.append_left P h1).trans (e _), (List.Perm.append_left P h2).trans (e _)⟩
/-- where what is written goes -/
structure Sink (W : Wd) where
  σ : Type
  q : Addr
  L : σ → Ledger
  push : σ → Str → σ
  room : σ → Nat → Prop
  less : ∀ {st : σ} {n : Nat}, room st (n + 1) → room st n
  step : ∀ {st : σ} {n : Nat} (x : Str), room st (n + 1) → room (push st x) n
  call : ∀ {G : Gens} {env : Env} {loc : Loc} {N : Ledger} {s : Shared} {A : Around} {E : Value → Shared → Prop} {x : Str} {t : Tok} {st : σ} {Q : Value → Shared → Prop}, Aok 3 A → room st 1 → Sta W G env loc (L st ++ N) s →
    (∀ s', Sta W G env loc (L (push st x) ++ N) s' → Q .none s') → wpAny (model W.prog W.w) A (PySem.call (.ref q) [.str x t]) Q E s
  keep : ∀ {N : Ledger} {h : Heap} {st : σ}, W.K.In h → Led W.B (L st ++ N) h → ∃ k, (k = Keeper.frame ∨ k = Keeper.machine ∨ k = Keeper.boundFrame) ∧ Looks (model W.prog W.w) h (keeperOf (.ref q)) k
noncomputable def Sink.pushes {W : Wd} (K : Sink W) (st : K.σ) (xs : List Str) : K.σ := xs.foldl K.push st
theorem Sink.pushes_append {W : Wd} (K : Sink W) (st : K.σ) (a b : List Str) : K.pushes st (a ++ b) = K.pushes (K.pushes st a) b := List.foldl_append
section
variable {W : Wd} {G : Gens} {env : Env} {loc loc' : Loc} {nw nw' : Ledger} {s : Shared} {A : Around} {E : Value → Shared → Prop} {C x dx : Addr} {vals vals' : Loc}
theorem Sta.getF {name : Str} {v : Value} {expr : Bool} {Q : Value → Shared → Prop} (S : Sta W G env loc nw s) (c : Cl W.K C selfNames) (mx : (x, IsInst C dx) ∈ nw) (md : (dx, IsAttrs vals) ∈ nw) (hk : vals.map Prod.fst = selfNames) (hv : (name, some v) ∈ vals) (hh : handedIn v = true)
    (h : ∀ s', Sta W G env loc nw s' → Q v s') : wpAny (model W.prog W.w) A (getAttr (.ref x) name expr) Q E s := S.getattr c mx md hk hv hh h
theorem Sta.getM_val {name : Str} {v : Value} {Q : Value × List Value → Shared → Prop} (S : Sta W G env loc nw s) (c : Cl W.K C selfNames) (mx : (x, IsInst C dx) ∈ nw) (md : (dx, IsAttrs vals) ∈ nw) (hk : vals.map Prod.fst = selfNames) (hv : (name, some v) ∈ vals) (hh : handedIn v = true)
    (h : ∀ s', Sta W G env loc nw s' → Q (v, []) s') : GetM (model W.prog W.w) A E name (.ref x) Q s := fun pl => by
  obtain ⟨od, I, nd, _, es, ep, hd, hsk, hl, _⟩ := S.inst mx md
  have hn : findIn W.K (.ref C) name = some none := c.own _ (by rw [← hk]; exact List.mem_map.mpr ⟨_, hv, rfl⟩)
  exact method_usual S.kin I c.ga c.gh hn rfl (S.getattr c mx md hk hv hh h)
theorem Sta.sink {K : Sink W} {st : K.σ} {y : Str} {t : Tok} {Q : Value → Shared → Prop} (S : Sta W G env loc nw s) (hA : Aok 3 A) (hr : K.room st 1) (M : Mid (K.L st) (K.L (K.push st y)) nw nw') (h : ∀ s', Sta W G env loc nw' s' → Q .none s') :
    wpAny (model W.prog W.w) A (call (.ref K.q) [.str y t]) Q E s := by
  obtain ⟨N, h1, h2⟩ := M.perm
  exact K.call hA hr (S.perm h1) fun s' S' => h _ (S'.perm h2.symm)
/-- a call of the value under which the sink stands -/
theorem callK_1 {K : Sink W} {pos : Pos} {e : Expr} {rest : List Expr} {Q : Value → Shared → Prop}
    (h : wpAny (model W.prog W.w) A (spliced (backTo pos (starEach (e :: rest) env))) (fun vs s₁ => (∃ N st, W.K.In s₁.heap ∧ Led W.B (K.L st ++ N) s₁.heap) ∧ wpAny (model W.prog W.w) A (call (.ref K.q) vs) Q E s₁) E s)
    (he : starEach (e :: rest) env = (false, eval e env) :: starEach rest env) (hplain : (backTo pos (starEach rest env)).any (·.1) = false) :
    wpAny (model W.prog W.w) A (callWith pos (.ref K.q) [] (backTo pos (starEach (e :: rest) env)) (backToKw pos (keywordEach [] env))) Q E s := by
  rw [he] at h ⊢
  refine callWith_of (P := fun h => ∃ N st, W.K.In h ∧ Led W.B (K.L st ++ N) h) (first := []) (by show (false || (backTo pos (starEach rest env)).any (·.1) || false) = false; rw [hplain]; rfl) (fun h X => ?_) (Calls.evalArgs_plain h)
  obtain ⟨N, st, X, D⟩ := X
  exact K.keep X D
theorem Sta.sinkLed {K : Sink W} {st : K.σ} {L' : Ledger} (S : Sta W G env loc nw s) (M : Mid (K.L st) L' nw nw') : ∃ N st, W.K.In s.heap ∧ Led W.B (K.L st ++ N) s.heap := by
  obtain ⟨N, h1, _⟩ := M.perm
  exact ⟨N, st, S.kin, (S.perm h1).led.tail⟩
theorem looks_bound {M : Model} {h : Heap} {q : Addr} {id : String} {self : Value} (ho : h.get? q = some { cls := .type "builtin_function_or_method", data := .fields #[.builtin id, self] }) : Looks M h (keeperOf (.ref q)) .machine :=
  (Looks.ld (part := none) ho).andThen .now
end
/-- the writing kept in a list -/
noncomputable def listSink (W : Wd) (q out : Addr) : Sink W where
  σ := List Str
  q := q
  L := fun ss => [(q, IsBound "list.append" (.ref out)), (out, IsTxts ss)]
  push := fun ss x => ss ++ [x]
  room := fun ss n => ss.length + n ≤ 16000000
  less := fun h => by omega
  step := fun x h => by rw [List.length_append, List.length_singleton]; omega
  call := by
    intro G env loc N s A E x t st Q hA hr S h
    obtain ⟨o, ho, rfl⟩ := S.get (.head _)
    have U : Upd out (IsTxts st) (IsTxts (st ++ [x])) ([(q, IsBound "list.append" (.ref out)), (out, IsTxts st)] ++ N) ([(q, IsBound "list.append" (.ref out)), (out, IsTxts (st ++ [x]))] ++ N) := .tail .head
    obtain ⟨vs, nw1, ht, U1, U2, S1⟩ := S.openT U
    obtain ⟨nw2, U3, U4⟩ := U2.via2 (IsLst (vs ++ [.str x t]))
    obtain ⟨n, hl⟩ := S1.isL U3.mem
    have hz : vs.length ≤ sizeLine := by rw [ht.length, sizeLine_eq]; omega
    refine wpAny_call (bound_call (W := W) F.slot_list_append.plain F.entry_list_append ho (fun A' Q' E' hq => check_append hl A' Q' E' hq) ?_)
    refine list_append out vs.toArray n (.str x t) (by simpa using hz) W.prog W.w A (wants Q E) s ⟨hl, ?_⟩
    exact h _ ((S1.setL hl _ (by simp) U3 _).tell U4 fun o _ ho => ⟨_, ht.snoc x t, ho⟩)
  keep := by
    intro N h st X D
    obtain ⟨o, ho, rfl⟩ := D.get (.head _)
    exact ⟨.machine, .inr (.inl rfl), looks_bound ho⟩
end Mine
end
section
open PySem PySem.W PyProof.Rows PySem.W.X PySem.SeqAt
set_option maxRecDepth 100000
namespace Mine
theorem delAll_run {prog : Program} {w : World} {A : Around} {E : Value → Shared → Prop} {h : Heap} {g : Array GenState} {d : Drawn} {t : Nat} {os : OsState} {a sl : Addr} {xs : List Value} {n : Nat} {Q : Fin → Shared → Prop}
   (hx : h.get? a = some { cls := .type "list", data := .seq xs.toArray n }) (hs : h.get? sl = some { cls := .type "slice", data := .fields #[.none, .none, .none] }) (hz : xs.length ≤ sizeLine)
   (hq : ∀ f : Array Value → Array Value, f xs.toArray = #[] → Q (.done (.ret .none)) ⟨h.update a (Obj.mapSeq f), g, d, t, os⟩) :
   wpAny (model prog w) A (Builtin.«list.__delitem__» ⟨[.ref a, .ref sl], []⟩) Q E ⟨h, g, d, t, os⟩ := by
  have hT : (⟨h, g, d, t, os⟩ : Shared).TypeIs (.ref a) "list" := ⟨_, hx, rfl⟩
  have hS : (⟨h, g, d, t, os⟩ : Shared).TypeIs (.ref sl) "slice" := ⟨_, hs, rfl⟩
  unfold Builtin.«list.__delitem__»
  repeat lk
  refine wpAny_update hx ?_
  have hf : ∀ (sel : Nat → Bool), (∀ k, k < xs.length → sel k = true) → (fun ys : Array Value => (ys.toList.zipIdx.filterMap fun x => if sel x.2 = true then none else some x.1).toArray) xs.toArray = #[] := by
    intro sel h
    show (xs.zipIdx.filterMap fun x => if sel x.2 = true then none else some x.1).toArray = #[]
    rw [List.filterMap_eq_nil_iff.mpr]
    intro x hx
    have := (List.mem_zipIdx hx).2.1
    rw [if_pos (h _ (by omega))]
  have hs1 : ∀ k, k < xs.length → (if (1 : Int) > 0 then decide ((if (1 : Int) > 0 then 0 else (xs.toArray.size : Int) - 1) ≤ (k : Int)) && decide ((k : Int) < (if (1 : Int) > 0 then (xs.toArray.size : Int) else -1)) && (((k : Int) - (if (1 : Int) > 0 then 0 else (xs.toArray.size : Int) - 1)) % 1 == 0)
      else false) = true := by
    intro k hk
    simp
    omega
  have e := hf _ hs1
  refine wpAny_lookBehind (IsL.update hx _) ?_ ?_
  · refine pastItsLine_seq ?_
    rw [List.size_toArray]
    refine Nat.le_trans (List.length_filterMap_le _ _) ?_
    rw [List.length_zipIdx]
    show xs.length ≤ sizeLine + 1
    omega
  refine wpAny_bind (wpAny_letGo ?_)
  refine wpAny_pure ?_
  exact hq _ e
section
variable {W : Wd} {G : Gens} {env : Env} {loc loc' : Loc} {nw nw' : Ledger} {s : Shared} {A : Around} {E : Value → Shared → Prop}
noncomputable def DelK (W : Wd) (env : Env) (Q : Unit → Shared → Prop) (o : Value) (s : Shared) : Prop :=
  ∃ G loc nw nw' l ss, Sta W G env loc nw s ∧ o = .ref l ∧ Upd l (IsTxts ss) (IsTxts []) nw nw' ∧ ss.length ≤ sizeLine ∧ ∀ s', Sta W G env loc nw' s' → Q () s'
/-- del xs[:] -/
theorem delete_all {value : Expr} {p pos : Pos} {Q : Unit → Shared → Prop}
    (h : wpAny (model W.prog W.w) A (eval value env) (fun o s₁ => DelK W env Q o s₁) E s) :
    wpAny (model W.prog W.w) A (delete (.Subscript value (.Slice none none none p) pos) env) Q E s := by
  show wpAny _ _ (do
    let ov ← eval value env
    let iv ← holding [ov] (eval (.Slice none none none p) env)
    standAt pos
    holding [ov, iv] (delItem ov iv)
    release [ov, iv] []) _ _ _
  refine wpAny_bind (wpAny_mono h (fun o s₁ h₁ => ?_) fun _ _ e => e)
  obtain ⟨G, loc, nw, nw', l, ss, S, rfl, U, hz, q⟩ := h₁
  refine wpAny_bind (wpAny_holding ?_)
  refine wpAny_Slice ?_
  rw [evalPart_none]
  refine wpAny_pure (wpAny_pure (wpAny_pure ?_))
  have S1 := S.new (c := IsObj { cls := .type "slice", data := .fields #[.none, .none, .none] }) rfl rfl s₁.toks
  refine wpAny_bind (wpAny_standAt (wpAny_bind (wpAny_holding ?_)))
  obtain ⟨vs, nw1, ht, U1, U2, S2⟩ := S1.openT (.tail U)
  obtain ⟨nw2, U3, U4⟩ := U2.via2 (IsLst [])
  obtain ⟨n, hl⟩ := S2.isL U3.mem
  obtain ⟨o, ho, rfl⟩ := S1.get (.head _)
  refine wpAny_delItem_slot ⟨_, hl, rfl⟩ (by decide) F.slot_list_delitem ?_
  refine wpAny_call (codeAny_call_builtin F.slot_list_delitem.plain F.entry_list_delitem (F.slot_list_delitem.check _ _ _ _ _ _ _ _ ⟨_, hl, rfl⟩ (F.args_list_delitem_2 _ _) ?_))
  refine delAll_run hl ho (by rw [ht.length]; exact hz) fun f hf => ?_
  refine wpAny_release (q _ ?_)
  exact ((S2.setL hl f hf U3 _).tell U4 fun o _ ho => ⟨_, .nil, ho⟩).sub (List.sublist_cons_self _ _)
theorem check_join {x : Str} {t0 : Tok} {v : Value} (A' : Around) (Q' : Unit → Shared → Prop) (E' : Value → Shared → Prop) (hq : Q' () s) : wpAny (model W.prog W.w) A' (checkBoundCall "str.join" ⟨[.str x t0, v], []⟩) Q' E' s := by
  obtain ⟨h, g, d, t, os⟩ := s
  have hT : (⟨h, g, d, t, os⟩ : Shared).TypeIs (.str x t0) "str" := typeIs_str _ _ _
  have f1 : Manifest.signature? "str.join" = some ⟨.oneArg, "str.join", "join", .self, [⟨"iterable", .posOnly, true⟩]⟩ := by kernel_rfl
  have f2 : builtinKind "str.join" = some .method := by kernel_rfl
  have f3 : isSubtype (.type "str") (.type "module") = pure false := by rw [isSubtype_type]; kernel_rfl
  have f4 : Manifest.varargsMethods.contains "str.join" = false := by decide +kernel
  have f5 : ∀ sig : Manifest.Signature, sig = ⟨.oneArg, "str.join", "join", .self, [⟨"iterable", .posOnly, true⟩]⟩ → Bind.checkArgs "str.join" { sig with full := s!"{Bind.lastOf "str"}.{Bind.lastOf "str.join"}" } ⟨[.str x t0, v], []⟩ = pure () := by intro sig e; subst e; kernel_rfl
  unfold checkBoundCall
  rw [f1, f2]
  refine wpAny_bind (wpAny_isInstance hT f3 ?_)
  rw [f4]
  show wpAny _ _ (isType (.str x t0) >>= _) _ _ _
  refine wpAny_bind ?_
  unfold isType
  repeat lk
  first | exact hq | exact wpAny_of_eq (f5 _ rfl) hq
/-- the bound ''.join of the text called -/
theorem Sta.joinB {p a : Addr} {ss : List Str} {x : Str} {t0 : Tok} {Q : Value → Shared → Prop} (S : Sta W G env loc nw s) (ho : W.K.lookup p = some { cls := .type "builtin_function_or_method", data := .fields #[.builtin "str.join", .str x t0] }) (m : (a, IsTxts ss) ∈ nw) (hx : x = Str.empty) (hz : (cat ss).length ≤ 16777216) (h : ∀ t' s', Sta W G env loc nw s' → Q (.str (cat ss) t') s') :
    wpAny (model W.prog W.w) A (call (.ref p) [.ref a]) Q E s := by
  subst hx
  obtain ⟨vs, ht, hl⟩ := S.txts m
  obtain ⟨l, e1, e2⟩ := ht.values
  rw [e1] at hl
  have hok := joinOk_cat hz
  rw [← e2] at hok
  unfold JoinOk at hok
  rw [Bool.not_eq_true'] at hok
  refine wpAny_call (bound_call (W := W) F.slot_str_join.plain F.entry_str_join (S.kin _ _ ho) (fun A' Q' E' hq => check_join A' Q' E' hq) ?_)
  refine meets_str_join_list Str.empty t0 a l hok W.prog W.w A (wants Q E) s ⟨hl, post_join l ⟨joinFit_length hok, fun t' k => ?_⟩⟩
  show Q (.str (Txt.join Str.empty (l.map (·.1))) t') _
  rw [e2, cat_join]; exact h _ _ (S.toks k)
/-- a call of a bound built-in of the text -/
theorem callB_1 {pos : Pos} {p : Addr} {id : String} {self : Value} {e : Expr} {rest : List Expr} {Q : Value → Shared → Prop} (ho : W.K.lookup p = some { cls := .type "builtin_function_or_method", data := .fields #[.builtin id, self] })
    (h : wpAny (model W.prog W.w) A (spliced (backTo pos (starEach (e :: rest) env))) (fun vs s₁ => W.K.In s₁.heap ∧ wpAny (model W.prog W.w) A (call (.ref p) vs) Q E s₁) E s)
    (he : starEach (e :: rest) env = (false, eval e env) :: starEach rest env) (hplain : (backTo pos (starEach rest env)).any (·.1) = false) :
    wpAny (model W.prog W.w) A (callWith pos (.ref p) [] (backTo pos (starEach (e :: rest) env)) []) Q E s := by
  rw [he] at h ⊢
  exact callWith_of (P := fun h => W.K.In h) (first := []) (by show (false || (backTo pos (starEach rest env)).any (·.1) || false) = false; rw [hplain]; rfl) (fun h X => ⟨.machine, .inr (.inl rfl), looks_bound (X _ _ ho)⟩) (Calls.evalArgs_plain h)
theorem isNot_nn {M : Model} {Q : Value → Shared → Prop} (h : Q (.bool false) s) : wpAny M A (compareOp .IsNot .none .none) Q E s := wpAny_isNot_plain rfl h
theorem isNot_rn {M : Model} {a : Addr} {Q : Value → Shared → Prop} (h : Q (.bool true) s) : wpAny M A (compareOp .IsNot (.ref a) .none) Q E s := wpAny_isNot_plain rfl h
theorem is_nn {M : Model} {Q : Value → Shared → Prop} (h : Q (.bool true) s) : wpAny M A (compareOp .Is .none .none) Q E s := wpAny_is_plain rfl h
theorem truthy_s {x : Str} {t : Tok} {Q : Bool → Shared → Prop} (S : Sta W G env loc nw s) (hz : x.length ≤ 16777216) (h1 : x.length = 0 → ∀ s', Sta W G env loc nw s' → Q false s') (h2 : x.length ≠ 0 → ∀ s', Sta W G env loc nw s' → Q true s') : wpAny (model W.prog W.w) A (truthy (.str x t)) Q E s := by
  refine SBL.truthy (by omega) ?_
  by_cases e : x.length = 0
  · have e2 : ((x.length : Int) != 0) = false := by rw [e]; rfl
    rw [e2]; exact h1 e _ (S.toks _)
  · have e2 : ((x.length : Int) != 0) = true := bne_iff_ne.mpr (by omega)
    rw [e2]; exact h2 e _ (S.toks _)
theorem Sta.getM_txts {name : Str} {a : Addr} {ss : List Str} {Q : Value × List Value → Shared → Prop} {id : String} (S : Sta W G env loc nw s) (m : (a, IsTxts ss) ∈ nw) (slot : Slot "list" name id) (hty : typeOf (.builtin id) = pure (.type "method_descriptor")) (h : Q (.builtin id, [.ref a]) s) :
    GetM (model W.prog W.w) A E name (.ref a) Q s := by
  obtain ⟨o, ho, vs, ht, n, rfl⟩ := S.get m
  exact getM_builtin F.plainAttrs_list slot hty ⟨_, ho, rfl⟩ (fun b e => by cases e; exact ⟨_, ho, rfl⟩) h
theorem Sta.truthyT {a : Addr} {ss : List Str} {Q : Bool → Shared → Prop} (S : Sta W G env loc nw s) (m : (a, IsTxts ss) ∈ nw) (hz : ss.length ≤ sizeLine) (h : ∀ s', Sta W G env loc nw s' → Q (!ss.isEmpty) s') :
    wpAny (model W.prog W.w) A (truthy (.ref a)) Q E s := by
  obtain ⟨vs, ht, hl⟩ := S.txts m
  have e : vs.isEmpty = ss.isEmpty := by cases ht <;> rfl
  refine wpAny_truthy_list hl ?_ ?_
  · rw [sizeLine_eq] at hz; rw [List.size_toArray, ht.length]; omega
  · have := h _ (S.toks (s.toks + 1 + 1))
    rw [← e] at this
    simpa using this
end
end Mine
end
section
open PySem PySem.W PyProof.Rows PySem.W.X PySem.SeqAt
set_option maxRecDepth 100000
namespace Mine
theorem execs_at {M : Model} {A : Around} {E : Value → Shared → Prop} {s : Shared} {env : Env} {l : List Stmt} {n : Nat} {st : Stmt} {Q : Flow → Shared → Prop} (h : l[n]? = some st)
    (k : wpAny M A (exec st env) (fun f s₁ => match f with | .next => wpAny M A (execs (l.drop (n + 1)) env) Q E s₁ | f => Q f s₁) E s) : wpAny M A (execs (l.drop n) env) Q E s := by
  obtain ⟨hn, e⟩ := List.getElem?_eq_some_iff.mp h
  rw [List.drop_eq_getElem_cons hn, e]
  exact wpAny_execs_cons k
theorem execs_end {M : Model} {A : Around} {E : Value → Shared → Prop} {s : Shared} {env : Env} {l : List Stmt} {n : Nat} {Q : Flow → Shared → Prop} (h : l.length ≤ n) (k : Q .next s) : wpAny M A (execs (l.drop n) env) Q E s := by
  rw [List.drop_of_length_le h]
  exact wpAny_execs_nil k
theorem execs_go {M : Model} {A : Around} {E : Value → Shared → Prop} {s : Shared} {env : Env} {l : List Stmt} {Q : Flow → Shared → Prop} (k : wpAny M A (execs (l.drop 0) env) Q E s) : wpAny M A (execs l env) Q E s := k
noncomputable def SliceSK (W : Wd) (env : Env) (Q : Value → Shared → Prop) (o vl vu : Value) (s : Shared) : Prop :=
  ∃ G loc nw x t lo hi, Sta W G env loc nw s ∧ o = .str x t ∧ x.length ≤ sizeLine ∧ IsPart vl lo ∧ IsPart vu hi ∧ ∀ t' s', Sta W G env loc nw s' → Q (.str (Txt.slice x lo hi) t') s'
noncomputable def IsSS (W : Wd) (S : Str → Bool) (n : Nat) : Cell := fun o => o.SetObjOf (PySem.strKind W.prog W.w) S n
section
variable {W : Wd} {G : Gens} {env : Env} {loc loc' : Loc} {nw nw' : Ledger} {s : Shared} {A : Around} {E : Value → Shared → Prop}
theorem part_value {v : Value} {o : Option Int} (h : IsPart v o) : ∃ l : Option (Int × Tok), v = partValue l ∧ l.map (·.1) = o := by
  cases h with
  | none => exact ⟨none, rfl, rfl⟩
  | int i t => exact ⟨some (i, t), rfl, rfl⟩
theorem sliceS_ {value : Expr} {lower upper : Option Expr} {p pos : Pos} {Q : Value → Shared → Prop}
    (h : wpAny (model W.prog W.w) A (eval value env) (fun o s₁ => wpAny (model W.prog W.w) A (evalPart lower env) (fun vl s₂ => wpAny (model W.prog W.w) A (evalPart upper env) (fun vu s₃ => SliceSK W env Q o vl vu s₃) E s₂) E s₁) E s)
    (ht : ∀ o r, letTemporaryGo value o r = pure () := by intro _ _; rfl) :
    wpAny (model W.prog W.w) A (eval (.Subscript value (.Slice lower upper none p) pos) env) Q E s := by
  refine wpAny_Subscript_str_slice (wpAny_mono h (fun o s₁ h₁ => wpAny_mono h₁ (fun vl s₂ h₂ => wpAny_mono h₂ (fun vu s₃ h₃ => ?_) fun _ _ e => e) fun _ _ e => e) fun _ _ e => e) ht
  obtain ⟨G, loc, nw, x, t, lo, hi, S, rfl, hz, pl, pu, q⟩ := h₃
  obtain ⟨l, e1, e2⟩ := part_value pl
  obtain ⟨u, e3, e4⟩ := part_value pu
  refine ⟨x, t, l, u, rfl, e1, e3, ?_⟩
  have k : ∀ t' k, Q (.str (Txt.slice x (l.map (·.1)) (u.map (·.1))) t') { s₃ with heap := s₃.heap.push { cls := .type "slice", data := .fields #[vl, vu, .none] }, toks := k } := fun t' k => by
    rw [e2, e4]
    exact q _ _ (S.grow (fun _ _ e => Heap.get?_push_of_some _ e) k)
  exact post_val_or_str ⟨Nat.le_trans (Txt.slice_le x _ _) hz, fun t' j => k t' j⟩
theorem eq_s {x y : Str} {t u : Tok} {Q : Value → Shared → Prop} (h1 : x = y → Q (.bool true) s) (h2 : x ≠ y → Q (.bool false) s) : wpAny (model W.prog W.w) A (compareOp .Eq (.str x t) (.str y u)) Q E s := by
  refine PyProof.Rows.eq_str ?_
  by_cases e : x = y
  · have : (x.cps.toList == y.cps.toList) = true := by rw [e]; simp
    first | (rw [this]; exact h1 e) | (have e2 : (x == y) = true := by rw [e]; simp
                                       rw [e2]; exact h1 e)
  · have : (x.cps.toList == y.cps.toList) = false := by
      rw [beq_eq_false_iff_ne]; exact fun q => e (Str.ext' q)
    first | (rw [this]; exact h2 e) | (have e2 : (x == y) = false := by rw [beq_eq_false_iff_ne]; exact e
                                       rw [e2]; exact h2 e)
theorem Sta.newSet {Q : Value → Shared → Prop} (S : Sta W G env loc nw s) (h : ∀ a s', Sta W G env loc ((a, IsSS W (fun _ => false) 0) :: nw) s' → Q (.ref a) s') : wpAny (model W.prog W.w) A (call (.type "set") []) Q E s :=
  call_set_0 fun led => h _ _ (S.new (c := IsSS W (fun _ => false) 0) rfl (setObjOf_fresh led) s.toks)
theorem Sta.setAt {a : Addr} {T : Str → Bool} {n : Nat} (S : Sta W G env loc nw s) (m : (a, IsSS W T n) ∈ nw) (hn : n < scanBound) : s.heap.SetOf (PySem.strKind W.prog W.w) a T n := by
  obtain ⟨o, ho, hc⟩ := S.get m
  exact hc.setOf ho hn
theorem Sta.getM_add {a : Addr} {T : Str → Bool} {n : Nat} {Q : Value × List Value → Shared → Prop} (S : Sta W G env loc nw s) (m : (a, IsSS W T n) ∈ nw) (hn : n < scanBound) (h : Q (.builtin "set.add", [.ref a]) s) : GetM (model W.prog W.w) A E "add" (.ref a) Q s := fun _ =>
  getMethod_set_add (S.setAt m hn) h
theorem Sta.setAdd {a : Addr} {T : Str → Bool} {n : Nat} {x : Str} {t : Tok} {Q : Value → Shared → Prop} (S : Sta W G env loc nw s) (U : Upd a (IsSS W T n) (IsSS W (fun k => T k || decide (k = x)) (if T x then n else n + 1)) nw nw') (hn : n + 1 < scanBound)
    (h : ∀ s', Sta W G env loc nw' s' → Q .none s') : wpAny (model W.prog W.w) A (call (.builtin "set.add") [.ref a, .str x t]) Q E s := by
  refine call_set_add (k := x) (by simp [PySem.strKind, Value.isStrOf]) rfl (S.setAt U.mem (by omega)) hn fun h' hsb hS => ?_
  obtain ⟨o, ho, hc⟩ := hS.objOf
  exact h _ (S.set U (fun b o hb e => (hsb.2 b hb).trans e) ho hc _)
theorem Sta.notInSet {a : Addr} {T : Str → Bool} {n : Nat} {x : Str} {t : Tok} {Q : Value → Shared → Prop} (S : Sta W G env loc nw s) (m : (a, IsSS W T n) ∈ nw) (hn : n < scanBound) (h : ∀ s', Sta W G env loc nw s' → Q (.bool (!T x)) s') :
    wpAny (model W.prog W.w) A (compareOp .NotIn (.str x t) (.ref a)) Q E s :=
  wpAny_notInSet_of (k := x) (by simp [PySem.strKind, Value.isStrOf]) rfl (S.setAt m hn) (h _ (S.toks _))
theorem Sta.inSet {a : Addr} {T : Str → Bool} {n : Nat} {x : Str} {t : Tok} {Q : Value → Shared → Prop} (S : Sta W G env loc nw s) (m : (a, IsSS W T n) ∈ nw) (hn : n < scanBound) (h : ∀ s', Sta W G env loc nw s' → Q (.bool (T x)) s') :
    wpAny (model W.prog W.w) A (compareOp .In (.str x t) (.ref a)) Q E s :=
  wpAny_inSet_of (k := x) (by simp [PySem.strKind, Value.isStrOf]) rfl (S.setAt m hn) (h _ (S.toks _))
end
/-- the first sign -/
theorem slice_first (x : Str) : Txt.slice x none (some 1) = ⟨(x.cps.toList.take 1).toArray⟩ := by
  by_cases h : 1 ≤ x.cps.toList.length
  · have := eq_of_beq (slice_closes_to (x := x) (j := 1) ⟨by decide, by omega⟩)
    rw [this]
    simp
  · have e : x.cps.toList = [] := List.length_eq_zero_iff.mp (by omega)
    have e2 : x = ⟨#[]⟩ := Str.ext' e
    subst e2
    rfl
end Mine
end
section
open PySem PySem.W PyProof.Rows PySem.W.X PySem.SeqAt
set_option maxRecDepth 100000
namespace Mine
/-- a dict of texts as keys -/
noncomputable def IsD (W : Wd) (d : Addr) (kvs : List (Str × Value)) : Cell := fun o => d ≠ sysModules ∧ o.IsDictOf (PySem.strKind W.prog W.w) kvs
section
variable {W : Wd} {G : Gens} {env : Env} {loc loc' : Loc} {nw nw' : Ledger} {s : Shared} {A : Around} {E : Value → Shared → Prop}
theorem Sta.size_mods (S : Sta W G env loc nw s) : s.heap.objs.size ≠ sysModules := by
  obtain ⟨mg, o, es, ep, hg, _⟩ := S.ok.g
  have h1 := Heap.lt_size (S.led.keep _ _ hg)
  have h2 : sysModules < mainGlobals := by decide
  exact fun e => by
    have : mainGlobals < sysModules := e ▸ h1
    exact absurd (Nat.lt_trans h2 this) (Nat.lt_irrefl _)
theorem isD_empty {d : Addr} (h : d ≠ sysModules) : IsD W d [] { cls := .type "dict", data := .dict #[] } := by
  exact ⟨h, #[], 0, ⟨rfl, rfl, rfl⟩, rfl, fun e he => by simp at he, .nil, List.nodup_nil⟩
theorem Sta.newDict {Q : Value → Shared → Prop} {M : Model} (S : Sta W G env loc nw s) (h : ∀ a s', Sta W G env loc ((a, IsD W a []) :: nw) s' → Q (.ref a) s') : wpAny M A newDict Q E s :=
  wpAny_newObj_type (h _ _ (S.new (c := IsD W s.heap.objs.size []) rfl (isD_empty S.size_mods) s.toks))
theorem Sta.dictAt {d : Addr} {kvs : List (Str × Value)} (S : Sta W G env loc nw s) (m : (d, IsD W d kvs) ∈ nw) : s.heap.DictOf (PySem.strKind W.prog W.w) d kvs ∧ (d == sysModules) = false := by
  obtain ⟨o, ho, hne, hd⟩ := S.get m
  exact ⟨Heap.dictOf_iff.mpr ⟨o, ho, hd⟩, by rw [beq_eq_false_iff_ne]; exact hne⟩
theorem Sta.dictSet {d : Addr} {kvs : List (Str × Value)} {x : Str} {t : Tok} {v : Value} {Q : Unit → Shared → Prop} (S : Sta W G env loc nw s) (U : Upd d (IsD W d kvs) (IsD W d (stored kvs x v)) nw nw') (hz : kvs.length + 1 ≤ sizeLine)
    (h : ∀ s', Sta W G env loc nw' s' → Q () s') : wpAny (model W.prog W.w) A (dictSet d (.str x t) v) Q E s := by
  obtain ⟨hd, hn⟩ := S.dictAt U.mem
  refine wpAny_dictSet_pairs (strKind_is _ _ x t) hd (fun h' hm hs => ?_) ?_
  · obtain ⟨o, ho, hdo⟩ := Heap.dictOf_iff.mp hm
    exact h _ (S.set U (fun b o hb e => (hs.2 b hb).trans e) ho ⟨by simpa using hn, hdo⟩ _)
  · omega
end
theorem codeAny_compLoopD {prog : Program} {w : World} {A : Around} {s : Shared} {R : Result → Shared → Prop} {kx vx : Expr} {gens : List Comprehension} {scope : Scope} {pos p : Pos} {d : Nat} {target : Expr} {it acc : Value} {env : Env} {body : Sem Unit}
    (hT : compTurn (.DictComp kx vx gens scope pos) d it acc env = (standAt p >>= fun _ => pyNext it >>= fun r => match r with
      | none => pure (.done .next)
      | some v => letOwnedTupleGo target it v >>= fun _ => assign target env v >>= fun _ => body >>= fun _ => again (.compLoop (.DictComp kx vx gens scope pos) d it acc env)))
    (I : Nat → Shared → Prop)
    (turn : ∀ n s, I n s → wpAny (model prog w) A (pyNext it) (fun r s₁ => match r with
      | none => R (.ok .next) s₁
      | some v => wpAny (model prog w) A (letOwnedTupleGo target it v) (fun _ s₁ => wpAny (model prog w) A (assign target env v) (fun _ s₂ => wpAny (model prog w) A body (fun _ s₃ => ∃ m, m < n ∧ I m s₃)
          (fun _ _ => False) s₂) (fun _ _ => False) s₁) (fun _ _ => False) s₁) (fun _ _ => False) s)
    (n : Nat) (h : I n s) : codeAny (model prog w) A (.compLoop (.DictComp kx vx gens scope pos) d it acc env) R s := by
  refine codeAny_loop rfl I (fun n s hI => ?_) n h
  show wpAny _ _ ((compTurn (.DictComp kx vx gens scope pos) d it acc env).onRaise (fun x => do noteFrame x env; theTreesLotGoes x)) _ _ s
  refine wpAny_noted ?_
  rw [hT]
  refine wpAny_bind (wpAny_standAt (wpAny_bind (wpAny_mono (turn n s hI) (fun r s₁ h₁ => ?_) fun _ _ h' => h'.elim)))
  cases r with
  | none => exact wpAny_pure h₁
  | some v =>
    refine wpAny_bind (wpAny_mono h₁ (fun _ s₁' h₁' => ?_) fun _ _ h' => h'.elim)
    refine wpAny_bind (wpAny_mono h₁' (fun _ s₂ h₂ => wpAny_bind (wpAny_mono h₂ (fun _ s₃ h₃ => ?_) fun _ _ h' => h'.elim)) fun _ _ h' => h'.elim)
    exact wpAny_pure ⟨rfl, h₃⟩

section
variable {W : Wd} {sh : Ledger} {env : Env} {A : Around} {R : Result → Shared → Prop} {it : Addr} {target : Expr} {kx vx : Expr} {gens : List Comprehension} {scope : Scope} {pos p : Pos} {d : Nat} {acc : Value} {body : Sem Unit}
theorem compD_y {α : Type} {P : α → Value → Prop} (hA : Aok 7 A)
    (hT : compTurn (.DictComp kx vx gens scope pos) d (.ref it) acc env = (standAt p >>= fun _ => pyNext (.ref it) >>= fun r => match r with
      | none => pure (.done .next)
      | some v => letOwnedTupleGo target (.ref it) v >>= fun _ => assign target env v >>= fun _ => body >>= fun _ => again (.compLoop (.DictComp kx vx gens scope pos) d (.ref it) acc env)))
    (J : List α → Loc → Ledger → Gens → Prop)
    (turn : ∀ x v rest tl tg loc nw G s, P x v → Sta W (G ++ tg) env loc (nw ++ (sh ++ tl)) s → J (x :: rest) loc nw G →
      wpAny (model W.prog W.w) A (assign target env v) (fun _ s₂ => wpAny (model W.prog W.w) A body (fun _ s₃ => ∃ loc' nw' G', Sta W (G' ++ tg) env loc' (nw' ++ (sh ++ tl)) s₃ ∧ J rest loc' nw' G') (fun _ _ => False) s₂) (fun _ _ => False) s)
    (fin : ∀ loc nw G s, Sta W G env loc (nw ++ sh) s → J [] loc nw G → R (.ok .next) s)
    {vs : List α} {own : Ledger} {og G : Gens} {loc : Loc} {nw : Ledger} {s : Shared} (S : Sta W (G ++ og) env loc (nw ++ (sh ++ own)) s) (hy : YieldsR W sh it P vs own og) (hJ : J vs loc nw G) :
    codeAny (model W.prog W.w) A (.compLoop (.DictComp kx vx gens scope pos) d (.ref it) acc env) R s := by
  refine codeAny_compLoopD hT (fun n s => ∃ vs own og G loc nw, vs.length = n ∧ Sta W (G ++ og) env loc (nw ++ (sh ++ own)) s ∧ YieldsR W sh it P vs own og ∧ J vs loc nw G) (fun n s hI => ?_) vs.length ⟨vs, own, og, G, loc, nw, rfl, S, hy, hJ⟩
  obtain ⟨vs, own, og, G, loc, nw, hn, S, hy, hJ⟩ := hI
  cases vs with
  | nil => exact hy.2 A ((env.locals, IsNs loc) :: nw) G s _ _ hA S.to0 fun s' S' => fin loc nw G s' (St0.toSta S' S.eok) hJ
  | cons x rest =>
    refine hy.2 A ((env.locals, IsNs loc) :: nw) G s _ _ hA S.to0 fun v own' og' s' hpv S' hy' => ?_
    have S1 : Sta W (G ++ og') env loc (nw ++ (sh ++ own')) s' := St0.toSta S' S.eok
    have ht : Typ sh it own' := by cases rest <;> exact hy'.1
    obtain ⟨c, hc, hp⟩ := ht
    obtain ⟨o, ho, hco⟩ := S1.get (a := it) (c := c) (List.mem_append_right _ hc)
    refine tupGo ho (hp o hco) ?_
    refine wpAny_mono (turn x v rest own' og' loc nw G s' hpv S1 hJ) (fun _ s₂ h₂ => wpAny_mono h₂ (fun f s₃ h₃ => ?_) fun _ _ h => h) fun _ _ h => h
    obtain ⟨loc', nw', G', S3, hJ'⟩ := h₃
    exact ⟨rest.length, by rw [← hn]; simp, rest, own', og', G', loc', nw', rfl, S3, hy', hJ'⟩
theorem compD_start {c : Cell} {s : Shared} {g : Comprehension} (hg : gens[d]? = some g) (ha : g.is_async = 0) (hs : SelfIt W it c) (m : ∃ o, s.heap.get? it = some o ∧ c o)
    (h : codeAny (model W.prog W.w) A (.compLoop (.DictComp kx vx gens scope pos) d (.ref it) acc env) R s) :
    codeAny (model W.prog W.w) A (.compStart (.DictComp kx vx gens scope pos) d (.ref it) acc env) R s := by
  obtain ⟨o, ho, hc⟩ := m
  refine codeAny_of_tree ?_
  show wpAny _ _ ((compStart (.DictComp kx vx gens scope pos) d (.ref it) acc env).onRaise (fun x => do noteFrame x env; standAt theWindowsPlace)) _ _ s
  refine wpAny_notedAt ?_
  have e : (clausesOf (.DictComp kx vx gens scope pos))[d]? = some g := hg
  unfold compStart
  rw [e]
  simp only [Option.elim_some, ha]
  show wpAny _ _ (ask >>= _) _ _ s
  refine wpAny_bind (wpAny_askSetting (wpAny_ite ?_))
  split
  · exact wpAny_pure (And.intro rfl h)
  · exact wpAny_bind (wpAny_rule (wpAny_bind (wpAny_standAt (wpAny_bind (hs A _ _ _ o ho hc (wpAny_pure (And.intro rfl h)))))))
end
section
variable {W : Wd} {G : Gens} {env : Env} {loc loc' : Loc} {nw nw' : Ledger} {s : Shared} {A : Around} {E : Value → Shared → Prop}
end
end Mine
end
section
open PySem PySem.W PyProof.Rows PySem.W.X PySem.SeqAt
set_option maxRecDepth 100000
namespace Mine
/-- a set of texts that may be walked -/
noncomputable def SetL (W : Wd) (o : Obj) (ss : List Str) : Prop :=
  o.ExactSet ∧ ∃ es ep t, o.data = .set es ep t ∧ ElemsOf (PySem.strKind W.prog W.w) es.toList ∧ (∃ ss', TxtsAre (es.toList.map (·.2)) ss' ∧ ss'.Perm ss) ∧ t.fits es.size = true ∧
    (t.led = true ∨ W.w.params.followText "set-order" = true) ∧ (es.size ≠ 0 → t.plain = false) ∧ (es.size ≤ 1 → t.mask = 7 ∧ t.dummies = #[])
noncomputable def IsSL (W : Wd) (ss : List Str) : Cell := fun o => SetL W o ss
theorem TxtsAre.perm {vs vs' : List Value} (p : vs'.Perm vs) : ∀ {ss : List Str}, TxtsAre vs ss → ∃ ss', TxtsAre vs' ss' ∧ ss'.Perm ss := by
  induction p with
  | nil => intro ss h; exact ⟨ss, h, .refl _⟩
  | cons x p ih =>
    intro ss h
    cases h with
    | cons y t h =>
      obtain ⟨ss', h1, h2⟩ := ih h
      exact ⟨y :: ss', .cons y t h1, h2.cons _⟩
  | swap x y l =>
    intro ss h
    cases h with
    | cons a t h => cases h with
      | cons b u h => exact ⟨_, .cons _ _ (.cons _ _ h), .swap ..⟩
  | trans p q ih1 ih2 =>
    intro ss h
    obtain ⟨s1, a1, b1⟩ := ih2 h
    obtain ⟨s2, a2, b2⟩ := ih1 a1
    exact ⟨s2, a2, b2.trans b1⟩
theorem orStandIn_led (t : SetTable) (n : Nat) : (t.orStandIn n).led = t.led := by unfold SetTable.orStandIn; split <;> rfl
theorem layNew_led (t : SetTable) (es : Array (Int × Value)) (h : Int) (x : Value) : (layNew t es h x).2.1.led = t.led := by
  unfold layNew
  split
  · exact orStandIn_led _ _
  · rfl
theorem relayAll_led (t : SetTable) (es : Array (Int × Value)) (w : Nat) : (relayAll t es w).2.1.led = t.led := by
  unfold relayAll
  split
  · rename_i t' order e
    dsimp only
    split
    · unfold SetTable.relaid SetTable.laid at e
      simp only [bind, Option.bind] at e
      split at e
      · cases e
      · injection e with e; injection e with e1 e2; rw [← e1]
    · rfl
  · rfl
theorem relayAll_plain (t : SetTable) (es : Array (Int × Value)) (w : Nat) (hp : t.plain = false) : (relayAll t es w).2.1.plain = false := by
  unfold relayAll
  split
  · rename_i t' order e
    dsimp only
    split
    · unfold SetTable.relaid SetTable.laid at e
      simp only [bind, Option.bind] at e
      split at e
      · cases e
      · injection e with e; injection e with e1 e2; rw [← e1]; exact hp
    · rfl
  · rfl
theorem layNew_first {t : SetTable} (hm : t.mask = 7) (hp : t.place.size = 0) (hd : t.dummies = #[]) (es : Array (Int × Value)) (he : es.size = 0) (h : Int) (x : Value) :
    (layNew t es h x).2.1.mask = 7 ∧ (layNew t es h x).2.1.dummies = #[] ∧ (layNew t es h x).2.1.place.size = 1 ∧ (layNew t es h x).1.size = 1 := by
  have hp0 : t.place = #[] := Array.size_eq_zero_iff.mp hp
  have he0 : es = #[] := Array.size_eq_zero_iff.mp he
  subst he0
  obtain ⟨mask, place, dummies, finger, led, moves, plain⟩ := t
  dsimp only at hm hp0 hd
  subst hm hp0 hd
  have hs : ∀ j, SetTable.slot ⟨7, #[], #[], finger, led, moves, plain⟩ j = .empty := by
    intro j
    simp [SetTable.slot, SetTable.has]
  have hf : SetTable.freeSlot ⟨7, #[], #[], finger, led, moves, plain⟩ h = some ((SetTable.probeStart ⟨7, #[], #[], finger, led, moves, plain⟩ h).j, false) := by
    have key : ∀ (f : Nat → Int) (p : SetTable.Probe), SetTable.probe.go ⟨7, #[], #[], finger, led, moves, plain⟩ f h (219 + 1) p = some (.empty p.j p.dummy) := by
      intro f p
      unfold SetTable.probe.go
      rw [hs]
    unfold SetTable.freeSlot SetTable.probe
    have e := key (fun _ => h + 1) (SetTable.probeStart ⟨7, #[], #[], finger, led, moves, plain⟩ h)
    have e2 : (10 * SetTable.turns (SetTable.mk 7 #[] #[] finger led moves plain).mask) = 219 + 1 := rfl
    rw [e2, e]
    rfl
  unfold layNew
  rw [hf]
  dsimp only
  have hq : (SetTable.put ⟨7, #[], #[], finger, led, moves, plain⟩ (SetTable.probeStart ⟨7, #[], #[], finger, led, moves, plain⟩ h).j) = (⟨7, #[(SetTable.probeStart ⟨7, #[], #[], finger, led, moves, plain⟩ h).j], #[], finger, led, moves, plain⟩, 0) := by
    unfold SetTable.put
    simp [SetTable.below, SetTable.below.go, SetTable.insertAt, SetTable.has]
  rw [hq]
  dsimp only
  have hi : (SetTable.insertAt (#[] : Array (Int × Value)) 0 (h, x)).size = 1 := by simp [SetTable.insertAt]
  rw [hi]
  have ho : SetTable.orStandIn ⟨7, #[(SetTable.probeStart ⟨7, #[], #[], finger, led, moves, plain⟩ h).j], #[], finger, led, moves, plain⟩ 1 = ⟨7, #[(SetTable.probeStart ⟨7, #[], #[], finger, led, moves, plain⟩ h).j], #[], finger, led, moves, plain⟩ := by
    unfold SetTable.orStandIn
    rw [if_pos]
    simp [SetTable.fits, SetTable.fill]
  rw [ho]
  exact ⟨rfl, rfl, rfl, rfl⟩
section
variable {W : Wd} {G : Gens} {env : Env} {loc loc' : Loc} {nw nw' : Ledger} {s : Shared} {A : Around} {E : Value → Shared → Prop}
theorem isKey {x y : Str} {t : Tok} (h : (PySem.strKind W.prog W.w).is x (.str y t) = true) : x = y := by
  have : Value.isStrOf x (.str y t) = true := h
  simp [Value.isStrOf] at this
  first | exact this | exact this.symm
theorem TxtsAre.mem {vs : List Value} {ss : List Str} (h : TxtsAre vs ss) {v : Value} (hv : v ∈ vs) : ∃ x t, v = .str x t ∧ x ∈ ss := by
  induction h with
  | nil => cases hv
  | cons x t h ih =>
    rcases List.mem_cons.mp hv with rfl | hv
    · exact ⟨x, t, rfl, .head _⟩
    · obtain ⟨y, u, e, m⟩ := ih hv
      exact ⟨y, u, e, .tail _ m⟩
theorem setL_store {a : Addr} {o : Obj} {es : Array (Int × Value)} {ep : Nat} {t : SetTable} {h : Heap} (ho : h.get? a = some o) (hex : o.ExactSet) (hd : o.data = .set es ep t) (es' : Array (Int × Value)) (t' : SetTable) :
    ∃ o', (h.update a (Obj.putSet es' t')).get? a = some o' ∧ o'.ExactSet ∧ o'.data = .set es' (ep + 1) t' := by
  obtain ⟨c, di, dt, sl⟩ := o
  dsimp only at hd
  subst hd
  exact ⟨_, Heap.get?_update_self _ ho rfl, hex, rfl⟩
theorem tailL {g : Bool → Sem Unit} (hg : ∀ (b : Bool) (s₁ : Shared) (Q' : Unit → Shared → Prop), Q' () s₁ → wpAny (model W.prog W.w) A (g b) Q' E s₁)
    {a : Addr} {o : Obj} {es : Array (Int × Value)} {ep : Nat} {t : SetTable} (ho : s.heap.get? a = some o) (hex : o.ExactSet) (hd : o.data = .set es ep t)
    {es1 : Array (Int × Value)} {t2 : SetTable} (hb1 : es1.size < scanBound) (hf2 : t2.fits es1.size = true) (hp2 : t2.plain = false) {wasDummy : Bool} {R : Option Bool → Shared → Prop}
    (h : ∀ h' o' es2 ep2 t3, Heap.SameBut a s.heap h' → h'.get? a = some o' → o'.ExactSet → o'.data = .set es2 ep2 t3 → es2.toList.Perm es1.toList → t3.fits es2.size = true → t3.led = t2.led → t3.plain = false → (t2.tooFull = false → t3 = t2) → R (some true) { s with heap := h' }) :
    wpAny (model W.prog W.w) A (do
        storeSet a es1 t2
        if (!wasDummy && t2.tooFull) = true then do
            g (relayAll t2 es1 (SetTable.grown es1.size)).2.2
            storeSet a (relayAll t2 es1 (SetTable.grown es1.size)).1 (relayAll t2 es1 (SetTable.grown es1.size)).2.1
            pure (some true)
          else pure (some true)) R E s := by
  refine wpAny_bind (wpAny_storeSet_of ho hd ?_ (fits_of_scanBound hb1))
  obtain ⟨o1, ho1, hex1, hd1⟩ := setL_store ho hex hd es1 t2
  have hsb1 := Heap.SameBut.update s.heap a (Obj.putSet es1 t2)
  split
  · rename_i hfull
    have hp := relayAll_perm t2 es1 (SetTable.grown es1.size)
    have hfr := relayAll_fits t2 es1 (SetTable.grown es1.size)
    have hlr := relayAll_led t2 es1 (SetTable.grown es1.size)
    have hpr := relayAll_plain t2 es1 (SetTable.grown es1.size) hp2
    generalize hRl : relayAll t2 es1 (SetTable.grown es1.size) = Rl at hp hfr hlr hpr ⊢
    obtain ⟨es2, t3, gave2⟩ := Rl
    dsimp only at hp hfr hlr hpr ⊢
    have hsz : es2.size = es1.size := by rw [← Array.length_toList, hp.length_eq, Array.length_toList]
    refine wpAny_bind (hg _ _ _ ?_)
    refine wpAny_bind (wpAny_storeSet_of ho1 hd1 ?_ (fits_of_scanBound (by rw [hsz]; exact hb1)))
    obtain ⟨o2, ho2, hex2, hd2⟩ := setL_store ho1 hex1 hd1 es2 t3
    exact wpAny_pure (h _ o2 es2 _ t3 (hsb1.trans (Heap.SameBut.update _ a _)) ho2 hex2 hd2 hp hfr hlr hpr fun q => by rw [q] at hfull; simp at hfull)
  · exact wpAny_pure (h _ o1 es1 _ t2 hsb1 ho1 hex1 hd1 (.refl _) hf2 rfl hp2 fun _ => rfl)
/-- a text that is not in it yet laid into a set -/
theorem Sta.addL {a : Addr} {ss : List Str} {x : Str} {t : Tok} {Q : Bool → Shared → Prop} (S : Sta W G env loc nw s) (U : Upd a (IsSL W ss) (IsSL W (ss ++ [x])) nw nw') (hx : x ∉ ss) (hn : ss.length + 1 < scanBound) (h : ∀ s', Sta W G env loc nw' s' → Q true s') :
    wpAny (model W.prog W.w) A (setAddHashed a (.str x t) ((PySem.strKind W.prog W.w).hash x)) Q E s := by
  obtain ⟨o, ho, hex, es, ep, tb, hd, hel, ⟨ss', htx, hpm⟩, hf, hled, hpl, hsm⟩ := S.get U.mem
  have hlen : es.size = ss.length := by
    have := htx.length
    rw [List.length_map, Array.length_toList] at this
    rw [this, hpm.length_eq]
  have hkey := strKind_is W.prog W.w x t
  unfold setAddHashed setAddHashedIn
  refine wpAny_holding (wpAny_bind (wpAny_setState_of ho hd hf ?_))
  dsimp only
  rw [byScan_of (knd := PySem.strKind W.prog W.w) rfl (by omega) hel]
  simp only [↓reduceIte]
  unfold setAddByScan
  refine wpAny_bind ?_
  refine wpAny_bind (wpAny_rule ?_)
  refine wpAny_bind (wpAny_setScan_of hkey ho hd hf hel ?_)
  have hr : List.findIdx? (fun e => (PySem.strKind W.prog W.w).is x e.2) es.toList = none := by
    rw [List.findIdx?_eq_none_iff]
    intro e he
    cases q : (PySem.strKind W.prog W.w).is x e.2 with
    | false => rfl
    | true =>
      obtain ⟨y, u, e1, m⟩ := htx.mem (List.mem_map.mpr ⟨e, he, rfl⟩)
      rw [e1] at q
      exact absurd (hpm.mem_iff.mp (isKey q ▸ m)) hx
  rw [hr]
  dsimp only
  have hgw : ∀ (b : Bool) {s₁ : Shared} {Q' : Unit → Shared → Prop}, Q' () s₁ → wpAny (model W.prog W.w) A (match b with | true => rule "set.scan.the-table-gave-way" | false => pure ()) Q' E s₁ :=
    fun b s₁ Q' hq => by cases b <;> first | exact wpAny_pure hq | exact wpAny_rule hq
  have hperm := layNew_perm tb es ((PySem.strKind W.prog W.w).hash x) (.str x t)
  have hfits := layNew_fits tb es ((PySem.strKind W.prog W.w).hash x) (.str x t)
  have hleds := layNew_led tb es ((PySem.strKind W.prog W.w).hash x) (.str x t)
  have hfirst : es.size = 0 → _ := fun q => layNew_first (hsm (by omega)).1 (by have := hf; simp only [SetTable.fits, Bool.and_eq_true, beq_iff_eq] at this; omega) (hsm (by omega)).2 es q ((PySem.strKind W.prog W.w).hash x) (.str x t)
  generalize hL : layNew tb es ((PySem.strKind W.prog W.w).hash x) (.str x t) = L at hperm hfits hleds hfirst ⊢
  obtain ⟨es1, t1, wasDummy, gave⟩ := L
  dsimp only at hperm hfits hleds hfirst ⊢
  rw [Array.toList_push] at hperm
  have hel1 : ElemsOf (PySem.strKind W.prog W.w) es1.toList := (hel.push hkey rfl).perm hperm
  have hb1' : es1.size < scanBound := by rw [← Array.length_toList, hperm.length_eq, List.length_append, Array.length_toList]; simpa [hlen] using hn
  refine wpAny_bind (hgw _ ?_)
  have fin : ∀ h' o' es2 ep2 t3, Heap.SameBut a s.heap h' → h'.get? a = some o' → o'.ExactSet → o'.data = .set es2 ep2 t3 → es2.toList.Perm es1.toList → t3.fits es2.size = true → t3.led = t1.led → t3.plain = false → (t1.tooFull = false → t3.mask = t1.mask ∧ t3.dummies = t1.dummies) → Q true { s with heap := h' } := by
    intro h' o' es2 ep2 t3 hsb ho' hex' hd' hp hf' hl' hpl' hsame
    refine h _ (S.set U (fun b o hb e => (hsb.2 b hb).trans e) ho' ⟨hex', es2, ep2, t3, hd', hel1.perm hp, ?_, hf', ?_, fun _ => hpl', fun q => ?_⟩ s.toks)
    · have h1 : TxtsAre ((es.toList ++ [((PySem.strKind W.prog W.w).hash x, Value.str x t)]).map (·.2)) (ss' ++ [x]) := by
        rw [List.map_append]; exact htx.snoc x t
      obtain ⟨s2, a2, b2⟩ := TxtsAre.perm ((hp.trans hperm).map (·.2)) h1
      exact ⟨s2, a2, b2.trans (hpm.append_right _)⟩
    · rw [hl', hleds]; exact hled
    · have e1 : es2.size = es.size + 1 := by rw [← Array.length_toList, hp.length_eq, hperm.length_eq, List.length_append, Array.length_toList]; rfl
      obtain ⟨m1, d1, p1, z1⟩ := hfirst (by omega)
      have hfull : t1.tooFull = false := by
        unfold SetTable.tooFull SetTable.fill
        rw [p1, d1, m1]; rfl
      obtain ⟨q1, q2⟩ := hsame hfull
      exact ⟨q1.trans m1, q2.trans d1⟩
  split
  · refine wpAny_bind ?_
    rw [hashByValue_scannable 8 rfl]
    refine wpAny_pure ?_
    refine tailL ?_ ho hex hd hb1' ?_ ?_ ?_
    · intro b s₁ Q' hq; cases b <;> first | exact wpAny_pure hq | exact wpAny_rule hq
    · split
      · exact hfits
      · exact SetTable.fits_plain_off hfits
    · rfl
    · intro h' o' es2 ep2 t3 hsb ho' hex' hd' hp hf' hl' hpl' hsame
      exact wpAny_pure (fin h' o' es2 ep2 t3 hsb ho' hex' hd' hp hf' hl' hpl' fun q => by rw [hsame q]; exact ⟨rfl, rfl⟩)
  · rename_i hpf
    refine wpAny_bind (wpAny_pure ?_)
    simp only [↓reduceIte]
    refine tailL ?_ ho hex hd hb1' hfits (by simpa using hpf) ?_
    · intro b s₁ Q' hq; cases b <;> first | exact wpAny_pure hq | exact wpAny_rule hq
    · intro h' o' es2 ep2 t3 hsb ho' hex' hd' hp hf' hl' hpl' hsame
      exact wpAny_pure (fin h' o' es2 ep2 t3 hsb ho' hex' hd' hp hf' hl' hpl' fun q => by rw [hsame q]; exact ⟨rfl, rfl⟩)
end
end Mine
end
section
open PySem PySem.W PyProof.Rows PySem.W.X PySem.SeqAt
set_option maxRecDepth 100000
namespace Mine
/-- a dict of texts as keys, its epoch told -/
noncomputable def IsDE (W : Wd) (d : Addr) (kvs : List (Str × Value)) (ep : Nat) : Cell := fun o => d ≠ sysModules ∧ ∃ es, o.ExactDict ∧ o.data = .dict es ep ∧ KeysOf (PySem.strKind W.prog W.w) es ∧ Pairs (PySem.strKind W.prog W.w) es.toList kvs ∧ (kvs.map (·.1)).Nodup
theorem sub_dict_frozenset : isSubtype (.type "dict") (.type "frozenset") = pure false := by rw [isSubtype_type]; kernel_rfl
section
variable {W : Wd} {G : Gens} {env : Env} {loc loc' : Loc} {nw nw' : Ledger} {s : Shared} {A : Around} {E : Value → Shared → Prop}
theorem Sta.dictE {d : Addr} {kvs : List (Str × Value)} {ep : Nat} (S : Sta W G env loc nw s) (m : (d, IsDE W d kvs ep) ∈ nw) : s.heap.DictAt (PySem.strKind W.prog W.w) d kvs ep ∧ (d == sysModules) = false := by
  obtain ⟨o, ho, hne, es, r⟩ := S.get m
  exact ⟨⟨o, es, ho, r⟩, by rw [beq_eq_false_iff_ne]; exact hne⟩
theorem isDE_isD {d : Addr} {kvs : List (Str × Value)} {ep : Nat} {o : Obj} (h : IsDE W d kvs ep o) : IsD W d kvs o := by
  obtain ⟨hne, es, r⟩ := h
  exact ⟨hne, es, ep, r⟩
/-- one text added, its hash reckoned -/
theorem Sta.addT {a : Addr} {ss : List Str} {x : Str} {t : Tok} {Q : Bool → Shared → Prop} (S : Sta W G env loc nw s) (U : Upd a (IsSL W ss) (IsSL W (ss ++ [x])) nw nw') (hx : x ∉ ss) (hn : ss.length + 1 < scanBound) (h : ∀ s', Sta W G env loc nw' s' → Q true s') :
    wpAny (model W.prog W.w) A (PySem.setAdd a (.str x t)) Q E s := by
  unfold PySem.setAdd
  refine wpAny_holding (wpAny_bind ((PySem.strKind W.prog W.w).pyHash (strKind_is _ _ x t) ?_))
  exact (S.toks _).addL U hx hn h
theorem Pull.mem' {α : Type} {p : α} {l l' : List α} (h : Pull p l l') : p ∈ l := by
  induction h with
  | head => exact .head _
  | tail h ih => exact .tail _ ih
theorem Sta.lost {it : Addr} {c : Cell} {N : Ledger} {h' : Heap} (S : Sta W G env loc nw s) (p : Pull (it, c) nw N) (hx : Heap.ExtBut it s.heap h') : Sta W G env loc N { s with heap := h' } := by
  have hB := (S.led.own _ (.tail _ p.mem')).1
  have D := S.led.perm ((p.perm.cons _).trans (List.Perm.swap ..))
  have nd := D.nodup
  rw [List.map_cons, List.nodup_cons] at nd
  refine ⟨S.ok, S.eok, ⟨fun b o e => hx b o (fun q => by rw [q, hB] at e; cases e) (S.led.keep b o e), fun q hq => ?_, nd.2⟩, S.bare, S.os, S.gens, S.gnd⟩
  obtain ⟨h1, o, ho, hc⟩ := D.own q (.tail _ hq)
  exact ⟨h1, o, hx _ _ (fun e => nd.1 (List.mem_map.mpr ⟨q, hq, e⟩)) ho, hc⟩
noncomputable def IsKI (d : Addr) (i n ep : Nat) : Cell := fun o => o.cls = .type "dict_keyiterator" ∧ o.data = .fields #[.ref d, .int i 0, .int n 0, .int ep 0]
/-- the loop over a dict's keys that lays them into a set -/
theorem Sta.keysLoop {a d it : Addr} {kvs : List (Str × Value)} {ep : Nat} {R : Result → Shared → Prop} (hA : Aok 2 A) : ∀ (m i : Nat), kvs.length - i = m → i ≤ kvs.length → ∀ {ss : List Str} {N : Ledger} {s : Shared},
    Sta W G env loc ((a, IsSL W ss) :: (it, IsKI d i kvs.length ep) :: (d, IsDE W d kvs ep) :: N) s → (∀ x ∈ (kvs.drop i).map (·.1), x ∉ ss) → (kvs.map (·.1)).Nodup → ss.length + (kvs.length - i) + 1 < scanBound →
    (∀ s', Sta W G env loc ((a, IsSL W (ss ++ (kvs.drop i).map (·.1))) :: (d, IsDE W d kvs ep) :: N) s' → R (.ok (.ret .none)) s') →
    codeAny (model W.prog W.w) A (.builtin "set.update.loop" ⟨[.ref a, .ref it], []⟩) R s
  | 0, i, hm, hi, ss, N, s, S, hx, hnd, hb, k => by
    obtain ⟨o, ho, hc⟩ := S.get (.tail _ (.head _))
    have hD := (S.dictE (.tail _ (.tail _ (.head _)))).1
    have e0 : kvs.drop i = [] := List.drop_of_length_le (by omega)
    refine codeAny_builtin F.entry_set_update_loop ?_
    rw [Around.under_plainId F.plain_set_update_loop _]
    show wpAny _ A.in1 (pyNext (.ref it) >>= _) _ _ s
    refine wpAny_bind (wpAny_pyNext_dict_end hA.handled ⟨o, ho, hc.1, hc.2⟩ hD (List.getElem?_eq_none (by omega)) fun h' hx' => ?_)
    rw [e0] at k
    simp only [List.map_nil, List.append_nil] at k
    exact wpAny_pure (k _ (S.lost (.tail .head) hx'))
  | m + 1, i, hm, hi, ss, N, s, S, hx, hnd, hb, k => by
    obtain ⟨o, ho, hc⟩ := S.get (.tail _ (.head _))
    have hD := (S.dictE (.tail _ (.tail _ (.head _)))).1
    have hlt : i < kvs.length := by omega
    have e0 : kvs.drop i = kvs[i] :: kvs.drop (i + 1) := List.drop_eq_getElem_cons hlt
    refine codeAny_builtin F.entry_set_update_loop ?_
    rw [Around.under_plainId F.plain_set_update_loop _]
    show wpAny _ A.in1 (pyNext (.ref it) >>= _) _ _ s
    refine wpAny_bind (wpAny_pyNext_dict_item (k := kvs[i].1) (v := kvs[i].2) ⟨o, ho, hc.1, hc.2⟩ hD (List.getElem?_eq_getElem hlt) fun key h' hkey hit hsb => ?_)
    obtain ⟨tk, rfl⟩ := Value.isStrOf_shape hkey
    obtain ⟨o', ho', hc1, hc2⟩ := hit
    have S1 : Sta W G env loc ((a, IsSL W ss) :: (it, IsKI d (i + 1) kvs.length ep) :: (d, IsDE W d kvs ep) :: N) { s with heap := h' } := S.set (.tail .head) (fun b o hb e => (hsb.2 b hb).trans e) ho' ⟨hc1, hc2⟩ s.toks
    show wpAny _ A.in1 (holding [Value.str kvs[i].1 tk] (PySem.setAdd a (.str kvs[i].1 tk)) >>= _) _ _ _
    rw [e0, List.map_cons] at hx k
    refine wpAny_bind (wpAny_holding (S1.addT .head (hx _ (.head _)) (by omega) fun s2 S2 => ?_))
    refine wpAny_pure ⟨plainId_quiet F.plain_set_update_loop _, ?_⟩
    refine Sta.keysLoop hA m (i + 1) (by omega) hlt S2 (fun x hx' hm' => ?_) hnd (by rw [List.length_append, List.length_singleton]; omega) fun s3 S3 => ?_
    · rcases List.mem_append.mp hm' with q | q
      · exact hx x (.tail _ hx') q
      · rw [List.mem_singleton] at q
        subst q
        have nd2 : ((kvs.drop i).map (·.1)).Nodup := hnd.sublist ((List.drop_sublist i kvs).map _)
        rw [e0, List.map_cons, List.nodup_cons] at nd2
        exact nd2.1 hx'
    · refine k _ ?_
      simpa using S3
theorem Pairs.at' {es : List DictEntry} {kvs : List (Str × Value)} (h : Pairs (PySem.strKind W.prog W.w) es kvs) : ∀ (i : Nat) (hi : i < kvs.length), ∃ e, es[i]? = some e ∧ (PySem.strKind W.prog W.w).is kvs[i].1 e.key = true ∧ e.val = kvs[i].2 := by
  induction h with
  | nil => intro i hi; simp at hi
  | @cons e kv es kvs h1 h2 h3 ih =>
    intro i hi
    cases i with
    | zero => exact ⟨e, rfl, h1, h2⟩
    | succ i => simpa using ih i (by simpa using hi)
theorem roomFor_small {t : SetTable} {n : Nat} (hm : t.mask = 7) (hd : t.dummies = #[]) (hp : t.place.size + n ≤ 4) : t.roomFor n = none := by
  unfold SetTable.roomFor SetTable.fill
  rw [hm, hd, if_neg]
  simp
  omega
theorem forIn_range_list {n : Nat} {β : Type} (b : β) (f : Nat → β → Sem (ForInStep β)) : (forIn [0:n] b f : Sem β) = forIn (List.range' 0 n) b f := by
  rw [Std.Legacy.Range.forIn_eq_forIn_range']
  simp
/-- the road by the storage -/
theorem Sta.starGo {a d : Addr} {kvs : List (Str × Value)} {ep : Nat} {Q : Unit → Shared → Prop} (f : Nat → Unit → Sem (ForInStep Unit))
    (hf : ∀ i u, f i u = (do
      let some e := (← dictEntries d)[i]? | unsupported "dict.changed-during-merge"
      holding [e.key] (do let _ ← setAddHashed a e.key e.hash)
      if (← dictEpoch d) != ep then unsupported "dict.changed-during-merge"
      pure (.yield ()))) : ∀ (m i : Nat), kvs.length - i = m → i ≤ kvs.length → ∀ {ss : List Str} {N : Ledger} {s : Shared},
    Sta W G env loc ((a, IsSL W ss) :: (d, IsDE W d kvs ep) :: N) s → (∀ x ∈ (kvs.drop i).map (·.1), x ∉ ss) → (kvs.map (·.1)).Nodup → ss.length + (kvs.length - i) + 1 < scanBound →
    (∀ s', Sta W G env loc ((a, IsSL W (ss ++ (kvs.drop i).map (·.1))) :: (d, IsDE W d kvs ep) :: N) s' → Q () s') →
    wpAny (model W.prog W.w) A (forIn (List.range' i m) () f) Q E s
  | 0, i, hm, hi, ss, N, s, S, hx, hnd, hb, k => by
    have e0 : kvs.drop i = [] := List.drop_of_length_le (by omega)
    rw [e0] at k
    simp only [List.map_nil, List.append_nil] at k
    exact wpAny_pure (k _ S)
  | m + 1, i, hm, hi, ss, N, s, S, hx, hnd, hb, k => by
    obtain ⟨o, ho, hne, es, hex, hd, hk, hp, hn⟩ := S.get (.tail _ (.head _))
    have hlt : i < kvs.length := by omega
    have hle := hp.length
    rw [Array.length_toList] at hle
    have e0 : kvs.drop i = kvs[i] :: kvs.drop (i + 1) := List.drop_eq_getElem_cons hlt
    rw [List.range'_succ, List.forIn_cons, hf]
    obtain ⟨e, he, hkey, hval⟩ := Pairs.at' hp i hlt
    have he2 : es[i]? = some e := by rw [← Array.getElem?_toList]; exact he
    obtain ⟨k0, hk0, hh0⟩ := hk e (Array.mem_toList_iff.mp (List.mem_of_getElem? he))
    obtain ⟨tk, hkk⟩ := Value.isStrOf_shape hkey
    have hke : k0 = kvs[i].1 := (PySem.strKind W.prog W.w).inj _ _ _ hk0 hkey
    subst hke
    refine wpAny_bind (wpAny_bind (wpAny_dictEntries ho hd ?_))
    rw [he2]
    dsimp only
    rw [e0, List.map_cons] at hx k
    refine wpAny_bind (wpAny_holding ?_)
    rw [hkk, hh0]
    refine wpAny_bind (S.addL .head (hx _ (.head _)) (by omega) fun s2 S2 => wpAny_pure ?_)
    obtain ⟨o2, ho2, _, es2, hex2, hd2, _⟩ := S2.get (.tail _ (.head _))
    refine wpAny_bind (wpAny_dictEpoch ho2 hd2 ?_)
    have ee : (ep != ep) = false := by simp
    rw [ee]
    simp only [Bool.false_eq_true, ↓reduceIte]
    refine wpAny_pure ?_
    dsimp only
    refine Sta.starGo f hf m (i + 1) (by omega) hlt S2 (fun x hx' hm' => ?_) hnd (by rw [List.length_append, List.length_singleton]; omega) fun s3 S3 => ?_
    · rcases List.mem_append.mp hm' with q | q
      · exact hx x (.tail _ hx') q
      · rw [List.mem_singleton] at q
        subst q
        have nd2 : ((kvs.drop i).map (·.1)).Nodup := hnd.sublist ((List.drop_sublist i kvs).map _)
        rw [e0, List.map_cons, List.nodup_cons] at nd2
        exact nd2.1 hx'
    · refine k _ ?_
      simpa using S3
/-- {.., *attrs} -/
theorem Sta.star {a d : Addr} {kvs : List (Str × Value)} {x : Str} {N : Ledger} {Q : Unit → Shared → Prop} (S : Sta W G env loc ((a, IsSL W [x]) :: (d, IsD W d kvs) :: N) s) (hA : Aok 3 A) (hx : x ∉ kvs.map (·.1)) (hz : kvs.length ≤ 3)
    (k : ∀ s', Sta W G env loc ((a, IsSL W (x :: kvs.map (·.1))) :: (d, IsD W d kvs) :: N) s' → Q () s') : wpAny (model W.prog W.w) A (setDisplayStar a (.ref d)) Q E s := by
  obtain ⟨o, ho, hne, es0, ep0, hex0, hd0, hk0, hp0, hnd⟩ := S.get (.tail _ (.head _))
  have hT : s.TypeIs (.ref d) "dict" := ⟨o, ho, hex0.1⟩
  have S1 : Sta W G env loc ((a, IsSL W [x]) :: (d, IsDE W d kvs ep0) :: N) s := S.tell (.tail .head) fun o' ho' _ => by rw [ho] at ho'; cases ho'; exact ⟨hne, es0, hex0, hd0, hk0, hp0, hnd⟩
  have back : ∀ s', Sta W G env loc ((a, IsSL W (x :: kvs.map (·.1))) :: (d, IsDE W d kvs ep0) :: N) s' → Q () s' := fun s' S' => k _ (S'.tell (.tail .head) fun o _ h => isDE_isD h)
  have hxs : ∀ y ∈ (kvs.drop 0).map (·.1), y ∉ [x] := fun y hy q => by
    rw [List.mem_singleton] at q; subst q; exact hx (by simpa using hy)
  have hb : [x].length + (kvs.length - 0) + 1 < scanBound := by
    have : scanBound = 4096 := rfl
    simp; omega
  unfold setDisplayStar
  refine wpAny_bind (wpAny_isInstance hT F.sub_dict_set ?_)
  simp only [Bool.false_eq_true, ↓reduceIte]
  refine wpAny_bind (wpAny_isInstance hT sub_dict_frozenset ?_)
  refine wpAny_bind (wpAny_askSetting ?_)
  have hmods : (d == sysModules) = false := by rw [beq_eq_false_iff_ne]; exact hne
  have byIter : wpAny (model W.prog W.w) A (do
      let it ← pyIter (.ref d)
      let _ ← runValue (Code.builtin "set.update.loop" ⟨[.ref a, it], []⟩)
      pure ()) Q E s := by
    have hD := (S1.dictE (.tail _ (.head _))).1
    refine wpAny_bind (wpAny_pyIter_dict hmods hD ?_)
    have S2 := S1.new (c := IsKI d 0 kvs.length ep0) (o := { cls := .type "dict_keyiterator", data := .fields #[.ref d, .int 0 0, .int kvs.length 0, .int ep0 0] }) rfl ⟨rfl, rfl⟩ s.toks
    refine wpAny_bind (wpAny_runValue ?_)
    refine Sta.keysLoop (a := a) (d := d) (it := s.heap.objs.size) (kvs := kvs) (ep := ep0) (hA.le (by first | decide | omega)) kvs.length 0 (by omega) (by omega) (S2.perm (List.Perm.swap ..)) hxs hnd hb fun s' S' => ?_
    exact wpAny_pure (back _ (by simpa using S'))
  cases hby : (Setting.mk (model W.prog W.w).prog (model W.prog W.w).w.params).params.followText "set-display-star-reads-storage" with
  | true =>
    simp only [↓reduceIte]
    exact byIter
  | false =>
    simp only [Bool.false_eq_true, ↓reduceIte]
    refine wpAny_bind (wpAny_typeOf hT ?_)
    have e1 : (Value.type "dict" == Value.type "dict") = true := by decide
    rw [e1]
    simp only [↓reduceIte]
    refine wpAny_bind (wpAny_rule ?_)
    rw [hmods]
    simp only [Bool.false_eq_true, ↓reduceIte]
    refine wpAny_bind (wpAny_dictEpoch ho hd0 ?_)
    refine wpAny_bind (wpAny_dictEntries ho hd0 ?_)
    have hle := hp0.length
    rw [Array.length_toList] at hle
    obtain ⟨oa, hoa, hexa, esa, epa, ta, hda, hela, ⟨ssa, htxa, hpma⟩, hfa, _, _, hsma⟩ := S1.get (.head _)
    have hsz : esa.size = 1 := by
      have := htxa.length
      rw [List.length_map, Array.length_toList] at this
      rw [this, hpma.length_eq]; rfl
    have hroom : wpAny (model W.prog W.w) A (setRoomFor a es0.size) (fun _ s' => s' = s) E s := by
      unfold setRoomFor
      refine wpAny_bind (wpAny_setState_of hoa hda hfa ?_)
      have hpl : ta.place.size = 1 := by
        have := hfa; simp only [SetTable.fits, Bool.and_eq_true, beq_iff_eq] at this; omega
      rw [roomFor_small (hsma (by omega)).1 (hsma (by omega)).2 (by omega)]
      exact wpAny_pure rfl
    refine wpAny_bind (wpAny_mono hroom (fun _ s' e => ?_) fun _ _ e => e)
    subst e
    refine wpAny_bind ?_
    rw [hle]
    rw [forIn_range_list]
    refine Sta.starGo (ep := ep0) _ (fun i u => ?_) kvs.length 0 (by omega) (by omega) S1 hxs hnd hb fun s' S' => wpAny_pure (back _ (by simpa using S'))
    rfl
theorem isSL_empty (led : Bool) (hl : led = true ∨ W.w.params.followText "set-order" = true) : IsSL W [] { cls := .type "set", dict := none, data := .set #[] 0 (.fresh 0 0 led) } :=
  ⟨⟨rfl, rfl, rfl⟩, #[], 0, _, rfl, fun e he => by simp at he, ⟨[], .nil, .refl _⟩, by rfl, hl, fun h => absurd rfl h, fun _ => ⟨rfl, rfl⟩⟩
theorem Sta.newSL {Q : Value → Shared → Prop} (S : Sta W G env loc nw s) (h : ∀ a s', Sta W G env loc ((a, IsSL W []) :: nw) s' → Q (.ref a) s') : wpAny (model W.prog W.w) A (PySem.newSet (.type "set")) Q E s := by
  unfold PySem.newSet setsByText
  refine wpAny_bind (wpAny_bind (wpAny_askSetting (wpAny_pure ?_)))
  dsimp only
  simp only [newObj]
  refine wpAny_bind (wpAny_alloc (wpAny_pure (h _ _ (S.new (c := IsSL W []) rfl (isSL_empty _ ?_) s.toks))))
  cases q : W.w.params.followText "set-order" with
  | true => exact .inr rfl
  | false => exact .inl (by show (!W.w.params.followText "set-order") = true; rw [q]; rfl)
/-- {x, *attrs} -/
theorem Sta.setDisp {n1 n2 : Str} {p1 p2 p3 pos : Pos} {x : Str} {t : Tok} {d c : Addr} {oc : Obj} {vs : Array Value} {kvs : List (Str × Value)} {Q : Value → Shared → Prop} (S : Sta W G env loc nw s) (hA : Aok 3 A) (h1 : (n1, some (.str x t)) ∈ loc) (h2 : (n2, some (.ref d)) ∈ loc)
    (hc : env.code = .ref c) (hoc : W.K.lookup c = some oc) (hdc : oc.data = .fields vs) (hfl : ∃ f tf, vs.getD 18 .none = .str f tf) {N : Ledger} (hd : Pull (d, IsD W d kvs) nw N) (hx : x ∉ kvs.map (·.1)) (hz : kvs.length ≤ 3)
    (h : ∀ a s', Sta W G env loc ((a, IsSL W (x :: kvs.map (·.1))) :: (d, IsD W d kvs) :: N) s' → Q (.ref a) s') :
    wpAny (model W.prog W.w) A (eval (.Set [.Name n1 p1, .Starred (.Name n2 p2) p3] 0 pos) env) Q E s := by
  rw [arm_eval_Set]
  refine wpAny_bind (wpAny_standAt ?_)
  obtain ⟨f, tf, hf⟩ := hfl
  have hcode : (env.code == .none) = false := by rw [hc]; rfl
  unfold inMainModule
  rw [hcode, hc]
  simp only [Bool.false_eq_true, ↓reduceIte]
  refine wpAny_bind (wpAny_bind (wpAny_fieldsOf (S.kin _ _ hoc) hdc ?_))
  rw [hf]
  refine wpAny_bind (wpAny_askSetting (wpAny_pure ?_))
  have e1 : displayRoad 0 [.Name n1 p1, .Starred (.Name n2 p2) p3] = .oneByOne := rfl
  have e2 : starEach [.Name n1 p1, .Starred (.Name n2 p2) p3] env = [(false, eval (.Name n1 p1) env), (true, eval (.Name n2 p2) env)] := rfl
  rw [e1, e2]
  unfold setDisplay
  have e3 : (DisplayRoad.oneByOne == DisplayRoad.constants) = false := rfl
  have e4 : (DisplayRoad.oneByOne == DisplayRoad.unsure) = false := rfl
  rw [e3]
  simp only [Bool.false_eq_true, ↓reduceIte]
  refine wpAny_bind (S.newSL fun a s1 S1 => ?_)
  dsimp only
  have e5 : (if (List.map (fun x : Bool × Sem Value => (x.1, do let v ← x.2; standAt pos; pure v)) [(false, eval (.Name n1 p1) env), (true, eval (.Name n2 p2) env)]).length > 30 then 0 else
      (List.findIdx? (fun x => x.1) (List.map (fun x : Bool × Sem Value => (x.1, do let v ← x.2; standAt pos; pure v)) [(false, eval (.Name n1 p1) env), (true, eval (.Name n2 p2) env)])).getD
        (List.map (fun x : Bool × Sem Value => (x.1, do let v ← x.2; standAt pos; pure v)) [(false, eval (.Name n1 p1) env), (true, eval (.Name n2 p2) env)]).length) = 1 := rfl
  rw [e5]
  simp only [List.map_cons, List.map_nil, List.take_succ_cons, List.take_zero, List.drop_succ_cons, List.drop_zero]
  refine wpAny_bind (wpAny_holding ?_)
  refine wpAny_bind (wpAny_evalAll_cons ?_)
  refine wpAny_bind (S1.local_ h1 (wpAny_bind (wpAny_standAt (wpAny_pure ?_))))
  refine wpAny_evalAll_nil ?_
  refine wpAny_bind (wpAny_holding ?_)
  rw [List.forIn_cons]
  refine wpAny_bind (wpAny_bind (wpAny_bind (S1.addT (ss := []) .head (by simp) (by decide) fun s2 S2 => wpAny_pure ?_)))
  dsimp only
  rw [List.forIn_nil]
  refine wpAny_pure ?_
  rw [e4]
  simp only [Bool.false_eq_true, ↓reduceIte]
  refine wpAny_pure ?_
  rw [List.forIn_cons]
  refine wpAny_bind (wpAny_bind (wpAny_bind (wpAny_bind (S2.local_ h2 (wpAny_bind (wpAny_standAt (wpAny_pure ?_)))))))
  simp only [↓reduceIte]
  refine wpAny_bind (wpAny_holding ?_)
  refine Sta.star (a := a) (kvs := kvs) (x := x) (N := N) (S2.perm (hd.perm.cons _)) hA hx hz fun s3 S3 => ?_
  refine wpAny_pure ?_
  dsimp only
  rw [List.forIn_nil]
  refine wpAny_pure (wpAny_pure (wpAny_pure (h _ _ S3)))
end
end Mine
end
section
open PySem PySem.W PyProof.Rows PySem.W.X PySem.SeqAt
set_option maxRecDepth 100000
namespace Mine
theorem erase_perm {α : Type} : ∀ {l : List α} {i : Nat} (h : i < l.length), (l[i] :: l.eraseIdx i).Perm l
  | x :: l, 0, _ => by simp
  | x :: l, i + 1, h => by
    have := erase_perm (l := l) (i := i) (by simpa using h)
    simp only [List.getElem_cons_succ, List.eraseIdx_cons_succ]
    exact (List.Perm.swap ..).trans (this.cons _)
section
variable {W : Wd} {G : Gens} {env : Env} {loc loc' : Loc} {nw nw' : Ledger} {s : Shared} {A : Around} {E : Value → Shared → Prop}
theorem wpAny_choose {M : Model} {src : Source} {n : Nat} {Q : Nat → Shared → Prop} (hn : n ≠ 0) (h : ∀ i d, i < n → Q i { s with drawn := d }) : wpAny M A (choose src n) Q E s :=
  fun _ _ _ => ⟨hn, h _ _ (Nat.mod_lt _ (by omega))⟩
theorem Sta.drawn (S : Sta W G env loc nw s) (d : Drawn) : Sta W G env loc nw { s with drawn := d } := ⟨S.ok, S.eok, S.led, S.bare, S.os, S.gens, S.gnd⟩
/-- any order may be drawn -/
theorem Sta.drawOrder {α : Type} {M : Model} (n : Nat) : ∀ (xs : List α) {Q : List α → Shared → Prop} {s : Shared}, xs.length = n → Sta W G env loc nw s → (∀ ys s', ys.Perm xs → Sta W G env loc nw s' → Q ys s') → wpAny M A (PySem.drawOrder n xs) Q E s := by
  induction n with
  | zero =>
    intro xs Q s hn S h
    have : xs = [] := List.length_eq_zero_iff.mp hn
    subst this
    unfold PySem.drawOrder
    exact wpAny_pure (h [] _ (.refl _) S)
  | succ n ih =>
    intro xs Q s hn S h
    cases xs with
    | nil => exact absurd hn (by simp)
    | cons x xs =>
      unfold PySem.drawOrder
      refine wpAny_bind (wpAny_choose (by simp) fun i d hi => ?_)
      rw [List.getElem?_eq_getElem hi]
      dsimp only
      refine wpAny_bind (ih ((x :: xs).eraseIdx i) (by rw [List.length_eraseIdx_of_lt hi, hn]; rfl) (S.drawn d) fun ys s' hp S' => ?_)
      refine wpAny_pure (h _ _ ?_ S')
      exact (hp.cons _).trans (erase_perm hi)
theorem pick_go {α : Type} (next : Nat → Nat) : ∀ (fuel k : Nat) (left : List α) (out : Array α), left.length = fuel → (pickOrder.go next fuel k left out).toList.Perm (out.toList ++ left)
  | 0, k, left, out, h => by
    have : left = [] := List.length_eq_zero_iff.mp h
    subst this
    unfold pickOrder.go
    simp
  | fuel + 1, k, left, out, h => by
    have hlt : next k % left.length < left.length := Nat.mod_lt _ (by omega)
    unfold pickOrder.go
    rw [List.getElem?_eq_getElem hlt]
    dsimp only
    refine (pick_go next fuel (k + 1) _ _ (by rw [List.length_eraseIdx_of_lt hlt, h]; rfl)).trans ?_
    rw [Array.toList_push, List.append_assoc]
    exact List.Perm.append_left _ (erase_perm hlt)
theorem pick_perm {α : Type} (next : Nat → Nat) (xs : Array α) : (pickOrder next xs).toList.Perm xs.toList := by
  unfold pickOrder
  simpa using pick_go next xs.size 0 xs.toList #[] (by simp)
end
end Mine
end
section
open PySem PySem.W PyProof.Rows PySem.W.X PySem.SeqAt
set_option maxRecDepth 100000
namespace Mine
theorem lk_set_iter : typeLookup (.type "set") "__iter__" = pure (some (.builtin "set.__iter__")) := by rw [typeLookup_type, builtinLookup_eq_fast]; kernel_rfl
theorem lk_si_next : typeLookup (.type "set_iterator") "__next__" = pure (some (.builtin "set_iterator.__next__")) := by rw [typeLookup_type, builtinLookup_eq_fast]; kernel_rfl
theorem slot_set_iter : Slot "set" "__iter__" "set.__iter__" :=
  Slot.of lk_set_iter (owner := "set") (n := "__iter__") (by decide +kernel) (by decide +kernel) (by decide +kernel) (.inl (by decide +kernel)) (by rw [isSubtype_type]; kernel_rfl)
theorem slot_si_next : Slot "set_iterator" "__next__" "set_iterator.__next__" :=
  Slot.of lk_si_next (owner := "set_iterator") (n := "__next__") (by decide +kernel) (by decide +kernel) (by decide +kernel) (.inl (by decide +kernel)) (by rw [isSubtype_type]; kernel_rfl)
theorem entry_set_iter : entryFor table "set.__iter__" = some Builtin.«frozenset.__iter__» := entryFor_alias (id' := "frozenset.__iter__") (by kernel_rfl) rfl (by decide +kernel) (by kernel_rfl)
theorem entry_si_next : entryFor table "set_iterator.__next__" = some Builtin.«set_iterator.__next__» := entryFor_of_tree (by kernel_rfl)
theorem args_set_iter (a : Value) : argsOk "set.__iter__" ⟨[a], []⟩ := by unfold argsOk; kernel_rfl
theorem args_si_next (a : Value) : argsOk "set_iterator.__next__" ⟨[a], []⟩ := by unfold argsOk; kernel_rfl

/-- an iterator over a set -/
noncomputable def IsSI (first : Value) (i : Nat) (a : Addr) (n ep : Nat) : Cell := fun o => o.cls = .type "set_iterator" ∧ o.data = .fields #[first, .int i 0, .ref a, .int n 0, .int ep 0]
section
variable {W : Wd} {G : Gens} {env : Env} {loc loc' : Loc} {nw nw' : Ledger} {s : Shared} {A : Around} {E : Value → Shared → Prop}
theorem iterSet_run {a : Addr} {o : Obj} {es : Array (Int × Value)} {ep : Nat} {tb : SetTable} {Q : PySem.Fin → Shared → Prop} (S : Sta W G env loc nw s) (ma : (a, IsObj o) ∈ nw) (hex : o.ExactSet) (hd : o.data = .set es ep tb) (hf : tb.fits es.size = true) (hz : es.size ≤ 4000)
    (h1 : W.w.params.followText "set-order" = true ∨ tb.plain = true ∨ es.size ≤ 1 → ∀ it s', Sta W G env loc ((it, IsSI (rawInt 0) 0 a es.size ep) :: nw) s' → Q (.done (.ret (.ref it))) s')
    (h2 : W.w.params.followText "set-order" = false → tb.plain = false → 1 < es.size → ∀ (ps : List Nat) it tp s', ps.Perm (List.range es.size) → Sta W G env loc ((it, IsSI (.ref tp) 0 a es.size ep) :: (tp, IsTpl (ps.map fun (i : Nat) => rawInt i)) :: nw) s' → Q (.done (.ret (.ref it))) s') :
    wpAny (model W.prog W.w) A (Builtin.«frozenset.__iter__» ⟨[.ref a], []⟩) Q E s := by
  unfold Builtin.«frozenset.__iter__»
  have ho : s.heap.get? a = some o := by
    obtain ⟨o', ho', rfl⟩ := S.get ma
    exact ho'
  have S0 := S
  obtain ⟨h, g, d, t, os⟩ := s
  have hT : (⟨h, g, d, t, os⟩ : Shared).TypeIs (.ref a) "set" := ⟨o, ho, hex.1⟩
  repeat lk
  rw [hd]
  dsimp only
  have hcond : (tb.place.size != es.size || decide (tb.fill > tb.mask)) = false := by
    have := hf
    simp only [SetTable.fits, Bool.and_eq_true, beq_iff_eq, decide_eq_true_eq] at this
    rw [this.1]
    simp only [bne_self_eq_false, Bool.false_or]
    exact decide_eq_false (by omega)
  rw [hcond]
  simp only [Bool.false_eq_true, ↓reduceIte]
  refine wpAny_pure (wpAny_pure (wpAny_pure ?_))
  dsimp only
  have hdr : wpAny (model W.prog W.w) A (setDrawn a) (fun b s' => s' = ⟨h, g, d, t, os⟩ ∧ b = (!W.w.params.followText "set-order" && (!tb.plain && decide (es.size > 1)))) E ⟨h, g, d, t, os⟩ := by
    unfold setDrawn setsByText
    refine wpAny_bind (wpAny_setState_of ho hd hf ?_)
    exact wpAny_bind (wpAny_bind (wpAny_askSetting (wpAny_pure (wpAny_pure ⟨rfl, rfl⟩))))
  refine wpAny_bind (wpAny_mono hdr (fun b s' q => ?_) fun _ _ e => e)
  obtain ⟨rfl, hb⟩ := q
  cases b with
  | true =>
    simp only [↓reduceIte]
    have hb' := hb.symm
    simp only [Bool.and_eq_true, Bool.not_eq_true', decide_eq_true_eq] at hb'
    refine wpAny_bind (S0.drawOrder es.size (List.range es.size) (by simp) fun ps s1 hp S1 => ?_)
    refine wpAny_bind (S1.newTuple (by rw [List.length_map, hp.length_eq, List.length_range, sizeLine_eq]; omega) fun tp s2 S2 => ?_)
    obtain ⟨o2, ho2, rfl⟩ := S2.get (.tail _ ma)
    refine wpAny_bind (wpAny_setEpoch_of ho2 hd hf ?_)
    refine wpAny_bind (wpAny_newObj_type ?_)
    exact wpAny_pure (h2 hb'.1 hb'.2.1 hb'.2.2 ps _ tp _ hp (S2.new (c := IsSI (.ref tp) 0 a es.size ep) rfl ⟨rfl, rfl⟩ s2.toks))
  | false =>
    simp only [Bool.false_eq_true, ↓reduceIte]
    refine wpAny_bind (wpAny_pure ?_)
    refine wpAny_bind (wpAny_setEpoch_of ho hd hf ?_)
    refine wpAny_bind (wpAny_newObj_type ?_)
    refine wpAny_pure (h1 ?_ _ _ (S0.new (c := IsSI (rawInt 0) 0 a es.size ep) rfl ⟨rfl, rfl⟩ t))
    have hb' := hb.symm
    rcases q1 : W.w.params.followText "set-order" with _ | _
    · rw [q1] at hb'
      rcases q2 : tb.plain with _ | _
      · rw [q2] at hb'
        simp at hb'
        exact .inr (.inr (by omega))
      · exact .inr (.inl rfl)
    · exact .inl rfl
theorem St0.get {a : Addr} {c : Cell} (S : St0 W G nw s) (m : (a, c) ∈ nw) : ∃ o, s.heap.get? a = some o ∧ c o := S.led.get m
theorem St0.set {a : Addr} {c c' : Cell} {o : Obj} {h' : Heap} (S : St0 W G nw s) (U : Upd a c c' nw nw') (hs : ∀ b o, b ≠ a → s.heap.get? b = some o → h'.get? b = some o) (ho : h'.get? a = some o) (hc : c' o) (t : Nat) : St0 W G nw' { s with heap := h', toks := t } :=
  ⟨S.ok, S.led.set U hs ho hc, S.bare, S.os, S.gens, S.gnd⟩
theorem St0.lost {it : Addr} {c : Cell} {N : Ledger} {h' : Heap} (S : St0 W G nw s) (p : Pull (it, c) nw N) (hx : Heap.ExtBut it s.heap h') : St0 W G N { s with heap := h' } := by
  have D := S.led.perm p.perm
  have hB := (D.own _ (.head _)).1
  have nd := D.nodup
  rw [List.map_cons, List.nodup_cons] at nd
  refine ⟨S.ok, ⟨fun b o e => hx b o (fun q => by rw [q, hB] at e; cases e) (S.led.keep b o e), fun q hq => ?_, nd.2⟩, S.bare, S.os, S.gens, S.gnd⟩
  obtain ⟨h1, o, ho, hc⟩ := D.own q (.tail _ hq)
  exact ⟨h1, o, hx _ _ (fun e => nd.1 (List.mem_map.mpr ⟨q, hq, e⟩)) ho, hc⟩
/-- StopIteration raised within a next -/
theorem stop_tail {Q : Option Value → Shared → Prop} {h' : Heap} {g : Array GenState} {d : Drawn} {tk : Nat} {os : OsState} (hh : A.handled = none) (hQ : ∀ h2, (∀ b o, h'.get? b = some o → h2.get? b = some o) → Q none ⟨h2, g, d, tk, os⟩) {R : PySem.Fin → Shared → Prop} :
    wpAny (model W.prog W.w) A.in1 (newExc (.type "StopIteration") [] >>= fun e => (raiseNew e : Sem PySem.Fin)) R
      (fun e s' => wpAny (model W.prog W.w) A (do if ← isInstance e (.type "StopIteration") then pure none else throw e) Q E s') ⟨h', g, d, tk, os⟩ := by
  refine wpAny_bind ?_
  simp only [newExc, newTuple]
  refine wpAny_bind (wpAny_newObj_type ?_ (by size_fits))
  refine wpAny_bind (m := firstArgMember _ _) (wpAny_of_eq (a := Value.none) (by first | rfl | (simp only [firstArgMember]; rfl)) ?_)
  refine wpAny_newObj_type ?_ (by size_fits)
  simp only [raiseNew]
  refine wpAny_bind (wpAny_handled ?_)
  rw [show A.in1.handled = none from hh]
  refine wpAny_bind (wpAny_pure (wpAny_throw ?_))
  refine wpAny_bind (wpAny_isInstance (T := "StopIteration") (b := true) ⟨_, Heap.get?_push_size _ rfl, rfl⟩ isSubtype_stop ?_)
  exact wpAny_pure (hQ _ fun b o e => Heap.get?_push_of_some _ (Heap.get?_push_of_some _ e))
theorem St0.field {it a : Addr} {first first' : Value} {i i' n ep : Nat} {oi : Obj} (S : St0 W G nw s) (U : Upd it (IsSI first i a n ep) (IsSI first' i' a n ep) nw nw') (hoi : s.heap.get? it = some oi) (hc : oi.cls = .type "set_iterator") (hdi : oi.data = .fields #[first, .int i 0, .ref a, .int n 0, .int ep 0])
    (f : Array Value → Array Value) (hf : f #[first, .int i 0, .ref a, .int n 0, .int ep 0] = #[first', .int i' 0, .ref a, .int n 0, .int ep 0]) : St0 W G nw' { s with heap := s.heap.update it (Obj.mapFields f) } :=
  S.set U (fun b o hb e => ((Heap.SameBut.update s.heap it _).2 b hb).trans e) (Heap.get?_update_self _ hoi (Obj.isFreed_of_fields (Obj.data_mapFields hdi _))) ⟨(Obj.cls_mapFields ..).trans hc, by rw [Obj.data_mapFields hdi, hf]⟩ s.toks
/-- the next one by the places drawn -/
theorem next_drawn {it a tp : Addr} {i : Nat} {ps : List Nat} {o : Obj} {es : Array (Int × Value)} {ep : Nat} {tb : SetTable} {Q : Option Value → Shared → Prop} (S : St0 W G nw s) (U : Upd it (IsSI (.ref tp) i a es.size ep) (IsSI (.ref tp) (i + 1) a es.size ep) nw nw') (mt : (tp, IsTpl (ps.map fun (i : Nat) => rawInt i)) ∈ nw) (ma : (a, IsObj o) ∈ nw)
    (hd : o.data = .set es ep tb) (hf : tb.fits es.size = true) (hi : i < ps.length) (hp : ps[i] < es.size) (h : ∀ s', St0 W G nw' s' → Q (some es[ps[i]].2) s') : wpAny (model W.prog W.w) A (pyNext (.ref it)) Q E s := by
  obtain ⟨oi, hoi, hc, hdi⟩ := S.get U.mem
  obtain ⟨o', ho', rfl⟩ := S.get ma
  obtain ⟨ot, hot, nt, rfl⟩ := S.get mt
  have hT : s.TypeIs (.ref it) "set_iterator" := ⟨oi, hoi, hc⟩
  unfold pyNext
  refine wpAny_bind (wpAny_attempt (wpAny_callSpecial?_slot (name := Str.ofString "__next__") hT slot_si_next (wpAny_call_entry slot_si_next hT entry_si_next ?_ (args_si_next _))))
  unfold Builtin.«set_iterator.__next__»
  refine wpAny_bind (wpAny_pure ?_)
  dsimp only
  refine wpAny_bind (wpAny_fieldsOf hoi hdi ?_)
  dsimp only
  refine wpAny_bind (wpAny_setEntries_of ho' hd hf ?_)
  have e1 : ((es.size : Int) != (es.size : Int)) = false := by simp
  rw [e1]
  simp only [Bool.false_eq_true, ↓reduceIte]
  refine wpAny_bind (wpAny_seqItems hot rfl ?_)
  dsimp only
  have e2 : ((ps.map fun (i : Nat) => rawInt i).toArray)[(i : Int).toNat]? = some (.int ps[i] 0) := by
    simp [hi, rawInt]
  rw [e2]
  dsimp only
  unfold setNextDrawn
  refine wpAny_bind (wpAny_bind (wpAny_setState_of ho' hd hf ?_))
  have e3 : (ep != (ep : Int).toNat) = false := by simp
  dsimp only
  rw [e3]
  simp only [Bool.false_eq_true, ↓reduceIte]
  have e4 : es[(ps[i] : Int).toNat]? = some es[ps[i]] := by
    rw [Int.toNat_natCast]; exact Array.getElem?_eq_getElem hp
  rw [e4]
  refine wpAny_pure ?_
  refine wpAny_bind (wpAny_setField hoi hdi (by simp) ?_)
  refine wpAny_pure ⟨_, rfl, wpAny_pure (h _ ?_)⟩
  refine S.field U hoi hc hdi _ ?_
  simp [rawInt]
theorem end_drawn {it a tp : Addr} {i : Nat} {ps : List Nat} {o : Obj} {es : Array (Int × Value)} {ep : Nat} {tb : SetTable} {N : Ledger} {Q : Option Value → Shared → Prop} (S : St0 W G nw s) (hh : A.handled = none) (P : Pull (it, IsSI (.ref tp) i a es.size ep) nw N) (mt : (tp, IsTpl (ps.map fun (i : Nat) => rawInt i)) ∈ nw) (ma : (a, IsObj o) ∈ nw)
    (hd : o.data = .set es ep tb) (hf : tb.fits es.size = true) (hi : ps.length ≤ i) (h : ∀ s', St0 W G N s' → Q none s') : wpAny (model W.prog W.w) A (pyNext (.ref it)) Q E s := by
  obtain ⟨oi, hoi, hc, hdi⟩ := S.get P.mem'
  obtain ⟨o', ho', rfl⟩ := S.get ma
  have hT : s.TypeIs (.ref it) "set_iterator" := ⟨oi, hoi, hc⟩
  unfold pyNext
  refine wpAny_bind (wpAny_attempt (wpAny_callSpecial?_slot (name := Str.ofString "__next__") hT slot_si_next (wpAny_call_entry slot_si_next hT entry_si_next ?_ (args_si_next _))))
  unfold Builtin.«set_iterator.__next__»
  refine wpAny_bind (wpAny_pure ?_)
  dsimp only
  refine wpAny_bind (wpAny_fieldsOf hoi hdi ?_)
  dsimp only
  refine wpAny_bind (wpAny_setEntries_of ho' hd hf ?_)
  have e1 : ((es.size : Int) != (es.size : Int)) = false := by simp
  rw [e1]
  simp only [Bool.false_eq_true, ↓reduceIte]
  obtain ⟨ot, hot, nt, rfl⟩ := S.get mt
  refine wpAny_bind (wpAny_seqItems hot rfl ?_)
  dsimp only
  have e2 : ((ps.map fun (i : Nat) => rawInt i).toArray)[(i : Int).toNat]? = none := by
    simp [hi]
  rw [e2]
  dsimp only
  refine wpAny_bind (wpAny_setField hoi hdi (by simp) ?_)
  have h2 := Heap.get?_update_self (Obj.mapFields (·.setIfInBounds 0 (rawInt 0))) hoi (Obj.isFreed_of_fields (Obj.data_mapFields hdi _))
  refine wpAny_bind (wpAny_setField h2 (Obj.data_mapFields hdi _) (by simp) ?_)
  refine stop_tail hh fun h3 hk => h _ (S.lost P fun b o hb e => hk b o ?_)
  exact ((Heap.SameBut.update _ it _).2 b hb).trans (((Heap.SameBut.update s.heap it _).2 b hb).trans e)
/-- the set's next one, however its order is told -/
noncomputable def NextIs (W : Wd) (a : Addr) (es : Array (Int × Value)) (ep : Nat) (tb : SetTable) (slot given : Nat) (r : Option (Value × Nat)) : Prop := ∀ A (s : Shared) o, s.heap.get? a = some o → o.data = .set es ep tb → tb.fits es.size = true → ∀ (E : Value → Shared → Prop),
  wpAny (model W.prog W.w) A (setNext a slot given ep) (fun q s' => s' = s ∧ q = r) E s
theorem next_is {it a : Addr} {o : Obj} {es : Array (Int × Value)} {ep : Nat} {tb : SetTable} {Q : Option Value → Shared → Prop} {slot slot' i : Nat} {v : Value} (S : St0 W G nw s) (hn : NextIs W a es ep tb slot i (some (v, slot'))) (U : Upd it (IsSI (rawInt slot) i a es.size ep) (IsSI (rawInt slot') (i + 1) a es.size ep) nw nw') (ma : (a, IsObj o) ∈ nw)
    (hd : o.data = .set es ep tb) (hf : tb.fits es.size = true) (h : ∀ s', St0 W G nw' s' → Q (some v) s') : wpAny (model W.prog W.w) A (pyNext (.ref it)) Q E s := by
  obtain ⟨oi, hoi, hc, hdi⟩ := S.get U.mem
  obtain ⟨o', ho', rfl⟩ := S.get ma
  have hT : s.TypeIs (.ref it) "set_iterator" := ⟨oi, hoi, hc⟩
  unfold pyNext
  refine wpAny_bind (wpAny_attempt (wpAny_callSpecial?_slot (name := Str.ofString "__next__") hT slot_si_next (wpAny_call_entry slot_si_next hT entry_si_next ?_ (args_si_next _))))
  unfold Builtin.«set_iterator.__next__»
  refine wpAny_bind (wpAny_pure ?_)
  dsimp only
  refine wpAny_bind (wpAny_fieldsOf hoi hdi ?_)
  dsimp only
  refine wpAny_bind (wpAny_setEntries_of ho' hd hf ?_)
  have e1 : ((es.size : Int) != (es.size : Int)) = false := by simp
  rw [e1]
  simp only [Bool.false_eq_true, ↓reduceIte]
  refine wpAny_bind (wpAny_mono (hn _ s _ ho' hd hf _) (fun q s' e => ?_) fun _ _ e => e)
  obtain ⟨rfl, rfl⟩ := e
  dsimp only
  refine wpAny_bind (wpAny_setField hoi hdi (by simp) ?_)
  have h2 := Heap.get?_update_self (Obj.mapFields (·.setIfInBounds 0 (rawInt slot'))) hoi (Obj.isFreed_of_fields (Obj.data_mapFields hdi _))
  refine wpAny_bind (wpAny_setField h2 (Obj.data_mapFields hdi _) (by simp) ?_)
  refine wpAny_pure ⟨_, rfl, wpAny_pure (h _ ?_)⟩
  obtain ⟨nw1, U1, U2⟩ := U.via2 (IsSI (rawInt slot') i a es.size ep)
  have S1 := S.field U1 hoi hc hdi (·.setIfInBounds 0 (rawInt slot')) (by simp)
  have S2 := S1.field U2 h2 ((Obj.cls_mapFields ..).trans hc) (by rw [Obj.data_mapFields hdi]; simp) (·.setIfInBounds 1 (rawInt ((i : Int) + 1))) (by simp [rawInt])
  exact S2
theorem end_is {it a : Addr} {o : Obj} {es : Array (Int × Value)} {ep : Nat} {tb : SetTable} {Q : Option Value → Shared → Prop} {slot i : Nat} {N : Ledger} (S : St0 W G nw s) (hh : A.handled = none) (hn : NextIs W a es ep tb slot i none) (P : Pull (it, IsSI (rawInt slot) i a es.size ep) nw N) (ma : (a, IsObj o) ∈ nw)
    (hd : o.data = .set es ep tb) (hf : tb.fits es.size = true) (h : ∀ s', St0 W G N s' → Q none s') : wpAny (model W.prog W.w) A (pyNext (.ref it)) Q E s := by
  obtain ⟨oi, hoi, hc, hdi⟩ := S.get P.mem'
  obtain ⟨o', ho', rfl⟩ := S.get ma
  have hT : s.TypeIs (.ref it) "set_iterator" := ⟨oi, hoi, hc⟩
  unfold pyNext
  refine wpAny_bind (wpAny_attempt (wpAny_callSpecial?_slot (name := Str.ofString "__next__") hT slot_si_next (wpAny_call_entry slot_si_next hT entry_si_next ?_ (args_si_next _))))
  unfold Builtin.«set_iterator.__next__»
  refine wpAny_bind (wpAny_pure ?_)
  dsimp only
  refine wpAny_bind (wpAny_fieldsOf hoi hdi ?_)
  dsimp only
  refine wpAny_bind (wpAny_setEntries_of ho' hd hf ?_)
  have e1 : ((es.size : Int) != (es.size : Int)) = false := by simp
  rw [e1]
  simp only [Bool.false_eq_true, ↓reduceIte]
  refine wpAny_bind (wpAny_mono (hn _ s _ ho' hd hf _) (fun q s' e => ?_) fun _ _ e => e)
  obtain ⟨rfl, rfl⟩ := e
  dsimp only
  refine wpAny_bind (wpAny_setField hoi hdi (by simp) ?_)
  refine stop_tail hh fun h3 hk => h _ (S.lost P fun b o hb e => hk b o ?_)
  exact ((Heap.SameBut.update _ it _).2 b hb).trans e
theorem nextIs_slot {a : Addr} {es : Array (Int × Value)} {ep : Nat} {tb : SetTable} {slot given : Nat} (hby : W.w.params.followText "set-order" = false) (hled : tb.led = true) (h1 : es.size ≤ 1) :
    NextIs W a es ep tb slot given (match es[SetTable.below tb.place slot]?, tb.place[SetTable.below tb.place slot]? with | some (_, x), some j => some (x, j + 1) | _, _ => none) := by
  intro A s o ho hd hf E
  unfold setNext setsByText
  refine wpAny_bind (wpAny_setState_of ho hd hf ?_)
  refine wpAny_bind (wpAny_bind (wpAny_askSetting (wpAny_pure ?_)))
  have q : ((Setting.mk (model W.prog W.w).prog (model W.prog W.w).w.params).params.followText "set-order") = false := hby
  rw [q]
  dsimp only
  simp only [Bool.false_eq_true, ↓reduceIte]
  rw [if_neg]
  rotate_left
  · show ¬ ((!tb.plain && decide (es.size > 1)) = true)
    rw [decide_eq_false (by omega)]; simp
  show wpAny _ _ ((if (!tb.led && !es.isEmpty) = true then (unsupported "set:maker-not-led" : Sem Unit) else pure ()) >>= _) _ _ _
  rw [if_neg (by rw [hled]; simp)]
  exact wpAny_bind (wpAny_pure (wpAny_pure ⟨rfl, rfl⟩))
theorem nextIs_text {a : Addr} {es : Array (Int × Value)} {ep : Nat} {tb : SetTable} {slot given : Nat} (hby : W.w.params.followText "set-order" = true) :
    NextIs W a es ep tb slot given (((pickOrder (W.w.params.setOrder a ep) es)[given]?).map fun e => (e.2, slot)) := by
  intro A s o ho hd hf E
  unfold setNext setsByText
  refine wpAny_bind (wpAny_setState_of ho hd hf ?_)
  refine wpAny_bind (wpAny_bind (wpAny_askSetting (wpAny_pure ?_)))
  have q : ((Setting.mk (model W.prog W.w).prog (model W.prog W.w).w.params).params.followText "set-order") = true := hby
  rw [q]
  dsimp only
  have e1 : (ep != ep) = false := by simp
  rw [e1]
  simp only [Bool.false_eq_true, ↓reduceIte]
  unfold setWalk setsByText
  refine wpAny_bind (wpAny_bind (wpAny_setState_of ho hd hf ?_))
  refine wpAny_bind (wpAny_bind (wpAny_askSetting (wpAny_pure ?_)))
  rw [q]
  simp only [↓reduceIte]
  exact wpAny_bind (wpAny_askSetting (wpAny_pure (wpAny_pure ⟨rfl, rfl⟩)))
end
end Mine
end
section
open PySem PySem.W PyProof.Rows PySem.W.X PySem.SeqAt
set_option maxRecDepth 100000
namespace Mine
theorem pull_app {α : Type} (p : α) : ∀ (L R : List α), Pull p (L ++ p :: R) (L ++ R)
  | [], _ => .head
  | _ :: L, R => .tail (pull_app p L R)
theorem upd_app {a : Addr} {c c' : Cell} : ∀ (L R : Ledger), Upd a c c' (L ++ (a, c) :: R) (L ++ (a, c') :: R)
  | [], _ => .head
  | _ :: L, R => .tail (upd_app L R)
theorem St0.sub {W : Wd} {G : Gens} {nw nw' : Ledger} {s : Shared} (S : St0 W G nw s) (h : List.Sublist nw' nw) : St0 W G nw' s := ⟨S.ok, S.led.sub h, S.bare, S.os, S.gens, S.gnd⟩
theorem plain_si {first : Value} {i : Nat} {a : Addr} {n ep : Nat} : ∀ o, IsSI first i a n ep o → plainIt o = true := fun o h => by unfold plainIt; rw [h.1]; decide
section
variable {W : Wd} {sh : Ledger} {it a tp : Addr} {o : Obj} {es : Array (Int × Value)} {ep : Nat} {tb : SetTable}
theorem yields_drawn {ps : List Nat} (ma : (a, IsObj o) ∈ sh) (hd : o.data = .set es ep tb) (hf : tb.fits es.size = true) (hps : ∀ j ∈ ps, j < es.size) : ∀ (m i : Nat), ps.length - i = m → i ≤ ps.length →
    Yields W sh it ((ps.drop i).map fun j => (es.getD j (0, .none)).2) [(it, IsSI (.ref tp) i a es.size ep), (tp, IsTpl (ps.map fun (i : Nat) => rawInt i))] []
  | 0, i, hm, hi => by
    have e0 : ps.drop i = [] := List.drop_of_length_le (by omega)
    rw [e0]
    refine ⟨⟨_, List.mem_append_right _ (.head _), plain_si⟩, fun A R GR s Q E hA S hQ => ?_⟩
    rw [List.append_nil] at S
    rw [← List.append_assoc] at S
    refine end_drawn S hA.handled (pull_app _ (R ++ sh) _) (ps := ps) (by simp) (by simp [ma]) hd hf (by omega) fun s' S' => hQ _ ?_
    exact S'.sub (List.sublist_append_left _ _)
  | m + 1, i, hm, hi => by
    have hlt : i < ps.length := by omega
    have e0 : ps.drop i = ps[i] :: ps.drop (i + 1) := List.drop_eq_getElem_cons hlt
    have hj := hps _ (List.getElem_mem hlt)
    rw [e0, List.map_cons]
    refine ⟨⟨_, List.mem_append_right _ (.head _), plain_si⟩, fun A R GR s Q E hA S hQ => ?_⟩
    rw [List.append_nil] at S
    rw [← List.append_assoc] at S
    refine next_drawn S (upd_app (R ++ sh) _) (ps := ps) (by simp) (by simp [ma]) hd hf hlt hj fun s' S' => ?_
    have e1 : es[ps[i]].2 = (es.getD ps[i] (0, .none)).2 := by simp [Array.getD, hj]
    rw [e1]
    refine hQ [(it, IsSI (.ref tp) (i + 1) a es.size ep), (tp, IsTpl (ps.map fun (i : Nat) => rawInt i))] [] _ ?_ (yields_drawn ma hd hf hps m (i + 1) (by omega) hlt)
    rw [List.append_nil, ← List.append_assoc]; exact S'
/-- by a told order -/
theorem yields_is {slots : List Nat} {vs : List Value} (ma : (a, IsObj o) ∈ sh) (hd : o.data = .set es ep tb) (hf : tb.fits es.size = true) (hl : slots.length = vs.length + 1)
    (hn : ∀ i (h : i < vs.length), NextIs W a es ep tb (slots[i]'(by omega)) i (some (vs[i], slots[i + 1]'(by omega)))) (he : NextIs W a es ep tb (slots[vs.length]'(by omega)) vs.length none) : ∀ (m i : Nat) (hm : vs.length - i = m) (hi : i ≤ vs.length),
    Yields W sh it (vs.drop i) [(it, IsSI (rawInt (slots[i]'(by omega) : Nat)) i a es.size ep)] []
  | 0, i, hm, hi => by
    have hi2 : i = vs.length := by omega
    subst hi2
    rw [List.drop_length]
    refine ⟨⟨_, List.mem_append_right _ (.head _), plain_si⟩, fun A R GR s Q E hA S hQ => ?_⟩
    rw [List.append_nil] at S
    rw [← List.append_assoc] at S
    refine end_is S hA.handled he (pull_app _ (R ++ sh) _) (by simp [ma]) hd hf fun s' S' => hQ _ ?_
    simpa using S'
  | m + 1, i, hm, hi => by
    have hlt : i < vs.length := by omega
    have e0 : vs.drop i = vs[i] :: vs.drop (i + 1) := List.drop_eq_getElem_cons hlt
    rw [e0]
    refine ⟨⟨_, List.mem_append_right _ (.head _), plain_si⟩, fun A R GR s Q E hA S hQ => ?_⟩
    rw [List.append_nil] at S
    rw [← List.append_assoc] at S
    refine next_is S (hn i hlt) (upd_app (R ++ sh) _) (by simp [ma]) hd hf fun s' S' => ?_
    refine hQ [(it, IsSI (rawInt (slots[i + 1]'(by omega) : Nat)) (i + 1) a es.size ep)] [] _ ?_ (yields_is ma hd hf hl hn he m (i + 1) (by omega) hlt)
    rw [List.append_nil, ← List.append_assoc]; exact S'
theorem TxtsAre.get {vs : List Value} {ss : List Str} (h : TxtsAre vs ss) : ∀ (ps : List Nat), (∀ j ∈ ps, j < vs.length) → TxtsAre (ps.map fun j => vs.getD j .none) (ps.map fun j => ss.getD j Str.empty)
  | [], _ => .nil
  | j :: ps, hp => by
    have ih := TxtsAre.get h ps fun k hk => hp k (.tail _ hk)
    have hj := hp j (.head _)
    have key : ∀ {vs : List Value} {ss : List Str}, TxtsAre vs ss → ∀ j, j < vs.length → ∃ t, vs.getD j .none = .str (ss.getD j Str.empty) t := by
      intro vs ss h
      induction h with
      | nil => intro j hj; simp at hj
      | cons x t h ih =>
        intro j hj
        cases j with
        | zero => exact ⟨t, rfl⟩
        | succ j => simpa using ih j (by simpa using hj)
    obtain ⟨t, e⟩ := key h j hj
    rw [List.map_cons, List.map_cons, e]
    exact .cons _ t ih
theorem getD_range_perm {α : Type} (d : α) (l : List α) : ((List.range l.length).map fun j => l.getD j d) = l := by
  apply List.ext_getElem
  · simp
  · intro i h1 h2
    simp at h1
    simp [h1]
end
section
variable {W : Wd} {G : Gens} {env : Env} {loc loc' : Loc} {nw nw' N : Ledger} {s : Shared} {A : Around} {E : Value → Shared → Prop}
/-- the walk over a set: its texts, in any order -/
theorem Sta.iterSet {a : Addr} {ss : List Str} {Q : Value → Shared → Prop} (S : Sta W G env loc ((a, IsSL W ss) :: N) s) (hz : ss.length ≤ 4000)
    (h : ∀ it vs ss' own o s', TxtsAre vs ss' → ss'.Perm ss → IsSL W ss o → Sta W G env loc (own ++ ((a, IsObj o) :: N)) s' → Yields W [(a, IsObj o)] it vs own [] → Q (.ref it) s') : wpAny (model W.prog W.w) A (pyIter (.ref a)) Q E s := by
  obtain ⟨o, ho, hsl⟩ := S.get (.head _)
  have S1 : Sta W G env loc ((a, IsObj o) :: N) s := S.tell .head fun o' ho' _ => by rw [ho] at ho'; cases ho'; rfl
  have hsl0 : IsSL W ss o := hsl
  obtain ⟨hex, es, ep, tb, hd, hel, ⟨ss', htx, hpm⟩, hf, hled, hpl, hsm⟩ := hsl
  have hT : s.TypeIs (.ref a) "set" := ⟨o, ho, hex.1⟩
  have hlen : es.size = ss.length := by
    have := htx.length
    rw [List.length_map, Array.length_toList] at this
    rw [this, hpm.length_eq]
  have hpsz : tb.place.size = es.size := by
    have := hf; simp only [SetTable.fits, Bool.and_eq_true, beq_iff_eq] at this; exact this.1
  refine wpAny_pyIter_slot hT slot_set_iter (wpAny_call_entry slot_set_iter hT entry_set_iter ?_ (args_set_iter _))
  refine iterSet_run S1 (.head _) hex hd hf (by omega) (fun hc it s' S' => ?_) (fun hby hp hgt ps it tp s' hperm S' => ?_)
  · obtain ⟨oi, hoi, hci, _⟩ := S'.get (.head _)
    refine ⟨_, rfl, "set_iterator", _, ⟨oi, hoi, hci⟩, lk_si_next, ?_⟩
    cases hby : W.w.params.followText "set-order" with
    | true =>
      have hpp := pick_perm (W.w.params.setOrder a ep) es
      obtain ⟨s2, a2, b2⟩ := TxtsAre.perm (hpp.map (·.2)) htx
      refine h it _ s2 [(it, IsSI (rawInt 0) 0 a es.size ep)] o s' a2 (b2.trans hpm) hsl0 S' ?_
      have hpz : (pickOrder (W.w.params.setOrder a ep) es).size = es.size := by rw [← Array.length_toList, hpp.length_eq, Array.length_toList]
      have Y := yields_is (W := W) (sh := [(a, IsObj o)]) (it := it) (a := a) (o := o) (es := es) (ep := ep) (tb := tb) (slots := List.replicate (es.size + 1) 0) (vs := (pickOrder (W.w.params.setOrder a ep) es).toList.map (·.2)) (.head _) hd hf (by simp [hpz]) ?_ ?_ _ 0 rfl (by omega)
      · simpa using Y
      · intro i hi
        simp only [List.length_map, Array.length_toList] at hi
        have := nextIs_text (W := W) (a := a) (es := es) (ep := ep) (tb := tb) (slot := 0) (given := i) hby
        rw [Array.getElem?_eq_getElem hi] at this
        simpa using this
      · have := nextIs_text (W := W) (a := a) (es := es) (ep := ep) (tb := tb) (slot := 0) (given := (pickOrder (W.w.params.setOrder a ep) es).size) hby
        rw [Array.getElem?_eq_none (Nat.le_refl _)] at this
        simpa using this
    | false =>
      have hl2 : tb.led = true := hled.resolve_right (by rw [hby]; decide)
      have hle : es.size ≤ 1 := by
        rcases hc with q | q | q
        · rw [hby] at q; cases q
        · by_cases z : es.size = 0
          · omega
          · rw [hpl z] at q; cases q
        · exact q
      refine h it _ ss' [(it, IsSI (rawInt 0) 0 a es.size ep)] o s' htx hpm hsl0 S' ?_
      by_cases z : es.size = 0
      · have e1 : es = #[] := Array.size_eq_zero_iff.mp z
        have Y := yields_is (W := W) (sh := [(a, IsObj o)]) (it := it) (a := a) (o := o) (es := es) (ep := ep) (tb := tb) (slots := [0]) (vs := []) (.head _) hd hf rfl (fun i hi => by simp at hi) ?_ _ 0 rfl (by omega)
        · subst e1; simpa using Y
        · have := nextIs_slot (W := W) (a := a) (es := es) (ep := ep) (tb := tb) (slot := 0) (given := 0) hby hl2 hle
          have e2 : es[SetTable.below tb.place 0]? = none := Array.getElem?_eq_none (by omega)
          rw [e2] at this
          exact this
      · have hz1 : es.size = 1 := by omega
        obtain ⟨j, hj⟩ : ∃ j, tb.place = #[j] := Array.size_eq_one_iff.mp (by omega)
        obtain ⟨e, he⟩ : ∃ e, es = #[e] := Array.size_eq_one_iff.mp hz1
        have b0 : SetTable.below tb.place 0 = 0 := by rw [hj]; simp [SetTable.below, SetTable.below.go]
        have b1 : SetTable.below tb.place (j + 1) = 1 := by rw [hj]; simp [SetTable.below, SetTable.below.go]
        have Y := yields_is (W := W) (sh := [(a, IsObj o)]) (it := it) (a := a) (o := o) (es := es) (ep := ep) (tb := tb) (slots := [0, j + 1]) (vs := [e.2]) (.head _) hd hf rfl (fun i hi => ?_) ?_ _ 0 rfl (by omega)
        · subst he; simpa using Y
        · have hi0 : i = 0 := by simpa using hi
          subst hi0
          have := nextIs_slot (W := W) (a := a) (es := es) (ep := ep) (tb := tb) (slot := 0) (given := 0) hby hl2 hle
          rw [b0, hj, he] at this
          rw [he]
          simpa using this
        · have := nextIs_slot (W := W) (a := a) (es := es) (ep := ep) (tb := tb) (slot := j + 1) (given := 1) hby hl2 hle
          rw [b1] at this
          have e2 : es[1]? = none := Array.getElem?_eq_none (by omega)
          rw [e2] at this
          simpa using this
  · obtain ⟨oi, hoi, hci, _⟩ := S'.get (.head _)
    refine ⟨_, rfl, "set_iterator", _, ⟨oi, hoi, hci⟩, lk_si_next, ?_⟩
    have hps : ∀ j ∈ ps, j < es.size := fun j hj => by simpa using hperm.mem_iff.mp hj
    have Y := yields_drawn (W := W) (sh := [(a, IsObj o)]) (it := it) (a := a) (tp := tp) (o := o) (es := es) (ep := ep) (tb := tb) (ps := ps) (.head _) hd hf hps ps.length 0 (by omega) (by omega)
    rw [List.drop_zero] at Y
    have hpl2 : ∀ j ∈ ps, j < (es.toList.map (·.2)).length := fun j hj => by simpa using hps j hj
    have ht := TxtsAre.get htx ps hpl2
    have e1 : (ps.map fun j => (es.toList.map (·.2)).getD j .none) = ps.map fun j => (es.getD j (0, .none)).2 := by
      apply List.map_congr_left
      intro j hj
      have := hps j hj
      simp [Array.getD, this, List.getD]
    rw [e1] at ht
    refine h it _ _ _ o s' ht ?_ hsl0 S' Y
    have hl' : ss'.length = es.size := by
      have := htx.length
      rw [List.length_map, Array.length_toList] at this
      exact this.symm
    have p1 := hperm.map fun j => ss'.getD j Str.empty
    rw [← hl', getD_range_perm] at p1
    exact p1.trans hpm
end
end Mine
end
section
open PySem PySem.W PyProof.Rows PySem.W.X PySem.SeqAt
set_option maxRecDepth 100000
namespace Mine
theorem lk_set_len : typeLookup (.type "set") "__len__" = pure (some (.builtin "set.__len__")) := by rw [typeLookup_type, builtinLookup_eq_fast]; kernel_rfl
theorem St0.perm {W : Wd} {G : Gens} {nw nw' : Ledger} {s : Shared} (S : St0 W G nw s) (h : List.Perm nw nw') : St0 W G nw' s := ⟨S.ok, S.led.perm h, S.bare, S.os, S.gens, S.gnd⟩
theorem perm_x {α : Type} (e a t : α) (own N : List α) : List.Perm (e :: (own ++ (a :: t :: N))) (t :: ((e :: N) ++ ([a] ++ own))) := by
  have h1 : List.Perm (e :: (own ++ (a :: t :: N))) (e :: ((a :: t :: N) ++ own)) := List.perm_append_comm.cons _
  have h2 : List.Perm (e :: ((a :: t :: N) ++ own)) (t :: e :: a :: (N ++ own)) := ((List.Perm.swap ..).cons _).trans (List.Perm.swap ..)
  exact h1.trans (h2.trans ((List.perm_middle.symm.cons _).cons _))
section
variable {W : Wd} {G : Gens} {env : Env} {loc loc' : Loc} {nw nw' N : Ledger} {s : Shared} {A : Around} {E : Value → Shared → Prop}
theorem hint_set {a : Addr} {Q : Bool → Shared → Prop} (hT : s.TypeIs (.ref a) "set") (h : Q false s) : wpAny (model W.prog W.w) A (Builtin.List.listLengthHint (.ref a)) Q E s := by
  obtain ⟨o, ho, hc⟩ := hT
  obtain ⟨hp, g, d, t, os⟩ := s
  have hT : (⟨hp, g, d, t, os⟩ : Shared).TypeIs (.ref a) "set" := ⟨o, ho, hc⟩
  unfold Builtin.List.listLengthHint
  refine wpAny_bind (wpAny_specialOf hT lk_set_len ?_)
  dsimp only
  rw [show splitId "set.__len__" = some ("set", "__len__") from by decide +kernel]
  dsimp only
  refine wpAny_bind (wpAny_isInstance (b := true) hT (by rw [isSubtype_type]; kernel_rfl) ?_)
  rw [if_neg (by decide)]
  rw [if_pos]
  rotate_left
  · decide +kernel
  exact wpAny_bind (wpAny_typeOf hT (wpAny_pure h))
/-- a set's texts gathered, in any order -/
theorem Sta.collectSet {a : Addr} {ss : List Str} {Q : List Value → Shared → Prop} (S : Sta W G env loc ((a, IsSL W ss) :: N) s) (hA : Aok 9 A) (hz : ss.length ≤ 4000)
    (h : ∀ vs ss' s', TxtsAre vs ss' → ss'.Perm ss → Sta W G env loc ((a, IsSL W ss) :: N) s' → Q vs s') : wpAny (model W.prog W.w) A (collect (.ref a)) Q E s := by
  unfold collect
  refine wpAny_bind (wpAny_runValue (codeAny_builtin F.entry_proto_collect ?_))
  rw [Around.under_plainId F.plain_proto_collect _]
  show wpAny _ A.in1 (PySem.newList [] >>= fun l => again (.builtin "list.__iadd__" ⟨[l, .ref a], []⟩)) _ _ s
  refine wpAny_bind (S.newList (by simp) fun T s1 S1 => ?_)
  refine wpAny_pure ⟨plainId_quiet F.plain_list_iadd _, codeAny_builtin F.entry_list_iadd ?_⟩
  rw [Around.under_plainId F.plain_list_iadd _]
  show wpAny _ A.in1 (Builtin.List.listExtendWith (.ref T) (.ref a) (.ref T)) _ _ _
  unfold Builtin.List.listExtendWith
  obtain ⟨oa, hoa, hsl⟩ := S1.get (.tail _ (.head _))
  have hT1 : s1.TypeIs (.ref a) "set" := ⟨oa, hoa, hsl.1.1⟩
  have hne : T ≠ a := fun e => by
    have nd := S1.led.nodup
    simp only [List.map_cons, List.nodup_cons, List.mem_cons] at nd
    exact nd.2.1 (.inl e)
  refine wpAny_bind (wpAny_typeOf hT1 ?_)
  have h1 : Builtin.List.listSameRef (.ref T) (.ref a) = false := by simp [Builtin.List.listSameRef, hne]
  have h2 : (Value.type "set" == Value.type "list") = false := by decide
  have h3 : (Value.type "set" == Value.type "tuple") = false := by decide
  simp only [h1, h2, h3, Bool.or_false, Bool.false_eq_true, if_false]
  refine wpAny_bind ((S1.perm (List.Perm.swap ..)).iterSet hz fun it vs ss' own o s2 ht hpm hslo S2 hy => ?_)
  obtain ⟨o2, ho2, e2⟩ := S2.get (List.mem_append_right _ (.head _))
  have e2 : o2 = o := e2
  rw [e2] at ho2
  refine wpAny_bind (wpAny_holding (hint_set ⟨_, ho2, hslo.1.1⟩ ?_))
  have hres : ((false || (["set", "frozenset", "dict", "dict_keys", "dict_values", "dict_items"] : List String).any (Value.type "set" == .type ·)) = true) := by decide
  show wpAny _ A.in1 ((if (false || (["set", "frozenset", "dict", "dict_keys", "dict_values", "dict_items"] : List String).any (Value.type "set" == .type ·)) = true then (rule "list.extend.makes-room" >>= fun _ => Builtin.List.listTouch (.ref T) >>= fun _ => again (.builtin "list.extend.loop" ⟨[.ref T, .ref it, .ref T], []⟩)) else again (.builtin "list.extend.loop" ⟨[.ref T, .ref it, .ref T], []⟩))) _ _ _
  rw [if_pos hres]
  refine wpAny_bind (wpAny_rule ?_)
  refine wpAny_bind ?_
  show wpAny _ A.in1 (updateSeq T (·.push .none) >>= fun _ => updateSeq T (·.pop)) _ _ _
  have S0 : St0 W (G ++ []) ((T, IsLst []) :: (((env.locals, IsNs loc) :: N) ++ ([(a, IsObj o)] ++ own))) s2 := by
    rw [List.append_nil]
    exact S2.to0.perm (perm_x _ _ _ _ _)
  obtain ⟨n, hl⟩ := S0.isL (.head _)
  refine wpAny_bind (wpAny_updateSeq hl rfl ?_ (by simp) (by simp))
  have S3 := S0.setL (ys := [.none]) hl (·.push Value.none) (by simp)
  obtain ⟨n1, hl1⟩ := S3.isL (.head _)
  refine wpAny_updateSeq hl1 rfl ?_ (by simp [sizeLine_eq]) (by simp)
  have S4 := S3.setL (ys := []) hl1 (·.pop) (by simp)
  have hvz : vs.length ≤ sizeLine := by rw [ht.length, hpm.length_eq, sizeLine_eq]; omega
  refine wpAny_pure ⟨plainId_quiet F.plain_extend_loop _, extend_loop_y vs own [] [] A _ (hA.le (by first | decide | omega)) hy (by simpa using hvz) S4 fun s5 S5 => ?_⟩
  rw [List.nil_append] at S5
  obtain ⟨n5, hl5⟩ := S5.isL (.head _)
  show wpAny _ A (load T >>= _) _ _ s5
  refine wpAny_bind (wpAny_load hl5 ?_)
  refine wpAny_pure (h vs ss' s5 ht hpm ?_)
  have S6 : St0 W G ((env.locals, IsNs loc) :: (a, IsObj o) :: N) s5 := (S5.sub (List.sublist_cons_self _ _)).perm (by
    show List.Perm ((env.locals, IsNs loc) :: (N ++ [(a, IsObj o)])) ((env.locals, IsNs loc) :: (a, IsObj o) :: N)
    exact (List.perm_append_comm (l₁ := N) (l₂ := [_])).cons _)
  exact (St0.toSta S6 S.eok).tell .head fun o _ e => by rw [e]; exact hslo
end
end Mine
end
section
open PySem PySem.W PyProof.Rows PySem.W.X PySem.SeqAt
set_option maxRecDepth 100000
namespace Mine
/-- rows of texts, which comes first -/
noncomputable def ltLs : List Str → List Str → Bool
  | [], [] => false
  | [], _ :: _ => true
  | _ :: _, [] => false
  | x :: xs, y :: ys => if x = y then ltLs xs ys else decide (x.cps.toList < y.cps.toList)
theorem TxtsAre.at' {vs : List Value} {ss : List Str} (h : TxtsAre vs ss) : ∀ (i : Nat) (h : i < ss.length), ∃ t, vs[i]? = some (.str ss[i] t) := by
  induction h with
  | nil => intro k h; cases h
  | cons n t h ih =>
    intro k hk
    cases k with
    | zero => exact ⟨t, rfl⟩
    | succ k =>
      obtain ⟨u, e⟩ := ih k (by simpa using hk)
      exact ⟨u, by simpa using e⟩
theorem eqAt_str {A : Around} {s : Shared} {x y : Str} {t u : Tok} : EqAt A s (.str x t) (.str y u) (decide (x = y)) := by
  have h : EqAt A s (.str x t) (.str y u) _ := EqAt.str_str x t y u
  have e : (x == y) = decide (x = y) := by
    by_cases q : x = y
    · subst q; simp
    · rw [decide_eq_false q]; exact beq_eq_false_iff_ne.mpr q
  first | exact e ▸ h | (rw [← e]; exact h) | simpa using h

open PySem.AutoSeq1 (wpAny_loadPart')
open PySem.MeetsSeq PySem.MeetsSeq2 PySem.MeetsSeq3 PySem.SeqRoads2
theorem rc_lt_str {prog : Program} {w : World} {A : Around} {E : Value → Shared → Prop} {s : Shared} {x y : Str} {t u : Tok} {Q : Value → Shared → Prop} (h : Q (.bool (decide (x.cps.toList < y.cps.toList))) s) : wpAny (model prog w) A (richCompare .Lt (.str x t) (.str y u)) Q E s :=
  PyProof.Rows.lt_str h
theorem lt_loop (l b : Addr) (vs vs2 : List Value) (n n2 : Nat) (ss ss2 : List Str) (h1 : TxtsAre vs ss) (h2 : TxtsAre vs2 ss2) (k : Nat) :
    ∀ i : Nat, ss.length - i = k → i ≤ ss.length → i ≤ ss2.length → Meets (Builtin.«list.__eq__.loop» ⟨[.ref l, .ref b, rawInt i, rawInt 0], []⟩)
      (fun _ R s => s.heap.get? l = some { cls := .type "list", data := .seq vs.toArray n } ∧ s.heap.get? b = some { cls := .type "list", data := .seq vs2.toArray n2 } ∧
        R (.ok (.ret (.bool (ltLs (ss.drop i) (ss2.drop i))))) s) := by
  induction k with
  | zero =>
    intro i hk hi hi2 prog w A R s h
    obtain ⟨hp, g, d, tk, os⟩ := s; obtain ⟨hl, hb, h⟩ := h
    wp_walk using wpAny_loadPart' hl, wpAny_loadPart' hb
    have e1 : vs.toArray[((i : Nat) : Int).toNat]? = none := by
      simp [h1.length]; omega
    rw [e1]
    wp_walk using wpAny_loadPart' hl, wpAny_loadPart' hb
    show R (.ok (.ret (.bool (decide (vs.toArray.size < vs2.toArray.size))))) _
    rw [List.size_toArray, List.size_toArray, h1.length, h2.length]
    have e2 : ss.drop i = [] := List.drop_of_length_le (by omega)
    rw [e2] at h
    have e3 : ltLs [] (ss2.drop i) = decide (ss.length < ss2.length) := by
      by_cases q : i < ss2.length
      · rw [List.drop_eq_getElem_cons q]
        have : ss.length < ss2.length := by omega
        simp [ltLs, this]
      · rw [List.drop_of_length_le (by omega)]
        have : ¬ ss.length < ss2.length := by omega
        simp [ltLs, this]
    rw [← e3]; exact h
  | succ k ih =>
    intro i hk hi hi2 prog w A R s h
    obtain ⟨hp, g, d, tk, os⟩ := s; obtain ⟨hl, hb, h⟩ := h
    have hlt : i < ss.length := by omega
    obtain ⟨t, et⟩ := h1.at' i hlt
    have e1 : vs.toArray[((i : Nat) : Int).toNat]? = some (.str ss[i] t) := by simpa using et
    by_cases hlt2 : i < ss2.length
    · obtain ⟨u, eu⟩ := h2.at' i hlt2
      have e2 : vs2.toArray[((i : Nat) : Int).toNat]? = some (.str ss2[i] u) := by simpa using eu
      wp_walk using wpAny_loadPart' hl, wpAny_loadPart' hb
      rw [e1, e2]
      refine wpAny_bind (eqAt_str prog w _ _ ?_)
      rw [List.drop_eq_getElem_cons hlt, List.drop_eq_getElem_cons hlt2] at h
      have hc : ((i : Int) + 1) = ((i + 1 : Nat) : Int) := by push_cast; rfl
      by_cases q : ss[i] = ss2[i]
      · rw [decide_eq_true q]
        wp_walk
        rw [hc]
        refine ⟨plainId_quiet plain_eq_loop _, codeAny_builtin entry_eq_loop ?_⟩
        rw [Around.under_plainId plain_eq_loop _]
        refine ih (i + 1) (by omega) (by omega) (by omega) prog w A R _ ⟨hl, hb, ?_⟩
        rw [ltLs, if_pos q] at h
        exact h
      · rw [decide_eq_false q]
        wp_walk using wpAny_loadPart' hl, wpAny_loadPart' hb
        rw [e1, e2]
        rw [ltLs, if_neg q] at h
        refine wpAny_bind (rc_lt_str ?_)
        exact wpAny_pure h
    · have e2 : vs2.toArray[((i : Nat) : Int).toNat]? = none := by simp [h2.length]; omega
      wp_walk using wpAny_loadPart' hl, wpAny_loadPart' hb
      rw [e1, e2]
      wp_walk using wpAny_loadPart' hl, wpAny_loadPart' hb
      show R (.ok (.ret (.bool (decide (vs.toArray.size < vs2.toArray.size))))) _
      rw [List.size_toArray, List.size_toArray, h1.length, h2.length]
      rw [List.drop_eq_getElem_cons hlt, List.drop_of_length_le (Nat.le_of_not_lt hlt2)] at h
      have : ¬ ss.length < ss2.length := by omega
      rw [decide_eq_false this]; exact h
theorem list_lt (l b : Addr) (vs vs2 : List Value) (n n2 : Nat) (ss ss2 : List Str) (h1 : TxtsAre vs ss) (h2 : TxtsAre vs2 ss2) :
    Meets (Builtin.«list.__lt__» ⟨[.ref l, .ref b], []⟩)
      (fun _ R s => s.heap.get? l = some { cls := .type "list", data := .seq vs.toArray n } ∧ s.heap.get? b = some { cls := .type "list", data := .seq vs2.toArray n2 } ∧
        R (.ok (.ret (.bool (ltLs ss ss2)))) s) := by
  intro prog w A R s h
  obtain ⟨hp, g, d, tk, os⟩ := s; obtain ⟨hl, hb, h⟩ := h
  have f3 := AutoSeq1.sub_list_list
  wp_walk using wpAny_loadPart' hl, wpAny_loadPart' hb
  refine ⟨plainId_quiet plain_eq_loop _, codeAny_builtin entry_eq_loop ?_⟩
  rw [Around.under_plainId plain_eq_loop _]
  exact lt_loop l b vs vs2 n n2 ss ss2 h1 h2 _ 0 rfl (Nat.zero_le _) (Nat.zero_le _) prog w A R _ ⟨hl, hb, by simpa using h⟩
theorem slot_lt2 : Slot "list" "__lt__" "list.__lt__" := F.slot_list_lt
theorem key_lt {prog : Program} {w : World} {A : Around} {E : Value → Shared → Prop} {s : Shared} {l b : Addr} {vs vs2 : List Value} {n n2 : Nat} {ss ss2 : List Str} {Q : Bool → Shared → Prop} (hu : A.units < cLine) (h1 : TxtsAre vs ss) (h2 : TxtsAre vs2 ss2)
    (hl : s.heap.get? l = some { cls := .type "list", data := .seq vs.toArray n }) (hb : s.heap.get? b = some { cls := .type "list", data := .seq vs2.toArray n2 }) (h : Q (ltLs ss ss2) s) :
    wpAny (model prog w) A (keyLt' oneType' (.ref l) (.ref b)) Q E s := by
  rw [keyLt'_oneType, oneLt'_eq]
  simp only [if_true]
  refine wpAny_bind (wpAny_cRoomFor hu ?_)
  refine wpAny_bind (wpAny_callSpecialIfBound?_slot ⟨_, hl, rfl⟩ slot_lt2 (call_meets slot_lt2 ⟨_, hl, rfl⟩ F.entry_list_lt (F.args_list_lt_2 _ _) (list_lt l b vs vs2 n n2 ss ss2 h1 h2) ⟨hl, hb, ?_⟩))
  exact wpAny_truthy_bool h
end Mine
end
section
open PySem PySem.W PyProof.Rows PySem.W.X PySem.SeqAt
set_option maxRecDepth 100000
namespace Mine
/-- what a sort asks and leaves, whatever the answers -/
noncomputable def KAll (n : Nat) {α : Type} (P : α → Prop) : KasT α → Prop
  | .ret a => P a
  | .ask i j k => i < n ∧ j < n ∧ ∀ b, KAll n P (k b)
theorem KAll.bind {n : Nat} {α β : Type} {P : α → Prop} {P' : β → Prop} {f : α → KasT β} (h : ∀ a, P a → KAll n P' (f a)) : ∀ {t : KasT α}, KAll n P t → KAll n P' (t.bind f)
  | .ret a, x => h a x
  | .ask _ _ _, x => ⟨x.1, x.2.1, fun b => KAll.bind h (x.2.2 b)⟩
theorem KAll.wp {n : Nat} {α : Type} {P : α → Prop} {cmp : Nat → Nat → (Bool → Shared → Prop) → Shared → Prop} {s : Shared} (hc : ∀ i j, i < n → j < n → ∃ b, ∀ C : Bool → Shared → Prop, C b s → cmp i j C s) {Q : α → Shared → Prop} (hQ : ∀ a, P a → Q a s) : ∀ {t : KasT α}, KAll n P t → t.kasWp cmp Q s
  | .ret a, x => hQ a x
  | .ask i j k, x => by
    obtain ⟨b, hb⟩ := hc i j x.1 x.2.1
    exact hb _ (KAll.wp hc hQ (x.2.2 b))
noncomputable def Ok (n : Nat) (p : Array Nat) : Prop := p.toList.Perm (List.range n)
theorem Ok.lt {n : Nat} {p : Array Nat} (h : Ok n p) (hn : 0 < n) (i : Nat) : p.getD i 0 < n := by
  by_cases q : i < p.size
  · have e : p.getD i 0 = p[i] := by simp [Array.getD, q]
    have : p[i] ∈ p.toList := Array.mem_toList_iff.mpr (Array.getElem_mem q)
    have := h.mem_iff.mp this
    rw [e]; simpa using this
  · have e : p.getD i 0 = 0 := by simp [Array.getD, q]
    omega
theorem Ok.rev {n : Nat} {p : Array Nat} (h : Ok n p) (i j : Nat) : Ok n (kas_rev p i j) := (Array.perm_iff_toList_perm.mp (mirror_perm p i j _)).trans h
theorem Ok.bub {n : Nat} {p : Array Nat} (h : Ok n p) (i j : Nat) : Ok n (bubble p i j) := (Array.perm_iff_toList_perm.mp (bubble_perm p i j)).trans h
section
variable {n : Nat} {p : Array Nat}
theorem ka_asc (hn : 0 < n) (h : Ok n p) : ∀ f m, KAll n (fun _ => True) (kas_asc p f m)
  | 0, _ => trivial
  | f + 1, m => ⟨h.lt hn _, h.lt hn _, fun b => by cases b with
    | true => exact trivial
    | false => exact ka_asc hn h f (m + 1)⟩
theorem ka_desc (hn : 0 < n) : ∀ f p m q, Ok n p → KAll n (fun r => Ok n r.1) (kas_desc f p m q)
  | 0, _, _, _, h => h
  | f + 1, p, m, q, h => ⟨h.lt hn _, h.lt hn _, fun b => by
    cases b with
    | true =>
      show KAll n _ (if true = true then _ else _)
      rw [if_pos rfl]
      split
      · exact ka_desc hn f _ _ _ (h.rev _ _)
      · exact ka_desc hn f _ _ _ h
    | false => exact ⟨h.lt hn _, h.lt hn _, fun d => by cases d with
      | true => exact h
      | false => exact ka_desc hn f _ _ _ h⟩⟩
theorem ka_tail3 (hn : 0 < n) (h : Ok n p) (a b : Nat) : KAll n (fun r => Ok n r.2) (kas_tail3 a b p) := by
  refine KAll.bind (P := fun _ => True) (fun m _ => ?_) (ka_asc hn (h.rev _ _) _ _)
  exact h.rev _ _
theorem ka_descPart (hn : 0 < n) (h : Ok n p) (a b : Nat) : KAll n (fun r => Ok n r.2) (kas_descPart a b p) := (ka_desc hn _ _ _ _ h).bind fun r hr => by
  split
  · exact ka_tail3 hn (hr.rev _ _) _ _
  · exact ka_tail3 hn hr _ _
theorem ka_count (hn : 0 < n) (h : Ok n p) (a : Nat) : KAll n (fun r => Ok n r.2) (kas_count a p) := (ka_asc hn h _ _).bind fun m _ => by
  split
  · exact h
  · split
    · exact ⟨h.lt hn _, h.lt hn _, fun c => by cases c with
        | true => exact h
        | false => exact ka_descPart hn (h.rev _ _) _ _⟩
    · exact ka_descPart hn h _ _
theorem ka_place (hn : 0 < n) (h : Ok n p) (k : Nat) : ∀ f l r, KAll n (fun _ => True) (kas_place p k f l r)
  | 0, _, _ => trivial
  | f + 1, l, r => by
    unfold kas_place
    split
    · trivial
    · exact ⟨h.lt hn _, h.lt hn _, fun c => by cases c with
        | true => exact ka_place hn h k f _ _
        | false => exact ka_place hn h k f _ _⟩
theorem ka_bin (hn : 0 < n) : ∀ f p k, Ok n p → KAll n (Ok n) (kas_bin f p k)
  | 0, _, _, h => h
  | f + 1, p, k, h => (ka_place hn h k _ _ _).bind fun l _ => ka_bin hn f _ _ (h.bub _ _)
theorem ka_sort (hn : 0 < n) : KAll n (Ok n) (kas_sort n) := (ka_count hn (p := List.toArray (List.range n)) (List.Perm.refl _) n).bind fun r hr => by
  split
  · exact ka_bin hn _ _ _ hr
  · exact hr
end
end Mine
end
section
open PySem PySem.W PyProof.Rows PySem.W.X PySem.SeqAt
set_option maxRecDepth 100000
set_option linter.unusedVariables false
namespace Mine
noncomputable def kLed (kp : Str → List Str) : List Addr → List Str → Ledger
  | k :: ks, x :: xs => (k, IsTxts (kp x)) :: kLed kp ks xs
  | _, _ => []
theorem kLed_snoc (kp : Str → List Str) (k : Addr) (x : Str) : ∀ (ks : List Addr) (xs : List Str), ks.length = xs.length → kLed kp (ks ++ [k]) (xs ++ [x]) = kLed kp ks xs ++ [(k, IsTxts (kp x))]
  | [], [], _ => rfl
  | [], _ :: _, h => by simp at h
  | _ :: _, [], h => by simp at h
  | _ :: ks, _ :: xs, h => by
    show _ :: kLed kp (ks ++ [k]) (xs ++ [x]) = _
    rw [kLed_snoc kp k x ks xs (by simpa using h)]; rfl
theorem kLed_mem (kp : Str → List Str) : ∀ (ks : List Addr) (xs : List Str) (i : Nat) (h1 : i < ks.length) (h2 : i < xs.length), (ks[i], IsTxts (kp xs[i])) ∈ kLed kp ks xs
  | k :: ks, x :: xs, 0, _, _ => .head _
  | k :: ks, x :: xs, i + 1, h1, h2 => .tail _ (kLed_mem kp ks xs i (by simpa using h1) (by simpa using h2))
section
variable {W : Wd} {G : Gens} {env : Env} {loc loc' : Loc} {nw nw' N : Ledger} {s : Shared} {A : Around} {E : Value → Shared → Prop}
theorem TxtsAre.pick {vs : List Value} {ss : List Str} (h : TxtsAre vs ss) (p : List Nat) (hp : ∀ i ∈ p, i < ss.length) : TxtsAre (p.map fun i => vs.getD i .none) (p.map fun i => ss.getD i Str.empty) :=
  TxtsAre.get h p fun j hj => by rw [h.length]; exact hp j hj
set_option maxHeartbeats 4000000 in
/-- a list of texts sorted by a key that gives rows of texts -/
theorem Sta.sortKey {l f : Addr} {vs : List Value} {ss : List Str} {kp : Str → List Str} {Q : Value → Shared → Prop} (S : Sta W G env loc ((l, IsLst vs) :: N) s) (ht : TxtsAre vs ss) (hu : A.units + 1 < cLine) (h64 : ss.length < 64)
    (hkey : ∀ x t L0 s (Q' : Value → Shared → Prop), x ∈ ss → Sta W G env loc (L0 ++ N) s → (∀ k s', Sta W G env loc ((k, IsTxts (kp x)) :: (L0 ++ N)) s' → Q' (.ref k) s') → wpAny (model W.prog W.w) A.in1 (call (.ref f) [.str x t]) Q' (fun _ _ => False) s)
    (h : ∀ ss' s', ss'.Perm ss → Sta W G env loc ((l, IsTxts ss') :: N) s' → Q .none s') :
    wpAny (model W.prog W.w) A (call (.builtin "list.sort") [.ref l] [(Str.ofString "key", .ref f)]) Q E s := by
  obtain ⟨n, hl⟩ := S.isL (.head _)
  have hlen := ht.length
  refine wpAny_call_entry_kw PyProof.Rows.slot_list_sort ⟨_, hl, rfl⟩ PyProof.Rows.entry_list_sort ?_ (ksk_l1 _ _)
  rw [ksk_t1]
  unfold ksk_tree
  refine wpAny_bind (listItems_at hl rfl ?_)
  refine wpAny_bind (listUpdate_at hl rfl ?_ (by rw [List.size_toArray, sizeLine_eq]; omega) (Nat.zero_le _))
  have S1 := S.setL (ys := []) hl (fun _ => #[]) rfl .head s.toks
  obtain ⟨e1, hl1⟩ := S1.isL (.head _)
  replace S1 := S1.tell (nw' := (l, IsObj (seqObj "list" #[] e1)) :: N) .head fun o ho _ => by rw [hl1] at ho; cases ho; rfl
  refine wpAny_bind (seqEpoch_at hl1 rfl ?_)
  refine wpAny_bind (S1.newTuple (by rw [sizeLine_eq]; show vs.length ≤ _; omega) fun tp s2 S2 => ?_)
  refine wpAny_bind (S2.newList (by simp) fun kS s3 S3 => ?_)
  replace S3 := S3.sub (nw' := (kS, IsLst []) :: (l, IsObj (seqObj "list" #[] e1)) :: N) ((List.sublist_cons_self _ _).cons_cons _)
  refine wpAny_holding ?_
  unfold ksk_rest
  refine wpAny_bind (wpAny_rule ?_)
  rw [← Array.forIn_toList]
  refine wpAny_bind (ksk_fold (I := fun i s' => ∃ ks : List Addr, ks.length = i ∧ Sta W G env loc ((kS, IsLst (ks.map .ref)) :: (l, IsObj (seqObj "list" #[] e1)) :: (kLed kp ks (ss.take i) ++ N)) s') vs 0 s3 ⟨[], rfl, S3⟩ (fun j x s' hx hI => ?_) (fun s' hI => ?_))
  · obtain ⟨ks, hks, S4⟩ := hI
    rw [Nat.zero_add] at hks S4
    have hj : j < ss.length := by
      rw [← hlen]; exact (List.getElem?_eq_some_iff.mp hx).1
    obtain ⟨t, ex⟩ := ht.at' j hj
    rw [hx] at ex
    cases ex
    refine wpAny_bind (wpAny_attempt (wpAny_mono (hkey ss[j] t ((kS, IsLst (ks.map .ref)) :: (l, IsObj (seqObj "list" #[] e1)) :: kLed kp ks (ss.take j)) s' (fun v s'' => ∃ k, v = .ref k ∧ Sta W G env loc ((k, IsTxts (kp ss[j])) :: ((kS, IsLst (ks.map .ref)) :: (l, IsObj (seqObj "list" #[] e1)) :: (kLed kp ks (ss.take j) ++ N))) s'') (List.getElem_mem hj) S4 fun k s'' S5 => ⟨k, rfl, S5⟩) (fun v s'' hv => ?_) fun _ _ hF => hF.elim))
    obtain ⟨k, rfl, S5⟩ := hv
    obtain ⟨n5, hl5⟩ := S5.isL (a := kS) (.tail _ (.head _))
    have hksz : ks.length ≤ 64 := by omega
    refine wpAny_bind (listUpdate_at hl5 rfl ?_ (by rw [List.size_toArray, List.length_map, sizeLine_eq]; omega) (by show ((ks.map Value.ref).toArray.push _).size ≤ _; simp [sizeLine_eq]; omega))
    have S6 := S5.setL (ys := (ks ++ [k]).map Value.ref) hl5 (·.push (.ref k)) (by simp) (.tail .head) s''.toks
    refine wpAny_pure ⟨rfl, ks ++ [k], by simp [hks], S6.perm ?_⟩
    rw [Nat.zero_add, List.take_add_one, List.getElem?_eq_getElem hj]
    show List.Perm ((k, IsTxts (kp ss[j])) :: (kS, _) :: (l, _) :: (kLed kp ks (ss.take j) ++ N)) ((kS, _) :: (l, _) :: (kLed kp (ks ++ [k]) (ss.take j ++ [ss[j]]) ++ N))
    rw [kLed_snoc kp k _ ks (ss.take j) (by rw [hks, List.length_take]; omega), List.append_assoc]
    exact (List.Perm.swap ..).trans (((List.Perm.swap ..).trans (List.perm_middle.symm.cons _)).cons _)
  · obtain ⟨ks, hks, S4⟩ := hI
    rw [Nat.zero_add] at hks
    have etk : ss.take (0 + vs.length) = ss := List.take_of_length_le (by omega)
    rw [etk] at S4
    obtain ⟨n4, hl4⟩ := S4.isL (.head _)
    refine wpAny_bind (listItems_at hl4 rfl ?_)
    unfold ksk_end
    simp only [Bool.false_eq_true, if_false]
    have hz : ((ks.map Value.ref).toArray.zip vs.toArray).size = vs.length := by simp [hks]
    -- what is behind the runs
    have hend : ∀ (st : SortSt) (p : List Nat) (s' : Shared), p.Perm (List.range vs.length) → arrOf st = (p.map (kas_item ((ks.map Value.ref).toArray.zip vs.toArray))).toArray → failedOf st = none →
        Sta W G env loc ((kS, IsLst (ks.map .ref)) :: (l, IsObj (seqObj "list" #[] e1)) :: (kLed kp ks ss ++ N)) s' →
        wpAny (model W.prog W.w) A.in1 (ksk_tail l false e1 (.ref kS) st) (fun fin s'' => ∃ v, fin = .done (.ret v) ∧ Q v s'') E s' := by
      intro st p s' hp harr hf S5
      unfold ksk_tail
      dsimp only
      obtain ⟨n5, hl5⟩ := S5.isL (.head _)
      refine wpAny_bind (listUpdate_at hl5 rfl ?_ (by rw [List.size_toArray, List.length_map, sizeLine_eq]; omega) (Nat.zero_le _))
      have S6 := S5.setL (ys := []) hl5 (fun _ => #[]) rfl .head s'.toks
      refine wpAny_bind (wpAny_letGo ?_)
      obtain ⟨o6, ho6, e6⟩ := S6.get (a := l) (.tail _ (.head _))
      have e6 : o6 = seqObj "list" #[] e1 := e6
      subst e6
      refine wpAny_bind (seqEpoch_at ho6 rfl ?_)
      have hsz : (arrOf st).size = vs.length := by rw [harr]; simp [hp.length_eq]
      refine wpAny_bind (listUpdate_at ho6 rfl ?_ (Nat.zero_le _) (by show ((arrOf st).map _).size ≤ _; rw [Array.size_map, hsz, sizeLine_eq]; omega))
      have hvs : (arrOf st).map (·.2) = (p.map fun i => vs.getD i .none).toArray := by
        rw [harr]
        simp only [List.map_toArray, List.map_map]
        congr 1
        refine List.map_congr_left fun i hi => ?_
        have hi2 : i < vs.length := by have := hp.mem_iff.mp hi; simpa using this
        show (kas_item _ i).2 = _
        unfold kas_item
        have h1 : i < ((ks.map Value.ref).toArray.zip vs.toArray).size := by rw [hz]; exact hi2
        simp [Array.getD, h1, hi2, hks]
      simp only [Bool.false_eq_true, if_false]
      have S7 : Sta W G env loc ((l, IsLst (p.map fun i => vs.getD i .none)) :: N) { s' with heap := (s'.heap.update kS (Obj.mapSeq fun _ => #[])).update l (Obj.mapSeq fun _ => (arrOf st).map (·.2)) } := by
        have S6' := S6.tell (nw' := (kS, IsLst []) :: (l, IsLst []) :: (kLed kp ks ss ++ N)) (.tail .head) fun o ho e => ⟨e1, e⟩
        obtain ⟨n6, hl6⟩ := S6'.isL (a := l) (.tail _ (.head _))
        have S7 := S6'.setL (ys := p.map fun i => vs.getD i .none) hl6 (fun _ => (arrOf st).map (·.2)) hvs (.tail .head) s'.toks
        exact S7.sub (List.Sublist.cons _ ((List.sublist_append_right _ _).cons_cons _))
      rw [hf]
      simp only [bne_self_eq_false, Bool.false_eq_true, if_false]
      have hpl : ∀ i ∈ p, i < ss.length := fun i hi => by have := hp.mem_iff.mp hi; rw [← hlen]; simpa using this
      refine wpAny_pure ⟨_, rfl, h (p.map fun i => ss.getD i Str.empty) _ ?_ (S7.tell .head fun o ho e => ⟨_, ht.pick p hpl, e⟩)⟩
      have q : List.Perm (p.map fun i => ss.getD i Str.empty) ((List.range vs.length).map fun i => ss.getD i Str.empty) := hp.map _
      rw [hlen, getD_range_perm] at q
      exact q
    by_cases h2 : vs.toArray.size < 2
    · rw [if_pos h2, if_pos h2]
      refine wpAny_bind (wpAny_pure ?_)
      rw [StateT.run_pure]
      refine wpAny_bind (wpAny_pure ?_)
      refine hend _ (List.range vs.length) s' (.refl _) ?_ rfl S4
      have e := kas_range ((ks.map Value.ref).toArray.zip vs.toArray)
      rw [hz, List.map_toArray] at e
      exact e.symm
    · rw [if_neg h2, if_neg h2]
      rw [List.size_toArray] at h2
      refine wpAny_bind (kas_kind (T := .type "list") (by rw [List.length_map]; omega) (fun v hv => ?_) (by decide) (by decide) ?_)
      · obtain ⟨k, hk, rfl⟩ := List.mem_map.mp hv
        obtain ⟨i, hi, rfl⟩ := List.getElem_of_mem hk
        have hm : (ks[i], IsTxts (kp (ss[i]'(by omega)))) ∈ (kS, IsLst (ks.map .ref)) :: (l, IsObj (seqObj "list" #[] e1)) :: (kLed kp ks ss ++ N) := .tail _ (.tail _ (List.mem_append_left _ (kLed_mem kp ks ss i hi (by omega))))
        obtain ⟨o, ho, vk, htk, nk, rfl⟩ := S4.get hm
        exact (Looks.ld ho).andThen .now
      have est : SortSt.mk' oneType' ((ks.map Value.ref).toArray.zip vs.toArray) #[] 7 none = kas_st oneType' ((ks.map Value.ref).toArray.zip vs.toArray) (List.toArray (List.range vs.length)) := by
        have e := kas_range ((ks.map Value.ref).toArray.zip vs.toArray)
        rw [hz] at e
        show _ = SortSt.mk' oneType' ((List.toArray (List.range vs.length)).map (kas_item ((ks.map Value.ref).toArray.zip vs.toArray))) #[] 7 none
        rw [e]
      rw [est]
      have ask : (kas_sort vs.length).kasWp (kas_cmp W.prog W.w A.in1 oneType' ((ks.map Value.ref).toArray.zip vs.toArray)) (fun p s'' => Ok vs.length p ∧ s'' = s') s' := by
        refine KAll.wp (n := vs.length) (fun i j hi hj => ?_) (fun p hp => ⟨hp, rfl⟩) (ka_sort (by omega))
        have mem : ∀ i, i < vs.length → ∃ k x vk nk, kas_item ((ks.map Value.ref).toArray.zip vs.toArray) i = (.ref k, vs.getD i .none) ∧ TxtsAre vk (kp x) ∧ s'.heap.get? k = some { cls := .type "list", data := .seq vk.toArray nk } := by
          intro i hi
          have hm : (ks[i], IsTxts (kp (ss[i]'(by omega)))) ∈ (kS, IsLst (ks.map .ref)) :: (l, IsObj (seqObj "list" #[] e1)) :: (kLed kp ks ss ++ N) := .tail _ (.tail _ (List.mem_append_left _ (kLed_mem kp ks ss i (by omega) (by omega))))
          obtain ⟨o, ho, vk, htk, nk, rfl⟩ := S4.get hm
          refine ⟨ks[i], _, vk, nk, ?_, htk, ho⟩
          unfold kas_item
          have h1 : i < ((ks.map Value.ref).toArray.zip vs.toArray).size := by rw [hz]; exact hi
          simp [Array.getD, h1, hi, hks]
        obtain ⟨k1, x1, v1, n1, q1, t1, o1⟩ := mem i hi
        obtain ⟨k2, x2, v2, n2, q2, t2, o2⟩ := mem j hj
        refine ⟨ltLs (kp x1) (kp x2), fun C hC => ?_⟩
        unfold kas_cmp
        rw [q1, q2]
        exact key_lt (by show A.units + 1 < cLine; exact hu) t1 t2 o1 o2 hC
      have run := kas_runs (E := E) (Q := fun _ st' s'' => ∃ p : Array Nat, Ok vs.length p ∧ arrOf st' = p.map (kas_item ((ks.map Value.ref).toArray.zip vs.toArray)) ∧ failedOf st' = none ∧ s'' = s') (by omega) (by omega) (fun p' st' s'' a1 a2 a3 a4 => ⟨p', a4.1, a2, a3, a4.2⟩) ask
      refine wpAny_bind (wpAny_mono run ?_ fun _ _ e => e)
      rintro ⟨⟨⟩, st'⟩ s'' ⟨p, hp, har, hf, rfl⟩
      refine hend st' p.toList s'' hp ?_ hf S4
      rw [har]
      apply Array.ext'
      simp
end
end Mine
end
section
open PySem PySem.W PyProof.Rows PySem.W.X PySem.SeqAt
set_option maxRecDepth 100000
set_option linter.unusedVariables false
namespace Mine
noncomputable def IsMeth (f : Addr) (self : Value) : Cell := fun o => o = methodObj (.ref f) self
theorem txtsAre_values : ∀ l : List (Str × Tok), TxtsAre (strValues l) (l.map (·.1))
  | [] => .nil
  | (x, t) :: r => .cons x t (txtsAre_values r)
section
variable {W : Wd} {G : Gens} {env : Env} {loc loc' : Loc} {nw nw' N : Ledger} {s : Shared} {A : Around} {E : Value → Shared → Prop}
open PySem.Builtin.Str in
/-- x.split(y, k) -/
theorem Sta.splitMax {x y : Str} {k : Int} {t u v : Tok} {Q : Value → Shared → Prop} (S : Sta W G env loc nw s) (hy : (y.length == 0) = false) (hk : (decide (k < -(2 ^ 63 : Int)) || decide (k ≥ 2 ^ 63)) = false) (hsz : x.length ≤ 1000000)
    (h : ∀ a s', Sta W G env loc ((a, IsTxts (Txt.splitMax x y k)) :: nw) s' → Q (.ref a) s') : wpAny (model W.prog W.w) A (call (.builtin "str.split") [.str x t, .str y u, .int k v]) Q E s := by
  have hn : (partsBetween x (occurrences x y 0 x.length (limitOf x k)) y.length).length ≤ sizeLine := by
    have e1 := StrLaws.occ_length_le_len x y 0 x.length (limitOf x k)
    rw [length_partsBetween, sizeLine_eq]; omega
  have h' : ∀ (l : List (Str × Tok)) tk, l.map (·.1) = Txt.splitMax x y k → Q (.ref s.heap.objs.size) { s with heap := s.heap.push { cls := .type "list", data := .seq (strValues l).toArray }, toks := tk } := fun l tk e =>
    h _ _ (S.new (c := IsTxts (Txt.splitMax x y k)) rfl ⟨strValues l, by rw [← e]; exact txtsAre_values l, 0, rfl⟩ tk)
  cases h1 : (decide (x.length < y.length) || decide (strKind x < strKind y))
  · cases hf : (occurrences x y 0 x.length (limitOf x k)).isEmpty
    · refine call_meets F.slot_str_split (typeIs_str _ _ _) F.entry_str_split (F.args_str_split_3 _ _ _) (meets_str_split_sep_max x y k t u v hk h1 hy hf (by rw [sizeLine_eq]; omega) hn) ?_
      show wants Q E _ { s with toks := _, heap := s.heap.push { cls := .type "list", data := .seq (strsFrom s.toks (partsBetween x (occurrences x y 0 x.length (limitOf x k)) y.length)).toArray } }
      rw [strsFrom_eq]
      exact h' (numbered s.toks _) _ ((numbered_texts _ _).trans ((if_neg (ne_true_of_eq_false h1)).trans (if_neg (ne_true_of_eq_false hf))).symm)
    · exact call_meets F.slot_str_split (typeIs_str _ _ _) F.entry_str_split (F.args_str_split_3 _ _ _) (meets_str_split_max_not_found x y k t u v hk h1 hy hf) (h' [(x, t)] s.toks ((if_neg (ne_true_of_eq_false h1)).trans (if_pos hf)).symm)
  · exact call_meets F.slot_str_split (typeIs_str _ _ _) F.entry_str_split (F.args_str_split_3 _ _ _) (meets_str_split_max_cannot_occur x y k t u v hk h1) (h' [(x, t)] s.toks (if_pos h1).symm)
/-- sorted(set, key=f) -/
theorem Sta.sortedSet {a f : Addr} {ss : List Str} {kp : Str → List Str} {Q : Value → Shared → Prop} (S : Sta W G env loc ((a, IsSL W ss) :: N) s) (hA : Aok 12 A) (h64 : ss.length < 64)
    (hkey : ∀ x t L0 s (Q' : Value → Shared → Prop), x ∈ ss → Sta W G env loc (L0 ++ ((a, IsSL W ss) :: N)) s → (∀ k s', Sta W G env loc ((k, IsTxts (kp x)) :: (L0 ++ ((a, IsSL W ss) :: N))) s' → Q' (.ref k) s') → wpAny (model W.prog W.w) A.in1.in1 (call (.ref f) [.str x t]) Q' (fun _ _ => False) s)
    (h : ∀ l ss' s', ss'.Perm ss → Sta W G env loc ((l, IsTxts ss') :: (a, IsSL W ss) :: N) s' → Q (.ref l) s') :
    wpAny (model W.prog W.w) A (call (.builtin "sorted") [.ref a] [(Str.ofString "key", .ref f)]) Q E s := by
  refine call_function_entry_kw kind_sorted plain_sorted entry_sorted (ksk_s1 _ _) ?_
  unfold Builtin.«sorted»
  refine wpAny_bind (m := checkCount "sorted" 1 1 _) (wpAny_pure ?_)
  have hA1 : Aok 11 A.in1 := hA.in1
  refine wpAny_bind (S.collectSet (hA1.le (by omega)) (by omega) fun vs ss' s1 ht hp S1 => ?_)
  refine wpAny_bind (S1.newList (by rw [ht.length, hp.length_eq, sizeLine_eq]; omega) fun l s2 S2 => ?_)
  refine wpAny_bind (wpAny_holding ?_)
  refine S2.sortKey (kp := kp) ht (by have := hA1.units; omega) (by rw [hp.length_eq]; exact h64) (fun x t L0 s3 Q' hx S3 k => hkey x t L0 s3 Q' (hp.mem_iff.mp hx) S3 k) fun ss2 s3 hp2 S3 => ?_
  exact wpAny_pure ⟨_, rfl, h l ss2 s3 (hp2.trans hp) S3⟩
/-- a method of an instance read as a value -/
theorem Sta.getBound {name : Str} {C x d f : Addr} {names : List Str} {vals : Loc} {expr : Bool} {Q : Value → Shared → Prop} (S : Sta W G env loc nw s) (c : Cl W.K C names) (mx : (x, IsInst C d) ∈ nw) (md : (d, IsAttrs vals) ∈ nw) (hk : vals.map Prod.fst = names) (hn : name ∉ names)
    (hf : findIn W.K (.ref C) name = some (some (.ref f))) (ht : typeIn W.K (.ref f) = some (.type "function")) (hg : specialIn W.K (.ref f) "__get__" = some (some (.builtin "function.__get__"))) (htk : takesIn W.K (.ref f) = some false) (hcp : copiedNames.contains name = false)
    (h : ∀ q s', Sta W G env loc ((q, IsMeth f (.ref x)) :: nw) s' → Q (.ref q) s') : wpAny (model W.prog W.w) A (getAttr (.ref x) name expr) Q E s := by
  obtain ⟨od, I, nd, _, es, ep, hd, hsk, hl, _⟩ := S.inst mx md
  have hno : lk vals name = none := by
    unfold lk
    rw [List.lookup_eq_none_iff.mpr]
    · rfl
    · intro p hp
      rw [bne_iff_ne]
      exact fun e => hn (by rw [← hk, e]; exact List.mem_map.mpr ⟨p, hp, rfl⟩)
  refine get_bind S.kin I c.ga (findObj_fn c.dict hf hg htk hcp (by rw [lookIn_of hd hsk ((hl name).trans hno)])) c.gh ?_
  refine wpAny_call (fn_get (s := { s with toks := s.toks + 1 }) S.kin ht (handed_on rfl ?_))
  exact h _ _ (S.new (c := IsMeth f (.ref x)) rfl rfl _)
theorem Sta.callMeth {q f : Addr} {self : Value} {pos : List Value} {kw : List (Str × Value)} {Q : Value → Shared → Prop} (S : Sta W G env loc nw s) (m : (q, IsMeth f self) ∈ nw)
    (h : codeAny (model W.prog W.w) A (.call (.ref f) ⟨self :: pos, kw⟩) (fun r s' => match r with | .ok (.ret v) => Q v s' | .ok _ => False | .error e => E e s') s) : wpAny (model W.prog W.w) A (call (.ref q) pos kw) Q E s := by
  obtain ⟨o, ho, rfl⟩ := S.get m
  exact wpAny_call (method_call ho h)
theorem callM_1 {pos : Pos} {q f : Addr} {self : Value} {e : Expr} {rest : List Expr} {Q : Value → Shared → Prop} (hf : fnIn W.K f = true)
    (h : wpAny (model W.prog W.w) A (spliced (backTo pos (starEach (e :: rest) env))) (fun vs s₁ => MethP W.K q f self s₁.heap ∧ wpAny (model W.prog W.w) A (call (.ref q) vs) Q E s₁) E s)
    (he : starEach (e :: rest) env = (false, eval e env) :: starEach rest env) (hplain : (backTo pos (starEach rest env)).any (·.1) = false) :
    wpAny (model W.prog W.w) A (callWith pos (.ref q) [] (backTo pos (starEach (e :: rest) env)) []) Q E s := by
  rw [he] at h ⊢
  exact callWith_of (P := fun h => MethP W.K q f self h) (first := []) (by show (false || (backTo pos (starEach rest env)).any (·.1) || false) = false; rw [hplain]; rfl) (keeps_M hf) (Calls.evalArgs_plain h)
theorem Sta.methP {q f : Addr} {self : Value} (S : Sta W G env loc nw s) (m : (q, IsMeth f self) ∈ nw) : MethP W.K q f self s.heap := by
  obtain ⟨o, ho, rfl⟩ := S.get m
  exact ⟨ho, S.kin⟩
end
end Mine
end
section
open PySem PySem.W PyProof.Rows PySem.W.X PySem.SeqAt
set_option maxRecDepth 100000
set_option linter.unusedVariables false
namespace Mine
/-- what an f-string does behind one of its parts -/
noncomputable def JP (M : Model) (A : Around) (E : Value → Shared → Prop) (out : Str) (rest : List (Sem Value)) (Q : Value → Shared → Prop) : Value → Shared → Prop := fun v s => ∃ y t, v = .str y t ∧ (out ++ y).length ≤ sizeLine ∧ wpAny M A (joinParts (out ++ y) rest) Q E s
section
variable {M : Model} {A : Around} {E : Value → Shared → Prop} {s : Shared} {env : Env}
theorem JP.mk {out y : Str} {t : Tok} {rest : List (Sem Value)} {Q : Value → Shared → Prop} (hz : (out ++ y).length ≤ sizeLine) (h : wpAny M A (joinParts (out ++ y) rest) Q E s) : JP M A E out rest Q (.str y t) s := ⟨y, t, rfl, hz, h⟩
theorem joinP {out : Str} {v : Expr} {rest : List Expr} {Q : Value → Shared → Prop} (h : wpAny M A (eval v env) (JP M A E out (evalEach rest env) Q) E s) : wpAny M A (joinParts out (evalEach (v :: rest) env)) Q E s := by
  refine joinParts_cons (x := eval v env) (rest := evalEach rest env) (wpAny_mono h (fun v s₁ h₁ => ?_) fun _ _ e => e)
  obtain ⟨y, t, rfl, hz, h₁⟩ := h₁
  exact ⟨hz, h₁⟩
theorem joined {v₁ v₂ : Expr} {rest : List Expr} {pos : Pos} {Q : Value → Shared → Prop} (h : wpAny M A (joinParts Str.empty (evalEach (v₁ :: v₂ :: rest) env)) Q E s) : wpAny M A (eval (.JoinedStr (v₁ :: v₂ :: rest) pos) env) Q E s := h
end
section
variable {W : Wd} {G : Gens} {env : Env} {loc loc' : Loc} {nw nw' N : Ledger} {s : Shared} {A : Around} {E : Value → Shared → Prop}
theorem Sta.joinEnd {M : Model} {out : Str} {Q : Value → Shared → Prop} (S : Sta W G env loc nw s) (hz : out.length ≤ sizeLine) (h : ∀ t s', Sta W G env loc nw s' → Q (.str out t) s') : wpAny M A (joinParts out (evalEach [] env)) Q E s :=
  joinParts_nil (h _ _ (S.toks _)) hz
theorem Sta.fmtS {M : Model} {x : Str} {t : Tok} {Q : Value → Shared → Prop} (S : Sta W G env loc nw s) (hz : x.length ≤ sizeLine) (h : ∀ t' s', Sta W G env loc nw s' → Q (.str x t') s') : wpAny M A (formatField (.str x t) Str.empty) Q E s :=
  formatField_str (fun t' tk => h t' _ (S.toks tk)) hz
/-- dicts -/
theorem Sta.truthyD {d : Addr} {kvs : List (Str × Value)} {Q : Bool → Shared → Prop} (S : Sta W G env loc nw s) (m : (d, IsD W d kvs) ∈ nw) (hz : kvs.length ≤ 1000000) (h : ∀ s', Sta W G env loc nw s' → Q (!kvs.isEmpty) s') : wpAny (model W.prog W.w) A (truthy (.ref d)) Q E s := by
  obtain ⟨hd, hn⟩ := S.dictAt m
  exact wpAny_truthy_dict hn hd (by omega) (h _ (S.toks _))
theorem Sta.getM_D {name : Str} {d : Addr} {kvs : List (Str × Value)} {Q : Value × List Value → Shared → Prop} {id : String} (S : Sta W G env loc nw s) (m : (d, IsD W d kvs) ∈ nw) (slot : Slot "dict" name id) (hty : typeOf (.builtin id) = pure (.type "method_descriptor")) (h : Q (.builtin id, [.ref d]) s) :
    GetM (model W.prog W.w) A E name (.ref d) Q s := by
  obtain ⟨hd, hn⟩ := S.dictAt m
  exact getM_builtin F.plainAttrs_dict slot hty hd.typeIs hd.mapOf.noDict h
theorem Sta.dictGet {d : Addr} {kvs : List (Str × Value)} {x : Str} {t : Tok} {Q : Value → Shared → Prop} (S : Sta W G env loc nw s) (m : (d, IsD W d kvs) ∈ nw) (h : ∀ s', Sta W G env loc nw s' → Q ((valueAt kvs x).getD .none) s') : wpAny (model W.prog W.w) A (call (.builtin "dict.get") [.ref d, .str x t]) Q E s := by
  obtain ⟨hd, hn⟩ := S.dictAt m
  exact call_meetsIn F.slot_dict_get hd.typeIs F.entry_dict_get (F.args_dict_get_2 _ _) (meets_dict_get (PySem.strKind W.prog W.w) d (strKind_is _ _ x t) hn) ⟨_, hd.mapOf, h _ (S.toks _)⟩
theorem Sta.subD {d : Addr} {kvs : List (Str × Value)} {x : Str} {t : Tok} {v : Value} {Q : Value → Shared → Prop} (S : Sta W G env loc nw s) (m : (d, IsD W d kvs) ∈ nw) (hv : valueAt kvs x = some v) (h : ∀ s', Sta W G env loc nw s' → Q v s') : SubscriptOn (model W.prog W.w) A (.ref d) (.str x t) Q E s := by
  obtain ⟨hd, hn⟩ := S.dictAt m
  exact ⟨"dict", _, slot_dict_getitem.lookup, hd.typeIs, wpAny_getItem_of (strKind_is _ _ x t) hd.mapOf hv (h _ (S.toks _))⟩
theorem Sta.inD {d : Addr} {kvs : List (Str × Value)} {x : Str} {t : Tok} {Q : Value → Shared → Prop} (S : Sta W G env loc nw s) (m : (d, IsD W d kvs) ∈ nw) (h : ∀ s', Sta W G env loc nw s' → Q (.bool (valueAt kvs x).isSome) s') : wpAny (model W.prog W.w) A (compareOp .In (.str x t) (.ref d)) Q E s := by
  obtain ⟨hd, hn⟩ := S.dictAt m
  exact wpAny_in_of (strKind_is _ _ x t) hn hd.mapOf (h _ (S.toks _))
theorem Sta.itemsD {d : Addr} {kvs : List (Str × Value)} {Q : Value → Shared → Prop} (S : Sta W G env loc nw s) (m : (d, IsD W d kvs) ∈ nw) (h : ∀ r s', Sta W G env loc ((r, IsView d) :: nw) s' → Q (.ref r) s') : wpAny (model W.prog W.w) A (call (.builtin "dict.items") [.ref d]) Q E s := by
  obtain ⟨hd, hn⟩ := S.dictAt m
  exact call_meetsIn PySem.F.slot_dict_items hd.typeIs PySem.F.entry_dict_items (PySem.F.args_dict_items_1 _) (meets_dict_items (PySem.strKind W.prog W.w) d hn) ⟨⟨kvs, hd⟩, h _ _ (S.new (c := IsView d) rfl rfl s.toks)⟩
theorem list_sort_one {a : Addr} {v : Value} {n : Nat} {P : PySem.Fin → Shared → Prop} {M : Model} (ho : s.heap.get? a = some (seqObj "list" #[v] n)) (h : ∀ h', (∀ b o, b ≠ a → s.heap.get? b = some o → h'.get? b = some o) → (∃ e, h'.get? a = some (seqObj "list" #[v] e)) → P (.done (.ret .none)) { s with heap := h' }) :
    wpAny M A (Builtin.«list.sort» ⟨[.ref a], []⟩) P E s := by
  have s1 := Heap.SameBut.update s.heap a (Obj.mapSeq fun _ => (#[] : Array Value))
  obtain ⟨e1, ho1⟩ : ∃ e1, (s.heap.update a (Obj.mapSeq fun _ => (#[] : Array Value))).get? a = some (seqObj "list" #[] e1) := ⟨_, get?_update_seq ho fun _ => #[]⟩
  rw [list_sort_plain]
  refine wpAny_bind (listItems_at ho rfl ?_)
  refine wpAny_bind (listUpdate_at ho rfl ?_ (by rw [sizeLine_eq]; simp) (Nat.zero_le _))
  refine wpAny_bind (seqEpoch_at ho1 rfl ?_)
  refine wpAny_bind (wpAny_newTuple ?_ (by simp [sizeLine_eq]))
  refine wpAny_bind (wpAny_newList ?_ (Nat.zero_le _))
  refine wpAny_holding ?_
  have h2 : (#[v] : Array Value).size < 2 := by simp
  rw [if_pos h2, if_pos h2]
  refine wpAny_bind (wpAny_pure ?_)
  dsimp only
  rw [StateT.run_pure]
  refine wpAny_bind (wpAny_pure ?_)
  dsimp only
  have ho3 : (((s.heap.update a (Obj.mapSeq fun _ => (#[] : Array Value))).push (seqObj "tuple" (#[v] : Array Value).toList.toArray 0)).push (seqObj "list" #[] 0)).get? a = some (seqObj "list" #[] e1) := Heap.get?_push_of_some _ (Heap.get?_push_of_some _ ho1)
  have hvs : Array.map (fun x : Keyed => x.snd) (arrOf (SortSt.mk' general' (#[v].zip #[v]) #[] 7 none)) = #[v] := by
    show Array.map (fun x : Keyed => x.snd) (#[v].zip #[v]) = #[v]
    simp
  refine wpAny_bind (seqEpoch_at ho3 rfl ?_)
  refine wpAny_bind (listUpdate_at ho3 rfl ?_ (Nat.zero_le _) (by
    show (Array.map (fun x : Keyed => x.snd) (arrOf (SortSt.mk' general' (#[v].zip #[v]) #[] 7 none))).size ≤ _
    rw [hvs, sizeLine_eq]; exact Nat.le_of_ble_eq_true rfl))
  rw [hvs]
  simp only [bne_self_eq_false, Bool.false_eq_true, if_false]
  obtain ⟨c2, hc2⟩ : ∃ c2, ((((s.heap.update a (Obj.mapSeq fun _ => (#[] : Array Value))).push (seqObj "tuple" (#[v] : Array Value).toList.toArray 0)).push (seqObj "list" #[] 0)).update a (Obj.mapSeq fun _ => #[v])).get? a = some (seqObj "list" #[v] c2) := ⟨_, get?_update_seq ho3 fun _ => #[v]⟩
  refine wpAny_pure (h _ (fun b o hb e => ?_) ⟨c2, hc2⟩)
  exact ((Heap.SameBut.update _ a _).2 b hb).trans (Heap.get?_push_of_some _ (Heap.get?_push_of_some _ ((s1.2 b hb).trans e)))
/-- sorted(d.items()) of a dict of one key -/
theorem Sta.sortedItem {r d : Addr} {x : Str} {v : Value} {Q : Value → Shared → Prop} (S : Sta W G env loc nw s) (hh : A.handled = none) (mv : (r, IsView d) ∈ nw) (md : (d, IsD W d [(x, v)]) ∈ nw)
    (h : ∀ l a t s', Sta W G env loc ((l, IsLst [.ref a]) :: (a, IsTpl [.str x t, v]) :: nw) s' → Q (.ref l) s') : wpAny (model W.prog W.w) A (call (.builtin "sorted") [.ref r]) Q E s := by
  obtain ⟨o, ho, rfl⟩ := S.get mv
  obtain ⟨hd, hn⟩ := S.dictAt md
  obtain ⟨ep, hat⟩ := hd.dictAt
  refine Calls.call_function_entry kind_sorted plain_sorted entry_sorted (args_sorted1 _) ?_
  unfold Builtin.«sorted»
  refine wpAny_bind (m := checkCount "sorted" 1 1 _) (wpAny_pure ?_)
  refine wpAny_bind (kdx_collect (A := A.in1) (knd := PySem.strKind W.prog W.w) (kvs := [(x, v)]) (ep := ep) hh ⟨_, ho, rfl, rfl⟩ hat (by simp [sizeLine_eq]) fun h' tk as hk hl hG => ?_)
  obtain ⟨a, rfl⟩ : ∃ a, as = [a] := by
    match as, hl with
    | [a], _ => exact ⟨a, rfl⟩
  obtain ⟨key, k, x', e1, e2, e3⟩ := hG.pairs 0 a rfl
  have e1' : (x, v) = (k, x') := by simpa using e1
  cases e1'
  obtain ⟨t, rfl⟩ : ∃ t, key = .str x t := by
    cases key with
    | str y t => exact ⟨t, by rw [isKey e2]⟩
    | _ => first | cases e2 | exact absurd e2 (by simp [PySem.strKind, Value.isStrOf])
  have hlo := hG.above a (.head _)
  have S1 : Sta W G env loc ((a, IsTpl [.str x t, v]) :: nw) { s with heap := h', toks := tk } := by
    refine ⟨S.ok, S.eok, ?_, S.bare, S.os, S.gens, S.gnd⟩
    refine (S.led.cons_new (c := IsTpl [.str x t, v]) hk (fun q => ?_) ?_ e3 ⟨0, rfl⟩).perm (List.Perm.swap ..)
    · obtain ⟨p, hp, e⟩ := List.mem_map.mp q
      obtain ⟨o2, ho2, _⟩ := (S.led.own p hp).2
      have := Heap.lt_size ho2
      rw [e] at this
      exact absurd hlo (Nat.not_lt.mpr (Nat.le_of_lt this))
    · cases q : W.B.get? a with
      | none => rfl
      | some o2 => exact absurd hlo (Nat.not_lt.mpr (Nat.le_of_lt (Heap.lt_size (S.led.keep _ _ q))))
  refine wpAny_bind (S1.newList (by simp [sizeLine_eq]) fun l s2 S2 => ?_)
  obtain ⟨n2, hl2⟩ := S2.isL (.head _)
  refine wpAny_bind (wpAny_holding (wpAny_call_entry slot_list_sort ⟨_, hl2, rfl⟩ entry_list_sort (list_sort_one (n := n2) hl2 fun h2 hs he => ⟨_, rfl, ?_⟩) (args_list_sort _)))
  obtain ⟨e, he⟩ := he
  exact wpAny_pure ⟨_, rfl, h l a t _ (S2.set (c' := IsLst [.ref a]) .head hs he ⟨e, rfl⟩ s2.toks)⟩
end
end Mine
end
section
open PySem PySem.W PyProof.Rows PySem.W.X PySem.SeqAt
set_option maxRecDepth 100000
set_option linter.unusedVariables false
namespace Mine
theorem compTurn_dict1 (kx vx target iter : Expr) (scope : Scope) (pos : Pos) (it : Value) (D : Addr) (env : Env) :
    compTurn (.DictComp kx vx [⟨target, iter, [], 0⟩] scope pos) 0 it (.ref D) env = (standAt iter.pos >>= fun _ => pyNext it >>= fun r => match r with
      | none => pure (.done .next)
      | some v => letOwnedTupleGo target it v >>= fun _ => assign target env v >>= fun _ =>
        (eval kx env >>= fun kv => holding [kv] (eval vx env) >>= fun vv => standAt { kx.pos with endLine := vx.pos.endLine, endCol := vx.pos.endCol } >>= fun _ => holding [kv, vv] (dictSet D kv vv)) >>= fun _ =>
          again (.compLoop (.DictComp kx vx [⟨target, iter, [], 0⟩] scope pos) 0 it (.ref D) env)) := by rfl
theorem Call_kw {M : Model} {A : Around} {E : Value → Shared → Prop} {s : Shared} {env : Env} {func : Expr} {args : List Expr} {kws : List Keyword} {pos : Pos} {Q : Value → Shared → Prop}
    (h : wpAny M A (eval func env) (fun f s₁ => wpAny M A (callWith pos f [] (backTo pos (starEach args env)) (backToKw pos (keywordEach kws env))) Q E s₁) E s)
    (he : eval (.Call func args kws pos) env = (do callWith pos (← eval func env) [] (backTo pos (starEach args env)) (backToKw pos (keywordEach kws env)))) :
    wpAny M A (eval (.Call func args kws pos) env) Q E s := by
  rw [he]; exact wpAny_bind h
section
variable {W : Wd} {G : Gens} {env : Env} {loc loc' : Loc} {nw nw' N : Ledger} {s : Shared} {A : Around} {E : Value → Shared → Prop}
theorem Sta.neg {a : Int} {t : Tok} {Q : Value → Shared → Prop} (S : Sta W G env loc nw s) (h : ∀ t s', Sta W G env loc nw s' → Q (.int (-a) t) s') : wpAny (model W.prog W.w) A (unaryOp .USub (.int a t)) Q E s :=
  PyProof.Rows.neg_int (h _ _ (S.toks _))
theorem Sta.addS {x y : Str} {t u : Tok} {Q : Value → Shared → Prop} (S : Sta W G env loc nw s) (hz : x.length + y.length ≤ sizeLine) (h : ∀ t s', Sta W G env loc nw s' → Q (.str (x ++ y) t) s') : wpAny (model W.prog W.w) A (binaryOp .Add (.str x t) (.str y u)) Q E s :=
  PyProof.Rows.add_str (fun t' tk => h t' _ (S.toks tk)) hz
theorem Sta.sub_last {l : Addr} {xs : List Value} {t : Tok} {v : Value} {Q : Value → Shared → Prop} (S : Sta W G env loc nw s) (m : (l, IsLst xs) ∈ nw) (hx : xs.getLast? = some v) (h : Q v s) :
    SubscriptOn (model W.prog W.w) A (.ref l) (.int (-1) t) Q E s := by
  have hne : xs ≠ [] := fun e => by subst e; simp at hx
  have hlen : 0 < xs.length := List.length_pos_iff.mpr hne
  refine ⟨"list", _, F.slot_list_getitem.lookup, (S.isList m).typeIs, wpAny_getItem_list_neg (S.isList m) (by omega) (by simp; omega) (by omega) ?_ h⟩
  rw [List.size_toArray]
  have e : ((-1 : Int) + (xs.length : Int)).toNat = xs.length - 1 := by omega
  rw [e, List.getElem?_toArray, ← List.getLast?_eq_getElem?]
  exact hx
theorem Sta.sub_tuple {l : Addr} {xs : List Value} {k : Int} {t : Tok} {j : Nat} {v : Value} {Q : Value → Shared → Prop} (S : Sta W G env loc nw s) (m : (l, IsTpl xs) ∈ nw) (hk : k = (j : Int)) (hj : j < 1000000) (hx : xs[j]? = some v) (h : Q v s) :
    SubscriptOn (model W.prog W.w) A (.ref l) (.int k t) Q E s := by
  subst hk
  have hlt : j < xs.length := (List.getElem?_eq_some_iff.mp hx).1
  refine ⟨"tuple", _, F.slot_tuple_getitem.lookup, (S.isTup m).typeIs, PyProof.Rows.getItem_tuple (j := j) (S.isTup m) (by omega) (by omega) ?_ (by simpa using hx) h⟩
  unfold seqIndex?
  rw [List.size_toArray]
  simp
  omega
/-- a list of texts, walked -/
theorem Sta.iterT {l : Addr} {ss : List Str} {Q : Value → Shared → Prop} (S : Sta W G env loc nw s) {N : Ledger} (P : Pull (l, IsTxts ss) nw N) (h : ∀ it vs s', TxtsAre vs ss → Sta W G env loc ((it, IsLI l 0) :: (l, IsLst vs) :: N) s' → Q (.ref it) s') :
    wpAny (model W.prog W.w) A (pyIter (.ref l)) Q E s := by
  have S1 := S.perm P.perm
  obtain ⟨vs, nw1, ht, U1, U2, S2⟩ := S1.openT (c' := IsTxts ss) .head
  cases U1 with
  | head => exact S2.iterL (.head _) fun it s' S' => h it vs s' ht S'
  | tail U => exact absurd S1.led.nodup (by
      have m := U.mem
      simp only [List.map_cons, List.nodup_cons]
      exact fun q => q.2.1 (List.mem_map.mpr ⟨_, m, rfl⟩))
theorem stored_new {kvs : List (Str × Value)} {x : Str} {v : Value} (h : x ∉ kvs.map (·.1)) : stored kvs x v = kvs ++ [(x, v)] := by
  unfold stored
  rw [if_neg]
  intro q
  obtain ⟨p, hp, e⟩ := List.any_eq_true.mp q
  exact h (List.mem_map.mpr ⟨p, hp, of_decide_eq_true e⟩)
theorem valueAt_mem {kvs : List (Str × Value)} {x : Str} {v : Value} (nd : (kvs.map (·.1)).Nodup) (h : (x, v) ∈ kvs) : valueAt kvs x = some v := by
  unfold valueAt
  induction kvs with
  | nil => cases h
  | cons p r ih =>
    rw [List.map_cons, List.nodup_cons] at nd
    rcases List.mem_cons.mp h with rfl | h
    · simp
    · have hne : ¬ p.1 = x := fun e => nd.1 (List.mem_map.mpr ⟨_, h, e.symm⟩)
      rw [List.find?_cons_of_neg (by simpa using hne)]
      exact ih nd.2 h
theorem valueAt_none {kvs : List (Str × Value)} {x : Str} (h : x ∉ kvs.map (·.1)) : valueAt kvs x = none := by
  unfold valueAt
  rw [List.find?_eq_none.mpr]
  · rfl
  · intro p hp q
    exact h (List.mem_map.mpr ⟨p, hp, of_decide_eq_true q⟩)
end
end Mine
end
section
open PySem PySem.W PyProof.Rows PySem.W.X PySem.SeqAt
set_option maxRecDepth 100000
set_option linter.unusedVariables false
namespace Mine
section
variable {W : Wd} {G : Gens} {env : Env} {loc loc' : Loc} {nw nw' : Ledger} {s : Shared} {A : Around} {E : Value → Shared → Prop}
theorem comp_use {G' : Gens} {cenv : Env} {loc2 locC : Loc} {nw' : Ledger} {s'' : Shared} {y : Str} {py : Pos} {acc : Addr} {Q : Flow → Shared → Prop} (he : EnvOk env (loc.map Prod.fst)) (S' : Sta W G' cenv locC ((env.locals, IsNs loc) :: nw') s'') (hp : Put y (some (.ref acc)) loc loc2)
    (hQ : ∀ s₃, Sta W G' env loc2 nw' s₃ → Q .next s₃) :
    wpAny (model W.prog W.w) A (assign (.Name y py) env (.ref acc)) (fun _ s'' => ∃ m, s''.heap.Ns cenv.locals m ∧ ∀ h', Heap.SameBut cenv.locals s''.heap h' → Q .next { s'' with heap := h' }) E s'' := by
  have S1 : Sta W G' env loc ((cenv.locals, IsNs locC) :: nw') s'' := ⟨S'.ok, he, S'.led.perm (List.Perm.swap ..), S'.bare, S'.os, S'.gens, S'.gnd⟩
  refine wpAny_assign_Name (S1.store hp fun s3 S3 => ?_)
  obtain ⟨o, ho, _, es, ep, hd, hk, hf⟩ := S3.get (.head _)
  refine ⟨_, ⟨o, es, ep, ho, hd, hk, hf⟩, fun h' hs' => hQ _ ⟨S3.ok, S3.eok, ?_, S3.bare, S3.os, S3.gens, S3.gnd⟩⟩
  have := Led.dropBack (nw := [(env.locals, IsNs loc2)]) (a := cenv.locals) (post := nw') (h' := h') S3.led fun b o hb e => (hs'.2 b hb).trans e
  exact this
noncomputable def CompDKA (W : Wd) (A : Around) (env : Env) (e : Expr) (scope : Scope) (cl : List (Str × Addr)) (ks : List Str) (y : Str) (Q : Flow → Shared → Prop) (it : Value) (s : Shared) : Prop :=
  ∃ G loc nw, Sta W G env loc nw s ∧ ∀ acc C s', EnvOk (compEnvC scope cl C env) ks → Sta W G (compEnvC scope cl C env) (ks.map fun k => (k, none)) ((acc, IsD W acc []) :: (env.locals, IsNs loc) :: nw) s' →
    codeAny (model W.prog W.w) A (.compStart e 0 it (.ref acc) (compEnvC scope cl C env)) (fun r s'' => ∃ f loc' loc2 nw' G', r = .ok f ∧ Sta W G' (compEnvC scope cl C env) loc' ((env.locals, IsNs loc) :: nw') s'' ∧ Put y (some (.ref acc)) loc loc2 ∧ ∀ s₃, Sta W G' env loc2 nw' s₃ → Q .next s₃) s'
/-- y = {k: v for ..} -/
theorem assignDictComp {kx vx target iter : Expr} {gens : List Comprehension} {scope : Scope} {pos py spos : Pos} {y : Str} {cl : List (Str × Addr)} {Q : Flow → Shared → Prop} (ks : List Str)
    (hsw : swapsWith (.DictComp kx vx (⟨target, iter, [], 0⟩ :: gens) scope pos) (some (.Name y py)) spos.line env = pure true)
    (hclos : closureFor scope env = pure cl) (hk : kindsComp scope ks = true) (he : env.globals = mainGlobals) (hb : env.builtins = builtinsNs)
    (h : wpAny (model W.prog W.w) A (eval iter env) (fun x s₁ => wpAny (model W.prog W.w) A (pyIter x) (fun it s₂ => CompDKA W A env (.DictComp kx vx (⟨target, iter, [], 0⟩ :: gens) scope pos) scope cl ks y Q it s₂) E s₁) E s)
    (hs : ∀ x, foldedSetIterable iter env x = pure x := by intro _; rfl) :
    wpAny (model W.prog W.w) A (exec (.Assign [.Name y py] (.DictComp kx vx (⟨target, iter, [], 0⟩ :: gens) scope pos) spos) env) Q E s := by
  simp only [kindsComp, Bool.and_eq_true, beq_iff_eq, Bool.not_eq_true', List.all_eq_true, bne_iff_ne, decide_eq_true_eq, Bool.or_eq_true] at hk
  obtain ⟨⟨⟨⟨hkind, hcell⟩, hnames⟩, hks⟩, hnd⟩ := hk
  rw [exec_Assign_Name_used _ _ _ _ hsw]
  refine wpAny_bind (wpAny_standAt (wpAny_bind ?_))
  show wpAny _ A (do let _ ← comprehension (.DictComp kx vx (⟨target, iter, [], 0⟩ :: gens) scope pos) scope env _ newDict false (eval iter env) (some (assign (.Name y py) env))) _ _ s
  refine wpAny_bind (wpAny_mono (wpAny_comprehension_free (use := some (assign (.Name y py) env)) (Q := fun _ s' => Q .next s') (cl := cl) rfl hs hclos hkind (fun x hx hl => (hnames x hx).resolve_left fun q => q hl) (wpAny_mono h (fun xv s₁ h₁ => wpAny_mono h₁ (fun it s₂ h₂ => ?_) fun _ _ e => e) fun _ _ e => e)) (fun _ s' hq => wpAny_pure (wpAny_pure hq)) fun _ _ e => e)
  obtain ⟨G, loc, nw, S, kk⟩ := h₂
  refine S.newDict fun acc s₃ S₃ => ?_
  refine wpAny_newFunctionEnv hcell (by intro y hy; simp at hy) (fun h₁ hns hsb => ?_) hkind
  have hkp : ∀ b o, s₃.heap.get? b = some o → h₁.get? b = some o := fun b o e => hsb.extBut b o (Nat.ne_of_lt (Heap.lt_size e)) (Heap.get?_push_of_some _ e)
  have D : Led W.B ((s₃.heap.objs.size, IsNs (ks.map fun k => (k, none))) :: (env.locals, IsNs loc) :: (acc, IsD W acc []) :: nw) h₁ := by
    obtain ⟨o, es, ep, ho', hd, hsk, hf⟩ := hns
    refine S₃.led.cons_new hkp S₃.led.size_ne S₃.led.size_new ho' ⟨by rw [List.map_map]; simpa [Function.comp_def] using hnd, es, ep, hd, hsk, fun x => ?_⟩
    rw [hf x, lk_none]; rfl
  have ek : (ks.map fun k => ((k, none) : Str × Option Value)).map Prod.fst = ks := by rw [List.map_map]; simp [Function.comp_def]
  have eok : EnvOk (compEnvC scope cl s₃.heap.objs.size env) ks := ⟨hkind, he, hb, fun x hx => lookup_relabel_local (hks x hx).1, fun x hx => (hks x hx).2, hnd⟩
  refine codeAny_mono (kk acc s₃.heap.objs.size { s₃ with heap := h₁, toks := s₃.toks + 0 } eok ⟨S₃.ok, by rw [ek]; exact eok, D.perm (List.Perm.cons _ (List.Perm.swap ..)), S₃.bare, S₃.os, S₃.gens, S₃.gnd⟩) fun r s'' h'' => ?_
  obtain ⟨f, loc', loc2, nw', G', rfl, S', hp, hQ⟩ := h''
  exact comp_use (cenv := compEnvC scope cl s₃.heap.objs.size env) S.eok S' hp hQ
theorem callK_n {K : Sink W} {pos : Pos} {e : Expr} {rest : List Expr} {Q : Value → Shared → Prop}
    (h : wpAny (model W.prog W.w) A (spliced (backTo pos (starEach (e :: rest) env))) (fun vs s₁ => (∃ N st, W.K.In s₁.heap ∧ Led W.B (K.L st ++ N) s₁.heap) ∧ wpAny (model W.prog W.w) A (call (.ref K.q) vs) Q E s₁) E s)
    (he : starEach (e :: rest) env = (false, eval e env) :: starEach rest env) (hplain : (backTo pos (starEach rest env)).any (·.1) = false) :
    wpAny (model W.prog W.w) A (callWith pos (.ref K.q) [] (backTo pos (starEach (e :: rest) env)) []) Q E s := callK_1 h he hplain
theorem Sta.isub {a b : Int} {t u : Tok} {Q : Value → Shared → Prop} (S : Sta W G env loc nw s) (h : ∀ t s', Sta W G env loc nw s' → Q (.int (a - b) t) s') : wpAny (model W.prog W.w) A (inplaceOp .Sub (.int a t) (.int b u)) Q E s :=
  PyProof.Rows.isub_int (h _ _ (S.toks _))
end
end Mine
end
section
open PySem PySem.W PyProof.Rows PySem.W.X PySem.SeqAt
set_option maxRecDepth 100000
set_option linter.unusedVariables false
namespace Mine
noncomputable def setT (T : Str → Bool) : List Str → (Str → Bool)
  | [] => T
  | x :: r => setT (fun k => T k || decide (k = x)) r
noncomputable def setN (T : Str → Bool) (n : Nat) : List Str → Nat
  | [] => n
  | x :: r => setN (fun k => T k || decide (k = x)) (if T x then n else n + 1) r
section
variable {W : Wd} {sh : Ledger} {I : Addr} {E : Value → Shared → Prop}
theorem set_loop_y {S : Addr} {Rr : Result → Shared → Prop} {R : Ledger} {GR : Gens} : ∀ (vs : List Value) (ss : List Str) (T : Str → Bool) (n : Nat) (own : Ledger) (og : Gens) (A : Around) (s : Shared), TxtsAre vs ss → Aok 8 A → Yields W sh I vs own og → n + ss.length + 1 < scanBound →
    St0 W (GR ++ og) (((S, IsSS W T n) :: R) ++ (sh ++ own)) s → (∀ s', St0 W GR (((S, IsSS W (setT T ss) (setN T n ss)) :: R) ++ sh) s' → Rr (.ok (.ret .none)) s') → codeAny (model W.prog W.w) A (.builtin "set.update.loop" ⟨[.ref S, .ref I], []⟩) Rr s := by
  intro vs ss T n own og A s ht
  induction ht generalizing T n own og s with
  | nil =>
    intro hA hy hz St hR
    refine codeAny_builtin PyProof.Rows.F.entry_set_update_loop ?_
    rw [Around.under_plainId PyProof.Rows.F.plain_set_update_loop _]
    show wpAny _ A.in1 (pyNext (.ref I) >>= _) _ _ s
    exact wpAny_bind (hy.2 A.in1 _ GR s _ _ (Aok.in1 hA) St fun s' S' => wpAny_pure (hR s' S'))
  | cons x t ht ih =>
    intro hA hy hz St hR
    refine codeAny_builtin PyProof.Rows.F.entry_set_update_loop ?_
    rw [Around.under_plainId PyProof.Rows.F.plain_set_update_loop _]
    show wpAny _ A.in1 (pyNext (.ref I) >>= _) _ _ s
    refine wpAny_bind (hy.2 A.in1 _ GR s _ _ (Aok.in1 hA) St fun own' og' s' S' hy' => ?_)
    show wpAny _ A.in1 (holding [Value.str x t] (setAdd S (.str x t)) >>= _) _ _ s'
    refine wpAny_bind (wpAny_holding ?_)
    unfold setAdd
    refine wpAny_holding ?_
    refine wpAny_bind ((PySem.strKind W.prog W.w).pyHash (k := x) (strKind_is _ _ _ _) ?_)
    rw [List.length_cons] at hz
    have S'' : St0 W (GR ++ og') ((S, IsSS W T n) :: (R ++ (sh ++ own'))) s' := S'
    obtain ⟨o, ho, hc⟩ := S''.get (.head _)
    refine wpAny_setAddHashed_of (knd := PySem.strKind W.prog W.w) (s := { s' with toks := s'.toks + 1 }) (k := x) (by simp [PySem.strKind, Value.isStrOf]) rfl (hc.setOf ho (by omega)) (by omega) fun h' hsb hS2 => ?_
    obtain ⟨o2, ho2, hc2⟩ := hS2.objOf
    have S3 := S''.set (nw' := (S, IsSS W (fun k => T k || decide (k = x)) (if T x then n else n + 1)) :: (R ++ (sh ++ own'))) .head (fun b o hb e => (hsb.2 b hb).trans e) ho2 hc2 (s'.toks + 1)
    refine wpAny_pure ⟨plainId_quiet PyProof.Rows.F.plain_set_update_loop _, ih _ _ own' og' _ hA hy' (by split <;> omega) S3 hR⟩
end
section
variable {W : Wd} {G : Gens} {env : Env} {loc loc' : Loc} {nw nw' N : Ledger} {s : Shared} {A : Around} {E : Value → Shared → Prop}
set_option maxHeartbeats 6400000 in
/-- set(l) -/
theorem Sta.setOfList {l : Addr} {vs : List Value} {ss : List Str} {Q : Value → Shared → Prop} (S : Sta W G env loc ((l, IsLst vs) :: N) s) (hA : Aok 14 A) (ht : TxtsAre vs ss) (hb : ss.length + 1 < scanBound)
    (h : ∀ a s', Sta W G env loc ((a, IsSS W (setT (fun _ => false) ss) (setN (fun _ => false) 0 ss)) :: (l, IsLst vs) :: N) s' → Q (.ref a) s') :
    wpAny (model W.prog W.w) A (call (.type "set") [.ref l]) Q E s := by
  obtain ⟨c, tl, hmro⟩ := F.called_set.mro
  have hmade := F.called_set.made
  have hsub := F.called_set.sub
  refine wpAny_call (codeAny_of_tree ?_)
  show wpAny _ _ (callAny (.type "set") _) _ _ _
  refine wpAny_pure ⟨Code.quiet_builtin _ (by decide +kernel), codeAny_builtin F.entry_type_call ?_⟩
  rw [Around.under_plain (weight_type_call_type "set" [.ref l] []) rfl]
  have h1 := F.called_set.notType
  have h2 := F.called_set.canCreate
  have hct := PySem.F.typeCall_set_1 (.ref l)
  repeat (any_goals (first | assumption | wp_step))
  refine codeAny_mono (code_set_new_1 (.ref l) (E := E) (Q₁ := fun obj s₁ => ∃ led : Bool, obj = .ref s.heap.objs.size ∧ s₁ = { s with heap := s.heap.push { cls := .type "set", dict := none, data := .set #[] 0 (.fresh 0 0 led) } }) fun led => ⟨led, rfl, rfl⟩) fun r s₁ hr => ?_
  cases r with
  | error e => exact hr
  | ok fl =>
    cases fl with
    | ret obj =>
      obtain ⟨led, rfl, rfl⟩ := hr
      have S1 := S.new (c := IsSS W (fun _ => false) 0) (o := { cls := .type "set", dict := none, data := .set #[] 0 (.fresh 0 0 led) }) rfl (setObjOf_fresh led) s.toks
      have hS : (s.heap.push { cls := .type "set", dict := none, data := .set #[] 0 (.fresh 0 0 led) }).get? s.heap.objs.size = some { cls := .type "set", dict := none, data := .set #[] 0 (.fresh 0 0 led) } := Heap.get?_push_size _ rfl
      have hT : Shared.TypeIs { s with heap := s.heap.push { cls := .type "set", dict := none, data := .set #[] 0 (.fresh 0 0 led) } } (.ref s.heap.objs.size) "set" := ⟨_, hS, rfl⟩
      have hli := F.called_set.init.lookup
      have hbi := F.called_set.init.bind (.ref s.heap.objs.size)
      repeat (any_goals (first | assumption | wp_step))
      refine codeAny_mono (codeAny_call_builtin (R := wants (fun r s₂ => r = .none ∧ Sta W G env loc ((s.heap.objs.size, IsSS W (setT (fun _ => false) ss) (setN (fun _ => false) 0 ss)) :: (l, IsLst vs) :: N) s₂) E) F.called_set.init.plain F.entry_set_init (check_set_init_1 hT ?_)) fun r₂ s₂ hr₂ => ?_
      · obtain ⟨nl, hol'⟩ := S1.isL (a := l) (.tail _ (.head _))
        have hol' : (s.heap.push { cls := .type "set", dict := none, data := .set #[] 0 (.fresh 0 0 led) }).get? l = some { cls := .type "list", dict := none, data := .seq vs.toArray nl, slots := #[] } := hol'
        have hsls := F.sub_list_set
        have hslf := F.sub_list_frozenset
        have hne : (Value.type "list" == Value.type "dict") = false := by decide
        unfold Builtin.«set.__init__» noKeywords Builtin.Frozenset.updateFrom
        generalize hPI : pyIter = PI
        wp_walk
        subst hPI
        refine S1.iterL (.tail _ (.head _)) fun it s3 S3 => ?_
        refine wpAny_bind (wpAny_runValue ?_)
        have Y : LY W [(l, IsLst vs)] it vs [(it, IsLI l 0)] := ly_list (own₀ := []) (by simp) _ 0 rfl
        have S4 : St0 W (G ++ []) (((s.heap.objs.size, IsSS W (fun _ => false) 0) :: ((env.locals, IsNs loc) :: N)) ++ ([(l, IsLst vs)] ++ [(it, IsLI l 0)])) s3 := by
          rw [List.append_nil]
          refine S3.to0.perm ?_
          show List.Perm ((env.locals, IsNs loc) :: (it, IsLI l 0) :: (s.heap.objs.size, IsSS W (fun _ => false) 0) :: (l, IsLst vs) :: N) ((s.heap.objs.size, IsSS W (fun _ => false) 0) :: (env.locals, IsNs loc) :: (N ++ [(l, IsLst vs), (it, IsLI l 0)]))
          classical
          refine List.perm_iff_count.mpr fun x => ?_
          simp only [List.count_append, List.count_cons, List.count_nil]
          omega
        refine set_loop_y (sh := [(l, IsLst vs)]) (I := it) vs ss _ _ [(it, IsLI l 0)] [] _ s3 ht ?hAA Y.yields (by omega) S4 fun s5 S5 => ?_
        case hAA => exact ((hA.le (j := 10) (by omega)).in1 : Aok 9 _).in1
        refine wpAny_pure ?_
        show wpAny _ _ (ret Value.none) _ _ _
        refine wpAny_pure ⟨rfl, ?_⟩
        refine St0.toSta (S5.perm ?_) S.eok
        show List.Perm ((s.heap.objs.size, _) :: (env.locals, IsNs loc) :: (N ++ [(l, IsLst vs)])) ((env.locals, IsNs loc) :: (s.heap.objs.size, _) :: (l, IsLst vs) :: N)
        exact (List.Perm.swap ..).trans ((List.perm_append_comm (l₁ := N) (l₂ := [(l, IsLst vs)])).cons _ |>.cons _)
      · cases r₂ with
        | error e => exact hr₂
        | ok fl₂ =>
          cases fl₂ with
          | ret r =>
            obtain ⟨rfl, S5⟩ := hr₂
            repeat (any_goals (first | assumption | wp_step))
            exact h _ _ S5
          | _ => exact hr₂.elim
    | _ => exact hr.elim
end
end Mine
end
section
open PySem PySem.W PyProof.Rows PySem.W.X PySem.SeqAt
set_option maxRecDepth 100000
set_option linter.unusedVariables false
namespace Mine
noncomputable def IsStrI (ty : String) (x : Str) (t : Tok) (i : Nat) : Cell := fun o => o.cls = .type ty ∧ o.data = .fields #[.str x t, .int i 0]
noncomputable def StrTy (ty : String) : Prop := ty = "str_ascii_iterator" ∨ ty = "str_iterator"
theorem plain_str {ty : String} (h : StrTy ty) {x : Str} {t : Tok} {i : Nat} : ∀ o, IsStrI ty x t i o → plainIt o = true := fun o ho => by
  unfold plainIt; rw [ho.1]; rcases h with rfl | rfl <;> decide
theorem yields_str {W : Wd} {sh : Ledger} {it : Addr} {ty : String} (hty : StrTy ty) {x : Str} {t : Tok} : ∀ (cs : List Nat) (i : Nat), x.cps.toList.drop i = cs → YieldsR W sh it (fun (c : Nat) v => ∃ u, v = .str ⟨#[c]⟩ u) cs [(it, IsStrI ty x t i)] []
  | [], i, e => ⟨⟨IsStrI ty x t i, by simp, plain_str hty⟩, fun A R GR s Q E hA S hQ => by
    have D0 : Led W.B ((R ++ sh) ++ ((it, IsStrI ty x t i) :: [])) s.heap := by rw [List.append_assoc]; exact S.led
    obtain ⟨o, ho, hc, hd⟩ := D0.get (a := it) (c := IsStrI ty x t i) (by simp)
    have hx : x.cps[i]? = none := by
      rw [← Array.getElem?_toList, List.getElem?_eq_none_iff]
      exact List.drop_eq_nil_iff.mp e
    have fin : ∀ h', Heap.ExtBut it s.heap h' → Q none { s with heap := h' } := fun h' hx => hQ _ ⟨S.ok, (D0.dropBack fun b o hb e => hx b o hb e).sub (List.sublist_append_left _ _), S.bare, S.os, fun p hp => S.gens p (by simpa using hp), by simpa using S.gnd⟩
    rcases hty with rfl | rfl
    · exact wpAny_pyNext_ascii_end hA.handled ⟨o, ho, hc, hd⟩ hx fin
    · exact wpAny_pyNext_wide_end hA.handled ⟨o, ho, hc, hd⟩ hx fin⟩
  | c :: cs, i, e => by
    refine ⟨⟨IsStrI ty x t i, by simp, plain_str hty⟩, ?_⟩
    intro A R GR s Q E hA S hQ
    have D0 : Led W.B ((R ++ sh) ++ ((it, IsStrI ty x t i) :: [])) s.heap := by rw [List.append_assoc]; exact S.led
    obtain ⟨o, ho, hc, hd⟩ := D0.get (a := it) (c := IsStrI ty x t i) (by simp)
    have hx : x.cps[i]? = some c := by
      rw [← Array.getElem?_toList]
      have := congrArg List.head? e
      simpa [List.head?_drop] using this
    have e' : x.cps.toList.drop (i + 1) = cs := by
      have := congrArg List.tail e
      simpa [List.tail_drop] using this
    have go : ∀ h', h'.IsStrIter it ty x t (i + 1) → Heap.SameBut it s.heap h' → Q (some (.str ⟨#[c]⟩ s.toks)) { s with heap := h', toks := s.toks + 1 } := fun h' hit hs => by
      obtain ⟨o', ho', hc', hd'⟩ := hit
      have D1 := D0.back (c' := IsStrI ty x t (i + 1)) (fun b o hb e => (hs.2 b hb).trans e) ho' ⟨hc', hd'⟩
      rw [List.append_assoc] at D1
      exact hQ _ _ [] _ ⟨_, rfl⟩ ⟨S.ok, D1, S.bare, S.os, S.gens, S.gnd⟩ (yields_str hty cs (i + 1) e')
    rcases hty with rfl | rfl
    · exact wpAny_pyNext_ascii_item ⟨o, ho, hc, hd⟩ hx go
    · exact wpAny_pyNext_wide_item ⟨o, ho, hc, hd⟩ hx go
theorem self_str {W : Wd} {it : Addr} {ty : String} (hty : StrTy ty) {x : Str} {t : Tok} {i : Nat} : SelfIt W it (IsStrI ty x t i) := fun A s Q E o ho hc h => by
  rcases hty with rfl | rfl
  · exact wpAny_pyIter_striter_ascii ⟨o, ho, hc.1, hc.2⟩ h
  · exact wpAny_pyIter_striter_wide ⟨o, ho, hc.1, hc.2⟩ h
section
variable {W : Wd} {sh : Ledger} {env : Env} {A : Around} {R : Result → Shared → Prop} {it : Addr} {elt target iter c : Expr} {scope : Scope} {pos : Pos} {acc : Value}
end
section
variable {W : Wd} {G : Gens} {env : Env} {loc loc' : Loc} {nw nw' : Ledger} {s : Shared} {A : Around} {E : Value → Shared → Prop}
theorem Sta.iterStr {x : Str} {t : Tok} {Q : Value → Shared → Prop} (S : Sta W G env loc nw s) (h : ∀ it ty s', StrTy ty → Sta W G env loc ((it, IsStrI ty x t 0) :: nw) s' → Q (.ref it) s') : wpAny (model W.prog W.w) A (pyIter (.str x t)) Q E s := by
  cases ha : x.cps.all (· < 128)
  · exact wpAny_pyIter_wide ha (h _ _ _ (.inr rfl) (S.new (c := IsStrI "str_iterator" x t 0) rfl ⟨rfl, rfl⟩ s.toks))
  · exact wpAny_pyIter_ascii ha (h _ _ _ (.inl rfl) (S.new (c := IsStrI "str_ascii_iterator" x t 0) rfl ⟨rfl, rfl⟩ s.toks))
/-- a text repeated -/
noncomputable def repS (x : Str) (n : Nat) : Str := cat (List.replicate n x)
theorem foldl_cat (x : Str) : ∀ (n : Nat) (a : Array Nat), (List.replicate n x.cps).foldl (· ++ ·) a = a ++ (repS x n).cps
  | 0, a => by simp [repS, cat, Str.empty]
  | n + 1, a => by
    rw [List.replicate_succ, List.foldl_cons, foldl_cat x n]
    have : repS x (n + 1) = x ++ repS x n := by simp [repS, List.replicate_succ, cat]
    rw [this, Str.cps_append, Array.append_assoc]
theorem mul_rep (x : Str) (n : Nat) : Txt.mul x (n : Int) = repS x n := by
  unfold Txt.mul
  by_cases h0 : n = 0
  · subst h0; simp [repS, cat]
  · rw [if_neg (by omega)]
    by_cases h1 : n = 1
    · subst h1
      simp [repS, cat, Str.append_empty]
    · by_cases hx : x.length = 0
      · have e : x = Str.empty := Str.ext' (List.length_eq_zero_iff.mp (by rw [← Str.len_list]; exact hx))
        rw [if_pos (by simp [hx])]
        subst e
        have : ∀ n, repS Str.empty n = Str.empty := by
          intro n
          induction n with
          | zero => rfl
          | succ n ih => simp only [repS, List.replicate_succ, cat] at ih ⊢; rw [ih]; exact Str.empty_append _
        rw [this]
      · have hn : ((n : Int) == 1) = false := beq_eq_false_iff_ne.mpr (by omega)
        have hx2 : (x.length == 0) = false := beq_eq_false_iff_ne.mpr hx
        rw [hn, hx2]
        simp only [Bool.or_self, Bool.false_eq_true, if_false, Int.toNat_natCast]
        rw [foldl_cat]
        simp
theorem repS_len (x : Str) (n : Nat) : (repS x n).length = n * x.length := by
  unfold repS
  rw [cat_len]
  simp
theorem Sta.mulS {x : Str} {n : Nat} {t u : Tok} {Q : Value → Shared → Prop} (S : Sta W G env loc nw s) (hx : x.length ≤ 1000) (hn : n ≤ 1000) (h : ∀ t s', Sta W G env loc nw s' → Q (.str (repS x n) t) s') : wpAny (model W.prog W.w) A (binaryOp .Mult (.str x t) (.int (n : Int) u)) Q E s := by
  refine SB.mul ⟨by simp; omega, fun h1 h2 h3 => ?_, fun h1 h2 => ?_⟩ fun t' k => ?_
  · have hn0 : (0 : Int) < n := by omega
    have h4 : (x.length : Int) * n ≤ 1000000 := by
      have : x.length * n ≤ 1000 * 1000 := Nat.mul_le_mul hx hn
      have e : ((x.length * n : Nat) : Int) = (x.length : Int) * (n : Int) := by push_cast; rfl
      omega
    have h5 : (x.length : Int) ≤ (2 ^ 63 - 1) / (n : Int) := Int.le_ediv_of_mul_le hn0 (by omega)
    omega
  · unfold Builtin.Str.tooLong sizeLine
    refine decide_eq_false ?_
    have : x.length * n ≤ 1000 * 1000 := Nat.mul_le_mul hx hn
    rw [Int.toNat_natCast]
    omega
  · rw [mul_rep]; exact h _ _ (S.toks k)
end
end Mine
end
section
open PySem PySem.W PyProof.Rows PySem.W.X PySem.SeqAt
set_option maxRecDepth 100000
set_option linter.unusedVariables false
namespace Mine
theorem merged_new : ∀ (kvs acc : List (Str × Value)), ((acc ++ kvs).map (·.1)).Nodup → merged acc kvs = acc ++ kvs
  | [], acc, _ => by simp [merged]
  | (x, v) :: r, acc, h => by
    have hx : x ∉ acc.map (·.1) := by
      rw [List.map_append, List.nodup_append] at h
      intro m
      exact h.2.2 x m x (by simp) rfl
    have e : merged acc ((x, v) :: r) = merged (stored acc x v) r := by simp [merged]
    rw [e, stored_new hx, merged_new r (acc ++ [(x, v)]) (by simpa using h)]
    simp
section
variable {M : Model} {A : Around} {E : Value → Shared → Prop} {s : Shared} {env : Env} {prog : Program} {w : World}
theorem pairs_nil {pos : Pos} {Q : List (Value × Value) → Shared → Prop} (h : Q [] s) : wpAny (model prog w) A (evalPairs (pairTrees [] [] env pos)) Q E s := evalPairs_nil h
theorem pairs_cons {k v : Expr} {ks : List (Option Expr)} {vs : List Expr} {pos : Pos} {Q : List (Value × Value) → Shared → Prop}
    (h : wpAny (model prog w) A (eval k env) (fun kv s₁ => wpAny (model prog w) A (eval v env) (fun vv s₂ => wpAny (model prog w) A (evalPairs (pairTrees ks vs env pos)) (fun r s₃ => Q ((kv, vv) :: r) s₃) E s₂) E s₁) E s) :
    wpAny (model prog w) A (evalPairs (pairTrees (some k :: ks) (v :: vs) env pos)) Q E s := by
  show wpAny _ _ (evalPairs ((eval k env, do let x ← eval v env; standAt pos; pure x) :: pairTrees ks vs env pos)) _ _ _
  refine evalPairs_cons (wpAny_mono h (fun kv s₁ h₁ => ?_) fun _ _ e => e)
  exact wpAny_bind (wpAny_mono h₁ (fun vv s₂ h₂ => wpAny_bind (wpAny_standAt (wpAny_pure h₂))) fun _ _ e => e)
end
section
variable {W : Wd} {G : Gens} {env : Env} {loc loc' : Loc} {nw nw' : Ledger} {s : Shared} {A : Around} {E : Value → Shared → Prop}
noncomputable def DLit (W : Wd) (env : Env) (Q : Value → Shared → Prop) (d : Addr) (vs : List (Value × Value)) (s : Shared) : Prop :=
  ∃ G loc nw nw' kvs, Sta W G env loc nw s ∧ Carries (PySem.strKind W.prog W.w) vs kvs ∧ (kvs.map (·.1)).Nodup ∧ kvs.length ≤ 100 ∧ Upd d (IsD W d []) (IsD W d kvs) nw nw' ∧ ∀ s', Sta W G env loc nw' s' → Q (.ref d) s'
/-- {..} with keys that are texts -/
theorem Sta.dictLit {keys : List (Option Expr)} {values : List Expr} {pos : Pos} {Q : Value → Shared → Prop} (hall : keys.all (·.isSome) = true) (hl : keys.length = values.length) (h0 : keys ≠ []) (hlen : keys.length ≤ 15) (S : Sta W G env loc nw s)
    (h : ∀ d s', Sta W G env loc ((d, IsD W d []) :: nw) s' → wpAny (model W.prog W.w) A (evalPairs (pairTrees keys values env pos)) (fun vs s₁ => DLit W env Q d vs s₁) E s') :
    wpAny (model W.prog W.w) A (eval (.Dict keys values pos) env) Q E s := by
  refine wpAny_Dict_any hall hl h0 hlen ?_
  refine wpAny_mono (h _ _ (S.new (c := IsD W s.heap.objs.size []) rfl (isD_empty S.size_mods) s.toks)) (fun vs s₁ h₁ => ?_) fun _ _ e => e
  obtain ⟨G', loc', nw1, nw2, kvs, S1, hc, hnd, hk, U, k⟩ := h₁
  obtain ⟨hd, hn⟩ := S1.dictAt U.mem
  refine wpAny_storeAll vs kvs [] s₁ _ hc hd (by rw [sizeLine_eq]; simp; omega) fun h' hm hs => ?_
  rw [merged_new kvs [] (by simpa using hnd)] at hm
  obtain ⟨o, ho, hdo⟩ := Heap.dictOf_iff.mp hm
  exact k _ (S1.set U (fun b o hb e => (hs.2 b hb).trans e) ho ⟨by simpa using hn, by simpa using hdo⟩ _)
theorem DLit.mk {d : Addr} {vs : List (Value × Value)} {Q : Value → Shared → Prop} (kvs : List (Str × Value)) (S : Sta W G env loc nw s) (hc : Carries (PySem.strKind W.prog W.w) vs kvs) (hnd : (kvs.map (·.1)).Nodup) (hk : kvs.length ≤ 100) (U : Upd d (IsD W d []) (IsD W d kvs) nw nw')
    (h : ∀ s', Sta W G env loc nw' s' → Q (.ref d) s') : DLit W env Q d vs s := ⟨_, _, _, _, kvs, S, hc, hnd, hk, U, h⟩
end
end Mine
end
section
open PySem PySem.W PyProof.Rows PySem.W.X PySem.SeqAt
set_option maxRecDepth 100000
set_option linter.unusedVariables false
namespace Mine
/-- a row of constant texts -/
noncomputable def strEs : List Str → List Pos → List Expr
  | x :: xs, p :: ps => .Constant (.str x) 0 p :: strEs xs ps
  | _, _ => []
noncomputable def lstE : Stmt → List Expr
  | .Assign _ (.List es _) _ => es
  | _ => []
noncomputable def cPos : Expr → Pos
  | .Constant _ _ p => p
  | .List _ p => p
  | .Name _ p => p
  | _ => default
noncomputable def asP1 : Stmt → Pos
  | .Assign ts _ _ => cPos (ts.getD 0 (.Name "x" default))
  | _ => default
noncomputable def asP2 : Stmt → Pos
  | .Assign _ v _ => cPos v
  | _ => default
noncomputable def asP3 : Stmt → Pos
  | .Assign _ _ p => p
  | _ => default
section
variable {W : Wd} {G : Gens} {env : Env} {loc loc' : Loc} {nw nw' : Ledger} {s : Shared} {A : Around} {E : Value → Shared → Prop}
theorem Sta.strs {pos : Pos} {xs : List Str} : ∀ {ps : List Pos}, ps.length = xs.length → ∀ {s : Shared} {Q : List Value → Shared → Prop}, Sta W G env loc nw s → (∀ vs s', TxtsAre vs xs → Sta W G env loc nw s' → Q vs s') → wpAny (model W.prog W.w) A (spliced (backTo pos (starEach (strEs xs ps) env))) Q E s := by
  induction xs with
  | nil =>
    intro ps hl s Q S k
    exact args_nil (k [] s .nil S)
  | cons x xs ih =>
    intro ps hl s Q S k
    cases ps with
    | nil => cases hl
    | cons p ps =>
      refine args_cons ?_ rfl
      refine S.str_ fun t s' S' => ?_
      exact ih (Nat.succ.inj hl) S' fun vs s' hv S' => k _ s' (.cons x t hv) S'
theorem Sta.assignStrs {st : Stmt} {y : Str} {xs : List Str} {ps : List Pos} {p1 p2 p3 : Pos} {Q : Flow → Shared → Prop} (S : Sta W G env loc nw s) (h : st = .Assign [.Name y p1] (.List (strEs xs ps) p2) p3) (hl : ps.length = xs.length) (hz : xs.length ≤ sizeLine)
    (k : ∀ a vs s', TxtsAre vs xs → Sta W G env loc ((a, IsLst vs) :: nw) s' → wpAny (model W.prog W.w) A (storeName env y (.ref a)) (fun _ => Q .next) E s') : wpAny (model W.prog W.w) A (exec st env) Q E s := by
  subst h
  refine wpAny_Assign_Name ?_ rfl
  refine List_ ?_
  refine Sta.strs hl S fun vs s' hv S' => ?_
  exact S'.newList (by rw [hv.length]; exact hz) fun a s' S' => k a vs s' hv S'
end
end Mine
end
section
open PySem PySem.W PyProof.Rows PySem.W.X PySem.SeqAt
set_option maxRecDepth 100000
namespace Mine
theorem len_empty : Str.empty.length = 0 := rfl
section
variable {M : Model} {s : Shared} {A : Around} {E : Value → Shared → Prop} {x : Str} {t : Tok} {Q : Value × List Value → Shared → Prop}
theorem getM_sjoin (h : Q (.builtin "str.join", [.str x t]) s) : GetM M A E "join" (.str x t) Q s := getM_str (name := "join") (id := "str.join") F.slot_str_join F.type_str_join h
theorem getM_ssplit (h : Q (.builtin "str.split", [.str x t]) s) : GetM M A E "split" (.str x t) Q s := getM_str (name := "split") (id := "str.split") F.slot_str_split F.type_str_split h
theorem getM_sreplace (h : Q (.builtin "str.replace", [.str x t]) s) : GetM M A E "replace" (.str x t) Q s := getM_str (name := "replace") (id := "str.replace") F.slot_str_replace F.type_str_replace h
end
end Mine
end
section
open PySem PySem.W PyProof.Rows PySem.W.X PySem.SeqAt
set_option maxRecDepth 100000
set_option linter.unusedVariables false
namespace Mine
theorem upd_same {a : Addr} {c : Cell} : ∀ {l : Ledger}, (a, c) ∈ l → Upd a c c l l
  | p :: l, h => by
    by_cases e : p = (a, c)
    · subst e; exact .head
    · rcases List.mem_cons.mp h with h | h
      · exact absurd h.symm e
      · exact .tail (upd_same h)
theorem TxtsAre.unsnoc {vs : List Value} {ss : List Str} {x : Str} (h : TxtsAre vs (ss ++ [x])) : ∃ vs' t, vs = vs' ++ [.str x t] ∧ TxtsAre vs' ss := by
  induction ss generalizing vs with
  | nil => cases h with | cons n t h => cases h; exact ⟨[], t, rfl, .nil⟩
  | cons m r ih =>
    cases h with
    | cons m u h =>
      obtain ⟨vs', t, e, k⟩ := ih h
      exact ⟨.str m u :: vs', t, by rw [e]; rfl, .cons m u k⟩
theorem TxtsAre.at? {vs : List Value} {ss : List Str} (h : TxtsAre vs ss) {j : Nat} {x : Str} (hx : ss[j]? = some x) : ∃ t, vs[j]? = some (.str x t) := by
  obtain ⟨hj, rfl⟩ := List.getElem?_eq_some_iff.mp hx
  exact h.at' j hj
theorem TxtsAre.set {vs : List Value} {ss : List Str} (h : TxtsAre vs ss) : ∀ (j : Nat) (x : Str) (t : Tok), TxtsAre (vs.set j (.str x t)) (ss.set j x) := by
  induction h with
  | nil => intro k n t; exact .nil
  | cons m u h ih =>
    intro k n t
    cases k with
    | zero => exact .cons n t h
    | succ k => exact .cons m u (ih k n t)
section
variable {W : Wd} {G : Gens} {env : Env} {loc loc' : Loc} {nw nw' N : Ledger} {s : Shared} {A : Around} {E : Value → Shared → Prop}
theorem Sta.lenT {a : Addr} {ss : List Str} {Q : Value → Shared → Prop} (S : Sta W G env loc nw s) (m : (a, IsTxts ss) ∈ nw) (hz : ss.length ≤ sizeLine) (h : ∀ t s', Sta W G env loc nw s' → Q (.int ss.length t) s') :
    wpAny (model W.prog W.w) A (call (.builtin "len") [.ref a]) Q E s := by
  obtain ⟨vs, ht, hl⟩ := S.txts m
  have hlen := ht.length
  have q := h (s.toks + 1) _ (S.toks (s.toks + 1 + 1))
  refine len_list hl ?_ ?_
  · rw [sizeLine_eq] at hz; simp [hlen]; omega
  · simpa [hlen] using q
theorem Sta.popT {a : Addr} {ss : List Str} {x : Str} {Q : Value → Shared → Prop} (S : Sta W G env loc nw s) (U : Upd a (IsTxts (ss ++ [x])) (IsTxts ss) nw nw') (hz : ss.length < sizeLine) (h : ∀ t s', Sta W G env loc nw' s' → Q (.str x t) s') :
    wpAny (model W.prog W.w) A (call (.builtin "list.pop") [.ref a]) Q E s := by
  obtain ⟨vs, nw1, ht, U1, U2, S1⟩ := S.openT U
  obtain ⟨vs', t, rfl, ht'⟩ := ht.unsnoc
  obtain ⟨nw2, U3, U4⟩ := U2.via2 (IsLst vs')
  exact S1.pop U3 (by rw [ht'.length]; exact hz) fun s' S2 => h t _ (S2.tell U4 fun o _ ho => ⟨_, ht', ho⟩)
theorem Sta.subT {a : Addr} {ss : List Str} {k : Int} {j : Nat} {t : Tok} {x : Str} {Q : Value → Shared → Prop} (S : Sta W G env loc nw s) (m : (a, IsTxts ss) ∈ nw) (hk : k = (j : Int)) (hj : j < 1000000) (hx : ss[j]? = some x) (h : ∀ t, Q (.str x t) s) :
    SubscriptOn (model W.prog W.w) A (.ref a) (.int k t) Q E s := by
  obtain ⟨vs, nw1, ht, U1, U2, S1⟩ := S.openT (upd_same m)
  obtain ⟨u, hu⟩ := ht.at? hx
  exact S1.sub_list U2.mem (by omega) (by omega) (by rw [hk]; simpa using hu) (h u)
theorem Sta.subT_last {a : Addr} {ss : List Str} {t : Tok} {x : Str} {Q : Value → Shared → Prop} (S : Sta W G env loc nw s) (m : (a, IsTxts (ss ++ [x])) ∈ nw) (h : ∀ t, Q (.str x t) s) :
    SubscriptOn (model W.prog W.w) A (.ref a) (.int (-1) t) Q E s := by
  obtain ⟨vs, nw1, ht, U1, U2, S1⟩ := S.openT (upd_same m)
  obtain ⟨vs', u, rfl, ht'⟩ := ht.unsnoc
  exact S1.sub_last U2.mem (by simp) (h u)
theorem Sta.setItemT {a : Addr} {ss : List Str} {k : Int} {j : Nat} {t u : Tok} {x : Str} {Q : Unit → Shared → Prop} (S : Sta W G env loc nw s) (U : Upd a (IsTxts ss) (IsTxts (ss.set j x)) nw nw') (hk : k = (j : Int)) (hj : j < 1000000) (hl : j < ss.length) (h : ∀ s', Sta W G env loc nw' s' → Q () s') :
    wpAny (model W.prog W.w) A (PySem.setItem (.ref a) (.int k t) (.str x u)) Q E s := by
  obtain ⟨vs, nw1, ht, U1, U2, S1⟩ := S.openT U
  have e : k.toNat = j := by omega
  obtain ⟨nw2, U3, U4⟩ := U2.via2 (IsLst (vs.set k.toNat (.str x u)))
  exact S1.setItem U3 (by omega) (by omega) (by rw [e, ht.length]; exact hl) fun s' S2 => h _ (S2.tell U4 fun o _ ho => ⟨_, by rw [e]; exact ht.set j x u, ho⟩)
theorem sliceK_txts {l : Addr} {ss : List Str} {k : Int} {j : Nat} {t : Tok} {Q : Value → Shared → Prop} (S : Sta W G env loc nw s) (m : (l, IsTxts ss) ∈ nw) (hz : ss.length ≤ sizeLine) (hk : k = (j : Int)) (h : ∀ a s', Sta W G env loc ((a, IsTxts (ss.drop j)) :: nw) s' → Q (.ref a) s') :
    SliceK W env Q (.ref l) (.int k t) .none s := by
  obtain ⟨vs, nw1, ht, U1, U2, S1⟩ := S.openT (upd_same m)
  refine ⟨G, loc, nw1, l, vs, some k, none, S1, rfl, U2.mem, by rw [ht.length]; exact hz, .int _ _, .none, fun a s' S2 => ?_⟩
  rw [hk, slice_from] at S2
  have S3 := S2.tell (.tail U2) fun o _ ho => ⟨_, ht, ho⟩
  exact h a s' (S3.tell .head fun o _ ho => ⟨_, ht.drop j, ho⟩)
end
end Mine
end
section
open PySem PySem.W PyProof.Rows PySem.W.X PySem.SeqAt
set_option maxRecDepth 100000
namespace Mine
/-- one taken out of a row -/
noncomputable def Pl {α : Type} (p : α) (L L' : List α) : Prop := L.Perm (p :: L')
/-- a piece taken out of a row -/
noncomputable def Ps {α : Type} (A L L' : List α) : Prop := L.Perm (A ++ L')
section
variable {α : Type} {p q x : α} {A B C L L' L2 R r r' : List α}
theorem pl_h : Pl p (p :: r) r := List.Perm.refl _
theorem pl_t (h : Pl p r r') : Pl p (q :: r) (q :: r') := (List.Perm.cons q h).trans (List.Perm.swap ..)
theorem pl_a (h : Pl p r r') : Pl p (A ++ r) (A ++ r') := (List.Perm.append_left A h).trans List.perm_middle
theorem pl_c (h : Pl p (x :: (A ++ B)) L') : Pl p ((x :: A) ++ B) L' := h
theorem pl_n (h : Pl p B L') : Pl p ([] ++ B) L' := h
theorem pl_s (h : Pl p (A ++ (B ++ C)) L') : Pl p ((A ++ B) ++ C) L' := by unfold Pl at h ⊢; rw [List.append_assoc]; exact h
theorem ps_h : Ps A (A ++ r) r := List.Perm.refl _
theorem ps_e : Ps A A [] := by unfold Ps; rw [List.append_nil]
theorem ps_t (h : Ps A r r') : Ps A (q :: r) (q :: r') := (List.Perm.cons q h).trans List.perm_middle.symm
theorem ps_a (h : Ps A r r') : Ps A (B ++ r) (B ++ r') := by
  unfold Ps at h ⊢
  refine (List.Perm.append_left B h).trans ?_
  rw [← List.append_assoc, ← List.append_assoc]
  exact List.Perm.append_right r' List.perm_append_comm
theorem ps_c (h : Ps A (x :: (C ++ B)) L') : Ps A ((x :: C) ++ B) L' := h
theorem ps_n (h : Ps A B L') : Ps A ([] ++ B) L' := h
theorem ps_s (h : Ps L (A ++ (B ++ C)) L') : Ps L ((A ++ B) ++ C) L' := by unfold Ps at h ⊢; rw [List.append_assoc]; exact h
theorem pm_p (h : Pl p L L') (k : L'.Perm R) : L.Perm (p :: R) := h.trans (List.Perm.cons p k)
theorem pm_s (h : Ps A L L') (k : L'.Perm R) : L.Perm (A ++ R) := h.trans (List.Perm.append_left A k)
theorem pm_k (k : L.Perm R) : (p :: L).Perm (p :: R) := List.Perm.cons p k
theorem pm_a (k : L.Perm R) : (A ++ L).Perm (A ++ R) := List.Perm.append_left A k
theorem pm_cl (k : (x :: (A ++ B)).Perm R) : ((x :: A) ++ B).Perm R := k
theorem pm_cr (k : L.Perm (x :: (A ++ B))) : L.Perm ((x :: A) ++ B) := k
theorem pm_nl (k : B.Perm R) : ([] ++ B).Perm R := k
theorem pm_nr (k : L.Perm B) : L.Perm ([] ++ B) := k
theorem pm_sl (k : (A ++ (B ++ C)).Perm R) : ((A ++ B) ++ C).Perm R := by rw [List.append_assoc]; exact k
theorem pm_sr (k : L.Perm (A ++ (B ++ C))) : L.Perm ((A ++ B) ++ C) := by rw [List.append_assoc]; exact k
theorem pm_el (k : A.Perm R) : (A ++ []).Perm R := by rw [List.append_nil]; exact k
end
end Mine
end
section
open PySem PySem.W PyProof.Rows PySem.W.X PySem.SeqAt
set_option maxRecDepth 100000
set_option linter.unusedVariables false
namespace Mine
/-- a list of ints -/
noncomputable def IsInts (ns : List Int) : Cell := fun o => ∃ vs, IntsAre vs ns ∧ IsLst vs o
section
variable {W : Wd} {G : Gens} {env : Env} {loc loc' : Loc} {nw nw' N : Ledger} {s : Shared} {A : Around} {E : Value → Shared → Prop}
theorem Sta.openI {a : Addr} {ns : List Int} {c' : Cell} (S : Sta W G env loc nw s) (U : Upd a (IsInts ns) c' nw nw') : ∃ vs nw1, IntsAre vs ns ∧ Upd a (IsInts ns) (IsLst vs) nw nw1 ∧ Upd a (IsLst vs) c' nw1 nw' ∧ Sta W G env loc nw1 s := by
  obtain ⟨o, ho, vs, ht, hc⟩ := S.get U.mem
  obtain ⟨nw1, U1, U2⟩ := U.via2 (IsLst vs)
  exact ⟨vs, nw1, ht, U1, U2, S.tell U1 fun o' ho' _ => by rw [ho] at ho'; cases ho'; exact hc⟩
theorem Sta.itemT {a : Addr} {ss : List Str} {k : Int} {j : Nat} {t : Tok} {x : Str} {Q : Value → Shared → Prop} (S : Sta W G env loc nw s) (m : (a, IsTxts ss) ∈ nw) (hk : k = (j : Int)) (hj : j < 1000000) (hx : ss[j]? = some x) (h : ∀ t, Q (.str x t) s) :
    wpAny (model W.prog W.w) A (getItem (.ref a) (.int k t)) Q E s := by
  obtain ⟨vs, nw1, ht, U1, U2, S1⟩ := S.openT (upd_same m)
  obtain ⟨u, hu⟩ := ht.at? hx
  exact S1.item U2.mem (by omega) (by omega) (by rw [hk]; simpa using hu) (h u)
theorem IntsAre.at? {vs : List Value} {ns : List Int} (h : IntsAre vs ns) {j : Nat} {x : Int} (hx : ns[j]? = some x) : ∃ t, vs[j]? = some (.int x t) := by
  obtain ⟨hj, rfl⟩ := List.getElem?_eq_some_iff.mp hx
  exact Mine.IntsAre.getAt h j hj
theorem Sta.itemI {a : Addr} {ns : List Int} {k : Int} {j : Nat} {t : Tok} {x : Int} {Q : Value → Shared → Prop} (S : Sta W G env loc nw s) (m : (a, IsInts ns) ∈ nw) (hk : k = (j : Int)) (hj : j < 1000000) (hx : ns[j]? = some x) (h : ∀ t, Q (.int x t) s) :
    wpAny (model W.prog W.w) A (getItem (.ref a) (.int k t)) Q E s := by
  obtain ⟨vs, nw1, ht, U1, U2, S1⟩ := S.openI (upd_same m)
  obtain ⟨u, hu⟩ := Mine.IntsAre.at? ht hx
  exact S1.item U2.mem (by omega) (by omega) (by rw [hk]; simpa using hu) (h u)
theorem Sta.subI {a : Addr} {ns : List Int} {k : Int} {j : Nat} {t : Tok} {x : Int} {Q : Value → Shared → Prop} (S : Sta W G env loc nw s) (m : (a, IsInts ns) ∈ nw) (hk : k = (j : Int)) (hj : j < 1000000) (hx : ns[j]? = some x) (h : ∀ t, Q (.int x t) s) :
    SubscriptOn (model W.prog W.w) A (.ref a) (.int k t) Q E s := by
  obtain ⟨vs, nw1, ht, U1, U2, S1⟩ := S.openI (upd_same m)
  obtain ⟨u, hu⟩ := Mine.IntsAre.at? ht hx
  exact S1.sub_list U2.mem (by omega) (by omega) (by rw [hk]; simpa using hu) (h u)
theorem Sta.setItemI {a : Addr} {ns : List Int} {k : Int} {j : Nat} {t u : Tok} {x : Int} {Q : Unit → Shared → Prop} (S : Sta W G env loc nw s) (U : Upd a (IsInts ns) (IsInts (ns.set j x)) nw nw') (hk : k = (j : Int)) (hj : j < 1000000) (hl : j < ns.length) (h : ∀ s', Sta W G env loc nw' s' → Q () s') :
    wpAny (model W.prog W.w) A (PySem.setItem (.ref a) (.int k t) (.int x u)) Q E s := by
  obtain ⟨vs, nw1, ht, U1, U2, S1⟩ := S.openI U
  have e : k.toNat = j := by omega
  obtain ⟨nw2, U3, U4⟩ := U2.via2 (IsLst (vs.set k.toNat (.int x u)))
  exact S1.setItem U3 (by omega) (by omega) (by rw [e, Mine.IntsAre.length' ht]; exact hl) fun s' S2 => h _ (S2.tell U4 fun o _ ho => ⟨_, by rw [e]; exact Mine.IntsAre.setAt ht j x u, ho⟩)
end
end Mine
end
section
open PySem PySem.W PyProof.Rows PySem.W.X PySem.SeqAt
set_option compiler.extract_closed false
set_option maxRecDepth 100000
namespace Mine
theorem Sta.pl {W : Wd} {G : Gens} {env : Env} {loc : Loc} {nw nw' : Ledger} {s : Shared} {p : Addr × Cell} (S : Sta W G env loc nw s) (h : Pl p nw nw') : Sta W G env loc (p :: nw') s := S.perm h
theorem CellsAt.cons' {env : Env} {x : Str} {xs : List Str} : ∀ {cs : List Addr}, CellsAt env (x :: xs) cs → ∃ c r, cs = c :: r ∧ CellOk env .cell x c ∧ CellsAt env xs r := by
  intro cs h
  cases cs with
  | nil => exact h.elim
  | cons c r => exact ⟨c, r, rfl, h.1, h.2⟩
theorem CellsAt.nil' {env : Env} {cs : List Addr} (h : CellsAt env [] cs) : cs = [] := by
  cases cs with
  | nil => rfl
  | cons c r => exact h.elim
theorem CellsAt.one {env : Env} {x : Str} {cs : List Addr} (h : CellsAt env [x] cs) : ∃ c, cs = [c] ∧ CellOk env .cell x c := by
  obtain ⟨c, r, rfl, h1, h2⟩ := h.cons'
  rw [h2.nil']
  exact ⟨c, rfl, h1⟩
theorem CellsAt.two {env : Env} {x y : Str} {cs : List Addr} (h : CellsAt env [x, y] cs) : ∃ c d, cs = [c, d] ∧ CellOk env .cell x c ∧ CellOk env .cell y d := by
  obtain ⟨c, r, rfl, h1, h2⟩ := h.cons'
  obtain ⟨d, rfl, h3⟩ := h2.one
  exact ⟨c, d, rfl, h1, h3⟩
theorem CellsAt.three {env : Env} {x y z : Str} {cs : List Addr} (h : CellsAt env [x, y, z] cs) : ∃ c d e, cs = [c, d, e] ∧ CellOk env .cell x c ∧ CellOk env .cell y d ∧ CellOk env .cell z e := by
  obtain ⟨c, r, rfl, h1, h2⟩ := h.cons'
  obtain ⟨d, e, rfl, h3, h4⟩ := h2.two
  exact ⟨c, d, e, rfl, h1, h3, h4⟩
def notComp : Expr → Bool
  | .DictComp .. => false
  | .ListComp .. => false
  | _ => true
theorem Assign_plain {M : Model} {A : Around} {E : Value → Shared → Prop} {s : Shared} {env : Env} {name : Str} {npos : Pos} {value : Expr} {pos : Pos} {Q : Flow → Shared → Prop} (h : wpAny M A (eval value env) (fun v s₁ => wpAny M A (storeName env name v) (fun _ => Q .next) E s₁) E s)
    (_hv : notComp value = true) (hs : swapsWith value (some (.Name name npos)) pos.line env = pure false) : wpAny M A (exec (.Assign [.Name name npos] value pos) env) Q E s := wpAny_Assign_Name h hs
/-- how a hole of a walk's rule is closed -/
def closeBy (w : String) : Lean.MacroM (Lean.TSyntax `tactic) := match w with
  | "kr" => `(tactic| kernel_rfl)
  | "rfl" => `(tactic| rfl)
  | "simp" => `(tactic| simp)
  | "deck" => `(tactic| decide +kernel)
  | "dec" => `(tactic| decide)
  | "asm" => `(tactic| with_reducible assumption)
  | "le" => `(tactic| exact Nat.le_of_ble_eq_true rfl)
  | "ik" => `(tactic| (rw [$(Lean.mkIdent `I.k):ident]; kernel_rfl))
  | "ml" => `(tactic| (rw [$(Lean.mkIdent `map_len):ident, $(Lean.mkIdent `sizeLine_eq):ident]; decide))
  | "ia" => `(tactic| (clear $(Lean.mkIdent `S'); intro $(Lean.mkIdent `a') $(Lean.mkIdent `as') $(Lean.mkIdent `s') $(Lean.mkIdent `hl') $(Lean.mkIdent `S')))
  | "hnd" => `(tactic| first | exact $(Lean.mkIdent `hA'.handled) | exact $(Lean.mkIdent `hA.handled))
  | w => `(tactic| walk_at $(Lean.Syntax.mkStrLit w):str)
def nameOf (w : String) : Lean.Ident := Lean.mkIdent ((w.splitOn ".").foldl Lean.Name.mkStr Lean.Name.anonymous)
/-- a rule of a walk as one row: its name; its arguments: S the state, _ what goes on, /x a hole closed by x, or a name; behind the bar what comes after; @name: apply -/
def argOf (w : String) (p : Array (Lean.TSyntax `term) × Array (Lean.TSyntax `tactic)) : Lean.MacroM (Array (Lean.TSyntax `term) × Array (Lean.TSyntax `tactic)) :=
  if w == "_" then do return (p.1.push (← `(?_)), p.2)
  else if w == "~" then do return (p.1.push (← `(_)), p.2)
  else if w == "S" then return (p.1.push (nameOf "S'"), p.2)
  else if w.startsWith "/" then do
    let n := nameOf ("hh" ++ toString p.2.size)
    let t ← closeBy (String.ofList (w.toList.drop 1))
    return (p.1.push (← `(?$n:ident)), p.2.push (← `(tactic| case $n:ident => $t:tactic)))
  else return (p.1.push (nameOf w), p.2)
def altOf (r : String) : Lean.MacroM (Lean.TSyntax `tactic) := if r.startsWith "@" then do `(tactic| with_reducible apply $(nameOf (String.ofList (r.toList.drop 1)))) else do
  let rs := r.splitOn " | "
  let ws := (rs.headD "").splitOn " "
  let p ← (ws.drop 1).foldlM (fun p w => argOf w p) (#[], #[])
  let hd := ws.headD ""
  let f : Lean.TSyntax `term ← if hd.endsWith "!" then `($(nameOf (String.ofList (hd.toList.dropLast))) (K := $(Lean.mkIdent `K))) else pure (nameOf hd)
  let t : Lean.TSyntax `term := if p.1.isEmpty then f else Lean.Syntax.mkApp f p.1
  let hd ← if p.2.isEmpty then `(tactic| with_reducible refine $t) else `(tactic| with_reducible refine' $t)
  let ps ← (rs.drop 1).mapM closeBy
  let all := #[hd] ++ p.2 ++ ps.toArray
  `(tactic| ($[$all:tactic];*))
def altsOf (rs : String) : Lean.MacroM (Array (Lean.TSyntax `tactic)) := ((rs.splitOn "; ").toArray).mapM altOf
def namesOf (rs : String) : Lean.MacroM (Array (Lean.TSyntax `tactic)) := ((rs.splitOn " ").toArray).mapM fun n => `(tactic| exact $(nameOf n))
/-- one step of a search, and on: fin ends it, one of rs goes on -/
def stepOf (w fin rs : String) : Lean.MacroM (Lean.TSyntax `tactic) := do
  let fs ← altsOf fin
  let ts ← altsOf rs
  let all := fs.push (← `(tactic| ((first $[| $ts:tactic]*); walk_at $(Lean.Syntax.mkStrLit w):str)))
  `(tactic| first $[| $all:tactic]*)
/-- a method of a writer looked up: its name, the address of its def -/
def methOf (n : String) (f : Nat) : Lean.MacroM (Lean.TSyntax `tactic) := do
  let p ← ["S", "/asm", "/mem", "/mem", "VV.keys", "/deck", "/ik", "/ik", "_"].foldlM (fun p w => argOf w p) (#[], #[])
  `(tactic| ((with_reducible refine' $(Lean.Syntax.mkApp (← `($(nameOf "Sta.getM_inst") (name := $(Lean.quote n)) (f := $(Lean.quote f)))) p.1)); $[$(p.2):tactic];*))
end Mine
end
section
open PySem PySem.W PyProof.Rows PySem.W.X PySem.SeqAt
set_option maxRecDepth 100000
set_option linter.unusedVariables false
namespace Mine
/-- the two ways to spell: of texts (false) and of values (true) -/
noncomputable def fL (b : Bool) : Nat → List Nat := if b then fA else fC
noncomputable def sgs (b : Bool) : List Nat := if b then [38, 60, 34, 9, 10, 13] else [38, 60, 62, 13]
noncomputable def ampL : List Nat := [97, 109, 112, 59]
noncomputable def nmOf (c : Nat) : List Nat := if c = 38 then ampL else if c = 60 then [108, 116, 59] else if c = 62 then [103, 116, 59] else if c = 34 then [113, 117, 111, 116, 59] else if c = 9 then [35, 120, 57, 59] else if c = 10 then [35, 120, 65, 59] else [35, 120, 68, 59]
theorem fL_in {b : Bool} {c : Nat} (h : c ∈ sgs b) : fL b c = 38 :: nmOf c := by
  cases b
  · simp [sgs] at h
    rcases h with rfl | rfl | rfl | rfl <;> rfl
  · simp [sgs] at h
    rcases h with rfl | rfl | rfl | rfl | rfl | rfl <;> rfl
theorem fL_out {b : Bool} {c : Nat} (h : c ∉ sgs b) : fL b c = [c] := by
  cases b
  · simp [sgs] at h
    simp [fL, fC, h]
  · simp [sgs] at h
    simp [fL, fA, h]
theorem nm_plain (b : Bool) (c : Nat) : (nmOf c).flatMap (fL b) = nmOf c := by
  unfold nmOf ampL
  repeat' split
  all_goals cases b <;> rfl
theorem amp_plain (b : Bool) : ampL.flatMap (fL b) = ampL := by cases b <;> rfl
noncomputable def amps (n : Nat) : List Nat := (List.replicate n ampL).flatten
theorem amps_succ (n : Nat) : amps (n + 1) = ampL ++ amps n := by simp [amps, List.replicate_succ]
theorem amps_plain (b : Bool) : ∀ n, (amps n).flatMap (fL b) = amps n
  | 0 => rfl
  | n + 1 => by rw [amps_succ, List.flatMap_append, amp_plain, amps_plain b n]
theorem fL_false : fL false = fC := rfl
end Mine
end
section
open PySem PySem.W PyProof.Rows PySem.W.X PySem.SeqAt
set_option maxRecDepth 100000
set_option linter.unusedVariables false
namespace Mine
/-- one of the row: a text, its own layer, the document's number -/
structure Rc where
  x : Str
  o : List Bool
  n : Nat
noncomputable def fl0 (held : List Str) : List Str := if (cat held).length = 0 then [] else [escC (cat held)]
theorem cat_fl0 (held : List Str) : cat (fl0 held) = escC (cat held) := by
  unfold fl0
  split
  · rename_i h
    have : cat held = Str.empty := Str.ext' (List.length_eq_zero_iff.mp (by rw [← Str.len_list]; exact h))
    rw [this]; rfl
  · exact Str.append_empty _
theorem escC_append (a b : Str) : escC (a ++ b) = escC a ++ escC b := mapS_append _ _ _
end Mine
namespace Mine
end Mine
end
section
open PySem PySem.W PyProof.Rows PySem.W.X PySem.SeqAt
set_option maxRecDepth 100000
namespace Mine
local macro_rules | `(tactic| walk_at "perm0") => `(tactic| (classical (refine List.perm_iff_count.mpr (fun xx => ?_)); (simp only [List.count_append, List.count_cons, List.count_nil, Nat.add_zero, Nat.zero_add, List.cons_append, List.nil_append, List.append_assoc, List.append_nil]); first | done | omega | ac_rfl))
local macro_rules | `(tactic| walk_at "pl") => stepOf "pl" "pl_h" "@pl_c; @pl_n; @pl_s; @pl_t; @pl_a"
local macro_rules | `(tactic| walk_at "ps") => stepOf "ps" "ps_h; ps_e" "@ps_c; @ps_n; @ps_s; @ps_t; @ps_a"
local macro_rules | `(tactic| walk_at "pm") => stepOf "pm" "List.Perm.refl ~" "pm_cr _; pm_nr _; pm_sr _; pm_er _; pm_cl _; pm_nl _; pm_sl _; pm_el _; pm_k _; pm_a _; pm_p /pl _; pm_s /ps _"
local macro_rules | `(tactic| walk_at "perm") => `(tactic| first | walk_at "pm" | walk_at "perm0")
local macro_rules | `(tactic| walk_at "mem") => `(tactic| first | with_reducible exact List.mem_cons_self | ((with_reducible refine List.mem_cons_of_mem _ ?_); walk_at "mem") | ((fail_if_success (with_reducible refine List.mem_cons_of_mem _ ?_)); with_reducible assumption))
local macro_rules | `(tactic| walk_at "put") => stepOf "put" "Put.head" "@Put.tail"
local macro_rules | `(tactic| walk_at "upd") => stepOf "upd" "Upd.head" "@Upd.tail"
local macro_rules | `(tactic| walk_at "pull") => stepOf "pull" "Pull.head" "@Pull.tail"
local macro_rules | `(tactic| walk_at "mid") => stepOf "mid" "Mid.head" "@Mid.tail; @Mid.app"
local macro_rules | `(tactic| walk_at "fld") => do
  let ts ← namesOf "m_write m_data m_with_comments m_strip_text m_exclude_attrs m_exclude_tags m_rewrite_prefixes m_qname_aware_tags m_find_qname_aware_attrs m_declared_ns_stack m_ns_stack m_prefix_map m_preserve_space m_pending_start m_root_seen m_root_done m_ignored_depth"
  `(tactic| with_reducible (first $[| $ts:tactic]*))
local macro_rules | `(tactic| walk_at "pfld") => do
  let ts ← namesOf "p_write p_data p_with_comments p_strip_text p_exclude_attrs p_exclude_tags p_rewrite_prefixes p_qname_aware_tags p_find_qname_aware_attrs p_declared_ns_stack p_ns_stack p_prefix_map p_preserve_space p_pending_start p_root_seen p_root_done p_ignored_depth"
  `(tactic| with_reducible (first $[| $ts:tactic]*))
local macro_rules | `(tactic| walk_at "len") => `(tactic| first | with_reducible assumption | (simp only [Str.length_append, len_empty, sizeLine_eq]; omega))
local macro_rules | `(tactic| walk_at "sz") => `(tactic| first | with_reducible assumption | decide | (simp [sizeLine_eq]; done))
set_option hygiene false in
local macro_rules | `(tactic| walk_at "ns") => `(tactic| (clear S'; intro s' S'))
set_option hygiene false in
local macro_rules | `(tactic| walk_at "nt") => `(tactic| (clear S'; intro t' s' S'))
set_option hygiene false in
local macro_rules | `(tactic| walk_at "na") => `(tactic| (clear S'; intro a' s' S'))
set_option hygiene false in
local macro_rules | `(tactic| walk_at "cw") => do
  let a ← altsOf "ite_t _; ite_nf _; ite_nt _; ite_f _; wpAny_execs_nil _; wpAny_execs_cons _; wpAny_Return_some _; wpAny_Return_none _; wpAny_If _; wpAny_Constant_none _; wpAny_Constant_bool _; IfExp_ _; isTrue_not _; isTrue_and _; isTrue_and_nil _; isTrue_or _; isTrue_or_nil _; wpAny_truthy_bool _; truthy_none _; wpAny_BinOp _; PyProof.Rows.eq_int _; PyProof.Rows.gt_int _; PyProof.Rows.lt_int _; evalPart_some_step _; evalPart_none_step _; callWith_bi0 _; args_nil _; List_ _; Tuple_ _; joined _; joinP _; FormattedValue_plain _; wpAny_AugAssign_AttributeAny _; wpAny_AugAssign_Name _; UnaryOp_ _; callWith_type0 _; isNot_nn _; isNot_rn _; isNot_sn _; is_nn _; is_sn _; PyProof.Rows.truthy_int _; Call_m _ /kr /kr /kr; wpAny_isTrue_Compare1 _ /kr; isTrue_plain _ /kr; wpAny_Compare1 _ /kr; Attribute_ _ /kr; Call_ _ /kr; Assign_attr _ /kr; args_cons _ /kr; Sta.int_ S _ | nt; Sta.str_ S _ | nt; Sta.add S _ | nt; Sta.sub_ S _ | nt; Sta.iadd S _ | nt; Sta.isub S _ | nt; Sta.neg S _ | nt; Sta.local_ S /mem _; Sta.local' S /mem _; Sta.getM_list S /mem F.slot_list_append F.type_list_append _; Sta.getM_list S /mem F.slot_list_pop F.type_list_pop _; Sta.getM_list S /mem F.slot_list_insert F.type_list_insert _; Sta.cell S /asm /mem _; Sta.store S /put _ | ns; wpAny_Expr_any _ /kr /kr; PyProof.Rows.callWith_builtin1 _ /kr /kr; PyProof.Rows.callWith_type1 _ /kr /kr; callWith_m1 _ /kr /kr; Assign_plain _ /rfl /kr"
  let b ← altsOf "Sta.newList S /sz _ | na; Sta.newTuple S /sz _ | na; Sta.dict0 S _ | na; Sta.newSet S _ | na; JP.mk /len _; Sta.joinEnd S /len _ | nt; Sta.fmtS S /len _ | nt; Sta.addS S /len _ | nt; Sta.append S /upd /sz _ | ns; Sta.appendT S /upd /sz _ | ns; Sta.setAdd S /upd /sz _ | ns; Sta.truthyD S /mem /sz _ | ns; Sta.truthyL S /mem /sz _ | ns; Sta.truthyT S /mem /sz _ | ns; Sta.notInSet S /mem /sz _ | ns; Sta.getM_txts S /mem F.slot_list_append F.type_list_append _; Sta.getM_add S /mem /sz _; execs_at /rfl _; execs_end /le _; Sta.getF S /asm /mem /mem VV.keys /fld /rfl _ | ns; Sta.setattr S /asm /mem /upd VV.keys /pfld /dec _ | ns; Sta.getM_val S /asm /mem /mem VV.keys /fld /rfl _ | ns; callK_1! _ /kr /kr; callK_n! _ /kr /kr"
  let all := a ++ b
  `(tactic| first $[| $all:tactic]*)
local macro_rules | `(tactic| walk_at "ev") => `(tactic| walk_at "cw")
section
open PySem PySem.W PyProof.Rows PySem.W.X PySem.SeqAt
set_option maxRecDepth 100000
section
variable {W : Wd} {G : Gens} {env : Env} {loc loc' : Loc} {nw nw' : Ledger} {s : Shared} {A : Around} {E : Value → Shared → Prop}
set_option maxHeartbeats 4000000 in
theorem esc_if {x y z : Str} {t : Tok} {c : Nat} {k1 k2 k3 : Nat} {p1 p2 p3 p4 p5 p6 p7 p8 p9 p10 p11 : Pos} {Q : Flow → Shared → Prop} (S' : Sta W G env [("text", some (.str x t))] nw s) (hy : y = ⟨#[c]⟩) (hyz : (y == z) = false) (hx : x.length ≤ 6 * txtLine) (hz : z.length ≤ 6) (hl : (p6.endLine == p9.line) = true)
    (k : ∀ t' s', Sta W G env [("text", some (.str (mapS (r1 c z.cps.toList) x) t'))] nw s' → Q .next s') :
    wpAny (model W.prog W.w) A (exec (.If (.Compare (.Constant (.str y) k1 p1) [.In] [.Name "text" p2] p3) [.Assign [.Name "text" p4] (.Call (.Attribute (.Name "text" p5) "replace" p6) [.Constant (.str y) k2 p7, .Constant (.str z) k3 p8] [] p9) p10] [] p11) env) Q E s := by
  refine wpAny_If ?_
  refine wpAny_isTrue_Compare1 ?_ rfl
  refine S'.strT ?_
  clear S'; intro s' S' hk
  refine Sta.local_ S' (by walk_at "mem") ?_
  refine Sta.inStr hy (fun hc => ?_) (fun hc => ?_)
  · refine wpAny_truthy_bool ?_
    refine ite_t ?_
    refine wpAny_execs_cons ?_
    refine wpAny_Assign_Name ?_ rfl
    refine Call_m ?_ rfl rfl hl
    refine Sta.local_ S' (by walk_at "mem") ?_
    refine getM_sreplace ?_
    refine callWith_m1 ?_ rfl rfl
    refine args_cons ?_ rfl
    refine S'.strT ?_
    clear S'; intro s2 S' hk2
    refine args_cons ?_ rfl
    refine S'.strT ?_
    clear S'; intro s3 S' hk3
    refine args_nil ?_
    refine S'.replace_ hy ?_ ?_ ?_ hyz hx hz ?_
    · show s'.toks ≠ 0; omega
    · show s2.toks ≠ 0; omega
    · show s'.toks ≠ s2.toks; omega
    clear S'; intro t' s4 S'
    refine S'.store .head ?_
    intro s5 S5
    exact wpAny_execs_nil (k _ _ S5)
  · refine wpAny_truthy_bool ?_
    refine ite_f ?_
    refine wpAny_execs_nil (k t _ ?_)
    rw [mapS_free hc]; exact S'
set_option maxHeartbeats 4000000 in
theorem escC_ {x : Str} {t : Tok} {Q : Value → Shared → Prop} (I : IsC W) (S : Sta W G env loc nw s) (hA : Aok 2 A) (hx : x.length ≤ txtLine)
    (k : ∀ t' s', Sta W G env loc nw s' → Q (.str (escC x) t') s') : wpAny (model W.prog W.w) A (call (.ref 161) [.str x t]) Q E s := by
  refine S.call_fn (binds := [("text", .str x t)]) [] I.f_escC hA.room (fun _ _ _ _ _ => BindsTo.of_eq (by kernel_rfl)) (by kernel_rfl) ?_
  intro L s' S'
  simp only [mkLoc, List.map_cons, List.map_nil, List.cons_append, List.nil_append] at S'
  refine wpAny_execs_cons ?_
  refine wpAny_Try_except ?_
  refine wpAny_execs_cons ?_
  refine esc_if (c := 38) S' (by kernel_rfl) (by decide +kernel) (by omega) (by decide +kernel) (by kernel_rfl) ?_
  clear S'; intro t1 s' S'
  refine wpAny_execs_cons ?_
  refine esc_if (c := 60) S' (by kernel_rfl) (by decide +kernel) ?_ (by decide +kernel) (by kernel_rfl) ?_
  · exact Nat.le_trans (mapS_len _ 6 gC1_len x) (Nat.mul_le_mul_left _ hx)
  clear S'; intro t1 s' S'
  rw [mapS_mapS] at S'
  refine wpAny_execs_cons ?_
  refine esc_if (c := 62) S' (by kernel_rfl) (by decide +kernel) ?_ (by decide +kernel) (by kernel_rfl) ?_
  · exact Nat.le_trans (mapS_len _ 6 gC2_len x) (Nat.mul_le_mul_left _ hx)
  clear S'; intro t1 s' S'
  rw [mapS_mapS] at S'
  refine wpAny_execs_cons ?_
  refine esc_if (c := 13) S' (by kernel_rfl) (by decide +kernel) ?_ (by decide +kernel) (by kernel_rfl) ?_
  · exact Nat.le_trans (mapS_len _ 6 gC3_len x) (Nat.mul_le_mul_left _ hx)
  clear S'; intro t1 s' S'
  rw [mapS_mapS] at S'
  repeat walk_at "ev"
  have e : mapS (fun c => gC4 c) x = escC x := by
    have : (fun c => gC4 c) = fC := funext gC4_eq
    rw [this]; rfl
  have S2 := Sta.back S' S.eok
  have q := k t1 _ S2
  rw [← e] at q
  exact q
set_option maxHeartbeats 4000000 in
theorem escA_ {x : Str} {t : Tok} {Q : Value → Shared → Prop} (I : IsC W) (S : Sta W G env loc nw s) (hA : Aok 2 A) (hx : x.length ≤ txtLine)
    (k : ∀ t' s', Sta W G env loc nw s' → Q (.str (escA x) t') s') : wpAny (model W.prog W.w) A (call (.ref 168) [.str x t]) Q E s := by
  refine S.call_fn (binds := [("text", .str x t)]) [] I.f_escA hA.room (fun _ _ _ _ _ => BindsTo.of_eq (by kernel_rfl)) (by kernel_rfl) ?_
  intro L s' S'
  simp only [mkLoc, List.map_cons, List.map_nil, List.cons_append, List.nil_append] at S'
  refine wpAny_execs_cons ?_
  refine wpAny_Try_except ?_
  refine wpAny_execs_cons ?_
  refine esc_if (c := 38) S' (by kernel_rfl) (by decide +kernel) (by omega) (by decide +kernel) (by kernel_rfl) ?_
  clear S'; intro t1 s' S'
  refine wpAny_execs_cons ?_
  refine esc_if (c := 60) S' (by kernel_rfl) (by decide +kernel) ?_ (by decide +kernel) (by kernel_rfl) ?_
  · exact Nat.le_trans (mapS_len _ 6 gC1_len x) (Nat.mul_le_mul_left _ hx)
  clear S'; intro t1 s' S'
  rw [mapS_mapS] at S'
  refine wpAny_execs_cons ?_
  refine esc_if (c := 34) S' (by kernel_rfl) (by decide +kernel) ?_ (by decide +kernel) (by kernel_rfl) ?_
  · exact Nat.le_trans (mapS_len _ 6 gC2_len x) (Nat.mul_le_mul_left _ hx)
  clear S'; intro t1 s' S'
  rw [mapS_mapS] at S'
  refine wpAny_execs_cons ?_
  refine esc_if (c := 9) S' (by kernel_rfl) (by decide +kernel) ?_ (by decide +kernel) (by kernel_rfl) ?_
  · exact Nat.le_trans (mapS_len _ 6 gA3_len x) (Nat.mul_le_mul_left _ hx)
  clear S'; intro t1 s' S'
  rw [mapS_mapS] at S'
  refine wpAny_execs_cons ?_
  refine esc_if (c := 10) S' (by kernel_rfl) (by decide +kernel) ?_ (by decide +kernel) (by kernel_rfl) ?_
  · exact Nat.le_trans (mapS_len _ 6 gA4_len x) (Nat.mul_le_mul_left _ hx)
  clear S'; intro t1 s' S'
  rw [mapS_mapS] at S'
  refine wpAny_execs_cons ?_
  refine esc_if (c := 13) S' (by kernel_rfl) (by decide +kernel) ?_ (by decide +kernel) (by kernel_rfl) ?_
  · exact Nat.le_trans (mapS_len _ 6 gA5_len x) (Nat.mul_le_mul_left _ hx)
  clear S'; intro t1 s' S'
  rw [mapS_mapS] at S'
  repeat walk_at "ev"
  have e : mapS (fun c => gA6 c) x = escA x := by
    have : (fun c => gA6 c) = fA := funext gA6_eq
    rw [this]; rfl
  have S2 := Sta.back S' S.eok
  have q := k t1 _ S2
  rw [← e] at q
  exact q
end
end
section
open PySem PySem.W PyProof.Rows PySem.W.X PySem.SeqAt
set_option maxRecDepth 100000
section
variable {W : Wd} {G : Gens} {env : Env} {loc loc' : Loc} {nw nw' : Ledger} {s : Shared} {A : Around} {E : Value → Shared → Prop}
theorem perm_end {α : Type} {R sh : List α} {p : α} : List.Perm (p :: (R ++ sh)) (R ++ (sh ++ [p])) := by
  rw [← List.append_assoc]
  exact (List.perm_append_comm (l₁ := [p]) (l₂ := R ++ sh))
theorem mapref_rev (lv : List (Addr × List Value)) : (lv.reverse.map fun p => Value.ref p.1) = ((lv.map fun p => Value.ref p.1).take (lv.map fun p => Value.ref p.1).length).reverse := by
  rw [List.take_length, List.map_reverse]
noncomputable abbrev itLoc (x st : Addr) (rv : Value) : Loc := mkLoc [("self", .ref x), ("ns_stack", .ref st), ("_reversed", rv)] ["namespaces"]
noncomputable abbrev itEnv (L : Addr) : Env := envOf "C14NWriterTarget._iter_namespaces" (fnScope st_iter) L 75 (.ref 74)
/-- the walk of _iter_namespaces, given what its reverser gives -/
theorem good_ {L x st : Addr} {rv : Value} {sh : Ledger} (he : EnvOk (itEnv L) ["self", "ns_stack", "_reversed", "namespaces"]) (ls : List (Addr × List Value)) (hls : ∀ p ∈ ls, (p.1, IsLst p.2) ∈ sh ∧ p.2.length ≤ sizeLine)
    (hrev : ∀ A R GR s, Aok 4 A → Sta W GR (itEnv L) (itLoc x st rv) (R ++ sh) s → ∀ Q E, (∀ rit own s', Sta W GR (itEnv L) (itLoc x st rv) (R ++ (sh ++ own)) s' → LY W sh rit (ls.map fun p => .ref p.1) own → Q (.ref rit) s') →
      ∀ p2 p3 p4, wpAny (model W.prog W.w) A (eval (.Call (.Name "_reversed" p2) [.Name "ns_stack" p3] [] p4) (itEnv L)) (fun x s₁ => wpAny (model W.prog W.w) A (pyIter x) Q E s₁) E s) :
    GoodGen W sh (ls.flatMap (·.2)) (.fresh (.func (fnBody st_iter) (itEnv L))) [(L, IsNs (itLoc x st rv))] := by
  refine iter_good (nm := "namespaces") (rv := "_reversed") (sk := "ns_stack") (ks := ["self", "ns_stack", "_reversed", "namespaces"]) (by kernel_rfl) (by decide +kernel) (itLoc x st rv) rfl he ls hls ?_
  intro A R GR s hA S Q E h
  exact hrev A R GR s hA S Q E h _ _ _
/-- the reverser that stands by itself -/
theorem rev_ {L x st : Addr} {sh : Ledger} {lv : List (Addr × List Value)} (hst : (st, IsLst (lv.map fun p => .ref p.1)) ∈ sh) :
    ∀ A R GR s, Aok 4 A → Sta W GR (itEnv L) (itLoc x st (.type "reversed")) (R ++ sh) s → ∀ Q E, (∀ rit own s', Sta W GR (itEnv L) (itLoc x st (.type "reversed")) (R ++ (sh ++ own)) s' → LY W sh rit (lv.reverse.map fun p => .ref p.1) own → Q (.ref rit) s') →
      ∀ p2 p3 p4, wpAny (model W.prog W.w) A (eval (.Call (.Name "_reversed" p2) [.Name "ns_stack" p3] [] p4) (itEnv L)) (fun x s₁ => wpAny (model W.prog W.w) A (pyIter x) Q E s₁) E s := by
  intro A R GR s hA S' Q E h p2 p3 p4
  have hm : (st, IsLst (lv.map fun p => .ref p.1)) ∈ R ++ sh := List.mem_append_right _ hst
  simp only [itLoc, mkLoc, List.map_cons, List.map_nil, List.cons_append, List.nil_append] at S'
  repeat walk_at "ev"
  refine Sta.reversed S' hm ?_
  clear S'; intro it s' S'
  refine Sta.iterRev S' (by walk_at "mem") ?_
  refine h it [(it, IsRI st (((lv.map fun p => Value.ref p.1).length : Int) - 1))] _ (S'.perm perm_end) ?_
  rw [mapref_rev]
  exact ly_rev hst _ (Nat.le_refl _)
/-- the same, what it reads laid apart -/
theorem genS_ {x st : Addr} {lv : List (Addr × List Value)} {N sh : Ledger} {Q : Value → Shared → Prop} (I : IsC W) (S : Sta W G env loc (N ++ sh) s) (hA : Aok 1 A) (hst : (st, IsLst (lv.map fun p => .ref p.1)) ∈ sh) (hlv : ∀ p ∈ lv, (p.1, IsLst p.2) ∈ sh ∧ p.2.length ≤ sizeLine)
    (h : ∀ a g own gs s', Sta W (G ++ [(g, gs)]) env loc (N ++ (sh ++ (own ++ [(a, IsGenO g)]))) s' → Yields W sh a (lv.reverse.flatMap (·.2)) (own ++ [(a, IsGenO g)]) [(g, gs)] → Q (.ref a) s') :
    wpAny (model W.prog W.w) A (call (.ref 75) [.ref x, .ref st]) Q E s := by
  refine S.call_gen (binds := [("self", .ref x), ("ns_stack", .ref st), ("_reversed", .type "reversed")]) ["namespaces"] I.f_iter hA.room ?_ (by kernel_rfl) ?_
  · intro name doc pm ct an
    exact kp_binds S.kin fun S => by rw [I.k]; kernel_rfl
  intro a g L s' he S'
  have H := good_ (W := W) (x := x) (st := st) (rv := .type "reversed") (sh := sh) he lv.reverse (fun p hp => hlv p (List.mem_reverse.mp hp)) (rev_ hst)
  refine h a g [(L, IsNs (itLoc x st (.type "reversed")))] _ s' (S'.perm ?_) (yields_gen H)
  show List.Perm ((a, IsGenO g) :: (L, IsNs _) :: (N ++ sh)) (N ++ (sh ++ [(L, IsNs _), (a, IsGenO g)]))
  rw [← List.append_assoc]
  exact (List.Perm.swap ..).trans (List.perm_append_comm (l₁ := [_, _]) (l₂ := N ++ sh))
theorem Sta.iterGen {a : Addr} {g : Nat} {Q : Value → Shared → Prop} (S : Sta W G env loc nw s) (m : (a, IsGenO g) ∈ nw) (h : Q (.ref a) s) : wpAny (model W.prog W.w) A (pyIter (.ref a)) Q E s := by
  obtain ⟨o, ho, nm, qn, rfl⟩ := S.get m
  exact wpAny_pyIter_gen ⟨_, nm, qn, ho, rfl, rfl, rfl⟩ h
end
end
section
open PySem PySem.W PyProof.Rows PySem.W.X PySem.SeqAt
set_option maxRecDepth 100000
noncomputable def IsLen (n : Nat) : Cell := fun o => ∃ xs, xs.length = n ∧ IsLst xs o
structure Wr where
  x : Addr
  dx : Addr
  d : Addr
  dns : Addr
  ns : Addr
  pm : Addr
  ps : Addr
  a0 : Addr
  tp : Addr
  tu : Tok
  tx : Tok
structure Ws where
  held : List Str
  es : List Addr
  rs : Bool
  rd : Bool
  ig : Nat
  ti : Tok
  dp : Nat
noncomputable abbrev xmlNs : Str := "http://www.w3.org/XML/1998/namespace"
noncomputable abbrev selfV (w : Wr) (et : Value) (q : Addr) (st : Ws) : Loc := VV (.ref q) (.ref w.d) (.bool true) (.bool false) .none et (.bool false) .none .none (.ref w.dns) (.ref w.ns) (.ref w.pm) (.ref w.ps) .none (.bool st.rs) (.bool st.rd) (.int (st.ig : Int) st.ti)
noncomputable def esLed (es : List Addr) : Ledger := es.map fun a => (a, IsLst [])
noncomputable abbrev wrLed (w : Wr) (et : Value) (q : Addr) (st : Ws) (N : Ledger) : Ledger :=
  (w.x, IsInst 150 w.dx) :: (w.dx, IsAttrs (selfV w et q st)) :: (w.d, IsTxts st.held) :: (w.dns, IsLst (.ref w.a0 :: st.es.map .ref)) :: (w.ns, IsLen (st.dp + 2)) :: (w.ps, IsLst (List.replicate (st.dp + 1) (.bool false))) ::
    (w.a0, IsLst [.ref w.tp]) :: (w.tp, IsTpl [.str xmlNs w.tu, .str "xml" w.tx]) :: (esLed st.es ++ N)
noncomputable def Ws.data (st : Ws) (x : Str) : Ws := if st.ig = 0 then { st with held := st.held ++ [x] } else st
section
variable {W : Wd} {G : Gens} {env : Env} {loc loc' : Loc} {nw nw' : Ledger} {s : Shared} {A : Around} {E : Value → Shared → Prop} {w : Wr} {et : Value} {q : Addr} {st : Ws} {N : Ledger}
set_option maxHeartbeats 4000000 in
theorem data_ {x : Str} {t : Tok} {R : Result → Shared → Prop} (I : IsC W) (S : Sta W G env loc (wrLed w et q st N) s) (hA : Aok 2 A) (hz : st.held.length ≤ sizeLine)
    (k : ∀ s', Sta W G env loc (wrLed w et q (st.data x) N) s' → R (.ok (.ret .none)) s') : codeAny (model W.prog W.w) A (.call (.ref 97) ⟨[.ref w.x, .str x t], []⟩) R s := by
  refine S.code_fn (binds := [("self", .ref w.x), ("data", .str x t)]) [] I.f_data hA.room (fun _ _ _ _ _ => BindsTo.of_eq (by kernel_rfl)) (by kernel_rfl) ?_
  intro L s' S'
  simp only [mkLoc, List.map_cons, List.map_nil, List.cons_append, List.nil_append] at S'
  have hcl := I.cl
  refine execs_go ?_
  repeat walk_at "cw"
  by_cases hi : st.ig = 0
  · have e0 : ((st.ig : Int) != 0) = false := by rw [hi]; rfl
    rw [e0]
    repeat walk_at "cw"
    have S2 := Sta.back S' S.eok
    have q := k s'
    unfold Ws.data at q
    rw [if_pos hi] at q
    exact q S2
  · have e0 : ((st.ig : Int) != 0) = true := bne_iff_ne.mpr (by omega)
    rw [e0]
    repeat walk_at "cw"
    have S2 := Sta.back S' S.eok
    have q := k s'
    unfold Ws.data at q
    rw [if_neg hi] at q
    exact q S2
noncomputable def flushed (held : List Str) : List Str := if (cat held).length = 0 then [] else [escC (cat held)]
theorem jb_at (I : IsC W) : ∃ t0, W.K.lookup 98 = some { cls := .type "builtin_function_or_method", data := .fields #[.builtin "str.join", .str "" t0] } := by
  rw [I.k]
  exact ⟨437, by kernel_rfl⟩
set_option maxHeartbeats 4000000 in
theorem flush_ {K : Sink W} {σ : K.σ} {Q : Value → Shared → Prop} (I : IsC W) (S : Sta W G env loc (wrLed w et K.q st (K.L σ ++ N)) s) (hA : Aok 5 A) (hrs : st.rs = true) (hz : st.held.length ≤ sizeLine) (hc : (cat st.held).length ≤ txtLine) (hr : K.room σ 1)
    (k : ∀ s', Sta W G env loc (wrLed w et K.q { st with held := [] } (K.L (K.pushes σ (flushed st.held)) ++ N)) s' → Q .none s') : wpAny (model W.prog W.w) A (call (.ref 106) [.ref w.x]) Q E s := by
  obtain ⟨t0, hj⟩ := jb_at I
  have hz2 : (cat st.held).length ≤ 16777216 := by unfold txtLine at hc; omega
  refine S.call_fn (binds := [("self", .ref w.x), ("_join_text", .ref 98)]) ["data", "args", "qname_text"] I.f_flush hA.room ?_ (by kernel_rfl) ?_
  · intro name doc pm ct an
    exact kp_binds S.kin fun S => by rw [I.k]; kernel_rfl
  intro L s' S'
  have hA' := hA.deeper (env := envOf "C14NWriterTarget._flush" (fnScope st_flush) L 106 (.ref 105))
  simp only [mkLoc, List.map_cons, List.map_nil, List.cons_append, List.nil_append] at S'
  have hcl := I.cl
  refine execs_go ?_
  repeat walk_at "cw"
  refine callB_1 hj ?_ (by kernel_rfl) (by kernel_rfl)
  repeat walk_at "cw"
  refine ⟨S'.kin, ?_⟩
  refine Sta.joinB S' hj (by walk_at "mem") (by kernel_rfl) hz2 ?_
  clear S'; intro t1 s' S'
  repeat walk_at "cw"
  refine wpAny_Delete (wpAny_deleteEach_cons (delete_all ?_))
  repeat walk_at "cw"
  refine ⟨_, _, _, _, _, _, S', rfl, by walk_at "upd", hz, ?_⟩
  clear S'; intro s' S'
  refine wpAny_deleteEach_nil ?_
  repeat walk_at "cw"
  refine truthy_s S' hz2 (fun e s' S' => ?_) (fun e s' S' => ?_)
  · repeat walk_at "cw"
    have S2 := Sta.back S' S.eok
    have q := k s'
    unfold flushed at q
    rw [if_pos e] at q
    exact q S2
  · repeat walk_at "cw"
    rw [hrs]
    repeat walk_at "cw"
    refine Sta.global S' I.g_escC (by kernel_rfl) ?_
    refine callW_1 (by rw [I.k]; kernel_rfl) ?_ (by kernel_rfl) (by kernel_rfl)
    repeat walk_at "cw"
    refine ⟨S'.kin, ?_⟩
    refine escC_ I S' (hA'.le (by first | decide | omega)) hc ?_
    clear S'; intro t2 s' S'
    repeat walk_at "cw"
    refine ⟨S'.sinkLed (L' := []) (by walk_at "mid"), ?_⟩
    refine S'.sink (hA'.le (by first | decide | omega)) hr (by walk_at "mid") ?_
    clear S'; intro s' S'
    repeat walk_at "cw"
    have S2 := Sta.back S' S.eok
    have q := k s'
    unfold flushed at q
    rw [if_neg e] at q
    exact q S2
end
end
section
open PySem PySem.W PyProof.Rows PySem.W.X PySem.SeqAt
set_option maxRecDepth 100000
/-- a name without a namespace -/
noncomputable def plainName (x : Str) : Prop := (⟨(x.cps.toList.take 1).toArray⟩ : Str) ≠ ("{" : Str) ∧ x.length ≤ 1000
/-- between two turns of _qname's loop -/
inductive QnI (W : Wd) (G : Gens) (env : Env) (loc : Loc) (w : Wr) (et : Value) (q : Addr) (st : Ws) (N : Ledger) (x : Str) (t t' : Tok) (a' : Addr) (rest : List Value) (loc1 : Loc) (nw1 : Ledger) (G' : Gens) : Prop
  | mk (vu vp : Option Value) (T : Str → Bool) (n : Nat) (hG : G' = G) (hloc : loc1 = ([("self", some (.ref w.x)), ("qname", some (.str x t)), ("uri", some (.str "" t')), ("tag", some (.str x t)), ("prefixes_seen", some (.ref a')), ("u", vu), ("prefix", vp)] : Loc))
    (hnw : nw1 = (a', IsSS W T n) :: (env.locals, IsNs loc) :: (w.x, IsInst 150 w.dx) :: (w.dx, IsAttrs (selfV w et q st)) :: (w.d, IsTxts st.held) :: (w.ns, IsLen (st.dp + 2)) :: (w.ps, IsLst (List.replicate (st.dp + 1) (.bool false))) :: (w.tp, IsTpl [.str xmlNs w.tu, .str "xml" w.tx]) :: N)
    (hT : T "" = false) (hn : n ≤ 1) (hn0 : rest = [] ∨ n = 0) (hr : ∀ y ∈ rest, y = .ref w.tp) (hl : rest.length ≤ 1) : QnI W G env loc w et q st N x t t' a' rest loc1 nw1 G'
section
variable {W : Wd} {G : Gens} {env : Env} {loc loc' : Loc} {nw nw' : Ledger} {s : Shared} {A : Around} {E : Value → Shared → Prop} {w : Wr} {et : Value} {q : Addr} {st : Ws} {N : Ledger}
set_option maxHeartbeats 4000000 in
theorem qnameC_ {x : Str} {t : Tok} {R : Result → Shared → Prop} (I : IsC W) (S : Sta W G env loc (wrLed w et q st N) s) (hA : Aok 12 A) (hx : plainName x)
    (k : ∀ a t2 s', Sta W G env loc ((a, IsTpl [.str x t, .str x t, .str "" t2]) :: wrLed w et q st N) s' → R (.ok (.ret (.ref a))) s') : codeAny (model W.prog W.w) A (.call (.ref 90) ⟨[.ref w.x, .str x t], []⟩) R s := by
  refine S.code_fn (binds := [("self", .ref w.x), ("qname", .str x t), ("uri", .none)]) ["tag", "prefixes_seen", "u", "prefix"] I.f_qname hA.room ?_ (by kernel_rfl) ?_
  · intro name doc pm ct an
    exact kp_binds S.kin fun S => by rw [I.k]; kernel_rfl
  intro L s' S'
  have hA' := hA.deeper (env := envOf "C14NWriterTarget._qname" (fnScope st_qname) L 90 (.ref 89))
  simp only [mkLoc, List.map_cons, List.map_nil, List.cons_append, List.nil_append] at S'
  have hcl := I.cl
  refine execs_go ?_
  repeat walk_at "cw"
  refine Assign_Tuple ?_ (by kernel_rfl) (by kernel_rfl)
  repeat walk_at "cw"
  refine sliceS_ ?_ (by intro _ _; kernel_rfl)
  repeat walk_at "cw"
  refine ⟨_, _, _, _, _, _, _, S', rfl, by rw [sizeLine_eq]; have := hx.2; omega, .none, .int _ _, ?_⟩
  clear S'; intro t1 s' S'
  rw [slice_first]
  repeat walk_at "cw"
  refine eq_s (fun e => absurd e hx.1) (fun _ => ?_)
  repeat walk_at "cw"
  refine Sta.unpackT S' hA'.handled (by walk_at "mem") (by kernel_rfl) (by kernel_rfl) ?_
  clear S'; intro s' S'
  refine assignInOrder_cons ?_
  refine assign_Name ?_
  repeat walk_at "cw"
  refine assignInOrder_cons ?_
  refine assign_Name ?_
  repeat walk_at "cw"
  refine assignInOrder_nil ?_
  repeat walk_at "cw"
  refine Sta.builtin S' I.b_set bo_set (by kernel_rfl) ?_
  repeat walk_at "cw"
  simp only [wrLed] at S'
  have hlv : ((w.a0, [.ref w.tp]) :: st.es.map fun a => (a, ([] : List Value))).map (fun p => Value.ref p.1) = .ref w.a0 :: st.es.map Value.ref := by simp
  replace S' := S'.sel (nw' := (a', IsSS W (fun _ => false) 0) :: (env.locals, IsNs loc) :: (w.x, IsInst 150 w.dx) :: (w.dx, IsAttrs (selfV w et q st)) :: (w.d, IsTxts st.held) :: (w.ns, IsLen (st.dp + 2)) :: (w.ps, IsLst (List.replicate (st.dp + 1) (.bool false))) :: (w.tp, IsTpl [.str xmlNs w.tu, .str "xml" w.tx]) :: (N ++ ((w.dns, IsLst (.ref w.a0 :: st.es.map .ref)) :: (w.a0, IsLst [.ref w.tp]) :: esLed st.es))) (by
    iterate 8 (apply Sel.cons (by walk_at "pull"))
    exact Sel.drop (Sel.of_perm (List.perm_append_comm (l₁ := (w.dns, IsLst (.ref w.a0 :: st.es.map .ref)) :: (w.a0, IsLst [.ref w.tp]) :: esLed st.es) (l₂ := N))))
  have md : (w.dns, IsLst (.ref w.a0 :: st.es.map .ref)) ∈ (a', IsSS W (fun _ => false) 0) :: (env.locals, IsNs loc) :: (w.x, IsInst 150 w.dx) :: (w.dx, IsAttrs (selfV w et q st)) :: (w.d, IsTxts st.held) :: (w.ns, IsLen (st.dp + 2)) :: (w.ps, IsLst (List.replicate (st.dp + 1) (.bool false))) :: (w.tp, IsTpl [.str xmlNs w.tu, .str "xml" w.tx]) :: (N ++ ((w.dns, IsLst (.ref w.a0 :: st.es.map .ref)) :: (w.a0, IsLst [.ref w.tp]) :: esLed st.es)) := by simp
  refine wpAny_For ?_ (by intro _; kernel_rfl)
  repeat walk_at "cw"
  refine Sta.getM_inst (f := 75) S' hcl (by walk_at "mem") (by walk_at "mem") VV.keys (by decide +kernel) (by rw [I.k]; kernel_rfl) (by rw [I.k]; kernel_rfl) ?_
  refine callW_m (by rw [I.k]; kernel_rfl) ?_ (by kernel_rfl) (by kernel_rfl)
  repeat walk_at "cw"
  refine ⟨S'.kin, ?_⟩
  refine genS_ (N := (a', IsSS W (fun _ => false) 0) :: (env.locals, IsNs loc) :: (w.x, IsInst 150 w.dx) :: (w.dx, IsAttrs (selfV w et q st)) :: (w.d, IsTxts st.held) :: (w.ns, IsLen (st.dp + 2)) :: (w.ps, IsLst (List.replicate (st.dp + 1) (.bool false))) :: (w.tp, IsTpl [.str xmlNs w.tu, .str "xml" w.tx]) :: N) (sh := (w.dns, IsLst (.ref w.a0 :: st.es.map .ref)) :: (w.a0, IsLst [.ref w.tp]) :: esLed st.es)
    (lv := (w.a0, [.ref w.tp]) :: st.es.map fun a => (a, ([] : List Value))) I S' (hA'.le (by first | decide | omega)) (by rw [hlv]; exact .head _) ?_ ?_
  · intro p hp
    rcases List.mem_cons.mp hp with rfl | hp
    · exact ⟨.tail _ (.head _), by rw [sizeLine_eq]; simp⟩
    · obtain ⟨a, ha, rfl⟩ := List.mem_map.mp hp
      exact ⟨.tail _ (.tail _ (List.mem_map.mpr ⟨a, ha, rfl⟩)), by simp⟩
  clear S'; intro ga g own gs s' S' hy
  refine S'.iterGen (g := g) (by simp) ?_
  have hfl : List.flatMap (fun x => x.2) ((w.a0, [Value.ref w.tp]) :: st.es.map fun a => (a, ([] : List Value))).reverse = [Value.ref w.tp] := by
    simp [List.flatMap_append]
  rw [hfl] at hy
  refine for_y (sh := (w.dns, IsLst (.ref w.a0 :: st.es.map .ref)) :: (w.a0, IsLst [.ref w.tp]) :: esLed st.es) (P := fun x v => v = x) (hA'.le (by first | decide | omega))
    (fun rest loc1 nw1 G' => QnI W G env loc w et q st N x t t' a' rest loc1 nw1 G') ?_ ?_ S' hy.rel ⟨none, none, fun _ => false, 0, rfl, rfl, rfl, rfl, by omega, .inr rfl, by simp, by simp⟩
  · intro y v rest tl tg loc1 nw1 G' s1 hv S1 hJ
    obtain ⟨vu, vp, T, n, rfl, rfl, rfl, hT, hn, hn0, hr, hl⟩ := hJ
    obtain rfl := hr y (.head _)
    subst hv
    have hn0 : n = 0 := hn0.resolve_left (by simp)
    subst hn0
    have hr0 : rest = [] := by simpa using hl
    subst hr0
    clear S'
    have S' := S1
    clear S1
    simp only [List.cons_append] at S'
    refine Sta.unpackT S' hA'.handled (by walk_at "mem") (by kernel_rfl) (by kernel_rfl) ?_
    clear S'; intro s' S'
    refine assignInOrder_cons ?_
    refine assign_Name ?_
    repeat walk_at "cw"
    refine assignInOrder_cons ?_
    refine assign_Name ?_
    repeat walk_at "cw"
    refine assignInOrder_nil ?_
    repeat walk_at "cw"
    refine eq_s (fun e => absurd e (by decide +kernel)) (fun _ => ?_)
    repeat walk_at "cw"
    refine ⟨_, (_ :: _ :: _ :: _ :: _ :: _ :: _ :: _ :: N), _, S', ⟨_, _, _, _, rfl, rfl, rfl, ?_, ?_, .inl rfl, by simp, by simp⟩⟩
    · rw [hT]; decide +kernel
    · split <;> omega
  · intro loc1 nw1 G' s1 S1 hJ
    obtain ⟨vu, vp, T, n, rfl, rfl, rfl, hT, hn, _, _, _⟩ := hJ
    clear S'
    have S' := S1
    clear S1
    simp only [List.cons_append] at S'
    have hn1 : n < scanBound := Nat.lt_of_le_of_lt hn (by decide)
    repeat walk_at "cw"
    refine truthy_s S' (by decide +kernel) (fun _ s' S' => ?_) (fun e => absurd (show Str.length "" = 0 by decide +kernel) e)
    repeat walk_at "cw"
    rw [hT]
    repeat walk_at "cw"
    have S2 := S'.sel (nw' := (env.locals, IsNs loc) :: (a', IsTpl [.str x t, .str x t, .str "" _]) :: (w.x, IsInst 150 w.dx) :: (w.dx, IsAttrs (selfV w et q st)) :: (w.d, IsTxts st.held) :: (w.ns, IsLen (st.dp + 2)) :: (w.ps, IsLst (List.replicate (st.dp + 1) (.bool false))) :: (w.tp, IsTpl [.str xmlNs w.tu, .str "xml" w.tx]) ::
        (w.dns, IsLst (.ref w.a0 :: st.es.map .ref)) :: (w.a0, IsLst [.ref w.tp]) :: (esLed st.es ++ N)) (by
      iterate 8 (apply Sel.cons (by walk_at "pull"))
      exact Sel.drop (Sel.of_perm (List.perm_append_comm (l₁ := N) (l₂ := (w.dns, IsLst (.ref w.a0 :: st.es.map .ref)) :: (w.a0, IsLst [.ref w.tp]) :: esLed st.es))))
    have S3 := S2.sel (nw' := (env.locals, IsNs loc) :: (a', IsTpl [.str x t, .str x t, .str "" _]) :: wrLed w et q st N) (by
      simp only [wrLed]
      iterate 10 (apply Sel.cons (by walk_at "pull"))
      exact Sel.refl _)
    exact k a' _ s' (Sta.back S3 S.eok)
theorem qname_ {x : Str} {t : Tok} {Q : Value → Shared → Prop} (I : IsC W) (S : Sta W G env loc (wrLed w et q st N) s) (hA : Aok 12 A) (hx : plainName x)
    (k : ∀ a t2 s', Sta W G env loc ((a, IsTpl [.str x t, .str x t, .str "" t2]) :: wrLed w et q st N) s' → Q (.ref a) s') : wpAny (model W.prog W.w) A (call (.ref 90) [.ref w.x, .str x t]) Q E s := wpAny_call (qnameC_ I S hA hx k)
end
end
section
open PySem PySem.W PyProof.Rows PySem.W.X PySem.SeqAt
set_option maxRecDepth 100000
set_option linter.unusedVariables false
noncomputable abbrev lamArgs (p : Pos) : Arguments := ⟨[], [⟨"n", none, p⟩], none, [], [], none, []⟩
noncomputable abbrev lamBody (p1 p2 p3 p4 p5 : Pos) : Expr := .Call (.Attribute (.Name "n" p1) "split" p2) [.Constant (.str "}") 0 p3, .Constant (.int 1) 0 p4] [] p5
noncomputable abbrev lamScope : Scope := { kind := .function, names := [(Str.ofString "n", .local)], isGenerator := false, isCoroutine := false, more := [] }
noncomputable abbrev cmpScope : Scope := { kind := .function, names := [(Str.ofString ".0", .local), (Str.ofString "n", .local), (Str.ofString "parse_qname", .free)], isGenerator := false, isCoroutine := false, more := [] }
noncomputable abbrev startQ : Str := "C14NWriterTarget._start"
noncomputable abbrev lamQ1 : Str := "C14NWriterTarget._start.<locals>.<lambda>"
noncomputable abbrev env1 (L : Addr) : Env := envOfC startQ (fnScope st_start1) L 126 (.ref 125)
/-- names read -/
structure Pq where
  x : Str
  a : Addr
  t : Tok
  t2 : Tok
noncomputable def pqLed (pl : List Pq) : Ledger := pl.map fun p => (p.a, IsTpl [.str p.x p.t, .str p.x p.t, .str "" p.t2])
noncomputable def pqD (pl : List Pq) : List (Str × Value) := pl.map fun p => (p.x, .ref p.a)
noncomputable def splitB (x : Str) : List Str := Txt.splitMax x "}" 1
section
variable {W : Wd} {G : Gens} {env : Env} {loc loc' : Loc} {nw nw' : Ledger} {s : Shared} {A : Around} {E : Value → Shared → Prop} {w : Wr} {et : Value} {q : Addr} {st : Ws} {N : Ledger}
set_option maxHeartbeats 4000000 in
/-- the key of the sort -/
theorem lam_ {f c' : Addr} {clos : List (Str × Addr)} {qual x : Str} {t : Tok} {p0 p1 p2 p3 p4 p5 : Pos} {Q : Value → Shared → Prop} (S : Sta W G env loc nw s) (hA : Aok 2 A) (mf : (f, IsLam qual (lamArgs p0) (lamBody p1 p2 p3 p4 p5) lamScope clos c') ∈ nw) (mc : (c', IsCodeQ qual) ∈ nw) (hx : x.length ≤ 1000) (hl : (p2.endLine == p5.line) = true)
    (k : ∀ a s', Sta W G env loc ((a, IsTxts (splitB x)) :: nw) s' → Q (.ref a) s') : wpAny (model W.prog W.w) A (call (.ref f) [.str x t]) Q E s := by
  refine S.call_lam (binds := [("n", .str x t)]) mf mc hA.room (fun pm ctv => by kernel_rfl) (by kernel_rfl) ?_
  intro L s' S'
  simp only [mkLoc, List.map_cons, List.map_nil, List.cons_append, List.nil_append] at S'
  refine Call_m ?_ rfl rfl hl
  repeat walk_at "ev"
  refine getM_ssplit ?_
  repeat walk_at "ev"
  refine S'.splitMax (by decide +kernel) (by decide +kernel) (by omega) ?_
  clear S'; intro a s' S'
  exact k a s' (Sta.back (S'.perm (List.Perm.swap ..)) S.eok)
theorem pqD_keys (pl : List Pq) : (pqD pl).map (·.1) = pl.map (·.x) := by simp [pqD, List.map_map, Function.comp_def]
theorem perm_f {α : Type} (f a : α) (T R : List α) : List.Perm (f :: (T ++ a :: R)) (a :: f :: (T ++ R)) := (List.perm_middle.cons _).trans (List.Perm.swap ..)
noncomputable abbrev lamX (p0 p1 p2 p3 p4 p5 lp : Pos) : Expr := .Lambda (lamArgs p0) (lamBody p1 p2 p3 p4 p5) lamScope lp
noncomputable abbrev pqX (p0 p1 p2 p3 p4 p5 lp k1 k2 k3 k4 k5 k6 k7 k8 k9 k10 : Pos) : Expr := .DictComp (.Name "n" k1) (.Call (.Name "parse_qname" k2) [.Name "n" k3] [] k4) [⟨.Name "n" k5, .Call (.Name "sorted" k6) [.Name "qnames" k7] [⟨some "key", lamX p0 p1 p2 p3 p4 p5 lp, k8⟩] k9, [], 0⟩] cmpScope k10
set_option maxHeartbeats 4000000 in
theorem pq_ {b1 b2 : Pos} {loc2 : Addr → Loc} {L qs c2 bm : Addr} {c? : Option Addr} {ss : List Str} {p0 p1 p2 p3 p4 p5 lp k1 k2 k3 k4 k5 k6 k7 k8 k9 k10 : Pos} {Q : Flow → Shared → Prop} (I : IsC W) (C : CodeHd W.B 125 123) (hA : Aok 20 A) (hsw : swapsWith (pqX p0 p1 p2 p3 p4 p5 lp k1 k2 k3 k4 k5 k6 k7 k8 k9 k10) (some (.Name "parsed_qnames" b1)) b2.line (env1 L) = pure true) (hput : ∀ acc, Put "parsed_qnames" (some (.ref acc)) loc (loc2 acc)) (hl : (p2.endLine == p5.line) = true) (hpq : CellOk (env1 L) .cell "parse_qname" c2) (hq : (("qnames" : Str), some (Value.ref qs)) ∈ loc)
    (hnd : ss.Nodup) (hpl : ∀ x ∈ ss, plainName x) (h64 : ss.length < 64)
    (S' : Sta W G (env1 L) loc (Tabs 123 lp lamQ1 c? ++ ((qs, IsSL W ss) :: (c2, IsCel (some (.ref bm))) :: (bm, IsMeth 90 (.ref w.x)) :: wrLed w et q st N)) s)
    (k : ∀ acc pl c' s', (pl.map (·.x)).Perm ss → Sta W G (env1 L) (loc2 acc) ((acc, IsD W acc (pqD pl)) :: (c2, IsCel (some (.ref bm))) :: wrLed w et q st (pqLed pl ++ (Tabs 123 lp lamQ1 (some c') ++ N))) s' → Q .next s') :
    wpAny (model W.prog W.w) A (exec (.Assign [.Name "parsed_qnames" b1] (pqX p0 p1 p2 p3 p4 p5 lp k1 k2 k3 k4 k5 k6 k7 k8 k9 k10) b2) (env1 L)) Q E s := by
  refine assignDictComp (cl := [("parse_qname", c2)]) ["n"] hsw (closure_one (by kernel_rfl) hpq) (by kernel_rfl) rfl rfl ?_ (by intro _; kernel_rfl)
  refine Call_kw ?_ (by kernel_rfl)
  refine Sta.builtin S' I.b_sorted bo_sorted (by kernel_rfl) ?_
  refine callWith_kw ?_ (by kernel_rfl) (by kernel_rfl) (by kernel_rfl) (by kernel_rfl)
  refine args_cons ?_ (by kernel_rfl)
  refine S'.local_ hq ?_
  refine args_nil ?_
  refine kws_cons ?_
  refine Sta.lambda S' (by kernel_rfl) (clos := []) (by kernel_rfl) rfl C ?_
  clear S'; intro f c' s' S'
  refine kws_nil ?_
  have S2 : Sta W G (env1 L) loc ((qs, IsSL W ss) :: (f, IsLam lamQ1 (lamArgs p0) (lamBody p1 p2 p3 p4 p5) lamScope [] c') :: (Tabs 123 lp lamQ1 (some c') ++ ((c2, IsCel (some (.ref bm))) :: (bm, IsMeth 90 (.ref w.x)) :: wrLed w et q st N))) s' := S'.perm (perm_f _ _ _ _)
  show wpAny _ _ (call (.builtin "sorted") [.ref qs] [(Str.ofString "key", .ref f)]) _ _ _
  refine S2.sortedSet (kp := splitB) (hA.le (by first | decide | omega)) h64 (fun x t L0 s3 Q' hx S3 kk => ?_) fun l ss' s3 hp S3 => ?_
  · refine lam_ S3 ((hA.in1.in1).le (by omega)) (f := f) (c' := c') (List.mem_append_right _ (.tail _ (.head _))) (List.mem_append_right _ (.tail _ (.tail _ (.tail _ (.head _))))) (hpl x hx).2 hl kk
  refine S3.iterT .head fun it vs s4 ht S4 => ?_
  refine ⟨_, _, _, S4, ?_⟩
  intro acc Cc s5 eok S5
  refine compD_start rfl rfl self_li (S5.get (.tail _ (.tail _ (.head _)))) ?_
  have hnd' : ss'.Nodup := hp.nodup_iff.mpr hnd
  have Y : LY W [(l, IsLst vs)] it vs [(it, IsLI l 0)] := ly_list (own₀ := []) (by simp) vs 0 rfl
  refine compD_y (sh := [(l, IsLst vs)]) (P := fun x v => v = x) (hA.le (by first | decide | omega)) (compTurn_dict1 ..)
    (fun rest loc1 nw1 G' => G' = G ∧ ∃ vn, ∃ pl : List Pq, ∃ ssr, TxtsAre rest ssr ∧ pl.map (·.x) ++ ssr = ss' ∧ loc1 = ([("n", vn)] : Loc) ∧ nw1 = (acc, IsD W acc (pqD pl)) :: ((env1 L).locals, IsNs loc) :: (c2, IsCel (some (.ref bm))) :: (bm, IsMeth 90 (.ref w.x)) :: wrLed w et q st (pqLed pl ++ (Tabs 123 lp lamQ1 (some c') ++ N))) ?_ ?_ (nw := (acc, IsD W acc (pqD [])) :: ((env1 L).locals, IsNs loc) :: (c2, IsCel (some (.ref bm))) :: (bm, IsMeth 90 (.ref w.x)) :: wrLed w et q st (pqLed [] ++ (Tabs 123 lp lamQ1 (some c') ++ N))) (G := G) (own := [(it, IsLI l 0)]) (og := []) ?_ Y.yields.rel ⟨rfl, none, [], ss', ht, rfl, rfl, rfl⟩
  · intro x v rest tl tg loc1 nw1 G' s6 hv S6 hJ
    obtain ⟨rfl, vn, pl, ssr, htr, hss, rfl, rfl⟩ := hJ
    subst hv
    cases htr with
    | cons x t htr =>
    rename_i ssr
    refine wpAny_assign_Name (S6.store .head fun s' S' => ?_)
    refine wpAny_bind ?_
    refine S'.local_ (.head _) ?_
    refine wpAny_bind (wpAny_holding ?_)
    refine Call_ ?_ (by kernel_rfl)
    refine Sta.cell S' ⟨by kernel_rfl, rfl, by decide +kernel, by decide +kernel⟩ (c := c2) (.tail _ (.tail _ (.head _))) ?_
    refine callM_1 (f := 90) (self := .ref w.x) (by rw [I.k]; kernel_rfl) ?_ (by kernel_rfl) (by kernel_rfl)
    refine args_cons ?_ (by kernel_rfl)
    refine S'.local_ (.head _) ?_
    refine args_nil ?_
    refine ⟨S'.methP (.tail _ (.tail _ (.tail _ (.head _)))), ?_⟩
    refine S'.callMeth (.tail _ (.tail _ (.tail _ (.head _)))) ?_
    have hxs : x ∈ ss' := by rw [← hss]; simp
    have S7 := S'.perm (nw' := wrLed w et q st ((acc, IsD W acc (pqD pl)) :: ((env1 L).locals, IsNs loc) :: (c2, IsCel (some (.ref bm))) :: (bm, IsMeth 90 (.ref w.x)) :: ((pqLed pl ++ (Tabs 123 lp lamQ1 (some c') ++ N)) ++ ([(l, IsLst vs)] ++ tl)))) (by simp only [wrLed]; walk_at "perm")
    refine qnameC_ I S7 (hA.le (by first | decide | omega)) (hpl x (hp.mem_iff.mp hxs)) ?_
    intro a t2 s7 S8
    have S9 := S8.perm (nw' := (acc, IsD W acc (pqD pl)) :: ((env1 L).locals, IsNs loc) :: (c2, IsCel (some (.ref bm))) :: (bm, IsMeth 90 (.ref w.x)) :: (wrLed w et q st (pqLed (pl ++ [⟨x, a, t, t2⟩]) ++ (Tabs 123 lp lamQ1 (some c') ++ N)) ++ ([(l, IsLst vs)] ++ tl))) (by
      simp only [wrLed, pqLed, List.map_append, List.map_cons, List.map_nil]; walk_at "perm")
    refine wpAny_bind (wpAny_standAt (wpAny_holding ?_))
    have hnx : x ∉ (pqD pl).map (·.1) := by
      rw [pqD_keys]
      intro m
      rw [← hss, List.nodup_append] at hnd'
      exact hnd'.2.2 x m x (.head _) rfl
    have hlen : (pqD pl).length ≤ 64 := by
      have h1 := congrArg List.length hss
      have h2 := hp.length_eq
      simp only [pqD, List.length_map, List.length_append] at h1 ⊢
      omega
    refine S9.dictSet (x := x) (v := .ref a) .head (by rw [sizeLine_eq]; omega) fun s8 S10 => ?_
    rw [stored_new hnx] at S10
    refine ⟨([("n", some (.str x t))] : Loc), (acc, IsD W acc (pqD (pl ++ [⟨x, a, t, t2⟩]))) :: ((env1 L).locals, IsNs loc) :: (c2, IsCel (some (.ref bm))) :: (bm, IsMeth 90 (.ref w.x)) :: wrLed w et q st (pqLed (pl ++ [⟨x, a, t, t2⟩]) ++ (Tabs 123 lp lamQ1 (some c') ++ N)), G', ?_, rfl, some (.str x t), pl ++ [⟨x, a, t, t2⟩], ssr, htr, ?_, rfl, rfl⟩
    · have e : pqD (pl ++ [⟨x, a, t, t2⟩]) = pqD pl ++ [(x, .ref a)] := by simp [pqD]
      rw [e]; exact S10
    · rw [← hss]; simp
  · intro loc1 nw1 G' s6 S6 hJ
    obtain ⟨rfl, vn, pl, ssr, htr, hss, rfl, rfl⟩ := hJ
    cases htr
    rw [List.append_nil] at hss
    refine ⟨.next, ([("n", vn)] : Loc), loc2 acc, (acc, IsD W acc (pqD pl)) :: (c2, IsCel (some (.ref bm))) :: wrLed w et q st (pqLed pl ++ (Tabs 123 lp lamQ1 (some c') ++ N)), G', rfl, ?_, hput acc, fun s7 S7 => k acc pl c' s7 (by rw [hss]; exact hp) S7⟩
    exact S6.sel (by
      refine Sel.trans (Sel.of_perm (L2 := ((l, IsLst vs) :: (bm, IsMeth 90 (.ref w.x)) :: ((env1 L).locals, IsNs loc) :: (acc, IsD W acc (pqD pl)) :: (c2, IsCel (some (.ref bm))) :: wrLed w et q st (pqLed pl ++ (Tabs 123 lp lamQ1 (some c') ++ N)))) (by simp only [wrLed]; walk_at "perm")) ?_
      exact Sel.drop (Sel.drop (Sel.refl _)))
  · rw [List.append_nil]
    refine S5.sel (Sel.trans (Sel.of_perm (L2 := (f, IsLam lamQ1 (lamArgs p0) (lamBody p1 p2 p3 p4 p5) lamScope [] c') :: (qs, IsSL W ss) :: ((acc, IsD W acc (pqD [])) :: ((env1 L).locals, IsNs loc) :: (c2, IsCel (some (.ref bm))) :: (bm, IsMeth 90 (.ref w.x)) :: wrLed w et q st (pqLed [] ++ (Tabs 123 lp lamQ1 (some c') ++ N))) ++ ([(l, IsLst vs)] ++ [(it, IsLI l 0)])) ?_) (Sel.drop (Sel.drop (Sel.refl _))))
    simp only [wrLed, pqLed, pqD, List.map_nil]
    walk_at "perm"
end
end
section
open PySem PySem.W PyProof.Rows PySem.W.X PySem.SeqAt
set_option maxRecDepth 100000
set_option linter.unusedVariables false
noncomputable abbrev lamP : Pos := ⟨135, 71, 135, 96⟩
noncomputable abbrev loc1 (tag : Str) (t : Tok) (d nn : Addr) (vk vv vqs vrn vqa van vpq vuri val vaq vsb vwr : Option Value) : Loc := [("tag", some (.str tag t)), ("attrs", some (.ref d)), ("new_namespaces", some (.ref nn)), ("qname_text", some .none), ("k", vk), ("v", vv), ("qnames", vqs), ("resolved_names", vrn), ("qname", none), ("qattrs", vqa), ("attr_name", van), ("value", none), ("parsed_qnames", vpq), ("uri", vuri), ("attr_list", val), ("attr_qname", vaq), ("space_behaviour", vsb), ("write", vwr)]
section
variable {W : Wd} {G : Gens} {env : Env} {loc loc' : Loc} {nw nw' : Ledger} {s : Shared} {A : Around} {E : Value → Shared → Prop} {w : Wr} {et : Value} {q : Addr} {st : Ws} {N : Ledger}
theorem code1 (I : IsC W) : ∃ oc vs, W.K.lookup 125 = some oc ∧ oc.data = .fields vs ∧ ∃ f tf, vs.getD 18 .none = .str f tf := by
  rw [I.k]
  exact ⟨(obAt (KK W.w.params) 125), (match (obAt (KK W.w.params) 125).data with | .fields vs => vs | _ => #[]), by kernel_rfl, by kernel_rfl, (match (match (obAt (KK W.w.params) 125).data with | .fields vs => vs | _ => #[]).getD 18 .none with | .str f _ => f | _ => Str.empty), (match (match (obAt (KK W.w.params) 125).data with | .fields vs => vs | _ => #[]).getD 18 .none with | .str _ t => t | _ => 0), by kernel_rfl⟩
set_option maxHeartbeats 8000000 in
theorem startA_ {L d nn c1 c2 : Addr} {tag : Str} {t : Tok} {kvs : List (Str × Value)} {c? : Option Addr} {vk vv van vuri vaq vsb vwr : Option Value} {Q : Flow → Shared → Prop} (I : IsC W) (C : CodeHd W.B 125 123) (hA : Aok 22 A)
    (hself : CellOk (env1 L) .cell "self" c1) (hpq : CellOk (env1 L) .cell "parse_qname" c2) (hnn : nn ∈ st.es) (hx : tag ∉ kvs.map (·.1)) (hz : kvs.length ≤ 3) (hnd : (kvs.map (·.1)).Nodup) (hpl : ∀ x ∈ tag :: kvs.map (·.1), plainName x)
    (S' : Sta W G (env1 L) (loc1 tag t d nn vk vv none none none van none vuri none vaq vsb vwr) ((c1, IsCel (some (.ref w.x))) :: (c2, IsCel none) :: (d, IsD W d kvs) :: wrLed w et q st (Tabs 123 lamP lamQ1 c? ++ N)) s)
    (k : ∀ acc al pl vqs vrn c' s', (pl.map (·.x)).Perm (tag :: kvs.map (·.1)) → Sta W G (env1 L) (loc1 tag t d nn vk vv vqs vrn (some .none) van (some (.ref acc)) vuri (some (.ref al)) vaq vsb vwr) ((al, IsLst []) :: (acc, IsD W acc (pqD pl)) :: (c1, IsCel (some (.ref w.x))) :: (d, IsD W d kvs) :: wrLed w et q st (pqLed pl ++ (Tabs 123 lamP lamQ1 (some c') ++ N))) s' →
      wpAny (model W.prog W.w) A (execs ((fnBody st_start1).drop 8) (env1 L)) Q E s') :
    wpAny (model W.prog W.w) A (execs ((fnBody st_start1).drop 0) (env1 L)) Q E s := by
  have hcl := I.cl
  obtain ⟨oc, vs, hoc, hdc, hfl⟩ := code1 I
  simp only [loc1, wrLed] at S'
  repeat walk_at "cw"
  refine Sta.setDisp S' (hA.le (by first | decide | omega)) (x := tag) (kvs := kvs) (by walk_at "mem") (by walk_at "mem") rfl hoc hdc hfl (by walk_at "pull") hx hz ?_
  clear S'; intro qs s' S'
  repeat walk_at "cw"
  refine Sta.getBound (f := 90) S' hcl (by walk_at "mem") (by walk_at "mem") VV.keys (by decide +kernel) (by rw [I.k]; kernel_rfl) (by rw [I.k]; kernel_rfl) (by rw [I.k]; kernel_rfl) (by rw [I.k]; kernel_rfl) (by decide +kernel) ?_
  clear S'; intro bm s' S'
  refine Sta.storeC S' hpq (by walk_at "upd") ?_
  clear S'; intro s' S'
  repeat walk_at "cw"
  have S2 := S'.perm (nw' := Tabs 123 lamP lamQ1 c? ++ ((qs, IsSL W (tag :: kvs.map (·.1))) :: (c2, IsCel (some (.ref bm))) :: (bm, IsMeth 90 (.ref w.x)) :: wrLed w et q st ((c1, IsCel (some (.ref w.x))) :: (d, IsD W d kvs) :: (a', IsObj { cls := .type "dict", data := .dict #[] }) :: N))) (by simp only [wrLed]; walk_at "perm")
  refine pq_ (loc2 := fun acc => loc1 tag t d nn vk vv (some (.ref qs)) (some (.ref a')) (some .none) van (some (.ref acc)) vuri none vaq vsb vwr) I C (hA.le (by first | decide | omega)) (by kernel_rfl) (fun acc => by walk_at "put") (by decide) hpq (by walk_at "mem") (List.nodup_cons.mpr ⟨hx, hnd⟩) hpl (by simp; omega) S2 ?_
  intro acc pl c' s3 hp S3
  clear S'
  have S' := S3.sel (nw' := (acc, IsD W acc (pqD pl)) :: (c1, IsCel (some (.ref w.x))) :: (d, IsD W d kvs) :: wrLed w et q st (pqLed pl ++ (Tabs 123 lamP lamQ1 (some c') ++ N))) (by
    refine Sel.trans (Sel.of_perm (L2 := (c2, IsCel (some (.ref bm))) :: (a', IsObj { cls := .type "dict", data := .dict #[] }) :: (acc, IsD W acc (pqD pl)) :: (c1, IsCel (some (.ref w.x))) :: (d, IsD W d kvs) :: wrLed w et q st (pqLed pl ++ (Tabs 123 lamP lamQ1 (some c') ++ N))) (by simp only [wrLed]; walk_at "perm")) ?_
    exact Sel.drop (Sel.drop (Sel.refl _)))
  clear S2 S3
  simp only [loc1, wrLed] at S'
  have hmn : ∀ X : Ledger, (nn, IsLst []) ∈ esLed st.es ++ X := fun X => List.mem_append_left _ (List.mem_map.mpr ⟨nn, hnn, rfl⟩)
  refine execs_at rfl ?_
  refine wpAny_If ?_
  refine isTrue_plain ?_ (by kernel_rfl)
  refine S'.local_ (by walk_at "mem") ?_
  refine Sta.truthyL S' (xs := []) (by repeat (first | exact hmn _ | refine List.mem_cons_of_mem _ ?_)) (by simp) ?_
  clear S'; intro s' S'
  refine ite_f ?_
  refine wpAny_execs_cons ?_
  iterate 6 walk_at "cw"
  exact k acc a' pl _ _ c' s' hp S'
end
end
section
open PySem PySem.W PyProof.Rows PySem.W.X PySem.SeqAt
set_option maxRecDepth 100000
set_option linter.unusedVariables false
section
variable {W : Wd} {G : Gens} {env : Env} {loc loc' : Loc} {nw nw' : Ledger} {s : Shared} {A : Around} {E : Value → Shared → Prop} {w : Wr} {et : Value} {q : Addr} {st : Ws} {N : Ledger}
theorem pq_two {pl : List Pq} {tag x : Str} (h : (pl.map (·.x)).Perm [tag, x]) : ∃ p q : Pq, p.x = tag ∧ q.x = x ∧ List.Perm pl [p, q] := by
  have hl := h.length_eq
  match pl, hl with
  | [p, q], _ =>
    have h : List.Perm [p.x, q.x] [tag, x] := h
    have hm : p.x ∈ [tag, x] := h.mem_iff.mp (.head _)
    rcases List.mem_cons.mp hm with e | e
    · rw [e] at h
      have := List.perm_singleton.mp h.cons_inv
      exact ⟨p, q, e, by simpa using this, .refl _⟩
    · have e : p.x = x := by simpa using e
      rw [e] at h
      have := List.perm_singleton.mp (h.trans (List.Perm.swap ..)).cons_inv
      exact ⟨q, p, by simpa using this, e, .swap ..⟩
theorem pq_one {pl : List Pq} {tag : Str} (h : (pl.map (·.x)).Perm [tag]) : ∃ p : Pq, p.x = tag ∧ pl = [p] := by
  have hl := h.length_eq
  match pl, hl with
  | [p], _ => exact ⟨p, by simpa using List.perm_singleton.mp h, rfl⟩
set_option maxHeartbeats 8000000 in
/-- the attribute laid into attr_list -/
theorem startB_ {L d nn c1 acc al : Addr} {tag x : Str} {t : Tok} {v : Value} {vk vv vqs vrn van vuri vaq vsb vwr : Option Value} {p2 : Pq} {Q : Flow → Shared → Prop} (I : IsC W) (hA : Aok 12 A) (pl : List Pq) (hv : valueAt (pqD pl) x = some (.ref p2.a)) (hp2 : p2.x = x)
    (S' : Sta W G (env1 L) (loc1 tag t d nn vk vv vqs vrn (some .none) van (some (.ref acc)) vuri (some (.ref al)) vaq vsb vwr) ((p2.a, IsTpl [.str p2.x p2.t, .str p2.x p2.t, .str "" p2.t2]) :: (al, IsLst []) :: (acc, IsD W acc (pqD pl)) :: (d, IsD W d [(x, v)]) :: N) s)
    (k : ∀ tp vk vv van vuri vaq tx s', Sta W G (env1 L) (loc1 tag t d nn vk vv vqs vrn (some .none) van (some (.ref acc)) vuri (some (.ref al)) vaq vsb vwr) ((tp, IsTpl [.str x tx, v]) :: (al, IsLst [.ref tp]) :: (acc, IsD W acc (pqD pl)) :: (d, IsD W d [(x, v)]) :: N) s' →
      wpAny (model W.prog W.w) A (execs ((fnBody st_start1).drop 9) (env1 L)) Q E s') :
    wpAny (model W.prog W.w) A (execs ((fnBody st_start1).drop 8) (env1 L)) Q E s := by
  simp only [loc1] at S'
  refine execs_at rfl ?_
  refine wpAny_If ?_
  refine isTrue_plain ?_ (by kernel_rfl)
  repeat walk_at "cw"
  refine ite_t ?_
  refine wpAny_execs_cons ?_
  refine wpAny_For ?_ (by intro _; kernel_rfl)
  repeat walk_at "cw"
  refine Sta.builtin S' I.b_sorted bo_sorted (by kernel_rfl) ?_
  repeat walk_at "cw"
  refine Sta.getM_D S' (by walk_at "mem") F.slot_dict_items F.type_dict_items ?_
  repeat walk_at "cw"
  refine Sta.itemsD S' (by walk_at "mem") ?_
  clear S'; intro r s' S'
  repeat walk_at "cw"
  refine Sta.sortedItem S' hA.handled (x := x) (v := v) (by walk_at "mem") (by walk_at "mem") ?_
  clear S'; intro l tp t1 s' S'
  refine Sta.iterList S' (.head _) ?_
  clear S'; intro it s' S'
  have Y : LY W [(l, IsLst [Value.ref tp])] it [Value.ref tp] [(it, IsLI l 0)] := ly_list (own₀ := []) (by simp) _ 0 rfl
  have S2 := S'.perm (nw' := ((tp, IsTpl [.str x t1, v]) :: (p2.a, IsTpl [.str p2.x p2.t, .str p2.x p2.t, .str "" p2.t2]) :: (al, IsLst []) :: (acc, IsD W acc (pqD pl)) :: (d, IsD W d [(x, v)]) :: (r, IsView d) :: N) ++ ([(l, IsLst [.ref tp])] ++ [(it, IsLI l 0)])) (by walk_at "perm")
  clear S'
  refine for_y (sh := [(l, IsLst [Value.ref tp])]) (P := fun x v => v = x) (hA.le (by first | decide | omega)) (G := G) (og := []) (own := [(it, IsLI l 0)])
    (fun rest loc' nw1 G' => G' = G ∧ ((rest = [.ref tp] ∧ loc' = loc1 tag t d nn vk vv vqs vrn (some .none) van (some (.ref acc)) vuri (some (.ref al)) vaq vsb vwr ∧ nw1 = (tp, IsTpl [.str x t1, v]) :: (p2.a, IsTpl [.str p2.x p2.t, .str p2.x p2.t, .str "" p2.t2]) :: (al, IsLst []) :: (acc, IsD W acc (pqD pl)) :: (d, IsD W d [(x, v)]) :: (r, IsView d) :: N) ∨
      (rest = [] ∧ ∃ tp2 tx vk vv van vuri vaq, loc' = loc1 tag t d nn vk vv vqs vrn (some .none) van (some (.ref acc)) vuri (some (.ref al)) vaq vsb vwr ∧ nw1 = (tp2, IsTpl [.str x tx, v]) :: (al, IsLst [.ref tp2]) :: (acc, IsD W acc (pqD pl)) :: (d, IsD W d [(x, v)]) :: N))) ?_ ?_ (by rw [List.append_nil]; exact S2) Y.yields.rel ⟨rfl, .inl ⟨rfl, rfl, rfl⟩⟩
  · intro y vy rest tl tg loc' nw1 G' s1 hvy S1 hJ
    obtain ⟨rfl, ⟨hr, rfl, rfl⟩ | ⟨hr, _⟩⟩ := hJ
    · injection hr with hr1 hr2
      subst hr1 hr2 hvy
      have S' := S1
      clear S1 S2
      simp only [loc1, List.cons_append] at S'
      refine Sta.unpackT S' hA.handled (xs := [.str x t1, v]) (by walk_at "mem") (by kernel_rfl) (by kernel_rfl) ?_
      clear S'; intro s' S'
      refine assignInOrder_cons ?_
      refine assign_Name ?_
      repeat walk_at "cw"
      refine assignInOrder_cons ?_
      refine assign_Name ?_
      repeat walk_at "cw"
      refine assignInOrder_nil ?_
      repeat walk_at "cw"
      refine Assign_Tuple ?_ (by kernel_rfl) (by kernel_rfl)
      refine Subscript_any ?_ (by intro _ _; kernel_rfl)
      repeat walk_at "cw"
      refine Sta.subD S' (by walk_at "mem") hv ?_
      clear S'; intro s' S'
      refine Sta.unpackT S' hA.handled (xs := [.str p2.x p2.t, .str p2.x p2.t, .str "" p2.t2]) (by walk_at "mem") (by kernel_rfl) (by kernel_rfl) ?_
      clear S'; intro s' S'
      refine assignInOrder_cons ?_
      refine assign_Name ?_
      repeat walk_at "cw"
      refine assignInOrder_cons ?_
      refine assign_Name ?_
      repeat walk_at "cw"
      refine assignInOrder_cons ?_
      refine assign_Name ?_
      repeat walk_at "cw"
      refine assignInOrder_nil ?_
      repeat walk_at "cw"
      refine truthy_s S' (by decide +kernel) (fun _ s' S' => ?_) (fun e => absurd (show Str.length "" = 0 by decide +kernel) e)
      repeat walk_at "cw"
      rw [hp2] at S'
      simp only [List.nil_append] at S'
      refine ⟨_, (a', IsTpl [.str x p2.t, v]) :: (al, IsLst [.ref a']) :: (acc, IsD W acc (pqD pl)) :: (d, IsD W d [(x, v)]) :: N, G', S'.sel ?_, rfl, .inr ⟨rfl, a', p2.t, _, _, _, _, _, rfl, rfl⟩⟩
      refine Sel.trans (Sel.of_perm (L2 := (r, IsView d) :: (p2.a, IsTpl [.str x p2.t, .str x p2.t, .str "" p2.t2]) :: (tp, IsTpl [.str x t1, v]) :: ((a', IsTpl [.str x p2.t, v]) :: (al, IsLst [.ref a']) :: (acc, IsD W acc (pqD pl)) :: (d, IsD W d [(x, v)]) :: N) ++ ([(l, IsLst [.ref tp])] ++ tl)) (by walk_at "perm")) ?_
      exact Sel.drop (Sel.drop (Sel.drop (Sel.refl _)))
    · cases hr
  · intro loc' nw1 G' s1 S1 hJ
    obtain ⟨rfl, ⟨hr, _⟩ | ⟨_, tp2, tx, vk, vv, van, vuri, vaq, rfl, rfl⟩⟩ := hJ
    · cases hr
    · refine wpAny_execs_nil ?_
      exact k tp2 vk vv van vuri vaq tx s1 (S1.sel (Sel.trans (Sel.of_perm (List.perm_append_comm (l₂ := [(l, IsLst [Value.ref tp])]))) (Sel.drop (Sel.refl _))))
end
end
section
open PySem PySem.W PyProof.Rows PySem.W.X PySem.SeqAt
set_option maxRecDepth 100000
set_option linter.unusedVariables false
noncomputable def attrTxt (x v : Str) : Str := " " ++ x ++ "=\"" ++ escA v ++ "\""
noncomputable abbrev atScope : Scope := { kind := .function, names := [(Str.ofString ".0", .local), (Str.ofString "k", .local), (Str.ofString "v", .local), (Str.ofString "_escape_attrib_c14n", .globalImplicit)], isGenerator := false, isCoroutine := false, more := [] }
noncomputable abbrev atX (p1 p2 p3 p4 p5 p6 p7 p8 p9 p10 p11 p12 p13 p14 p15 : Pos) : Expr := .ListComp (.JoinedStr [.Constant (.str " ") 0 p1, .FormattedValue (.Name "k" p2) (-1) none p3, .Constant (.str "=\"") 0 p4, .FormattedValue (.Call (.Name "_escape_attrib_c14n" p5) [.Name "v" p6] [] p7) (-1) none p8, .Constant (.str "\"") 0 p9] p10) [⟨.Tuple [.Name "k" p11, .Name "v" p12] 0 p13, .Name "attr_list" p14, [], 0⟩] atScope p15
theorem escA_len (v : Str) : (escA v).length ≤ 6 * v.length := mapS_len _ 6 fA_len v
section
variable {W : Wd} {G : Gens} {env : Env} {loc loc' : Loc} {nw nw' : Ledger} {s : Shared} {A : Around} {E : Value → Shared → Prop} {w : Wr} {et : Value} {q : Addr} {st : Ws} {N : Ledger}
set_option maxHeartbeats 8000000 in
theorem attrTxt_ {L al tp : Addr} {x v : Str} {tx tv : Tok} {p1 p2 p3 p4 p5 p6 p7 p8 p9 p10 p11 p12 p13 p14 p15 : Pos} {Q : Value → Shared → Prop} (I : IsC W) (hA : Aok 12 A) (hx : x.length ≤ 1000) (hv : v.length ≤ txtLine) (hal : (("attr_list" : Str), some (Value.ref al)) ∈ loc)
    (S' : Sta W G (env1 L) loc ((al, IsLst [.ref tp]) :: (tp, IsTpl [.str x tx, .str v tv]) :: N) s)
    (k : ∀ b s', Sta W G (env1 L) loc ((b, IsTxts [attrTxt x v]) :: (al, IsLst [.ref tp]) :: (tp, IsTpl [.str x tx, .str v tv]) :: N) s' → Q (.ref b) s') :
    wpAny (model W.prog W.w) A (eval (atX p1 p2 p3 p4 p5 p6 p7 p8 p9 p10 p11 p12 p13 p14 p15) (env1 L)) Q E s := by
  have hl1 : (" " : Str).length = 1 := by decide +kernel
  have hl2 : ("=\"" : Str).length = 2 := by decide +kernel
  have hl3 : ("\"" : Str).length = 1 := by decide +kernel
  have hl4 := escA_len v
  unfold txtLine at hv
  refine listComp (cl := []) ["k", "v"] (by kernel_rfl) (by kernel_rfl) rfl rfl ?_ (by intro _; kernel_rfl)
  refine S'.local_ hal ?_
  refine S'.iterL (.head _) ?_
  clear S'; intro it s' S'
  refine ⟨G, _, _, S', ?_⟩
  intro b Cc s1 eok S1
  refine comp_start rfl rfl self_li (S1.get (.tail _ (.tail _ (.head _)))) ?_
  have Y : LY W [(al, IsLst [Value.ref tp])] it [Value.ref tp] [(it, IsLI al 0)] := ly_list (own₀ := []) (by simp) _ 0 rfl
  have S2 := S1.perm (nw' := ((b, IsLst []) :: ((env1 L).locals, IsNs loc) :: (tp, IsTpl [.str x tx, .str v tv]) :: N) ++ ([(al, IsLst [.ref tp])] ++ [(it, IsLI al 0)])) (by walk_at "perm")
  clear S' S1
  refine comp_y (sh := [(al, IsLst [Value.ref tp])]) (P := fun x v => v = x) (hA.le (by first | decide | omega)) (compTurn_list1 ..) (G := G) (og := []) (own := [(it, IsLI al 0)])
    (fun rest loc' nw1 G' => G' = G ∧ ((rest = [.ref tp] ∧ loc' = ([("k", none), ("v", none)] : Loc) ∧ nw1 = (b, IsLst []) :: ((env1 L).locals, IsNs loc) :: (tp, IsTpl [.str x tx, .str v tv]) :: N) ∨
      (rest = [] ∧ ∃ vk vv tt, loc' = ([("k", vk), ("v", vv)] : Loc) ∧ nw1 = (b, IsLst [.str (attrTxt x v) tt]) :: ((env1 L).locals, IsNs loc) :: (tp, IsTpl [.str x tx, .str v tv]) :: N))) ?_ ?_ (by rw [List.append_nil]; exact S2) Y.yields.rel ⟨rfl, .inl ⟨rfl, rfl, rfl⟩⟩
  · intro y vy rest tl tg loc' nw1 G' s1 hvy S1 hJ
    obtain ⟨rfl, ⟨hr, rfl, rfl⟩ | ⟨hr, _⟩⟩ := hJ
    · injection hr with hr1 hr2
      subst hr1 hr2 hvy
      have S' := S1
      clear S1 S2
      simp only [List.cons_append] at S'
      refine Sta.unpackT S' hA.handled (xs := [.str x tx, .str v tv]) (by walk_at "mem") (by kernel_rfl) (by kernel_rfl) ?_
      clear S'; intro s' S'
      refine assignInOrder_cons ?_
      refine assign_Name ?_
      repeat walk_at "cw"
      refine assignInOrder_cons ?_
      refine assign_Name ?_
      repeat walk_at "cw"
      refine assignInOrder_nil ?_
      refine wpAny_bind ?_
      repeat walk_at "cw"
      refine Sta.global S' I.g_escA (by kernel_rfl) ?_
      refine callW_1 (by rw [I.k]; kernel_rfl) ?_ (by kernel_rfl) (by kernel_rfl)
      repeat walk_at "cw"
      refine ⟨S'.kin, ?_⟩
      refine escA_ I S' (hA.le (by first | decide | omega)) (by unfold txtLine; omega) ?_
      clear S'; intro t2 s' S'
      repeat walk_at "cw"
      refine wpAny_bind (S'.append .head (by simp) fun s' S' => wpAny_pure ?_)
      refine ⟨([("k", some (.str x tx)), ("v", some (.str v tv))] : Loc), (b, IsLst [.str (attrTxt x v) t']) :: ((env1 L).locals, IsNs loc) :: (tp, IsTpl [.str x tx, .str v tv]) :: N, G', ?_, rfl, .inr ⟨rfl, some (.str x tx), some (.str v tv), t', rfl, rfl⟩⟩
      have e : attrTxt x v = Str.empty ++ " " ++ x ++ "=\"" ++ escA v ++ "\"" := by rw [Str.empty_append]; rfl
      rw [e]
      exact S'
    · cases hr
  · intro loc' nw1 G' s1 S1 hJ
    obtain ⟨rfl, ⟨hr, _⟩ | ⟨_, vk, vv, tt, rfl, rfl⟩⟩ := hJ
    · cases hr
    · have S2 := S1.tell (nw' := (b, IsTxts [attrTxt x v]) :: (((env1 L).locals, IsNs loc) :: (tp, IsTpl [.str x tx, .str v tv]) :: N) ++ [(al, IsLst [Value.ref tp])]) .head fun o _ ho => ⟨_, .cons _ _ .nil, ho⟩
      refine ⟨.next, ([("k", vk), ("v", vv)] : Loc), (b, IsTxts [attrTxt x v]) :: (al, IsLst [.ref tp]) :: (tp, IsTpl [.str x tx, .str v tv]) :: N, G', rfl, S2.perm (by walk_at "perm"), fun s3 S3 => k b s3 S3⟩
end
end
section
open PySem PySem.W PyProof.Rows PySem.W.X PySem.SeqAt
set_option maxRecDepth 100000
set_option linter.unusedVariables false
noncomputable def alLed (al tp : Addr) (tx tv : Tok) : Option (Str × Str) → Ledger
  | none => [(al, IsLst [])]
  | some (x, v) => [(al, IsLst [.ref tp]), (tp, IsTpl [.str x tx, .str v tv])]
noncomputable def atTxts : Option (Str × Str) → List Str
  | none => []
  | some (x, v) => [attrTxt x v]
noncomputable def atKeys : Option (Str × Str) → List Str
  | none => []
  | some (x, _) => [x]
noncomputable def atOk : Option (Str × Str) → Prop
  | none => True
  | some (x, v) => plainName x ∧ v.length ≤ txtLine
noncomputable def startTxts (tag : Str) (at_ : Option (Str × Str)) : List Str := ("<" ++ tag) :: (atTxts at_ ++ [(">" : Str)])
noncomputable abbrev spaceK : Str := "{http://www.w3.org/XML/1998/namespace}space"
theorem plain_space {x : Str} (h : plainName x) : x ≠ spaceK := by
  rintro rfl
  exact h.1 (by decide +kernel)
theorem attrTxt_len (x v : Str) : (attrTxt x v).length ≤ x.length + 6 * v.length + 4 := by
  have hl1 : (" " : Str).length = 1 := by decide +kernel
  have hl2 : ("=\"" : Str).length = 2 := by decide +kernel
  have hl3 : ("\"" : Str).length = 1 := by decide +kernel
  have hl4 := escA_len v
  unfold attrTxt
  simp only [Str.length_append]
  omega
theorem last_rep (n : Nat) : (List.replicate (n + 1) (Value.bool false)).getLast? = some (.bool false) := by
  rw [List.replicate_succ']; simp
section
variable {W : Wd} {G : Gens} {env : Env} {loc loc' : Loc} {nw nw' : Ledger} {s : Shared} {A : Around} {E : Value → Shared → Prop} {w : Wr} {et : Value} {q : Addr} {st : Ws} {N : Ledger}
theorem Sta.lenOf {a : Addr} {n : Nat} {c' : Cell} (S : Sta W G env loc nw s) (U : Upd a (IsLen n) c' nw nw') : ∃ xs nw1, xs.length = n ∧ Upd a (IsLen n) (IsLst xs) nw nw1 ∧ Upd a (IsLst xs) c' nw1 nw' ∧ Sta W G env loc nw1 s := by
  obtain ⟨o, ho, xs, hl, hx⟩ := S.get U.mem
  obtain ⟨nw1, U1, U2⟩ := U.via2 (IsLst xs)
  exact ⟨xs, nw1, hl, U1, U2, S.tell U1 fun o' ho' _ => by rw [ho] at ho'; cases ho'; exact hx⟩
theorem Sta.getM_len {name : Str} {a : Addr} {n : Nat} {Q : Value × List Value → Shared → Prop} {id : String} (S : Sta W G env loc nw s) (m : (a, IsLen n) ∈ nw) (slot : Slot "list" name id) (hty : typeOf (.builtin id) = pure (.type "method_descriptor")) (h : Q (.builtin id, [.ref a]) s) :
    GetM (model W.prog W.w) A E name (.ref a) Q s := by
  obtain ⟨o, ho, xs, hx, n, rfl⟩ := S.get m
  exact getM_builtin F.plainAttrs_list slot hty ⟨_, ho, rfl⟩ (fun b e => by cases e; exact ⟨_, ho, rfl⟩) h
theorem Sta.appendLen {a : Addr} {n : Nat} {v : Value} {Q : Value → Shared → Prop} (S : Sta W G env loc nw s) (U : Upd a (IsLen n) (IsLen (n + 1)) nw nw') (hz : n ≤ sizeLine) (h : ∀ s', Sta W G env loc nw' s' → Q .none s') :
    wpAny (model W.prog W.w) A (call (.builtin "list.append") [.ref a, v]) Q E s := by
  obtain ⟨xs, nw1, hl, U1, U2, S1⟩ := S.lenOf U
  obtain ⟨nw2, U3, U4⟩ := U2.via2 (IsLst (xs ++ [v]))
  exact S1.append U3 (by rw [hl]; exact hz) fun s' S2 => h _ (S2.tell U4 fun o _ ho => ⟨_, by simp [hl], ho⟩)
theorem Sta.popLen {a : Addr} {n : Nat} {Q : Value → Shared → Prop} (S : Sta W G env loc nw s) (U : Upd a (IsLen (n + 1)) (IsLen n) nw nw') (hz : n < sizeLine) (h : ∀ v s', Sta W G env loc nw' s' → Q v s') :
    wpAny (model W.prog W.w) A (call (.builtin "list.pop") [.ref a]) Q E s := by
  obtain ⟨xs, nw1, hl, U1, U2, S1⟩ := S.lenOf U
  obtain ⟨ys, v, rfl⟩ : ∃ ys v, xs = ys ++ [v] := by
    have hne : xs ≠ [] := fun e => by subst e; simp at hl
    exact ⟨xs.dropLast, xs.getLast hne, (List.dropLast_concat_getLast hne).symm⟩
  obtain ⟨nw2, U3, U4⟩ := U2.via2 (IsLst ys)
  have hy : ys.length = n := by simpa using hl
  exact S1.pop U3 (by rw [hy]; exact hz) fun s' S2 => h v _ (S2.tell U4 fun o _ ho => ⟨_, hy, ho⟩)
set_option maxHeartbeats 8000000 in
theorem startC_ {K : Sink W} {σ : K.σ} {L d nn c1 acc al tp : Addr} {tx tv : Tok} {at_ : Option (Str × Str)} {kvs : List (Str × Value)} {t : Tok} {vk vv vqs vrn van vuri vaq : Option Value} {p1 : Pq} {Q : Flow → Shared → Prop} (I : IsC W) (hA : Aok 14 A) (hself : CellOk (env1 L) .cell "self" c1) (pl : List Pq) (hv1 : valueAt (pqD pl) p1.x = some (.ref p1.a)) (hpl : plainName p1.x) (hat : atOk at_) (hsp : valueAt kvs spaceK = none) (hr : K.room σ 3) (hdp : st.dp ≤ 10000)
    (S' : Sta W G (env1 L) (loc1 p1.x t d nn vk vv vqs vrn (some .none) van (some (.ref acc)) vuri (some (.ref al)) vaq none none) (alLed al tp tx tv at_ ++ ((p1.a, IsTpl [.str p1.x p1.t, .str p1.x p1.t, .str "" p1.t2]) :: (acc, IsD W acc (pqD pl)) :: (c1, IsCel (some (.ref w.x))) :: (d, IsD W d kvs) :: wrLed w et K.q st (K.L σ ++ N))) s)
    (k : ∀ loc' s', Sta W G (env1 L) loc' (wrLed w et K.q { st with rs := true, dp := st.dp + 1 } (K.L (K.pushes σ (startTxts p1.x at_)) ++ N)) s' → Q .next s') :
    wpAny (model W.prog W.w) A (execs ((fnBody st_start1).drop 9) (env1 L)) Q E s := by
  have hcl := I.cl
  have hl1 : ("<" : Str).length = 1 := by decide +kernel
  have hl2 := hpl.2
  have hps : (List.replicate (st.dp + 1) (Value.bool false)).length ≤ sizeLine := by rw [List.length_replicate, sizeLine_eq]; omega
  have hls := last_rep st.dp
  have hr1 : K.room σ 1 := K.less (K.less hr)
  have hr2 : ∀ x, K.room (K.push σ x) 2 := fun x => K.step x hr
  have hr3 : ∀ x y, K.room (K.push (K.push σ x) y) 1 := fun x y => K.step y (hr2 x)
  simp only [loc1] at S'
  replace S' := S'.perm (nw' := (p1.a, IsTpl [.str p1.x p1.t, .str p1.x p1.t, .str "" p1.t2]) :: (acc, IsD W acc (pqD pl)) :: (c1, IsCel (some (.ref w.x))) :: (d, IsD W d kvs) :: wrLed w et K.q st (K.L σ ++ (alLed al tp tx tv at_ ++ N))) (by walk_at "perm")
  simp only [wrLed] at S'
  repeat walk_at "cw"
  refine Sta.getM_D S' (by walk_at "mem") F.slot_dict_get F.type_dict_get ?_
  repeat walk_at "cw"
  refine Sta.dictGet S' (by walk_at "mem") ?_
  clear S'; intro s' S'
  rw [hsp, Option.getD_none]
  repeat walk_at "cw"
  refine Subscript_any ?_ (by intro _ _; kernel_rfl)
  repeat walk_at "cw"
  refine Sta.sub_last S' (by walk_at "mem") hls ?_
  repeat walk_at "cw"
  refine Subscript_any ?_ (by intro _ _; kernel_rfl)
  refine Subscript_any ?_ (by intro _ _; kernel_rfl)
  repeat walk_at "cw"
  refine Sta.subD S' (by walk_at "mem") hv1 ?_
  clear S'; intro s' S'
  repeat walk_at "cw"
  refine Sta.sub_tuple S' (by walk_at "mem") (j := 0) rfl (by omega) rfl ?_
  repeat walk_at "cw"
  refine ⟨S'.sinkLed (L' := []) (by walk_at "mid"), ?_⟩
  refine S'.sink (hA.le (by first | decide | omega)) hr1 (by walk_at "mid") ?_
  clear S'; intro s' S'
  repeat walk_at "cw"
  cases at_ with
  | none =>
    simp only [alLed, List.cons_append, List.nil_append] at S'
    replace S' := Sta.pl (p := (al, IsLst [])) S' (by walk_at "pl")
    repeat walk_at "cw"
    refine ite_f ?_
    repeat walk_at "cw"
    refine ⟨S'.sinkLed (L' := []) (by walk_at "mid"), ?_⟩
    refine S'.sink (hA.le (by first | decide | omega)) (K.less (hr2 _)) (by walk_at "mid") ?_
    clear S'; intro s' S'
    repeat walk_at "cw"
    refine Sta.getM_len S' (by walk_at "mem") F.slot_list_append F.type_list_append ?_
    repeat walk_at "cw"
    refine Sta.appendLen S' (by walk_at "upd") (by rw [sizeLine_eq]; omega) ?_
    clear S'; intro s' S'
    repeat walk_at "cw"
    rw [← List.replicate_succ'] at S'
    exact k _ s' (S'.sel (Sel.drop (Sel.drop (Sel.drop (Sel.drop (Sel.drop (Sel.drop (Sel.refl _))))))))
  | some xv =>
    obtain ⟨x, v⟩ := xv
    simp only [alLed, List.cons_append, List.nil_append] at S'
    replace S' := Sta.pl (p := (tp, IsTpl [.str x tx, .str v tv])) S' (by walk_at "pl")
    replace S' := Sta.pl (p := (al, IsLst [.ref tp])) S' (by walk_at "pl")
    repeat walk_at "cw"
    refine ite_t ?_
    repeat walk_at "cw"
    refine getM_sjoin ?_
    refine callWith_m1 ?_ (by kernel_rfl) (by kernel_rfl)
    refine args_cons ?_ (by kernel_rfl)
    refine attrTxt_ (al := al) (tp := tp) I (hA.le (by first | decide | omega)) hat.1.2 hat.2 (by walk_at "mem") S' ?_
    clear S'; intro b s' S'
    refine args_nil ?_
    refine Sta.joinT S' (.head _) (by kernel_rfl) (by
      have h1 := hat.1.2
      have h2 := hat.2
      have h3 := attrTxt_len x v
      unfold txtLine at h2
      rw [cat_len]
      simp only [List.map_cons, List.map_nil, List.sum_cons, List.sum_nil]
      omega) ?_
    clear S'; intro t3 s' S'
    have ec : cat [attrTxt x v] = attrTxt x v := Str.append_empty _
    rw [ec]
    repeat walk_at "cw"
    refine ⟨S'.sinkLed (L' := []) (by walk_at "mid"), ?_⟩
    refine S'.sink (hA.le (by first | decide | omega)) (K.less (hr2 _)) (by walk_at "mid") ?_
    clear S'; intro s' S'
    repeat walk_at "cw"
    refine ⟨S'.sinkLed (L' := []) (by walk_at "mid"), ?_⟩
    refine S'.sink (hA.le (by first | decide | omega)) (hr3 _ _) (by walk_at "mid") ?_
    clear S'; intro s' S'
    repeat walk_at "cw"
    refine Sta.getM_len S' (by walk_at "mem") F.slot_list_append F.type_list_append ?_
    repeat walk_at "cw"
    refine Sta.appendLen S' (by walk_at "upd") (by rw [sizeLine_eq]; omega) ?_
    clear S'; intro s' S'
    repeat walk_at "cw"
    rw [← List.replicate_succ'] at S'
    exact k _ s' (S'.sel (Sel.drop (Sel.drop (Sel.drop (Sel.drop (Sel.drop (Sel.drop (Sel.drop (Sel.drop (Sel.refl _))))))))))
end
end
section
open PySem PySem.W PyProof.Rows PySem.W.X PySem.SeqAt
set_option maxRecDepth 100000
set_option linter.unusedVariables false
noncomputable def kvsOf (tv : Tok) : Option (Str × Str) → List (Str × Value)
  | none => []
  | some (x, v) => [(x, .str v tv)]
theorem kvsOf_keys (tv : Tok) (at_ : Option (Str × Str)) : (kvsOf tv at_).map (·.1) = atKeys at_ := by cases at_ <;> rfl
section
variable {W : Wd} {G : Gens} {env : Env} {loc loc' : Loc} {nw nw' : Ledger} {s : Shared} {A : Around} {E : Value → Shared → Prop} {w : Wr} {et : Value} {q : Addr} {st : Ws} {N : Ledger}
set_option maxHeartbeats 8000000 in
theorem start1_ {K : Sink W} {σ : K.σ} {d nn : Addr} {tag : Str} {t tv : Tok} {at_ : Option (Str × Str)} {c? : Option Addr} {Q : Value → Shared → Prop} (I : IsC W) (C : CodeHd W.B 125 123) (hA : Aok 24 A) (hnn : nn ∈ st.es) (htag : plainName tag) (hat : atOk at_) (hne : tag ∉ atKeys at_) (hr : K.room σ 3) (hdp : st.dp ≤ 10000)
    (S : Sta W G env loc ((d, IsD W d (kvsOf tv at_)) :: wrLed w et K.q st (K.L σ ++ (Tabs 123 lamP lamQ1 c? ++ N))) s)
    (k : ∀ c' s', Sta W G env loc (wrLed w et K.q { st with rs := true, dp := st.dp + 1 } (K.L (K.pushes σ (startTxts tag at_)) ++ (Tabs 123 lamP lamQ1 (some c') ++ N))) s' → Q .none s') :
    wpAny (model W.prog W.w) A (call (.ref 126) [.ref w.x, .str tag t, .ref d, .ref nn]) Q E s := by
  refine S.call_fnC (binds := [("self", .ref w.x), ("tag", .str tag t), ("attrs", .ref d), ("new_namespaces", .ref nn), ("qname_text", .none)]) [("tag", .str tag t), ("attrs", .ref d), ("new_namespaces", .ref nn), ("qname_text", .none)] ["k", "v", "qnames", "resolved_names", "qname", "qattrs", "attr_name", "value", "parsed_qnames", "uri", "attr_list", "attr_qname", "space_behaviour", "write"] [some (.ref w.x), none] I.f_start1 hA.room ?_ (by kernel_rfl) (by kernel_rfl) (by kernel_rfl) ?_
  · intro name doc pm ct an
    exact kp_binds S.kin fun S => by rw [I.k]; kernel_rfl
  intro L cs s' hcs S'
  have hnm : cellNames (fnScope st_start1).names = (["self", "parse_qname"] : List Str) := by kernel_rfl
  rw [hnm] at hcs
  obtain ⟨c1, c2, rfl, hself, hpq⟩ := hcs.two
  have hA' := hA.deeper (env := env1 L)
  simp only [mkLoc, List.map_cons, List.map_nil, List.cons_append, List.nil_append, cellLed] at S'
  have S2 := S'.perm (nw' := (c1, IsCel (some (.ref w.x))) :: (c2, IsCel none) :: (d, IsD W d (kvsOf tv at_)) :: wrLed w et K.q st (Tabs 123 lamP lamQ1 c? ++ ((env.locals, IsNs loc) :: (K.L σ ++ N)))) (by simp only [wrLed]; walk_at "perm")
  clear S'
  refine execs_go ?_
  have hkn : ((kvsOf tv at_).map (·.1)).Nodup := by cases at_ <;> simp [kvsOf]
  refine startA_ (kvs := kvsOf tv at_) I C (hA'.le (by first | decide | omega)) hself hpq hnn (by rw [kvsOf_keys]; exact hne) (by cases at_ <;> simp [kvsOf]) hkn (fun x hx => ?_) S2 ?_
  · rcases List.mem_cons.mp hx with rfl | hx
    · exact htag
    · cases at_ with
      | none => simp [kvsOf] at hx
      | some p => obtain ⟨y, v⟩ := p; simp [kvsOf] at hx; subst hx; exact hat.1
  intro acc al pl vqs vrn c' s3 hp S3
  rw [kvsOf_keys] at hp
  have hpn : ((pqD pl).map (·.1)).Nodup := by
    rw [pqD_keys]
    refine hp.nodup_iff.mpr (List.nodup_cons.mpr ⟨hne, ?_⟩)
    cases at_ <;> simp [atKeys]
  cases at_ with
  | none =>
    obtain ⟨p1, rfl, rfl⟩ := pq_one hp
    have hv1 : valueAt (pqD [p1]) p1.x = some (.ref p1.a) := valueAt_mem hpn (by simp [pqD])
    refine execs_at rfl ?_
    refine wpAny_If ?_
    refine isTrue_plain ?_ (by kernel_rfl)
    refine S3.local_ (by simp only [loc1]; walk_at "mem") ?_
    refine Sta.truthyD S3 (kvs := []) (.tail _ (.tail _ (.tail _ (.head _)))) (by simp) ?_
    intro s4 S4
    refine ite_f ?_
    refine wpAny_execs_nil ?_
    have S5 := S4.perm (nw' := alLed al 0 0 0 none ++ ((p1.a, IsTpl [.str p1.x p1.t, .str p1.x p1.t, .str "" p1.t2]) :: (acc, IsD W acc (pqD [p1])) :: (c1, IsCel (some (.ref w.x))) :: (d, IsD W d (kvsOf tv none)) :: wrLed w et K.q st (K.L σ ++ (Tabs 123 lamP lamQ1 (some c') ++ ((env.locals, IsNs loc) :: N))))) (by
      simp only [wrLed, alLed, pqLed, List.map_cons, List.map_nil]; walk_at "perm")
    refine startC_ (kvs := kvsOf tv none) I (hA'.le (by first | decide | omega)) hself [p1] hv1 htag hat (by rfl) hr hdp S5 ?_
    intro loc' s6 S6
    refine k c' s6 (Sta.back (S6.perm ?_) S.eok)
    simp only [wrLed]; walk_at "perm"
  | some xv =>
    obtain ⟨x, v⟩ := xv
    obtain ⟨p1, p2, h1, h2, hpp⟩ := pq_two hp
    subst h1
    have hv1 : valueAt (pqD pl) p1.x = some (.ref p1.a) := valueAt_mem hpn (List.mem_map.mpr ⟨p1, hpp.mem_iff.mpr (.head _), rfl⟩)
    have hv2 : valueAt (pqD pl) x = some (.ref p2.a) := by rw [← h2]; exact valueAt_mem hpn (List.mem_map.mpr ⟨p2, hpp.mem_iff.mpr (.tail _ (.head _)), rfl⟩)
    have hpL : List.Perm (pqLed pl) [(p1.a, IsTpl [.str p1.x p1.t, .str p1.x p1.t, .str "" p1.t2]), (p2.a, IsTpl [.str p2.x p2.t, .str p2.x p2.t, .str "" p2.t2])] := hpp.map _
    have S4 := S3.perm (nw' := (p2.a, IsTpl [.str p2.x p2.t, .str p2.x p2.t, .str "" p2.t2]) :: (al, IsLst []) :: (acc, IsD W acc (pqD pl)) :: (d, IsD W d [(x, .str v tv)]) :: ((p1.a, IsTpl [.str p1.x p1.t, .str p1.x p1.t, .str "" p1.t2]) :: (c1, IsCel (some (.ref w.x))) :: wrLed w et K.q st (K.L σ ++ (Tabs 123 lamP lamQ1 (some c') ++ ((env.locals, IsNs loc) :: N))))) (by
      refine List.Perm.trans (l₂ := pqLed pl ++ ((al, IsLst []) :: (acc, IsD W acc (pqD pl)) :: (d, IsD W d [(x, .str v tv)]) :: ((c1, IsCel (some (.ref w.x))) :: wrLed w et K.q st (K.L σ ++ (Tabs 123 lamP lamQ1 (some c') ++ ((env.locals, IsNs loc) :: N)))))) ?_ ((hpL.append_right _).trans ?_)
      · simp only [wrLed, kvsOf]; walk_at "perm"
      · simp only [wrLed]; walk_at "perm")
    refine startB_ (c1 := c1) I (hA'.le (by first | decide | omega)) pl hv2 h2 S4 ?_
    intro tp vk vv van vuri vaq tx s5 S5
    have S6 := S5.perm (nw' := alLed al tp tx tv (some (x, v)) ++ ((p1.a, IsTpl [.str p1.x p1.t, .str p1.x p1.t, .str "" p1.t2]) :: (acc, IsD W acc (pqD pl)) :: (c1, IsCel (some (.ref w.x))) :: (d, IsD W d (kvsOf tv (some (x, v)))) :: wrLed w et K.q st (K.L σ ++ (Tabs 123 lamP lamQ1 (some c') ++ ((env.locals, IsNs loc) :: N))))) (by
      simp only [wrLed, alLed, kvsOf]; walk_at "perm")
    refine startC_ (kvs := kvsOf tv (some (x, v))) I (hA'.le (by first | decide | omega)) hself pl hv1 htag hat (valueAt_none (by simp only [kvsOf, List.map_cons, List.map_nil, List.mem_singleton]; exact (plain_space hat.1).symm)) hr hdp S6 ?_
    intro loc' s7 S7
    refine k c' s7 (Sta.back (S7.perm ?_) S.eok)
    simp only [wrLed]; walk_at "perm"
end
end
section
open PySem PySem.W PyProof.Rows PySem.W.X PySem.SeqAt
set_option maxRecDepth 100000
set_option linter.unusedVariables false
noncomputable def Ws.started (st : Ws) (nn : Addr) : Ws := { st with held := [], es := st.es ++ [nn], rs := true, dp := st.dp + 1 }
noncomputable abbrev envS (L : Addr) : Env := envOf "C14NWriterTarget.start" (fnScope st_start) L 120 (.ref 119)
noncomputable abbrev locS (w : Wr) (tag : Str) (t : Tok) (d : Addr) (vn : Option Value) : Loc := [("self", some (.ref w.x)), ("tag", some (.str tag t)), ("attrs", some (.ref d)), ("new_namespaces", vn)]
theorem room_le {W : Wd} (K : Sink W) {σ : K.σ} {n m : Nat} (h : n ≤ m) (hr : K.room σ m) : K.room σ n := by
  induction m with
  | zero => have : n = 0 := by omega
            subst this; exact hr
  | succ m ih =>
    by_cases e : n = m + 1
    · subst e; exact hr
    · exact ih (by omega) (K.less hr)
theorem room_pushes {W : Wd} (K : Sink W) : ∀ (xs : List Str) {σ : K.σ} {n : Nat}, K.room σ (n + xs.length) → K.room (K.pushes σ xs) n
  | [], σ, n, h => h
  | x :: r, σ, n, h => room_pushes K r (σ := K.push σ x) (K.step x (by simpa [Nat.add_assoc] using h))
theorem flushed_len (held : List Str) : (flushed held).length ≤ 1 := by unfold flushed; split <;> simp
theorem room_fl {W : Wd} (K : Sink W) {σ : K.σ} {n : Nat} (held : List Str) (h : K.room σ (n + 1)) : K.room (K.pushes σ (flushed held)) n := room_pushes K _ (room_le K (by have := flushed_len held; omega) h)
theorem esLed_snoc (es : List Addr) (a : Addr) : esLed (es ++ [a]) = esLed es ++ [(a, IsLst [])] := by simp [esLed]
section
variable {W : Wd} {G : Gens} {env : Env} {loc loc' : Loc} {nw nw' : Ledger} {s : Shared} {A : Around} {E : Value → Shared → Prop} {w : Wr} {et : Value} {q : Addr} {st : Ws} {N : Ledger}
set_option maxHeartbeats 8000000 in
/-- the held text let out, as every method does it -/
theorem flushNow_ {K : Sink W} {σ : K.σ} {pos apos opos : Pos} {Q : Value → Shared → Prop} (I : IsC W) (hA : Aok 5 A) (hs : (("self" : Str), some (Value.ref w.x)) ∈ loc) (hrs : st.rs = true) (hz : st.held.length ≤ sizeLine) (hc : (cat st.held).length ≤ txtLine) (hr : K.room σ 1)
    (hb : attributeBase (.Name "self" opos) "_flush" env (eval (.Name "self" opos) env) = eval (.Name "self" opos) env) (hf : methodCallForm (([] : List Expr).length + ([] : List Keyword).length) (backTo pos (starEach [] env)) (backToKw pos (keywordEach [] env)) = true) (hl : (apos.endLine == pos.line) = true)
    (S : Sta W G env loc (wrLed w et K.q st (K.L σ ++ N)) s)
    (k : ∀ s', Sta W G env loc (wrLed w et K.q { st with held := [] } (K.L (K.pushes σ (flushed st.held)) ++ N)) s' → Q .none s') :
    wpAny (model W.prog W.w) A (eval (.Call (.Attribute (.Name "self" opos) "_flush" apos) [] [] pos) env) Q E s := by
  have hcl := I.cl
  refine Call_m ?_ hb hf hl
  refine S.local_ hs ?_
  refine Sta.getM_inst (f := 106) S hcl (by walk_at "mem") (by walk_at "mem") VV.keys (by decide +kernel) (by rw [I.k]; kernel_rfl) (by rw [I.k]; kernel_rfl) ?_
  refine callW0 (by rw [I.k]; kernel_rfl) S.kin ?_
  exact flush_ I S hA hrs hz hc hr k
set_option maxHeartbeats 8000000 in
theorem startS_ {K : Sink W} {σ : K.σ} {L d : Addr} {tag : Str} {t tv : Tok} {at_ : Option (Str × Str)} {c? : Option Addr} {Q : Flow → Shared → Prop} (I : IsC W) (C : CodeHd W.B 125 123) (hA : Aok 26 A) (htag : plainName tag) (hat : atOk at_) (hne : tag ∉ atKeys at_) (hh : st.held = [] ∨ st.rs = true) (hz : st.held.length ≤ sizeLine) (hc : (cat st.held).length ≤ txtLine) (hr : K.room σ 4) (hdp : st.dp ≤ 10000) (hes : st.es.length ≤ 10000)
    (S' : Sta W G (envS L) (locS w tag t d none) ((d, IsD W d (kvsOf tv at_)) :: wrLed w et K.q st (K.L σ ++ (Tabs 123 lamP lamQ1 c? ++ N))) s)
    (k : ∀ nn c' loc' s', Sta W G (envS L) loc' (wrLed w et K.q (st.started nn) (K.L (K.pushes σ (flushed st.held ++ startTxts tag at_)) ++ (Tabs 123 lamP lamQ1 (some c') ++ N))) s' → Q .next s') :
    wpAny (model W.prog W.w) A (execs ((fnBody st_start).drop 1) (envS L)) Q E s := by
  have hcl := I.cl
  have rest : ∀ s', Sta W G (envS L) (locS w tag t d none) ((d, IsD W d (kvsOf tv at_)) :: wrLed w et K.q { st with held := [] } (K.L (K.pushes σ (flushed st.held)) ++ (Tabs 123 lamP lamQ1 c? ++ N))) s' → wpAny (model W.prog W.w) A (execs ((fnBody st_start).drop 2) (envS L)) Q E s' := by
    clear S'
    intro s' S'
    have hdz : (Value.ref w.a0 :: st.es.map Value.ref).length ≤ sizeLine := by rw [sizeLine_eq]; simp; omega
    simp only [locS, wrLed] at S'
    repeat walk_at "cw"
    refine Sta.getM_inst (f := 126) S' hcl (by walk_at "mem") (by walk_at "mem") VV.keys (by decide +kernel) (by rw [I.k]; kernel_rfl) (by rw [I.k]; kernel_rfl) ?_
    refine callW_m (by rw [I.k]; kernel_rfl) ?_ (by kernel_rfl) (by kernel_rfl)
    repeat walk_at "cw"
    refine ⟨S'.kin, ?_⟩
    have S2 := S'.perm (nw' := (d, IsD W d (kvsOf tv at_)) :: wrLed w et K.q { st with held := [], es := st.es ++ [a'] } (K.L (K.pushes σ (flushed st.held)) ++ (Tabs 123 lamP lamQ1 c? ++ N))) (by
      simp only [wrLed, esLed_snoc, List.map_append, List.map_cons, List.map_nil, List.cons_append]; walk_at "perm")
    refine start1_ I C (hA.le (by first | decide | omega)) (show a' ∈ ({ st with held := [], es := st.es ++ [a'] } : Ws).es from List.mem_append_right _ (.head _)) htag hat hne (room_fl K _ hr) hdp S2 ?_
    clear S'; intro c' s' S'
    repeat walk_at "cw"
    refine k a' c' (locS w tag t d (some (.ref a'))) s' ?_
    rw [K.pushes_append]
    exact S'
  refine execs_at rfl ?_
  refine wpAny_If ?_
  refine isTrue_plain ?_ (by kernel_rfl)
  simp only [wrLed] at S'
  refine Attribute_ ?_ (by kernel_rfl)
  refine S'.local_ (.head _) ?_
  walk_at "cw"
  walk_at "cw"
  cases hd : st.held with
  | nil =>
    rw [hd] at S' rest
    refine ite_f ?_
    refine wpAny_execs_nil ?_
    exact rest _ S'
  | cons y r =>
    have hrs : st.rs = true := hh.resolve_left (by rw [hd]; simp)
    refine ite_t ?_
    refine wpAny_execs_cons ?_
    refine wpAny_Expr_any ?_ (by kernel_rfl) (by kernel_rfl)
    have S2 := S'.perm (nw' := wrLed w et K.q st (K.L σ ++ ((d, IsD W d (kvsOf tv at_)) :: (Tabs 123 lamP lamQ1 c? ++ N)))) (by simp only [wrLed]; walk_at "perm")
    refine flushNow_ I (hA.le (by first | decide | omega)) (.head _) hrs hz hc (room_le K (by omega) hr) (by kernel_rfl) (by kernel_rfl) (by kernel_rfl) S2 ?_
    intro s2 S3
    refine wpAny_execs_nil ?_
    exact rest _ (S3.perm (by walk_at "perm"))
end
end
section
open PySem PySem.W PyProof.Rows PySem.W.X PySem.SeqAt
set_option maxRecDepth 100000
set_option linter.unusedVariables false
section
variable {W : Wd} {G : Gens} {env : Env} {loc loc' : Loc} {nw nw' : Ledger} {s : Shared} {A : Around} {E : Value → Shared → Prop} {w : Wr} {et : Value} {q : Addr} {st : Ws} {N : Ledger}
set_option maxHeartbeats 8000000 in
/-- a start where tags are left out: a real one -/
theorem startX_ {K : Sink W} {σ : K.σ} {d xt : Addr} {T : Str → Bool} {tag : Str} {t tv : Tok} {at_ : Option (Str × Str)} {c? : Option Addr} {Q : Value → Shared → Prop} (I : IsC W) (C : CodeHd W.B 125 123) (hA : Aok 27 A) (htag : plainName tag) (hat : atOk at_) (hne : tag ∉ atKeys at_) (hh : st.held = [] ∨ st.rs = true) (hz : st.held.length ≤ sizeLine) (hc : (cat st.held).length ≤ txtLine) (hr : K.room σ 4) (hdp : st.dp ≤ 10000) (hes : st.es.length ≤ 10000)
    (hig : st.ig = 0) (hT : T tag = false)
    (S : Sta W G env loc ((d, IsD W d (kvsOf tv at_)) :: wrLed w (.ref xt) K.q st (K.L σ ++ (Tabs 123 lamP lamQ1 c? ++ ((xt, IsSS W T 1) :: N)))) s)
    (k : ∀ nn c' s', Sta W G env loc (wrLed w (.ref xt) K.q (st.started nn) (K.L (K.pushes σ (flushed st.held ++ startTxts tag at_)) ++ (Tabs 123 lamP lamQ1 (some c') ++ ((xt, IsSS W T 1) :: N)))) s' → Q .none s') :
    wpAny (model W.prog W.w) A (call (.ref 120) [.ref w.x, .str tag t, .ref d]) Q E s := by
  refine S.call_fn (binds := [("self", .ref w.x), ("tag", .str tag t), ("attrs", .ref d)]) ["new_namespaces"] I.f_start hA.room (fun _ _ _ _ _ => BindsTo.of_eq (by kernel_rfl)) (by kernel_rfl) ?_
  intro L s' S'
  have hA' := hA.deeper (env := envS L)
  simp only [mkLoc, List.map_cons, List.map_nil, List.cons_append, List.nil_append] at S'
  have hcl := I.cl
  have e0 : ((st.ig : Int) != 0) = false := by rw [hig]; rfl
  replace S' := S'.perm (nw' := (xt, IsSS W T 1) :: (d, IsD W d (kvsOf tv at_)) :: wrLed w (.ref xt) K.q st (K.L σ ++ (Tabs 123 lamP lamQ1 c? ++ ((env.locals, IsNs loc) :: N)))) (by walk_at "perm")
  refine execs_go ?_
  refine execs_at rfl ?_
  refine wpAny_If ?_
  repeat walk_at "cw"
  rw [e0]
  repeat walk_at "cw"
  refine Sta.inSet S' (by walk_at "mem") (by decide) ?_
  clear S'; intro s' S'
  rw [hT]
  iterate 5 walk_at "cw"
  refine wpAny_execs_nil ?_
  have S2 := S'.perm (nw' := (d, IsD W d (kvsOf tv at_)) :: wrLed w (.ref xt) K.q st (K.L σ ++ (Tabs 123 lamP lamQ1 c? ++ ((xt, IsSS W T 1) :: (env.locals, IsNs loc) :: N)))) (by walk_at "perm")
  refine startS_ I C (hA'.le (by first | decide | omega)) htag hat hne hh hz hc hr hdp hes S2 ?_
  intro nn c' loc' s3 S3
  exact k nn c' s3 (Sta.back (S3.perm (by walk_at "perm")) S.eok)
set_option maxHeartbeats 8000000 in
/-- a start that is left out -/
theorem startI_ {q d xt : Addr} {T : Str → Bool} {tag : Str} {t : Tok} {Q : Value → Shared → Prop} (I : IsC W) (hA : Aok 3 A) (hT : st.ig ≠ 0 ∨ T tag = true)
    (S : Sta W G env loc (wrLed w (.ref xt) q st ((xt, IsSS W T 1) :: N)) s)
    (k : ∀ ti s', Sta W G env loc (wrLed w (.ref xt) q { st with ig := st.ig + 1, ti := ti } ((xt, IsSS W T 1) :: N)) s' → Q .none s') :
    wpAny (model W.prog W.w) A (call (.ref 120) [.ref w.x, .str tag t, .ref d]) Q E s := by
  refine S.call_fn (binds := [("self", .ref w.x), ("tag", .str tag t), ("attrs", .ref d)]) ["new_namespaces"] I.f_start hA.room (fun _ _ _ _ _ => BindsTo.of_eq (by kernel_rfl)) (by kernel_rfl) ?_
  intro L s' S'
  have hA' := hA.deeper (env := envS L)
  simp only [mkLoc, List.map_cons, List.map_nil, List.cons_append, List.nil_append] at S'
  have hcl := I.cl
  replace S' := S'.perm (nw' := (xt, IsSS W T 1) :: (env.locals, IsNs loc) :: wrLed w (.ref xt) q st N) (by walk_at "perm")
  refine execs_go ?_
  refine execs_at rfl ?_
  refine wpAny_If ?_
  repeat walk_at "cw"
  have ei : ((st.ig : Int) + 1) = ((st.ig + 1 : Nat) : Int) := by omega
  by_cases hi : st.ig = 0
  · have e0 : ((st.ig : Int) != 0) = false := by rw [hi]; rfl
    rw [e0]
    repeat walk_at "cw"
    refine Sta.inSet S' (by walk_at "mem") (by decide) ?_
    clear S'; intro s' S'
    rw [hT.resolve_left (fun h => h hi)]
    repeat walk_at "cw"
    rw [ei] at S'
    exact k _ s' (Sta.back (S'.perm (by walk_at "perm")) S.eok)
  · have e0 : ((st.ig : Int) != 0) = true := bne_iff_ne.mpr (by omega)
    rw [e0]
    repeat walk_at "cw"
    rw [ei] at S'
    exact k _ s' (Sta.back (S'.perm (by walk_at "perm")) S.eok)
end
end
section
open PySem PySem.W PyProof.Rows PySem.W.X PySem.SeqAt
set_option maxRecDepth 100000
set_option linter.unusedVariables false
noncomputable def endTxt (tag : Str) : Str := "</" ++ tag ++ ">"
noncomputable def comTxt (x : Str) : Str := "<!--" ++ escC x ++ "-->"
noncomputable def piTxt (tg x : Str) : Str := if x.length = 0 then "<?" ++ tg ++ "?>" else "<?" ++ tg ++ " " ++ escC x ++ "?>"
theorem escC_len (v : Str) : (escC v).length ≤ 6 * v.length := mapS_len _ 6 fC_len v
section
variable {W : Wd} {G : Gens} {env : Env} {loc loc' : Loc} {nw nw' : Ledger} {s : Shared} {A : Around} {E : Value → Shared → Prop} {w : Wr} {et : Value} {q : Addr} {st : Ws} {N : Ledger}
set_option maxHeartbeats 8000000 in
/-- an end within what is left out -/
theorem endI_ {tag : Str} {t : Tok} {Q : Value → Shared → Prop} (I : IsC W) (hA : Aok 3 A) (hig : st.ig ≠ 0) (S : Sta W G env loc (wrLed w et q st N) s)
    (k : ∀ ti s', Sta W G env loc (wrLed w et q { st with ig := st.ig - 1, ti := ti } N) s' → Q .none s') :
    wpAny (model W.prog W.w) A (call (.ref 133) [.ref w.x, .str tag t]) Q E s := by
  refine S.call_fn (binds := [("self", .ref w.x), ("tag", .str tag t)]) [] I.f_end hA.room (fun _ _ _ _ _ => BindsTo.of_eq (by kernel_rfl)) (by kernel_rfl) ?_
  intro L s' S'
  simp only [mkLoc, List.map_cons, List.map_nil, List.cons_append, List.nil_append] at S'
  have hcl := I.cl
  have e0 : ((st.ig : Int) != 0) = true := bne_iff_ne.mpr (by omega)
  have ei : ((st.ig : Int) - 1) = ((st.ig - 1 : Nat) : Int) := by omega
  refine execs_go ?_
  repeat walk_at "cw"
  rw [e0]
  repeat walk_at "cw"
  rw [ei] at S'
  exact k _ s' (Sta.back S' S.eok)
set_option maxHeartbeats 8000000 in
theorem end_ {K : Sink W} {σ : K.σ} {tag : Str} {t : Tok} {es0 : List Addr} {a : Addr} {dp0 : Nat} {Q : Value → Shared → Prop} (I : IsC W) (hA : Aok 16 A) (htag : plainName tag) (hig : st.ig = 0) (hrs : st.rs = true) (hz : st.held.length ≤ sizeLine) (hc : (cat st.held).length ≤ txtLine) (hr : K.room σ 2) (hes : st.es = es0 ++ [a]) (hd : st.dp = dp0 + 1) (hdp : dp0 ≤ 10000) (hel : es0.length ≤ 10000)
    (S : Sta W G env loc (wrLed w et K.q st (K.L σ ++ N)) s)
    (k : ∀ s', Sta W G env loc (wrLed w et K.q { st with held := [], es := es0, dp := dp0, rd := decide (dp0 = 0) } (K.L (K.pushes σ (flushed st.held ++ [endTxt tag])) ++ N)) s' → Q .none s') :
    wpAny (model W.prog W.w) A (call (.ref 133) [.ref w.x, .str tag t]) Q E s := by
  refine S.call_fn (binds := [("self", .ref w.x), ("tag", .str tag t)]) [] I.f_end hA.room (fun _ _ _ _ _ => BindsTo.of_eq (by kernel_rfl)) (by kernel_rfl) ?_
  intro L s' S'
  have hA' := hA.deeper (env := envOf "C14NWriterTarget.end" (fnScope st_end) L 133 (.ref 132))
  simp only [mkLoc, List.map_cons, List.map_nil, List.cons_append, List.nil_append] at S'
  have hcl := I.cl
  have e0 : ((st.ig : Int) != 0) = false := by rw [hig]; rfl
  have hl1 : ("</" : Str).length = 2 := by decide +kernel
  have hl2 : (">" : Str).length = 1 := by decide +kernel
  have hl3 := htag.2
  have rest : ∀ s', Sta W G (envOf "C14NWriterTarget.end" (fnScope st_end) L 133 (.ref 132)) ([("self", some (.ref w.x)), ("tag", some (.str tag t))] : Loc) ((env.locals, IsNs loc) :: wrLed w et K.q { st with held := [] } (K.L (K.pushes σ (flushed st.held)) ++ N)) s' →
      wpAny (model W.prog W.w) (A.deeper (envOf "C14NWriterTarget.end" (fnScope st_end) L 133 (.ref 132))) (execs ((fnBody st_end).drop 2) (envOf "C14NWriterTarget.end" (fnScope st_end) L 133 (.ref 132))) (fun fl s'' => Q (match fl with | .ret v => v | _ => .none) s'') (fun _ _ => False) s' := by
    clear S'
    intro s' S'
    repeat walk_at "cw"
    refine Subscript_any ?_ (by intro _ _; kernel_rfl)
    repeat walk_at "cw"
    refine Sta.getM_inst (f := 90) S' hcl (by walk_at "mem") (by walk_at "mem") VV.keys (by decide +kernel) (by rw [I.k]; kernel_rfl) (by rw [I.k]; kernel_rfl) ?_
    refine callW_m (by rw [I.k]; kernel_rfl) ?_ (by kernel_rfl) (by kernel_rfl)
    repeat walk_at "cw"
    refine ⟨S'.kin, ?_⟩
    refine qname_ (st := { st with held := [] }) I (S'.perm (nw' := wrLed w et K.q { st with held := [] } ((env.locals, IsNs loc) :: (K.L (K.pushes σ (flushed st.held)) ++ N))) (by walk_at "perm")) (hA'.le (by first | decide | omega)) htag ?_
    clear S'; intro tp t2 s' S'
    repeat walk_at "cw"
    refine Sta.sub_tuple S' (.head _) (j := 0) rfl (by omega) rfl ?_
    repeat walk_at "cw"
    rw [Str.empty_append]
    refine ⟨S'.sinkLed (L' := []) (by walk_at "mid"), ?_⟩
    refine S'.sink (hA'.le (by first | decide | omega)) (room_fl K _ hr) (by walk_at "mid") ?_
    clear S'; intro s' S'
    simp only [hes, hd, List.map_append, List.map_cons, List.map_nil] at S'
    rw [show List.replicate (dp0 + 1 + 1) (Value.bool false) = List.replicate (dp0 + 1) (.bool false) ++ [.bool false] from List.replicate_succ', ← List.cons_append] at S'
    have hz1 : (List.replicate (dp0 + 1) (Value.bool false)).length < sizeLine := by rw [List.length_replicate, sizeLine_eq]; omega
    have hz3 : (List.replicate (dp0 + 1) (Value.bool false)).length ≤ sizeLine := by omega
    have hz2 : (Value.ref w.a0 :: es0.map Value.ref).length < sizeLine := by rw [sizeLine_eq]; simp; omega
    repeat walk_at "cw"
    refine Sta.pop S' (by walk_at "upd") hz1 ?_
    clear S'; intro s' S'
    repeat walk_at "cw"
    refine Sta.builtin S' I.b_len bo_len (by kernel_rfl) ?_
    repeat walk_at "cw"
    refine Sta.len S' (by walk_at "mem") hz3 ?_
    clear S'; intro t3 s' S'
    repeat walk_at "cw"
    refine Sta.pop S' (by walk_at "upd") hz2 ?_
    clear S'; intro s' S'
    repeat walk_at "cw"
    refine Sta.getM_len S' (by walk_at "mem") F.slot_list_pop F.type_list_pop ?_
    repeat walk_at "cw"
    refine Sta.popLen (n := dp0 + 2) S' (by walk_at "upd") (by rw [sizeLine_eq]; omega) ?_
    clear S'; intro _ s' S'
    repeat walk_at "cw"
    have er : ((((List.replicate (dp0 + 1) (Value.bool false)).length : Nat) : Int) == 1) = decide (dp0 = 0) := by
      rw [List.length_replicate]
      by_cases h : dp0 = 0
      · subst h; rfl
      · rw [decide_eq_false h]; exact beq_eq_false_iff_ne.mpr (by omega)
    rw [er] at S'
    refine k s' (Sta.back (S'.sel ?_) S.eok)
    rw [K.pushes_append]
    refine Sel.trans (Sel.of_perm (L2 := (tp, IsTpl [.str tag t, .str tag t, .str "" t2]) :: (a, IsLst []) :: (env.locals, IsNs loc) :: wrLed w et K.q { st with held := [], es := es0, dp := dp0, rd := decide (dp0 = 0) } (K.L (K.pushes (K.pushes σ (flushed st.held)) [endTxt tag]) ++ N)) ?_) (Sel.drop (Sel.drop (Sel.refl _)))
    simp only [esLed_snoc]
    show List.Perm _ _
    walk_at "perm"
  refine execs_go ?_
  refine execs_at rfl ?_
  refine wpAny_If ?_
  iterate 5 walk_at "cw"
  rw [e0]
  refine ite_f ?_
  refine wpAny_execs_nil ?_
  refine execs_at rfl ?_
  refine wpAny_If ?_
  refine isTrue_plain ?_ (by kernel_rfl)
  iterate 4 walk_at "cw"
  cases hd2 : st.held with
  | nil =>
    simp only [wrLed] at S'
    rw [hd2] at S' rest
    refine ite_f ?_
    refine wpAny_execs_nil ?_
    exact rest _ S'
  | cons y r =>
    refine ite_t ?_
    refine wpAny_execs_cons ?_
    refine wpAny_Expr_any ?_ (by kernel_rfl) (by kernel_rfl)
    have S2 := S'.perm (nw' := wrLed w et K.q st (K.L σ ++ ((env.locals, IsNs loc) :: N))) (by walk_at "perm")
    refine flushNow_ I (hA'.le (by first | decide | omega)) (.head _) hrs hz hc (room_le K (by omega) hr) (by kernel_rfl) (by kernel_rfl) (by kernel_rfl) S2 ?_
    intro s2 S3
    refine wpAny_execs_nil ?_
    exact rest _ (S3.perm (by walk_at "perm"))
end
end
section
open PySem PySem.W PyProof.Rows PySem.W.X PySem.SeqAt
set_option maxRecDepth 100000
set_option linter.unusedVariables false
section
variable {W : Wd} {G : Gens} {env : Env} {loc loc' : Loc} {nw nw' : Ledger} {s : Shared} {A : Around} {E : Value → Shared → Prop} {w : Wr} {et : Value} {q : Addr} {st : Ws} {N : Ledger}
set_option maxHeartbeats 8000000 in
theorem commentI_ {x : Str} {t : Tok} {Q : Value → Shared → Prop} (I : IsC W) (hA : Aok 3 A) (hig : st.ig ≠ 0) (S : Sta W G env loc (wrLed w et q st N) s)
    (k : ∀ s', Sta W G env loc (wrLed w et q st N) s' → Q .none s') :
    wpAny (model W.prog W.w) A (call (.ref 140) [.ref w.x, .str x t]) Q E s := by
  refine S.call_fn (binds := [("self", .ref w.x), ("text", .str x t)]) [] I.f_comment hA.room (fun _ _ _ _ _ => BindsTo.of_eq (by kernel_rfl)) (by kernel_rfl) ?_
  intro L s' S'
  simp only [mkLoc, List.map_cons, List.map_nil, List.cons_append, List.nil_append] at S'
  have hcl := I.cl
  have e0 : ((st.ig : Int) != 0) = true := bne_iff_ne.mpr (by omega)
  refine execs_go ?_
  repeat walk_at "cw"
  rw [e0]
  repeat walk_at "cw"
  exact k s' (Sta.back S' S.eok)
set_option maxHeartbeats 8000000 in
theorem piI_ {tg x : Str} {t u : Tok} {Q : Value → Shared → Prop} (I : IsC W) (hA : Aok 3 A) (hig : st.ig ≠ 0) (S : Sta W G env loc (wrLed w et q st N) s)
    (k : ∀ s', Sta W G env loc (wrLed w et q st N) s' → Q .none s') :
    wpAny (model W.prog W.w) A (call (.ref 147) [.ref w.x, .str tg u, .str x t]) Q E s := by
  refine S.call_fn (binds := [("self", .ref w.x), ("target", .str tg u), ("data", .str x t)]) [] I.f_pi hA.room (fun _ _ _ _ _ => BindsTo.of_eq (by kernel_rfl)) (by kernel_rfl) ?_
  intro L s' S'
  simp only [mkLoc, List.map_cons, List.map_nil, List.cons_append, List.nil_append] at S'
  have hcl := I.cl
  have e0 : ((st.ig : Int) != 0) = true := bne_iff_ne.mpr (by omega)
  refine execs_go ?_
  repeat walk_at "cw"
  rw [e0]
  repeat walk_at "cw"
  exact k s' (Sta.back S' S.eok)
set_option maxHeartbeats 8000000 in
/-- a comment in the root -/
theorem comment_ {K : Sink W} {σ : K.σ} {x : Str} {t : Tok} {Q : Value → Shared → Prop} (I : IsC W) (hA : Aok 8 A) (hx : x.length ≤ txtLine) (hig : st.ig = 0) (hrs : st.rs = true) (hrd : st.rd = false) (hz : st.held.length ≤ sizeLine) (hc : (cat st.held).length ≤ txtLine) (hr : K.room σ 2)
    (S : Sta W G env loc (wrLed w et K.q st (K.L σ ++ N)) s)
    (k : ∀ s', Sta W G env loc (wrLed w et K.q { st with held := [] } (K.L (K.pushes σ (flushed st.held ++ [comTxt x])) ++ N)) s' → Q .none s') :
    wpAny (model W.prog W.w) A (call (.ref 140) [.ref w.x, .str x t]) Q E s := by
  refine S.call_fn (binds := [("self", .ref w.x), ("text", .str x t)]) [] I.f_comment hA.room (fun _ _ _ _ _ => BindsTo.of_eq (by kernel_rfl)) (by kernel_rfl) ?_
  intro L s' S'
  have hA' := hA.deeper (env := envOf "C14NWriterTarget.comment" (fnScope st_comment) L 140 (.ref 139))
  simp only [mkLoc, List.map_cons, List.map_nil, List.cons_append, List.nil_append] at S'
  have hcl := I.cl
  have e0 : ((st.ig : Int) != 0) = false := by rw [hig]; rfl
  have hl1 : ("<!--" : Str).length = 4 := by decide +kernel
  have hl2 : ("-->" : Str).length = 3 := by decide +kernel
  have hl3 := escC_len x
  have hx' : x.length ≤ 300000 := hx
  have rest : ∀ s', Sta W G (envOf "C14NWriterTarget.comment" (fnScope st_comment) L 140 (.ref 139)) ([("self", some (.ref w.x)), ("text", some (.str x t))] : Loc) ((env.locals, IsNs loc) :: wrLed w et K.q { st with held := [] } (K.L (K.pushes σ (flushed st.held)) ++ N)) s' →
      wpAny (model W.prog W.w) (A.deeper (envOf "C14NWriterTarget.comment" (fnScope st_comment) L 140 (.ref 139))) (execs ((fnBody st_comment).drop 3) (envOf "C14NWriterTarget.comment" (fnScope st_comment) L 140 (.ref 139))) (fun fl s'' => Q (match fl with | .ret v => v | _ => .none) s'') (fun _ _ => False) s' := by
    clear S'
    intro s' S'
    repeat walk_at "cw"
    refine Sta.global S' I.g_escC (by kernel_rfl) ?_
    refine callW_1 (by rw [I.k]; kernel_rfl) ?_ (by kernel_rfl) (by kernel_rfl)
    repeat walk_at "cw"
    refine ⟨S'.kin, ?_⟩
    refine escC_ I S' (hA'.le (by first | decide | omega)) hx ?_
    clear S'; intro t2 s' S'
    repeat walk_at "cw"
    rw [Str.empty_append]
    refine ⟨S'.sinkLed (L' := []) (by walk_at "mid"), ?_⟩
    refine S'.sink (hA'.le (by first | decide | omega)) (room_fl K _ hr) (by walk_at "mid") ?_
    clear S'; intro s' S'
    repeat walk_at "cw"
    rw [hrs]
    repeat walk_at "cw"
    have S2 := Sta.back S' S.eok
    refine k s' ?_
    rw [K.pushes_append]
    exact S2
  refine execs_go ?_
  repeat walk_at "cw"
  rw [e0]
  repeat walk_at "cw"
  rw [hrd]
  repeat walk_at "cw"
  rw [hrs]
  iterate 7 walk_at "cw"
  cases hd2 : st.held with
  | nil =>
    simp only [wrLed] at S'
    rw [hd2] at S' rest
    refine ite_f ?_
    refine ite_f ?_
    refine wpAny_execs_nil ?_
    refine wpAny_execs_nil ?_
    exact rest _ S'
  | cons y r =>
    refine ite_t ?_
    refine isTrue_and_nil ?_
    refine ite_t ?_
    refine wpAny_execs_cons ?_
    refine wpAny_Expr_any ?_ (by kernel_rfl) (by kernel_rfl)
    have S2 := S'.perm (nw' := wrLed w et K.q st (K.L σ ++ ((env.locals, IsNs loc) :: N))) (by walk_at "perm")
    refine flushNow_ I (hA'.le (by first | decide | omega)) (.head _) hrs hz hc (room_le K (by omega) hr) (by kernel_rfl) (by kernel_rfl) (by kernel_rfl) S2 ?_
    intro s2 S3
    refine wpAny_execs_nil ?_
    refine wpAny_execs_nil ?_
    exact rest _ (S3.perm (by walk_at "perm"))
set_option maxHeartbeats 8000000 in
/-- an instruction in the root -/
theorem pi_ {K : Sink W} {σ : K.σ} {tg x : Str} {t u : Tok} {Q : Value → Shared → Prop} (I : IsC W) (hA : Aok 8 A) (htg : tg.length ≤ 1000) (hx : x.length ≤ txtLine) (hig : st.ig = 0) (hrs : st.rs = true) (hrd : st.rd = false) (hz : st.held.length ≤ sizeLine) (hc : (cat st.held).length ≤ txtLine) (hr : K.room σ 2)
    (S : Sta W G env loc (wrLed w et K.q st (K.L σ ++ N)) s)
    (k : ∀ s', Sta W G env loc (wrLed w et K.q { st with held := [] } (K.L (K.pushes σ (flushed st.held ++ [piTxt tg x])) ++ N)) s' → Q .none s') :
    wpAny (model W.prog W.w) A (call (.ref 147) [.ref w.x, .str tg u, .str x t]) Q E s := by
  refine S.call_fn (binds := [("self", .ref w.x), ("target", .str tg u), ("data", .str x t)]) [] I.f_pi hA.room (fun _ _ _ _ _ => BindsTo.of_eq (by kernel_rfl)) (by kernel_rfl) ?_
  intro L s' S'
  have hA' := hA.deeper (env := envOf "C14NWriterTarget.pi" (fnScope st_pi) L 147 (.ref 146))
  simp only [mkLoc, List.map_cons, List.map_nil, List.cons_append, List.nil_append] at S'
  have hcl := I.cl
  have e0 : ((st.ig : Int) != 0) = false := by rw [hig]; rfl
  have hl1 : ("<?" : Str).length = 2 := by decide +kernel
  have hl2 : ("?>" : Str).length = 2 := by decide +kernel
  have hl4 : (" " : Str).length = 1 := by decide +kernel
  have hl3 := escC_len x
  have hx' : x.length ≤ 300000 := hx
  have rest : ∀ s', Sta W G (envOf "C14NWriterTarget.pi" (fnScope st_pi) L 147 (.ref 146)) ([("self", some (.ref w.x)), ("target", some (.str tg u)), ("data", some (.str x t))] : Loc) ((env.locals, IsNs loc) :: wrLed w et K.q { st with held := [] } (K.L (K.pushes σ (flushed st.held)) ++ N)) s' →
      wpAny (model W.prog W.w) (A.deeper (envOf "C14NWriterTarget.pi" (fnScope st_pi) L 147 (.ref 146))) (execs ((fnBody st_pi).drop 2) (envOf "C14NWriterTarget.pi" (fnScope st_pi) L 147 (.ref 146))) (fun fl s'' => Q (match fl with | .ret v => v | _ => .none) s'') (fun _ _ => False) s' := by
    clear S'
    intro s' S'
    repeat walk_at "cw"
    refine truthy_s S' (by omega) (fun e s' S' => ?_) (fun e s' S' => ?_)
    · repeat walk_at "cw"
      rw [Str.empty_append]
      refine ⟨S'.sinkLed (L' := []) (by walk_at "mid"), ?_⟩
      refine S'.sink (hA'.le (by first | decide | omega)) (room_fl K _ hr) (by walk_at "mid") ?_
      clear S'; intro s' S'
      repeat walk_at "cw"
      rw [hrs]
      repeat walk_at "cw"
      have S2 := Sta.back S' S.eok
      refine k s' ?_
      rw [K.pushes_append]
      have ep : piTxt tg x = "<?" ++ tg ++ "?>" := by unfold piTxt; rw [if_pos e]
      rw [ep]
      exact S2
    · repeat walk_at "cw"
      refine Sta.global S' I.g_escC (by kernel_rfl) ?_
      refine callW_1 (by rw [I.k]; kernel_rfl) ?_ (by kernel_rfl) (by kernel_rfl)
      repeat walk_at "cw"
      refine ⟨S'.kin, ?_⟩
      refine escC_ I S' (hA'.le (by first | decide | omega)) hx ?_
      clear S'; intro t2 s' S'
      repeat walk_at "cw"
      rw [Str.empty_append]
      refine ⟨S'.sinkLed (L' := []) (by walk_at "mid"), ?_⟩
      refine S'.sink (hA'.le (by first | decide | omega)) (room_fl K _ hr) (by walk_at "mid") ?_
      clear S'; intro s' S'
      repeat walk_at "cw"
      rw [hrs]
      repeat walk_at "cw"
      have S2 := Sta.back S' S.eok
      refine k s' ?_
      rw [K.pushes_append]
      have ep : piTxt tg x = "<?" ++ tg ++ " " ++ escC x ++ "?>" := by unfold piTxt; rw [if_neg e]
      rw [ep]
      exact S2
  refine execs_go ?_
  repeat walk_at "cw"
  rw [e0]
  repeat walk_at "cw"
  rw [hrd]
  repeat walk_at "cw"
  rw [hrs]
  iterate 7 walk_at "cw"
  cases hd2 : st.held with
  | nil =>
    simp only [wrLed] at S'
    rw [hd2] at S' rest
    refine ite_f ?_
    refine ite_f ?_
    refine wpAny_execs_nil ?_
    refine wpAny_execs_nil ?_
    exact rest _ S'
  | cons y r =>
    refine ite_t ?_
    refine isTrue_and_nil ?_
    refine ite_t ?_
    refine wpAny_execs_cons ?_
    refine wpAny_Expr_any ?_ (by kernel_rfl) (by kernel_rfl)
    have S2 := S'.perm (nw' := wrLed w et K.q st (K.L σ ++ ((env.locals, IsNs loc) :: N))) (by walk_at "perm")
    refine flushNow_ I (hA'.le (by first | decide | omega)) (.head _) hrs hz hc (room_le K (by omega) hr) (by kernel_rfl) (by kernel_rfl) (by kernel_rfl) S2 ?_
    intro s2 S3
    refine wpAny_execs_nil ?_
    refine wpAny_execs_nil ?_
    exact rest _ (S3.perm (by walk_at "perm"))
end
end
section
open PySem PySem.W PyProof.Rows PySem.W.X PySem.SeqAt
set_option maxRecDepth 100000
set_option linter.unusedVariables false
noncomputable def esAt (K : Frag) (d : Addr) : Array DictEntry := match (obAt K d).data with
  | .dict es _ => es
  | _ => #[]
noncomputable def epAt (K : Frag) (d : Addr) : Nat := match (obAt K d).data with
  | .dict _ ep => ep
  | _ => 0
noncomputable def mapKeys : List Str := ["http://www.w3.org/XML/1998/namespace", "http://www.w3.org/1999/xhtml", "http://www.w3.org/1999/02/22-rdf-syntax-ns#", "http://schemas.xmlsoap.org/wsdl/", "http://www.w3.org/2001/XMLSchema", "http://www.w3.org/2001/XMLSchema-instance", "http://purl.org/dc/elements/1.1/"]
noncomputable def mapE (P : Params) (i : Nat) : DictEntry := (esAt (KK P) 44).toList.getD i default
noncomputable def mapKvs (P : Params) : List (Str × Value) := [("http://www.w3.org/XML/1998/namespace", (mapE P 0).val), ("http://www.w3.org/1999/xhtml", (mapE P 1).val), ("http://www.w3.org/1999/02/22-rdf-syntax-ns#", (mapE P 2).val), ("http://schemas.xmlsoap.org/wsdl/", (mapE P 3).val), ("http://www.w3.org/2001/XMLSchema", (mapE P 4).val), ("http://www.w3.org/2001/XMLSchema-instance", (mapE P 5).val), ("http://purl.org/dc/elements/1.1/", (mapE P 6).val)]
theorem map_list (P : Params) : (esAt (KK P) 44).toList = [mapE P 0, mapE P 1, mapE P 2, mapE P 3, mapE P 4, mapE P 5, mapE P 6] := by kernel_rfl
theorem map_at (prog : Program) (w : World) (h : Heap) (X : (KK w.params).In h) : h.DictAt (PySem.strKind prog w) 44 (mapKvs w.params) (epAt (KK w.params) 44) := by
  refine ⟨obAt (KK w.params) 44, esAt (KK w.params) 44, X _ _ (by kernel_rfl), ⟨by kernel_rfl, by kernel_rfl, by kernel_rfl⟩, by kernel_rfl, ?_, ?_, ?_⟩
  · intro e he
    have he' := Array.mem_toList_iff.mpr he
    rw [map_list] at he'
    simp only [List.mem_cons, List.not_mem_nil, or_false] at he'
    rcases he' with rfl | rfl | rfl | rfl | rfl | rfl | rfl
    · exact ⟨"http://www.w3.org/XML/1998/namespace", by kernel_rfl, by kernel_rfl⟩
    · exact ⟨"http://www.w3.org/1999/xhtml", by kernel_rfl, by kernel_rfl⟩
    · exact ⟨"http://www.w3.org/1999/02/22-rdf-syntax-ns#", by kernel_rfl, by kernel_rfl⟩
    · exact ⟨"http://schemas.xmlsoap.org/wsdl/", by kernel_rfl, by kernel_rfl⟩
    · exact ⟨"http://www.w3.org/2001/XMLSchema", by kernel_rfl, by kernel_rfl⟩
    · exact ⟨"http://www.w3.org/2001/XMLSchema-instance", by kernel_rfl, by kernel_rfl⟩
    · exact ⟨"http://purl.org/dc/elements/1.1/", by kernel_rfl, by kernel_rfl⟩
  · rw [map_list]
    exact .cons (by kernel_rfl) rfl (.cons (by kernel_rfl) rfl (.cons (by kernel_rfl) rfl (.cons (by kernel_rfl) rfl (.cons (by kernel_rfl) rfl (.cons (by kernel_rfl) rfl (.cons (by kernel_rfl) rfl .nil))))))
  · show mapKeys.Nodup
    decide +kernel
theorem IsC.mapAt {W : Wd} (I : IsC W) (O : W.Ok) : W.B.DictAt (PySem.strKind W.prog W.w) 44 (mapKvs W.w.params) (epAt (KK W.w.params) 44) := map_at _ _ _ (by have := O.kin; rwa [I.k] at this)
theorem map_len (P : Params) : (mapKvs P).length = 7 := rfl
/-- a writer just made -/
noncomputable def Ws.fresh (ti : Tok) : Ws := ⟨[], [], false, false, 0, ti, 0⟩
section
variable {W : Wd} {G : Gens} {env : Env} {loc loc' : Loc} {nw nw' : Ledger} {s : Shared} {A : Around} {E : Value → Shared → Prop} {w : Wr} {et : Value} {q : Addr} {st : Ws} {N : Ledger}
theorem mkWr {x dx d dns ns pm ps a0 tp le li vw q : Addr} {tu tx ti : Tok} {v1 v2 : Value} {c1 c2 c3 c4 : Cell}
    (S : Sta W G env loc ((ps, IsLst [.bool false]) :: (pm, c1) :: (le, c2) :: (li, c3) :: (vw, c4) :: (ns, IsLst ([] ++ [v1] ++ [v2])) :: (dns, IsLst [.ref a0]) :: (a0, IsLst [.ref tp]) :: (tp, IsTpl [.str xmlNs tu, .str "xml" tx]) :: (d, IsLst []) :: (x, IsInst 150 dx) ::
      (dx, IsAttrs (VV (.ref q) (.ref d) (.bool true) (.bool false) .none et (.bool false) .none .none (.ref dns) (.ref ns) (.ref pm) (.ref ps) .none (.bool false) (.bool false) (.int 0 ti))) :: N) s) :
    Sta W G env loc (wrLed ⟨x, dx, d, dns, ns, pm, ps, a0, tp, tu, tx⟩ et q (.fresh ti) N) s := by
  have S1 := S.tell (a := ns) (c' := IsLen 2) (.tail (.tail (.tail (.tail (.tail .head))))) fun o _ ho => ⟨_, rfl, ho⟩
  have S2 := S1.tell (a := d) (c' := IsTxts []) (.tail (.tail (.tail (.tail (.tail (.tail (.tail (.tail (.tail .head))))))))) fun o _ ho => ⟨_, .nil, ho⟩
  refine S2.sel (Sel.trans (Sel.of_perm (L2 := (pm, c1) :: (le, c2) :: (li, c3) :: (vw, c4) :: wrLed ⟨x, dx, d, dns, ns, pm, ps, a0, tp, tu, tx⟩ et q (.fresh ti) N) ?_) (Sel.drop (Sel.drop (Sel.drop (Sel.drop (Sel.refl _))))))
  simp only [wrLed, Ws.fresh, selfV, esLed, List.map_nil, List.nil_append]
  walk_at "perm"
end
end
section
open PySem PySem.W PyProof.Rows PySem.W.X PySem.SeqAt
set_option maxRecDepth 100000
set_option linter.unusedVariables false
/-- what is left out: x -/
noncomputable def Tx : Str → Bool := setT (fun _ => false) ["x"]
section
local macro_rules | `(tactic| walk_at "sv") => do
  let a ← altsOf "Sta.setattr S hcl /mem /upd /rfl /put /dec _ | ns; Sta.getattr S hcl /mem /mem /rfl /mem /rfl _ | ns; Sta.builtin S I.b_list bo_list /kr _ /deck /deck; Sta.builtin S I.b_set bo_set /kr _ /deck /deck; Sta.global S I.g_map /kr _ /deck; Sta.getM_dict S hmap F.slot_dict_items F.type_dict_items _; Sta.items S hmap /deck _ | na; Sta.listItems S hA'.handled hmap /mem /ml _ | ia"
  let b ← `(tactic| walk_at "cw")
  let all := a.push b
  `(tactic| first $[| $all:tactic]*)
variable {W : Wd} {G : Gens} {env : Env} {loc loc' : Loc} {nw nw' : Ledger} {s : Shared} {A : Around} {E : Value → Shared → Prop} {w : Wr} {et : Value} {q : Addr} {st : Ws} {N : Ledger}
set_option maxHeartbeats 8000000 in
theorem initX_ {x dx q xl : Addr} {vs : List Value} {R : Result → Shared → Prop} (I : IsC W) (S : Sta W G env loc ((x, IsInst 150 dx) :: (dx, IsAttrs (selfNames.map fun k => (k, none))) :: (xl, IsLst vs) :: N) s) (ht : TxtsAre vs ["x"]) (hA : Aok 16 A)
    (h : ∀ w xt ti s', w.x = x → Sta W G env loc (wrLed w (.ref xt) q (.fresh ti) ((xt, IsSS W Tx 1) :: N)) s' → R (.ok (.ret .none)) s') :
    codeAny (model W.prog W.w) A (.call (.ref 67) ⟨[.ref x, .ref q], [("with_comments", .bool true), ("exclude_tags", .ref xl)]⟩) R s := by
  refine S.code_fn (binds := [("self", .ref x), ("write", .ref q), ("with_comments", .bool true), ("strip_text", .bool false), ("rewrite_prefixes", .bool false), ("qname_aware_tags", .none), ("qname_aware_attrs", .none), ("exclude_attrs", .none), ("exclude_tags", .ref xl)]) [] I.f_init hA.room ?_ (by kernel_rfl) ?_
  · intro name doc pm ct an
    exact kp_binds S.kin fun S => by rw [I.k]; kernel_rfl
  intro L s' S'
  have hA' := hA.deeper (env := envOf "C14NWriterTarget.__init__" (fnScope st_init) L 67 (.ref 66))
  simp only [mkLoc, List.map_cons, List.map_nil, List.cons_append, List.nil_append, selfNames] at S'
  have hcl := I.cl
  have hmap := I.mapAt S.ok
  have hvl : vs.length ≤ sizeLine := by rw [ht.length, sizeLine_eq]; simp
  have hv1 : vs.length = 1 := by rw [ht.length]; rfl
  refine wpAny_execs_cons ?_
  repeat walk_at "sv"
  have hve : (!vs.isEmpty) = true := by cases vs with
    | nil => simp at hv1
    | cons a r => rfl
  rw [hve]
  repeat walk_at "sv"
  refine Sta.setOfList (S'.perm (nw' := (xl, IsLst vs) :: (a', IsLst []) :: (env.locals, IsNs loc) :: (x, IsInst 150 dx) :: (dx, IsAttrs [("_write", some (.ref q)), ("_data", some (.ref a')), ("_with_comments", some (.bool true)), ("_strip_text", some (.bool false)), ("_exclude_attrs", some .none), ("_exclude_tags", none), ("_rewrite_prefixes", none), ("_qname_aware_tags", none), ("_find_qname_aware_attrs", none), ("_declared_ns_stack", none), ("_ns_stack", none), ("_prefix_map", none), ("_preserve_space", none), ("_pending_start", none), ("_root_seen", none), ("_root_done", none), ("_ignored_depth", none)]) :: N) (by walk_at "perm")) (hA'.le (by first | decide | omega)) ht (by decide) ?_
  clear S'; intro xt s' S'
  replace S' : Sta W _ _ _ ((xt, IsSS W Tx 1) :: _) s' := S'
  repeat walk_at "sv"
  have S2 := Sta.back (S'.perm (Pull.perm (.tail (.tail (.tail (.tail (.tail (.tail (.tail (.tail (.tail (.tail (.tail (.tail .head)))))))))))))) S.eok
  have S3 := S2.sel (Sel.trans (Sel.of_perm (Pull.perm (.tail (.tail (.tail (.tail (.tail (.tail (.tail (.tail (.tail (.tail .head)))))))))))) (Sel.drop (Sel.refl _)))
  have S4 := S3.perm (Pull.perm (.tail (.tail (.tail (.tail (.tail (.tail (.tail (.tail (.tail .head))))))))))
  refine h _ xt _ s' ?_ (mkWr (N := (xt, IsSS W Tx 1) :: N) (S4.perm (List.Perm.trans (perm_in1 _ [_, _, _, _, _, _, _, _, _, _, _, _] N) (List.Perm.refl _))))
  rfl
set_option maxHeartbeats 8000000 in
/-- a writer made that leaves x out -/
theorem makeX_ {xl q : Addr} {vs : List Value} {Q : Value → Shared → Prop} (I : IsC W) (S : Sta W G env loc ((xl, IsLst vs) :: N) s) (ht : TxtsAre vs ["x"]) (hA : Aok 17 A)
    (h : ∀ w xt ti s', Sta W G env loc (wrLed w (.ref xt) q (.fresh ti) ((xt, IsSS W Tx 1) :: N)) s' → Q (.ref w.x) s') :
    wpAny (model W.prog W.w) A (call (.ref 150) [.ref q] [("with_comments", .bool true), ("exclude_tags", .ref xl)]) Q E s := by
  refine Sta.make (fI := 67) selfNames S (by decide +kernel) (by rw [I.k]; kernel_rfl) (by rw [I.k]; kernel_rfl) (by rw [I.k]; kernel_rfl) ?_
  intro x dx s' S'
  refine initX_ I S' ht (aok_make hA) ?_
  intro w xt ti s' hw S2
  subst hw
  exact ⟨rfl, h w xt ti _ S2⟩
/-- the next writer's data as a sink -/
noncomputable def dataSink (I : IsC W) (w : Wr) (et : Value) (q : Addr) (K : Sink W) : Sink W where
  σ := Ws × K.σ
  q := q
  L := fun p => (q, IsMeth 97 (.ref w.x)) :: wrLed w et K.q p.1 (K.L p.2)
  push := fun p x => (p.1.data x, p.2)
  room := fun p n => p.1.held.length + n ≤ 1000000
  less := fun h => by omega
  step := fun {st n} x h => by
    show (st.1.data x).held.length + n ≤ 1000000
    unfold Ws.data
    split
    · simp only [List.length_append, List.length_singleton]; omega
    · omega
  call := by
    intro G env loc N s A E x t st Q hA hr S h
    refine S.callMeth (.head _) ?_
    refine data_ I (S.perm (nw' := wrLed w et K.q st.1 ((q, IsMeth 97 (.ref w.x)) :: (K.L st.2 ++ N))) (by simp only [wrLed]; walk_at "perm")) (hA.le (by first | decide | omega)) (by rw [sizeLine_eq]; omega) ?_
    intro s' S'
    exact h s' (S'.perm (by simp only [wrLed]; walk_at "perm"))
  keep := by
    intro N h st X D
    obtain ⟨o, ho, rfl⟩ := D.get (.head _)
    exact keeps_M (K := W.K) (f := 97) (self := .ref w.x) (by rw [I.k]; kernel_rfl) h ⟨ho, X⟩
end
end
section
open PySem PySem.W PyProof.Rows PySem.W.X PySem.SeqAt
set_option maxRecDepth 100000
set_option linter.unusedVariables false
/-- a text gone through n writers -/
noncomputable def spN : Nat → Str → Str
  | 0, t => t
  | n + 1, t => escC (spN n t)
theorem spN_append : ∀ (n : Nat) (a b : Str), spN n (a ++ b) = spN n a ++ spN n b
  | 0, _, _ => rfl
  | n + 1, a, b => by
    show escC (spN n (a ++ b)) = _
    rw [spN_append n, escC_append]; rfl
theorem spN_esc : ∀ (n : Nat) (t : Str), spN n (escC t) = spN (n + 1) t
  | 0, _ => rfl
  | n + 1, t => by
    show escC (spN n (escC t)) = _
    rw [spN_esc n]; rfl
theorem spN_empty : ∀ n : Nat, spN n Str.empty = Str.empty
  | 0 => rfl
  | n + 1 => by show escC (spN n Str.empty) = _; rw [spN_empty n]; rfl
theorem spN_len : ∀ (n : Nat) (t : Str), (spN n t).length ≤ 6 ^ n * t.length
  | 0, t => by show t.length ≤ _; omega
  | n + 1, t => by
    have h1 := spN_len n t
    have h2 := escC_len (spN n t)
    show (escC (spN n t)).length ≤ _
    rw [Nat.pow_succ]
    have : 6 ^ n * 6 * t.length = 6 * (6 ^ n * t.length) := by rw [Nat.mul_comm (6 ^ n) 6, Nat.mul_assoc]
    omega
/-- a sign gone through n writers -/
noncomputable def esL (n c : Nat) : List Nat := if c ∈ sgs false then 38 :: (amps (n - 1) ++ nmOf c) else [c]
theorem esL_succ (n c : Nat) : (esL (n + 1) c).flatMap fC = esL (n + 2) c := by
  unfold esL
  by_cases h : c ∈ sgs false
  · rw [if_pos h, if_pos h]
    have e38 : fC 38 = 38 :: ampL := rfl
    have h1 := amps_plain false n
    have h2 := nm_plain false c
    rw [fL_false] at h1 h2
    simp only [List.flatMap_cons, List.flatMap_append, e38, Nat.add_sub_cancel]
    rw [h1, h2, show n + 2 - 1 = n + 1 from by omega, amps_succ]
    simp
  · rw [if_neg h, if_neg h]
    have := fL_out h
    rw [fL_false] at this
    simp [this]
theorem spN_mapS : ∀ (n : Nat) (t : Str), spN (n + 1) t = mapS (esL (n + 1)) t
  | 0, t => by
    show escC t = _
    unfold escC
    congr 1
    funext c
    unfold esL
    by_cases h : c ∈ sgs false
    · rw [if_pos h, ← fL_false, fL_in h]; rfl
    · rw [if_neg h, ← fL_false, fL_out h]
  | n + 1, t => by
    show escC (spN (n + 1) t) = _
    rw [spN_mapS n t]
    unfold escC
    rw [mapS_mapS]
    congr 1
    funext c
    exact esL_succ n c
/-- a call of the script -/
inductive Kd
  | start | ende | text | order | comment
noncomputable def kTx : Kd → Str
  | .start => "start"
  | .ende => "end"
  | .text => "text"
  | .order => "order"
  | .comment => "comment"
noncomputable def kAt : Option (Str × Str) := some ("k", "<\"")
/-- what a writer is known by -/
structure Q5 where
  h : List Str
  ig : Nat
  d : Nat
  b : Bool
noncomputable def hid (q : Q5) (k : Kd) (x : Str) : Bool := decide (q.ig ≠ 0) || (match k with | .start => Tx x | _ => false)
noncomputable def mk5 (k : Kd) (x : Str) : List Str := match k with
  | .start => startTxts x kAt
  | .ende => [endTxt x]
  | .order => [piTxt "i" x]
  | .comment => [comTxt x]
  | .text => []
noncomputable def outs (q : Q5) (k : Kd) (x : Str) : List Str := match k with
  | .text => []
  | k => if hid q k x = true then [] else flushed q.h ++ mk5 k x
noncomputable def nxt (q : Q5) (k : Kd) (x : Str) : Q5 := match k with
  | .text => if q.ig = 0 then { q with h := q.h ++ [x] } else q
  | .start => if hid q .start x = true then { q with ig := q.ig + 1, d := q.d + 1 } else ⟨[], 0, q.d + 1, true⟩
  | .ende => if q.ig ≠ 0 then { q with ig := q.ig - 1, d := q.d - 1 } else { q with h := [], d := q.d - 1 }
  | _ => if q.ig ≠ 0 then q else { q with h := [] }
noncomputable def recv (q : Q5) (x : Str) : Q5 := nxt q .text x
noncomputable def recvs (q : Q5) (xs : List Str) : Q5 := xs.foldl recv q
theorem recvs_ig : ∀ (xs : List Str) (q : Q5), (recvs q xs).ig = q.ig ∧ (recvs q xs).d = q.d ∧ (recvs q xs).b = q.b
  | [], q => ⟨rfl, rfl, rfl⟩
  | x :: r, q => by
    obtain ⟨h1, h2, h3⟩ := recvs_ig r (recv q x)
    have e : (recv q x).ig = q.ig ∧ (recv q x).d = q.d ∧ (recv q x).b = q.b := by
      unfold recv nxt
      by_cases h : q.ig = 0 <;> simp [h]
    exact ⟨h1.trans e.1, h2.trans e.2.1, h3.trans e.2.2⟩
theorem recvs_h : ∀ (xs : List Str) (q : Q5), (recvs q xs).h = if q.ig = 0 then q.h ++ xs else q.h
  | [], q => by simp [recvs]
  | x :: r, q => by
    have ih := recvs_h r (recv q x)
    show (recvs (recv q x) r).h = _
    rw [ih]
    unfold recv nxt
    by_cases h : q.ig = 0
    · simp [h]
    · simp [h]
structure SQ (st : Ws) (q : Q5) : Prop where
  held : st.held = q.h
  ig : st.ig = q.ig
  es : st.es.length + q.ig = q.d
  dp : st.dp = st.es.length
  rs : st.rs = q.b
  rd : st.rd = decide (q.b = true ∧ q.d = 0)
  igd : q.ig ≠ 0 → q.ig < q.d
theorem SQ.data {st : Ws} {q : Q5} (H : SQ st q) (x : Str) : SQ (st.data x) (recv q x) := by
  unfold recv nxt Ws.data
  rw [H.ig]
  by_cases h : q.ig = 0
  · simp only [h, if_true]
    exact ⟨by show st.held ++ [x] = _; rw [H.held], rfl, by have := H.es; show st.es.length + _ = _; rw [h] at this; exact this, H.dp, H.rs, H.rd, fun e => absurd rfl e⟩
  · simp only [h, if_false]
    exact H
structure OkQ (q : Q5) (k : Kd) (x : Str) : Prop where
  on : (q.b = true ∧ 1 ≤ q.d) ∨ (k = .start ∧ q.b = false ∧ q.d = 0 ∧ q.h = [] ∧ Tx x = false)
  len : x.length ≤ 4
  nm : (k = .start ∨ k = .ende) → plainName x ∧ x ≠ "k"
end
set_option hygiene false in
local macro_rules | `(tactic| walk_at "nd") => `(tactic| (clear S'; intro d' s' S'))
set_option hygiene false in
local macro_rules | `(tactic| walk_at "cw") => do
  let a ← altsOf "pairs_cons _; pairs_nil _; callW_m /ik _ /kr /kr; Sta.dictD0 S _ | na; Sta.mod S /dec _ | nt; Sta.fdiv S /dec /dec _ | nt"
  let b ← altsOf "Sta.dictLit /rfl /rfl /simp /le S _ | nd"
  let c ← (#[("end", 133), ("pi", 147), ("comment", 140), ("data", 97), ("start", 120)] : Array (String × Nat)).mapM fun x => methOf x.1 x.2
  let d ← `(tactic| with_reducible refine And.intro (Sta.kin S') ?_)
  let all := #[d] ++ a ++ c ++ b
  `(tactic| first $[| $all:tactic]*)
section
open PySem PySem.W PyProof.Rows PySem.W.X PySem.SeqAt
set_option maxRecDepth 100000
set_option linter.unusedVariables false
structure Bnd (q : Q5) : Prop where
  hl : q.h.length ≤ 900000
  hc : (cat q.h).length ≤ txtLine
  d : q.d ≤ 10000
theorem hid_f {q : Q5} {k : Kd} {x : Str} (h : hid q k x = false) : q.ig = 0 := by
  unfold hid at h
  simp at h
  exact h.1
theorem SQ.hid {st : Ws} {q : Q5} {x : Str} (H : SQ st q) {ti : Tok} (hd : 1 ≤ q.d) (h : hid q .start x = true) : SQ { st with ig := st.ig + 1, ti := ti } (nxt q .start x) := by
  have e : nxt q .start x = { q with ig := q.ig + 1, d := q.d + 1 } := by show (if _ then _ else _) = _; rw [if_pos h]
  rw [e]
  have hes := H.es
  have hig := H.ig
  have hgd := H.igd
  have hrd : st.rd = false := by rw [H.rd]; exact decide_eq_false fun e => by omega
  refine ⟨H.held, ?_, ?_, H.dp, H.rs, ?_, ?_⟩
  · show st.ig + 1 = q.ig + 1; omega
  · show st.es.length + (q.ig + 1) = q.d + 1; omega
  · show st.rd = _; rw [hrd]; exact (decide_eq_false fun e => by have := e.2; simp at this).symm
  · intro _
    show q.ig + 1 < q.d + 1
    by_cases e : q.ig = 0
    · omega
    · have := hgd e; omega
theorem SQ.start {st : Ws} {q : Q5} {x : Str} {nn : Addr} (H : SQ st q) (ok : OkQ q .start x) (h : Mine.hid q .start x = false) : SQ (st.started nn) (nxt q .start x) := by
  have e : nxt q .start x = ⟨[], 0, q.d + 1, true⟩ := by show (if _ then _ else _) = _; rw [if_neg (by rw [h]; decide)]
  rw [e]
  have hes := H.es
  have hig := H.ig
  have h0 := hid_f h
  refine ⟨rfl, ?_, ?_, ?_, rfl, ?_, fun e => absurd rfl e⟩
  · show st.ig = 0; omega
  · show (st.es ++ [nn]).length + 0 = q.d + 1; simp; omega
  · show st.dp + 1 = (st.es ++ [nn]).length; rw [H.dp]; simp
  · show st.rd = decide (true = true ∧ q.d + 1 = 0)
    rw [H.rd, decide_eq_false (p := true = true ∧ q.d + 1 = 0) (fun e => by omega)]
    refine decide_eq_false fun e => ?_
    rcases ok.on with h | h
    · omega
    · rw [h.2.1] at e; exact absurd e.1 (by decide)
theorem SQ.rd0 {st : Ws} {q : Q5} (H : SQ st q) (hd : 1 ≤ q.d) : st.rd = false := by rw [H.rd]; exact decide_eq_false fun e => by omega
theorem SQ.clear {st : Ws} {q : Q5} (H : SQ st q) : SQ { st with held := [] } { q with h := [] } := ⟨rfl, H.ig, H.es, H.dp, H.rs, H.rd, H.igd⟩
theorem hid_ig {q : Q5} {k : Kd} {x : Str} (h : q.ig ≠ 0) : Mine.hid q k x = true := by unfold Mine.hid; simp [h]
theorem hid_n {q : Q5} {x : Str} : (Mine.hid q .ende x = decide (q.ig ≠ 0)) ∧ (Mine.hid q .order x = decide (q.ig ≠ 0)) ∧ (Mine.hid q .comment x = decide (q.ig ≠ 0)) := by unfold Mine.hid; simp
theorem OkQ.on' {q : Q5} {k : Kd} {x : Str} (ok : OkQ q k x) (hk : k ≠ .start) : q.b = true ∧ 1 ≤ q.d := ok.on.resolve_right fun h => hk h.1
theorem kAt_ok : atOk kAt := ⟨⟨by decide +kernel, by decide +kernel⟩, by decide +kernel⟩
section
variable {W : Wd} {G : Gens} {env : Env} {loc loc' : Loc} {nw nw' : Ledger} {s : Shared} {A : Around} {E : Value → Shared → Prop} {w : Wr} {xt : Addr} {st : Ws} {q : Q5} {N : Ledger} {K : Sink W} {σ : K.σ} {x : Str} {t : Tok} {c? : Option Addr} {Q : Value → Shared → Prop}
set_option maxHeartbeats 8000000 in
theorem opS_ {dd : Addr} {tv : Tok} (I : IsC W) (C : CodeHd W.B 125 123) (hA : Aok 27 A) (H : SQ st q) (ok : OkQ q .start x) (B : Bnd q) (hr : K.room σ 4)
    (S : Sta W G env loc ((dd, IsD W dd (kvsOf tv kAt)) :: wrLed w (.ref xt) K.q st (K.L σ ++ (Tabs 123 lamP lamQ1 c? ++ ((xt, IsSS W Tx 1) :: N)))) s)
    (k : ∀ st' c' s', SQ st' (nxt q .start x) → Sta W G env loc (wrLed w (.ref xt) K.q st' (K.L (K.pushes σ (outs q .start x)) ++ (Tabs 123 lamP lamQ1 c' ++ ((xt, IsSS W Tx 1) :: N)))) s' → Q .none s') :
    wpAny (model W.prog W.w) A (call (.ref 120) [.ref w.x, .str x t, .ref dd]) Q E s := by
  have nm := ok.nm (.inl rfl)
  have hhl := H.held
  have hz : st.held.length ≤ sizeLine := by rw [hhl, sizeLine_eq]; have := B.hl; omega
  have hc : (cat st.held).length ≤ txtLine := by rw [hhl]; exact B.hc
  have hes := H.es
  have hbd := B.d
  cases hh : Mine.hid q .start x with
  | true =>
    have hd : 1 ≤ q.d := by
      rcases ok.on with h | h
      · exact h.2
      · exfalso
        obtain ⟨_, hb, hd, _, hx⟩ := h
        unfold Mine.hid at hh
        simp [hx] at hh
        have := H.igd hh
        omega
    have ho : outs q .start x = [] := by show (if _ then _ else _) = _; rw [if_pos hh]
    have hT : st.ig ≠ 0 ∨ Tx x = true := by
      unfold Mine.hid at hh
      simp at hh
      rw [H.ig]; exact hh
    refine startI_ (N := (dd, IsD W dd (kvsOf tv kAt)) :: (K.L σ ++ (Tabs 123 lamP lamQ1 c? ++ N))) I (hA.le (by first | decide | omega)) hT (S.perm (nw' := wrLed w (.ref xt) K.q st ((xt, IsSS W Tx 1) :: (dd, IsD W dd (kvsOf tv kAt)) :: (K.L σ ++ (Tabs 123 lamP lamQ1 c? ++ N)))) (by walk_at "perm")) ?_
    intro ti s' S'
    refine k { st with ig := st.ig + 1, ti := ti } c? s' (H.hid hd hh) ?_
    rw [ho]
    exact S'.sel (Sel.trans (Sel.of_perm (L2 := (dd, IsD W dd (kvsOf tv kAt)) :: wrLed w (.ref xt) K.q { st with ig := st.ig + 1, ti := ti } (K.L σ ++ (Tabs 123 lamP lamQ1 c? ++ ((xt, IsSS W Tx 1) :: N)))) (by walk_at "perm")) (Sel.drop (Sel.refl _)))
  | false =>
    have h0 := hid_f hh
    have hTx : Tx x = false := by
      unfold Mine.hid at hh
      simp at hh
      exact hh.2
    have hr1 : st.held = [] ∨ st.rs = true := by
      rcases ok.on with h | h
      · right; rw [H.rs]; exact h.1
      · left; rw [hhl]; exact h.2.2.2.1
    have ho : outs q .start x = flushed st.held ++ startTxts x kAt := by show (if _ then _ else _) = _; rw [if_neg (by rw [hh]; decide), hhl]; rfl
    refine startX_ I C hA nm.1 kAt_ok (by simp [atKeys, kAt]; exact nm.2) hr1 hz hc hr (by rw [H.dp]; omega) (by omega) (by rw [H.ig]; exact h0) hTx S ?_
    intro nn c' s' S'
    refine k (st.started nn) (some c') s' (H.start ok hh) ?_
    rw [ho]
    exact S'
set_option maxHeartbeats 8000000 in
theorem opE_ (I : IsC W) (hA : Aok 16 A) (H : SQ st q) (ok : OkQ q .ende x) (B : Bnd q) (hr : K.room σ 4)
    (S : Sta W G env loc (wrLed w (.ref xt) K.q st (K.L σ ++ N)) s)
    (k : ∀ st' s', SQ st' (nxt q .ende x) → Sta W G env loc (wrLed w (.ref xt) K.q st' (K.L (K.pushes σ (outs q .ende x)) ++ N)) s' → Q .none s') :
    wpAny (model W.prog W.w) A (call (.ref 133) [.ref w.x, .str x t]) Q E s := by
  have nm := ok.nm (.inr rfl)
  have hb := ok.on' (by intro h; cases h)
  have hhl := H.held
  have hz : st.held.length ≤ sizeLine := by rw [hhl, sizeLine_eq]; have := B.hl; omega
  have hc : (cat st.held).length ≤ txtLine := by rw [hhl]; exact B.hc
  have hes := H.es
  have hbd := B.d
  by_cases h0 : q.ig = 0
  · have ho : outs q .ende x = flushed st.held ++ [endTxt x] := by show (if _ then _ else _) = _; rw [if_neg (by rw [hid_n.1]; simp [h0]), hhl]; rfl
    have hn : nxt q .ende x = { q with h := [], d := q.d - 1 } := by show (if _ then _ else _) = _; rw [if_neg (by simp [h0])]
    have hne : st.es ≠ [] := fun e => by rw [e] at hes; simp at hes; omega
    have e0 : st.es = st.es.dropLast ++ [st.es.getLast hne] := (List.dropLast_concat_getLast hne).symm
    have hel : st.es.dropLast.length + 1 = st.es.length := by clear hz hc; simp; omega
    refine end_ (dp0 := st.es.dropLast.length) I hA nm.1 (by rw [H.ig]; exact h0) (by rw [H.rs]; exact hb.1) hz hc (K.less (K.less hr)) e0 (by rw [H.dp]; exact hel.symm) (by clear hz hc; omega) (by clear hz hc; omega) S ?_
    intro s' S'
    clear hz hc hbd
    refine k _ s' ?_ (by rw [ho]; exact S')
    rw [hn]
    refine ⟨rfl, H.ig, ?_, rfl, H.rs, ?_, ?_⟩
    · show st.es.dropLast.length + q.ig = q.d - 1; omega
    · show decide (st.es.dropLast.length = 0) = decide (q.b = true ∧ q.d - 1 = 0)
      have : (st.es.dropLast.length = 0) ↔ (q.b = true ∧ q.d - 1 = 0) := ⟨fun e => ⟨hb.1, by omega⟩, fun e => by omega⟩
      exact decide_eq_decide.mpr this
    · intro e; exact absurd h0 e
  · have ho : outs q .ende x = [] := by show (if _ then _ else _) = _; rw [if_pos (hid_ig h0)]
    have hn : nxt q .ende x = { q with ig := q.ig - 1, d := q.d - 1 } := by show (if _ then _ else _) = _; rw [if_pos h0]
    have hgd := H.igd h0
    have hig := H.ig
    refine endI_ I (hA.le (by first | decide | omega)) (by rw [H.ig]; exact h0) S ?_
    intro ti s' S'
    clear hz hc hbd
    refine k _ s' ?_ (by rw [ho]; exact S')
    rw [hn]
    refine ⟨hhl, by show st.ig - 1 = q.ig - 1; omega, by show st.es.length + (q.ig - 1) = q.d - 1; omega, H.dp, H.rs, ?_, fun _ => by show q.ig - 1 < q.d - 1; omega⟩
    show st.rd = decide (q.b = true ∧ q.d - 1 = 0)
    rw [H.rd0 hb.2]
    exact (decide_eq_false fun e => by omega).symm
set_option maxHeartbeats 8000000 in
theorem opP_ {u : Tok} (I : IsC W) (hA : Aok 8 A) (H : SQ st q) (ok : OkQ q .order x) (B : Bnd q) (hr : K.room σ 4)
    (S : Sta W G env loc (wrLed w (.ref xt) K.q st (K.L σ ++ N)) s)
    (k : ∀ st' s', SQ st' (nxt q .order x) → Sta W G env loc (wrLed w (.ref xt) K.q st' (K.L (K.pushes σ (outs q .order x)) ++ N)) s' → Q .none s') :
    wpAny (model W.prog W.w) A (call (.ref 147) [.ref w.x, .str "i" u, .str x t]) Q E s := by
  have hb := ok.on' (by intro h; cases h)
  have hhl := H.held
  have hz : st.held.length ≤ sizeLine := by rw [hhl, sizeLine_eq]; have := B.hl; omega
  have hc : (cat st.held).length ≤ txtLine := by rw [hhl]; exact B.hc
  by_cases h0 : q.ig = 0
  · have ho : outs q .order x = flushed st.held ++ [piTxt "i" x] := by show (if _ then _ else _) = _; rw [if_neg (by rw [hid_n.2.1]; simp [h0]), hhl]; rfl
    have hn : nxt q .order x = { q with h := [] } := by show (if _ then _ else _) = _; rw [if_neg (by simp [h0])]
    refine pi_ I hA (by decide +kernel) (by have := ok.len; unfold txtLine; omega) (by rw [H.ig]; exact h0) (by rw [H.rs]; exact hb.1) (H.rd0 hb.2) hz hc (K.less (K.less hr)) S ?_
    intro s' S'
    exact k _ s' (by rw [hn]; exact H.clear) (by rw [ho]; exact S')
  · have ho : outs q .order x = [] := by show (if _ then _ else _) = _; rw [if_pos (hid_ig h0)]
    have hn : nxt q .order x = q := by show (if _ then _ else _) = _; rw [if_pos h0]
    refine piI_ I (hA.le (by first | decide | omega)) (by rw [H.ig]; exact h0) S ?_
    intro s' S'
    exact k _ s' (by rw [hn]; exact H) (by rw [ho]; exact S')
set_option maxHeartbeats 8000000 in
theorem opC_ (I : IsC W) (hA : Aok 8 A) (H : SQ st q) (ok : OkQ q .comment x) (B : Bnd q) (hr : K.room σ 4)
    (S : Sta W G env loc (wrLed w (.ref xt) K.q st (K.L σ ++ N)) s)
    (k : ∀ st' s', SQ st' (nxt q .comment x) → Sta W G env loc (wrLed w (.ref xt) K.q st' (K.L (K.pushes σ (outs q .comment x)) ++ N)) s' → Q .none s') :
    wpAny (model W.prog W.w) A (call (.ref 140) [.ref w.x, .str x t]) Q E s := by
  have hb := ok.on' (by intro h; cases h)
  have hhl := H.held
  have hz : st.held.length ≤ sizeLine := by rw [hhl, sizeLine_eq]; have := B.hl; omega
  have hc : (cat st.held).length ≤ txtLine := by rw [hhl]; exact B.hc
  by_cases h0 : q.ig = 0
  · have ho : outs q .comment x = flushed st.held ++ [comTxt x] := by show (if _ then _ else _) = _; rw [if_neg (by rw [hid_n.2.2]; simp [h0]), hhl]; rfl
    have hn : nxt q .comment x = { q with h := [] } := by show (if _ then _ else _) = _; rw [if_neg (by simp [h0])]
    refine comment_ I hA (by have := ok.len; unfold txtLine; omega) (by rw [H.ig]; exact h0) (by rw [H.rs]; exact hb.1) (H.rd0 hb.2) hz hc (K.less (K.less hr)) S ?_
    intro s' S'
    exact k _ s' (by rw [hn]; exact H.clear) (by rw [ho]; exact S')
  · have ho : outs q .comment x = [] := by show (if _ then _ else _) = _; rw [if_pos (hid_ig h0)]
    have hn : nxt q .comment x = q := by show (if _ then _ else _) = _; rw [if_pos h0]
    refine commentI_ I (hA.le (by first | decide | omega)) (by rw [H.ig]; exact h0) S ?_
    intro s' S'
    exact k _ s' (by rw [hn]; exact H) (by rw [ho]; exact S')
theorem opT_ (I : IsC W) (hA : Aok 8 A) (H : SQ st q) (B : Bnd q) {q' : Addr} (S : Sta W G env loc (wrLed w (.ref xt) q' st N) s)
    (k : ∀ st' s', SQ st' (nxt q .text x) → Sta W G env loc (wrLed w (.ref xt) q' st' N) s' → Q .none s') :
    wpAny (model W.prog W.w) A (call (.ref 97) [.ref w.x, .str x t]) Q E s :=
  wpAny_call (data_ I S (hA.le (by first | decide | omega)) (by rw [H.held, sizeLine_eq]; have := B.hl; omega) fun s' S' => k _ s' (H.data x) S')
end
end
section
open PySem PySem.W PyProof.Rows PySem.W.X PySem.SeqAt
set_option maxRecDepth 100000
set_option linter.unusedVariables false
section
variable {W : Wd} {G : Gens} {env : Env} {loc loc' : Loc} {nw nw' : Ledger} {s : Shared} {A : Around} {E : Value → Shared → Prop} {w : Wr} {xt : Addr} {st : Ws} {q : Q5} {N : Ledger} {K : Sink W} {σ : K.σ} {x : Str} {t : Tok} {c? : Option Addr} {Q : Value → Shared → Prop}
set_option maxHeartbeats 8000000 in
theorem tell_ {k : Kd} {tk tx : Tok} (I : IsC W) (C : CodeHd W.B 125 123) (hA : Aok 29 A) (H : SQ st q) (ok : OkQ q k x) (B : Bnd q) (hr : K.room σ 4)
    (S : Sta W G env loc (wrLed w (.ref xt) K.q st (K.L σ ++ (Tabs 123 lamP lamQ1 c? ++ ((xt, IsSS W Tx 1) :: N)))) s)
    (kk : ∀ st' c' s', SQ st' (nxt q k x) → Sta W G env loc (wrLed w (.ref xt) K.q st' (K.L (K.pushes σ (outs q k x)) ++ (Tabs 123 lamP lamQ1 c' ++ ((xt, IsSS W Tx 1) :: N)))) s' → Q .none s') :
    wpAny (model W.prog W.w) A (call (.ref 187) [.ref w.x, .str (kTx k) tk, .str x tx]) Q E s := by
  refine S.call_fn (binds := [("writer", .ref w.x), ("kind", .str (kTx k) tk), ("text", .str x tx)]) [] I.f_l_tell hA.room (fun _ _ _ _ _ => BindsTo.of_eq (by kernel_rfl)) (by kernel_rfl) ?_
  intro L s' S'
  have hA' := hA.deeper (env := envOf "_law_tell" (fnScope st_l_tell) L 187 (.ref 186))
  simp only [mkLoc, List.map_cons, List.map_nil, List.cons_append, List.nil_append] at S'
  have hcl := I.cl
  refine execs_go ?_
  cases k with
  | start =>
    repeat walk_at "cw"
    refine eq_s (fun _ => ?_) (fun e => absurd rfl e)
    repeat walk_at "cw"
    refine DLit.mk [("k", .str "<\"" t')] S' (by exact ⟨strKind_is _ _ _ _, rfl, trivial⟩) (by simp) (Nat.le_of_ble_eq_true rfl) .head ?_
    clear S'; intro s' S'
    repeat walk_at "cw"
    refine opS_ (dd := d') (tv := t') I C (hA'.le (by first | decide | omega)) H ok B hr (S'.perm (nw' := (d', IsD W d' (kvsOf t' kAt)) :: wrLed w (.ref xt) K.q st (K.L σ ++ (Tabs 123 lamP lamQ1 c? ++ ((xt, IsSS W Tx 1) :: (env.locals, IsNs loc) :: N)))) (by simp only [kvsOf, kAt]; walk_at "perm")) ?_
    clear S'; intro st' c' s' H' S'
    replace S' := S'.perm (nw' := (env.locals, IsNs loc) :: wrLed w (.ref xt) K.q st' (K.L (K.pushes σ (outs q .start x)) ++ (Tabs 123 lamP lamQ1 c' ++ ((xt, IsSS W Tx 1) :: N)))) (by walk_at "perm")
    repeat walk_at "cw"
    exact kk st' c' _ H' (Sta.back S' S.eok)
  | ende =>
    repeat walk_at "cw"
    refine eq_s (fun e => absurd e (by decide +kernel)) (fun _ => ?_)
    repeat walk_at "cw"
    refine eq_s (fun _ => ?_) (fun e => absurd rfl e)
    repeat walk_at "cw"
    refine opE_ I (hA'.le (by first | decide | omega)) H ok B hr (S'.perm (nw' := wrLed w (.ref xt) K.q st (K.L σ ++ (Tabs 123 lamP lamQ1 c? ++ ((xt, IsSS W Tx 1) :: (env.locals, IsNs loc) :: N)))) (by walk_at "perm")) ?_
    clear S'; intro st' s' H' S'
    replace S' := S'.perm (nw' := (env.locals, IsNs loc) :: wrLed w (.ref xt) K.q st' (K.L (K.pushes σ (outs q .ende x)) ++ (Tabs 123 lamP lamQ1 c? ++ ((xt, IsSS W Tx 1) :: N)))) (by walk_at "perm")
    repeat walk_at "cw"
    exact kk st' c? _ H' (Sta.back S' S.eok)
  | order =>
    repeat walk_at "cw"
    refine eq_s (fun e => absurd e (by decide +kernel)) (fun _ => ?_)
    repeat walk_at "cw"
    refine eq_s (fun e => absurd e (by decide +kernel)) (fun _ => ?_)
    repeat walk_at "cw"
    refine eq_s (fun _ => ?_) (fun e => absurd rfl e)
    repeat walk_at "cw"
    refine opP_ I (hA'.le (by first | decide | omega)) H ok B hr (S'.perm (nw' := wrLed w (.ref xt) K.q st (K.L σ ++ (Tabs 123 lamP lamQ1 c? ++ ((xt, IsSS W Tx 1) :: (env.locals, IsNs loc) :: N)))) (by walk_at "perm")) ?_
    clear S'; intro st' s' H' S'
    replace S' := S'.perm (nw' := (env.locals, IsNs loc) :: wrLed w (.ref xt) K.q st' (K.L (K.pushes σ (outs q .order x)) ++ (Tabs 123 lamP lamQ1 c? ++ ((xt, IsSS W Tx 1) :: N)))) (by walk_at "perm")
    repeat walk_at "cw"
    exact kk st' c? _ H' (Sta.back S' S.eok)
  | comment =>
    repeat walk_at "cw"
    refine eq_s (fun e => absurd e (by decide +kernel)) (fun _ => ?_)
    repeat walk_at "cw"
    refine eq_s (fun e => absurd e (by decide +kernel)) (fun _ => ?_)
    repeat walk_at "cw"
    refine eq_s (fun e => absurd e (by decide +kernel)) (fun _ => ?_)
    repeat walk_at "cw"
    refine eq_s (fun _ => ?_) (fun e => absurd rfl e)
    repeat walk_at "cw"
    refine opC_ I (hA'.le (by first | decide | omega)) H ok B hr (S'.perm (nw' := wrLed w (.ref xt) K.q st (K.L σ ++ (Tabs 123 lamP lamQ1 c? ++ ((xt, IsSS W Tx 1) :: (env.locals, IsNs loc) :: N)))) (by walk_at "perm")) ?_
    clear S'; intro st' s' H' S'
    replace S' := S'.perm (nw' := (env.locals, IsNs loc) :: wrLed w (.ref xt) K.q st' (K.L (K.pushes σ (outs q .comment x)) ++ (Tabs 123 lamP lamQ1 c? ++ ((xt, IsSS W Tx 1) :: N)))) (by walk_at "perm")
    repeat walk_at "cw"
    exact kk st' c? _ H' (Sta.back S' S.eok)
  | text =>
    repeat walk_at "cw"
    refine eq_s (fun e => absurd e (by decide +kernel)) (fun _ => ?_)
    repeat walk_at "cw"
    refine eq_s (fun e => absurd e (by decide +kernel)) (fun _ => ?_)
    repeat walk_at "cw"
    refine eq_s (fun e => absurd e (by decide +kernel)) (fun _ => ?_)
    repeat walk_at "cw"
    refine eq_s (fun e => absurd e (by decide +kernel)) (fun _ => ?_)
    repeat walk_at "cw"
    refine opT_ I (hA'.le (by first | decide | omega)) H B (S'.perm (nw' := wrLed w (.ref xt) K.q st (K.L σ ++ (Tabs 123 lamP lamQ1 c? ++ ((xt, IsSS W Tx 1) :: (env.locals, IsNs loc) :: N)))) (by walk_at "perm")) ?_
    clear S'; intro st' s' H' S'
    replace S' := S'.perm (nw' := (env.locals, IsNs loc) :: wrLed w (.ref xt) K.q st' (K.L (K.pushes σ (outs q .text x)) ++ (Tabs 123 lamP lamQ1 c? ++ ((xt, IsSS W Tx 1) :: N)))) (by walk_at "perm")
    repeat walk_at "cw"
    exact kk st' c? _ H' (Sta.back S' S.eok)
end
end
section
open PySem PySem.W PyProof.Rows PySem.W.X PySem.SeqAt
set_option maxRecDepth 100000
set_option linter.unusedVariables false
/-- three writers in a chain -/
structure Chn where
  w0 : Wr
  w1 : Wr
  w2 : Wr
  x0 : Addr
  x1 : Addr
  x2 : Addr
  q0 : Addr
  q1 : Addr
  q2 : Addr
  out : Addr
noncomputable def Chn.wx (c : Chn) : Nat → Addr
  | 0 => c.w0.x
  | 1 => c.w1.x
  | _ => c.w2.x
noncomputable def chR (W : Wd) (c : Chn) (st0 st1 st2 : Ws) (c? : Option Addr) : Ledger :=
  wrLed c.w0 (.ref c.x0) c.q0 st0 ((c.q0, IsMeth 97 (.ref c.w1.x)) :: wrLed c.w1 (.ref c.x1) c.q1 st1 ((c.q1, IsMeth 97 (.ref c.w2.x)) :: wrLed c.w2 (.ref c.x2) c.q2 st2 ((c.q2, IsBound "list.append" (.ref c.out)) :: (Tabs 123 lamP lamQ1 c? ++ [(c.x0, IsSS W Tx 1), (c.x1, IsSS W Tx 1), (c.x2, IsSS W Tx 1)]))))
structure T5 where
  q : Nat → Q5
  o : List Str
noncomputable def T5.stp (T : T5) (w : Nat) (k : Kd) (x : Str) : T5 :=
  ⟨fun v => if v = w then nxt (T.q w) k x else if v = w + 1 then recvs (T.q v) (outs (T.q w) k x) else T.q v, if w = 2 then T.o ++ outs (T.q 2) k x else T.o⟩
theorem dsPushes {W : Wd} (I : IsC W) (w : Wr) (et : Value) (q : Addr) (K : Sink W) : ∀ (xs : List Str) (p : Ws × K.σ), (dataSink I w et q K).pushes p xs = (xs.foldl Ws.data p.1, p.2)
  | [], p => rfl
  | x :: r, p => dsPushes I w et q K r (p.1.data x, p.2)
theorem lsPushes5 {W : Wd} {q out : Addr} (σ xs : List Str) : (listSink W q out).pushes σ xs = σ ++ xs := by
  induction xs generalizing σ with
  | nil => exact (List.append_nil _).symm
  | cons x r ih =>
    show (listSink W q out).pushes (σ ++ [x]) r = _
    rw [ih]
    exact List.append_assoc σ [x] r
theorem SQ.datas : ∀ (xs : List Str) {st : Ws} {q : Q5}, SQ st q → SQ (xs.foldl Ws.data st) (recvs q xs)
  | [], _, _, H => H
  | x :: r, _, _, H => SQ.datas r (H.data x)
structure SQ3 (st0 st1 st2 : Ws) (T : T5) : Prop where
  s0 : SQ st0 (T.q 0)
  s1 : SQ st1 (T.q 1)
  s2 : SQ st2 (T.q 2)
structure Bnd3 (T : T5) : Prop where
  b : ∀ v, v < 3 → Bnd (T.q v)
  o : T.o.length ≤ 900000
section
variable {W : Wd} {G : Gens} {env : Env} {loc loc' : Loc} {nw nw' : Ledger} {s : Shared} {A : Around} {E : Value → Shared → Prop} {N : Ledger} {x : Str} {t : Tok} {c? : Option Addr} {Q : Value → Shared → Prop}
set_option maxHeartbeats 8000000 in
theorem chain_ {c : Chn} {T : T5} {st0 st1 st2 : Ws} {w : Nat} {k : Kd} {tk tx : Tok} (I : IsC W) (C : CodeHd W.B 125 123) (hA : Aok 29 A) (hw : w < 3) (H : SQ3 st0 st1 st2 T) (ok : OkQ (T.q w) k x) (B : Bnd3 T)
    (S : Sta W G env loc ((c.out, IsTxts T.o) :: (chR W c st0 st1 st2 c? ++ N)) s)
    (kk : ∀ st0 st1 st2 c' s', SQ3 st0 st1 st2 (T.stp w k x) → Sta W G env loc ((c.out, IsTxts (T.stp w k x).o) :: (chR W c st0 st1 st2 c' ++ N)) s' → Q .none s') :
    wpAny (model W.prog W.w) A (call (.ref 187) [.ref (c.wx w), .str (kTx k) tk, .str x tx]) Q E s := by
  have B0 := (B.b 0 (by omega)).hl
  have B1 := (B.b 1 (by omega)).hl
  have B2 := (B.b 2 (by omega)).hl
  have Bo := B.o
  have e0 := H.s0.held
  have e1 := H.s1.held
  have e2 := H.s2.held
  obtain rfl | rfl | rfl : w = 0 ∨ w = 1 ∨ w = 2 := by clear e0 e1 e2 B0 B1 B2 Bo; omega
  ·
    refine tell_ (K := dataSink I c.w1 (.ref c.x1) c.q0 (dataSink I c.w2 (.ref c.x2) c.q1 (listSink W c.q2 c.out))) (σ := (st1, (st2, T.o))) (w := c.w0) (xt := c.x0) I C hA H.s0 ok (B.b 0 (by omega)) (by show st1.held.length + 4 ≤ 1000000; rw [e1]; omega)
      (S.perm (nw' := wrLed c.w0 (.ref c.x0) c.q0 st0 (((c.q0, IsMeth 97 (.ref c.w1.x)) :: wrLed c.w1 (.ref c.x1) c.q1 st1 ((c.q1, IsMeth 97 (.ref c.w2.x)) :: wrLed c.w2 (.ref c.x2) c.q2 st2 [(c.q2, IsBound "list.append" (.ref c.out)), (c.out, IsTxts T.o)])) ++ (Tabs 123 lamP lamQ1 c? ++ ((c.x0, IsSS W Tx 1) :: (c.x1, IsSS W Tx 1) :: (c.x2, IsSS W Tx 1) :: N)))) (by simp only [chR]; walk_at "perm")) ?_
    intro st' c' s' H' S'
    rw [dsPushes] at S'
    refine kk st' _ st2 c' s' ⟨H', H.s1.datas _, H.s2⟩ (S'.perm ?_)
    show List.Perm (wrLed c.w0 (.ref c.x0) c.q0 st' (((c.q0, IsMeth 97 (.ref c.w1.x)) :: wrLed c.w1 (.ref c.x1) c.q1 (List.foldl Ws.data st1 (outs (T.q 0) k x)) ((c.q1, IsMeth 97 (.ref c.w2.x)) :: wrLed c.w2 (.ref c.x2) c.q2 st2 [(c.q2, IsBound "list.append" (.ref c.out)), (c.out, IsTxts T.o)])) ++ (Tabs 123 lamP lamQ1 c' ++ ((c.x0, IsSS W Tx 1) :: (c.x1, IsSS W Tx 1) :: (c.x2, IsSS W Tx 1) :: N)))) ((c.out, IsTxts T.o) :: (chR W c st' (List.foldl Ws.data st1 (outs (T.q 0) k x)) st2 c' ++ N))
    generalize List.foldl Ws.data st1 (outs (T.q 0) k x) = stt
    simp only [chR]; walk_at "perm"
  ·
    refine tell_ (K := dataSink I c.w2 (.ref c.x2) c.q1 (listSink W c.q2 c.out)) (σ := (st2, T.o)) (w := c.w1) (xt := c.x1) I C hA H.s1 ok (B.b 1 (by omega)) (by show st2.held.length + 4 ≤ 1000000; rw [e2]; omega)
      (S.perm (nw' := wrLed c.w1 (.ref c.x1) c.q1 st1 (((c.q1, IsMeth 97 (.ref c.w2.x)) :: wrLed c.w2 (.ref c.x2) c.q2 st2 [(c.q2, IsBound "list.append" (.ref c.out)), (c.out, IsTxts T.o)]) ++ (Tabs 123 lamP lamQ1 c? ++ ((c.x1, IsSS W Tx 1) :: (c.x0, IsSS W Tx 1) :: (c.x2, IsSS W Tx 1) :: wrLed c.w0 (.ref c.x0) c.q0 st0 ((c.q0, IsMeth 97 (.ref c.w1.x)) :: N))))) (by simp only [chR]; walk_at "perm")) ?_
    intro st' c' s' H' S'
    rw [dsPushes] at S'
    refine kk st0 st' _ c' s' ⟨H.s0, H', H.s2.datas _⟩ (S'.perm ?_)
    show List.Perm (wrLed c.w1 (.ref c.x1) c.q1 st' (((c.q1, IsMeth 97 (.ref c.w2.x)) :: wrLed c.w2 (.ref c.x2) c.q2 (List.foldl Ws.data st2 (outs (T.q 1) k x)) [(c.q2, IsBound "list.append" (.ref c.out)), (c.out, IsTxts T.o)]) ++ (Tabs 123 lamP lamQ1 c' ++ ((c.x1, IsSS W Tx 1) :: (c.x0, IsSS W Tx 1) :: (c.x2, IsSS W Tx 1) :: wrLed c.w0 (.ref c.x0) c.q0 st0 ((c.q0, IsMeth 97 (.ref c.w1.x)) :: N))))) ((c.out, IsTxts T.o) :: (chR W c st0 st' (List.foldl Ws.data st2 (outs (T.q 1) k x)) c' ++ N))
    generalize List.foldl Ws.data st2 (outs (T.q 1) k x) = stt
    simp only [chR]; walk_at "perm"
  ·
    refine tell_ (K := listSink W c.q2 c.out) (σ := T.o) (w := c.w2) (xt := c.x2) I C hA H.s2 ok (B.b 2 (by omega)) (by show T.o.length + 4 ≤ 16000000; omega)
      (S.perm (nw' := wrLed c.w2 (.ref c.x2) c.q2 st2 ([(c.q2, IsBound "list.append" (.ref c.out)), (c.out, IsTxts T.o)] ++ (Tabs 123 lamP lamQ1 c? ++ ((c.x2, IsSS W Tx 1) :: (c.x0, IsSS W Tx 1) :: (c.x1, IsSS W Tx 1) :: wrLed c.w0 (.ref c.x0) c.q0 st0 ((c.q0, IsMeth 97 (.ref c.w1.x)) :: wrLed c.w1 (.ref c.x1) c.q1 st1 ((c.q1, IsMeth 97 (.ref c.w2.x)) :: N)))))) (by simp only [chR]; walk_at "perm")) ?_
    intro st' c' s' H' S'
    rw [lsPushes5] at S'
    refine kk st0 st1 st' c' s' ⟨H.s0, H.s1, H'⟩ (S'.perm ?_)
    show List.Perm (wrLed c.w2 (.ref c.x2) c.q2 st' ([(c.q2, IsBound "list.append" (.ref c.out)), (c.out, IsTxts (T.o ++ outs (T.q 2) k x))] ++ (Tabs 123 lamP lamQ1 c' ++ ((c.x2, IsSS W Tx 1) :: (c.x0, IsSS W Tx 1) :: (c.x1, IsSS W Tx 1) :: wrLed c.w0 (.ref c.x0) c.q0 st0 ((c.q0, IsMeth 97 (.ref c.w1.x)) :: wrLed c.w1 (.ref c.x1) c.q1 st1 ((c.q1, IsMeth 97 (.ref c.w2.x)) :: N)))))) ((c.out, IsTxts (T.o ++ outs (T.q 2) k x)) :: (chR W c st0 st1 st' c' ++ N))
    simp only [chR]; walk_at "perm"
end
end
section
open PySem PySem.W PyProof.Rows PySem.W.X PySem.SeqAt
set_option maxRecDepth 100000
set_option linter.unusedVariables false
noncomputable def n5Kvs (t0 t1 t2 t3 : Tok) : List (Str × Value) := [("&", .str "amp;" t0), ("<", .str "lt;" t1), (">", .str "gt;" t2), ("\r", .str "#xD;" t3)]
theorem n5_in {t0 t1 t2 t3 : Tok} {c : Nat} (h : c ∈ sgs false) : ∃ t, valueAt (n5Kvs t0 t1 t2 t3) ⟨#[c]⟩ = some (.str ⟨(nmOf c).toArray⟩ t) := by
  simp only [sgs, Bool.false_eq_true, if_false, List.mem_cons, List.not_mem_nil, or_false] at h
  rcases h with rfl | rfl | rfl | rfl
  · exact ⟨t0, by kernel_rfl⟩
  · exact ⟨t1, by kernel_rfl⟩
  · exact ⟨t2, by kernel_rfl⟩
  · exact ⟨t3, by kernel_rfl⟩
theorem one_ne {c d : Nat} {x : Str} (hx : x = ⟨#[d]⟩) (h : c ≠ d) : (⟨#[c]⟩ : Str) ≠ x := by
  rintro rfl
  have := congrArg (fun y : Str => y.cps.toList) hx
  simp at this
  exact h this
theorem n5_out {t0 t1 t2 t3 : Tok} {c : Nat} (h : c ∉ sgs false) : valueAt (n5Kvs t0 t1 t2 t3) ⟨#[c]⟩ = none := by
  simp only [sgs, Bool.false_eq_true, if_false, List.mem_cons, List.not_mem_nil, or_false, not_or] at h
  obtain ⟨h0, h1, h2, h3⟩ := h
  refine valueAt_none ?_
  simp only [n5Kvs, List.map_cons, List.map_nil, List.mem_cons, List.not_mem_nil, or_false, not_or]
  exact ⟨one_ne (d := 38) (by kernel_rfl) h0, one_ne (d := 60) (by kernel_rfl) h1, one_ne (d := 62) (by kernel_rfl) h2, one_ne (d := 13) (by kernel_rfl) h3⟩
theorem n5_nd (t0 t1 t2 t3 : Tok) : ((n5Kvs t0 t1 t2 t3).map (·.1)).Nodup := by
  show (["&", "<", ">", "\r"] : List Str).Nodup
  decide +kernel
noncomputable def es1 (n c : Nat) : Str := ⟨(esL n c).toArray⟩
theorem cat_es1 (n : Nat) : ∀ cs : List Nat, (cat (cs.map (es1 n))).cps.toList = cs.flatMap (esL n)
  | [] => rfl
  | c :: r => by
    show (es1 n c ++ cat (r.map (es1 n))).cps.toList = _
    rw [Str.cps_append, Array.toList_append, cat_es1 n r]
    rfl
theorem cat_es (n : Nat) (x : Str) : cat (x.cps.toList.map (es1 (n + 1))) = spN (n + 1) x := by
  rw [spN_mapS]
  exact Str.ext' (cat_es1 _ _)
theorem amps_str (n : Nat) : (repS "amp;" n).cps.toList = amps n := by
  induction n with
  | zero => rfl
  | succ n ih =>
    have : repS "amp;" (n + 1) = "amp;" ++ repS "amp;" n := by simp [repS, List.replicate_succ, cat]
    rw [this, Str.cps_append, Array.toList_append, ih, amps_succ]
    rfl
theorem es_in {n c : Nat} (hc : c ∈ sgs false) : ("&" : Str) ++ repS "amp;" n ++ ⟨(nmOf c).toArray⟩ = es1 (n + 1) c := by
  apply Str.ext'
  rw [Str.cps_append, Array.toList_append, Str.cps_append, Array.toList_append, amps_str]
  show _ = esL (n + 1) c
  unfold esL
  rw [if_pos hc]
  rfl
theorem es_out {n c : Nat} (hc : c ∉ sgs false) : (⟨#[c]⟩ : Str) = es1 n c := by
  apply Str.ext'
  show [c] = esL n c
  unfold esL
  rw [if_neg hc]
noncomputable def retCall : Stmt → Expr
  | .Return (some (.Call _ [c] _ _)) _ => c
  | _ => .Name "" default
noncomputable abbrev envP5 (L : Addr) : Env := envOfC "_law_spelled" (fnScope st_l_spelled) L 173 (.ref 172)
section
variable {W : Wd} {G : Gens} {env : Env} {loc loc' : Loc} {nw nw' : Ledger} {s : Shared} {A : Around} {E : Value → Shared → Prop} {N : Ledger}
set_option maxHeartbeats 8000000 in
theorem es_ {L c1 c2 nm : Addr} {x : Str} {n : Nat} {t tl u0 u1 u2 u3 : Tok} {Q : Value → Shared → Prop} (I : IsC W) (hA : Aok 12 A) (hn : n ≤ 100) (hx : x.length ≤ 16000000)
    (h1 : CellOk (envP5 L) .cell "layers" c1) (h2 : CellOk (envP5 L) .cell "names" c2) (mx : (("text" : Str), some (Value.str x t)) ∈ loc)
    (S' : Sta W G (envP5 L) loc ((c1, IsCel (some (.int ((n + 1 : Nat) : Int) tl))) :: (c2, IsCel (some (.ref nm))) :: (nm, IsD W nm (n5Kvs u0 u1 u2 u3)) :: N) s)
    (k : ∀ b s', Sta W G (envP5 L) loc ((b, IsTxts (x.cps.toList.map (es1 (n + 1)))) :: (c1, IsCel (some (.int ((n + 1 : Nat) : Int) tl))) :: (c2, IsCel (some (.ref nm))) :: (nm, IsD W nm (n5Kvs u0 u1 u2 u3)) :: N) s' → Q (.ref b) s')
    (e : Expr) (he : e = retCall ((fnBody st_l_spelled).getD 2 (.Pass default))) : wpAny (model W.prog W.w) A (eval e (envP5 L)) Q E s := by
  subst he
  refine listComp (cl := [("names", c2), ("layers", c1)]) ["sign"] ?_ (by kernel_rfl) rfl rfl ?_ (by intro _; kernel_rfl)
  · rw [closure_eq (fun z => if z = ("layers" : Str) then c1 else c2) ?_]
    · rfl
    · intro x hx
      have hx : x ∈ ([("layers" : Str), "names"] : List Str) := hx
      simp only [List.mem_cons, List.not_mem_nil, or_false] at hx
      rcases hx with rfl | rfl
      · exact h1.at_
      · exact h2.at_
  have hl1 : ("&" : Str).length = 1 := by decide +kernel
  have hl2 : ("amp;" : Str).length = 4 := by decide +kernel
  have hl3 := repS_len "amp;" n
  rw [hl2] at hl3
  refine Sta.local_ S' mx ?_
  refine S'.iterStr ?_
  clear S'; intro it ty s' hty S'
  refine ⟨G, _, _, S', ?_⟩
  intro b Cc s1 eok S1
  refine comp_start rfl rfl (self_str hty) (S1.get (.tail _ (.tail _ (.head _)))) ?_
  have S2 := (S1.tell (c' := IsTxts []) .head fun o _ ho => ⟨_, .nil, ho⟩).perm (nw' := ((b, IsTxts []) :: ((envP5 L).locals, IsNs loc) :: (c1, IsCel (some (.int ((n + 1 : Nat) : Int) tl))) :: (c2, IsCel (some (.ref nm))) :: (nm, IsD W nm (n5Kvs u0 u1 u2 u3)) :: N) ++ ([] ++ [(it, IsStrI ty x t 0)])) (by walk_at "perm")
  clear S' S1
  refine comp_y (sh := []) (P := fun (c : Nat) v => ∃ u, v = .str ⟨#[c]⟩ u) (hA.le (by first | decide | omega)) (compTurn_list1 ..) (G := G) (og := []) (own := [(it, IsStrI ty x t 0)])
    (fun rest loc' nw1 G' => G' = G ∧ ∃ vs cs, cs ++ rest = x.cps.toList ∧ loc' = ([("sign", vs)] : Loc) ∧ nw1 = (b, IsTxts (cs.map (es1 (n + 1)))) :: ((envP5 L).locals, IsNs loc) :: (c1, IsCel (some (.int ((n + 1 : Nat) : Int) tl))) :: (c2, IsCel (some (.ref nm))) :: (nm, IsD W nm (n5Kvs u0 u1 u2 u3)) :: N) ?_ ?_ (by rw [List.append_nil]; exact S2) (yields_str hty _ 0 rfl) ⟨rfl, none, [], rfl, rfl, rfl⟩
  · intro c v rest tl' tg loc' nw1 G' s2 hv S1 hJ
    obtain ⟨rfl, vs, cs, hcs, rfl, rfl⟩ := hJ
    obtain ⟨ts, rfl⟩ := hv
    have hlc : (cs.map (es1 (n + 1))).length ≤ sizeLine := by
      have := congrArg List.length hcs
      rw [List.length_append, List.length_cons, ← Str.len_list] at this
      rw [List.length_map, sizeLine_eq]; omega
    refine wpAny_assign_Name (S1.store .head fun s' S' => ?_)
    clear S1 S2
    simp only [List.cons_append] at S'
    refine wpAny_bind ?_
    refine IfExp_ ?_
    refine wpAny_isTrue_Compare1 ?_ (by kernel_rfl)
    refine S'.local_ (.head _) ?_
    refine Sta.cell S' ⟨by kernel_rfl, rfl, by decide +kernel, by decide +kernel⟩ (c := c2) (by walk_at "mem") ?_
    refine Sta.inD S' (by walk_at "mem") ?_
    clear S'; intro s' S'
    refine wpAny_truthy_bool ?_
    by_cases hc : c ∈ sgs false
    · obtain ⟨tn, hnm⟩ := n5_in (t0 := u0) (t1 := u1) (t2 := u2) (t3 := u3) hc
      have hl4 : (⟨(nmOf c).toArray⟩ : Str).length ≤ 5 := by
        rw [Str.len_list]
        show (nmOf c).length ≤ 5
        unfold nmOf ampL; (repeat' split) <;> simp
      rw [hnm]
      refine ite_t ?_
      repeat walk_at "cw"
      refine Sta.cell S' ⟨by kernel_rfl, rfl, by decide +kernel, by decide +kernel⟩ (c := c1) (by walk_at "mem") ?_
      repeat walk_at "cw"
      have em : ((n + 1 : Nat) : Int) - 1 = (n : Int) := by omega
      rw [em]
      refine Sta.mulS S' (by omega) (by omega) ?_
      clear S'; intro t4 s' S'
      repeat walk_at "cw"
      refine Subscript_any ?_ (by intro _ _; kernel_rfl)
      refine Sta.cell S' ⟨by kernel_rfl, rfl, by decide +kernel, by decide +kernel⟩ (c := c2) (by walk_at "mem") ?_
      repeat walk_at "cw"
      refine Sta.subD S' (by walk_at "mem") hnm ?_
      clear S'; intro s' S'
      repeat walk_at "cw"
      rw [es_in hc]
      refine wpAny_bind (Sta.appendT S' .head hlc fun s' S' => wpAny_pure ?_)
      refine ⟨_, (b, IsTxts ((cs ++ [c]).map (es1 (n + 1)))) :: ((envP5 L).locals, IsNs loc) :: (c1, IsCel (some (.int ((n + 1 : Nat) : Int) tl))) :: (c2, IsCel (some (.ref nm))) :: (nm, IsD W nm (n5Kvs u0 u1 u2 u3)) :: N, G', ?_, rfl, some (.str ⟨#[c]⟩ ts), cs ++ [c], by simpa using hcs, rfl, rfl⟩
      rw [List.map_append]
      exact S'
    · have hnm := n5_out (t0 := u0) (t1 := u1) (t2 := u2) (t3 := u3) hc
      rw [hnm]
      refine ite_f ?_
      refine S'.local_ (.head _) ?_
      rw [es_out (n := n + 1) hc]
      refine wpAny_bind (Sta.appendT S' .head hlc fun s' S' => wpAny_pure ?_)
      refine ⟨_, (b, IsTxts ((cs ++ [c]).map (es1 (n + 1)))) :: ((envP5 L).locals, IsNs loc) :: (c1, IsCel (some (.int ((n + 1 : Nat) : Int) tl))) :: (c2, IsCel (some (.ref nm))) :: (nm, IsD W nm (n5Kvs u0 u1 u2 u3)) :: N, G', ?_, rfl, some (.str ⟨#[c]⟩ ts), cs ++ [c], by simpa using hcs, rfl, rfl⟩
      rw [List.map_append]
      exact S'
  · intro loc' nw1 G' s2 S1 hJ
    obtain ⟨rfl, vs, cs, hcs, rfl, rfl⟩ := hJ
    rw [List.append_nil] at hcs S1
    subst hcs
    exact ⟨.next, _, (b, IsTxts (x.cps.toList.map (es1 (n + 1)))) :: (c1, IsCel (some (.int ((n + 1 : Nat) : Int) tl))) :: (c2, IsCel (some (.ref nm))) :: (nm, IsD W nm (n5Kvs u0 u1 u2 u3)) :: N, _, rfl, S1.perm (List.Perm.swap ..), fun s3 S3 => k b s3 S3⟩
set_option maxHeartbeats 8000000 in
theorem spelled5_ {x : Str} {n : Nat} {t tl : Tok} {Q : Value → Shared → Prop} (I : IsC W) (hA : Aok 14 A) (hn : n ≤ 100) (hx : x.length ≤ 16000000) (hz : (spN n x).length ≤ 16777216) (S : Sta W G env loc N s)
    (k : ∀ t' s', Sta W G env loc N s' → Q (.str (spN n x) t') s') : wpAny (model W.prog W.w) A (call (.ref 173) [.str x t, .int (n : Int) tl]) Q E s := by
  refine S.call_fnC (binds := [("text", .str x t), ("layers", .int (n : Int) tl)]) [("text", .str x t)] [] [some (.int (n : Int) tl), none] I.f_l_spelled hA.room (fun _ _ _ _ _ => BindsTo.of_eq (by kernel_rfl)) (by kernel_rfl) (by kernel_rfl) (by kernel_rfl) ?_
  intro L cs s' hcs S'
  have hnm : cellNames (fnScope st_l_spelled).names = (["layers", "names"] : List Str) := by kernel_rfl
  rw [hnm] at hcs
  obtain ⟨c1, c2, rfl, h1, h2⟩ := hcs.two
  have hA' := hA.deeper (env := envP5 L)
  simp only [mkLoc, List.map_cons, List.map_nil, List.cons_append, List.nil_append, cellLed] at S'
  refine execs_go ?_
  repeat walk_at "cw"
  refine DLit.mk (n5Kvs _ _ _ _) S' (by exact ⟨strKind_is _ _ _ _, rfl, strKind_is _ _ _ _, rfl, strKind_is _ _ _ _, rfl, strKind_is _ _ _ _, rfl, trivial⟩) (n5_nd _ _ _ _) (Nat.le_of_ble_eq_true rfl) .head ?_
  clear S'; intro s' S'
  refine Sta.storeC S' h2 (by walk_at "upd") ?_
  clear S'; intro s' S'
  repeat walk_at "cw"
  cases n with
  | zero =>
    have e0 : (((0 : Nat) : Int) == 0) = true := rfl
    rw [e0]
    repeat walk_at "cw"
    exact k _ _ (Sta.back (S'.sel (Sel.trans (Sel.of_perm (Pull.perm (.tail (.tail (.tail .head))))) (Sel.cons .head (Sel.drop (Sel.drop (Sel.drop (Sel.refl _))))))) S.eok)
  | succ n =>
    have e0 : (((n + 1 : Nat) : Int) == 0) = false := beq_eq_false_iff_ne.mpr (by omega)
    rw [e0]
    repeat walk_at "cw"
    refine getM_sjoin ?_
    refine callWith_m1 ?_ (by kernel_rfl) (by kernel_rfl)
    refine args_cons ?_ (by kernel_rfl)
    refine es_ (n := n) I (hA'.le (by first | decide | omega)) (by omega) hx h1 h2 (by walk_at "mem") (S'.perm (nw' := (c1, IsCel (some (.int ((n + 1 : Nat) : Int) tl))) :: (c2, IsCel (some (.ref d'))) :: (d', IsD W d' (n5Kvs _ _ _ _)) :: ((env.locals, IsNs loc) :: N)) (by walk_at "perm")) ?_ _ rfl
    clear S'; intro b s' S'
    refine args_nil ?_
    refine Sta.joinT S' (.head _) (by kernel_rfl) (by rw [cat_es]; exact hz) ?_
    clear S'; intro t3 s' S'
    rw [cat_es]
    exact k _ _ (Sta.back (S'.sel (Sel.trans (Sel.of_perm (Pull.perm (.tail (.tail (.tail (.tail .head)))))) (Sel.cons .head (Sel.drop (Sel.drop (Sel.drop (Sel.drop (Sel.refl _)))))))) S.eok)
end
end
set_option hygiene false in
local macro_rules | `(tactic| walk_at "cw") => do
  let a ← altsOf "assignInOrder_cons _; assignInOrder_nil _"
  let b ← altsOf "callW_1 /ik _ /kr /kr; Assign_Tuple _ /kr /kr; Sta.getM_txts S /mem F.slot_list_pop F.type_list_pop _; Sta.unpackT S /hnd /mem /kr /kr _ | ns"
  let c ← `(tactic| ((with_reducible show wpAny _ _ (assign _ _ _) _ _ _); (with_reducible refine assign_Name ?_)))
  let d ← `(tactic| ((fail_if_success (with_reducible show wpAny _ _ (eval (PySem.Expr.Subscript _ (PySem.Expr.Slice _ _ _ _) _) _) _ _ _)); (with_reducible refine' Subscript_any ?_ ?ht); (case ht => intro _ _; kernel_rfl)))
  let all := a ++ #[c] ++ b ++ #[d]
  `(tactic| first $[| $all:tactic]*)
section
open PySem PySem.W PyProof.Rows PySem.W.X PySem.SeqAt
set_option maxRecDepth 100000
set_option linter.unusedVariables false
theorem cat_mS (x : Str) : cat (mk5 .start x) = "<" ++ x ++ " k=\"&lt;&quot;\">" := by
  show ("<" ++ x : Str) ++ (attrTxt "k" "<\"" ++ (">" ++ Str.empty)) = _
  have e : attrTxt "k" "<\"" ++ (">" ++ Str.empty) = " k=\"&lt;&quot;\">" := by kernel_rfl
  rw [e]
theorem cat_one (x : Str) : cat [x] = x := Str.append_empty _
theorem mk5_len (k : Kd) (x : Str) : (cat (mk5 k x)).length ≤ 6 * x.length + 40 := by
  cases k with
  | start =>
    rw [cat_mS]
    simp only [Str.length_append]
    have h1 : ("<" : Str).length = 1 := by decide +kernel
    have h2 : (" k=\"&lt;&quot;\">" : Str).length = 16 := by decide +kernel
    omega
  | ende =>
    show (cat [endTxt x]).length ≤ _
    rw [cat_one]
    unfold endTxt
    simp only [Str.length_append]
    have h1 : ("</" : Str).length = 2 := by decide +kernel
    have h2 : (">" : Str).length = 1 := by decide +kernel
    omega
  | order =>
    show (cat [piTxt "i" x]).length ≤ _
    rw [cat_one]
    have h1 : ("<?" : Str).length = 2 := by decide +kernel
    have h2 : ("?>" : Str).length = 2 := by decide +kernel
    have h3 : (" " : Str).length = 1 := by decide +kernel
    have h4 : ("i" : Str).length = 1 := by decide +kernel
    have h5 := escC_len x
    unfold piTxt
    split <;> simp only [Str.length_append] <;> omega
  | comment =>
    show (cat [comTxt x]).length ≤ _
    rw [cat_one]
    have h1 : ("<!--" : Str).length = 4 := by decide +kernel
    have h2 : ("-->" : Str).length = 3 := by decide +kernel
    have h5 := escC_len x
    unfold comTxt
    simp only [Str.length_append]; omega
  | text => show 0 ≤ _; omega
section
variable {W : Wd} {G : Gens} {env : Env} {loc loc' : Loc} {nw nw' : Ledger} {s : Shared} {A : Around} {E : Value → Shared → Prop} {N : Ledger}
theorem sp_big {m : Nat} {y : Str} (hm : m ≤ 3) (hy : y.length ≤ 64) : (spN m y).length ≤ 13824 := by
  have h1 := spN_len m y
  have h3 : 6 ^ m ≤ 6 ^ 3 := Nat.pow_le_pow_right (by decide) hm
  exact Nat.le_trans h1 (Nat.mul_le_mul h3 hy)
theorem spelledS_ {x : Str} {n : Nat} {t tl : Tok} {Q : Value → Shared → Prop} (I : IsC W) (hA : Aok 14 A) (hn : n ≤ 3) (hx : x.length ≤ 64) (S : Sta W G env loc N s)
    (k : ∀ t' s', Sta W G env loc N s' → Q (.str (spN n x) t') s') : wpAny (model W.prog W.w) A (call (.ref 173) [.str x t, .int (n : Int) tl]) Q E s :=
  spelled5_ I hA (Nat.le_trans hn (by decide)) (Nat.le_trans hx (by decide)) (Nat.le_trans (sp_big hn hx) (by decide)) S k
set_option hygiene false in
local macro_rules | `(tactic| walk_at "cw") => altOf "Sta.global S I.g_l_spelled /kr _ /deck"
set_option maxHeartbeats 8000000 in
theorem mark_ {x : Str} {k : Kd} {n : Nat} {tk tx tl : Tok} {Q : Value → Shared → Prop} (I : IsC W) (hA : Aok 16 A) (hk : kTx k ≠ "text") (hn : n ≤ 2) (hx : x.length ≤ 4) (S : Sta W G env loc N s)
    (kk : ∀ t' s', Sta W G env loc N s' → Q (.str (spN n (cat (mk5 k x))) t') s') : wpAny (model W.prog W.w) A (call (.ref 194) [.str (kTx k) tk, .str x tx, .int (n : Int) tl]) Q E s := by
  refine S.call_fn (binds := [("kind", .str (kTx k) tk), ("text", .str x tx), ("layers", .int (n : Int) tl)]) [] I.f_l_mark hA.room (fun _ _ _ _ _ => BindsTo.of_eq (by kernel_rfl)) (by kernel_rfl) ?_
  intro L s' S'
  have hA' := hA.deeper (env := envOf "_law_mark" (fnScope st_l_mark) L 194 (.ref 193))
  simp only [mkLoc, List.map_cons, List.map_nil, List.cons_append, List.nil_append] at S'
  have hml := mk5_len k x
  have hn3 : n ≤ 3 := Nat.le_succ_of_le hn
  have hn4 : n + 1 ≤ 3 := Nat.succ_le_succ hn
  have hx6 : x.length ≤ 64 := Nat.le_trans hx (by decide)
  have en : (n : Int) + 1 = ((n + 1 : Nat) : Int) := rfl
  refine execs_go ?_
  cases k with
  | start =>
    have g1 : ("<" : Str).length = 1 := by decide +kernel
    have g2 : (" k=\"&lt;&quot;\">" : Str).length = 16 := by decide +kernel
    have hy : ("<" ++ x ++ " k=\"&lt;&quot;\">" : Str).length ≤ 64 := by clear hml hx6 hn hn3 hn4; simp only [Str.length_append]; omega
    repeat walk_at "cw"
    refine eq_s (fun _ => ?_) (fun e => absurd rfl e)
    repeat walk_at "cw"
    refine spelledS_ (n := n) I (hA'.le (by decide)) hn3 hy S' ?_
    clear S'; intro t3 s' S'
    rw [← cat_mS]
    repeat walk_at "cw"
    exact kk _ _ (Sta.back S' S.eok)
  | ende =>
    have g3 : ("</" : Str).length = 2 := by decide +kernel
    have g4 : (">" : Str).length = 1 := by decide +kernel
    have hy : ("</" ++ x ++ ">" : Str).length ≤ 64 := by clear hml hx6 hn hn3 hn4; simp only [Str.length_append]; omega
    have ec : cat (mk5 .ende x) = "</" ++ x ++ ">" := cat_one _
    rw [ec] at kk
    repeat walk_at "cw"
    refine eq_s (fun e => absurd e (by decide +kernel)) (fun _ => ?_)
    repeat walk_at "cw"
    refine eq_s (fun _ => ?_) (fun e => absurd rfl e)
    repeat walk_at "cw"
    refine spelledS_ (n := n) I (hA'.le (by decide)) hn3 hy S' ?_
    clear S'; intro t3 s' S'
    repeat walk_at "cw"
    exact kk _ _ (Sta.back S' S.eok)
  | order =>
    repeat walk_at "cw"
    refine eq_s (fun e => absurd e (by decide +kernel)) (fun _ => ?_)
    repeat walk_at "cw"
    refine eq_s (fun e => absurd e (by decide +kernel)) (fun _ => ?_)
    repeat walk_at "cw"
    refine eq_s (fun e => absurd e (by decide +kernel)) (fun _ => ?_)
    repeat walk_at "cw"
    refine eq_s (fun e => ?_) (fun e => ?_)
    · have ec : cat (mk5 .order x) = "<?i?>" := by
        show cat [piTxt "i" x] = _
        rw [cat_one, e]
        kernel_rfl
      rw [ec] at kk
      repeat walk_at "cw"
      refine spelledS_ (n := n) I (hA'.le (by decide)) hn3 (by decide +kernel) S' ?_
      clear S'; intro t3 s' S'
      repeat walk_at "cw"
      exact kk _ _ (Sta.back S' S.eok)
    · have ec : cat (mk5 .order x) = "<?i " ++ escC x ++ "?>" := by
        show cat [piTxt "i" x] = _
        rw [cat_one]
        unfold piTxt
        rw [if_neg (fun h => e (Str.ext' (by rw [Str.len_list] at h; rw [List.length_eq_zero_iff.mp h]; rfl)))]
        have : ("<?" : Str) ++ "i" ++ " " = "<?i " := by kernel_rfl
        rw [this]
      rw [ec, spN_append, spN_append, spN_esc] at kk
      have b1 := sp_big (y := "<?i ") hn3 (by decide +kernel)
      have b2 := sp_big hn4 hx6
      have b3 := sp_big (y := "?>") hn3 (by decide +kernel)
      repeat walk_at "cw"
      refine spelledS_ (n := n) I (hA'.le (by decide)) hn3 (by decide +kernel) S' ?_
      clear S'; intro t3 s' S'
      repeat walk_at "cw"
      rw [en]
      refine spelledS_ (n := n + 1) I (hA'.le (by decide)) hn4 hx6 S' ?_
      clear S'; intro t3 s' S'
      repeat walk_at "cw"
      refine spelledS_ (n := n) I (hA'.le (by decide)) hn3 (by decide +kernel) S' ?_
      clear S'; intro t3 s' S'
      repeat walk_at "cw"
      exact kk _ _ (Sta.back S' S.eok)
  | comment =>
    have ec : cat (mk5 .comment x) = "<!--" ++ escC x ++ "-->" := cat_one _
    rw [ec, spN_append, spN_append, spN_esc] at kk
    have b1 := sp_big (y := "<!--") hn3 (by decide +kernel)
    have b2 := sp_big hn4 hx6
    have b3 := sp_big (y := "-->") hn3 (by decide +kernel)
    repeat walk_at "cw"
    refine eq_s (fun e => absurd e (by decide +kernel)) (fun _ => ?_)
    repeat walk_at "cw"
    refine eq_s (fun e => absurd e (by decide +kernel)) (fun _ => ?_)
    repeat walk_at "cw"
    refine eq_s (fun _ => ?_) (fun e => absurd rfl e)
    repeat walk_at "cw"
    refine spelledS_ (n := n) I (hA'.le (by decide)) hn3 (by decide +kernel) S' ?_
    clear S'; intro t3 s' S'
    repeat walk_at "cw"
    rw [en]
    refine spelledS_ (n := n + 1) I (hA'.le (by decide)) hn4 hx6 S' ?_
    clear S'; intro t3 s' S'
    repeat walk_at "cw"
    refine spelledS_ (n := n) I (hA'.le (by decide)) hn3 (by decide +kernel) S' ?_
    clear S'; intro t3 s' S'
    repeat walk_at "cw"
    exact kk _ _ (Sta.back S' S.eok)
  | text => exact absurd rfl hk
end
end
section
open PySem PySem.W PyProof.Rows PySem.W.X PySem.SeqAt
set_option maxRecDepth 100000
set_option linter.unusedVariables false
/-- a call: whose, which, with what -/
structure C5 where
  w : Nat
  k : Kd
  x : Str
noncomputable def IsC5 (c : C5) : Cell := fun o => ∃ t1 t2 t3, IsTpl [.int (c.w : Int) t1, .str (kTx c.k) t2, .str c.x t3] o
noncomputable abbrev Cls := List (Addr × C5)
noncomputable def caLed (cs : Cls) : Ledger := cs.map fun p => (p.1, IsC5 p.2)
noncomputable def caRef (cs : Cls) : List Value := cs.map fun p => .ref p.1
noncomputable abbrev Dp := Nat → Bool × Nat
noncomputable def d0 : Dp := fun _ => (false, 0)
noncomputable def dstp (d : Dp) (c : C5) : Dp := fun v => if v = c.w then (match c.k with | .start => (true, (d v).2 + 1) | .ende => ((d v).1, (d v).2 - 1) | _ => d v) else d v
structure okC (d : Dp) (c : C5) : Prop where
  w : c.w < 3
  len : c.x.length ≤ 4
  nm : (c.k = .start ∨ c.k = .ende) → plainName c.x ∧ c.x ≠ "k"
  on : ((d c.w).1 = true ∧ 1 ≤ (d c.w).2) ∨ (c.k = .start ∧ (d c.w).1 = false ∧ (d c.w).2 = 0 ∧ Tx c.x = false ∧ ∀ v, v < 3 → c.w < v → (d v).1 = true)
noncomputable def GoodFrom (d : Dp) : List C5 → Prop
  | [] => True
  | c :: r => okC d c ∧ GoodFrom (dstp d c) r
theorem goodFrom_snoc : ∀ {l : List C5} {d : Dp} {c : C5}, GoodFrom d l → okC (l.foldl dstp d) c → GoodFrom d (l ++ [c])
  | [], d, c, _, h => ⟨h, trivial⟩
  | a :: r, d, c, h, k => ⟨h.1, goodFrom_snoc (l := r) h.2 k⟩
/-- the names that are open -/
noncomputable abbrev Nms := Nat → List Str
noncomputable def nmLed (na : Nat → Addr) (ln : Nms) : Ledger := [(na 0, IsTxts (ln 0)), (na 1, IsTxts (ln 1)), (na 2, IsTxts (ln 2))]
noncomputable def nmRef (na : Nat → Addr) : List Value := [.ref (na 0), .ref (na 1), .ref (na 2)]
noncomputable def setN3 (ln : Nms) (w : Nat) (l : List Str) : Nms := fun v => if v = w then l else ln v
theorem nmRef_at (na : Nat → Addr) {w : Nat} (hw : w < 3) : (nmRef na)[w]? = some (.ref (na w)) := by
  match w, hw with
  | 0, _ => rfl
  | 1, _ => rfl
  | 2, _ => rfl
theorem nm_upd (na : Nat → Addr) (ln : Nms) {w : Nat} (hw : w < 3) (l : List Str) (R : Ledger) : Upd (na w) (IsTxts (ln w)) (IsTxts l) (nmLed na ln ++ R) (nmLed na (setN3 ln w l) ++ R) := by
  match w, hw with
  | 0, _ => exact .head
  | 1, _ => exact .tail .head
  | 2, _ => exact .tail (.tail .head)
/-- what holds while the calls are laid -/
structure Cst (cs : List C5) (ln : Nms) (n : Nat) : Prop where
  good : GoodFrom d0 cs
  d : ∀ v, v < 3 → cs.foldl dstp d0 v = (true, (ln v).length)
  nm : ∀ v, v < 3 → ∀ y ∈ ln v, plainName y ∧ y ≠ "k" ∧ y.length ≤ 4
  n : cs.length + ((ln 0).length + (ln 1).length + (ln 2).length) ≤ n
theorem setN3_sum (ln : Nms) {w : Nat} (hw : w < 3) (l : List Str) : ((setN3 ln w l 0).length + (setN3 ln w l 1).length + (setN3 ln w l 2).length) + (ln w).length = ((ln 0).length + (ln 1).length + (ln 2).length) + l.length := by
  match w, hw with
  | 0, _ => simp [setN3]; omega
  | 1, _ => simp [setN3]; omega
  | 2, _ => simp [setN3]; omega
theorem Cst.mid {cs : List C5} {ln : Nms} {n w : Nat} {k : Kd} {x : Str} (H : Cst cs ln n) (hw : w < 3) (hl : 1 ≤ (ln w).length) (hx : x.length ≤ 4) (hk : k ≠ .start ∧ k ≠ .ende) : Cst (cs ++ [⟨w, k, x⟩]) ln (n + 2) := by
  have hd := H.d w hw
  refine ⟨goodFrom_snoc H.good ⟨hw, hx, fun h => ?_, .inl ?_⟩, fun v hv => ?_, H.nm, ?_⟩
  · rcases h with h | h
    · exact absurd h hk.1
    · exact absurd h hk.2
  · show (cs.foldl dstp d0 w).1 = true ∧ 1 ≤ (cs.foldl dstp d0 w).2
    rw [hd]; exact ⟨rfl, hl⟩
  · rw [List.foldl_append]
    show dstp (cs.foldl dstp d0) ⟨w, k, x⟩ v = _
    unfold dstp
    dsimp only
    split
    · cases k with
      | start => exact absurd rfl hk.1
      | ende => exact absurd rfl hk.2
      | _ => exact H.d v hv
    · exact H.d v hv
  · have := H.n
    rw [List.length_append, List.length_singleton]; omega
theorem Cst.start {cs : List C5} {ln : Nms} {n w : Nat} {x : Str} (H : Cst cs ln n) (hw : w < 3) (hl : 1 ≤ (ln w).length) (hx : plainName x ∧ x ≠ "k" ∧ x.length ≤ 4) : Cst (cs ++ [⟨w, .start, x⟩]) (setN3 ln w (ln w ++ [x])) (n + 2) := by
  have hd := H.d w hw
  refine ⟨goodFrom_snoc H.good ⟨hw, hx.2.2, fun _ => ⟨hx.1, hx.2.1⟩, .inl ?_⟩, fun v hv => ?_, fun v hv y hy => ?_, ?_⟩
  · show (cs.foldl dstp d0 w).1 = true ∧ 1 ≤ (cs.foldl dstp d0 w).2
    rw [hd]; exact ⟨rfl, hl⟩
  · rw [List.foldl_append]
    show dstp (cs.foldl dstp d0) ⟨w, .start, x⟩ v = _
    have hv' := H.d v hv
    generalize cs.foldl dstp d0 = D at hv'
    unfold dstp setN3
    dsimp only
    split
    · rename_i e
      rw [hv', e]; simp
    · exact hv'
  · unfold setN3 at hy
    split at hy
    · rcases List.mem_append.mp hy with hy | hy
      · exact H.nm w hw y hy
      · rw [List.mem_singleton.mp hy]; exact hx
    · exact H.nm v hv y hy
  · have := H.n
    have h2 := setN3_sum ln hw (ln w ++ [x])
    rw [List.length_append, List.length_singleton] at h2 ⊢
    omega
theorem Cst.pop {cs : List C5} {ln : Nms} {n w : Nat} {l : List Str} {x : Str} (H : Cst cs ln n) (hw : w < 3) (hl : ln w = l ++ [x]) : Cst (cs ++ [⟨w, .ende, x⟩]) (setN3 ln w l) n := by
  have hd := H.d w hw
  have hx := H.nm w hw x (by rw [hl]; simp)
  refine ⟨goodFrom_snoc H.good ⟨hw, hx.2.2, fun _ => ⟨hx.1, hx.2.1⟩, .inl ?_⟩, fun v hv => ?_, fun v hv y hy => ?_, ?_⟩
  · show (cs.foldl dstp d0 w).1 = true ∧ 1 ≤ (cs.foldl dstp d0 w).2
    rw [hd, hl]; simp
  · rw [List.foldl_append]
    show dstp (cs.foldl dstp d0) ⟨w, .ende, x⟩ v = _
    have hv' := H.d v hv
    generalize cs.foldl dstp d0 = D at hv'
    unfold dstp setN3
    dsimp only
    split
    · rename_i e
      rw [hv', e, hl]; simp
    · exact hv'
  · unfold setN3 at hy
    split at hy
    · exact H.nm w hw y (by rw [hl]; exact List.mem_append_left _ hy)
    · exact H.nm v hv y hy
  · have := H.n
    have h2 := setN3_sum ln hw l
    rw [hl, List.length_append, List.length_singleton] at h2
    rw [List.length_append, List.length_singleton]
    omega
theorem cst0 : Cst [⟨2, .start, "r"⟩, ⟨1, .start, "r"⟩, ⟨0, .start, "r"⟩, ⟨0, .text, "<&"⟩] (fun _ => ["r"]) 7 := by
  have pr : plainName "r" := ⟨by decide +kernel, by decide +kernel⟩
  have pk : ("r" : Str) ≠ "k" := by decide +kernel
  have pl : ("r" : Str).length ≤ 4 := by decide +kernel
  have pl2 : ("<&" : Str).length ≤ 4 := by decide +kernel
  have px : Tx "r" = false := by decide +kernel
  refine ⟨⟨⟨by decide, pl, fun _ => ⟨pr, pk⟩, .inr ⟨rfl, rfl, rfl, px, fun v hv h => by simp at h; omega⟩⟩, ⟨by decide, pl, fun _ => ⟨pr, pk⟩, .inr ⟨rfl, rfl, rfl, px, fun v hv h => by
    have h : 1 < v := h
    have : v = 2 := by omega
    subst this; rfl⟩⟩, ⟨by decide, pl, fun _ => ⟨pr, pk⟩, .inr ⟨rfl, rfl, rfl, px, fun v hv h => by
    have h : 0 < v := h
    match v, h, hv with
    | 1, _, _ => rfl
    | 2, _, _ => rfl⟩⟩, ⟨by decide, pl2, (fun h => by rcases h with h | h <;> cases h), .inl ⟨rfl, Nat.le_refl 1⟩⟩, trivial⟩, fun v hv => ?_, fun v hv y hy => ?_, by simp⟩
  · match v, hv with
    | 0, _ => rfl
    | 1, _ => rfl
    | 2, _ => rfl
  · rw [List.mem_singleton.mp hy]; exact ⟨pr, pk, pl⟩
end
section
open PySem PySem.W PyProof.Rows PySem.W.X PySem.SeqAt
set_option maxRecDepth 100000
set_option linter.unusedVariables false
noncomputable def forBody : Stmt → List Stmt
  | .For _ _ b _ _ => b
  | _ => []
noncomputable def ifBody : Stmt → List Stmt
  | .If _ b _ _ => b
  | _ => []
noncomputable def ifElse : Stmt → Stmt
  | .If _ _ e _ => e.getD 0 (.Pass default)
  | st => st
noncomputable def ifElses : Stmt → List Stmt
  | .If _ _ e _ => e
  | _ => []
theorem fmod_bd (y : Int) (n : Int) (h : 0 < n) : 0 ≤ y.fmod n ∧ y.fmod n < n := by
  rw [Int.fmod_eq_emod_of_nonneg y (by omega)]
  exact ⟨Int.emod_nonneg y (by omega), Int.emod_lt_of_pos y h⟩
theorem Sel.rest {L L2 : Ledger} (J : Ledger) (h : L.Perm (L2 ++ J)) : Sel L L2 := ⟨J, h⟩
noncomputable def stF : Stmt := (fnBody st_l_calls).getD 4 (.Pass default)
noncomputable def stI : Stmt := (forBody stF).getD 1 (.Pass default)
noncomputable abbrev envL (L : Addr) : Env := envOf "_law_calls" (fnScope st_l_calls) L 180 (.ref 179)
noncomputable abbrev locL (scr pcs ca nms : Addr) (bg : Nat) (tb : Tok) (vx vw vk vy : Option Value) : Loc := [("script", some (.ref scr)), ("pieces", some (.ref pcs)), ("calls", some (.ref ca)), ("names", some (.ref nms)), ("begun", some (.int (bg : Int) tb)), ("x", vx), ("w", vw), ("kind", vk), ("y", vy)]
noncomputable abbrev nwL (pcs ca nms : Addr) (na : Nat → Addr) (vals : List Value) (cs : Cls) (ln : Nms) (X : Ledger) : Ledger := nmLed na ln ++ ((ca, IsLst (caRef cs)) :: (nms, IsLst (nmRef na)) :: (pcs, IsLst vals) :: (caLed cs ++ X))
structure Pc10 (vals : List Value) : Prop where
  at_ : ∀ j, j < 10 → ∃ x t, vals[j]? = some (.str x t) ∧ x.length ≤ 4
/-- the state between two turns -/
inductive MidL (W : Wd) (G : Gens) (L scr pcs ca nms : Addr) (na : Nat → Addr) (vals : List Value) (X : Ledger) (vx vw vk vy : Option Value) (i : Nat) (s : Shared) : Prop
  | mk (bg : Nat) (tb : Tok) (cs : Cls) (ln : Nms) (H : Cst (cs.map (·.2)) ln (7 + 2 * i)) (hl : ∀ v, v < 3 → 1 ≤ (ln v).length) (S : Sta W G (envL L) (locL scr pcs ca nms bg tb vx vw vk vy) (nwL pcs ca nms na vals cs ln X) s) : MidL W G L scr pcs ca nms na vals X vx vw vk vy i s
section
variable {W : Wd} {G : Gens} {env : Env} {loc loc' : Loc} {nw nw' : Ledger} {s : Shared} {A : Around} {E : Value → Shared → Prop} {N : Ledger}
theorem Sta.c5 {a ca : Addr} {t1 t2 t3 : Tok} {cs : Cls} {M R : Ledger} (c : C5) (S : Sta W G env loc ((a, IsTpl [.int (c.w : Int) t1, .str (kTx c.k) t2, .str c.x t3]) :: M) s) (hp : M.Perm ((ca, IsLst (caRef cs ++ [.ref a])) :: (caLed cs ++ R))) :
    Sta W G env loc ((ca, IsLst (caRef (cs ++ [(a, c)]))) :: (caLed (cs ++ [(a, c)]) ++ R)) s := by
  have S1 := (S.tell (c' := IsC5 c) .head fun o _ ho => ⟨t1, t2, t3, ho⟩).perm (hp.cons _)
  have er : caRef (cs ++ [(a, c)]) = caRef cs ++ [.ref a] := by simp [caRef]
  have el : caLed (cs ++ [(a, c)]) = caLed cs ++ [(a, IsC5 c)] := by simp [caLed]
  rw [er, el]
  exact S1.perm (by walk_at "perm")
set_option maxHeartbeats 8000000 in
/-- a call of a kind that opens and ends nothing -/
theorem brM {L scr pcs ca nms : Addr} {na : Nat → Addr} {vals : List Value} {X : Ledger} {w i bg : Nat} {k : Kd} {tb tw tk ty : Tok} {y kd : Int} {cs : Cls} {ln : Nms} {vx : Option Value} {Q : Flow → Shared → Prop} (I : IsC W) (hA : Aok 20 A) (hv : Pc10 vals) (hw : w < 3) (hi : i < 63) (hk : k ≠ .start ∧ k ≠ .ende) (H : Cst (cs.map (·.2)) ln (7 + 2 * i)) (hl : ∀ v, v < 3 → 1 ≤ (ln v).length)
    (S' : Sta W G (envL L) (locL scr pcs ca nms bg tb vx (some (.int (w : Int) tw)) (some (.int kd tk)) (some (.int y ty))) (nwL pcs ca nms na vals cs ln X) s)
    (kk : ∀ s', MidL W G L scr pcs ca nms na vals X vx (some (.int (w : Int) tw)) (some (.int kd tk)) (some (.int y ty)) (i + 1) s' → Q .next s')
    {p1 p2 p3 p4 p5 p6 p7 p8 p9 p10 p11 p12 : Pos} (hp : (p2.endLine == p11.line) = true) :
    wpAny (model W.prog W.w) A (exec (.Expr (.Call (.Attribute (.Name "calls" p1) "append" p2) [.Tuple [.Name "w" p3, .Constant (.str (kTx k)) 0 p5, .Subscript (.Name "pieces" p6) (.BinOp (.Name "y" p7) .Mod (.Constant (.int 10) 0 p8) p9) p10] 0 p4] [] p11) p12) (envL L)) Q E s := by
  have hcl : (caRef cs).length ≤ sizeLine := by
    have := H.n
    rw [List.length_map] at this
    rw [sizeLine_eq]; simp [caRef]; omega
  simp only [locL, nwL, nmLed, List.cons_append, List.nil_append] at S'
  refine wpAny_Expr_any ?_ (by kernel_rfl) (by kernel_rfl)
  refine Call_m ?_ (by kernel_rfl) (by kernel_rfl) hp
  repeat walk_at "cw"
  have hbd := fmod_bd y 10 (by decide)
  obtain ⟨px, tp, hpx, hp4⟩ := hv.at_ (y.fmod 10).toNat (by omega)
  refine Sta.sub_list S' (by walk_at "mem") (by omega) (by omega) hpx ?_
  repeat walk_at "cw"
  have S2 := Sta.c5 (ca := ca) (cs := cs) (R := nmLed na ln ++ ((nms, IsLst (nmRef na)) :: (pcs, IsLst vals) :: X)) ⟨w, k, px⟩ S' (by simp only [nmLed]; walk_at "perm")
  refine kk _ ⟨bg, tb, cs ++ [(a', ⟨w, k, px⟩)], ln, ?_, hl, S2.perm (by simp only [nwL]; walk_at "perm")⟩
  rw [List.map_append]
  have := H.mid (k := k) (x := px) hw (hl w hw) hp4 hk
  rw [show 7 + 2 * (i + 1) = 7 + 2 * i + 2 from by omega]
  exact this
end
end
section
open PySem PySem.W PyProof.Rows PySem.W.X PySem.SeqAt
set_option maxRecDepth 100000
set_option linter.unusedVariables false
theorem nmRef_atI (na : Nat → Addr) {w : Nat} (hw : w < 3) : (nmRef na)[((w : Int)).toNat]? = some (.ref (na w)) := by simpa using nmRef_at na hw
theorem xee_at {j : Int} (t1 t2 t3 : Tok) (h0 : 0 ≤ j) (h : j < 3) : ∃ z t, [Value.str "x" t1, .str "e" t2, .str "e" t3][j.toNat]? = some (.str z t) ∧ (plainName z ∧ z ≠ "k" ∧ z.length ≤ 4) := by
  have px : plainName "x" ∧ ("x" : Str) ≠ "k" ∧ ("x" : Str).length ≤ 4 := ⟨⟨by decide +kernel, by decide +kernel⟩, by decide +kernel, by decide +kernel⟩
  have pe : plainName "e" ∧ ("e" : Str) ≠ "k" ∧ ("e" : Str).length ≤ 4 := ⟨⟨by decide +kernel, by decide +kernel⟩, by decide +kernel, by decide +kernel⟩
  have : j.toNat = 0 ∨ j.toNat = 1 ∨ j.toNat = 2 := by omega
  rcases this with e | e | e <;> rw [e]
  · exact ⟨_, _, rfl, px⟩
  · exact ⟨_, _, rfl, pe⟩
  · exact ⟨_, _, rfl, pe⟩
section
variable {W : Wd} {G : Gens} {env : Env} {loc loc' : Loc} {nw nw' : Ledger} {s : Shared} {A : Around} {E : Value → Shared → Prop} {N : Ledger}
set_option maxHeartbeats 8000000 in
/-- an element begins -/
theorem brS {L scr pcs ca nms : Addr} {na : Nat → Addr} {vals : List Value} {X : Ledger} {w i bg : Nat} {tb tw tk ty : Tok} {y kd : Int} {cs : Cls} {ln : Nms} {vx : Option Value} {Q : Flow → Shared → Prop} (I : IsC W) (hA : Aok 20 A) (hw : w < 3) (hi : i < 63) (H : Cst (cs.map (·.2)) ln (7 + 2 * i)) (hl : ∀ v, v < 3 → 1 ≤ (ln v).length)
    (S' : Sta W G (envL L) (locL scr pcs ca nms bg tb vx (some (.int (w : Int) tw)) (some (.int kd tk)) (some (.int y ty))) (nwL pcs ca nms na vals cs ln X) s)
    (kk : ∀ s', MidL W G L scr pcs ca nms na vals X vx (some (.int (w : Int) tw)) (some (.int kd tk)) (some (.int y ty)) (i + 1) s' → Q .next s')
    (body : List Stmt) (hbd : body = ifBody stI) : wpAny (model W.prog W.w) A (execs body (envL L)) Q E s := by
  have hcl : (caRef cs).length ≤ sizeLine := by
    have := H.n
    rw [List.length_map] at this
    rw [sizeLine_eq]; simp [caRef]; omega
  have hln : (ln w).length ≤ sizeLine := by
    have := H.n
    have h2 := setN3_sum ln hw []
    rw [sizeLine_eq]; simp only [List.length_nil] at h2; omega
  subst hbd
  have em : ((bg : Int) + 1) = ((bg + 1 : Nat) : Int) := by omega
  simp only [locL, nwL] at S'
  replace S' := S'.perm (nw' := (nms, IsLst (nmRef na)) :: (ca, IsLst (caRef cs)) :: (pcs, IsLst vals) :: (nmLed na ln ++ (caLed cs ++ X))) (by simp only [nmLed]; walk_at "perm")
  refine execs_go ?_
  repeat walk_at "cw"
  rw [em] at S'
  refine Sta.sub_list S' (by walk_at "mem") (by omega) (by omega) (nmRef_atI na hw) ?_
  replace S' := S'.perm (nw' := nmLed na ln ++ ((nms, IsLst (nmRef na)) :: (ca, IsLst (caRef cs)) :: (pcs, IsLst vals) :: (caLed cs ++ X))) (by simp only [nmLed]; walk_at "perm")
  have U := nm_upd na ln hw (ln w) ((nms, IsLst (nmRef na)) :: (ca, IsLst (caRef cs)) :: (pcs, IsLst vals) :: (caLed cs ++ X))
  with_reducible refine Sta.getM_txts S' U.mem F.slot_list_append F.type_list_append ?_
  repeat walk_at "cw"
  have hbd := fmod_bd y 3 (by decide)
  obtain ⟨z, tz, hz, hzp⟩ := xee_at _ _ _ hbd.1 hbd.2
  refine Sta.sub_list S' (.head _) (by omega) (by omega) hz ?_
  refine args_nil ?_
  have U2 := nm_upd na ln hw (ln w ++ [z]) ((nms, IsLst (nmRef na)) :: (ca, IsLst (caRef cs)) :: (pcs, IsLst vals) :: (caLed cs ++ X))
  refine Sta.appendT S' (.tail U2) hln ?_
  clear S'; intro s' S'
  have S2 := S'.sel (nw' := (nms, IsLst (nmRef na)) :: (ca, IsLst (caRef cs)) :: (pcs, IsLst vals) :: (nmLed na (setN3 ln w (ln w ++ [z])) ++ (caLed cs ++ X))) (Sel.drop (Sel.of_perm (by simp only [nmLed]; walk_at "perm")))
  clear S'
  have S' := S2
  clear S2 hz
  repeat walk_at "cw"
  refine Sta.sub_list S' (by walk_at "mem") (by omega) (by omega) (nmRef_atI na hw) ?_
  replace S' := S'.perm (nw' := nmLed na (setN3 ln w (ln w ++ [z])) ++ ((nms, IsLst (nmRef na)) :: (ca, IsLst (caRef cs)) :: (pcs, IsLst vals) :: (caLed cs ++ X))) (by simp only [nmLed]; walk_at "perm")
  have U3 := nm_upd na (setN3 ln w (ln w ++ [z])) hw [] ((nms, IsLst (nmRef na)) :: (ca, IsLst (caRef cs)) :: (pcs, IsLst vals) :: (caLed cs ++ X))
  have e3 : setN3 ln w (ln w ++ [z]) w = ln w ++ [z] := by simp [setN3]
  rw [e3] at U3
  repeat walk_at "cw"
  refine Sta.subT_last S' U3.mem ?_
  intro tz2
  replace S' := S'.perm (nw' := (ca, IsLst (caRef cs)) :: (nmLed na (setN3 ln w (ln w ++ [z])) ++ ((nms, IsLst (nmRef na)) :: (pcs, IsLst vals) :: (caLed cs ++ X)))) (by simp only [nmLed]; walk_at "perm")
  repeat walk_at "cw"
  have S2 := Sta.c5 (ca := ca) (cs := cs) (R := nmLed na (setN3 ln w (ln w ++ [z])) ++ ((nms, IsLst (nmRef na)) :: (pcs, IsLst vals) :: X)) ⟨w, .start, z⟩ S' (by simp only [nmLed]; walk_at "perm")
  refine kk _ ⟨bg + 1, _, cs ++ [(a', ⟨w, .start, z⟩)], setN3 ln w (ln w ++ [z]), ?_, ?_, S2.perm (by simp only [nwL]; walk_at "perm")⟩
  · rw [List.map_append, show 7 + 2 * (i + 1) = 7 + 2 * i + 2 from by omega]
    exact H.start hw (hl w hw) hzp
  · intro v hv
    unfold setN3
    split
    · simp
    · exact hl v hv
set_option maxHeartbeats 8000000 in
/-- an element ends -/
theorem brE {L scr pcs ca nms : Addr} {na : Nat → Addr} {vals : List Value} {X : Ledger} {w i bg : Nat} {tb tw tk ty : Tok} {y kd : Int} {cs : Cls} {ln : Nms} {vx : Option Value} {Q : Flow → Shared → Prop} (I : IsC W) (hA : Aok 20 A) (hw : w < 3) (hi : i < 63) (H : Cst (cs.map (·.2)) ln (7 + 2 * i)) (hl : ∀ v, v < 3 → 1 ≤ (ln v).length) (h2 : 1 < (ln w).length)
    (S' : Sta W G (envL L) (locL scr pcs ca nms bg tb vx (some (.int (w : Int) tw)) (some (.int kd tk)) (some (.int y ty))) (nwL pcs ca nms na vals cs ln X) s)
    (kk : ∀ s', MidL W G L scr pcs ca nms na vals X vx (some (.int (w : Int) tw)) (some (.int kd tk)) (some (.int y ty)) (i + 1) s' → Q .next s')
    (body : List Stmt) (hbd : body = ifBody (ifElse stI)) : wpAny (model W.prog W.w) A (execs body (envL L)) Q E s := by
  have hcl : (caRef cs).length ≤ sizeLine := by
    have := H.n
    rw [List.length_map] at this
    rw [sizeLine_eq]; simp [caRef]; omega
  obtain ⟨l, z, hlz⟩ : ∃ l z, ln w = l ++ [z] := by
    have hne : ln w ≠ [] := fun e => by rw [e] at h2; simp at h2
    exact ⟨(ln w).dropLast, (ln w).getLast hne, (List.dropLast_concat_getLast hne).symm⟩
  have hll : l.length < sizeLine := by
    have := H.n
    have h3 := setN3_sum ln hw []
    rw [hlz] at h3
    rw [sizeLine_eq]; simp only [List.length_nil, List.length_append, List.length_singleton] at h3; omega
  subst hbd
  simp only [locL, nwL] at S'
  replace S' := S'.perm (nw' := (nms, IsLst (nmRef na)) :: (ca, IsLst (caRef cs)) :: (pcs, IsLst vals) :: (nmLed na ln ++ (caLed cs ++ X))) (by simp only [nmLed]; walk_at "perm")
  refine execs_go ?_
  repeat walk_at "cw"
  refine Sta.sub_list S' (by walk_at "mem") (by omega) (by omega) (nmRef_atI na hw) ?_
  replace S' := S'.perm (nw' := nmLed na ln ++ ((nms, IsLst (nmRef na)) :: (ca, IsLst (caRef cs)) :: (pcs, IsLst vals) :: (caLed cs ++ X))) (by simp only [nmLed]; walk_at "perm")
  have U := nm_upd na ln hw l ((nms, IsLst (nmRef na)) :: (ca, IsLst (caRef cs)) :: (pcs, IsLst vals) :: (caLed cs ++ X))
  rw [hlz] at U
  with_reducible refine Sta.getM_txts S' U.mem F.slot_list_pop F.type_list_pop ?_
  repeat walk_at "cw"
  refine Sta.popT S' U hll ?_
  clear S'; intro tz s' S'
  replace S' := S'.perm (nw' := (ca, IsLst (caRef cs)) :: (nmLed na (setN3 ln w l) ++ ((nms, IsLst (nmRef na)) :: (pcs, IsLst vals) :: (caLed cs ++ X)))) (by simp only [nmLed]; walk_at "perm")
  repeat walk_at "cw"
  have S2 := Sta.c5 (ca := ca) (cs := cs) (R := nmLed na (setN3 ln w l) ++ ((nms, IsLst (nmRef na)) :: (pcs, IsLst vals) :: X)) ⟨w, .ende, z⟩ S' (by simp only [nmLed]; walk_at "perm")
  refine kk _ ⟨bg, _, cs ++ [(a', ⟨w, .ende, z⟩)], setN3 ln w l, ?_, ?_, S2.perm (by simp only [nwL]; walk_at "perm")⟩
  · rw [List.map_append]
    have := H.pop hw hlz
    exact ⟨this.good, this.d, this.nm, Nat.le_trans this.n (by omega)⟩
  · intro v hv
    unfold setN3
    split
    · rename_i e
      rw [hlz, List.length_append, List.length_singleton] at h2; omega
    · exact hl v hv
end
end
section
open PySem PySem.W PyProof.Rows PySem.W.X PySem.SeqAt
set_option maxRecDepth 100000
set_option linter.unusedVariables false
section
variable {W : Wd} {G : Gens} {env : Env} {loc loc' : Loc} {nw nw' : Ledger} {s : Shared} {A : Around} {E : Value → Shared → Prop} {N : Ledger}
set_option maxHeartbeats 8000000 in
theorem restL2 {L scr pcs ca nms : Addr} {na : Nat → Addr} {vals : List Value} {X : Ledger} {w i bg : Nat} {tb tw tk ty : Tok} {y kd : Int} {cs : Cls} {ln : Nms} {vx : Option Value} {Q : Flow → Shared → Prop} (I : IsC W) (hA : Aok 20 A) (hv : Pc10 vals) (hw : w < 3) (hi : i < 63) (H : Cst (cs.map (·.2)) ln (7 + 2 * i)) (hl : ∀ v, v < 3 → 1 ≤ (ln v).length)
    (S' : Sta W G (envL L) (locL scr pcs ca nms bg tb vx (some (.int (w : Int) tw)) (some (.int kd tk)) (some (.int y ty))) (nwL pcs ca nms na vals cs ln X) s)
    (kk : ∀ s', MidL W G L scr pcs ca nms na vals X vx (some (.int (w : Int) tw)) (some (.int kd tk)) (some (.int y ty)) (i + 1) s' → Q .next s')
    (body : List Stmt) (hbd : body = ifElses (ifElse stI)) : wpAny (model W.prog W.w) A (execs body (envL L)) Q E s := by
  subst hbd
  refine wpAny_execs_cons ?_
  refine wpAny_If ?_
  repeat walk_at "cw"
  refine ite_by (fun _ => ?_) (fun _ => ?_)
  · refine wpAny_execs_cons ?_
    exact brM (k := .order) I hA hv hw hi ⟨(by intro h; cases h), (by intro h; cases h)⟩ H hl S' (fun s' M => wpAny_execs_nil (wpAny_execs_nil (kk _ M))) (by kernel_rfl)
  refine wpAny_execs_cons ?_
  refine wpAny_If ?_
  repeat walk_at "cw"
  refine ite_by (fun _ => ?_) (fun _ => ?_)
  · refine wpAny_execs_cons ?_
    exact brM (k := .comment) I hA hv hw hi ⟨(by intro h; cases h), (by intro h; cases h)⟩ H hl S' (fun s' M => wpAny_execs_nil (wpAny_execs_nil (wpAny_execs_nil (kk _ M)))) (by kernel_rfl)
  · refine wpAny_execs_cons ?_
    exact brM (k := .text) I hA hv hw hi ⟨(by intro h; cases h), (by intro h; cases h)⟩ H hl S' (fun s' M => wpAny_execs_nil (wpAny_execs_nil (wpAny_execs_nil (kk _ M)))) (by kernel_rfl)
set_option maxHeartbeats 8000000 in
theorem restL1 {L scr pcs ca nms : Addr} {na : Nat → Addr} {vals : List Value} {X : Ledger} {w i bg : Nat} {tb tw tk ty : Tok} {y kd : Int} {cs : Cls} {ln : Nms} {vx : Option Value} {Q : Flow → Shared → Prop} (I : IsC W) (hA : Aok 20 A) (hv : Pc10 vals) (hw : w < 3) (hi : i < 63) (H : Cst (cs.map (·.2)) ln (7 + 2 * i)) (hl : ∀ v, v < 3 → 1 ≤ (ln v).length)
    (S' : Sta W G (envL L) (locL scr pcs ca nms bg tb vx (some (.int (w : Int) tw)) (some (.int kd tk)) (some (.int y ty))) (nwL pcs ca nms na vals cs ln X) s)
    (kk : ∀ s', MidL W G L scr pcs ca nms na vals X vx (some (.int (w : Int) tw)) (some (.int kd tk)) (some (.int y ty)) (i + 1) s' → Q .next s')
    (body : List Stmt) (hbd : body = ifElses stI) : wpAny (model W.prog W.w) A (execs body (envL L)) Q E s := by
  have hln : (ln w).length ≤ sizeLine := by
    have := H.n
    have h2 := setN3_sum ln hw []
    rw [sizeLine_eq]; simp only [List.length_nil] at h2; omega
  subst hbd
  refine wpAny_execs_cons ?_
  refine wpAny_If ?_
  repeat walk_at "cw"
  refine ite_by (fun _ => ?_) (fun _ => ?_)
  · repeat walk_at "cw"
    refine Sta.builtin S' I.b_len bo_len (by kernel_rfl) ?_
    simp only [nwL] at S'
    have S2 := S'.perm (nw' := (nms, IsLst (nmRef na)) :: (ca, IsLst (caRef cs)) :: (pcs, IsLst vals) :: (nmLed na ln ++ (caLed cs ++ X))) (by simp only [nmLed]; walk_at "perm")
    clear S'
    have S' := S2
    clear S2
    repeat walk_at "cw"
    refine Sta.sub_list S' (by walk_at "mem") (by omega) (by omega) (nmRef_atI na hw) ?_
    repeat walk_at "cw"
    have U := nm_upd na ln hw (ln w) (caLed cs ++ X)
    refine Sta.lenT S' (.tail _ (.tail _ (.tail _ U.mem))) hln ?_
    clear S'; intro tn s' S'
    replace S' := S'.perm (nw' := nwL pcs ca nms na vals cs ln X) (by simp only [nmLed, nwL]; walk_at "perm")
    repeat walk_at "cw"
    refine ite_by (fun hgt => ?_) (fun _ => ?_)
    · refine isTrue_and_nil (ite_t ?_)
      have hd : 1 < (ln w).length := by have := of_decide_eq_true hgt; omega
      exact brE I hA hw hi H hl hd S' (fun s' M => wpAny_execs_nil (kk _ M)) _ rfl
    · refine ite_f ?_
      exact restL2 I hA hv hw hi H hl S' (fun s' M => wpAny_execs_nil (kk _ M)) _ rfl
  · refine ite_f ?_
    exact restL2 I hA hv hw hi H hl S' (fun s' M => wpAny_execs_nil (kk _ M)) _ rfl
set_option maxHeartbeats 8000000 in
theorem turnL {L scr pcs ca nms : Addr} {na : Nat → Addr} {vals : List Value} {X : Ledger} {i : Nat} {x : Int} {tx : Tok} {vw vk vy : Option Value} {Q : Flow → Shared → Prop} (I : IsC W) (hA : Aok 20 A) (hv : Pc10 vals) (hi : i < 63)
    (M : MidL W G L scr pcs ca nms na vals X (some (.int x tx)) vw vk vy i s)
    (kk : ∀ vx vw vk vy s', MidL W G L scr pcs ca nms na vals X vx vw vk vy (i + 1) s' → Q .next s')
    (body : List Stmt) (hbd : body = forBody stF) : wpAny (model W.prog W.w) A (execs body (envL L)) Q E s := by
  obtain ⟨bg, tb, cs, ln, H, hl, S'⟩ := M
  simp only [locL] at S'
  subst hbd
  refine execs_go ?_
  refine execs_at rfl ?_
  refine Assign_Tuple_swapped (names := ["w", "kind", "y"]) ?_ (by kernel_rfl) (by kernel_rfl)
  repeat walk_at "cw"
  refine Sta.unpackI S' hA.handled (by walk_at "mem") rfl ?_
  clear S'; intro s' S'
  replace S' := S'.sub (List.sublist_cons_self _ _)
  refine assignInOrder_cons ?_
  refine bindName_ ?_
  repeat walk_at "cw"
  refine assignInOrder_cons ?_
  refine bindName_ ?_
  repeat walk_at "cw"
  refine assignInOrder_cons ?_
  refine bindName_ ?_
  repeat walk_at "cw"
  refine assignInOrder_nil ?_
  have hbd := fmod_bd x 3 (by decide)
  obtain ⟨w, hw⟩ : ∃ w : Nat, x.fmod 3 = (w : Int) := ⟨(x.fmod 3).toNat, by omega⟩
  have hw3 : w < 3 := by omega
  rw [hw] at S'
  refine execs_at rfl ?_
  refine wpAny_If ?_
  repeat walk_at "cw"
  have fin : ∀ (vw vk vy : Option Value) s', MidL W G L scr pcs ca nms na vals X (some (.int x tx)) vw vk vy (i + 1) s' → wpAny (model W.prog W.w) A (execs ((forBody stF).drop 2) (envL L)) Q E s' := fun _ _ _ s' M => execs_end (Nat.le_of_ble_eq_true rfl) (kk _ _ _ _ _ M)
  refine ite_by (fun _ => ?_) (fun _ => ?_)
  · repeat walk_at "cw"
    refine ite_by (fun hgt => ?_) (fun _ => ?_)
    · refine isTrue_and_nil (ite_t ?_)
      exact brS I hA hw3 hi H hl S' (fin _ _ _) _ rfl
    · refine ite_f ?_
      exact restL1 I hA hv hw3 hi H hl S' (fin _ _ _) _ rfl
  · refine ite_f ?_
    exact restL1 I hA hv hw3 hi H hl S' (fin _ _ _) _ rfl
end
end
section
open PySem PySem.W PyProof.Rows PySem.W.X PySem.SeqAt
set_option maxRecDepth 100000
set_option linter.unusedVariables false
theorem yields_ints {W : Wd} {sh : Ledger} {it : Addr} {vs : List Value} {ns : List Int} {own : Ledger} {og : Gens} (h : IntsAre vs ns) : Yields W sh it vs own og → YieldsR W sh it (fun (i : Int) v => ∃ t, v = .int i t) ns own og := by
  induction h generalizing own og with
  | nil => exact fun H => H
  | cons n t h ih => exact fun H => ⟨H.1, fun A R GR s Q E hA S hQ => H.2 A R GR s Q E hA S fun own' og' s' S' H' => hQ _ own' og' s' ⟨t, rfl⟩ S' (ih H')⟩
noncomputable def stW : Stmt := (fnBody st_l_calls).getD 5 (.Pass default)
noncomputable def stWh : Stmt := (forBody stW).getD 0 (.Pass default)
noncomputable def whTest : Stmt → Expr
  | .While t _ _ _ => t
  | _ => .Name "" default
noncomputable def whBody : Stmt → List Stmt
  | .While _ b _ _ => b
  | _ => []
inductive LpL (W : Wd) (G : Gens) (scr pcs ca nms : Addr) (na : Nat → Addr) (vals : List Value) (X : Ledger) (rest : List Int) (loc' : Loc) (nw1 : Ledger) (G' : Gens) : Prop
  | mk (bg : Nat) (tb : Tok) (cs : Cls) (ln : Nms) (vx vw vk vy : Option Value) (i : Nat) (hG : G' = G) (hir : i + rest.length ≤ 63) (H : Cst (cs.map (·.2)) ln (7 + 2 * i)) (hl : ∀ v, v < 3 → 1 ≤ (ln v).length) (hloc : loc' = locL scr pcs ca nms bg tb vx vw vk vy) (hnw : nw1 = nwL pcs ca nms na vals cs ln X) : LpL W G scr pcs ca nms na vals X rest loc' nw1 G'
section
variable {W : Wd} {G : Gens} {env : Env} {loc loc' : Loc} {nw nw' : Ledger} {s : Shared} {A : Around} {E : Value → Shared → Prop} {N : Ledger}
set_option maxHeartbeats 8000000 in
theorem loopL {p : Pos} {L scr pcs ca nms it : Addr} {na : Nat → Addr} {vals vs : List Value} {X : Ledger} {ns : List Int} {bg : Nat} {tb : Tok} {cs : Cls} {ln : Nms} {R : Result → Shared → Prop} (I : IsC W) (hA : Aok 20 A) (hv : Pc10 vals) (hB : W.B.IsList scr vs.toArray) (hi : IntsAre vs ns) (hn : ns.length ≤ 63) (H : Cst (cs.map (·.2)) ln 7) (hl : ∀ v, v < 3 → 1 ≤ (ln v).length)
    (S : Sta W G (envL L) (locL scr pcs ca nms bg tb none none none none) ((it, IsLI scr 0) :: nwL pcs ca nms na vals cs ln X) s)
    (k : ∀ vx vw vk vy i s', i ≤ 63 → MidL W G L scr pcs ca nms na vals X vx vw vk vy i s' → R (.ok .next) s') (body : List Stmt) (hbd : body = forBody stF) :
    codeAny (model W.prog W.w) A (.forLoop (.Name "x" p) (.ref it) body [] (envL L)) R s := by
  have S2 := S.perm (nw' := nwL pcs ca nms na vals cs ln X ++ ([] ++ [(it, IsLI scr 0)])) (by simp only [nwL, nmLed]; walk_at "perm")
  refine for_y (sh := []) (P := fun (i : Int) v => ∃ t, v = .int i t) (hA.le (by first | decide | omega)) (G := G) (og := []) (own := [(it, IsLI scr 0)])
    (fun rest loc' nw1 G' => LpL W G scr pcs ca nms na vals X rest loc' nw1 G') ?_ ?_ (by rw [List.append_nil]; exact S2) (yields_ints hi (LY.yields (ly_base hB vs 0 rfl))) ⟨bg, tb, cs, ln, none, none, none, none, 0, rfl, by omega, H, hl, rfl, rfl⟩
  · intro x v rest tl tg loc' nw1 G' s1 hx S1 hJ
    obtain ⟨bg, tb, cs, ln, vx, vw, vk, vy, i, rfl, hir, H, hl, rfl, rfl⟩ := hJ
    obtain ⟨t1, rfl⟩ := hx
    simp only [List.length_cons] at hir
    refine wpAny_assign_Name (S1.store (by simp only [locL]; walk_at "put") fun s' S' => ?_)
    refine turnL (X := X ++ ([] ++ tl)) I hA hv (i := i) (by omega) ⟨bg, tb, cs, ln, H, hl, S'.perm (by simp only [nwL, nmLed]; walk_at "perm")⟩ ?_ _ hbd
    intro vx vw vk vy s' M
    obtain ⟨bg, tb, cs, ln, H, hl, S'⟩ := M
    exact ⟨_, nwL pcs ca nms na vals cs ln X, G', S'.perm (by simp only [nwL, nmLed]; walk_at "perm"), ⟨bg, tb, cs, ln, vx, vw, vk, vy, i + 1, rfl, by omega, H, hl, rfl, rfl⟩⟩
  · intro loc' nw1 G' s1 S1 hJ
    obtain ⟨bg, tb, cs, ln, vx, vw, vk, vy, i, rfl, hir, H, hl, rfl, rfl⟩ := hJ
    rw [List.append_nil] at S1
    exact k vx vw vk vy i s1 (by simp at hir; omega) ⟨bg, tb, cs, ln, H, hl, S1⟩
set_option maxHeartbeats 8000000 in
/-- while names[w]: .. -/
theorem whileL {p : Pos} {L scr pcs ca nms : Addr} {na : Nat → Addr} {vals : List Value} {X : Ledger} {w bg n : Nat} {tb tw : Tok} {vx vk vy : Option Value} {Q : Flow → Shared → Prop} (I : IsC W) (hA : Aok 20 A) (hw : w < 3) (hn : n ≤ 200)
    {cs : Cls} {ln : Nms} (H : Cst (cs.map (·.2)) ln n) (S : Sta W G (envL L) (locL scr pcs ca nms bg tb vx (some (.int (w : Int) tw)) vk vy) (nwL pcs ca nms na vals cs ln X) s)
    (k : ∀ cs s', Cst (cs.map (·.2)) (setN3 ln w []) n → Sta W G (envL L) (locL scr pcs ca nms bg tb vx (some (.int (w : Int) tw)) vk vy) (nwL pcs ca nms na vals cs (setN3 ln w []) X) s' → Q .next s')
    (test : Expr) (body : List Stmt) (ht : test = whTest stWh) (hb : body = whBody stWh) :
    wpAny (model W.prog W.w) A (exec (.While test body [] p) (envL L)) Q E s := by
  subst ht hb
  refine wpAny_While (codeAny_whileLoop (fun m s' => ∃ cs l, l.length = m ∧ Cst (cs.map (·.2)) (setN3 ln w l) n ∧ Sta W G (envL L) (locL scr pcs ca nms bg tb vx (some (.int (w : Int) tw)) vk vy) (nwL pcs ca nms na vals cs (setN3 ln w l) X) s') ?_ (ln w).length ?_)
  · intro m s1 hI
    obtain ⟨cs, l, hm, H, S'⟩ := hI
    have e3 : setN3 ln w l w = l := by simp [setN3]
    have hll : l.length ≤ sizeLine := by
      have := H.n
      have h3 := setN3_sum (setN3 ln w l) hw []
      rw [e3] at h3
      rw [sizeLine_eq]; simp only [List.length_nil] at h3; omega
    have hcl : (caRef cs).length ≤ sizeLine := by
      have := H.n
      rw [List.length_map] at this
      rw [sizeLine_eq]; simp [caRef]; omega
    simp only [locL, nwL] at S'
    replace S' := S'.perm (nw' := (nms, IsLst (nmRef na)) :: (ca, IsLst (caRef cs)) :: (pcs, IsLst vals) :: (nmLed na (setN3 ln w l) ++ (caLed cs ++ X))) (by simp only [nmLed]; walk_at "perm")
    refine isTrue_plain ?_ (by kernel_rfl)
    refine Subscript_any ?_ (by intro _ _; kernel_rfl)
    repeat walk_at "cw"
    refine Sta.sub_list S' (by walk_at "mem") (by omega) (by omega) (nmRef_atI na hw) ?_
    replace S' := S'.perm (nw' := nmLed na (setN3 ln w l) ++ ((nms, IsLst (nmRef na)) :: (ca, IsLst (caRef cs)) :: (pcs, IsLst vals) :: (caLed cs ++ X))) (by simp only [nmLed]; walk_at "perm")
    have U0 := nm_upd na (setN3 ln w l) hw [] ((nms, IsLst (nmRef na)) :: (ca, IsLst (caRef cs)) :: (pcs, IsLst vals) :: (caLed cs ++ X))
    rw [e3] at U0
    with_reducible refine Sta.truthyT S' U0.mem hll ?_
    clear S'; intro s' S'
    cases hcase : l with
    | nil =>
      subst hcase
      refine ite_f ?_
      refine wpAny_execs_nil ?_
      exact k cs _ H (S'.perm (by simp only [nwL, nmLed]; walk_at "perm"))
    | cons y0 r0 =>
      obtain ⟨l1, z, hlz⟩ : ∃ l1 z, l = l1 ++ [z] := by
        have hne : l ≠ [] := by rw [hcase]; simp
        exact ⟨l.dropLast, l.getLast hne, (List.dropLast_concat_getLast hne).symm⟩
      clear hcase
      subst hlz
      refine ite_t ?_
      refine execs_go ?_
      refine execs_at rfl ?_
      replace S' := S'.perm (nw' := (nms, IsLst (nmRef na)) :: (ca, IsLst (caRef cs)) :: (pcs, IsLst vals) :: (nmLed na (setN3 ln w (l1 ++ [z])) ++ (caLed cs ++ X))) (by simp only [nmLed]; walk_at "perm")
      repeat walk_at "cw"
      refine Sta.sub_list S' (by walk_at "mem") (by omega) (by omega) (nmRef_atI na hw) ?_
      replace S' := S'.perm (nw' := nmLed na (setN3 ln w (l1 ++ [z])) ++ ((nms, IsLst (nmRef na)) :: (ca, IsLst (caRef cs)) :: (pcs, IsLst vals) :: (caLed cs ++ X))) (by simp only [nmLed]; walk_at "perm")
      have U := nm_upd na (setN3 ln w (l1 ++ [z])) hw l1 ((nms, IsLst (nmRef na)) :: (ca, IsLst (caRef cs)) :: (pcs, IsLst vals) :: (caLed cs ++ X))
      have e4 : setN3 (setN3 ln w (l1 ++ [z])) w l1 = setN3 ln w l1 := by
        funext v
        unfold setN3
        split <;> rfl
      rw [e3, e4] at U
      have hl1 : l1.length < sizeLine := by
        have := hll
        rw [List.length_append, List.length_singleton] at this; omega
      with_reducible refine Sta.getM_txts S' U.mem F.slot_list_pop F.type_list_pop ?_
      repeat walk_at "cw"
      refine Sta.popT S' U hl1 ?_
      clear S'; intro tz s' S'
      replace S' := S'.perm (nw' := (ca, IsLst (caRef cs)) :: (nmLed na (setN3 ln w l1) ++ ((nms, IsLst (nmRef na)) :: (pcs, IsLst vals) :: (caLed cs ++ X)))) (by simp only [nmLed]; walk_at "perm")
      repeat walk_at "cw"
      have S2 := Sta.c5 (ca := ca) (cs := cs) (R := nmLed na (setN3 ln w l1) ++ ((nms, IsLst (nmRef na)) :: (pcs, IsLst vals) :: X)) ⟨w, .ende, z⟩ S' (by simp only [nmLed]; walk_at "perm")
      have H2 := H.pop hw e3
      rw [e4] at H2
      refine ⟨l1.length, by have := hm; rw [List.length_append, List.length_singleton] at this; omega, cs ++ [(a', ⟨w, .ende, z⟩)], l1, rfl, ?_, S2.perm (by simp only [nwL]; walk_at "perm")⟩
      rw [List.map_append]
      exact H2
  · refine ⟨cs, ln w, rfl, ?_⟩
    have : setN3 ln w (ln w) = ln := by
      funext v
      unfold setN3
      split
      · rename_i e; rw [e]
      · rfl
    rw [this]
    exact ⟨H, S⟩
end
end
section
open PySem PySem.W PyProof.Rows PySem.W.X PySem.SeqAt
set_option maxRecDepth 100000
set_option linter.unusedVariables false
noncomputable def na3 (a b c : Addr) : Nat → Addr
  | 0 => a
  | 1 => b
  | _ => c
theorem txts_mem {P : Str → Prop} {vs : List Value} {xs : List Str} (H : TxtsAre vs xs) : (∀ x ∈ xs, P x) → ∀ v ∈ vs, ∃ x t, v = .str x t ∧ P x := by
  induction H with
  | nil => intro _ v hv; cases hv
  | cons x t H ih =>
    intro hp v hv
    rcases List.mem_cons.mp hv with rfl | hv
    · exact ⟨x, t, rfl, hp _ (.head _)⟩
    · exact ih (fun y hy => hp y (.tail _ hy)) v hv
noncomputable def pcs10 : List Str := ["a", "&", "<", ">", "\r", "\n", "", "&lt;", "?>", "--"]
theorem pc10_txts {vs : List Value} (H : TxtsAre vs pcs10) : Pc10 vs := ⟨fun j hj => by
  have hl : vs.length = 10 := by rw [H.length]; rfl
  obtain ⟨x, t, e, h⟩ := txts_mem (P := fun x => x.length ≤ 4) H (by decide +kernel) (vs[j]'(by omega)) (List.getElem_mem _)
  exact ⟨x, t, by rw [List.getElem?_eq_getElem (by omega), e], h⟩⟩
noncomputable def stL0 : Stmt := (fnBody st_l_calls).getD 0 (.Pass default)
theorem stL0_at : (fnBody st_l_calls)[0]? = some stL0 := by kernel_rfl
theorem stL0_as : stL0 = .Assign [.Name "pieces" (asP1 stL0)] (.List (strEs pcs10 ((lstE stL0).map cPos)) (asP2 stL0)) (asP3 stL0) := by kernel_rfl
theorem stL0_len : ((lstE stL0).map cPos).length = pcs10.length := by kernel_rfl
section
variable {W : Wd} {G : Gens} {env : Env} {loc loc' : Loc} {nw nw' : Ledger} {s : Shared} {A : Around} {E : Value → Shared → Prop} {N : Ledger}
theorem Sta.tellC5 {a : Addr} {w : Int} {t1 t2 t3 : Tok} {k : Str} {x : Str} (S : Sta W G env loc nw s) (c : C5) (U : Upd a (IsTpl [.int w t1, .str k t2, .str x t3]) (IsC5 c) nw nw') (h1 : w = (c.w : Int)) (h2 : k = kTx c.k) (h3 : x = c.x) : Sta W G env loc nw' s := by
  subst h1 h2 h3
  exact S.tell U fun o _ ho => ⟨_, _, _, ho⟩
set_option maxHeartbeats 8000000 in
/-- for w in range(3): while names[w]: .. -/
theorem endsL {p : Pos} {L scr pcs ca nms it : Addr} {na : Nat → Addr} {vals : List Value} {X : Ledger} {bg n : Nat} {tb : Tok} {vx vw vk vy : Option Value} {cs : Cls} {ln : Nms} {R : Result → Shared → Prop} (I : IsC W) (hA : Aok 20 A) (hn : n ≤ 200) (H : Cst (cs.map (·.2)) ln n)
    (S : Sta W G (envL L) (locL scr pcs ca nms bg tb vx vw vk vy) ((it, IsRngIt ((0 : Nat) : Int) ((3 - 0 : Nat) : Int)) :: nwL pcs ca nms na vals cs ln X) s)
    (k : ∀ vw cs ln s', Cst (cs.map (·.2)) ln n → Sta W G (envL L) (locL scr pcs ca nms bg tb vx vw vk vy) (nwL pcs ca nms na vals cs ln X) s' → R (.ok .next) s') (body : List Stmt) (hbd : body = forBody stW) :
    codeAny (model W.prog W.w) A (.forLoop (.Name "w" p) (.ref it) body [] (envL L)) R s := by
  have S2 := S.perm (nw' := nwL pcs ca nms na vals cs ln X ++ ([] ++ [(it, IsRngIt ((0 : Nat) : Int) ((3 - 0 : Nat) : Int))])) (by simp only [nwL, nmLed]; walk_at "perm")
  refine for_y (sh := []) (P := fun (k : Nat) v => ∃ t, v = .int (k : Int) t) (hA.le (by first | decide | omega)) (G := G) (og := []) (own := [(it, IsRngIt ((0 : Nat) : Int) ((3 - 0 : Nat) : Int))])
    (fun rest loc' nw1 G' => G' = G ∧ ∃ cs ln vw, (∀ j ∈ rest, j < 3) ∧ Cst (cs.map (·.2)) ln n ∧ loc' = locL scr pcs ca nms bg tb vx vw vk vy ∧ nw1 = nwL pcs ca nms na vals cs ln X) ?_ ?_ (by rw [List.append_nil]; exact S2) (yields_range _ _) ⟨rfl, cs, ln, vw, by decide, H, rfl, rfl⟩
  · intro x v rest tl tg loc' nw1 G' s1 hx S1 hJ
    obtain ⟨rfl, cs, ln, vw, hj, H, rfl, rfl⟩ := hJ
    obtain ⟨t1, rfl⟩ := hx
    refine wpAny_assign_Name (S1.store (by simp only [locL]; walk_at "put") fun s' S' => ?_)
    subst hbd
    refine execs_go ?_
    refine execs_at rfl ?_
    refine whileL (X := X ++ ([] ++ tl)) (n := n) I hA (hj x (.head _)) hn H (S'.perm (by simp only [nwL, nmLed]; walk_at "perm")) ?_ _ _ rfl rfl
    intro cs' s2 H2 S2
    refine execs_end (Nat.le_of_ble_eq_true rfl) ?_
    exact ⟨_, nwL pcs ca nms na vals cs' (setN3 ln x []) X, G', S2.perm (by simp only [nwL, nmLed]; walk_at "perm"), rfl, cs', setN3 ln x [], _, fun j h => hj j (.tail _ h), H2, rfl, rfl⟩
  · intro loc' nw1 G' s1 S1 hJ
    obtain ⟨rfl, cs, ln, vw, hj, H, rfl, rfl⟩ := hJ
    rw [List.append_nil] at S1
    exact k vw cs ln s1 H S1
set_option maxHeartbeats 8000000 in
theorem calls_ {scr : Addr} {vs : List Value} {ns : List Int} {Q : Value → Shared → Prop} (I : IsC W) (hA : Aok 22 A) (hB : W.B.IsList scr vs.toArray) (hi : IntsAre vs ns) (hn : ns.length ≤ 63) (S : Sta W G env loc N s)
    (k : ∀ ca cs s', GoodFrom d0 (cs.map (·.2)) → cs.length ≤ 200 → Sta W G env loc ((ca, IsLst (caRef cs)) :: (caLed cs ++ N)) s' → Q (.ref ca) s') :
    wpAny (model W.prog W.w) A (call (.ref 180) [.ref scr]) Q E s := by
  refine S.call_fn (binds := [("script", .ref scr)]) ["pieces", "calls", "names", "begun", "x", "w", "kind", "y"] I.f_l_calls hA.room (fun _ _ _ _ _ => BindsTo.of_eq (by kernel_rfl)) (by kernel_rfl) ?_
  intro L s' S'
  have hA' := hA.deeper (env := envL L)
  simp only [mkLoc, List.map_cons, List.map_nil, List.cons_append, List.nil_append] at S'
  refine execs_go ?_
  with_reducible refine execs_at (st := stL0) stL0_at ?_
  with_reducible refine Sta.assignStrs (y := "pieces") (xs := pcs10) S' stL0_as stL0_len (by rw [sizeLine_eq]; decide) ?_
  clear S'; intro pcs vals s' hv0 S'
  have hv := pc10_txts hv0
  refine Sta.store S' (by walk_at "put") ?_
  clear S'; intro s' S'
  repeat walk_at "cw"
  rename_i c1 _ _ _ _ _ _ _ c2 _ _ _ _ _ _ _ c3 _ _ _ _ _ _ _ c4 _ ca _ _ _ _ n0 _ _ _ n1 _ _ _ n2 _ _ _ _
  have S1 := S'.tell (a := n2) (c' := IsTxts ["r"]) (by walk_at "upd") fun o _ ho => ⟨_, .cons _ _ .nil, ho⟩
  replace S1 := S1.tell (a := n1) (c' := IsTxts ["r"]) (by walk_at "upd") fun o _ ho => ⟨_, .cons _ _ .nil, ho⟩
  replace S1 := S1.tell (a := n0) (c' := IsTxts ["r"]) (by walk_at "upd") fun o _ ho => ⟨_, .cons _ _ .nil, ho⟩
  replace S1 := S1.tellC5 (a := c4) ⟨0, .text, "<&"⟩ (by walk_at "upd") (by rfl) (by rfl) (by rfl)
  replace S1 := S1.tellC5 (a := c3) ⟨0, .start, "r"⟩ (by walk_at "upd") (by rfl) (by rfl) (by rfl)
  replace S1 := S1.tellC5 (a := c2) ⟨1, .start, "r"⟩ (by walk_at "upd") (by rfl) (by rfl) (by rfl)
  replace S1 := S1.tellC5 (a := c1) ⟨2, .start, "r"⟩ (by walk_at "upd") (by rfl) (by rfl) (by rfl)
  clear S'
  have S' := S1.perm (nw' := nwL pcs ca a' (na3 n0 n1 n2) vals [(c1, ⟨2, .start, "r"⟩), (c2, ⟨1, .start, "r"⟩), (c3, ⟨0, .start, "r"⟩), (c4, ⟨0, .text, "<&"⟩)] (fun _ => ["r"]) ((env.locals, IsNs loc) :: N)) (by
    show List.Perm _ ((n0, IsTxts ["r"]) :: (n1, IsTxts ["r"]) :: (n2, IsTxts ["r"]) :: (ca, IsLst [.ref c1, .ref c2, .ref c3, .ref c4]) :: (a', IsLst [.ref n0, .ref n1, .ref n2]) :: (pcs, IsLst vals) :: (c1, IsC5 ⟨2, .start, "r"⟩) :: (c2, IsC5 ⟨1, .start, "r"⟩) :: (c3, IsC5 ⟨0, .start, "r"⟩) :: (c4, IsC5 ⟨0, .text, "<&"⟩) :: (env.locals, IsNs loc) :: N)
    walk_at "perm")
  clear S1
  refine wpAny_For ?_ (by intro _; kernel_rfl)
  refine S'.local_ (by walk_at "mem") ?_
  refine S'.iterBase hB ?_
  clear S'; intro it s' S'
  refine loopL (bg := 0) (tb := t') (na := na3 n0 n1 n2) (ln := fun _ => ["r"]) (cs := [(c1, ⟨2, .start, "r"⟩), (c2, ⟨1, .start, "r"⟩), (c3, ⟨0, .start, "r"⟩), (c4, ⟨0, .text, "<&"⟩)]) I (hA'.le (by first | decide | omega)) hv hB hi hn (by exact cst0) (fun v _ => Nat.le_refl 1) S' ?_ _ rfl
  intro vx vw vk vy i s2 hi63 M
  obtain ⟨bg, tb, cs, ln, H, hl, S2⟩ := M
  clear S'
  have S' := S2
  clear S2
  refine execs_at rfl ?_
  refine wpAny_For ?_ (by intro _; kernel_rfl)
  repeat walk_at "cw"
  refine Sta.builtin S' I.b_range bo_range (by kernel_rfl) ?_
  repeat walk_at "cw"
  refine Sta.range1 S' ?_
  clear S'; intro r s' S'
  refine Sta.iterRange (a := 0) (b := 3) S' (.head _) (by omega) (by omega) ?_
  clear S'; intro it2 s' S'
  refine endsL (n := 7 + 2 * i) (X := (r, IsRng ((0 : Nat) : Int) ((3 : Nat) : Int)) :: (env.locals, IsNs loc) :: N) I (hA'.le (by first | decide | omega)) (by omega) H (S'.perm (nw' := (it2, IsRngIt ((0 : Nat) : Int) ((3 - 0 : Nat) : Int)) :: nwL pcs ca a' (na3 n0 n1 n2) vals cs ln ((r, IsRng ((0 : Nat) : Int) ((3 : Nat) : Int)) :: (env.locals, IsNs loc) :: N)) (by simp only [nwL, nmLed]; walk_at "perm")) ?_ _ rfl
  intro vw2 cs2 ln2 s3 H2 S3
  clear S'
  have S' := S3
  clear S3
  repeat walk_at "cw"
  refine k ca cs2 _ H2.good ?_ (Sta.back (S'.sel (nw' := (env.locals, IsNs loc) :: (ca, IsLst (caRef cs2)) :: (caLed cs2 ++ N)) (Sel.rest (nmLed (na3 n0 n1 n2) ln2 ++ [(a', IsLst (nmRef (na3 n0 n1 n2))), (pcs, IsLst vals), (r, IsRng ((0 : Nat) : Int) ((3 : Nat) : Int))]) (by simp only [nwL, nmLed]; walk_at "perm"))) S.eok)
  have := H2.n
  rw [List.length_map] at this
  omega
end
end
section
open PySem PySem.W PyProof.Rows PySem.W.X PySem.SeqAt
set_option maxRecDepth 100000
set_option linter.unusedVariables false
theorem Tx_iff (x : Str) : Tx x = true ↔ x = "x" := by
  unfold Tx
  simp [setT]
theorem flushed_cat (held : List Str) : cat (flushed held) = escC (cat held) := by
  have : flushed held = fl0 held := rfl
  rw [this, cat_fl0]
theorem outs_len (q : Q5) (k : Kd) (x : Str) : (outs q k x).length ≤ 4 := by
  have hf := flushed_len q.h
  have hm : (mk5 k x).length ≤ 3 := by cases k <;> simp [mk5, startTxts, kAt, atTxts]
  cases k with
  | text => show 0 ≤ 4; omega
  | _ =>
    show (if _ then _ else _ : List Str).length ≤ 4
    split
    · show 0 ≤ 4; omega
    · rw [List.length_append]; omega
theorem outs_cat (q : Q5) (k : Kd) (x : Str) (hx : x.length ≤ 4) : (cat (outs q k x)).length ≤ 6 * (cat q.h).length + 64 := by
  have hm := mk5_len k x
  have he := escC_len (cat q.h)
  have h0 : (cat ([] : List Str)).length = 0 := rfl
  cases k with
  | text => show (cat ([] : List Str)).length ≤ _; omega
  | _ =>
    show (cat (if _ then _ else _ : List Str)).length ≤ _
    split
    · omega
    · rw [cat_append, Str.length_append, flushed_cat]; omega
theorem nxt_h (q : Q5) (k : Kd) (x : Str) : (nxt q k x).h = q.h ∨ (nxt q k x).h = [] ∨ (k = .text ∧ (nxt q k x).h = q.h ++ [x]) := by
  cases k with
  | start => show (if _ then _ else _ : Q5).h = _ ∨ (if _ then _ else _ : Q5).h = _ ∨ _; split <;> simp
  | ende => show (if _ then _ else _ : Q5).h = _ ∨ (if _ then _ else _ : Q5).h = _ ∨ _; split <;> simp
  | text => show (if _ then _ else _ : Q5).h = _ ∨ (if _ then _ else _ : Q5).h = _ ∨ (_ ∧ (if _ then _ else _ : Q5).h = _); split <;> simp
  | order => show (if _ then _ else _ : Q5).h = _ ∨ (if _ then _ else _ : Q5).h = _ ∨ _; split <;> simp
  | comment => show (if _ then _ else _ : Q5).h = _ ∨ (if _ then _ else _ : Q5).h = _ ∨ _; split <;> simp
theorem nxt_hl (q : Q5) (k : Kd) (x : Str) (hx : x.length ≤ 4) : (nxt q k x).h.length ≤ q.h.length + 1 ∧ (cat (nxt q k x).h).length ≤ (cat q.h).length + 4 := by
  have h0 : (cat ([] : List Str)).length = 0 := rfl
  rcases nxt_h q k x with e | e | ⟨_, e⟩ <;> rw [e]
  · omega
  · simp only [List.length_nil]; omega
  · rw [cat_append, cat_one, Str.length_append, List.length_append, List.length_singleton]; omega
theorem nxt_comb (q : Q5) (k : Kd) (x : Str) (hx : x.length ≤ 4) : 6 * (cat (nxt q k x).h).length + (cat (outs q k x)).length ≤ 6 * (cat q.h).length + 64 := by
  have h0 : (cat ([] : List Str)).length = 0 := rfl
  have hm := mk5_len k x
  have he := escC_len (cat q.h)
  cases k with
  | text =>
    have h1 := (nxt_hl q .text x hx).2
    have h2 : (cat (outs q .text x)).length = 0 := rfl
    omega
  | start =>
    show 6 * (cat (if hid q .start x = true then _ else _ : Q5).h).length + (cat (if hid q .start x = true then _ else _)).length ≤ _
    split
    · show 6 * (cat q.h).length + 0 ≤ _; omega
    · show 6 * 0 + (cat (flushed q.h ++ mk5 .start x)).length ≤ _
      rw [cat_append, Str.length_append, flushed_cat]; omega
  | ende =>
    by_cases h : q.ig = 0
    · have e1 : nxt q .ende x = { q with h := [], d := q.d - 1 } := by show (if _ then _ else _) = _; rw [if_neg (by simp [h])]
      have e2 : outs q .ende x = flushed q.h ++ mk5 .ende x := by show (if _ then _ else _) = _; rw [if_neg (by rw [hid_n.1]; simp [h])]
      rw [e1, e2, cat_append, Str.length_append, flushed_cat]
      show 6 * 0 + _ ≤ _; omega
    · have e1 : nxt q .ende x = { q with ig := q.ig - 1, d := q.d - 1 } := by show (if _ then _ else _) = _; rw [if_pos h]
      have e2 : outs q .ende x = [] := by show (if _ then _ else _) = _; rw [if_pos (hid_ig h)]
      rw [e1, e2]
      show 6 * (cat q.h).length + 0 ≤ _; omega
  | order =>
    by_cases h : q.ig = 0
    · have e1 : nxt q .order x = { q with h := [] } := by show (if _ then _ else _) = _; rw [if_neg (by simp [h])]
      have e2 : outs q .order x = flushed q.h ++ mk5 .order x := by show (if _ then _ else _) = _; rw [if_neg (by rw [hid_n.2.1]; simp [h])]
      rw [e1, e2, cat_append, Str.length_append, flushed_cat]
      show 6 * 0 + _ ≤ _; omega
    · have e1 : nxt q .order x = q := by show (if _ then _ else _) = _; rw [if_pos h]
      have e2 : outs q .order x = [] := by show (if _ then _ else _) = _; rw [if_pos (hid_ig h)]
      rw [e1, e2]
      show 6 * (cat q.h).length + 0 ≤ _; omega
  | comment =>
    by_cases h : q.ig = 0
    · have e1 : nxt q .comment x = { q with h := [] } := by show (if _ then _ else _) = _; rw [if_neg (by simp [h])]
      have e2 : outs q .comment x = flushed q.h ++ mk5 .comment x := by show (if _ then _ else _) = _; rw [if_neg (by rw [hid_n.2.2]; simp [h])]
      rw [e1, e2, cat_append, Str.length_append, flushed_cat]
      show 6 * 0 + _ ≤ _; omega
    · have e1 : nxt q .comment x = q := by show (if _ then _ else _) = _; rw [if_pos h]
      have e2 : outs q .comment x = [] := by show (if _ then _ else _) = _; rw [if_pos (hid_ig h)]
      rw [e1, e2]
      show 6 * (cat q.h).length + 0 ≤ _; omega
theorem nxt_bd {q : Q5} {k : Kd} {x : Str} (hb : q.b = true) : (nxt q k x).b = true ∧ (nxt q k x).d = (match k with | .start => q.d + 1 | .ende => q.d - 1 | _ => q.d) := by
  cases k with
  | start => show (if _ then _ else _ : Q5).b = true ∧ (if _ then _ else _ : Q5).d = q.d + 1; split <;> simp [hb]
  | ende => show (if _ then _ else _ : Q5).b = true ∧ (if _ then _ else _ : Q5).d = q.d - 1; split <;> simp [hb]
  | text => show (if _ then _ else _ : Q5).b = true ∧ (if _ then _ else _ : Q5).d = q.d; split <;> simp [hb]
  | order => show (if _ then _ else _ : Q5).b = true ∧ (if _ then _ else _ : Q5).d = q.d; split <;> simp [hb]
  | comment => show (if _ then _ else _ : Q5).b = true ∧ (if _ then _ else _ : Q5).d = q.d; split <;> simp [hb]
/-- what holds between two calls -/
structure R5 (A : Dp) (T : T5) (i : Nat) : Prop where
  bd : ∀ v, v < 3 → (T.q v).b = (A v).1 ∧ (T.q v).d = (A v).2
  fr : ∀ v, v < 3 → (T.q v).b = false → (T.q v).h = [] ∧ (T.q v).ig = 0
  mono : ∀ v v', v < v' → v' < 3 → (A v).1 = true → (A v').1 = true
  sz : (cat (T.q 2).h).length + 6 * (cat (T.q 1).h).length + 36 * (cat (T.q 0).h).length ≤ 400 * i
  hl : ∀ v, v < 3 → (T.q v).h.length ≤ 5 * i
  ol : T.o.length ≤ 5 * i
  dd : ∀ v, v < 3 → (T.q v).d ≤ i
theorem R5.ok {A : Dp} {T : T5} {i : Nat} {c : C5} (R : R5 A T i) (h : okC A c) : OkQ (T.q c.w) c.k c.x := by
  have hb := R.bd c.w h.w
  refine ⟨?_, h.len, h.nm⟩
  rcases h.on with h1 | h1
  · exact .inl ⟨hb.1.trans h1.1, by rw [hb.2]; exact h1.2⟩
  · have e := hb.1.trans h1.2.1
    exact .inr ⟨h1.1, e, hb.2.trans h1.2.2.1, (R.fr c.w h.w e).1, h1.2.2.2.1⟩
theorem R5.bnd {A : Dp} {T : T5} {i : Nat} (R : R5 A T i) (hi : i ≤ 200) : Bnd3 T := by
  have sz := R.sz
  have ol := R.ol
  refine ⟨fun v hv => ⟨by have := R.hl v hv; omega, ?_, by have := R.dd v hv; omega⟩, by omega⟩
  unfold txtLine
  match v, hv with
  | 0, _ => omega
  | 1, _ => omega
  | 2, _ => omega
theorem stp_self (T : T5) (w : Nat) (k : Kd) (x : Str) : (T.stp w k x).q w = nxt (T.q w) k x := if_pos rfl
theorem stp_next (T : T5) (w : Nat) (k : Kd) (x : Str) : (T.stp w k x).q (w + 1) = recvs (T.q (w + 1)) (outs (T.q w) k x) := by
  show (if w + 1 = w then _ else if w + 1 = w + 1 then _ else _) = _
  rw [if_neg (by omega), if_pos rfl]
theorem stp_other (T : T5) {w v : Nat} (k : Kd) (x : Str) (h1 : v ≠ w) (h2 : v ≠ w + 1) : (T.stp w k x).q v = T.q v := by
  show (if v = w then _ else if v = w + 1 then _ else _) = _
  rw [if_neg h1, if_neg h2]
theorem recvs_len (q : Q5) (xs : List Str) : (recvs q xs).h.length ≤ q.h.length + xs.length ∧ (cat (recvs q xs).h).length ≤ (cat q.h).length + (cat xs).length := by
  rw [recvs_h]
  split
  · rw [List.length_append, cat_append, Str.length_append]; omega
  · omega
theorem step_sz {T : T5} {i w : Nat} {k : Kd} {x : Str} (hw : w < 3) (sz : (cat (T.q 2).h).length + 6 * (cat (T.q 1).h).length + 36 * (cat (T.q 0).h).length ≤ 400 * i)
    (hoc : (cat (outs (T.q w) k x)).length ≤ 6 * (cat (T.q w).h).length + 64) (hnl : (nxt (T.q w) k x).h.length ≤ (T.q w).h.length + 1 ∧ (cat (nxt (T.q w) k x).h).length ≤ (cat (T.q w).h).length + 4)
    (hcb : 6 * (cat (nxt (T.q w) k x).h).length + (cat (outs (T.q w) k x)).length ≤ 6 * (cat (T.q w).h).length + 64) :
    (cat ((T.stp w k x).q 2).h).length + 6 * (cat ((T.stp w k x).q 1).h).length + 36 * (cat ((T.stp w k x).q 0).h).length ≤ 400 * (i + 1) := by
  match w, hw with
  | 0, _ =>
    have r1 := (recvs_len (T.q 1) (outs (T.q 0) k x)).2
    rw [show (T.stp 0 k x).q 0 = _ from stp_self T 0 k x, show (T.stp 0 k x).q 1 = recvs (T.q 1) (outs (T.q 0) k x) from stp_next T 0 k x, stp_other T (w := 0) (v := 2) k x (by omega) (by omega)]
    omega
  | 1, _ =>
    have r1 := (recvs_len (T.q 2) (outs (T.q 1) k x)).2
    rw [show (T.stp 1 k x).q 1 = _ from stp_self T 1 k x, show (T.stp 1 k x).q 2 = recvs (T.q 2) (outs (T.q 1) k x) from stp_next T 1 k x, stp_other T (w := 1) (v := 0) k x (by omega) (by omega)]
    omega
  | 2, _ =>
    rw [show (T.stp 2 k x).q 2 = _ from stp_self T 2 k x, stp_other T (w := 2) (v := 0) k x (by omega) (by omega), stp_other T (w := 2) (v := 1) k x (by omega) (by omega)]
    omega
theorem R5.step {A : Dp} {T : T5} {i : Nat} {c : C5} (R : R5 A T i) (h : okC A c) : R5 (dstp A c) (T.stp c.w c.k c.x) (i + 1) := by
  obtain ⟨w, k, x⟩ := c
  have hw : w < 3 := h.w
  have hx : x.length ≤ 4 := h.len
  have ok := R.ok h
  have on := h.on
  dsimp only at ok on ⊢
  have hol := outs_len (T.q w) k x
  have hoc := outs_cat (T.q w) k x hx
  have hnl := nxt_hl (T.q w) k x hx
  have hcb := nxt_comb (T.q w) k x hx
  have hbw := R.bd w hw
  have A1 : ∀ v, (dstp A ⟨w, k, x⟩ v).1 = true ↔ ((A v).1 = true ∨ (v = w ∧ k = .start)) := by
    intro v
    unfold dstp
    dsimp only
    by_cases e : v = w
    · rw [if_pos e]
      cases k <;> simp [e]
    · rw [if_neg e]; simp [e]
  have bs : (nxt (T.q w) k x).b = (dstp A ⟨w, k, x⟩ w).1 ∧ (nxt (T.q w) k x).d = (dstp A ⟨w, k, x⟩ w).2 := by
    unfold dstp
    dsimp only
    rw [if_pos rfl]
    rcases ok.on with hb | hb
    · have e := nxt_bd (k := k) (x := x) hb.1
      rw [e.1, e.2]
      have h1 := hbw.1
      have h2 := hbw.2
      rw [hb.1] at h1
      cases k <;> simp [← h1, h2]
    · obtain ⟨rfl, h1, h2, h3, h4⟩ := hb
      have hig := (R.fr w hw h1).2
      have hh : hid (T.q w) .start x = false := by unfold hid; simp [hig, h4]
      have e : nxt (T.q w) .start x = ⟨[], 0, (T.q w).d + 1, true⟩ := by show (if _ then _ else _) = _; rw [if_neg (by rw [hh]; decide)]
      rw [e, hbw.2]
      exact ⟨rfl, rfl⟩
  have frs : (nxt (T.q w) k x).b = false → False := by
    intro e
    rw [bs.1] at e
    have : (dstp A ⟨w, k, x⟩ w).1 = true := by
      rw [A1]
      rcases on with h | h
      · exact .inl h.1
      · exact .inr ⟨rfl, h.1⟩
    rw [this] at e; cases e
  have nb : ∀ v, w < v → v < 3 → (A v).1 = true := by
    intro v hv hv3
    rcases on with h | h
    · exact R.mono w v hv hv3 h.1
    · exact h.2.2.2.2 v hv3 hv
  have dne : ∀ v, v ≠ w → dstp A ⟨w, k, x⟩ v = A v := fun v e => if_neg e
  have dl : (nxt (T.q w) k x).d ≤ (T.q w).d + 1 := by
    cases k with
    | start => show (if _ then _ else _ : Q5).d ≤ _; split <;> simp
    | ende => show (if _ then _ else _ : Q5).d ≤ _; split <;> simp <;> omega
    | text => show (if _ then _ else _ : Q5).d ≤ _; split <;> simp
    | order => show (if _ then _ else _ : Q5).d ≤ _; split <;> simp
    | comment => show (if _ then _ else _ : Q5).d ≤ _; split <;> simp
  have key : ∀ v, v < 3 → (v = w ∧ (T.stp w k x).q v = nxt (T.q w) k x) ∨ (v = w + 1 ∧ (T.stp w k x).q v = recvs (T.q v) (outs (T.q w) k x)) ∨ (v ≠ w ∧ v ≠ w + 1 ∧ (T.stp w k x).q v = T.q v) := by
    intro v hv
    by_cases e : v = w
    · subst e; exact .inl ⟨rfl, stp_self T v k x⟩
    · by_cases e2 : v = w + 1
      · subst e2; exact .inr (.inl ⟨rfl, stp_next T w k x⟩)
      · exact .inr (.inr ⟨e, e2, stp_other T k x e e2⟩)
  refine ⟨fun v hv => ?_, fun v hv hb => ?_, fun v v' hvv hv' hA => ?_, ?_, fun v hv => ?_, ?_, fun v hv => ?_⟩
  · rcases key v hv with ⟨rfl, e⟩ | ⟨e1, e⟩ | ⟨e1, e2, e⟩
    · rw [e]; exact bs
    · rw [e, dne v (by rw [e1]; exact Nat.succ_ne_self w), (recvs_ig _ _).2.1, (recvs_ig _ _).2.2]; exact R.bd v hv
    · rw [e, dne v e1]; exact R.bd v hv
  · rcases key v hv with ⟨rfl, e⟩ | ⟨e1, e⟩ | ⟨e1, e2, e⟩
    · rw [e] at hb; exact (frs hb).elim
    · rw [e, (recvs_ig _ _).2.2, (R.bd v hv).1, nb v (by rw [e1]; exact Nat.lt_succ_self w) hv] at hb; cases hb
    · rw [e] at hb ⊢; exact R.fr v hv hb
  · rw [A1] at hA ⊢
    rcases hA with hA | ⟨rfl, _⟩
    · exact .inl (R.mono v v' hvv hv' hA)
    · exact .inl (nb v' hvv hv')
  · exact step_sz hw R.sz hoc hnl hcb
  · have hl := R.hl v hv
    clear hoc hcb dl hbw bs
    rcases key v hv with ⟨rfl, e⟩ | ⟨e1, e⟩ | ⟨e1, e2, e⟩
    · rw [e]; omega
    · rw [e]
      have := (recvs_len (T.q v) (outs (T.q w) k x)).1
      omega
    · rw [e]; omega
  · have ol := R.ol
    clear hoc hnl hcb dl hbw bs
    show (if w = 2 then T.o ++ outs (T.q 2) k x else T.o).length ≤ _
    split
    · rename_i e
      subst e
      rw [List.length_append]; omega
    · omega
  · have hd := R.dd v hv
    clear hoc hnl hcb hol hbw bs
    rcases key v hv with ⟨rfl, e⟩ | ⟨e1, e⟩ | ⟨e1, e2, e⟩
    · rw [e]; omega
    · rw [e, (recvs_ig _ _).2.1]; omega
    · rw [e]; omega
end
section
open PySem PySem.W PyProof.Rows PySem.W.X PySem.SeqAt
set_option maxRecDepth 100000
set_option linter.unusedVariables false
/-- the law's own rows: what is held, spelled as it will be; how deep in what is left out -/
noncomputable def hlT (T : T5) : List Str := [spN 3 (cat (T.q 0).h), spN 2 (cat (T.q 1).h), spN 1 (cat (T.q 2).h)]
noncomputable def hgT (T : T5) : List Int := [((T.q 0).ig : Int), ((T.q 1).ig : Int), ((T.q 2).ig : Int)]
theorem hlT_at (T : T5) {w : Nat} (hw : w < 3) : (hlT T)[w]? = some (spN (3 - w) (cat (T.q w).h)) := by
  match w, hw with
  | 0, _ => rfl
  | 1, _ => rfl
  | 2, _ => rfl
theorem hgT_at (T : T5) {w : Nat} (hw : w < 3) : (hgT T)[w]? = some ((T.q w).ig : Int) := by
  match w, hw with
  | 0, _ => rfl
  | 1, _ => rfl
  | 2, _ => rfl
theorem hlT_set (T T' : T5) {w : Nat} (hw : w < 3) (y : Str) (hy : y = spN (3 - w) (cat (T'.q w).h)) (h : ∀ v, v < 3 → v ≠ w → (T'.q v).h = (T.q v).h) : (hlT T).set w y = hlT T' := by
  subst hy
  unfold hlT
  match w, hw with
  | 0, _ => rw [h 1 (by omega) (by omega), h 2 (by omega) (by omega)]; rfl
  | 1, _ => rw [h 0 (by omega) (by omega), h 2 (by omega) (by omega)]; rfl
  | 2, _ => rw [h 0 (by omega) (by omega), h 1 (by omega) (by omega)]; rfl
theorem hlT_same (T T' : T5) (h : ∀ v, v < 3 → (T'.q v).h = (T.q v).h) : hlT T' = hlT T := by
  unfold hlT
  rw [h 0 (by omega), h 1 (by omega), h 2 (by omega)]
theorem hgT_set (T T' : T5) {w : Nat} (hw : w < 3) (y : Int) (hy : y = ((T'.q w).ig : Int)) (h : ∀ v, v < 3 → v ≠ w → (T'.q v).ig = (T.q v).ig) : (hgT T).set w y = hgT T' := by
  subst hy
  unfold hgT
  match w, hw with
  | 0, _ => rw [h 1 (by omega) (by omega), h 2 (by omega) (by omega)]; rfl
  | 1, _ => rw [h 0 (by omega) (by omega), h 2 (by omega) (by omega)]; rfl
  | 2, _ => rw [h 0 (by omega) (by omega), h 1 (by omega) (by omega)]; rfl
theorem hgT_same (T T' : T5) (h : ∀ v, v < 3 → (T'.q v).ig = (T.q v).ig) : hgT T' = hgT T := by
  unfold hgT
  rw [h 0 (by omega), h 1 (by omega), h 2 (by omega)]
theorem stp_ig (T : T5) (w : Nat) (k : Kd) (x : Str) {v : Nat} (h : v ≠ w) : ((T.stp w k x).q v).ig = (T.q v).ig := by
  by_cases e : v = w + 1
  · subst e; rw [stp_next, (recvs_ig _ _).1]
  · rw [stp_other T k x h e]
theorem stp_h0 (T : T5) (w : Nat) (k : Kd) (x : Str) {v : Nat} (h : v ≠ w) (ho : outs (T.q w) k x = []) : ((T.stp w k x).q v).h = (T.q v).h := by
  by_cases e : v = w + 1
  · subst e; rw [stp_next, ho]; rfl
  · rw [stp_other T k x h e]
/-- a text told -/
theorem hl_text (T : T5) {w : Nat} (hw : w < 3) (x : Str) (h0 : (T.q w).ig = 0) : (hlT T).set w (spN (3 - w) (cat (T.q w).h) ++ spN (3 - w) x) = hlT (T.stp w .text x) ∧ hgT (T.stp w .text x) = hgT T := by
  have e : nxt (T.q w) .text x = { T.q w with h := (T.q w).h ++ [x] } := if_pos h0
  refine ⟨hlT_set T _ hw _ ?_ fun v hv hne => stp_h0 T w _ x hne rfl, hgT_same _ _ fun v hv => ?_⟩
  · rw [stp_self, e, cat_append, cat_one, spN_append]
  · by_cases hne : v = w
    · subst hne; rw [stp_self, e]
    · exact stp_ig T w _ x hne
theorem hl_textI (T : T5) {w : Nat} (hw : w < 3) (x : Str) (h0 : (T.q w).ig ≠ 0) : hlT (T.stp w .text x) = hlT T ∧ hgT (T.stp w .text x) = hgT T := by
  have e : nxt (T.q w) .text x = T.q w := if_neg h0
  refine ⟨hlT_same _ _ fun v hv => ?_, hgT_same _ _ fun v hv => ?_⟩
  · by_cases hne : v = w
    · subst hne; rw [stp_self, e]
    · exact stp_h0 T w _ x hne rfl
  · by_cases hne : v = w
    · subst hne; rw [stp_self, e]
    · exact stp_ig T w _ x hne
/-- within what is left out -/
theorem hl_hid (T : T5) {w : Nat} (hw : w < 3) {k : Kd} {x : Str} (hk : kTx k ≠ "text") (h : hid (T.q w) k x = true) : outs (T.q w) k x = [] ∧ hlT (T.stp w k x) = hlT T ∧
    (hgT T).set w (match k with | .start => ((T.q w).ig : Int) + 1 | .ende => ((T.q w).ig : Int) - 1 | _ => ((T.q w).ig : Int)) = hgT (T.stp w k x) := by
  have ho : outs (T.q w) k x = [] := by
    cases k with
    | text => exact absurd rfl hk
    | _ => exact if_pos h
  have hig : k ≠ .start → (T.q w).ig ≠ 0 := by
    intro hk2
    unfold hid at h
    cases k <;> simp at h hk2 ⊢ <;> exact h
  refine ⟨ho, hlT_same _ _ fun v hv => ?_, hgT_set T _ hw _ ?_ fun v hv hne => stp_ig T w _ x hne⟩
  · by_cases hne : v = w
    · subst hne
      rw [stp_self]
      cases k with
      | text => exact absurd rfl hk
      | start => show (if _ then _ else _ : Q5).h = _; rw [if_pos h]
      | ende => show (if _ then _ else _ : Q5).h = _; rw [if_pos (hig (by intro h; cases h))]
      | order => show (if _ then _ else _ : Q5).h = _; rw [if_pos (hig (by intro h; cases h))]
      | comment => show (if _ then _ else _ : Q5).h = _; rw [if_pos (hig (by intro h; cases h))]
    · exact stp_h0 T w _ x hne ho
  · rw [stp_self]
    cases k with
    | text => exact absurd rfl hk
    | start =>
      show _ = (((if _ then _ else _ : Q5).ig : Nat) : Int)
      rw [if_pos h]; simp
    | ende =>
      have h0 := hig (by intro h; cases h)
      show _ = (((if _ then _ else _ : Q5).ig : Nat) : Int)
      rw [if_pos h0]; simp; omega
    | order => show _ = (((if _ then _ else _ : Q5).ig : Nat) : Int); rw [if_pos (hig (by intro h; cases h))]
    | comment => show _ = (((if _ then _ else _ : Q5).ig : Nat) : Int); rw [if_pos (hig (by intro h; cases h))]
theorem hid_open {q : Q5} {k : Kd} {x : Str} (hk : kTx k ≠ "text") (h : hid q k x = false) : q.ig = 0 ∧ outs q k x = flushed q.h ++ mk5 k x ∧ (nxt q k x).h = [] ∧ (nxt q k x).ig = 0 := by
  have h0 := hid_f h
  refine ⟨h0, ?_, ?_, ?_⟩
  · cases k with
    | text => exact absurd rfl hk
    | _ => exact if_neg (by rw [h]; decide)
  · cases k with
    | text => exact absurd rfl hk
    | start => show (if _ then _ else _ : Q5).h = _; rw [if_neg (by rw [h]; decide)]
    | ende => show (if _ then _ else _ : Q5).h = _; rw [if_neg (by simp [h0])]
    | order => show (if _ then _ else _ : Q5).h = _; rw [if_neg (by simp [h0])]
    | comment => show (if _ then _ else _ : Q5).h = _; rw [if_neg (by simp [h0])]
  · cases k with
    | text => exact absurd rfl hk
    | start => show (if _ then _ else _ : Q5).ig = _; rw [if_neg (by rw [h]; decide)]
    | ende => show (if _ then _ else _ : Q5).ig = _; rw [if_neg (by simp [h0])]; exact h0
    | order => show (if _ then _ else _ : Q5).ig = _; rw [if_neg (by simp [h0])]; exact h0
    | comment => show (if _ then _ else _ : Q5).ig = _; rw [if_neg (by simp [h0])]; exact h0
theorem spN_outs {q : Q5} {k : Kd} {x : Str} (hk : kTx k ≠ "text") (h : hid q k x = false) (n : Nat) : spN (n + 1) (cat q.h) ++ spN n (cat (mk5 k x)) = spN n (cat (outs q k x)) := by
  rw [(hid_open hk h).2.1, cat_append, flushed_cat, spN_append, spN_esc]
theorem hg_open (T : T5) {w : Nat} (hw : w < 3) {k : Kd} {x : Str} (hk : kTx k ≠ "text") (h : hid (T.q w) k x = false) : hgT (T.stp w k x) = hgT T := by
  have ho := hid_open hk h
  refine hgT_same _ _ fun v hv => ?_
  by_cases hne : v = w
  · subst hne; rw [stp_self, ho.2.2.2, ho.1]
  · exact stp_ig T w _ x hne
theorem hl_open2 (T : T5) {k : Kd} {x : Str} (hk : kTx k ≠ "text") (h : hid (T.q 2) k x = false) : (hlT T).set 2 "" = hlT (T.stp 2 k x) := by
  have ho := hid_open hk h
  refine hlT_set T _ (by omega) _ ?_ fun v hv hne => ?_
  · rw [stp_self, ho.2.2.1]; rfl
  · rw [stp_other T k x hne (by omega)]
theorem hl_openI (T : T5) {w : Nat} (hw : w < 2) {k : Kd} {x : Str} (hk : kTx k ≠ "text") (h : hid (T.q w) k x = false) (h1 : (T.q (w + 1)).ig ≠ 0) : (hlT T).set w "" = hlT (T.stp w k x) := by
  have ho := hid_open hk h
  refine hlT_set T _ (by omega) _ ?_ fun v hv hne => ?_
  · rw [stp_self, ho.2.2.1]
    show _ = spN (3 - w) Str.empty
    rw [spN_empty]; rfl
  · by_cases e : v = w + 1
    · subst e; rw [stp_next, recvs_h, if_neg h1]
    · rw [stp_other T k x hne e]
theorem hl_openN (T : T5) {w : Nat} (hw : w < 2) {k : Kd} {x : Str} (hk : kTx k ≠ "text") (h : hid (T.q w) k x = false) (h1 : (T.q (w + 1)).ig = 0) : ((hlT T).set w "").set (w + 1) (spN (2 - w) (cat (T.q (w + 1)).h) ++ (spN (3 - w) (cat (T.q w).h) ++ spN (2 - w) (cat (mk5 k x)))) = hlT (T.stp w k x) := by
  have ho := hid_open hk h
  have e3 : 3 - w = (2 - w) + 1 := by omega
  rw [e3, spN_outs hk h, ← spN_append, ← cat_append]
  have en : ((T.stp w k x).q (w + 1)).h = (T.q (w + 1)).h ++ outs (T.q w) k x := by rw [stp_next, recvs_h, if_pos h1]
  rw [← en]
  let T1 : T5 := ⟨fun v => if v = w + 1 then T.q v else (T.stp w k x).q v, T.o⟩
  have e1 : (hlT T).set w "" = hlT T1 := by
    refine hlT_set T T1 (by omega) _ ?_ fun v hv hne => ?_
    · show _ = spN (3 - w) (cat (if w = w + 1 then T.q w else (T.stp w k x).q w).h)
      rw [if_neg (by omega), stp_self, ho.2.2.1]
      show _ = spN (3 - w) Str.empty
      rw [spN_empty]; rfl
    · show (if v = w + 1 then T.q v else (T.stp w k x).q v).h = _
      split
      · rfl
      · rename_i e; rw [stp_other T k x hne e]
  rw [e1]
  refine hlT_set T1 _ (by omega) _ ?_ fun v hv hne => ?_
  · rw [show 3 - (w + 1) = 2 - w from by omega]
  · show _ = (if v = w + 1 then T.q v else (T.stp w k x).q v).h
    rw [if_neg hne]
end
section
open PySem PySem.W PyProof.Rows PySem.W.X PySem.SeqAt
set_option maxRecDepth 100000
set_option linter.unusedVariables false
noncomputable def stQ : Stmt := (fnBody st_law).getD 7 (.Pass default)
noncomputable abbrev env5 (L : Addr) : Env := envOf "law" (fnScope st_law) L 201 (.ref 200)
noncomputable abbrev loc5 (scr : Addr) (c : Chn) (wl hd hg td du : Addr) (vw vk vx vs vf vwr : Option Value) : Loc := [("script", some (.ref scr)), ("out", some (.ref c.out)), ("last", some (.ref c.w2.x)), ("middle", some (.ref c.w1.x)), ("first", some (.ref c.w0.x)), ("writers", some (.ref wl)), ("held", some (.ref hd)), ("hidden", some (.ref hg)), ("told", some (.ref td)), ("due", some (.ref du)), ("w", vw), ("kind", vk), ("text", vx), ("seen", vs), ("final", vf), ("written", vwr)]
noncomputable def wxRef (c : Chn) : List Value := [.ref c.w0.x, .ref c.w1.x, .ref c.w2.x]
theorem wxRef_at (c : Chn) {w : Nat} (hw : w < 3) : (wxRef c)[((w : Int)).toNat]? = some (.ref (c.wx w)) := by
  match w, hw with
  | 0, _ => rfl
  | 1, _ => rfl
  | 2, _ => rfl
noncomputable abbrev nw5 (W : Wd) (c : Chn) (st0 st1 st2 : Ws) (c? : Option Addr) (wl hd hg td du : Addr) (T : T5) (D : List Str) (X : Ledger) : Ledger :=
  (c.out, IsTxts T.o) :: (hd, IsTxts (hlT T)) :: (hg, IsInts (hgT T)) :: (td, IsTxts D) :: (du, IsTxts D) :: (wl, IsLst (wxRef c)) :: (chR W c st0 st1 st2 c? ++ X)
section
variable {W : Wd} {G : Gens} {env : Env} {loc loc' : Loc} {nw nw' : Ledger} {s : Shared} {A : Around} {E : Value → Shared → Prop} {N : Ledger}
set_option hygiene false in
local macro_rules | `(tactic| walk_at "cw") => altOf "Sta.global S I.g_l_tell /kr _ /deck"
set_option maxHeartbeats 8000000 in
/-- a turn: the call is told, what is written is noted -/
theorem turnA {L scr : Addr} {c : Chn} {wl hd hg td du : Addr} {T : T5} {D : List Str} {X : Ledger} {st0 st1 st2 : Ws} {c? : Option Addr} {cc : C5} {Ad : Dp} {i : Nat} {t1 t2 t3 : Tok} {vs vf vwr : Option Value} {Q : Flow → Shared → Prop} (I : IsC W) (C : CodeHd W.B 125 123) (hA : Aok 30 A) (hi : i < 200) (hDl : D.length ≤ 200) (H : SQ3 st0 st1 st2 T) (R : R5 Ad T i) (ok : okC Ad cc)
    (S' : Sta W G (env5 L) (loc5 scr c wl hd hg td du (some (.int (cc.w : Int) t1)) (some (.str (kTx cc.k) t2)) (some (.str cc.x t3)) vs vf vwr) (nw5 W c st0 st1 st2 c? wl hd hg td du T D X) s)
    (kk : ∀ st0 st1 st2 c? vs t s', SQ3 st0 st1 st2 (T.stp cc.w cc.k cc.x) → Sta W G (env5 L) (loc5 scr c wl hd hg td du (some (.int (cc.w : Int) t1)) (some (.str (kTx cc.k) t2)) (some (.str cc.x t3)) vs (some (.str "" t)) vwr) ((c.out, IsTxts (T.stp cc.w cc.k cc.x).o) :: (hd, IsTxts (hlT T)) :: (hg, IsInts (hgT T)) :: (td, IsTxts (D ++ [cat ((T.stp cc.w cc.k cc.x).o.drop T.o.length)])) :: (du, IsTxts D) :: (wl, IsLst (wxRef c)) :: (chR W c st0 st1 st2 c? ++ X)) s' →
      wpAny (model W.prog W.w) A (execs ((forBody stQ).drop 4) (env5 L)) Q E s') :
    wpAny (model W.prog W.w) A (execs ((forBody stQ).drop 0) (env5 L)) Q E s := by
  have hw := ok.w
  have B := R.bnd (by omega)
  have hol := B.o
  simp only [loc5, nw5] at S'
  refine execs_at rfl ?_
  repeat walk_at "cw"
  refine Sta.builtin S' I.b_len bo_len (by kernel_rfl) ?_
  repeat walk_at "cw"
  refine Sta.lenT S' (by walk_at "mem") (by rw [sizeLine_eq]; omega) ?_
  clear S'; intro tn s' S'
  repeat walk_at "cw"
  refine Sta.sub_list S' (by walk_at "mem") (by omega) (by omega) (wxRef_at c hw) ?_
  repeat walk_at "cw"
  have R' := R.step ok
  have B' := R'.bnd (by omega)
  have hol' := B'.o
  have hdr : (cat ((T.stp cc.w cc.k cc.x).o.drop T.o.length)).length ≤ 16777216 := by
    have hc := outs_cat (T.q 2) cc.k cc.x ok.len
    have hb := (B.b 2 (by omega)).hc
    unfold txtLine at hb
    show (cat ((if cc.w = 2 then T.o ++ outs (T.q 2) cc.k cc.x else T.o).drop T.o.length)).length ≤ _
    split
    · rw [List.drop_left]; omega
    · rw [List.drop_length]; show 0 ≤ _; omega
  refine chain_ (N := (hd, IsTxts (hlT T)) :: (hg, IsInts (hgT T)) :: (td, IsTxts D) :: (du, IsTxts D) :: (wl, IsLst (wxRef c)) :: X) I C (hA.le (by first | decide | omega)) hw H (R.ok ok) B (S'.perm (nw' := (c.out, IsTxts T.o) :: (chR W c st0 st1 st2 c? ++ ((hd, IsTxts (hlT T)) :: (hg, IsInts (hgT T)) :: (td, IsTxts D) :: (du, IsTxts D) :: (wl, IsLst (wxRef c)) :: X))) (by walk_at "perm")) ?_
  clear S'
  intro st0 st1 st2 c2 s' H' S'
  replace S' := S'.perm (nw' := (c.out, IsTxts (T.stp cc.w cc.k cc.x).o) :: (hd, IsTxts (hlT T)) :: (hg, IsInts (hgT T)) :: (td, IsTxts D) :: (du, IsTxts D) :: (wl, IsLst (wxRef c)) :: (chR W c st0 st1 st2 c2 ++ X)) (by walk_at "perm")
  have hDz : D.length ≤ sizeLine := by rw [sizeLine_eq]; omega
  refine execs_at rfl ?_
  repeat walk_at "cw"
  refine getM_sjoin ?_
  repeat walk_at "cw"
  refine slice_ ?_ (by intro _ _; kernel_rfl)
  repeat walk_at "cw"
  refine sliceK_txts (j := T.o.length) S' (by walk_at "mem") (by rw [sizeLine_eq]; omega) rfl ?_
  clear S'; intro sl s' S'
  repeat walk_at "cw"
  refine Sta.joinT S' (.head _) (by kernel_rfl) hdr ?_
  clear S'; intro tj s' S'
  iterate 6 walk_at "cw"
  exact kk st0 st1 st2 c2 _ _ _ H' (S'.sub (List.sublist_cons_self _ _))
end
end
section
open PySem PySem.W PyProof.Rows PySem.W.X PySem.SeqAt
set_option maxRecDepth 100000
set_option linter.unusedVariables false
theorem ite_te {c : Bool} {P Q : Prop} (e : c = true) (h : P) : if c = true then P else Q := by rw [if_pos e]; exact h
theorem ite_fe {c : Bool} {P Q : Prop} (e : c = false) (h : Q) : if c = true then P else Q := by rw [if_neg (by rw [e]; decide)]; exact h
/-- what the law says was written -/
noncomputable def due5 (T : T5) (w : Nat) (k : Kd) (x : Str) : Str := cat ((T.stp w k x).o.drop T.o.length)
theorem due5_2 (T : T5) (k : Kd) (x : Str) : due5 T 2 k x = cat (outs (T.q 2) k x) := by
  show cat ((T.o ++ outs (T.q 2) k x).drop T.o.length) = _
  rw [List.drop_left]
theorem due5_n (T : T5) {w : Nat} (h : w ≠ 2) (k : Kd) (x : Str) : due5 T w k x = "" := by
  show cat ((if w = 2 then T.o ++ outs (T.q 2) k x else T.o).drop T.o.length) = _
  rw [if_neg h, List.drop_length]; rfl
theorem due5_0 (T : T5) (w : Nat) (k : Kd) (x : Str) (h : outs (T.q w) k x = []) : due5 T w k x = "" := by
  by_cases e : w = 2
  · subst e; rw [due5_2, h]; rfl
  · exact due5_n T e k x
theorem held_len {A : Dp} {T : T5} {i : Nat} (R : R5 A T i) (hi : i ≤ 200) {w : Nat} (hw : w < 3) : (spN (3 - w) (cat (T.q w).h)).length ≤ 500000 := by
  have sz := R.sz
  match w, hw with
  | 0, _ =>
    have h := spN_len 3 (cat (T.q 0).h)
    show (spN 3 (cat (T.q 0).h)).length ≤ _
    rw [show 6 ^ 3 = 216 from rfl] at h
    omega
  | 1, _ =>
    have h := spN_len 2 (cat (T.q 1).h)
    show (spN 2 (cat (T.q 1).h)).length ≤ _
    rw [show 6 ^ 2 = 36 from rfl] at h
    omega
  | 2, _ =>
    have h := spN_len 1 (cat (T.q 2).h)
    show (spN 1 (cat (T.q 2).h)).length ≤ _
    rw [show 6 ^ 1 = 6 from rfl] at h
    omega
theorem sp_xlen {w n : Nat} (hw : w ≤ 3) {x : Str} (hx : x.length ≤ n) : (spN w x).length ≤ 216 * n := by
  have h := spN_len w x
  have h2 : 6 ^ w ≤ 216 := by
    have := Nat.pow_le_pow_right (n := 6) (by decide) hw
    exact this
  exact Nat.le_trans h (Nat.mul_le_mul h2 hx)
section
variable {W : Wd} {G : Gens} {env : Env} {loc loc' : Loc} {nw nw' : Ledger} {s : Shared} {A : Around} {E : Value → Shared → Prop} {N : Ledger}
theorem Sta.iaddS {x y : Str} {t u : Tok} {Q : Value → Shared → Prop} (S : Sta W G env loc nw s) (hz : x.length + y.length ≤ sizeLine) (h : ∀ t s', Sta W G env loc nw s' → Q (.str (x ++ y) t) s') : wpAny (model W.prog W.w) A (inplaceOp .Add (.str x t) (.str y u)) Q E s :=
  PyProof.Rows.iadd_str (fun t' tk => h t' _ (S.toks tk)) hz
theorem hlT_len (T : T5) : (hlT T).length = 3 := rfl
theorem hgT_len (T : T5) : (hgT T).length = 3 := rfl
set_option hygiene false in
local macro_rules | `(tactic| walk_at "cw") => altOf "Sta.global S I.g_l_mark /kr _ /deck"
local macro_rules | `(tactic| walk_at "cw") => altOf "Sta.global S I.g_l_spelled /kr _ /deck"
noncomputable def stB : Stmt := (forBody stQ).getD 4 (.Pass default)
set_option maxHeartbeats 8000000 in
/-- what is written goes on -/
theorem openB {L scr : Addr} {c : Chn} {wl hd hg td du : Addr} {T : T5} {X : Ledger} {w : Nat} {k : Kd} {x : Str} {i : Nat} {Ad : Dp} {t1 t2 t3 tf : Tok} {vs vwr : Option Value} {Q : Flow → Shared → Prop} (I : IsC W) (hA : Aok 30 A) (hi : i < 200) (hw : w < 3) (hx : x.length ≤ 4) (R : R5 Ad T i) (hk : kTx k ≠ "text") (hh : hid (T.q w) k x = false)
    (S' : Sta W G (env5 L) (loc5 scr c wl hd hg td du (some (.int (w : Int) t1)) (some (.str (kTx k) t2)) (some (.str x t3)) vs (some (.str "" tf)) vwr) ((hd, IsTxts (hlT T)) :: (hg, IsInts (hgT T)) :: X) s)
    (kk : ∀ vf vwr s', (∃ t, vf = .str (due5 T w k x) t) → Sta W G (env5 L) (loc5 scr c wl hd hg td du (some (.int (w : Int) t1)) (some (.str (kTx k) t2)) (some (.str x t3)) vs (some vf) vwr) ((hd, IsTxts (hlT (T.stp w k x))) :: (hg, IsInts (hgT (T.stp w k x))) :: X) s' → Q .next s')
    (body : List Stmt) (hbd : body = ifElses (ifElse (ifElse stB))) : wpAny (model W.prog W.w) A (execs body (env5 L)) Q E s := by
  have hw6 : w < 1000000 := Nat.lt_trans hw (by decide)
  have hl3 := held_len R (Nat.le_of_lt hi) hw
  have hm := mk5_len k x
  have hl4 := sp_xlen (w := 2 - w) (x := cat (mk5 k x)) (n := 64) (by omega) (by omega)
  have hgo := hg_open T hw hk hh
  simp only [loc5] at S'
  subst hbd
  refine wpAny_execs_cons ?_
  repeat walk_at "cw"
  refine Sta.subT S' (by walk_at "mem") rfl hw6 (hlT_at T hw) ?_
  intro th
  repeat walk_at "cw"
  have e3 : (2 : Int) - (w : Int) = ((2 - w : Nat) : Int) := by omega
  rw [e3]
  refine mark_ (n := 2 - w) I (hA.le (by first | decide | omega)) hk (by omega) hx S' ?_
  clear S'; intro t5 s' S'
  repeat walk_at "cw"
  refine wpAny_Assign_Subscript ?_ (by kernel_rfl)
  repeat walk_at "cw"
  refine Sta.setItemT (j := w) S' (by walk_at "upd") rfl hw6 (by rw [hlT_len]; exact hw) ?_
  clear S'; intro s' S'
  repeat walk_at "cw"
  by_cases h2 : w = 2
  · subst h2
    have e0 : (((2 : Nat) : Int) == 2) = true := rfl
    refine ite_te e0 ?_
    iterate 2 walk_at "cw"
    refine Sta.local_ S' (by walk_at "mem") ?_
    walk_at "cw"
    rw [hl_open2 T hk hh, ← hgo] at S'
    have ef : spN (3 - 2) (cat (T.q 2).h) ++ spN (2 - 2) (cat (mk5 k x)) = due5 T 2 k x := by
      rw [due5_2, ← show spN 0 (cat (outs (T.q 2) k x)) = cat (outs (T.q 2) k x) from rfl, ← spN_outs hk hh 0]
    rw [ef] at S'
    exact wpAny_execs_nil (wpAny_execs_nil (kk _ _ _ ⟨_, rfl⟩ S'))
  · have e0 : ((w : Int) == 2) = false := by rw [beq_eq_false_iff_ne]; omega
    have hw2 : w < 2 := by omega
    have hw7 : w + 1 < 1000000 := Nat.lt_of_lt_of_le (Nat.succ_lt_succ hw2) (by decide)
    have hw3 : w + 1 < 3 := Nat.succ_lt_succ hw2
    have hk1 : (w : Int) + 1 = ((w + 1 : Nat) : Int) := rfl
    have hl5 := held_len R (Nat.le_of_lt hi) (w := w + 1) hw3
    have hd := due5_n T h2 k x
    have hat : ((hlT T).set w ("" : Str))[w + 1]? = some (spN (3 - (w + 1)) (cat (T.q (w + 1)).h)) := by
      rw [List.getElem?_set_ne (by omega)]
      exact hlT_at T hw3
    have e4 : 3 - (w + 1) = 2 - w := by omega
    rw [e4] at hat hl5
    refine ite_fe e0 ?_
    repeat walk_at "cw"
    refine Sta.subI (j := w + 1) S' (by walk_at "mem") hk1 hw7 (hgT_at T hw3) ?_
    intro tg
    repeat walk_at "cw"
    by_cases h1 : (T.q (w + 1)).ig = 0
    · have e1 : (((T.q (w + 1)).ig : Int) == 0) = true := by rw [h1]; rfl
      refine ite_te e1 ?_
      refine wpAny_execs_cons ?_
      refine wpAny_AugAssign_SubscriptAny ?_ (by intros; kernel_rfl)
      repeat walk_at "cw"
      refine Sta.itemT (j := w + 1) S' (by walk_at "mem") hk1 hw7 hat ?_
      intro th2
      repeat walk_at "cw"
      refine Sta.iaddS S' (by rw [Str.length_append, sizeLine_eq]; omega) ?_
      clear S'; intro t6 s' S'
      refine Sta.setItemT (j := w + 1) S' (by rw [hl_openN T hw2 hk hh h1]; walk_at "upd") hk1 hw7 (by rw [List.length_set, hlT_len]; exact hw3) ?_
      clear S'; intro s' S'
      rw [← hgo] at S'
      iterate 1 walk_at "cw"
      refine wpAny_execs_nil (wpAny_execs_nil (kk _ _ _ ⟨tf, by rw [hd]⟩ S'))
    · have e1 : (((T.q (w + 1)).ig : Int) == 0) = false := by rw [beq_eq_false_iff_ne]; omega
      refine ite_fe e1 ?_
      rw [hl_openI T hw2 hk hh h1, ← hgo] at S'
      iterate 1 walk_at "cw"
      refine wpAny_execs_nil (wpAny_execs_nil (kk _ _ _ ⟨tf, by rw [hd]⟩ S'))
set_option maxHeartbeats 8000000 in
/-- elif hidden[w] > 0: .. -/
theorem restB {L scr : Addr} {c : Chn} {wl hd hg td du : Addr} {T : T5} {X : Ledger} {w : Nat} {k : Kd} {x : Str} {i : Nat} {Ad : Dp} {t1 t2 t3 tf : Tok} {vs vwr : Option Value} {Q : Flow → Shared → Prop} (I : IsC W) (hA : Aok 30 A) (hi : i < 200) (hw : w < 3) (hx : x.length ≤ 4) (R : R5 Ad T i) (hk : kTx k ≠ "text") (hks : k = .start → hid (T.q w) k x = false)
    (S' : Sta W G (env5 L) (loc5 scr c wl hd hg td du (some (.int (w : Int) t1)) (some (.str (kTx k) t2)) (some (.str x t3)) vs (some (.str "" tf)) vwr) ((hd, IsTxts (hlT T)) :: (hg, IsInts (hgT T)) :: X) s)
    (kk : ∀ vf vwr s', (∃ t, vf = .str (due5 T w k x) t) → Sta W G (env5 L) (loc5 scr c wl hd hg td du (some (.int (w : Int) t1)) (some (.str (kTx k) t2)) (some (.str x t3)) vs (some vf) vwr) ((hd, IsTxts (hlT (T.stp w k x))) :: (hg, IsInts (hgT (T.stp w k x))) :: X) s' → Q .next s')
    (body : List Stmt) (hbd : body = ifElses (ifElse stB)) : wpAny (model W.prog W.w) A (execs body (env5 L)) Q E s := by
  have hw6 : w < 1000000 := Nat.lt_trans hw (by decide)
  simp only [loc5] at S'
  subst hbd
  refine wpAny_execs_cons ?_
  refine wpAny_If ?_
  repeat walk_at "cw"
  refine Sta.subI S' (by walk_at "mem") rfl hw6 (hgT_at T hw) ?_
  intro tg
  repeat walk_at "cw"
  by_cases hg : 0 < (T.q w).ig
  · have e0 : decide (0 < ((T.q w).ig : Int)) = true := decide_eq_true (by omega)
    rw [e0]
    have hh : hid (T.q w) k x = true := hid_ig (by omega)
    have H := hl_hid T hw hk hh
    have hd := due5_0 T w k x H.1
    refine ite_t ?_
    refine wpAny_execs_cons ?_
    refine wpAny_AugAssign_SubscriptAny ?_ (by intros; kernel_rfl)
    repeat walk_at "cw"
    refine Sta.itemI S' (by walk_at "mem") rfl hw6 (hgT_at T hw) ?_
    intro th
    repeat walk_at "cw"
    refine eq_s (fun hke => ?_) (fun hke => ?_)
    · obtain rfl : k = .ende := by cases k <;> first | rfl | exact absurd hke (by decide +kernel)
      repeat walk_at "cw"
      refine Sta.setItemI (j := w) S' (by rw [H.2.2]; walk_at "upd") rfl hw6 (by rw [hgT_len]; exact hw) ?_
      clear S'; intro s' S'
      repeat walk_at "cw"
      rw [← H.2.1] at S'
      exact kk _ _ _ ⟨tf, by rw [hd]⟩ S'
    · have H3 : (hgT T).set w (((T.q w).ig : Int) - 0) = hgT (T.stp w k x) := by
        rw [Int.sub_zero]
        cases k with
        | start => rw [hks rfl] at hh; cases hh
        | ende => exact absurd rfl hke
        | text => exact absurd rfl hk
        | order => exact H.2.2
        | comment => exact H.2.2
      repeat walk_at "cw"
      refine Sta.setItemI (j := w) S' (by rw [H3]; walk_at "upd") rfl hw6 (by rw [hgT_len]; exact hw) ?_
      clear S'; intro s' S'
      repeat walk_at "cw"
      rw [← H.2.1] at S'
      exact kk _ _ _ ⟨tf, by rw [hd]⟩ S'
  · have e0 : decide (0 < ((T.q w).ig : Int)) = false := decide_eq_false (by omega)
    refine ite_fe e0 ?_
    have hh : hid (T.q w) k x = false := by
      have h0 : (T.q w).ig = 0 := by omega
      cases k with
      | start => exact hks rfl
      | text => exact absurd rfl hk
      | ende => rw [hid_n.1]; simp [h0]
      | order => rw [hid_n.2.1]; simp [h0]
      | comment => rw [hid_n.2.2]; simp [h0]
    exact openB I hA hi hw hx R hk hh S' (fun vf vwr s' ht S2 => wpAny_execs_nil (kk vf vwr s' ht S2)) _ rfl
set_option maxHeartbeats 8000000 in
/-- hidden[w] += 1 -/
theorem incB {L scr : Addr} {c : Chn} {wl hd hg td du : Addr} {T : T5} {X : Ledger} {w : Nat} {x : Str} {i : Nat} {Ad : Dp} {t1 t2 t3 tf : Tok} {vs vwr : Option Value} {Q : Flow → Shared → Prop} (I : IsC W) (hA : Aok 30 A) (hi : i < 200) (hw : w < 3) (hx : x.length ≤ 4) (R : R5 Ad T i) (hh : hid (T.q w) .start x = true)
    (S' : Sta W G (env5 L) (loc5 scr c wl hd hg td du (some (.int (w : Int) t1)) (some (.str (kTx .start) t2)) (some (.str x t3)) vs (some (.str "" tf)) vwr) ((hd, IsTxts (hlT T)) :: (hg, IsInts (hgT T)) :: X) s)
    (kk : ∀ vf vwr s', (∃ t, vf = .str (due5 T w .start x) t) → Sta W G (env5 L) (loc5 scr c wl hd hg td du (some (.int (w : Int) t1)) (some (.str (kTx .start) t2)) (some (.str x t3)) vs (some vf) vwr) ((hd, IsTxts (hlT (T.stp w .start x))) :: (hg, IsInts (hgT (T.stp w .start x))) :: X) s' → Q .next s')
    (body : List Stmt) (hbd : body = ifBody (ifElse stB)) : wpAny (model W.prog W.w) A (execs body (env5 L)) Q E s := by
  have hw6 : w < 1000000 := Nat.lt_trans hw (by decide)
  have H := hl_hid T hw (k := .start) (by decide +kernel) hh
  have hd := due5_0 T w .start x H.1
  simp only [loc5] at S'
  subst hbd
  refine wpAny_execs_cons ?_
  refine wpAny_AugAssign_SubscriptAny ?_ (by intros; kernel_rfl)
  repeat walk_at "cw"
  refine Sta.itemI S' (by walk_at "mem") rfl hw6 (hgT_at T hw) ?_
  intro th
  repeat walk_at "cw"
  refine Sta.setItemI (j := w) S' (by rw [H.2.2]; walk_at "upd") rfl hw6 (by rw [hgT_len]; exact hw) ?_
  clear S'; intro s' S'
  repeat walk_at "cw"
  rw [← H.2.1] at S'
  exact kk _ _ _ ⟨tf, by rw [hd]⟩ S'
set_option maxHeartbeats 8000000 in
theorem turnB {L scr : Addr} {c : Chn} {wl hd hg td du : Addr} {T : T5} {X : Ledger} {w : Nat} {k : Kd} {x : Str} {i : Nat} {Ad : Dp} {t1 t2 t3 tf : Tok} {vs vwr : Option Value} {Q : Flow → Shared → Prop} (I : IsC W) (hA : Aok 30 A) (hi : i < 200) (hw : w < 3) (hx : x.length ≤ 4) (R : R5 Ad T i)
    (S' : Sta W G (env5 L) (loc5 scr c wl hd hg td du (some (.int (w : Int) t1)) (some (.str (kTx k) t2)) (some (.str x t3)) vs (some (.str "" tf)) vwr) ((hd, IsTxts (hlT T)) :: (hg, IsInts (hgT T)) :: X) s)
    (kk : ∀ vf vwr s', (∃ t, vf = .str (due5 T w k x) t) → Sta W G (env5 L) (loc5 scr c wl hd hg td du (some (.int (w : Int) t1)) (some (.str (kTx k) t2)) (some (.str x t3)) vs (some vf) vwr) ((hd, IsTxts (hlT (T.stp w k x))) :: (hg, IsInts (hgT (T.stp w k x))) :: X) s' → 
      wpAny (model W.prog W.w) A (execs ((forBody stQ).drop 5) (env5 L)) Q E s') :
    wpAny (model W.prog W.w) A (execs ((forBody stQ).drop 4) (env5 L)) Q E s := by
  have hw6 : w < 1000000 := Nat.lt_trans hw (by decide)
  simp only [loc5] at S'
  refine execs_at rfl ?_
  refine wpAny_If ?_
  repeat walk_at "cw"
  refine eq_s (fun hk => ?_) (fun hk => ?_)
  · obtain rfl : k = .text := by cases k <;> first | rfl | exact absurd hk (by decide +kernel)
    repeat walk_at "cw"
    refine Sta.subI S' (by walk_at "mem") rfl hw6 (hgT_at T hw) ?_
    intro tg
    repeat walk_at "cw"
    by_cases h0 : (T.q w).ig = 0
    · have e0 : (((T.q w).ig : Int) == 0) = true := by rw [h0]; rfl
      refine ite_te e0 ?_
      refine wpAny_execs_cons ?_
      refine wpAny_AugAssign_SubscriptAny ?_ (by intros; kernel_rfl)
      repeat walk_at "cw"
      refine Sta.itemT S' (by walk_at "mem") rfl hw6 (hlT_at T hw) ?_
      intro th
      have hl3 := held_len R (by omega) hw
      have hl4 := sp_xlen (w := 3 - w) (by omega) hx
      repeat walk_at "cw"
      have e3 : (3 : Int) - (w : Int) = ((3 - w : Nat) : Int) := by omega
      rw [e3]
      refine spelled5_ (n := 3 - w) I (hA.le (by first | decide | omega)) (by omega) (by omega) (by omega) S' ?_
      clear S'; intro t5 s' S'
      repeat walk_at "cw"
      refine Sta.iaddS S' (by rw [sizeLine_eq]; omega) ?_
      clear S'; intro t6 s' S'
      have hh := hl_text T hw x h0
      refine Sta.setItemT (j := w) S' (by rw [hh.1]; walk_at "upd") rfl hw6 (by rw [hlT_len]; exact hw) ?_
      clear S'; intro s' S'
      iterate 2 walk_at "cw"
      rw [← hh.2] at S'
      have hd := due5_0 T w .text x rfl
      exact kk _ _ _ ⟨tf, by rw [hd]⟩ S'
    · have e0 : (((T.q w).ig : Int) == 0) = false := by
        rw [beq_eq_false_iff_ne]; omega
      rw [e0]
      have hh := hl_textI T hw x h0
      have hd := due5_0 T w .text x rfl
      refine ite_f ?_
      iterate 2 walk_at "cw"
      rw [← hh.1, ← hh.2] at S'
      exact kk _ _ _ ⟨tf, by rw [hd]⟩ S'
  · repeat walk_at "cw"
    refine eq_s (fun hs => ?_) (fun hs => ?_)
    · obtain rfl : k = .start := by cases k <;> first | rfl | exact absurd hs (by decide +kernel)
      repeat walk_at "cw"
      refine Sta.subI S' (by walk_at "mem") rfl hw6 (hgT_at T hw) ?_
      intro tg
      repeat walk_at "cw"
      by_cases hg : 0 < (T.q w).ig
      · have e0 : decide (((T.q w).ig : Int) > 0) = true := decide_eq_true (by omega)
        rw [e0]
        have hh : hid (T.q w) .start x = true := hid_ig (by omega)
        refine ite_t (ite_t (isTrue_and_nil (ite_t ?_)))
        exact incB I hA hi hw hx R hh S' (fun vf vwr s' ht S2 => wpAny_execs_nil (kk vf vwr s' ht S2)) _ rfl
      · have e0 : decide (((T.q w).ig : Int) > 0) = false := decide_eq_false (by omega)
        rw [e0]
        repeat walk_at "cw"
        refine eq_s (fun hxx => ?_) (fun hxx => ?_)
        · have hh : hid (T.q w) .start x = true := by
            unfold hid
            rw [show Tx x = true from (Tx_iff x).mpr hxx]; simp
          iterate 2 walk_at "cw"
          refine ite_t (isTrue_and_nil (ite_t ?_))
          exact incB I hA hi hw hx R hh S' (fun vf vwr s' ht S2 => wpAny_execs_nil (kk vf vwr s' ht S2)) _ rfl
        · have hh : hid (T.q w) .start x = false := by
            have h0 : (T.q w).ig = 0 := by omega
            have h1 : Tx x = false := by
              cases hq : Tx x with
              | false => rfl
              | true => exact absurd ((Tx_iff x).mp hq) hxx
            unfold hid
            rw [h1]; simp [h0]
          iterate 5 walk_at "cw"
          exact restB I hA hi hw hx R (by decide +kernel) (fun _ => hh) S' (fun vf vwr s' ht S2 => wpAny_execs_nil (kk vf vwr s' ht S2)) _ rfl
    · refine wpAny_truthy_bool (ite_f (ite_f ?_))
      exact restB I hA hi hw hx R hk (fun h => by subst h; exact absurd rfl hs) S' (fun vf vwr s' ht S2 => wpAny_execs_nil (kk vf vwr s' ht S2)) _ rfl
end
end
section
open PySem PySem.W PyProof.Rows PySem.W.X PySem.SeqAt
set_option maxRecDepth 100000
set_option linter.unusedVariables false
/-- the state between two turns -/
inductive Mid5 (W : Wd) (G : Gens) (L scr : Addr) (c : Chn) (wl hd hg td du : Addr) (X : Ledger) (Ad : Dp) (i : Nat) (vw vk vx vs vf vwr : Option Value) (s : Shared) : Prop
  | mk (st0 st1 st2 : Ws) (c? : Option Addr) (T : T5) (D : List Str) (H : SQ3 st0 st1 st2 T) (R : R5 Ad T i) (hD : D.length ≤ i) (S : Sta W G (env5 L) (loc5 scr c wl hd hg td du vw vk vx vs vf vwr) (nw5 W c st0 st1 st2 c? wl hd hg td du T D X) s) : Mid5 W G L scr c wl hd hg td du X Ad i vw vk vx vs vf vwr s
section
variable {W : Wd} {G : Gens} {env : Env} {loc loc' : Loc} {nw nw' : Ledger} {s : Shared} {A : Around} {E : Value → Shared → Prop} {N : Ledger}
theorem Sta.unpackC5 {elts : List Expr} {x1} {pos : Pos} {a : Addr} {c : C5} {Q : Unit → Shared → Prop} (S : Sta W G env loc nw s) (hh : A.handled = none) (m : (a, IsC5 c) ∈ nw)
    (hn : (assignEach elts env).length = 3) (hstar : (assignEach elts env).findIdx? (·.1) = none) (h : ∀ t1 t2 t3 s', Sta W G env loc nw s' → wpAny (model W.prog W.w) A (assignInOrder ((assignEach elts env).map (·.2)) [.int (c.w : Int) t1, .str (kTx c.k) t2, .str c.x t3]) Q E s') :
    wpAny (model W.prog W.w) A (assign (.Tuple elts x1 pos) env (.ref a)) Q E s := by
  obtain ⟨o, ho, t1, t2, t3, n, rfl⟩ := S.get m
  have ht : IsTup s.heap a #[.int (c.w : Int) t1, .str (kTx c.k) t2, .str c.x t3] := ⟨_, ho, rfl, n, rfl⟩
  exact assign_Tuple_tuple hh ht (by simpa using hn) hstar fun h' he => h t1 t2 t3 _ (S.grow (fun b o e => he b o (Nat.ne_of_lt (Heap.lt_size e)) e) s.toks)
set_option maxHeartbeats 8000000 in
/-- a turn of law's loop -/
theorem turn5 {L scr : Addr} {c : Chn} {wl hd hg td du : Addr} {T : T5} {D : List Str} {X : Ledger} {st0 st1 st2 : Ws} {c? : Option Addr} {cc : C5} {Ad : Dp} {i : Nat} {t1 t2 t3 : Tok} {vs vf vwr : Option Value} {Q : Flow → Shared → Prop} (I : IsC W) (C : CodeHd W.B 125 123) (hA : Aok 30 A) (hi : i < 200) (hDl : D.length ≤ i) (H : SQ3 st0 st1 st2 T) (R : R5 Ad T i) (ok : okC Ad cc)
    (S' : Sta W G (env5 L) (loc5 scr c wl hd hg td du (some (.int (cc.w : Int) t1)) (some (.str (kTx cc.k) t2)) (some (.str cc.x t3)) vs vf vwr) (nw5 W c st0 st1 st2 c? wl hd hg td du T D X) s)
    (kk : ∀ vw vk vx vs vf vwr s', Mid5 W G L scr c wl hd hg td du X (dstp Ad cc) (i + 1) vw vk vx vs vf vwr s' → Q .next s')
    (body : List Stmt) (hbd : body = forBody stQ) : wpAny (model W.prog W.w) A (execs body (env5 L)) Q E s := by
  subst hbd
  refine execs_go ?_
  refine turnA I C hA hi (by omega) H R ok S' ?_
  clear S'
  intro st0 st1 st2 c? vs t s' H' S'
  refine turnB (X := (c.out, IsTxts (T.stp cc.w cc.k cc.x).o) :: (td, IsTxts (D ++ [cat ((T.stp cc.w cc.k cc.x).o.drop T.o.length)])) :: (du, IsTxts D) :: (wl, IsLst (wxRef c)) :: (chR W c st0 st1 st2 c? ++ X)) I hA hi ok.w ok.len R (S'.perm (by walk_at "perm")) ?_
  clear S'
  intro vf vwr s' hvf S'
  obtain ⟨tv, rfl⟩ := hvf
  have hDz : D.length ≤ sizeLine := by rw [sizeLine_eq]; omega
  simp only [loc5] at S'
  repeat walk_at "cw"
  refine kk _ _ _ _ _ _ _ ⟨st0, st1, st2, c?, T.stp cc.w cc.k cc.x, D ++ [due5 T cc.w cc.k cc.x], H', R.step ok, by rw [List.length_append, List.length_singleton]; omega, S'.perm ?_⟩
  show List.Perm ((hd, _) :: (hg, _) :: (c.out, _) :: (td, IsTxts (D ++ [due5 T cc.w cc.k cc.x])) :: (du, IsTxts (D ++ [due5 T cc.w cc.k cc.x])) :: _) _
  walk_at "perm"
/-- between two turns of the loop over the calls -/
inductive Lp5 (W : Wd) (G : Gens) (scr : Addr) (c : Chn) (wl hd hg td du : Addr) (X : Ledger) (cs : Cls) (rest : List Value) (loc' : Loc) (nw1 : Ledger) (G' : Gens) : Prop
  | mk (dn todo : Cls) (Ad : Dp) (i : Nat) (st0 st1 st2 : Ws) (c? : Option Addr) (T : T5) (D : List Str) (vw vk vx vs vf vwr : Option Value) (hG : G' = G) (hcs : cs = dn ++ todo) (hrest : rest = caRef todo) (hg1 : GoodFrom Ad (todo.map (·.2))) (hit : i + todo.length ≤ 200) (H : SQ3 st0 st1 st2 T) (R : R5 Ad T i) (hD : D.length ≤ i)
    (hloc : loc' = loc5 scr c wl hd hg td du vw vk vx vs vf vwr) (hnw : nw1 = nw5 W c st0 st1 st2 c? wl hd hg td du T D (caLed cs ++ X)) : Lp5 W G scr c wl hd hg td du X cs rest loc' nw1 G'
theorem caRef_at {cs : Cls} {p : Addr × C5} (h : p ∈ cs) : (p.1, IsC5 p.2) ∈ caLed cs := List.mem_map.mpr ⟨p, h, rfl⟩
set_option maxHeartbeats 8000000 in
theorem loop5 {p1 p2 p3 p4 : Pos} {n} {L scr ca it : Addr} {c : Chn} {wl hd hg td du : Addr} {X : Ledger} {cs : Cls} {st0 st1 st2 : Ws} {c? : Option Addr} {T : T5} {R : Result → Shared → Prop} (I : IsC W) (C : CodeHd W.B 125 123) (hA : Aok 31 A) (hg0 : GoodFrom d0 (cs.map (·.2))) (hcl : cs.length ≤ 200) (H : SQ3 st0 st1 st2 T) (R0 : R5 d0 T 0)
    (S : Sta W G (env5 L) (loc5 scr c wl hd hg td du none none none none none none) ((it, IsLI ca 0) :: (ca, IsLst (caRef cs)) :: nw5 W c st0 st1 st2 c? wl hd hg td du T [] (caLed cs ++ X)) s)
    (k : ∀ Ad i vw vk vx vs vf vwr s', i ≤ 200 → Mid5 W G L scr c wl hd hg td du (caLed cs ++ X) Ad i vw vk vx vs vf vwr s' → R (.ok .next) s')
    (body : List Stmt) (hbd : body = forBody stQ) :
    codeAny (model W.prog W.w) A (.forLoop (.Tuple [.Name "w" p1, .Name "kind" p2, .Name "text" p3] n p4) (.ref it) body [] (env5 L)) R s := by
  have S2 := S.perm (nw' := nw5 W c st0 st1 st2 c? wl hd hg td du T [] (caLed cs ++ X) ++ ([] ++ [(it, IsLI ca 0), (ca, IsLst (caRef cs))])) (by walk_at "perm")
  clear S
  refine for_y (sh := []) (P := fun x v => v = x) (hA.le (by first | decide | omega)) (G := G) (og := []) (own := [(it, IsLI ca 0), (ca, IsLst (caRef cs))])
    (fun rest loc' nw1 G' => Lp5 W G scr c wl hd hg td du X cs rest loc' nw1 G') ?_ ?_ (by rw [List.append_nil]; exact S2) (Yields.rel (LY.yields (ly_list (sh := []) (xs := caRef cs) (own₀ := [(ca, IsLst (caRef cs))]) (.head _) (caRef cs) 0 rfl)))
    ⟨[], cs, d0, 0, st0, st1, st2, c?, T, [], none, none, none, none, none, none, rfl, rfl, rfl, hg0, by omega, H, R0, Nat.le_refl _, rfl, rfl⟩
  · intro x v rest tl tg loc' nw1 G' s1 hv S1 hJ
    subst hv
    obtain ⟨dn, todo, Ad, i, st0, st1, st2, c?, T, D, vw, vk, vx, vs, vf, vwr, rfl, hcs, hrest, hg1, hit, H1, R1, hD, rfl, rfl⟩ := hJ
    cases todo with
    | nil => simp [caRef] at hrest
    | cons p todo =>
      have hrest : v :: rest = .ref p.1 :: caRef todo := hrest
      injection hrest with e1 e2
      subst e1 e2
      have hmr : p ∈ cs := by rw [hcs]; simp
      have hm := caRef_at hmr
      obtain ⟨ok, hg2⟩ := hg1
      rw [List.length_cons] at hit
      refine Sta.unpackC5 S1 hA.handled (List.mem_append_left _ (.tail _ (.tail _ (.tail _ (.tail _ (.tail _ (.tail _ (List.mem_append_right _ (List.mem_append_left _ hm)))))))) ) (by kernel_rfl) (by kernel_rfl) ?_
      intro t1 t2 t3 s' S'
      clear S1 S2
      simp only [loc5] at S'
      refine assignInOrder_cons ?_
      refine assign_Name ?_
      refine Sta.store S' (by walk_at "put") ?_
      clear S'; intro s' S'
      refine assignInOrder_cons ?_
      refine assign_Name ?_
      refine Sta.store S' (by walk_at "put") ?_
      clear S'; intro s' S'
      refine assignInOrder_cons ?_
      refine assign_Name ?_
      refine Sta.store S' (by walk_at "put") ?_
      clear S'; intro s' S'
      refine assignInOrder_nil ?_
      refine turn5 (X := caLed cs ++ (X ++ ([] ++ tl))) I C (hA.le (by first | decide | omega)) (i := i) (by omega) hD H1 R1 ok (S'.perm (by walk_at "perm")) ?_ _ hbd
      clear S'
      intro vw vk vx vs vf vwr s2 M
      obtain ⟨st0, st1, st2, c?, T, D, H3, R3, hD3, S3⟩ := M
      exact ⟨_, nw5 W c st0 st1 st2 c? wl hd hg td du T D (caLed cs ++ X), G', S3.perm (by walk_at "perm"), ⟨dn ++ [p], todo, dstp Ad p.2, i + 1, st0, st1, st2, c?, T, D, vw, vk, vx, vs, vf, vwr, rfl, by rw [hcs]; simp, rfl, hg2, by omega, H3, R3, hD3, rfl, rfl⟩⟩
  · intro loc' nw1 G' s1 S1 hJ
    obtain ⟨dn, todo, Ad, i, st0, st1, st2, c?, T, D, vw, vk, vx, vs, vf, vwr, rfl, hcs, hrest, hg1, hit, H1, R1, hD, rfl, rfl⟩ := hJ
    rw [List.append_nil] at S1
    exact k Ad i vw vk vx vs vf vwr s1 (by omega) ⟨st0, st1, st2, c?, T, D, H1, R1, hD, S1⟩
end
end
section
open PySem PySem.W PyProof.Rows PySem.W.X PySem.SeqAt
set_option maxRecDepth 100000
set_option linter.unusedVariables false
noncomputable def t50 : T5 := ⟨fun _ => ⟨[], 0, 0, false⟩, []⟩
theorem sq_fresh (ti : Tok) : SQ (Ws.fresh ti) ⟨[], 0, 0, false⟩ := ⟨rfl, rfl, rfl, rfl, rfl, rfl, fun h => absurd rfl h⟩
theorem r50 : R5 d0 t50 0 := by
  refine ⟨fun v _ => ⟨rfl, rfl⟩, fun v _ _ => ⟨rfl, rfl⟩, fun v v' _ _ h => ?_, ?_, fun v _ => Nat.le_refl _, Nat.le_refl _, fun v _ => Nat.le_refl _⟩
  · cases h
  · show (cat ([] : List Str)).length + 6 * (cat ([] : List Str)).length + 36 * (cat ([] : List Str)).length ≤ 0
    decide +kernel
theorem hlT_50 : hlT t50 = ([("" : Str), "", ""] : List Str) := by
  have h : ∀ n, spN n (cat ([] : List Str)) = ("" : Str) := fun n => (spN_empty n).trans rfl
  show ([spN 3 (cat []), spN 2 (cat []), spN 1 (cat [])] : List Str) = _
  rw [h, h, h]
section
variable {W : Wd} {G : Gens} {env : Env} {loc loc' : Loc} {nw nw' : Ledger} {s : Shared} {A : Around} {E : Value → Shared → Prop} {N : Ledger}
theorem callW_kw {pos : Pos} {f : Addr} {e : Expr} {rest : List Expr} {kws : List Keyword} {Q : Value → Shared → Prop} (hk : keepIn W.K (.ref f) = true)
    (h : wpAny (model W.prog W.w) A (spliced (backTo pos (starEach (e :: rest) env))) (fun vs s₁ => wpAny (model W.prog W.w) A (evalAll ((backToKw pos (keywordEach kws env)).map (·.2))) (fun kvs s₂ => W.K.In s₂.heap ∧ wpAny (model W.prog W.w) A (call (.ref f) vs (((backToKw pos (keywordEach kws env)).filterMap (·.1)).zip kvs)) Q E s₂) E s₁) E s)
    (he : backTo pos (starEach (e :: rest) env) = (false, eval e env) :: backTo pos (starEach rest env)) (hplain : ((backTo pos (starEach (e :: rest) env)).any (·.1) || (backToKw pos (keywordEach kws env)).any (·.1.isNone)) = false) (hall : (backToKw pos (keywordEach kws env)).all (·.1.isSome) = true) :
    wpAny (model W.prog W.w) A (callWith pos (.ref f) [] (backTo pos (starEach (e :: rest) env)) (backToKw pos (keywordEach kws env))) Q E s := by
  refine callWith_of (P := fun h => W.K.In h) (first := []) hplain (fun h X => keeps_K hk h X) ?_
  rw [he] at h ⊢
  exact evalArgs_kwB hall h
set_option maxHeartbeats 8000000 in
/-- a writer that leaves x out, made in law -/
theorem newX_ {L : Addr} {loc : Loc} {nm an : Str} {p1 p2 p3 p4 p5 p6 p7 p8 p9 : Pos} {Q : Value → Shared → Prop} {cq : Cell} (I : IsC W) (hA : Aok 39 A) (S' : Sta W G (env5 L) loc nw s)
    (he : ∀ {Q' : Value → Shared → Prop} {s : Shared}, Sta W G (env5 L) loc nw s → (∀ q s', Sta W G (env5 L) loc ((q, cq) :: nw) s' → Q' (.ref q) s') → wpAny (model W.prog W.w) A (eval (.Attribute (.Name nm p2) an p3) (env5 L)) Q' E s)
    (k : ∀ q w xt ti s', Sta W G (env5 L) loc (wrLed w (.ref xt) q (.fresh ti) ((xt, IsSS W Tx 1) :: (q, cq) :: nw)) s' → Q (.ref w.x) s') :
    wpAny (model W.prog W.w) A (eval (.Call (.Name "C14NWriterTarget" p1) [.Attribute (.Name nm p2) an p3] [⟨some "with_comments", .Constant (.bool true) 0 p4, p5⟩, ⟨some "exclude_tags", .List [.Constant (.str "x") 0 p6] p7, p8⟩] p9) (env5 L)) Q E s := by
  refine Call_kw ?_ (by kernel_rfl)
  refine Sta.global S' I.g_cls (by kernel_rfl) ?_
  refine callW_kw (by rw [I.k]; kernel_rfl) ?_ (by kernel_rfl) (by kernel_rfl) (by kernel_rfl)
  refine args_cons ?_ (by kernel_rfl)
  refine he S' ?_
  clear S'; intro q s' S'
  refine args_nil ?_
  refine kws_cons ?_
  repeat walk_at "cw"
  refine kws_cons ?_
  repeat walk_at "cw"
  refine kws_nil ?_
  refine ⟨S'.kin, ?_⟩
  refine makeX_ (q := q) I S' (.cons _ _ .nil) (hA.le (by decide)) ?_
  intro w xt ti s' S'
  exact k q w xt ti s' S'
set_option maxHeartbeats 8000000 in
theorem law5 {scr : Addr} {vs : List Value} {ns : List Int} (I : IsC W) (C : CodeHd W.B 125 123) (S : St0 W [] (tabLed [(125, 123)]) s) (hB : W.B.IsList scr vs.toArray) (hi : IntsAre vs ns) (hn : ns.length ≤ 63) (hA : Aok 40 A) :
    codeAny (model W.prog W.w) A (.call (.ref 201) ⟨[.ref scr], []⟩) (fun r s' => r = .ok (.ret (.bool true)) ∧ ∃ G nw' c?, St0 W G (nw' ++ Tabs 123 lamP lamQ1 c?) s') s := by
  refine S.code (binds := [("script", .ref scr)]) ["out", "last", "middle", "first", "writers", "held", "hidden", "told", "due", "w", "kind", "text", "seen", "final", "written"] I.f_law hA.room (fun _ _ _ _ _ => BindsTo.of_eq (by kernel_rfl)) (by kernel_rfl) ?_
  intro L s' S'
  have hA' := hA.deeper (env := env5 L)
  simp only [mkLoc, List.map_cons, List.map_nil, List.cons_append, List.nil_append, tabLed] at S'
  have hcl := I.cl
  refine execs_go ?_
  repeat walk_at "cw"
  obtain ⟨out, rfl⟩ : ∃ o, o = a' := ⟨a', rfl⟩
  refine newX_ I hA' S' (fun S' k => by (repeat walk_at "cw"); exact Sta.getAppend S' (by walk_at "mem") k) ?_
  clear S'; intro q2 w2 x2 ti2 s' S'
  repeat walk_at "cw"
  refine newX_ I hA' S' (fun S' k => by (repeat walk_at "cw"); exact Sta.getBound (f := 97) S' hcl (by walk_at "mem") (by walk_at "mem") VV.keys (by decide +kernel) (by rw [I.k]; kernel_rfl) (by rw [I.k]; kernel_rfl) (by rw [I.k]; kernel_rfl) (by rw [I.k]; kernel_rfl) (by decide +kernel) k) ?_
  clear S'; intro q1 w1 x1 ti1 s' S'
  repeat walk_at "cw"
  refine newX_ I hA' S' (fun S' k => by (repeat walk_at "cw"); exact Sta.getBound (f := 97) S' hcl (by walk_at "mem") (by walk_at "mem") VV.keys (by decide +kernel) (by rw [I.k]; kernel_rfl) (by rw [I.k]; kernel_rfl) (by rw [I.k]; kernel_rfl) (by rw [I.k]; kernel_rfl) (by decide +kernel) k) ?_
  clear S'; intro q0 w0 x0 ti0 s' S'
  repeat ((fail_if_success (with_reducible show wpAny _ _ (exec (PySem.Stmt.Assign [PySem.Expr.Tuple _ _ _] (PySem.Expr.Tuple _ _ _) _) _) _ _ _)); walk_at "cw")
  refine Assign_Tuple_swapped (names := ["held", "hidden"]) ?_ (by kernel_rfl) (by kernel_rfl)
  repeat walk_at "cw"
  refine Sta.unpackI S' hA'.handled (by walk_at "mem") rfl ?_
  clear S'; intro s' S'
  replace S' := S'.sub (List.sublist_cons_self _ _)
  refine assignInOrder_cons ?_
  refine bindName_ ?_
  repeat walk_at "cw"
  refine assignInOrder_cons ?_
  refine bindName_ ?_
  repeat walk_at "cw"
  refine assignInOrder_nil ?_
  repeat ((fail_if_success (with_reducible show wpAny _ _ (exec (PySem.Stmt.Assign [PySem.Expr.Tuple _ _ _] (PySem.Expr.Tuple _ _ _) _) _) _ _ _)); walk_at "cw")
  refine Assign_Tuple_swapped (names := ["told", "due"]) ?_ (by kernel_rfl) (by kernel_rfl)
  repeat walk_at "cw"
  refine Sta.unpackI S' hA'.handled (by walk_at "mem") rfl ?_
  clear S'; intro s' S'
  replace S' := S'.sub (List.sublist_cons_self _ _)
  refine assignInOrder_cons ?_
  refine bindName_ ?_
  repeat walk_at "cw"
  refine assignInOrder_cons ?_
  refine bindName_ ?_
  repeat walk_at "cw"
  refine assignInOrder_nil ?_
  repeat walk_at "cw"
  rename_i wl _ _ _ _ _ _ _ _ hd _ _ _ _ _ _ hg _ _ _ _ _ _ td _ du _ _ _ _
  have S2 := S'.tell (c' := IsTxts []) .head fun o _ ho => ⟨_, .nil, ho⟩
  have S3 := S2.tell (c' := IsTxts []) (.tail .head) fun o _ ho => ⟨_, .nil, ho⟩
  have S4 := S3.tell (c' := IsInts (hgT t50)) (.tail (.tail .head)) fun o _ ho => ⟨_, .cons _ _ (.cons _ _ (.cons _ _ .nil)), ho⟩
  have S5 := S4.tell (c' := IsTxts (hlT t50)) (.tail (.tail (.tail .head))) fun o _ ho => ⟨_, by rw [hlT_50]; exact .cons _ _ (.cons _ _ (.cons _ _ .nil)), ho⟩
  clear S2 S3 S4 S'
  have S6 := (S5.perm (nw' := (out, IsLst []) :: (hd, IsTxts (hlT t50)) :: (hg, IsInts (hgT t50)) :: (td, IsTxts []) :: (du, IsTxts []) :: (wl, IsLst [.ref w0.x, .ref w1.x, .ref w2.x]) :: (chR W ⟨w0, w1, w2, x0, x1, x2, q0, q1, q2, out⟩ (.fresh ti0) (.fresh ti1) (.fresh ti2) none ++ [])) (by simp only [chR, Tabs]; walk_at "perm")).tell (c' := IsTxts []) .head fun o _ ho => ⟨_, .nil, ho⟩
  clear S5
  obtain ⟨c, S'⟩ : ∃ c : Chn, Sta W [] (env5 L) (loc5 scr c wl hd hg td du none none none none none none) (nw5 W c (.fresh ti0) (.fresh ti1) (.fresh ti2) none wl hd hg td du t50 [] []) s' := ⟨⟨w0, w1, w2, x0, x1, x2, q0, q1, q2, out⟩, S6⟩
  clear S6
  refine wpAny_For ?_ (by intro _; kernel_rfl)
  refine Call_ ?_ (by kernel_rfl)
  refine Sta.global S' I.g_l_calls (by kernel_rfl) ?_
  refine callW_1 (by rw [I.k]; kernel_rfl) ?_ (by kernel_rfl) (by kernel_rfl)
  repeat walk_at "cw"
  refine calls_ I (hA'.le (by first | decide | omega)) hB hi hn S' ?_
  clear S'; intro ca cs s' hg0 hcl2 S'
  refine Sta.iterList S' (.head _) ?_
  clear S'; intro it s' S'
  have H3 : SQ3 (.fresh ti0) (.fresh ti1) (.fresh ti2) t50 := ⟨sq_fresh _, sq_fresh _, sq_fresh _⟩
  refine loop5 (X := []) I C (hA'.le (by first | decide | omega)) hg0 hcl2 H3 r50 (S'.perm (by walk_at "perm")) ?_ _ rfl
  clear S'
  intro Ad i vw vk vx vs vf vwr s' hi2 M
  obtain ⟨st0, st1, st2, c?, T, D, H, R, hD, S'⟩ := M
  simp only [loc5] at S'
  repeat walk_at "cw"
  obtain ⟨va, ha, hla⟩ := S'.txts (a := td) (ss := D) (by walk_at "mem")
  obtain ⟨vb, hb, hlb⟩ := S'.txts (a := du) (ss := D) (by walk_at "mem")
  have hu := hA'.units
  refine Sta.eqOp S' (eqLists hla hlb (by rw [ha.length, hb.length]) (by show (A.deeper (env5 L)).units < cLine; omega) ?_) ?_
  · intro j h1 h2
    have hj : j < D.length := by rw [← ha.length]; exact h1
    obtain ⟨t1, e1⟩ := ha.at' j hj
    obtain ⟨t2, e2⟩ := hb.at' j hj
    rw [List.getElem?_eq_getElem h1] at e1
    rw [List.getElem?_eq_getElem h2] at e2
    rw [Option.some.inj e1, Option.some.inj e2]
    have := eqAt_str (A := (A.deeper (env5 L)).in1) (s := s') (x := D[j]) (y := D[j]) (t := t1) (u := t2)
    rwa [decide_eq_true rfl] at this
  repeat walk_at "cw"
  refine ⟨rfl, _, (_, IsNs _) :: ((c.out, IsTxts T.o) :: (hd, IsTxts (hlT T)) :: (hg, IsInts (hgT T)) :: (td, IsTxts D) :: (du, IsTxts D) :: (wl, IsLst (wxRef c)) :: wrLed c.w0 (.ref c.x0) c.q0 st0 ((c.q0, IsMeth 97 (.ref c.w1.x)) :: wrLed c.w1 (.ref c.x1) c.q1 st1 ((c.q1, IsMeth 97 (.ref c.w2.x)) :: wrLed c.w2 (.ref c.x2) c.q2 st2 ((c.q2, IsBound "list.append" (.ref c.out)) :: (c.x0, IsSS W Tx 1) :: (c.x1, IsSS W Tx 1) :: (c.x2, IsSS W Tx 1) :: (caLed cs ++ []))))), c?, (S'.perm (nw' := ((c.out, IsTxts T.o) :: (hd, IsTxts (hlT T)) :: (hg, IsInts (hgT T)) :: (td, IsTxts D) :: (du, IsTxts D) :: (wl, IsLst (wxRef c)) :: wrLed c.w0 (.ref c.x0) c.q0 st0 ((c.q0, IsMeth 97 (.ref c.w1.x)) :: wrLed c.w1 (.ref c.x1) c.q1 st1 ((c.q1, IsMeth 97 (.ref c.w2.x)) :: wrLed c.w2 (.ref c.x2) c.q2 st2 ((c.q2, IsBound "list.append" (.ref c.out)) :: (c.x0, IsSS W Tx 1) :: (c.x1, IsSS W Tx 1) :: (c.x2, IsSS W Tx 1) :: (caLed cs ++ []))))) ++ Tabs 123 lamP lamQ1 c?) (by simp only [nw5, chR]; walk_at "perm")).st0 (pre := []) rfl⟩
end
end
end Mine
end
section
open PySem PySem.W PyProof.Rows PySem.W.X PySem.SeqAt
set_option maxRecDepth 100000
namespace Mine
theorem aok_caller : Aok 60 callerA := ⟨rfl, by decide +kernel, by decide +kernel⟩
theorem grown_of {W : Wd} {G : Gens} {nw : Ledger} {s : Shared} {P : Addr} {ps : List Value} (S : St0 W G nw s) (m : (P, IsTab ps) ∈ nw) : GrownAt P s.heap := by
  obtain ⟨_, o, ho, rfl⟩ := S.led.own _ m
  exact ⟨_, ho⟩
end Mine
set_option maxHeartbeats 8000000 in
theorem PySem.Challenge.cw_dn0284_05_holds : PySem.Challenge.rw_dn0284_05.Holds := by
  refine PySem.W.holds_law Mine.ws (Function.const _ (Mine.hd ?_))
  k_fill
  intro w s₀ s₁ mg mb G Y fa o pm cd doc dV kV ho hd hcd hD hmg hg args vals as hpre hlay hrd hwl hlo
  have KX := km_in_of Y
  km_tabs Y
  have X := (Ground.X G).1
  have V := (Ground.X G).2
  refine Ground.open G ?_
  intro T B D TE TW
  try (refine guard_noD D (by decide +kernel) ?_; clear D)
  km_lay T hmg ho hd cd
  wrow_args hpre hlay hrd hwl hlo
  first | refine callC_kw (enter_call ?_) | refine enter_call ?_
  w_top on
  refine Mine.kn_postG hT9 (fun _ => rfl) (by wrow_post) ?_
  have hfa : fa = 201 := by
    have e1 : mg "law" = some (.ref 201) := mg_of KX T.g (by kernel_rfl)
    have e2 : some (Value.ref fa) = some (.ref 201) := hmg.symm.trans e1
    injection e2 with e2
    injection e2
  subst hfa
  let W : Mine.Wd := ⟨PySem.Challenge.rw_dn0284_05.row.prog, w, Mine.KK w.params, ghostOf s₁.heap [(125, 123)], s₁.os⟩
  have S0 : Mine.St0 W [] (Mine.tabLed [(125, 123)]) s₁ := Mine.sta0_of (W := W) hT9 (by decide) KX (by kernel_rfl) T hg rfl rfl
  have C := ghost_code hT9
  rename s₁.heap.IsList _ _ => hL
  rename IntsAre _ _ => hI
  have hL2 := ghost_list hT9 hL
  refine codeAny_mono (Mine.law5 (W := W) ⟨rfl⟩ C.1 S0 hL2 hI (by omega) (Mine.aok_caller.le (by omega))) fun r s' h => ?_
  obtain ⟨rfl, G', nw', c?, S'⟩ := h
  refine ⟨rfl, S'.led.keep, S'.os, S'.bare, ?_, trivial⟩
  cases c? with
  | none => exact Mine.grown_of S' (List.mem_append_right _ (.head _))
  | some c => exact Mine.grown_of S' (List.mem_append_right _ (.head _))
end
