import PyProof.Rows.All
import Wide.All
import OpenK.AllK
import Wide.FinOn
import PySem.Challenge.RW_dn0284_01
set_option Elab.async false
set_option compiler.extract_closed false
set_option genInjectivity false
set_option genSizeOf false
section
open PySem PySem.W PyProof.Rows
set_option maxRecDepth 100000
namespace Mine

/-- a thing that may be said of an object -/
noncomputable abbrev Cell := Obj → Prop
noncomputable abbrev Ledger := List (Addr × Cell)
noncomputable abbrev Loc := List (Str × Option Value)

structure Led (B : Heap) (nw : Ledger) (h : Heap) : Prop where
  keep : ∀ b o, B.get? b = some o → h.get? b = some o
  own : ∀ p ∈ nw, B.get? p.1 = none ∧ ∃ o, h.get? p.1 = some o ∧ p.2 o
  nodup : (nw.map Prod.fst).Nodup

noncomputable def lk (loc : Loc) (x : Str) : Option Value := (loc.lookup x).join
noncomputable def IsNs (loc : Loc) : Cell := fun o => (loc.map Prod.fst).Nodup ∧ ∃ es ep, o.data = .dict es ep ∧ StrKeys es ∧ ∀ name, nsFind es name = lk loc name
noncomputable def IsLst (xs : List Value) : Cell := fun o => ∃ n, o = { cls := .type "list", data := .seq xs.toArray n }
noncomputable def IsTpl (xs : List Value) : Cell := fun o => ∃ n, o = { cls := .type "tuple", data := .seq xs.toArray n }
noncomputable def IsObj (o₀ : Obj) : Cell := fun o => o = o₀

/-- one entry turned -/
inductive Upd (a : Addr) (c c' : Cell) : Ledger → Ledger → Prop
  | head {r} : Upd a c c' ((a, c) :: r) ((a, c') :: r)
  | tail {p r r'} : Upd a c c' r r' → Upd a c c' (p :: r) (p :: r')
inductive Put (x : Str) (v : Option Value) : Loc → Loc → Prop
  | head {u r} : Put x v ((x, u) :: r) ((x, v) :: r)
  | tail {p r r'} : Put x v r r' → Put x v (p :: r) (p :: r')

theorem Upd.keys {a c c' l l'} (h : Upd a c c' l l') : l'.map Prod.fst = l.map Prod.fst := by
  induction h with
  | head => rfl
  | tail h ih => rw [List.map_cons, List.map_cons, ih]
theorem Upd.mem {a c c' l l'} (h : Upd a c c' l l') : (a, c) ∈ l := by
  induction h with
  | head => exact .head _
  | tail h ih => exact .tail _ ih
theorem Upd.from {a c c' l l'} (h : Upd a c c' l l') : (l.map Prod.fst).Nodup → ∀ p ∈ l', p = (a, c') ∨ (p ∈ l ∧ p.1 ≠ a) := by
  induction h with
  | head =>
    intro nd p hp
    rw [List.map_cons, List.nodup_cons] at nd
    rcases List.mem_cons.mp hp with rfl | hp
    · exact .inl rfl
    · exact .inr ⟨.tail _ hp, fun e => nd.1 (List.mem_map.mpr ⟨p, hp, e⟩)⟩
  | tail h ih =>
    intro nd p hp
    rw [List.map_cons, List.nodup_cons] at nd
    rcases List.mem_cons.mp hp with rfl | hp
    · exact .inr ⟨.head _, fun e => nd.1 (by rw [e]; exact List.mem_map_of_mem h.mem)⟩
    · rcases ih nd.2 p hp with e | ⟨m, n⟩
      · exact .inl e
      · exact .inr ⟨.tail _ m, n⟩

namespace Led
variable {B h h' : Heap} {nw nw' : Ledger} {a : Addr} {c c' : Cell}

theorem get (D : Led B nw h) (m : (a, c) ∈ nw) : ∃ o, h.get? a = some o ∧ c o := (D.own _ m).2
theorem size_ne (D : Led B nw h) : h.objs.size ∉ nw.map Prod.fst := fun m => by
  obtain ⟨p, hp, e⟩ := List.mem_map.mp m
  obtain ⟨o, ho, _⟩ := (D.own p hp).2
  exact absurd (Heap.lt_size ho) (by rw [e]; exact Nat.lt_irrefl _)
theorem size_new (D : Led B nw h) : B.get? h.objs.size = none := by
  cases q : B.get? h.objs.size with
  | none => rfl
  | some o => exact absurd (Heap.lt_size (D.keep _ _ q)) (Nat.lt_irrefl _)
/-- the heap grown, nothing turned -/
theorem grow (D : Led B nw h) (k : ∀ b o, h.get? b = some o → h'.get? b = some o) : Led B nw h' :=
  ⟨fun b o e => k _ _ (D.keep b o e), fun p hp => let ⟨x, o, ho, hc⟩ := D.own p hp; ⟨x, o, k _ _ ho, hc⟩, D.nodup⟩
theorem sub (D : Led B nw h) (s : List.Sublist nw' nw) : Led B nw' h :=
  ⟨D.keep, fun p hp => D.own p (s.subset hp), D.nodup.sublist (s.map _)⟩
theorem perm (D : Led B nw h) (s : List.Perm nw nw') : Led B nw' h :=
  ⟨D.keep, fun p hp => D.own p (s.mem_iff.mpr hp), (s.map Prod.fst).nodup_iff.mp D.nodup⟩
theorem tail {p : Addr × Cell} (D : Led B (p :: nw) h) : Led B nw h := D.sub (List.sublist_cons_self _ _)
theorem cons_new (D : Led B nw h) {o : Obj} (k : ∀ b o', h.get? b = some o' → h'.get? b = some o') (hs : a ∉ nw.map Prod.fst) (hB : B.get? a = none) (ho : h'.get? a = some o) (hc : c o) : Led B ((a, c) :: nw) h' := by
  have G := D.grow k
  refine ⟨G.keep, fun p hp => ?_, ?_⟩
  · rcases List.mem_cons.mp hp with rfl | hp
    · exact ⟨hB, o, ho, hc⟩
    · exact G.own p hp
  · rw [List.map_cons, List.nodup_cons]; exact ⟨hs, D.nodup⟩
theorem new (D : Led B nw h) {o : Obj} (hf : o.isFreed = false) (hc : c o) : Led B ((h.objs.size, c) :: nw) (h.push o) :=
  D.cons_new (fun _ _ e => Heap.get?_push_of_some _ e) D.size_ne D.size_new (Heap.get?_push_size _ hf) hc
theorem set (D : Led B nw h) (U : Upd a c c' nw nw') (hs : ∀ b o, b ≠ a → h.get? b = some o → h'.get? b = some o) {o : Obj} (ho : h'.get? a = some o) (hc : c' o) : Led B nw' h' := by
  have hB := (D.own _ U.mem).1
  refine ⟨fun b o' e => hs b o' (fun q => by rw [q, hB] at e; cases e) (D.keep b o' e), fun p hp => ?_, by rw [U.keys]; exact D.nodup⟩
  rcases U.from D.nodup p hp with rfl | ⟨m, n⟩
  · exact ⟨hB, o, ho, hc⟩
  · obtain ⟨x, o', ho', hc'⟩ := D.own p m
    exact ⟨x, o', hs _ _ n ho', hc'⟩
theorem ne {b : Addr} {o : Obj} (D : Led B nw h) (m : (a, c) ∈ nw) (e : B.get? b = some o) : a ≠ b := fun q => by
  have := (D.own _ m).1
  rw [q, e] at this; cases this
end Led
end Mine
namespace Mine
theorem Put.keys {x : Str} {v : Option Value} {l l' : Loc} (h : Put x v l l') : l'.map Prod.fst = l.map Prod.fst := by
  induction h with
  | head => rfl
  | tail h ih => rw [List.map_cons, List.map_cons, ih]
theorem Put.mem {x : Str} {v : Option Value} {l l' : Loc} (h : Put x v l l') : x ∈ l.map Prod.fst := by
  induction h with
  | head => exact .head _
  | tail h ih => exact .tail _ ih
theorem Put.look {x : Str} {v : Option Value} {l l' : Loc} (h : Put x v l l') : (l.map Prod.fst).Nodup → ∀ y, lk l' y = if y = x then v else lk l y := by
  induction h with
  | head =>
    intro _ y
    unfold lk
    rw [List.lookup_cons, List.lookup_cons]
    by_cases h : y = x
    · subst h; simp
    · rw [beq_eq_false_iff_ne.mpr h, if_neg h]
  | @tail p r r' h ih =>
    intro nd y
    rw [List.map_cons, List.nodup_cons] at nd
    have ih := ih nd.2 y
    unfold lk at ih ⊢
    rw [List.lookup_cons, List.lookup_cons]
    by_cases q : y = p.1
    · have hx : ¬ y = x := fun e => nd.1 (by rw [← q, e]; exact h.mem)
      rw [if_neg hx, beq_iff_eq.mpr q]
    · rw [beq_eq_false_iff_ne.mpr q]; exact ih
theorem lk_of_mem {x : Str} {v : Option Value} : ∀ {l : Loc}, (l.map Prod.fst).Nodup → (x, v) ∈ l → lk l x = v
  | p :: l, nd, m => by
    rw [List.map_cons, List.nodup_cons] at nd
    unfold lk
    rw [List.lookup_cons]
    rcases List.mem_cons.mp m with rfl | m
    · simp
    · have : x ≠ p.1 := fun e => nd.1 (by rw [← e]; exact List.mem_map.mpr ⟨_, m, rfl⟩)
      rw [beq_eq_false_iff_ne.mpr this]
      exact lk_of_mem nd.2 m

structure Wd where
  prog : Program
  w : World
  K : Frag
  B : Heap
  os : OsState

structure Wd.Ok (W : Wd) : Prop where
  kin : W.K.In W.B
  top : ∃ loose mean mg mb, Top topProg loose mean mg mb W.B
theorem Wd.Ok.g {W : Wd} (O : W.Ok) : ∃ mg, W.B.Ns mainGlobals mg := let ⟨_, _, _, _, T⟩ := O.top; ⟨_, T.g⟩
theorem Wd.Ok.b {W : Wd} (O : W.Ok) : ∃ mb, W.B.Ns builtinsNs mb ∧ ∀ x : Str, x ≠ "__name__" → mb x = bootBuiltins x := let ⟨_, _, _, _, T⟩ := O.top; ⟨_, T.b, T.builtins⟩
theorem Wd.Ok.nolimit {W : Wd} (O : W.Ok) : W.B.NoLimit := let ⟨_, _, _, _, T⟩ := O.top; T.nolimit
theorem Wd.Ok.bm {W : Wd} (O : W.Ok) : ∃ mg bm ob, W.B.Ns mainGlobals mg ∧ mg "__builtins__" = some (.ref bm) ∧ bm ≠ builtinsNs ∧ bm ≠ mainGlobals ∧ W.B.get? bm = some ob ∧ ob.cls = .type "module" ∧ ob.dict = some builtinsNs ∧ ob.data = .plain := by
  obtain ⟨_, _, mg, _, T⟩ := O.top
  obtain ⟨bm, ob, h1, h2, h3, h4, h5, h6⟩ := T.bmain
  refine ⟨mg, bm, ob, T.g, h1, h2, fun q => ?_, h3, h4, h5, h6⟩
  obtain ⟨o, es, ep, e, hd, _⟩ := T.g
  rw [q, e] at h3
  cases h3
  rw [hd] at h6
  cases h6

structure EnvOk (env : Env) (ks : List Str) : Prop where
  fn : env.scope.kind = .function
  glob : env.globals = mainGlobals
  bi : env.builtins = builtinsNs
  kinds : ∀ x ∈ ks, env.kindOf x = some .local
  nodebug : ∀ x ∈ ks, (x == ("__debug__" : Str)) = false
  nodup : ks.Nodup

noncomputable abbrev Gens := List (Nat × GenState)
structure Sta (W : Wd) (G : Gens) (env : Env) (loc : Loc) (nw : Ledger) (s : Shared) : Prop where
  ok : W.Ok
  eok : EnvOk env (loc.map Prod.fst)
  led : Led W.B ((env.locals, IsNs loc) :: nw) s.heap
  bare : AllBare s.gens
  os : s.os = W.os
  gens : ∀ p ∈ G, s.gens[p.1]? = some p.2
  gnd : (G.map Prod.fst).Nodup

namespace Sta
variable {W : Wd} {G : Gens} {env : Env} {loc loc' : Loc} {nw nw' : Ledger} {s : Shared} {A : Around} {E : Value → Shared → Prop}
theorem kin (S : Sta W G env loc nw s) : W.K.In s.heap := S.ok.kin.keeps S.led.keep
theorem nolimit (S : Sta W G env loc nw s) : s.heap.NoLimit := S.ok.nolimit.keeps S.led.keep
theorem toks (S : Sta W G env loc nw s) (t : Nat) : Sta W G env loc nw { s with toks := t } := ⟨S.ok, S.eok, S.led, S.bare, S.os, S.gens, S.gnd⟩
theorem ns (S : Sta W G env loc nw s) : s.heap.Ns env.locals (lk loc) := by
  obtain ⟨o, ho, _, es, ep, hd, hk, hf⟩ := S.led.get (.head _)
  exact ⟨o, es, ep, ho, hd, hk, hf⟩
theorem get {a : Addr} {c : Cell} (S : Sta W G env loc nw s) (m : (a, c) ∈ nw) : ∃ o, s.heap.get? a = some o ∧ c o := S.led.get (.tail _ m)
/-- heap grown, nothing turned -/
theorem grow (S : Sta W G env loc nw s) {h' : Heap} (k : ∀ b o, s.heap.get? b = some o → h'.get? b = some o) (t : Nat) : Sta W G env loc nw { s with heap := h', toks := t } :=
  ⟨S.ok, S.eok, S.led.grow k, S.bare, S.os, S.gens, S.gnd⟩
theorem new (S : Sta W G env loc nw s) {o : Obj} {c : Cell} (hf : o.isFreed = false) (hc : c o) (t : Nat) : Sta W G env loc ((s.heap.objs.size, c) :: nw) { s with heap := s.heap.push o, toks := t } :=
  ⟨S.ok, S.eok, (S.led.new hf hc).perm (List.Perm.swap ..), S.bare, S.os, S.gens, S.gnd⟩
theorem set (S : Sta W G env loc nw s) {a : Addr} {c c' : Cell} {o : Obj} {h' : Heap} (U : Upd a c c' nw nw') (hs : ∀ b o, b ≠ a → s.heap.get? b = some o → h'.get? b = some o) (ho : h'.get? a = some o) (hc : c' o) (t : Nat) : Sta W G env loc nw' { s with heap := h', toks := t } :=
  ⟨S.ok, S.eok, S.led.set (.tail U) hs ho hc, S.bare, S.os, S.gens, S.gnd⟩
theorem sub (S : Sta W G env loc nw s) (h : List.Sublist nw' nw) : Sta W G env loc nw' s := ⟨S.ok, S.eok, S.led.sub (h.cons_cons _), S.bare, S.os, S.gens, S.gnd⟩
theorem perm (S : Sta W G env loc nw s) (h : List.Perm nw nw') : Sta W G env loc nw' s := ⟨S.ok, S.eok, S.led.perm (h.cons _), S.bare, S.os, S.gens, S.gnd⟩
theorem put (S : Sta W G env loc nw s) {x : Str} {v : Option Value} {h' : Heap} (P : Put x v loc loc') (hn : h'.Ns env.locals (fun y => if y = x then v else lk loc y)) (hs : Heap.SameBut env.locals s.heap h') (t : Nat) :
    Sta W G env loc' nw { s with heap := h', toks := t } := by
  obtain ⟨o, es, ep, ho, hd, hk, hf⟩ := hn
  have nd : (loc.map Prod.fst).Nodup := S.eok.nodup
  refine ⟨S.ok, by rw [P.keys]; exact S.eok, S.led.set (.head) (fun b o hb e => (hs.2 b hb).trans e) ho ⟨by rw [P.keys]; exact nd, es, ep, hd, hk, fun y => ?_⟩, S.bare, S.os, S.gens, S.gnd⟩
  rw [hf y, P.look nd]

theorem local_ {x : Str} {pos : Pos} {v : Value} {Q : Value → Shared → Prop} {M : Model} (S : Sta W G env loc nw s) (hv : (x, some v) ∈ loc) (h : Q v s) : wpAny M A (eval (.Name x pos) env) Q E s :=
  have hx : x ∈ loc.map Prod.fst := List.mem_map.mpr ⟨_, hv, rfl⟩
  wpAny_Name (wpAny_loadName_local S.eok.fn (S.eok.kinds _ hx) S.ns (lk_of_mem S.eok.nodup hv) h) (S.eok.nodebug _ hx)
theorem local' {x : Str} {v : Value} {Q : Value → Shared → Prop} {M : Model} (S : Sta W G env loc nw s) (hv : (x, some v) ∈ loc) (h : Q v s) : wpAny M A (loadName env x) Q E s :=
  have hx : x ∈ loc.map Prod.fst := List.mem_map.mpr ⟨_, hv, rfl⟩
  wpAny_loadName_local S.eok.fn (S.eok.kinds _ hx) S.ns (lk_of_mem S.eok.nodup hv) h
theorem store {x : Str} {v : Value} {Q : Unit → Shared → Prop} {M : Model} (S : Sta W G env loc nw s) (hp : Put x (some v) loc loc') (h : ∀ s', Sta W G env loc' nw s' → Q () s') : wpAny M A (storeName env x v) Q E s := by
  refine wpAny_storeName_local (S.eok.kinds _ hp.mem) S.ns (fun h' hn hs => h _ (S.put hp hn hs _)) ?_
  rw [S.eok.fn]; rfl
theorem global {x : Str} {pos : Pos} {v : Value} {Q : Value → Shared → Prop} {M : Model} (S : Sta W G env loc nw s) (e : nsIn W.K mainGlobals x = some (some v)) (hx : env.kindOf x = some .globalImplicit) (h : Q v s) (hd : (x == ("__debug__" : Str)) = false := by decide +kernel) :
    wpAny M A (eval (.Name x pos) env) Q E s := by
  obtain ⟨mg, hg⟩ := S.ok.g
  exact Calls.Name_function_global S.eok.fn hx (Calls.loadGlobal_global (by rw [S.eok.glob]; exact hg.keeps S.led.keep) (mg_of S.ok.kin hg e) h) hd
theorem builtin {x : Str} {pos : Pos} {v : Value} {Q : Value → Shared → Prop} {M : Model} (S : Sta W G env loc nw s) (e : nsIn W.K mainGlobals x = some none) (hv : bootBuiltins x = some v) (hx : env.kindOf x = some .globalImplicit) (h : Q v s) (hn : x ≠ "__name__" := by decide +kernel) (hd : (x == ("__debug__" : Str)) = false := by decide +kernel) :
    wpAny M A (eval (.Name x pos) env) Q E s := by
  obtain ⟨mg, hg⟩ := S.ok.g
  obtain ⟨mb, hb, hbb⟩ := S.ok.b
  exact Calls.Name_function_global S.eok.fn hx (Calls.loadGlobal_builtin (by rw [S.eok.glob]; exact hg.keeps S.led.keep) (mg_none_of S.ok.kin hg e) (by rw [S.eok.bi]; exact hb.keeps S.led.keep) ((hbb x hn).trans hv) h) hd
end Sta
end Mine
end
section
open PySem PySem.W PyProof.Rows
set_option maxRecDepth 100000
namespace Mine
theorem slice_from (xs : List Value) (a : Nat) : (slicePick xs.toArray (some (a : Int)) none none).toList = xs.drop a := by
  rw [slicePick_from']
section
variable {W : Wd} {G : Gens} {env : Env} {loc loc' : Loc} {nw nw' : Ledger} {s : Shared} {A : Around} {E : Value → Shared → Prop}

theorem Sta.isList {a : Addr} {xs : List Value} (S : Sta W G env loc nw s) (m : (a, IsLst xs) ∈ nw) : s.heap.IsList a xs.toArray := by
  obtain ⟨o, ho, n, rfl⟩ := S.get m
  exact ⟨_, ho, rfl, n, rfl⟩
theorem Sta.isL {a : Addr} {xs : List Value} (S : Sta W G env loc nw s) (m : (a, IsLst xs) ∈ nw) : ∃ n, IsL s.heap a xs.toArray n := by
  obtain ⟨o, ho, n, rfl⟩ := S.get m
  exact ⟨n, ho⟩

/-- constants -/
theorem Sta.int_ {i : Int} {k : Nat} {pos : Pos} {Q : Value → Shared → Prop} {M : Model} (S : Sta W G env loc nw s) (h : ∀ t s', Sta W G env loc nw s' → Q (.int i t) s') : wpAny M A (eval (.Constant (.int i) k pos) env) Q E s :=
  wpAny_Constant_int (h _ _ (S.toks _))
theorem Sta.str_ {x : Str} {k : Nat} {pos : Pos} {Q : Value → Shared → Prop} {M : Model} (S : Sta W G env loc nw s) (h : ∀ t s', Sta W G env loc nw s' → Q (.str x t) s') : wpAny M A (eval (.Constant (.str x) k pos) env) Q E s :=
  wpAny_Constant_str (h _ _ (S.toks _))
/-- ints -/
theorem Sta.add {a b : Int} {t u : Tok} {Q : Value → Shared → Prop} (S : Sta W G env loc nw s) (h : ∀ t s', Sta W G env loc nw s' → Q (.int (a + b) t) s') : wpAny (model W.prog W.w) A (binaryOp .Add (.int a t) (.int b u)) Q E s :=
  PyProof.Rows.add_int (h _ _ (S.toks _))
theorem Sta.sub_ {a b : Int} {t u : Tok} {Q : Value → Shared → Prop} (S : Sta W G env loc nw s) (h : ∀ t s', Sta W G env loc nw s' → Q (.int (a - b) t) s') : wpAny (model W.prog W.w) A (binaryOp .Sub (.int a t) (.int b u)) Q E s :=
  PyProof.Rows.sub_int (h _ _ (S.toks _))
theorem Sta.mod {a b : Int} {t u : Tok} {Q : Value → Shared → Prop} (S : Sta W G env loc nw s) (hb : b ≠ 0) (h : ∀ t s', Sta W G env loc nw s' → Q (.int (a.fmod b) t) s') : wpAny (model W.prog W.w) A (binaryOp .Mod (.int a t) (.int b u)) Q E s :=
  PyProof.Rows.mod_int hb (h _ _ (S.toks _))
/-- slices of a list -/
noncomputable def SliceK (W : Wd) (env : Env) (Q : Value → Shared → Prop) (o vl vu : Value) (s : Shared) : Prop :=
  ∃ G loc nw l xs lo hi, Sta W G env loc nw s ∧ o = .ref l ∧ (l, IsLst xs) ∈ nw ∧ xs.length ≤ sizeLine ∧ IsPart vl lo ∧ IsPart vu hi ∧
    ∀ a s', Sta W G env loc ((a, IsLst (slicePick xs.toArray lo hi none).toList) :: nw) s' → Q (.ref a) s'
theorem slice_ {value : Expr} {lower upper : Option Expr} {p pos : Pos} {Q : Value → Shared → Prop}
    (h : wpAny (model W.prog W.w) A (eval value env) (fun o s₁ => wpAny (model W.prog W.w) A (evalPart lower env) (fun vl s₂ => wpAny (model W.prog W.w) A (evalPart upper env) (fun vu s₃ => SliceK W env Q o vl vu s₃) E s₂) E s₁) E s)
    (ht : ∀ o r, letTemporaryGo value o r = pure () := by intro _ _; rfl) :
    wpAny (model W.prog W.w) A (eval (.Subscript value (.Slice lower upper none p) pos) env) Q E s := by
  refine wpAny_Subscript_list_slice (wpAny_mono h (fun o s₁ h₁ => wpAny_mono h₁ (fun vl s₂ h₂ => wpAny_mono h₂ (fun vu s₃ h₃ => ?_) fun _ _ e => e) fun _ _ e => e) fun _ _ e => e) ht
  obtain ⟨G, loc, nw, l, xs, lo, hi, S, rfl, m, hz, pl, pu, q⟩ := h₃
  refine ⟨l, xs.toArray, lo, hi, rfl, S.isList m, by simpa using hz, pl, pu, ?_⟩
  have S1 := S.grow (h' := s₃.heap.push { cls := .type "slice", data := .fields #[vl, vu, .none] }) (fun _ _ e => Heap.get?_push_of_some _ e) s₃.toks
  have S2 := S1.new (o := { cls := .type "list", data := .seq (slicePick xs.toArray lo hi none) }) (c := IsLst (slicePick xs.toArray lo hi none).toList) rfl ⟨0, rfl⟩ s₃.toks
  have e : s₃.heap.objs.size + 1 = (s₃.heap.push { cls := .type "slice", data := .fields #[vl, vu, .none] }).objs.size := by rw [Heap.size_push]
  rw [e]
  exact q _ _ S2
/-- sum of a list of ints -/
theorem Sta.sum {a : Addr} {xs : List Value} {ns : List Int} {Q : Value → Shared → Prop} (S : Sta W G env loc nw s) (hh : A.handled = none) (m : (a, IsLst xs) ∈ nw) (hi : IntsAre xs ns) (h : ∀ t s', Sta W G env loc nw s' → Q (.int ns.sum t) s') :
    wpAny (model W.prog W.w) A (call (.builtin "sum") [.ref a]) Q E s := by
  obtain ⟨xs', e⟩ := hi.allInts.items
  have hl := S.isList m
  rw [e] at hl
  refine sum_intListG hh hl fun h' tk t' hk => ?_
  have q := h t' _ (S.grow hk tk)
  rw [preSum_eq, List.take_of_length_le (by simp)]
  have e2 : (xs'.toList.map (·.1)) = ns := by
    have := hi.numsOf
    rw [show xs = xs.toArray.toList from rfl, e, nums_intItems] at this
    simpa using this
  first | (rw [e2]; exact q) | (simpa [e2] using q)
end
end Mine
end
section
open PySem PySem.W PyProof.Rows
set_option maxRecDepth 100000
namespace Mine
noncomputable def topStmt (p : Program) (i : Nat) : Stmt := p.main.body.getD i (.Pass default)
noncomputable def inClass (st : Stmt) (j : Nat) : Stmt := match st with
  | .ClassDef _ _ _ body _ _ _ _ _ _ _ => body.getD j (.Pass default)
  | st => st
noncomputable def fnArgs : Stmt → Arguments
  | .FunctionDef _ a _ _ _ _ _ _ _ _ => a
  | _ => default
noncomputable def fnBody : Stmt → List Stmt
  | .FunctionDef _ _ b _ _ _ _ _ _ _ => b
  | _ => []
noncomputable def fnScope : Stmt → Scope
  | .FunctionDef _ _ _ _ _ _ sc _ _ _ => sc
  | _ => default

noncomputable def mkLoc (binds : List (Str × Value)) (rest : List Str) : Loc := binds.map (fun p => (p.1, some p.2)) ++ rest.map (fun k => (k, none))
theorem lk_none : ∀ (rest : List Str) (x : Str), lk (rest.map fun k => (k, none)) x = none
  | [], _ => rfl
  | k :: r, x => by
    unfold lk
    rw [List.map_cons, List.lookup_cons]
    cases x == k with
    | true => rfl
    | false => exact lk_none r x
theorem lk_mkLoc : ∀ (binds : List (Str × Value)) (rest : List Str), (binds.map Prod.fst).Nodup → ∀ x, lk (mkLoc binds rest) x = binds.reverse.lookup x
  | [], rest, _, x => lk_none rest x
  | (k, v) :: r, rest, nd, x => by
    rw [List.map_cons, List.nodup_cons] at nd
    have ih := lk_mkLoc r rest nd.2 x
    have key : (r.reverse ++ [(k, v)]).lookup x = (r.reverse.lookup x).or (if x == k then some v else none) := by
      rw [List.lookup_append]
      congr 1
      rw [List.lookup_cons]
      cases x == k <;> rfl
    rw [List.reverse_cons, key]
    unfold lk mkLoc at ih ⊢
    rw [List.map_cons, List.cons_append, List.lookup_cons]
    by_cases h : x = k
    · subst h
      have : r.reverse.lookup x = none := by
        rw [List.lookup_eq_none_iff]
        intro p hp
        rw [bne_iff_ne]
        exact fun e => nd.1 (List.mem_map.mpr ⟨p, List.mem_reverse.mp hp, e.symm⟩)
      rw [this]; simp
    · rw [beq_eq_false_iff_ne.mpr h]
      simp only [Bool.false_eq_true, if_false, Option.or_none]
      exact ih

section
variable {W : Wd} {G : Gens} {env : Env} {loc loc' : Loc} {nw nw' : Ledger} {s : Shared} {A : Around} {E : Value → Shared → Prop}

/-- the kinds of the names of a def, looked at once -/
noncomputable def kindsOk (sc : Scope) (ks : List Str) : Bool := sc.kind == .function && !sc.isCoroutine && !sc.isGenerator && (sc.names.all fun x => x.2 != .cell) && (ks.all fun x => sc.names.lookup x == some .local && !(x == ("__debug__" : Str))) && decide ks.Nodup

theorem Sta.code_def {R : Result → Shared → Prop} {f : Addr} {name qual : Str} {st : Stmt} {dV kV doc pm cdv ct oc : Value} {an od : Option Addr} {osl : Array (Option Value)} {args : Args} {binds : List (Str × Value)} (rest : List Str)
    (S : Sta W G env loc nw s) (hroom : A.depth < recursionLimit)
    (ho : W.K.lookup f = some ⟨oc, od, .func (fnOf name qual (fnArgs st) (fnBody st) (fnScope st) dV kV doc pm an cdv ct), osl⟩) (hcd : codeIn W.K cdv qual = true)
    (hbind : BindsTo s (fnOf name qual (fnArgs st) (fnBody st) (fnScope st) dV kV doc pm an cdv ct) args binds)
    (hk : kindsOk (fnScope st) (binds.map Prod.fst ++ rest) = true)
    (h : ∀ L s', Sta W G (envOf qual (fnScope st) L f cdv) (mkLoc binds rest) ((env.locals, IsNs loc) :: nw) s' →
      wpAny (model W.prog W.w) (A.deeper (envOf qual (fnScope st) L f cdv)) (execs (fnBody st) (envOf qual (fnScope st) L f cdv)) (fun fl s'' => R (.ok (.ret (match fl with | .ret v => v | _ => .none))) s'') (fun _ _ => False) s') :
    codeAny (model W.prog W.w) A (.call (.ref f) args) R s := by
  simp only [kindsOk, Bool.and_eq_true, beq_iff_eq, Bool.not_eq_true', List.all_eq_true, bne_iff_ne, decide_eq_true_eq] at hk
  obtain ⟨⟨⟨⟨⟨hkind, hco⟩, hgen⟩, hcell⟩, hks⟩, hnd⟩ := hk
  have hks2 : ((mkLoc binds rest).map Prod.fst) = binds.map Prod.fst ++ rest := by
    simp [mkLoc, List.map_map, Function.comp_def]
  refine (codeAny_call_def (fd := fnOf name qual (fnArgs st) (fnBody st) (fnScope st) dV kV doc pm an cdv ct) (body := fnBody st) (binds := binds) hroom (S.kin _ _ ho) rfl S.nolimit (codeRec_of S.kin hcd) rfl hbind hcell
    (fun x hx => (hks x.1 (List.mem_append_left _ (List.mem_map.mpr ⟨x, hx, rfl⟩))).1) (fun h₁ hns hkp => ?_) hco hgen hkind)
  have D : Led W.B ((s.heap.objs.size, IsNs (mkLoc binds rest)) :: (env.locals, IsNs loc) :: nw) h₁ := by
    obtain ⟨o, es, ep, ho', hd, hsk, hf⟩ := hns
    refine S.led.cons_new hkp S.led.size_ne S.led.size_new ho' ⟨by rw [hks2]; exact hnd, es, ep, hd, hsk, fun x => ?_⟩
    rw [hf x, lk_mkLoc _ _ (hnd.sublist (List.sublist_append_left _ _))]
  have S' : Sta W G (envOf qual (fnScope st) s.heap.objs.size f cdv) (mkLoc binds rest) ((env.locals, IsNs loc) :: nw) { s with heap := h₁, toks := s.toks + binds.length } :=
    ⟨S.ok, by rw [hks2]; exact ⟨hkind, rfl, rfl, fun x hx => (hks x hx).1, fun x hx => (hks x hx).2, hnd⟩, D, S.bare, S.os, S.gens, S.gnd⟩
  exact wpAny_mono (h _ _ S') (fun fl s'' q => q) (fun _ _ q => q.elim)
theorem Sta.call_def {Q : Value → Shared → Prop} {f : Addr} {name qual : Str} {st : Stmt} {dV kV doc pm cdv ct oc : Value} {an od : Option Addr} {osl : Array (Option Value)} {args : Args} {binds : List (Str × Value)} (rest : List Str)
    (S : Sta W G env loc nw s) (hroom : A.depth < recursionLimit)
    (ho : W.K.lookup f = some ⟨oc, od, .func (fnOf name qual (fnArgs st) (fnBody st) (fnScope st) dV kV doc pm an cdv ct), osl⟩) (hcd : codeIn W.K cdv qual = true)
    (hbind : BindsTo s (fnOf name qual (fnArgs st) (fnBody st) (fnScope st) dV kV doc pm an cdv ct) args binds)
    (hk : kindsOk (fnScope st) (binds.map Prod.fst ++ rest) = true)
    (h : ∀ L s', Sta W G (envOf qual (fnScope st) L f cdv) (mkLoc binds rest) ((env.locals, IsNs loc) :: nw) s' →
      wpAny (model W.prog W.w) (A.deeper (envOf qual (fnScope st) L f cdv)) (execs (fnBody st) (envOf qual (fnScope st) L f cdv)) (fun fl s'' => Q (match fl with | .ret v => v | _ => .none) s'') (fun _ _ => False) s') :
    wpAny (model W.prog W.w) A (call (.ref f) args.pos args.kw) Q E s := wpAny_call (S.code_def rest hroom ho hcd hbind hk h)
theorem Sta.back {env' : Env} (S : Sta W G env' loc' ((env.locals, IsNs loc) :: nw) s) (S₀ : EnvOk env (loc.map Prod.fst)) : Sta W G env loc nw s :=
  ⟨S.ok, S₀, S.led.tail, S.bare, S.os, S.gens, S.gnd⟩
end
end Mine
end
section
open PySem PySem.W PyProof.Rows
set_option maxRecDepth 100000
namespace Mine
/-- a method looked up -/
noncomputable def GetM (M : Model) (A : Around) (E : Value → Shared → Prop) (name : Str) (ov : Value) (Q : Value × List Value → Shared → Prop) (s : Shared) : Prop := ∀ pl, wpAny M A (getMethod ov name pl) Q E s
section
variable {M : Model} {env : Env} {s : Shared} {A : Around} {E : Value → Shared → Prop}
theorem Call_m {o : Expr} {name : Str} {apos pos : Pos} {args : List Expr} {kws : List Keyword} {Q : Value → Shared → Prop}
    (h : wpAny M A (eval o env) (fun ov s₁ => GetM M A E name ov (fun p s₂ => wpAny M A (callWith pos p.1 p.2 (backTo pos (starEach args env)) (backToKw pos (keywordEach kws env))) Q E s₂) s₁) E s)
    (hbase : attributeBase o name env (eval o env) = eval o env) (hform : methodCallForm (args.length + kws.length) (backTo pos (starEach args env)) (backToKw pos (keywordEach kws env)) = true) (hline : (apos.endLine == pos.line) = true) :
    wpAny M A (eval (.Call (.Attribute o name apos) args kws pos) env) Q E s := by
  rw [arm_eval_Call, hbase]
  refine wpAny_bind (wpAny_mono h (fun ov s₁ h₁ => wpAny_bind (wpAny_standAt ?_)) fun _ _ e => e)
  have hpos : methodCallPos true o env apos pos = pure pos := by unfold methodCallPos; simp [hline]
  unfold methodCall
  rw [hform]
  exact wpAny_bind (wpAny_holding (wpAny_mono (h₁ _) (fun p s₂ h₂ => wpAny_bind (wpAny_of_eq hpos h₂)) fun _ _ e => e))
theorem getM_builtin {name : Str} {ov : Value} {Q : Value × List Value → Shared → Prop} {T id : String} (pa : PlainAttrs T) (slot : Slot T name id) (hty : typeOf (.builtin id) = pure (.type "method_descriptor")) (hT : s.TypeIs ov T)
    (hd : ∀ a, ov = .ref a → ∃ o, s.heap.get? a = some o ∧ o.dict = none) (h : Q (.builtin id, [ov]) s) : GetM M A E name ov Q s := fun _ => getMethod_builtin hT pa slot hty hd h
theorem getM_str {name : Str} {x : Str} {t : Tok} {Q : Value × List Value → Shared → Prop} {id : String} (slot : Slot "str" name id) (hty : typeOf (.builtin id) = pure (.type "method_descriptor")) (h : Q (.builtin id, [.str x t]) s) : GetM M A E name (.str x t) Q s :=
  getM_builtin F.plainAttrs_str slot hty (typeIs_str _ _ _) (fun _ e => nomatch e) h
theorem callWith_bi0 {pos : Pos} {id : String} {first : List Value} {Q : Value → Shared → Prop}
    (h : wpAny M A (call (.builtin id) first) Q E s) : wpAny M A (callWith pos (.builtin id) first (backTo pos (starEach [] env)) (backToKw pos (keywordEach [] env))) Q E s :=
  Calls.callWith_builtin rfl (PySem.evalArgs_none (by rw [List.append_nil]; exact h))
theorem callWith_bi {pos : Pos} {id : String} {first : List Value} {e : Expr} {rest : List Expr} {Q : Value → Shared → Prop}
    (h : wpAny M A (spliced (backTo pos (starEach (e :: rest) env))) (fun vs s₁ => wpAny M A (call (.builtin id) (first ++ vs)) Q E s₁) E s)
    (he : starEach (e :: rest) env = (false, eval e env) :: starEach rest env)
    (hplain : (backTo pos (starEach rest env)).any (·.1) = false) :
    wpAny M A (callWith pos (.builtin id) first (backTo pos (starEach (e :: rest) env)) (backToKw pos (keywordEach [] env))) Q E s := by
  rw [he] at h ⊢
  exact Calls.callWith_builtin (by show (false || (backTo pos (starEach rest env)).any (·.1)) = false; rw [hplain]; rfl) (Calls.evalArgs_plain h)
end

section
variable {W : Wd} {G : Gens} {env : Env} {loc loc' : Loc} {nw nw' : Ledger} {s : Shared} {A : Around} {E : Value → Shared → Prop}
theorem Sta.getM_list {name : Str} {a : Addr} {xs : List Value} {Q : Value × List Value → Shared → Prop} {id : String} (S : Sta W G env loc nw s) (m : (a, IsLst xs) ∈ nw) (slot : Slot "list" name id) (hty : typeOf (.builtin id) = pure (.type "method_descriptor")) (h : Q (.builtin id, [.ref a]) s) :
    GetM (model W.prog W.w) A E name (.ref a) Q s := by
  obtain ⟨n, hl⟩ := S.isL m
  exact getM_builtin F.plainAttrs_list slot hty ⟨_, hl, rfl⟩ (fun b e => by cases e; exact ⟨_, hl, rfl⟩) h
theorem IsL_set {h : Heap} {a : Addr} {xs ys : List Value} {n : Nat} (hl : IsL h a xs.toArray n) (f : Array Value → Array Value) (e : f xs.toArray = ys.toArray) : ∃ o, (h.update a (Obj.mapSeq f)).get? a = some o ∧ IsLst ys o := by
  refine ⟨_, IsL.update hl f, ?_⟩
  rw [e]; exact ⟨_, rfl⟩
theorem Sta.setL {a : Addr} {xs ys : List Value} {n : Nat} (S : Sta W G env loc nw s) (hl : IsL s.heap a xs.toArray n) (f : Array Value → Array Value) (e : f xs.toArray = ys.toArray) (U : Upd a (IsLst xs) (IsLst ys) nw nw') (t : Nat) :
    Sta W G env loc nw' { s with heap := s.heap.update a (Obj.mapSeq f), toks := t } := by
  obtain ⟨o, ho, hc⟩ := IsL_set hl f e
  exact S.set U (fun b o hb e => ((Heap.SameBut.update s.heap a _).2 b hb).trans e) ho hc t
theorem Sta.append {a : Addr} {xs : List Value} {v : Value} {Q : Value → Shared → Prop} (S : Sta W G env loc nw s) (U : Upd a (IsLst xs) (IsLst (xs ++ [v])) nw nw') (hz : xs.length ≤ sizeLine) (h : ∀ s', Sta W G env loc nw' s' → Q .none s') :
    wpAny (model W.prog W.w) A (call (.builtin "list.append") [.ref a, v]) Q E s := by
  obtain ⟨n, hl⟩ := S.isL U.mem
  exact call_meets F.slot_list_append ⟨_, hl, rfl⟩ F.entry_list_append (F.args_list_append_2 _ _) (list_append a xs.toArray n v (by simpa using hz)) ⟨hl, h _ (S.setL hl _ (by simp) U _)⟩
theorem Sta.pop {a : Addr} {xs : List Value} {v : Value} {Q : Value → Shared → Prop} (S : Sta W G env loc nw s) (U : Upd a (IsLst (xs ++ [v])) (IsLst xs) nw nw') (hz : xs.length < sizeLine) (h : ∀ s', Sta W G env loc nw' s' → Q v s') :
    wpAny (model W.prog W.w) A (call (.builtin "list.pop") [.ref a]) Q E s := by
  obtain ⟨n, hl⟩ := S.isL U.mem
  refine call_meets F.slot_list_pop ⟨_, hl, rfl⟩ F.entry_list_pop (F.args_list_pop_1 _) (MeetsSeq.list_pop_last a (xs ++ [v]).toArray n v (by simp) (by simp; omega)) ⟨hl, h _ (S.setL hl _ ?_ U _)⟩
  simp [Array.eraseIdxIfInBounds, List.eraseIdx_append_of_length_le]
theorem Sta.len {a : Addr} {xs : List Value} {Q : Value → Shared → Prop} (S : Sta W G env loc nw s) (m : (a, IsLst xs) ∈ nw) (hz : xs.length ≤ sizeLine) (h : ∀ t s', Sta W G env loc nw s' → Q (.int xs.length t) s') :
    wpAny (model W.prog W.w) A (call (.builtin "len") [.ref a]) Q E s := by
  have q := h (s.toks + 1) _ (S.toks (s.toks + 1 + 1))
  refine len_list (S.isList m) ?_ ?_
  · rw [sizeLine_eq] at hz; simp; omega
  · simpa using q
theorem Sta.newList {vs : List Value} {Q : Value → Shared → Prop} {M : Model} (S : Sta W G env loc nw s) (hz : vs.length ≤ sizeLine) (h : ∀ a s', Sta W G env loc ((a, IsLst vs) :: nw) s' → Q (.ref a) s') : wpAny M A (newList vs) Q E s :=
  wpAny_newObj_type (h _ _ (S.new (c := IsLst vs) rfl ⟨0, rfl⟩ s.toks)) (by show vs.toArray.size ≤ sizeLine; rw [List.size_toArray]; exact hz)
theorem Sta.newTuple {vs : List Value} {Q : Value → Shared → Prop} {M : Model} (S : Sta W G env loc nw s) (hz : vs.length ≤ sizeLine) (h : ∀ a s', Sta W G env loc ((a, IsTpl vs) :: nw) s' → Q (.ref a) s') : wpAny M A (newTuple vs) Q E s :=
  wpAny_newObj_type (h _ _ (S.new (c := IsTpl vs) rfl ⟨0, rfl⟩ s.toks)) (by show vs.toArray.size ≤ sizeLine; rw [List.size_toArray]; exact hz)
end
end Mine
end
section
open PySem PySem.W PyProof.Rows
set_option maxRecDepth 100000
namespace Mine
noncomputable def cnt (vals : Loc) : Nat := (vals.filter fun p => p.2.isSome).length
/-- a dict of str keys: an instance's own -/
noncomputable def IsAttrs (vals : Loc) : Cell := fun o => (vals.map Prod.fst).Nodup ∧ o.cls = .type "dict" ∧ ∃ es ep, o.data = .dict es ep ∧ StrKeys es ∧ (∀ name, nsFind es name = lk vals name) ∧ es.size = cnt vals
noncomputable def IsInst (C d : Addr) : Cell := fun o => o = instObj C d

theorem lookIn_of {name : Str} {o : Obj} {es ep} {r : Option Value} (hd : o.data = .dict es ep) (hk : StrKeys es) (hf : nsFind es name = r) : lookIn name o = some r := by
  unfold lookIn
  rw [hd]
  dsimp only
  unfold nsFind findBy at hf
  rw [← Array.find?_toList] at hf
  cases q : es.toList.find? (fun e => e.key.isStr name) with
  | some e => rw [q] at hf; rw [← hf]; rfl
  | none =>
    rw [q] at hf
    rw [← hf]
    have : es.toList.any (·.refKey) = false := by
      rw [List.any_eq_false]
      intro e he
      obtain ⟨n, t, h⟩ := hk e (Array.mem_toList_iff.mp he)
      simp [DictEntry.refKey, h]
    simp [this]

/-- what is asked of a class of the text -/
structure Cl (K : Frag) (C : Addr) (names : List Str) : Prop where
  ga : findIn K (.ref C) "__getattribute__" = some (some (.builtin "object.__getattribute__"))
  gh : findIn K (.ref C) "__getattr__" = some none
  sa : findIn K (.ref C) "__setattr__" = some (some (.builtin "object.__setattr__"))
  plain : plainOver K C = true
  dict : hasDictIn K C = true
  own : ∀ n ∈ names, findIn K (.ref C) n = some none

section
variable {W : Wd} {G : Gens} {env : Env} {loc loc' : Loc} {nw nw' : Ledger} {s : Shared} {A : Around} {E : Value → Shared → Prop} {C x d : Addr} {names : List Str} {vals vals' : Loc}
theorem Sta.inst (S : Sta W G env loc nw s) (mx : (x, IsInst C d) ∈ nw) (md : (d, IsAttrs vals) ∈ nw) : ∃ od, InstAt s.heap x (instObj C d) C (some od) ∧ IsAttrs vals od := by
  obtain ⟨o, ho, rfl⟩ := S.get mx
  obtain ⟨od, hod, hc⟩ := S.get md
  exact ⟨od, ⟨ho, rfl, rfl, hod⟩, hc⟩
theorem Sta.getattr {name : Str} {v : Value} {expr : Bool} {Q : Value → Shared → Prop} (S : Sta W G env loc nw s) (c : Cl W.K C names) (mx : (x, IsInst C d) ∈ nw) (md : (d, IsAttrs vals) ∈ nw) (hk : vals.map Prod.fst = names) (hv : (name, some v) ∈ vals) (hh : handedIn v = true)
    (h : ∀ s', Sta W G env loc nw s' → Q v s') : wpAny (model W.prog W.w) A (getAttr (.ref x) name expr) Q E s := by
  obtain ⟨od, I, nd, _, es, ep, hd, hsk, hf, _⟩ := S.inst mx md
  have hn : findIn W.K (.ref C) name = some none := c.own _ (by rw [← hk]; exact List.mem_map.mpr ⟨_, hv, rfl⟩)
  exact get_value S.kin I c.ga (findObj_own c.dict hn rfl (lookIn_of hd hsk ((hf name).trans (lk_of_mem nd hv)))) hh (h _ (S.toks _))
theorem Sta.getM_inst {name : Str} {f : Addr} {Q : Value × List Value → Shared → Prop} (S : Sta W G env loc nw s) (c : Cl W.K C names) (mx : (x, IsInst C d) ∈ nw) (md : (d, IsAttrs vals) ∈ nw) (hk : vals.map Prod.fst = names) (hn : name ∉ names)
    (hf : findIn W.K (.ref C) name = some (some (.ref f))) (ht : typeIn W.K (.ref f) = some (.type "function")) (h : Q (.ref f, [.ref x]) s) : GetM (model W.prog W.w) A E name (.ref x) Q s := fun pl => by
  obtain ⟨od, I, nd, _, es, ep, hd, hsk, hl, _⟩ := S.inst mx md
  have hno : lk vals name = none := by
    unfold lk
    rw [List.lookup_eq_none_iff.mpr]
    · rfl
    · intro p hp
      rw [bne_iff_ne]
      exact fun e => hn (by rw [← hk, e]; exact List.mem_map.mpr ⟨p, hp, rfl⟩)
  exact method_fn S.kin I c.ga c.gh hf ht (by show (lookIn name od).map _ = _; rw [lookIn_of hd hsk ((hl name).trans hno)]; rfl) h
theorem Put.cnt {y : Str} {v : Value} {l l' : Loc} (h : Put y (some v) l l') : (l.map Prod.fst).Nodup → cnt l' = if (lk l y).isSome then cnt l else cnt l + 1 := by
  induction h with
  | @head u r =>
    intro _
    unfold Mine.cnt lk
    rw [List.lookup_cons]
    cases u <;> simp
  | @tail p r r' h ih =>
    intro nd
    rw [List.map_cons, List.nodup_cons] at nd
    have ih := ih nd.2
    have hne : y ≠ p.1 := fun e => nd.1 (e ▸ h.mem)
    have e1 : lk (p :: r) y = lk r y := by unfold lk; rw [List.lookup_cons, beq_eq_false_iff_ne.mpr hne]
    rw [e1]
    unfold Mine.cnt at ih ⊢
    cases q : p.2.isSome <;> simp only [List.filter_cons, q, if_true, Bool.false_eq_true, if_false, List.length_cons] <;> rw [ih] <;> split <;> rfl
theorem putName_attrs {name : Str} {hsh : Int} {t : Tok} {v : Value} {o : Obj} (h : IsAttrs vals o) (P : Put name (some v) vals vals') :
    IsAttrs vals' (Obj.putName name hsh (.str name t) v o) ∧ (Obj.putName name hsh (.str name t) v o).isFreed = false ∧ ∃ es ep, (Obj.putName name hsh (.str name t) v o).data = .dict es ep ∧ es.size ≤ vals.length := by
  obtain ⟨nd, hcl, es, ep, hd, hk, hf, hz⟩ := h
  obtain ⟨c, di, dt, sl⟩ := o
  dsimp only at hd hcl
  subst hd hcl
  have cz : cnt vals' ≤ vals.length := by
    have : vals'.length = vals.length := by have := congrArg List.length P.keys; simpa using this
    rw [← this]; exact List.length_filter_le _ _
  have hc := P.cnt nd
  rw [Obj.putName_eq]
  unfold Obj.putNameByArray
  dsimp only
  cases hi : es.findIdx? (·.key.isStr name) with
  | some i =>
    have hs : (lk vals name).isSome = true := by
      rw [← hf]; unfold nsFind; rw [findBy_of_findIdx?, hi]
      have := Array.findIdx?_eq_some_iff_getElem.mp hi
      obtain ⟨hlt, _⟩ := this
      simp [hlt]
    rw [if_pos hs] at hc
    refine ⟨⟨by rw [P.keys]; exact nd, rfl, _, _, rfl, hk.modify _ _, fun y => ?_, by simp [hz, hc]⟩, rfl, _, _, rfl, by simp [hz, ← hc]; exact cz⟩
    rw [P.look nd, ← hf]; exact findBy_modify (fun n v => v.isStr n) Value.isStr_inj es name y v i hi
  | none =>
    have hs : (lk vals name).isSome = false := by
      rw [← hf]; unfold nsFind; rw [findBy_of_findIdx?, hi]; rfl
    rw [if_neg (by rw [hs]; decide)] at hc
    refine ⟨⟨by rw [P.keys]; exact nd, rfl, _, _, rfl, hk.push _ _ _ _, fun y => ?_, by simp [hz, hc]⟩, rfl, _, _, rfl, by simp [hz, ← hc]; exact cz⟩
    rw [P.look nd, ← hf]
    exact findBy_push (fun n v => v.isStr n) es name y _ _ v (fun y => by
      show (name == y) = decide (y = name)
      by_cases h : y = name
      · subst h; simp
      · have : ¬ name = y := fun e => h e.symm
        simp [h, this]) hi
theorem Sta.setattr {name : Str} {v : Value} {Q : Unit → Shared → Prop} (S : Sta W G env loc nw s) (c : Cl W.K C names) (mx : (x, IsInst C d) ∈ nw) (U : Upd d (IsAttrs vals) (IsAttrs vals') nw nw') (hk : vals.map Prod.fst = names) (P : Put name (some v) vals vals') (hz : names.length ≤ 1000)
    (h : ∀ s', Sta W G env loc nw' s' → Q () s') : wpAny (model W.prog W.w) A (setAttr (.ref x) name v) Q E s := by
  obtain ⟨od, I, ha⟩ := S.inst mx U.mem
  have hn : findIn W.K (.ref C) name = some none := c.own _ (by rw [← hk]; exact P.mem)
  have ht : takerIn W.K C name = some none := by unfold takerIn; rw [hn]; rfl
  refine set_plain S.kin I c.sa ?_
  have S1 := S.toks (s.toks + 1)
  refine osa_open (s := { s with toks := s.toks + 1 }) S1.kin I c.plain ht fun b => ?_
  obtain ⟨cd, hc, hd'⟩ := any_some c.dict
  obtain ⟨hx, -, -, hdx⟩ := I
  have hdx' : s.heap.get? d = some od := hdx
  obtain ⟨A1, A2, es', ep', A3, A4⟩ := putName_attrs (hsh := PyData.keyHash W.w.params name) (t := s.toks + 1) ha P
  obtain ⟨nd, hcl, es, ep, hd, hsk, hf, hsz⟩ := ha
  refine wpAny_bind (wpAny_pure (wpAny_bind (wpAny_bind (wpAny_loadPart hx (wpAny_bind ((looks_clsIn S1.kin hc).here ?_))))))
  rw [hd']
  refine wpAny_pure (a := some d) (wpAny_bind (wpAny_pure (wpAny_bind ?_)))
  unfold nsSet
  refine wpAny_bind (wpAny_bind (wpAny_askSetting (wpAny_pure (wpAny_bind (wpAny_mkText (wpAny_bind (wpAny_loadPart hdx' ?_)))))))
  rw [hd]
  dsimp only
  have hany : es.any (·.refKey) = false := by
    rw [Array.any_eq_false']; intro e he; obtain ⟨n, t, h⟩ := hsk e he; simp [DictEntry.refKey, h]
  rw [aRefKeyMayBeTheName_at, hany, Bool.and_false]
  refine wpAny_updatePart hdx' ?_
  have D' := Heap.get?_update_self (Obj.putName name (PyData.keyHash W.w.params name) (.str name (s.toks + 1)) v) hdx' A2
  refine wpAny_bind (wpAny_lookBehind D' (by rw [A3]; exact pastItsLine_dict (by rw [sizeLine_eq]; have : vals.length = names.length := by rw [← hk]; simp
                                                                                 omega)) ?_)
  exact wpAny_pure (h _ (S.set U (fun b o hb e => ((Heap.SameBut.update s.heap d _).2 b hb).trans e) D' A1 _))
end
end Mine
end
section
open PySem PySem.W PyProof.Rows PySem.W.X
set_option maxRecDepth 100000
namespace Mine
section
variable {prog : Program} {w : World} {A : Around} {c : Code} {fs : List Frame} {P : End → Shared → Prop} {s : Shared}
theorem sx_wrap {α : Type} {m : Sem α} {K : α → Sem Fin} {H : Value → Sem Fin} {gd lv} (h : wpAny (model prog w) (A.over c fs) m (fun a s' => SegX (model prog w) A c (K a) fs s' P) (fun x s' => SegX (model prog w) A c (H x) fs s' P) s) :
    SegX (model prog w) A c (m.wrap K H gd lv) fs s P := by
  rintro Γ p rfl hΓ
  obtain ⟨e, s', hr, hq⟩ := runs_wrap_of_wp (Φ := fun e s' => e.quiet = true ∧ P e s') K H gd lv m (h (Γ.over fs) p (hΓ.over fs)) (fun a p' s' h' => h' Γ p' rfl hΓ) (fun x p' s' h' => h' Γ p' rfl hΓ)
  exact ⟨e, s', hr, hq⟩
theorem wrap_bind {α β : Type} (m : Sem α) (f : α → Sem β) {K : β → Sem Fin} {H : Value → Sem Fin} {gd lv} : (m >>= f).wrap K H gd lv = m.wrap (fun a => (f a).wrap K H gd lv) H gd lv := by
  rw [Sem.bind_eq_wrap', Sem.wrap_wrap]; rfl
theorem wrap_onRaise {α : Type} (m : Sem α) (h : Value → Sem Unit) {K : α → Sem Fin} {H : Value → Sem Fin} {gd lv} : (m.onRaise h).wrap K H gd lv = m.wrap K (fun e => ((h e).bind fun _ => (.raise e : Sem α)).wrap K H gd lv) gd lv := by
  rw [Sem.onRaise_eq_wrap, Sem.wrap_wrap]; rfl
theorem sx_bind {α β : Type} {m : Sem α} {f : α → Sem β} {K : β → Sem Fin} {H : Value → Sem Fin} {gd lv} (h : SegX (model prog w) A c (m.wrap (fun a => (f a).wrap K H gd lv) H gd lv) fs s P) : SegX (model prog w) A c ((m >>= f).wrap K H gd lv) fs s P := by
  rw [wrap_bind]; exact h
theorem sx_then {α β : Type} {m : Sem α} {f : α → Sem β} {K : β → Sem Fin} {H : Value → Sem Fin} {gd lv} (h : wpAny (model prog w) (A.over c fs) m (fun a s' => SegX (model prog w) A c ((f a).wrap K H gd lv) fs s' P) (fun x s' => SegX (model prog w) A c (H x) fs s' P) s) : SegX (model prog w) A c ((m >>= f).wrap K H gd lv) fs s P :=
  sx_bind (sx_wrap h)
theorem sx_onRaise {α : Type} {m : Sem α} {h : Value → Sem Unit} {K : α → Sem Fin} {H : Value → Sem Fin} {gd lv} (x : SegX (model prog w) A c (m.wrap K (fun e => ((h e).bind fun _ => (.raise e : Sem α)).wrap K H gd lv) gd lv) fs s P) : SegX (model prog w) A c ((m.onRaise h).wrap K H gd lv) fs s P := by
  rw [wrap_onRaise]; exact x
theorem sx_top {t : Sem Fin} (h : SegX (model prog w) A c (t.wrap .pure .raise id id) fs s P) : SegX (model prog w) A c t fs s P := by
  have : ∀ t : Sem Fin, t.wrap .pure .raise id id = t := fun t => by induction t <;> simp only [Sem.wrap, id, *]
  rw [this] at h; exact h
theorem sx_topOn {t : Sem Fin} {h : Value → Sem Unit} (x : SegX (model prog w) A c (t.wrap .pure (fun e => (h e).bind fun _ => .raise e) id id) fs s P) : SegX (model prog w) A c (t.onRaise h) fs s P := by
  rw [Sem.onRaise_eq_wrap]; exact x
theorem den_builtin {id : String} {args : Args} {b : Builtin} (h : entryFor table id = some b) : denote table (.builtin id args) = b args := by simp only [denote, h]
end
theorem entry_yf : entryFor table "proto.yield_from" = some Builtin.«proto.yield_from» := entryFor_of_tree (by kernel_rfl)
theorem li_no_close : typeLookup (.type "list_iterator") "close" = pure none := by rw [typeLookup_type, builtinLookup_eq_fast]; kernel_rfl
noncomputable abbrev yfCode (it : Addr) : Code := .builtin "proto.yield_from" ⟨[.ref it, .bool false, .none], []⟩
section
variable {prog : Program} {w : World} {A : Around} {fs : List Frame} {P : End → Shared → Prop} {s : Shared}
theorem yf_item {it l : Addr} {i : Nat} {xs : Array Value} {v : Value} (hit : s.heap.IsListIter it l i) (hl : s.heap.IsList l xs) (hx : xs[i]? = some v) (hfs : splitAtGen fs = none) (hfg : fs.any Frame.guarded = false)
    (h : ∀ k lv p h', h'.IsListIter it l (i + 1) → Heap.SameBut it s.heap h' →
      (∀ A' fs' s' P', s'.TypeIs (.ref it) "list_iterator" → SegX (model prog w) A' (yfCode it) (denote table (yfCode it)) fs' s' P' → SegX (model prog w) A' (yfCode it) (k (.send .none)) fs' s' P') →
      P (.susp v false lv k (yfCode it) p fs) { s with heap := h' }) :
    SegX (model prog w) A (yfCode it) (denote table (yfCode it)) fs s P := by
  rw [den_builtin entry_yf]
  unfold Builtin.«proto.yield_from»
  refine sx_top ?_
  refine sx_then (wpAny_pure ?_)
  obtain ⟨o, ho, hc, hd⟩ := id hit
  obtain ⟨ol, hol, _, nl, hdl⟩ := hl
  refine sx_then (wpAny_attempt (wpAny_holding ?_))
  simp only [Bool.false_eq_true, if_false, beq_self_eq_true, if_true]
  refine wpAny_bind (wpAny_rule (wpAny_bind (wpAny_callSpecial?_slot (name := Str.ofString "__next__") hit.typeIs slot_listiter_next
    (wpAny_call_entry slot_listiter_next hit.typeIs entry_listiter_next ?_ (args_listiter_next _)))))
  show wpAny _ _ (field (.ref it) 0 >>= _) _ _ s
  refine wpAny_bind (wpAny_field ho hd (x := .ref l) rfl ?_)
  show wpAny _ _ (if (Value.ref l == Value.none) = true then _ else _) _ _ s
  rw [if_neg (show ¬ ((Value.ref l == Value.none) = true) from Bool.false_ne_true)]
  show wpAny _ _ (field (.ref it) 1 >>= _) _ _ s
  refine wpAny_bind (wpAny_field ho hd (x := .int i 0) rfl ?_)
  show wpAny _ _ (seqItems? (.ref l) >>= _) _ _ s
  refine wpAny_bind (wpAny_seqItems hol hdl ?_)
  simp only [Int.toNat_natCast, hx]
  refine wpAny_bind (wpAny_setField ho hd (by simp) (wpAny_pure ⟨v, rfl, wpAny_pure ?_⟩))
  have hs' := Heap.SameBut.update s.heap it (Obj.mapFields fun vs => vs.setIfInBounds 1 (rawInt ((i : Int) + 1)))
  have hit' : (s.heap.update it (Obj.mapFields fun vs => vs.setIfInBounds 1 (rawInt ((i : Int) + 1)))).IsListIter it l (i + 1) :=
    ⟨_, Heap.get?_update_self _ ho (Obj.isFreed_of_fields (Obj.data_mapFields hd _)), (Obj.cls_mapFields ..).trans hc, by rw [Obj.data_mapFields hd]; simp [rawInt]⟩
  generalize (s.heap.update it (Obj.mapFields fun vs => vs.setIfInBounds 1 (rawInt ((i : Int) + 1)))) = h' at hs' hit' ⊢
  have hT' : ({ s with heap := h' } : Shared).TypeIs (.ref it) "list_iterator" := hit'.typeIs (s := { s with heap := h' })
  obtain ⟨o', ho', hc', hd'⟩ := id hit'
  refine sx_then (wpAny_typeOf hT' ?_)
  refine sx_then (wpAny_of_eq li_no_close ?_)
  refine sx_then (wpAny_pure ?_)
  have slept : ∀ b (s' : Shared), s'.TypeIs (.ref it) "list_iterator" → ∀ (A' : Around) (Q : Unit → Shared → Prop) (E : Value → Shared → Prop), Q () s' → wpAny (model prog w) A' (Builtin.Generator.sleptOver (.ref it) b) Q E s' := fun b s' hT A' Q E hq => by
    obtain ⟨o₁, ho₁, hc₁⟩ := hT
    unfold Builtin.Generator.sleptOver
    refine wpAny_bind (wpAny_load ho₁ ?_)
    rw [hc₁]
    exact wpAny_pure hq
  refine sx_then (slept _ _ hT' _ _ _ ?_)
  refine s_yield _ _ _ _ _ _ _ _ _ _ hfs hfg fun p => ?_
  refine h _ _ p h' hit' hs' fun A' fs' s' P' hT hseg => ?_
  refine sx_then (wpAny_pure ?_)
  refine sx_then (slept _ _ hT _ _ _ ?_)
  refine sx_then (wpAny_of_eq (a := Value.none) rfl ?_)
  exact s_again _ _ _ _ _ _ _ _ (Code.quiet_builtin _ (by decide +kernel)) hseg
theorem yf_end {it l : Addr} {i : Nat} {xs : Array Value} (hA : (A.over (yfCode it) fs).handled = none) (hit : s.heap.IsListIter it l i) (hl : s.heap.IsList l xs) (hx : xs[i]? = none)
    (h : ∀ h', Heap.ExtBut it s.heap h' → SegX (model prog w) A (yfCode it) (leafOf (.ok (.ret .none))) fs { s with heap := h' } P) :
    SegX (model prog w) A (yfCode it) (denote table (yfCode it)) fs s P := by
  rw [den_builtin entry_yf]
  unfold Builtin.«proto.yield_from»
  refine sx_top ?_
  refine sx_then (wpAny_pure ?_)
  obtain ⟨o, ho, hc, hd⟩ := id hit
  obtain ⟨ol, hol, _, nl, hdl⟩ := hl
  refine sx_then (wpAny_attempt (wpAny_holding ?_))
  simp only [Bool.false_eq_true, if_false, beq_self_eq_true, if_true]
  refine wpAny_bind (wpAny_rule (wpAny_bind (wpAny_callSpecial?_slot (name := Str.ofString "__next__") hit.typeIs slot_listiter_next
    (wpAny_call_entry slot_listiter_next hit.typeIs entry_listiter_next ?_ (args_listiter_next _)))))
  show wpAny _ _ (field (.ref it) 0 >>= _) _ _ s
  refine wpAny_bind (wpAny_field ho hd (x := .ref l) rfl ?_)
  show wpAny _ _ (if (Value.ref l == Value.none) = true then _ else _) _ _ s
  rw [if_neg (show ¬ ((Value.ref l == Value.none) = true) from Bool.false_ne_true)]
  show wpAny _ _ (field (.ref it) 1 >>= _) _ _ s
  refine wpAny_bind (wpAny_field ho hd (x := .int i 0) rfl ?_)
  show wpAny _ _ (seqItems? (.ref l) >>= _) _ _ s
  refine wpAny_bind (wpAny_seqItems hol hdl ?_)
  simp only [Int.toNat_natCast, hx]
  refine wpAny_bind (wpAny_rule (wpAny_bind (wpAny_setField ho hd (by simp) ?_)))
  show wpAny _ _ (newExc (.type "StopIteration") [] >>= _) _ _ _
  refine wpAny_bind ?_
  simp only [newExc, newTuple]
  refine wpAny_bind (wpAny_newObj_type ?_ (by size_fits))
  refine wpAny_bind (m := firstArgMember _ _) (wpAny_of_eq (a := Value.none) (by first | rfl | (simp only [firstArgMember]; rfl)) ?_)
  refine wpAny_newObj_type ?_ (by size_fits)
  simp only [raiseNew]
  refine wpAny_bind (wpAny_handled ?_)
  rw [show (A.over (yfCode it) fs).in1.handled = none from hA]
  refine wpAny_bind (wpAny_pure (wpAny_throw ?_))
  have hs' := (((Heap.SameBut.update s.heap it (Obj.mapFields fun vs => vs.setIfInBounds 0 Value.none)).extBut.push { cls := .type "tuple", data := .seq #[] }).push
    { cls := .type "StopIteration", data := .fields (#[.ref (s.heap.update it (Obj.mapFields fun vs => vs.setIfInBounds 0 Value.none)).objs.size, .none, .none, .none, .bool false, .none] ++ ownMembersOf (.type "StopIteration") []) })
  have he := Heap.get?_push_size ((s.heap.update it (Obj.mapFields fun vs => vs.setIfInBounds 0 Value.none)).push { cls := .type "tuple", data := .seq #[] })
    (o := { cls := .type "StopIteration", data := .fields (#[.ref (s.heap.update it (Obj.mapFields fun vs => vs.setIfInBounds 0 Value.none)).objs.size, .none, .none, .none, .bool false, .none] ++ ownMembersOf (.type "StopIteration") []) }) rfl
  generalize (((s.heap.update it (Obj.mapFields fun vs => vs.setIfInBounds 0 Value.none)).push { cls := .type "tuple", data := .seq #[] }).push
    { cls := .type "StopIteration", data := .fields (#[.ref (s.heap.update it (Obj.mapFields fun vs => vs.setIfInBounds 0 Value.none)).objs.size, .none, .none, .none, .bool false, .none] ++ ownMembersOf (.type "StopIteration") []) }) = h' at hs' he ⊢
  generalize ((s.heap.update it (Obj.mapFields fun vs => vs.setIfInBounds 0 Value.none)).push { cls := .type "tuple", data := .seq #[] }).objs.size = e at he ⊢
  have hT : ({ s with heap := h' } : Shared).TypeIs (.ref e) "StopIteration" := ⟨_, he, rfl⟩
  refine sx_then ?_
  unfold Builtin.Generator.endsTheTurnAsAValue Builtin.Generator.isStopAndMetaclass
  refine wpAny_bind (wpAny_bind (wpAny_typeOf hT (wpAny_bind (wpAny_of_eq isSubtype_stop (wpAny_bind (wpAny_of_eq (a := .type "type") (by kernel_rfl) (wpAny_pure (wpAny_pure ?_))))))))
  refine sx_then (wpAny_rule (sx_then (wpAny_field he rfl (x := .none) (by kernel_rfl) ?_)))
  exact h _ hs'
end
end Mine
end
section
open PySem PySem.W PyProof.Rows PySem.W.X
set_option maxRecDepth 100000
namespace Mine
structure Aok (k : Nat) (A : Around) : Prop where
  handled : A.handled = none
  depth : A.depth + k < recursionLimit
  units : A.units + 8 * k < cLine
theorem Aok.le {k j : Nat} {A : Around} (h : Aok k A) (e : j ≤ k) : Aok j A := ⟨h.handled, by have := h.depth; omega, by have := h.units; omega⟩
theorem Aok.in1 {k : Nat} {A : Around} (h : Aok (k + 1) A) : Aok k A.in1 := ⟨h.handled, by have := h.depth; show A.depth + k < _; omega, by have := h.units; show A.units + 1 + 8 * k < _; omega⟩
theorem Aok.deeper {k : Nat} {A : Around} {env : Env} (h : Aok (k + 1) A) : Aok k (A.deeper env) := ⟨h.handled, by have := h.depth; show A.depth + 1 + k < _; omega, by have := h.units; show A.units + 3 + 8 * k < _; omega⟩
theorem Aok.room {k : Nat} {A : Around} (h : Aok k A) : A.depth < recursionLimit := by have := h.depth; omega

/-- a state without a frame -/
structure St0 (W : Wd) (G : Gens) (nw : Ledger) (s : Shared) : Prop where
  ok : W.Ok
  led : Led W.B nw s.heap
  bare : AllBare s.gens
  os : s.os = W.os
  gens : ∀ p ∈ G, s.gens[p.1]? = some p.2
  gnd : (G.map Prod.fst).Nodup

noncomputable def Wake (W : Wd) (A : Around) (gs : GenState) (s : Shared) (P : End → Shared → Prop) : Prop := match gs with
  | .fresh c => SegX (model W.prog W.w) A c (denote table c) [] s P
  | .suspended k _ c _ fs _ => SegX (model W.prog W.w) A c (k (.send .none)) fs s P
  | _ => False

/-- a generator that will hand out vs, then end; own: its private things, sh: what it reads -/
noncomputable def GoodGen (W : Wd) (sh : Ledger) : List Value → GenState → Ledger → Prop
  | [], gs, own => ∀ A R GR s, Aok 6 A → St0 W GR (R ++ (sh ++ own)) s → Wake W A gs s (fun e s' => e = .ret (.ok (.ret .none)) ∧ St0 W GR (R ++ sh) s')
  | v :: vs, gs, own => ∀ A R GR s, Aok 6 A → St0 W GR (R ++ (sh ++ own)) s → Wake W A gs s (fun e s' => ∃ own', e.result = .yielded v ∧ St0 W GR (R ++ (sh ++ own')) s' ∧ GoodGen W sh vs e.genState own')

noncomputable def plainIt (o : Obj) : Bool := match o.cls with
  | .type n => !(["enumerate", "zip", "dict_itemiterator", "dict_reverseitemiterator", "odict_iterator", "itertools.zip_longest", "itertools.pairwise"].contains n)
  | _ => true
noncomputable def Typ (sh : Ledger) (it : Addr) (own : Ledger) : Prop := ∃ c, (it, c) ∈ sh ++ own ∧ ∀ o, c o → plainIt o = true
/-- an iterator that will hand out vs, then end -/
noncomputable def Yields (W : Wd) (sh : Ledger) (it : Addr) : List Value → Ledger → Gens → Prop
  | [], own, og => Typ sh it own ∧ (∀ A R GR s (Q : Option Value → Shared → Prop) E, Aok 7 A → St0 W (GR ++ og) (R ++ (sh ++ own)) s → (∀ s', St0 W GR (R ++ sh) s' → Q none s') → wpAny (model W.prog W.w) A (pyNext (.ref it)) Q E s)
  | v :: vs, own, og => Typ sh it own ∧ (∀ A R GR s (Q : Option Value → Shared → Prop) E, Aok 7 A → St0 W (GR ++ og) (R ++ (sh ++ own)) s → (∀ own' og' s', St0 W (GR ++ og') (R ++ (sh ++ own')) s' → Yields W sh it vs own' og' → Q (some v) s') →
      wpAny (model W.prog W.w) A (pyNext (.ref it)) Q E s)

noncomputable def IsGenO (g : Nat) : Cell := fun o => ∃ nm qn, o = { cls := .type "generator", data := .fields #[.int g 0, nm, qn] }
noncomputable def IsLI (l : Addr) (i : Nat) : Cell := fun o => o.cls = .type "list_iterator" ∧ o.data = .fields #[.ref l, .int i 0]
noncomputable def IsRI (l : Addr) (i : Int) : Cell := fun o => o.cls = .type "list_reverseiterator" ∧ o.data = .fields #[.ref l, rawInt i]

theorem SegX.withQuiet {M : Model} {A : Around} {c : Code} {t : Sem Fin} {fs : List Frame} {s : Shared} {P : End → Shared → Prop} (x : SegX M A c t fs s P) : SegX M A c t fs s (fun e s' => e.quiet = true ∧ P e s') := fun Γ p hc hΓ => by
  obtain ⟨e, s', hr, hq, hp⟩ := x Γ p hc hΓ
  exact ⟨e, s', hr, hq, hq, hp⟩
theorem Wake.mono {W : Wd} {A : Around} {gs : GenState} {s : Shared} {P P' : End → Shared → Prop} (x : Wake W A gs s P) (h : ∀ e s', e.quiet = true → P e s' → P' e s') : Wake W A gs s P' := by
  cases gs with
  | fresh c => exact SegX.mono (SegX.withQuiet x) fun e s' q => h e s' q.1 q.2
  | suspended k l c p fs cl => exact SegX.mono (SegX.withQuiet x) fun e s' q => h e s' q.1 q.2
  | running => exact x.elim
  | finished => exact x.elim

section
variable {W : Wd} {A : Around} {E : Value → Shared → Prop} {s : Shared}
theorem wake_resume {g : Nat} {gs : GenState} {l : List Value} {α : Type} {k : GenResult → Sem α} {Q : α → Shared → Prop} (hg : s.gens[g]? = some gs)
    (x : Wake W A gs (s.setGen g .running) (fun e s₁ => wpAny (model W.prog W.w) A (k e.result) Q E (s₁.setGen g e.genState))) :
    wpAny (model W.prog W.w) A (.resume g (.send .none) l k) Q E s := by
  intro Γ p hΓ
  cases gs with
  | fresh c => exact wake_any α W.prog W.w hg (.inl ⟨rfl, rfl, rfl, rfl⟩) (fun Γ => Γ.In A) (fun _ h => h) (SegX.mono x fun e s₁ h Γ p hC => h Γ p hC) Γ p hΓ
  | suspended k₀ l₀ c₀ p₀ fs₀ cl => exact wake_any α W.prog W.w hg (.inr ⟨k₀, l₀, p₀, cl, rfl, rfl⟩) (fun Γ => Γ.In A) (fun _ h => h) (SegX.mono x fun e s₁ h Γ p hC => h Γ p hC) Γ p hΓ
  | running => exact x.elim
  | finished => exact x.elim

theorem next_gen {a : Addr} {g : Nat} {gs : GenState} {Q : Option Value → Shared → Prop} (hA : Aok 7 A) (hl : s.heap.NoLimit) (hg : s.heap.IsGen a g) (hgs : s.gens[g]? = some gs)
    (x : Wake W A.in1 gs (s.setGen g .running) (fun e s₁ => (e = .ret (.ok (.ret .none)) ∧ ∀ h', (∀ b o, s₁.heap.get? b = some o → h'.get? b = some o) → Q none { s₁.setGen g .finished with heap := h' }) ∨ (∃ v, e.result = .yielded v ∧ Q (some v) (s₁.setGen g e.genState)))) :
    wpAny (model W.prog W.w) A (pyNext (.ref a)) Q E s := by
  unfold pyNext
  refine wpAny_bind (wpAny_attempt (wpAny_callSpecial?_slot (name := Str.ofString "__next__") hg.typeIs slot_gen_next
    (wpAny_call_entry slot_gen_next hg.typeIs entry_gen_next ?_ (args_gen_next _))))
  show wpAny _ _ (Builtin.Generator.genWake (.ref a) (.send .none)) _ _ s
  unfold Builtin.Generator.genWake
  refine wpAny_bind (wpAny_holding (wpAny_genNumber hg (wpAny_bind (wpAny_genState hgs ?_))))
  have hd : A.in1.depth < recursionLimit := by have := hA.depth; show A.depth < recursionLimit; omega
  cases gs with
  | running => exact x.elim
  | finished => exact x.elim
  | _ =>
    refine wpAny_bind (wpAny_roomToWake hl hd ?_)
    show wpAny _ _ (.resume g (.send .none) [] _) _ _ s
    refine wake_resume (W := W) hgs (Wake.mono x fun e s₁ hq he => ?_)
    rcases he with ⟨rfl, hQ⟩ | ⟨v, hv, hQ⟩
    · show wpAny _ _ (newExc (.type "StopIteration") [] >>= _) _ _ _
      refine wpAny_bind ?_
      simp only [newExc, newTuple]
      refine wpAny_bind (wpAny_newObj_type ?_ (by size_fits))
      refine wpAny_bind (m := firstArgMember _ _) (wpAny_of_eq (a := Value.none) (by first | rfl | (simp only [firstArgMember]; rfl)) ?_)
      refine wpAny_newObj_type ?_ (by size_fits)
      simp only [raiseNew]
      refine wpAny_bind (wpAny_bind (wpAny_handled ?_))
      rw [show A.in1.handled = none from hA.handled]
      refine wpAny_throw ?_
      refine wpAny_bind (wpAny_isInstance (T := "StopIteration") (b := true) ⟨_, Heap.get?_push_size _ rfl, rfl⟩ isSubtype_stop ?_)
      exact wpAny_pure (hQ _ fun b o hb => Heap.get?_push_of_some _ (Heap.get?_push_of_some _ hb))
    · rw [hv]
      exact wpAny_pure ⟨v, rfl, wpAny_pure hQ⟩

theorem setGen_gens (s : Shared) (g : Nat) (x : GenState) : (s.setGen g x).gens = s.gens.setIfInBounds g x := rfl
theorem bare_set {gens : Array GenState} {g : Nat} {x : GenState} (h : AllBare gens) (hx : x.bare = true) : AllBare (gens.setIfInBounds g x) := fun y hy => by
  rcases Array.mem_or_eq_of_mem_setIfInBounds hy with h1 | h1
  · exact h y h1
  · rw [h1]; exact hx

theorem run_state {GR : Gens} {nw nw' : Ledger} {g : Nat} {gs : GenState} (S : St0 W (GR ++ [(g, gs)]) nw s) (D : Led W.B nw' s.heap) : St0 W (GR ++ [(g, .running)]) nw' (s.setGen g .running) := by
  have hgs : s.gens[g]? = some gs := S.gens (g, gs) (by simp)
  refine ⟨S.ok, D, bare_set S.bare rfl, S.os, fun p hp => ?_, by have := S.gnd; rw [List.map_append] at this ⊢; exact this⟩
  rw [setGen_gens]
  rcases List.mem_append.mp hp with hp | hp
  · have hne : p.1 ≠ g := fun e => by
      have nd := S.gnd
      rw [List.map_append, List.nodup_append] at nd
      exact nd.2.2 p.1 (List.mem_map_of_mem hp) g (by simp) e
    rw [Array.getElem?_setIfInBounds_ne (Ne.symm hne)]
    exact S.gens p (by simp [hp])
  · have : p = (g, .running) := by simpa using hp
    subst this
    have hlt : g < s.gens.size := (Array.getElem?_eq_some_iff.mp hgs).1
    simp [hlt]
theorem put_state {GR : Gens} {nw nw' : Ledger} {g : Nat} {gs gs' : GenState} {h' : Heap} (S : St0 W (GR ++ [(g, gs)]) nw s) (D : Led W.B nw' h') (hb : gs'.bare = true) : St0 W (GR ++ [(g, gs')]) nw' { s.setGen g gs' with heap := h' } := by
  have hgs : s.gens[g]? = some gs := S.gens (g, gs) (by simp)
  refine ⟨S.ok, D, bare_set S.bare hb, S.os, fun p hp => ?_, by have := S.gnd; rw [List.map_append] at this ⊢; exact this⟩
  show (s.gens.setIfInBounds g gs')[p.1]? = _
  rcases List.mem_append.mp hp with hp | hp
  · have hne : p.1 ≠ g := fun e => by
      have nd := S.gnd
      rw [List.map_append, List.nodup_append] at nd
      exact nd.2.2 p.1 (List.mem_map_of_mem hp) g (by simp) e
    rw [Array.getElem?_setIfInBounds_ne (Ne.symm hne)]
    exact S.gens p (by simp [hp])
  · have : p = (g, gs') := by simpa using hp
    subst this
    have hlt : g < s.gens.size := (Array.getElem?_eq_some_iff.mp hgs).1
    simp [hlt]
theorem St0.fewer {G G' : Gens} {nw : Ledger} (S : St0 W (G ++ G') nw s) : St0 W G nw s :=
  ⟨S.ok, S.led, S.bare, S.os, fun p hp => S.gens p (by simp [hp]), by have := S.gnd; rw [List.map_append] at this; exact (List.nodup_append.mp this).1⟩
theorem yields_gen {sh : Ledger} {a : Addr} {g : Nat} : ∀ {vs : List Value} {gs : GenState} {own : Ledger}, GoodGen W sh vs gs own → Yields W sh a vs (own ++ [(a, IsGenO g)]) [(g, gs)]
  | [], gs, own, H => ⟨⟨IsGenO g, by simp, fun o ⟨_, _, e⟩ => by subst e; unfold plainIt; show (!(["enumerate", "zip", "dict_itemiterator", "dict_reverseitemiterator", "odict_iterator", "itertools.zip_longest", "itertools.pairwise"].contains "generator")) = true; decide⟩, fun A R GR s Q E hA S hQ => by
    have D := S.led
    obtain ⟨o, ho, nm, qn, rfl⟩ := D.get (a := a) (c := IsGenO g) (by simp)
    have hgs : s.gens[g]? = some gs := S.gens (g, gs) (by simp)
    have D' : Led W.B ((R ++ [(a, IsGenO g)]) ++ (sh ++ own)) s.heap := D.perm (by
      rw [List.append_assoc]
      refine List.Perm.append_left _ ?_
      rw [← List.append_assoc]
      exact List.perm_append_comm)
    refine next_gen (W := W) hA (S.ok.nolimit.keeps D.keep) ⟨_, nm, qn, ho, rfl, rfl, rfl⟩ hgs (Wake.mono (H A.in1 (R ++ [(a, IsGenO g)]) _ (s.setGen g .running) hA.in1 (run_state S D')) fun e s₁ hq he => ?_)
    obtain ⟨he, S1⟩ := he
    refine .inl ⟨he, fun h' hk => hQ _ ?_⟩
    exact (put_state S1 ((S1.led.grow hk).sub (List.Sublist.append (List.sublist_append_left _ _) (List.Sublist.refl _))) rfl).fewer⟩
  | v :: vs, gs, own, H => ⟨⟨IsGenO g, by simp, fun o ⟨_, _, e⟩ => by subst e; unfold plainIt; show (!(["enumerate", "zip", "dict_itemiterator", "dict_reverseitemiterator", "odict_iterator", "itertools.zip_longest", "itertools.pairwise"].contains "generator")) = true; decide⟩, fun A R GR s Q E hA S hQ => by
    have D := S.led
    obtain ⟨o, ho, nm, qn, rfl⟩ := D.get (a := a) (c := IsGenO g) (by simp)
    have hgs : s.gens[g]? = some gs := S.gens (g, gs) (by simp)
    have D' : Led W.B ((R ++ [(a, IsGenO g)]) ++ (sh ++ own)) s.heap := D.perm (by
      rw [List.append_assoc]
      refine List.Perm.append_left _ ?_
      rw [← List.append_assoc]
      exact List.perm_append_comm)
    refine next_gen (W := W) hA (S.ok.nolimit.keeps D.keep) ⟨_, nm, qn, ho, rfl, rfl, rfl⟩ hgs (Wake.mono (H A.in1 (R ++ [(a, IsGenO g)]) _ (s.setGen g .running) hA.in1 (run_state S D')) fun e s₁ hq he => ?_)
    obtain ⟨own', he, S1, H'⟩ := he
    have D2 : Led W.B (R ++ (sh ++ (own' ++ [(a, IsGenO g)]))) s₁.heap := S1.led.perm (by
      rw [List.append_assoc]
      refine List.Perm.append_left _ ?_
      rw [← List.append_assoc sh]
      exact List.perm_append_comm)
    exact .inr ⟨v, he, hQ (own' ++ [(a, IsGenO g)]) [(g, e.genState)] _ (put_state S1 D2 (End.bare_of_quiet hq)) (yields_gen H')⟩⟩
end
end Mine
end
section
open PySem PySem.W PyProof.Rows PySem.W.X
set_option maxRecDepth 100000
namespace Mine
/-- an iterator that touches no generator -/
noncomputable def LY (W : Wd) (sh : Ledger) (it : Addr) : List Value → Ledger → Prop
  | [], own => Typ sh it own ∧ ∀ A R s (Q : Option Value → Shared → Prop) E, A.handled = none → Led W.B (R ++ (sh ++ own)) s.heap → (∀ h', Led W.B (R ++ sh) h' → Q none { s with heap := h' }) → wpAny (model W.prog W.w) A (pyNext (.ref it)) Q E s
  | v :: vs, own => Typ sh it own ∧ ∀ A R s (Q : Option Value → Shared → Prop) E, A.handled = none → Led W.B (R ++ (sh ++ own)) s.heap → (∀ own' h', Led W.B (R ++ (sh ++ own')) h' → LY W sh it vs own' → Q (some v) { s with heap := h' }) → wpAny (model W.prog W.w) A (pyNext (.ref it)) Q E s

theorem LY.yields {W : Wd} {sh : Ledger} {it : Addr} : ∀ {vs : List Value} {own : Ledger}, LY W sh it vs own → Yields W sh it vs own []
  | [], own, H => ⟨H.1, fun A R GR s Q E hA S hQ => H.2 A R s Q E hA.handled S.led fun h' D => hQ _ ⟨S.ok, D, S.bare, S.os, fun p hp => S.gens p (by simpa using hp), by have := S.gnd; simpa using this⟩⟩
  | v :: vs, own, H => ⟨H.1, fun A R GR s Q E hA S hQ => H.2 A R s Q E hA.handled S.led fun own' h' D H' => hQ own' [] _ ⟨S.ok, D, S.bare, S.os, S.gens, S.gnd⟩ H'.yields⟩

/-- the same with what is handed out known by a relation -/
noncomputable def YieldsR (W : Wd) (sh : Ledger) (it : Addr) {α : Type} (P : α → Value → Prop) : List α → Ledger → Gens → Prop
  | [], own, og => Typ sh it own ∧ (∀ A R GR s (Q : Option Value → Shared → Prop) E, Aok 7 A → St0 W (GR ++ og) (R ++ (sh ++ own)) s → (∀ s', St0 W GR (R ++ sh) s' → Q none s') → wpAny (model W.prog W.w) A (pyNext (.ref it)) Q E s)
  | x :: xs, own, og => Typ sh it own ∧ (∀ A R GR s (Q : Option Value → Shared → Prop) E, Aok 7 A → St0 W (GR ++ og) (R ++ (sh ++ own)) s → (∀ v own' og' s', P x v → St0 W (GR ++ og') (R ++ (sh ++ own')) s' → YieldsR W sh it P xs own' og' → Q (some v) s') →
      wpAny (model W.prog W.w) A (pyNext (.ref it)) Q E s)
theorem Yields.rel {W : Wd} {sh : Ledger} {it : Addr} : ∀ {vs : List Value} {own : Ledger} {og : Gens}, Yields W sh it vs own og → YieldsR W sh it (fun x v => v = x) vs own og
  | [], _, _, H => H
  | _ :: _, _, _, H => ⟨H.1, fun A R GR s Q E hA S hQ => H.2 A R GR s Q E hA S fun own' og' s' S' H' => hQ _ own' og' s' rfl S' H'.rel⟩
theorem YieldsR.map {W : Wd} {sh : Ledger} {it : Addr} {α β : Type} {P : α → Value → Prop} {P' : β → Value → Prop} (f : α → β) (h : ∀ x v, P x v → P' (f x) v) : ∀ {xs : List α} {own : Ledger} {og : Gens}, YieldsR W sh it P xs own og → YieldsR W sh it P' (xs.map f) own og
  | [], _, _, H => H
  | _ :: _, _, _, H => ⟨H.1, fun A R GR s Q E hA S hQ => H.2 A R GR s Q E hA S fun v own' og' s' p S' H' => hQ v own' og' s' (h _ _ p) S' (YieldsR.map f h H')⟩

theorem Led.isLst {B h : Heap} {nw : Ledger} {a : Addr} {xs : List Value} (D : Led B nw h) (m : (a, IsLst xs) ∈ nw) : h.IsList a xs.toArray := by
  obtain ⟨o, ho, n, rfl⟩ := D.get m
  exact ⟨_, ho, rfl, n, rfl⟩

/-- one entry at the back turned -/
theorem Led.back {B h h' : Heap} {nw : Ledger} {a : Addr} {c c' : Cell} {post : Ledger} (D : Led B (nw ++ ((a, c) :: post)) h) (hs : ∀ b o, b ≠ a → h.get? b = some o → h'.get? b = some o) {o : Obj} (ho : h'.get? a = some o) (hc : c' o) : Led B (nw ++ ((a, c') :: post)) h' := by
  have D1 : Led B ((a, c) :: (nw ++ post)) h := D.perm List.perm_middle
  exact (D1.set .head hs ho hc).perm List.perm_middle.symm
theorem Led.dropBack {B h h' : Heap} {nw : Ledger} {a : Addr} {c : Cell} {post : Ledger} (D : Led B (nw ++ ((a, c) :: post)) h) (hs : ∀ b o, b ≠ a → h.get? b = some o → h'.get? b = some o) : Led B (nw ++ post) h' := by
  have D1 : Led B ((a, c) :: (nw ++ post)) h := D.perm List.perm_middle
  have hB := (D1.own _ (.head _)).1
  have nd := D1.nodup
  rw [List.map_cons, List.nodup_cons] at nd
  refine ⟨fun b o e => hs b o (fun q => by rw [q] at e; rw [hB] at e; cases e) (D1.keep b o e), fun p hp => ?_, nd.2⟩
  obtain ⟨x, o, ho, hc⟩ := D1.own p (.tail _ hp)
  exact ⟨x, o, hs _ _ (fun q => nd.1 (List.mem_map.mpr ⟨p, hp, q⟩)) ho, hc⟩

theorem ly_list {W : Wd} {sh : Ledger} {it l : Addr} {xs : List Value} {own₀ : Ledger} (m : (l, IsLst xs) ∈ sh ++ own₀) : ∀ (vs : List Value) (i : Nat), xs.drop i = vs → LY W sh it vs ((it, IsLI l i) :: own₀)
  | [], i, e => ⟨⟨IsLI l i, by simp, fun o h => by unfold plainIt; rw [h.1]; decide⟩, fun A R s Q E hA D hQ => by
    have D0 : Led W.B ((R ++ sh) ++ ((it, IsLI l i) :: own₀)) s.heap := by rw [List.append_assoc]; exact D
    obtain ⟨o, ho, hcl, hda⟩ := D0.get (a := it) (c := IsLI l i) (by simp)
    have hl := D0.isLst (a := l) (xs := xs) (by
      rcases List.mem_append.mp m with m | m
      · simp [m]
      · simp [m])
    refine wpAny_pyNext_list_end hA ⟨_, ho, hcl, hda⟩ hl (by simpa [List.drop_eq_nil_iff] using e) fun h' hx => hQ h' ?_
    exact (D0.dropBack fun b o hb e => hx b o hb e).sub (List.sublist_append_left _ _)⟩
  | v :: vs, i, e => ⟨⟨IsLI l i, by simp, fun o h => by unfold plainIt; rw [h.1]; decide⟩, fun A R s Q E hA D hQ => by
    have D0 : Led W.B ((R ++ sh) ++ ((it, IsLI l i) :: own₀)) s.heap := by rw [List.append_assoc]; exact D
    obtain ⟨o, ho, hcl, hda⟩ := D0.get (a := it) (c := IsLI l i) (by simp)
    have hl := D0.isLst (a := l) (xs := xs) (by
      rcases List.mem_append.mp m with m | m
      · simp [m]
      · simp [m])
    have hx : xs[i]? = some v := by
      have := congrArg List.head? e
      simpa [List.head?_drop] using this
    have e' : xs.drop (i + 1) = vs := by
      have := congrArg List.tail e
      simpa [List.tail_drop] using this
    refine wpAny_pyNext_list_item ⟨_, ho, hcl, hda⟩ hl (by simpa using hx) fun h' hit hs => ?_
    obtain ⟨o', ho', hc', hd'⟩ := hit
    have D1 := D0.back (c' := IsLI l (i + 1)) (fun b o hb e => (hs.2 b hb).trans e) ho' ⟨hc', hd'⟩
    exact hQ ((it, IsLI l (i + 1)) :: own₀) h' (by rw [← List.append_assoc]; exact D1) (ly_list m vs (i + 1) e')⟩

theorem ly_rev {W : Wd} {sh : Ledger} {it l : Addr} {xs : List Value} (m : (l, IsLst xs) ∈ sh) : ∀ (n : Nat), n ≤ xs.length → LY W sh it (xs.take n).reverse [(it, IsRI l ((n : Int) - 1))]
  | 0, _ => ⟨⟨IsRI l (((0 : Nat) : Int) - 1), List.mem_append_right _ (.head _), fun o h => by unfold plainIt; rw [h.1]; decide⟩, fun A R s Q E hA D hQ => by
    have D0 : Led W.B ((R ++ sh) ++ [(it, IsRI l ((0 : Nat) - 1))]) s.heap := by rw [List.append_assoc]; exact D
    obtain ⟨o, ho, hcl, hda⟩ := D0.get (a := it) (c := IsRI l ((0 : Nat) - 1)) (by simp)
    refine wpAny_pyNext_rev_end hA ⟨o, ho, hcl, hda⟩ fun h' hx => hQ h' ?_
    have := D0.dropBack (h' := h') fun b o hb e => hx b o hb e
    simpa using this⟩
  | n + 1, hn => by
    have hlt : n < xs.length := by omega
    have e : (xs.take (n + 1)).reverse = xs[n] :: (xs.take n).reverse := by
      rw [List.take_succ, List.getElem?_eq_getElem hlt]; simp
    rw [e]
    refine ⟨⟨IsRI l (((n + 1 : Nat) : Int) - 1), List.mem_append_right _ (.head _), fun o h => by unfold plainIt; rw [h.1]; decide⟩, ?_⟩
    intro A R s Q E hA D hQ
    have D0 : Led W.B ((R ++ sh) ++ [(it, IsRI l ((n + 1 : Nat) - 1))]) s.heap := by rw [List.append_assoc]; exact D
    obtain ⟨o, ho, hcl, hda⟩ := D0.get (a := it) (c := IsRI l ((n + 1 : Nat) - 1)) (by simp)
    have hl := D0.isLst (a := l) (xs := xs) (by simp [m])
    have e1 : ((n + 1 : Nat) : Int) - 1 = (n : Int) := by omega
    rw [e1] at hda
    refine wpAny_pyNext_rev_item ⟨o, ho, hcl, hda⟩ hl (x := xs[n]) (by simp [hlt]) fun h' hit hs => ?_
    obtain ⟨o', ho', hc', hd'⟩ := hit
    have D1 := D0.back (c' := IsRI l ((n : Int) - 1)) (fun b o hb e => (hs.2 b hb).trans e) ho' ⟨hc', hd'⟩
    exact hQ [(it, IsRI l ((n : Int) - 1))] h' (by rw [← List.append_assoc]; exact D1) (ly_rev m n (by omega))
end Mine
end
section
open PySem PySem.W PyProof.Rows PySem.W.X
set_option maxRecDepth 100000
namespace Mine
noncomputable def GenEnd (W : Wd) (sh R : Ledger) (GR : Gens) (vs : List Value) (e : End) (s' : Shared) : Prop := match vs with
  | [] => e = .ret (.ok (.ret .none)) ∧ St0 W GR (R ++ sh) s'
  | v :: vs => ∃ own', e.result = .yielded v ∧ St0 W GR (R ++ (sh ++ own')) s' ∧ GoodGen W sh vs e.genState own'
theorem goodGen_iff {W : Wd} {sh : Ledger} {vs : List Value} {gs : GenState} {own : Ledger} : GoodGen W sh vs gs own ↔ ∀ A R GR s, Aok 6 A → St0 W GR (R ++ (sh ++ own)) s → Wake W A gs s (GenEnd W sh R GR vs) := by
  cases vs <;> exact Iff.rfl

/-- a frame below a loop of a generator -/
structure FrOk (W : Wd) (fr : Frame) : Prop where
  split : splitAtGen [fr] = none
  guarded : fr.guarded = false
  marks : ∀ x, fr.marks x = x
  weight : fr.where_.1.weight ≤ 1
  units : fr.where_.1.cUnits ≤ 3
  back : ∀ A c s P, P (.ret (.ok (.ret .none))) s → SegX (model W.prog W.w) A c (leafOf (.ok .next)) [fr] s P

theorem Sta.st0 {W : Wd} {G : Gens} {nw pre post : Ledger} {s : Shared} {env : Env} {loc : Loc} (S : Sta W G env loc (pre ++ post) s) (e : nw = pre ++ ((env.locals, IsNs loc) :: post)) : St0 W G nw s := by
  subst e
  exact ⟨S.ok, S.led.perm List.perm_middle.symm, S.bare, S.os, S.gens, S.gnd⟩

section
variable {W : Wd} {sh : Ledger} {env : Env} {nm : Str} {p1 p5 p6 p7 p8 p9 : Pos} {rit : Addr} {ks : List Str}
noncomputable abbrev itBody (nm : Str) (p5 p6 p7 p8 p9 : Pos) : List Stmt := [.If (.Name nm p5) [.Expr (.YieldFrom (.Name nm p6) p7) p8] [] p9]
noncomputable abbrev itLoop (env : Env) (nm : Str) (p1 p5 p6 p7 p8 p9 : Pos) (rit : Addr) : Code := .forLoop (.Name nm p1) (.ref rit) (itBody nm p5 p6 p7 p8 p9) [] env

theorem over1 {k : Nat} {A : Around} {c' : Code} {fr : Frame} (hA : Aok (k + 2) A) (hf : FrOk W fr) (hw : c'.weight = 0) (hu : c'.cUnits ≤ 1) : Aok k (A.over c' [fr]) := by
  refine ⟨?_, ?_, ?_⟩
  · show (marksOver [fr] (A.handled, A.handled)).1 = none
    simp only [marksOver, List.foldr, hf.marks]; exact hA.handled
  · have := hA.depth; have := hf.weight
    show A.depth + frameCount ([fr].map Frame.where_) + c'.weight + k < recursionLimit
    simp only [List.map_cons, List.map_nil, frameCount, List.sum_cons, List.sum_nil, hw]; omega
  · have := hA.units; have := hf.units
    show A.units + unitsOf ([fr].map Frame.where_) + c'.cUnits + 8 * k < cLine
    simp only [List.map_cons, List.map_nil, unitsOf, List.sum_cons, List.sum_nil]; omega

/-- the delegation to one list, within any two frames -/
theorem iter_inner {l it : Addr} {xs : List Value} {fr fr2 : Frame} (hf : FrOk W fr) (h2 : splitAtGen [fr2, fr] = none) (g2 : [fr2, fr].any Frame.guarded = false)
    (hov : ∀ A, Aok 6 A → (A.over (yfCode it) [fr2, fr]).handled = none) (m : (l, IsLst xs) ∈ sh) (own₀ : Ledger) (ws : List Value)
    (rest : ∀ A R GR s, Aok 6 A → St0 W GR (R ++ (sh ++ own₀)) s → SegX (model W.prog W.w) A (yfCode it) (leafOf (.ok (.ret .none))) [fr2, fr] s (GenEnd W sh R GR ws)) :
    ∀ (vs : List Value) (i : Nat), xs.drop i = vs → ∀ A R GR s, Aok 6 A → St0 W GR (R ++ (sh ++ ((it, IsLI l i) :: own₀))) s →
      SegX (model W.prog W.w) A (yfCode it) (denote table (yfCode it)) [fr2, fr] s (GenEnd W sh R GR (vs ++ ws))
  | [], i, e => fun A R GR s hA S => by
    have D0 : Led W.B ((R ++ sh) ++ ((it, IsLI l i) :: own₀)) s.heap := by rw [List.append_assoc]; exact S.led
    obtain ⟨o, ho, hcl, hda⟩ := D0.get (a := it) (c := IsLI l i) (by simp)
    have hl := D0.isLst (a := l) (xs := xs) (by simp [m])
    refine yf_end (hov A hA) ⟨o, ho, hcl, hda⟩ hl (by simpa [List.drop_eq_nil_iff] using e) fun h' hx => ?_
    have D1 := D0.dropBack (h' := h') fun b o hb e => hx b o hb e
    exact rest A R GR { s with heap := h' } hA ⟨S.ok, by rw [← List.append_assoc]; exact D1, S.bare, S.os, S.gens, S.gnd⟩
  | v :: vs, i, e => fun A R GR s hA S => by
    have D0 : Led W.B ((R ++ sh) ++ ((it, IsLI l i) :: own₀)) s.heap := by rw [List.append_assoc]; exact S.led
    obtain ⟨o, ho, hcl, hda⟩ := D0.get (a := it) (c := IsLI l i) (by simp)
    have hl := D0.isLst (a := l) (xs := xs) (by simp [m])
    have hx : xs[i]? = some v := by
      have := congrArg List.head? e
      simpa [List.head?_drop] using this
    have e' : xs.drop (i + 1) = vs := by
      have := congrArg List.tail e
      simpa [List.tail_drop] using this
    refine yf_item ⟨o, ho, hcl, hda⟩ hl (by simpa using hx) h2 g2 fun k lv p h' hit hs hk => ?_
    obtain ⟨o', ho', hc', hd'⟩ := hit
    have D1 := D0.back (c' := IsLI l (i + 1)) (fun b o hb e => (hs.2 b hb).trans e) ho' ⟨hc', hd'⟩
    refine ⟨(it, IsLI l (i + 1)) :: own₀, rfl, ⟨S.ok, by rw [← List.append_assoc]; exact D1, S.bare, S.os, S.gens, S.gnd⟩, goodGen_iff.mpr fun A' R' GR' s' hA' S' => ?_⟩
    have D2 : Led W.B ((R' ++ sh) ++ ((it, IsLI l (i + 1)) :: own₀)) s'.heap := by rw [List.append_assoc]; exact S'.led
    obtain ⟨o2, ho2, hcl2, hda2⟩ := D2.get (a := it) (c := IsLI l (i + 1)) (by simp)
    exact hk A' _ s' _ ⟨o2, ho2, hcl2⟩ (iter_inner hf h2 g2 hov m own₀ ws rest vs (i + 1) e' A' R' GR' s' hA' S')

theorem put_of_mem {x : Str} {v : Option Value} : ∀ {l : Loc}, x ∈ l.map Prod.fst → ∃ l', Put x v l l'
  | p :: l, h => by
    rcases List.mem_cons.mp h with e | h
    · obtain ⟨k, u⟩ := p
      dsimp only at e
      subst e
      exact ⟨_, .head⟩
    · obtain ⟨l', h'⟩ := put_of_mem (v := v) h
      exact ⟨_, .tail h'⟩
theorem Put.mem' {x : Str} {v : Option Value} {l l' : Loc} (h : Put x v l l') : (x, v) ∈ l' := by
  induction h with
  | head => exact .head _
  | tail h ih => exact .tail _ ih
theorem Sta.truthyL {G : Gens} {loc : Loc} {nw : Ledger} {s : Shared} {A : Around} {E : Value → Shared → Prop} {a : Addr} {xs : List Value} {Q : Bool → Shared → Prop} (S : Sta W G env loc nw s) (m : (a, IsLst xs) ∈ nw) (hz : xs.length ≤ sizeLine) (h : ∀ s', Sta W G env loc nw s' → Q (!xs.isEmpty) s') :
    wpAny (model W.prog W.w) A (truthy (.ref a)) Q E s := by
  refine wpAny_truthy_list (S.isList m) ?_ ?_
  · rw [sizeLine_eq] at hz; simp; omega
  · have := h _ (S.toks (s.toks + 1 + 1))
    simpa using this
theorem Sta.iterL {G : Gens} {loc : Loc} {nw : Ledger} {s : Shared} {A : Around} {E : Value → Shared → Prop} {a : Addr} {xs : List Value} {Q : Value → Shared → Prop} (S : Sta W G env loc nw s) (m : (a, IsLst xs) ∈ nw) (h : ∀ it s', Sta W G env loc ((it, IsLI a 0) :: nw) s' → Q (.ref it) s') :
    wpAny (model W.prog W.w) A (pyIter (.ref a)) Q E s :=
  wpAny_pyIter_list (S.isList m) (h _ _ (S.new (c := IsLI a 0) rfl ⟨rfl, rfl⟩ s.toks))

theorem iter_outer {fr : Frame} (hf : FrOk W fr) (hi : interactive env = false) (hnm : nm ∈ ks) :
    ∀ (ls : List (Addr × List Value)), (∀ p ∈ ls, (p.1, IsLst p.2) ∈ sh ∧ p.2.length ≤ sizeLine) → ∀ (ownO : Ledger) (loc : Loc) A R GR s, Aok 6 A → loc.map Prod.fst = ks → EnvOk env ks →
      St0 W GR (R ++ (sh ++ ((env.locals, IsNs loc) :: ownO))) s → LY W sh rit (ls.map fun p => .ref p.1) ownO →
      SegX (model W.prog W.w) A (itLoop env nm p1 p5 p6 p7 p8 p9 rit) (denote table (itLoop env nm p1 p5 p6 p7 p8 p9 rit)) [fr] s (GenEnd W sh R GR (ls.flatMap (·.2)))
  | [], _, ownO, loc, A, R, GR, s, hA, hk, he, S, hy => by
    refine sx_topOn ?_
    unfold forTurn
    refine sx_then (wpAny_standAt ?_)
    have hA' : Aok 4 (A.over (itLoop env nm p1 p5 p6 p7 p8 p9 rit) [fr]) := over1 hA hf rfl (Nat.zero_le _)
    have D : Led W.B ((R ++ [(env.locals, IsNs loc)]) ++ (sh ++ ownO)) s.heap := S.led.perm (by
      rw [List.append_assoc]; refine List.Perm.append_left _ ?_
      exact List.perm_middle)
    refine sx_then (wpAny_onRaise (hy.2 _ _ s _ _ hA'.handled D fun h' D' => ?_))
    refine s_again _ _ _ _ _ _ _ _ rfl ?_
    refine hf.back _ _ _ _ ⟨rfl, S.ok, ?_, S.bare, S.os, S.gens, S.gnd⟩
    exact D'.sub (List.Sublist.append (List.sublist_append_left _ _) (List.Sublist.refl _))
  | (l, xs) :: ls, hls, ownO, loc, A, R, GR, s, hA, hk, he, S, hy => by
    have hm : (l, IsLst xs) ∈ sh := (hls (l, xs) (.head _)).1
    have hz : xs.length ≤ sizeLine := (hls (l, xs) (.head _)).2
    have hls' : ∀ p ∈ ls, (p.1, IsLst p.2) ∈ sh ∧ p.2.length ≤ sizeLine := fun p hp => hls p (.tail _ hp)
    refine sx_topOn ?_
    unfold forTurn
    refine sx_then (wpAny_standAt ?_)
    have hA' : Aok 4 (A.over (itLoop env nm p1 p5 p6 p7 p8 p9 rit) [fr]) := over1 hA hf rfl (Nat.zero_le _)
    have D : Led W.B ((R ++ [(env.locals, IsNs loc)]) ++ (sh ++ ownO)) s.heap := S.led.perm (by
      rw [List.append_assoc]; refine List.Perm.append_left _ ?_
      exact List.perm_middle)
    refine sx_then (wpAny_onRaise (hy.2 _ _ s _ _ hA'.handled D fun ownO' h' D' hy' => ?_))
    refine sx_then (wpAny_of_eq (a := ()) rfl ?_)
    have S1 : Sta W GR env loc (R ++ (sh ++ ownO')) { s with heap := h' } := by
      refine ⟨S.ok, by rw [hk]; exact he, D'.perm ?_, S.bare, S.os, S.gens, S.gnd⟩
      rw [List.append_assoc]
      exact List.perm_middle
    obtain ⟨loc', hput⟩ := put_of_mem (v := some (.ref l)) (l := loc) (x := nm) (by rw [hk]; exact hnm)
    have hk' : loc'.map Prod.fst = ks := by rw [hput.keys]; exact hk
    refine sx_then (wpAny_assign_Name (S1.store hput fun s2 S2 => ?_))
    rw [execs_cons]
    refine sx_bind (sx_bind ?_)
    rw [exec_If]
    refine sx_then (wpAny_standAt ?_)
    refine sx_then (wpAny_isTrue_value (S2.local_ hput.mem' (S2.truthyL (by simp [hm]) hz fun s3 S3 => ?_)))
    have back : ∀ A R GR s, Aok 6 A → St0 W GR (R ++ (sh ++ ((env.locals, IsNs loc') :: ownO'))) s →
        SegX (model W.prog W.w) A (itLoop env nm p1 p5 p6 p7 p8 p9 rit) (.pure (.again (itLoop env nm p1 p5 p6 p7 p8 p9 rit))) [fr] s (GenEnd W sh R GR (ls.flatMap (·.2))) := fun A R GR s hA S =>
      s_again _ _ _ _ _ _ _ _ rfl (iter_outer hf hi hnm ls hls' ownO' loc' A R GR s hA hk' he S hy')
    cases xs with
    | nil =>
      refine back A R GR s3 hA (Sta.st0 (pre := R ++ sh) (post := ownO') (loc := loc') (env := env) ?_ (by simp))
      rw [List.append_assoc]; exact S3
    | cons v vs =>
      rw [if_pos (show (!(v :: vs).isEmpty) = true from rfl), execs_cons]
      refine sx_bind ?_
      rw [exec_Expr env _ _ hi rfl]
      refine sx_then (wpAny_standAt (sx_bind ?_))
      show SegX _ _ _ (Sem.wrap _ _ _ _ (eval (.Name nm p6) env >>= fun v => standAt p7 >>= fun _ => yieldFrom env v)) _ _ _
      refine sx_then (S3.local_ hput.mem' (sx_then (wpAny_standAt ?_)))
      unfold yieldFrom
      have hT : s3.TypeIs (.ref l) "list" := (S3.isList (a := l) (xs := v :: vs) (by simp [hm])).typeIs
      refine sx_then (wpAny_typeOf hT ?_)
      rw [if_neg (by decide)]
      refine sx_then (wpAny_holding (S3.iterL (xs := v :: vs) (by simp [hm]) fun it s4 S4 => ?_))
      refine s_call W.prog W.w A _ [fr] _ s4 (yfCode it) none false [] _ fun p => ?_
      refine iter_inner (xs := v :: vs) (l := l) hf ?kk2 ?kg2 ?khov hm ((env.locals, IsNs loc') :: ownO') (ls.flatMap (·.2)) ?krest (v :: vs) 0 rfl A R GR s4 hA ?kst
      · simp only [splitAtGen, hf.split, Option.map_none]
      · show (false || (fr.guarded || false)) = false
        rw [hf.guarded]; rfl
      · intro A hA
        show (marksOver _ (A.handled, A.handled)).1 = none
        simp only [marksOver, List.foldr_cons, List.foldr_nil]
        rw [hf.marks]; exact hA.handled
      · intro A R GR s hA S
        exact s_pop _ _ _ _ _ _ _ _ _ rfl _ _ _ _ _ _ _ (back A R GR s hA S)
      · refine ⟨S4.ok, S4.led.perm ?_, S4.bare, S4.os, S4.gens, S.gnd⟩
        refine (List.Perm.swap _ _ _).trans ?_
        rw [← List.append_assoc R sh, ← List.append_assoc R sh]
        exact List.Perm.trans (List.Perm.cons _ List.perm_middle.symm) List.perm_middle.symm
end
end Mine
end
section
open PySem PySem.W PyProof.Rows PySem.W.X
set_option maxRecDepth 100000
namespace Mine
section
variable {W : Wd} {sh : Ledger} {env : Env} {nm rv sk : Str} {p1 p2 p3 p4 p5 p6 p7 p8 p9 p10 : Pos} {ks : List Str}
noncomputable abbrev itWhole (nm rv sk : Str) (p1 p2 p3 p4 p5 p6 p7 p8 p9 p10 : Pos) : List Stmt := [.For (.Name nm p1) (.Call (.Name rv p2) [.Name sk p3] [] p4) (itBody nm p5 p6 p7 p8 p9) [] p10]
theorem iter_good (hi : interactive env = false) (hnm : nm ∈ ks) (loc : Loc) (hk : loc.map Prod.fst = ks) (he : EnvOk env ks) (ls : List (Addr × List Value)) (hls : ∀ p ∈ ls, (p.1, IsLst p.2) ∈ sh ∧ p.2.length ≤ sizeLine)
    (hrev : ∀ A R GR s, Aok 4 A → Sta W GR env loc (R ++ sh) s → ∀ Q E, (∀ rit own s', Sta W GR env loc (R ++ (sh ++ own)) s' → LY W sh rit (ls.map fun p => .ref p.1) own → Q (.ref rit) s') → wpAny (model W.prog W.w) A (eval (.Call (.Name rv p2) [.Name sk p3] [] p4) env) (fun x s₁ => wpAny (model W.prog W.w) A (pyIter x) Q E s₁) E s) :
    GoodGen W sh (ls.flatMap (·.2)) (.fresh (.func (itWhole nm rv sk p1 p2 p3 p4 p5 p6 p7 p8 p9 p10) env)) [(env.locals, IsNs loc)] := by
  refine goodGen_iff.mpr fun A R GR s hA S => ?_
  show SegX _ A _ (denote table (.func (itWhole nm rv sk p1 p2 p3 p4 p5 p6 p7 p8 p9 p10) env)) [] s _
  refine sx_top ?_
  simp only [denote]
  refine sx_then (wpAny_point ?_)
  refine sx_bind (sx_onRaise ?_)
  rw [execs_cons]
  refine sx_bind ?_
  rw [exec_For]
  have hA' : Aok 4 (A.over (.func (itWhole nm rv sk p1 p2 p3 p4 p5 p6 p7 p8 p9 p10) env) []) := ⟨hA.handled, by
      have := hA.depth
      show A.depth + 0 + 1 + 4 < _
      omega, by
      have := hA.units
      show A.units + 0 + 3 + 8 * 4 < _
      omega⟩
  have S1 : Sta W GR env loc (R ++ sh) s := ⟨S.ok, by rw [hk]; exact he, S.led.perm (by rw [← List.append_assoc]; exact List.perm_append_comm), S.bare, S.os, S.gens, S.gnd⟩
  refine sx_then (wpAny_standAt ?_)
  have main := hrev _ R GR s hA' S1
  refine sx_then (wpAny_mono (main (fun x s₁ => ∃ rit own, x = .ref rit ∧ Sta W GR env loc (R ++ (sh ++ own)) s₁ ∧ LY W sh rit (ls.map fun p => .ref p.1) own) (fun _ _ => False) fun rit own s' S' hy => ⟨rit, own, rfl, S', hy⟩) (fun x s₁ h₁ => ?_) fun _ _ h => h.elim)
  refine sx_then (wpAny_of_eq (a := x) rfl ?_)
  refine sx_then (wpAny_standAt ?_)
  refine sx_then (wpAny_holding (wpAny_mono h₁ (fun y s₂ h₂ => ?_) fun _ _ h => h.elim))
  obtain ⟨rit, own, rfl, S2, hy⟩ := h₂
  refine s_call W.prog W.w A _ [] _ s₂ (itLoop env nm p1 p5 p6 p7 p8 p9 rit) none false [] _ fun p => ?_
  refine iter_outer ?hf hi hnm ls hls own loc A R GR s₂ hA hk he ⟨S2.ok, S2.led.perm ?_, S2.bare, S2.os, S2.gens, S.gnd⟩ hy
  · refine ⟨rfl, rfl, fun x => rfl, Nat.le_refl _, Nat.le_refl _, fun A c s P hP => ?_⟩
    refine s_pop _ _ _ _ _ _ _ _ _ rfl _ _ _ _ _ _ _ ?_
    exact s_end _ _ _ _ _ _ _ _ rfl hP
  · rw [← List.append_assoc R sh, ← List.append_assoc R sh]
    exact List.perm_middle.symm
end
end Mine
end
section
open PySem PySem.W PyProof.Rows PySem.W.X
set_option maxRecDepth 100000
namespace Mine
/-- a def of the text, as the top left it -/
structure Fn (K : Frag) (f : Addr) (st : Stmt) (qual : Str) (dV kV cdv : Value) : Prop where
  at_ : ∃ name doc pm ct oc an od osl, K.lookup f = some ⟨oc, od, .func (fnOf name qual (fnArgs st) (fnBody st) (fnScope st) dV kV doc pm an cdv ct), osl⟩
  code : codeIn K cdv qual = true
/-- what a call binds -/
noncomputable def Binds (s : Shared) (st : Stmt) (qual : Str) (dV kV cdv : Value) (args : Args) (binds : List (Str × Value)) : Prop :=
  ∀ name doc pm ct an, BindsTo s (fnOf name qual (fnArgs st) (fnBody st) (fnScope st) dV kV doc pm an cdv ct) args binds
noncomputable def kindsGen (sc : Scope) (ks : List Str) : Bool := sc.kind == .function && !sc.isCoroutine && sc.isGenerator && (sc.names.all fun x => x.2 != .cell) && (ks.all fun x => sc.names.lookup x == some .local && !(x == ("__debug__" : Str))) && decide ks.Nodup

section
variable {W : Wd} {G : Gens} {env : Env} {loc loc' : Loc} {nw nw' : Ledger} {s : Shared} {A : Around} {E : Value → Shared → Prop}
theorem Sta.call_fn {Q : Value → Shared → Prop} {f : Addr} {qual : Str} {st : Stmt} {dV kV cdv : Value} {pos : List Value} {kw : List (Str × Value)} {binds : List (Str × Value)} (rest : List Str)
    (S : Sta W G env loc nw s) (hf : Fn W.K f st qual dV kV cdv) (hroom : A.depth < recursionLimit) (hbind : Binds s st qual dV kV cdv ⟨pos, kw⟩ binds) (hk : kindsOk (fnScope st) (binds.map Prod.fst ++ rest) = true)
    (h : ∀ L s', Sta W G (envOf qual (fnScope st) L f cdv) (mkLoc binds rest) ((env.locals, IsNs loc) :: nw) s' →
      wpAny (model W.prog W.w) (A.deeper (envOf qual (fnScope st) L f cdv)) (execs (fnBody st) (envOf qual (fnScope st) L f cdv)) (fun fl s'' => Q (match fl with | .ret v => v | _ => .none) s'') (fun _ _ => False) s') :
    wpAny (model W.prog W.w) A (call (.ref f) pos kw) Q E s := by
  obtain ⟨name, doc, pm, ct, oc, an, od, osl, ho⟩ := hf.at_
  exact S.call_def (args := ⟨pos, kw⟩) rest hroom ho hf.code (hbind _ _ _ _ _) hk h
theorem Sta.code_fn {R : Result → Shared → Prop} {f : Addr} {qual : Str} {st : Stmt} {dV kV cdv : Value} {pos : List Value} {kw : List (Str × Value)} {binds : List (Str × Value)} (rest : List Str)
    (S : Sta W G env loc nw s) (hf : Fn W.K f st qual dV kV cdv) (hroom : A.depth < recursionLimit) (hbind : Binds s st qual dV kV cdv ⟨pos, kw⟩ binds) (hk : kindsOk (fnScope st) (binds.map Prod.fst ++ rest) = true)
    (h : ∀ L s', Sta W G (envOf qual (fnScope st) L f cdv) (mkLoc binds rest) ((env.locals, IsNs loc) :: nw) s' →
      wpAny (model W.prog W.w) (A.deeper (envOf qual (fnScope st) L f cdv)) (execs (fnBody st) (envOf qual (fnScope st) L f cdv)) (fun fl s'' => R (.ok (.ret (match fl with | .ret v => v | _ => .none))) s'') (fun _ _ => False) s') :
    codeAny (model W.prog W.w) A (.call (.ref f) ⟨pos, kw⟩) R s := by
  obtain ⟨name, doc, pm, ct, oc, an, od, osl, ho⟩ := hf.at_
  exact S.code_def (args := ⟨pos, kw⟩) rest hroom ho hf.code (hbind _ _ _ _ _) hk h
theorem Sta.call_gen {Q : Value → Shared → Prop} {f : Addr} {qual : Str} {st : Stmt} {dV kV cdv : Value} {pos : List Value} {kw : List (Str × Value)} {binds : List (Str × Value)} (rest : List Str)
    (S : Sta W G env loc nw s) (hf : Fn W.K f st qual dV kV cdv) (hroom : A.depth < recursionLimit) (hbind : Binds s st qual dV kV cdv ⟨pos, kw⟩ binds) (hk : kindsGen (fnScope st) (binds.map Prod.fst ++ rest) = true)
    (h : ∀ a g L s', EnvOk (envOf qual (fnScope st) L f cdv) (binds.map Prod.fst ++ rest) →
      Sta W (G ++ [(g, .fresh (.func (fnBody st) (envOf qual (fnScope st) L f cdv)))]) env loc ((a, IsGenO g) :: (L, IsNs (mkLoc binds rest)) :: nw) s' → Q (.ref a) s') :
    wpAny (model W.prog W.w) A (call (.ref f) pos kw) Q E s := by
  obtain ⟨name, doc, pm, ct, oc, an, od, osl, ho⟩ := hf.at_
  simp only [kindsGen, Bool.and_eq_true, beq_iff_eq, Bool.not_eq_true', List.all_eq_true, bne_iff_ne, decide_eq_true_eq] at hk
  obtain ⟨⟨⟨⟨⟨hkind, hco⟩, hgen⟩, hcell⟩, hks⟩, hnd⟩ := hk
  have hks2 : ((mkLoc binds rest).map Prod.fst) = binds.map Prod.fst ++ rest := by
    simp [mkLoc, List.map_map, Function.comp_def]
  refine wpAny_call (codeAny_call_generator (fd := fnOf name qual (fnArgs st) (fnBody st) (fnScope st) dV kV doc pm an cdv ct) (body := fnBody st) hroom (S.kin _ _ ho) rfl hco hgen rfl (codeRec_of S.kin hf.code) (hbind _ _ _ _ _ _ _ _ _ ?_))
  refine wpAny_newFunctionEnv hcell (fun x hx => (hks x.1 (List.mem_append_left _ (List.mem_map.mpr ⟨x, hx, rfl⟩))).1) (fun h₁ hns hsb => ?_) hkind
  have hkp : ∀ b o, s.heap.get? b = some o → h₁.get? b = some o := fun b o e => hsb.extBut b o (Nat.ne_of_lt (Heap.lt_size e)) (Heap.get?_push_of_some _ e)
  refine ⟨S.nolimit.keeps hkp, ?_⟩
  have D : Led W.B ((s.heap.objs.size, IsNs (mkLoc binds rest)) :: (env.locals, IsNs loc) :: nw) h₁ := by
    obtain ⟨o, es, ep, ho', hd, hsk, hf⟩ := hns
    refine S.led.cons_new hkp S.led.size_ne S.led.size_new ho' ⟨by rw [hks2]; exact hnd, es, ep, hd, hsk, fun x => ?_⟩
    rw [hf x, lk_mkLoc _ _ (hnd.sublist (List.sublist_append_left _ _))]
  refine h h₁.objs.size s.gens.size s.heap.objs.size _ ⟨hkind, rfl, rfl, fun x hx => (hks x hx).1, fun x hx => (hks x hx).2, hnd⟩ ⟨S.ok, S.eok, ?_, ?_, S.os, ?_, ?_⟩
  case refine_4 =>
    rw [List.map_append, List.nodup_append]
    refine ⟨S.gnd, by simp, fun a ha b hb e => ?_⟩
    have : b = s.gens.size := by simpa using hb
    subst this
    obtain ⟨p, hp, q⟩ := List.mem_map.mp ha
    have := (Array.getElem?_eq_some_iff.mp (S.gens p hp)).1
    rw [q, e] at this
    exact Nat.lt_irrefl _ this
  · refine ((D.new (c := IsGenO s.gens.size) (o := { cls := .type "generator", data := .fields #[.int s.gens.size 0, .str name (s.toks + binds.length), .str qual (s.toks + binds.length + 1)] }) rfl ⟨_, _, rfl⟩).perm ?_)
    exact (List.Perm.cons _ (List.Perm.swap ..)).trans (List.Perm.swap ..)
  · exact S.bare.push rfl
  · intro p hp
    show (s.gens.push _)[p.1]? = _
    rcases List.mem_append.mp hp with hp | hp
    · have hlt := (Array.getElem?_eq_some_iff.mp (S.gens p hp)).1
      rw [Array.getElem?_push_lt hlt]
      have := S.gens p hp
      rw [Array.getElem?_eq_getElem hlt] at this
      exact this
    · have : p = (s.gens.size, .fresh (.func (fnBody st) (envOf qual (fnScope st) s.heap.objs.size f cdv))) := by simpa using hp
      subst this
      simp; rfl
end
end Mine
end
section
open PySem PySem.W PyProof.Rows PySem.W.X
set_option maxRecDepth 100000
namespace Mine
theorem St0.setL {W : Wd} {G : Gens} {R : Ledger} {s : Shared} {a : Addr} {xs ys : List Value} {n : Nat} (S : St0 W G ((a, IsLst xs) :: R) s) (hl : IsL s.heap a xs.toArray n) (f : Array Value → Array Value) (e : f xs.toArray = ys.toArray) :
    St0 W G ((a, IsLst ys) :: R) { s with heap := s.heap.update a (Obj.mapSeq f) } := by
  obtain ⟨o, ho, hc⟩ := IsL_set hl f e
  exact ⟨S.ok, S.led.set .head (fun b o hb e => ((Heap.SameBut.update s.heap a _).2 b hb).trans e) ho hc, S.bare, S.os, S.gens, S.gnd⟩
theorem St0.isL {W : Wd} {G : Gens} {R : Ledger} {s : Shared} {a : Addr} {xs : List Value} (S : St0 W G R s) (m : (a, IsLst xs) ∈ R) : ∃ n, IsL s.heap a xs.toArray n := by
  obtain ⟨o, ho, n, rfl⟩ := S.led.get m
  exact ⟨n, ho⟩
section
variable {W : Wd} {sh : Ledger} {I : Addr} {E : Value → Shared → Prop}
theorem extend_loop_y {T : Addr} {res : Value} {Rr : Result → Shared → Prop} {R : Ledger} {GR : Gens} : ∀ (vs : List Value) (own : Ledger) (og : Gens) (acc : List Value) (A : Around) (s : Shared), Aok 8 A → Yields W sh I vs own og → acc.length + vs.length ≤ sizeLine →
    St0 W (GR ++ og) (((T, IsLst acc) :: R) ++ (sh ++ own)) s → (∀ s', St0 W GR (((T, IsLst (acc ++ vs)) :: R) ++ sh) s' → Rr (.ok (.ret res)) s') → codeAny (model W.prog W.w) A (.builtin "list.extend.loop" ⟨[.ref T, .ref I, res], []⟩) Rr s
  | [], own, og, acc, A, s, hA, hy, hz, S, hR => by
    refine codeAny_builtin F.entry_extend_loop ?_
    rw [Around.under_plainId F.plain_extend_loop _]
    show wpAny _ A.in1 (pyNext (.ref I) >>= _) _ _ s
    refine wpAny_bind (hy.2 A.in1 _ GR s _ _ (Aok.in1 hA) S fun s' S' => wpAny_pure (hR s' ?_))
    rw [List.append_nil]; exact S'
  | v :: vs, own, og, acc, A, s, hA, hy, hz, S, hR => by
    refine codeAny_builtin F.entry_extend_loop ?_
    rw [Around.under_plainId F.plain_extend_loop _]
    show wpAny _ A.in1 (pyNext (.ref I) >>= _) _ _ s
    refine wpAny_bind (hy.2 A.in1 _ GR s _ _ (Aok.in1 hA) S fun own' og' s' S' hy' => ?_)
    show wpAny _ A.in1 (updateSeq T (·.push v) >>= _) _ _ _
    have S'' : St0 W (GR ++ og') ((T, IsLst acc) :: (R ++ (sh ++ own'))) s' := S'
    obtain ⟨n, hl⟩ := S''.isL (.head _)
    rw [List.length_cons] at hz
    refine wpAny_bind ?_
    refine wpAny_updateSeq hl rfl (wpAny_pure ⟨plainId_quiet F.plain_extend_loop _, extend_loop_y vs own' og' (acc ++ [v]) A _ hA hy' (by simp; omega) (S''.setL hl _ (by simp)) fun s'' S3 => hR s'' ?_⟩)
      (by simp; omega) (by show (acc.toArray.push v).size ≤ sizeLine + 1; simp; omega)
    rw [List.append_assoc] at S3; exact S3

end
end Mine
end
section
open PySem PySem.W PyProof.Rows PySem.W.X
set_option maxRecDepth 100000
namespace Mine
theorem Sta.to0 {W : Wd} {G : Gens} {env : Env} {loc : Loc} {nw : Ledger} {s : Shared} (S : Sta W G env loc nw s) : St0 W G ((env.locals, IsNs loc) :: nw) s := ⟨S.ok, S.led, S.bare, S.os, S.gens, S.gnd⟩
theorem St0.toSta {W : Wd} {G : Gens} {env : Env} {loc : Loc} {nw : Ledger} {s : Shared} (S : St0 W G ((env.locals, IsNs loc) :: nw) s) (e : EnvOk env (loc.map Prod.fst)) : Sta W G env loc nw s := ⟨S.ok, e, S.led, S.bare, S.os, S.gens, S.gnd⟩
theorem Sta.fewer {W : Wd} {G G' : Gens} {env : Env} {loc : Loc} {nw : Ledger} {s : Shared} (S : Sta W (G ++ G') env loc nw s) : Sta W G env loc nw s := (S.to0.fewer).toSta S.eok
theorem codeAny_for {prog : Program} {w : World} {A : Around} {s : Shared} {R : Result → Shared → Prop} {target : Expr} {it : Value} {body orelse : List Stmt} {env : Env} (I : Nat → Shared → Prop)
    (turn : ∀ n s, I n s → wpAny (model prog w) A (pyNext it) (fun r s₁ => match r with
      | none => wpAny (model prog w) A (execs orelse env) (fun f s₃ => R (.ok f) s₃) (fun _ _ => False) s₁
      | some v => wpAny (model prog w) A (letOwnedTupleGo target it v) (fun _ s₁ => wpAny (model prog w) A (assign target env v) (fun _ s₂ => wpAny (model prog w) A (execs body env) (fun f s₃ => match f with
          | .next | .cont => ∃ m, m < n ∧ I m s₃
          | .brk => R (.ok .next) s₃
          | .ret v => R (.ok (.ret v)) s₃) (fun _ _ => False) s₂) (fun _ _ => False) s₁) (fun _ _ => False) s₁) (fun _ _ => False) s)
    (n : Nat) (h : I n s) : codeAny (model prog w) A (.forLoop target it body orelse env) R s := by
  refine codeAny_loop' rfl I (fun n s hI => ?_) n h
  show wpAny _ _ ((forTurn target it body orelse env).onRaise (fun x => do noteFrame x env; theTreesLotGoes x)) _ _ s
  refine wpAny_noted ?_
  simp only [forTurn]
  refine wpAny_bind (wpAny_standAt (wpAny_bind (wpAny_onRaise (wpAny_mono (turn n s hI) (fun r s₁ h₁ => ?_) fun _ _ h' => h'.elim))))
  cases r with
  | none => exact wpAny_pure (.inr ⟨rfl, codeAny_block (wpAny_mono h₁ (fun _ _ h => h) fun _ _ h => h.elim)⟩)
  | some v =>
    refine wpAny_bind (wpAny_mono h₁ (fun _ s₁' h₁' => ?_) fun _ _ h' => h'.elim)
    refine wpAny_bind (wpAny_mono h₁' (fun _ s₂ h₂ => wpAny_bind (wpAny_mono h₂ (fun f s₃ h₃ => ?_) fun _ _ h' => h'.elim)) fun _ _ h' => h'.elim)
    cases f with
    | next => exact wpAny_pure (.inl ⟨rfl, h₃⟩)
    | cont => exact wpAny_pure (.inl ⟨rfl, h₃⟩)
    | brk => exact wpAny_pure h₃
    | ret v => exact wpAny_pure h₃

theorem tupGo {prog : Program} {w : World} {A : Around} {E : Value → Shared → Prop} {s : Shared} {target : Expr} {it : Addr} {v : Value} {o : Obj} {Q : Unit → Shared → Prop} (ho : s.heap.get? it = some o) (hp : plainIt o = true) (h : Q () s) : wpAny (model prog w) A (letOwnedTupleGo target (.ref it) v) Q E s := by
  have key : wpAny (model prog w) A (letOwnedTupleGo (.Tuple [] 0 default) (.ref it) v) Q E s := by
    unfold letOwnedTupleGo
    cases v with
    | ref a =>
      refine wpAny_bind (m := load it) (wpAny_load ho ?_)
      unfold plainIt at hp
      split
      · rename_i n vs hc hd
        rw [hc] at hp
        dsimp only at hp
        rw [Bool.not_eq_true'] at hp
        rw [hp]
        exact wpAny_pure h
      · exact wpAny_pure h
    | _ => exact wpAny_pure h
  cases target with
  | Tuple => exact key
  | List => exact key
  | _ => exact wpAny_pure h

section
variable {W : Wd} {sh : Ledger} {env : Env} {A : Around} {R : Result → Shared → Prop} {it : Addr} {target : Expr} {body : List Stmt}
/-- a for, by an invariant J of what is yet to come, the frame's names, the ledger -/
theorem for_y {α : Type} {P : α → Value → Prop} (hA : Aok 7 A) (J : List α → Loc → Ledger → Gens → Prop)
    (turn : ∀ x v rest tl tg loc nw G s, P x v → Sta W (G ++ tg) env loc (nw ++ (sh ++ tl)) s → J (x :: rest) loc nw G →
      wpAny (model W.prog W.w) A (assign target env v) (fun _ s₂ => wpAny (model W.prog W.w) A (execs body env) (fun f s₃ => match f with
          | .next | .cont => ∃ loc' nw' G', Sta W (G' ++ tg) env loc' (nw' ++ (sh ++ tl)) s₃ ∧ J rest loc' nw' G'
          | .brk => R (.ok .next) s₃
          | .ret v => R (.ok (.ret v)) s₃) (fun _ _ => False) s₂) (fun _ _ => False) s)
    (fin : ∀ loc nw G s, Sta W G env loc (nw ++ sh) s → J [] loc nw G → R (.ok .next) s)
    {xs : List α} {own : Ledger} {og G : Gens} {loc : Loc} {nw : Ledger} {s : Shared} (S : Sta W (G ++ og) env loc (nw ++ (sh ++ own)) s) (hy : YieldsR W sh it P xs own og) (hJ : J xs loc nw G) :
    codeAny (model W.prog W.w) A (.forLoop target (.ref it) body [] env) R s := by
  refine codeAny_for (fun n s => ∃ xs own og G loc nw, xs.length = n ∧ Sta W (G ++ og) env loc (nw ++ (sh ++ own)) s ∧ YieldsR W sh it P xs own og ∧ J xs loc nw G) (fun n s hI => ?_) xs.length ⟨xs, own, og, G, loc, nw, rfl, S, hy, hJ⟩
  obtain ⟨vs, own, og, G, loc, nw, hn, S, hy, hJ⟩ := hI
  cases vs with
  | nil =>
    refine hy.2 A ((env.locals, IsNs loc) :: nw) G s _ _ hA S.to0 fun s' S' => ?_
    exact wpAny_execs_nil (fin loc nw G s' (St0.toSta S' S.eok) hJ)
  | cons x rest =>
    refine hy.2 A ((env.locals, IsNs loc) :: nw) G s _ _ hA S.to0 fun v own' og' s' hp S' hy' => ?_
    have S1 : Sta W (G ++ og') env loc (nw ++ (sh ++ own')) s' := St0.toSta S' S.eok
    have ht : Typ sh it own' := by cases rest <;> exact hy'.1
    obtain ⟨c, hc, hpl⟩ := ht
    obtain ⟨o, ho, hco⟩ := S1.get (a := it) (c := c) (List.mem_append_right _ hc)
    refine tupGo ho (hpl o hco) ?_
    refine wpAny_mono (turn x v rest own' og' loc nw G s' hp S1 hJ) (fun _ s₂ h₂ => wpAny_mono h₂ (fun f s₃ h₃ => ?_) fun _ _ h => h) fun _ _ h => h
    cases f with
    | next => obtain ⟨loc', nw', G', S3, hJ'⟩ := h₃; exact ⟨rest.length, by rw [← hn]; simp, rest, own', og', G', loc', nw', rfl, S3, hy', hJ'⟩
    | cont => obtain ⟨loc', nw', G', S3, hJ'⟩ := h₃; exact ⟨rest.length, by rw [← hn]; simp, rest, own', og', G', loc', nw', rfl, S3, hy', hJ'⟩
    | brk => exact h₃
    | ret v => exact h₃
end
end Mine
end
section
open PySem PySem.W PyProof.Rows PySem.W.X
set_option maxRecDepth 100000
namespace Mine
noncomputable def IsCel (v : Option Value) : Cell := fun o => o.data = .cell v
structure CellOk (env : Env) (k : NameKind) (x : Str) (c : Addr) : Prop where
  kind : env.kindOf x = some k
  at_ : env.cells.lookup x = some c
  nodebug : (x == ("__debug__" : Str)) = false
  noclass : (x == ("__classdict__" : Str)) = false
section
variable {W : Wd} {G : Gens} {env : Env} {loc loc' : Loc} {nw nw' : Ledger} {s : Shared} {A : Around} {E : Value → Shared → Prop}
theorem Sta.isCell {c : Addr} {v : Option Value} (S : Sta W G env loc nw s) (m : (c, IsCel v) ∈ nw) : s.heap.IsCell c v := S.get m
theorem Sta.cell {x : Str} {pos : Pos} {c : Addr} {v : Value} {Q : Value → Shared → Prop} {M : Model} (S : Sta W G env loc nw s) (hc : CellOk env .cell x c) (m : (c, IsCel (some v)) ∈ nw) (h : Q v s) : wpAny M A (eval (.Name x pos) env) Q E s :=
  wpAny_Name (wpAny_loadName_cell S.eok.fn hc.kind hc.at_ (S.isCell m) h) hc.nodebug
theorem Sta.free {x : Str} {pos : Pos} {c : Addr} {v : Value} {Q : Value → Shared → Prop} {M : Model} (S : Sta W G env loc nw s) (hc : CellOk env .free x c) (m : (c, IsCel (some v)) ∈ nw) (h : Q v s) : wpAny M A (eval (.Name x pos) env) Q E s :=
  wpAny_Name (wpAny_loadName_free S.eok.fn hc.kind hc.at_ (S.isCell m) h hc.noclass) hc.nodebug
theorem Sta.storeC {x : Str} {c : Addr} {v : Value} {v₀ : Option Value} {Q : Unit → Shared → Prop} {M : Model} (S : Sta W G env loc nw s) (hc : CellOk env .cell x c) (U : Upd c (IsCel v₀) (IsCel (some v)) nw nw') (h : ∀ s', Sta W G env loc nw' s' → Q () s') : wpAny M A (storeName env x v) Q E s := by
  refine wpAny_storeName_cell S.eok.fn hc.kind hc.at_ (S.isCell U.mem) fun h' hc' hs => ?_
  obtain ⟨o, ho, hd⟩ := hc'
  exact h _ (S.set U (fun b o hb e => (hs.2 b hb).trans e) ho hd s.toks)
end

noncomputable def cellNames (names : List (Str × NameKind)) : List Str := (names.filter fun p => p.2 == .cell).map Prod.fst
theorem cellsFrom_eq : ∀ (names : List (Str × NameKind)) (n : Nat) (acc : List (Str × Addr)), cellsFrom n names acc = ((cellNames names).zip (List.range' n (cellNames names).length)).reverse ++ acc
  | [], n, acc => rfl
  | (x, k) :: r, n, acc => by
    unfold cellsFrom
    cases hk : k == .cell with
    | true =>
      rw [if_pos rfl, cellsFrom_eq r (n + 1) ((x, n) :: acc)]
      simp [cellNames, hk, List.range'_succ]
    | false =>
      rw [if_neg (by decide), cellsFrom_eq r n acc]
      simp [cellNames, hk]
theorem lookup_rev_zip : ∀ (ks : List Str) (n : Nat), ks.Nodup → ∀ i (h : i < ks.length), ((ks.zip (List.range' n ks.length)).reverse ++ []).lookup ks[i] = some (n + i)
  | [], _, _, i, h => by simp at h
  | k :: r, n, nd, i, h => by
    rw [List.nodup_cons] at nd
    rw [List.append_nil]
    simp only [List.length_cons, List.range'_succ, List.zip_cons_cons, List.reverse_cons, List.lookup_append]
    cases i with
    | zero =>
      have : ((r.zip (List.range' (n + 1) r.length)).reverse).lookup k = none := by
        rw [List.lookup_eq_none_iff]
        intro p hp
        rw [bne_iff_ne]
        intro e
        exact nd.1 (by rw [e]; exact (List.of_mem_zip (List.mem_reverse.mp hp)).1)
      simp [this]
    | succ j =>
      have hj : j < r.length := by simpa using h
      have := lookup_rev_zip r (n + 1) nd.2 j hj
      rw [List.append_nil] at this
      simp only [List.getElem_cons_succ, this]
      simp; omega

noncomputable def mapL (sc : Scope) (binds : List (Str × Value)) : List (Str × Value) := binds.filter fun p => sc.names.lookup p.1 == some .local
theorem bindL_eq (k : Str → Option NameKind) : ∀ (binds : List (Str × Value)) (m : Str → Option Value) (x : Str), (binds.map Prod.fst).Nodup → bindL k binds m x = ((binds.filter fun p => k p.1 == some .local).lookup x).or (m x)
  | [], m, x, _ => by simp [bindL]
  | (n, v) :: r, m, x, nd => by
    rw [List.map_cons, List.nodup_cons] at nd
    unfold bindL
    rw [bindL_eq k r _ x nd.2]
    by_cases hk : k n = some .local
    · rw [if_pos hk]
      rw [List.filter_cons_of_pos (by simp [hk]), List.lookup_cons]
      by_cases hx : x = n
      · subst hx
        have : (r.filter fun p => k p.1 == some .local).lookup x = none := by
          rw [List.lookup_eq_none_iff]
          intro p hp
          rw [bne_iff_ne]
          exact fun e => nd.1 (List.mem_map.mpr ⟨p, (List.mem_filter.mp hp).1, e.symm⟩)
        simp [this]
      · simp [beq_eq_false_iff_ne.mpr hx, hx]
    · rw [if_neg hk, List.filter_cons_of_neg (by simp [hk])]
theorem bindC_eq (k : Str → Option NameKind) : ∀ (binds : List (Str × Value)) (m : Str → Option Value) (x : Str), (binds.map Prod.fst).Nodup → k x ≠ some .local → bindC k binds m x = (binds.lookup x).or (m x)
  | [], m, x, _, _ => by simp [bindC]
  | (n, v) :: r, m, x, nd, hx => by
    rw [List.map_cons, List.nodup_cons] at nd
    unfold bindC
    rw [bindC_eq k r _ x nd.2 hx, List.lookup_cons]
    by_cases e : x = n
    · subst e
      rw [if_neg hx]
      have : r.lookup x = none := by
        rw [List.lookup_eq_none_iff]
        intro p hp
        rw [bne_iff_ne]
        exact fun e => nd.1 (List.mem_map.mpr ⟨p, hp, e.symm⟩)
      simp [this]
    · rw [beq_eq_false_iff_ne.mpr e]
      by_cases hk : k n = some .local
      · rw [if_pos hk]
      · rw [if_neg hk]; simp [e]

noncomputable def kindsC (sc : Scope) (binds : List (Str × Value)) (ks : List Str) : Bool := sc.kind == .function && !sc.isCoroutine && !sc.isGenerator && (binds.all fun x => sc.names.lookup x.1 == some .local || sc.names.lookup x.1 == some .cell) &&
  (ks.all fun x => sc.names.lookup x == some .local && !(x == ("__debug__" : Str))) && decide ks.Nodup && decide (binds.map Prod.fst).Nodup && decide (cellNames sc.names).Nodup &&
  ((cellNames sc.names).all fun x => sc.names.lookup x == some .cell && !(x == ("__debug__" : Str)) && !(x == ("__classdict__" : Str)))
noncomputable def CellsAt (env : Env) : List Str → List Addr → Prop
  | x :: xs, c :: cs => CellOk env .cell x c ∧ CellsAt env xs cs
  | [], [] => True
  | _, _ => False
noncomputable def cellLed : List (Option Value) → List Addr → Ledger
  | v :: vs, c :: cs => (c, IsCel v) :: cellLed vs cs
  | _, _ => []
theorem cellsAt_of {env : Env} : ∀ (ks : List Str) (n : Nat), (∀ i (h : i < ks.length), CellOk env .cell ks[i] (n + i)) → CellsAt env ks (List.range' n ks.length)
  | [], _, _ => trivial
  | k :: r, n, h => ⟨h 0 (by simp), cellsAt_of r (n + 1) fun i hi => by have := h (i + 1) (by simpa using hi); simp only [List.getElem_cons_succ] at this; rwa [show n + 1 + i = n + (i + 1) by omega]⟩
theorem cellLed_mem : ∀ (vs : List (Option Value)) (n : Nat) (p : Addr × Cell), p ∈ cellLed vs (List.range' n vs.length) → ∃ i, ∃ h : i < vs.length, p = (n + i, IsCel vs[i])
  | [], _, _, h => by simp [cellLed] at h
  | v :: vs, n, p, h => by
    simp only [List.length_cons, List.range'_succ, cellLed] at h
    rcases List.mem_cons.mp h with rfl | h
    · exact ⟨0, by simp, rfl⟩
    · obtain ⟨i, hi, e⟩ := cellLed_mem vs (n + 1) p h
      exact ⟨i + 1, by simpa using hi, by rw [e]; simp; omega⟩
theorem cellLed_keys : ∀ (vs : List (Option Value)) (n : Nat), (cellLed vs (List.range' n vs.length)).map Prod.fst = List.range' n vs.length
  | [], _ => rfl
  | v :: vs, n => by simp only [List.length_cons, List.range'_succ, cellLed, List.map_cons, cellLed_keys vs (n + 1)]

section
variable {W : Wd} {G : Gens} {env : Env} {loc loc' : Loc} {nw nw' : Ledger} {s : Shared} {A : Around} {E : Value → Shared → Prop}
theorem Sta.call_fnC {Q : Value → Shared → Prop} {f : Addr} {qual : Str} {st : Stmt} {dV kV cdv : Value} {pos : List Value} {kw : List (Str × Value)} {binds : List (Str × Value)} (bl : List (Str × Value)) (rest : List Str) (cv : List (Option Value))
    (S : Sta W G env loc nw s) (hf : Fn W.K f st qual dV kV cdv) (hroom : A.depth < recursionLimit) (hbind : Binds s st qual dV kV cdv ⟨pos, kw⟩ binds)
    (hbl : mapL (fnScope st) binds = bl) (hcv : (cellNames (fnScope st).names).map (fun n => binds.lookup n) = cv) (hk : kindsC (fnScope st) binds (bl.map Prod.fst ++ rest) = true)
    (h : ∀ L cs s', CellsAt (envOfC qual (fnScope st) L f cdv) (cellNames (fnScope st).names) cs → Sta W G (envOfC qual (fnScope st) L f cdv) (mkLoc bl rest) (cellLed cv cs ++ ((env.locals, IsNs loc) :: nw)) s' →
      wpAny (model W.prog W.w) (A.deeper (envOfC qual (fnScope st) L f cdv)) (execs (fnBody st) (envOfC qual (fnScope st) L f cdv)) (fun fl s'' => Q (match fl with | .ret v => v | _ => .none) s'') (fun _ _ => False) s') :
    wpAny (model W.prog W.w) A (call (.ref f) pos kw) Q E s := by
  obtain ⟨name, doc, pm, ct, oc, an, od, osl, ho⟩ := hf.at_
  simp only [kindsC, Bool.and_eq_true, beq_iff_eq, Bool.not_eq_true', List.all_eq_true, bne_iff_ne, decide_eq_true_eq, Bool.or_eq_true] at hk
  obtain ⟨⟨⟨⟨⟨⟨⟨⟨hkind, hco⟩, hgen⟩, hbk⟩, hks⟩, hnd⟩, hbnd⟩, hcnd⟩, hcs⟩ := hk
  have hks2 : ((mkLoc bl rest).map Prod.fst) = bl.map Prod.fst ++ rest := by
    simp [mkLoc, List.map_map, Function.comp_def]
  have hcf : cellsFrom (s.heap.objs.size + 1) (fnScope st).names [] = ((cellNames (fnScope st).names).zip (List.range' (s.heap.objs.size + 1) (cellNames (fnScope st).names).length)).reverse ++ [] := cellsFrom_eq _ _ _
  have hlk : ∀ i (hi : i < (cellNames (fnScope st).names).length), (cellsFrom (s.heap.objs.size + 1) (fnScope st).names []).lookup (cellNames (fnScope st).names)[i] = some (s.heap.objs.size + 1 + i) := fun i hi => by
    rw [hcf]; exact lookup_rev_zip _ _ hcnd i hi
  refine wpAny_call (codeAny_call_function (fd := fnOf name qual (fnArgs st) (fnBody st) (fnScope st) dV kV doc pm an cdv ct) hroom (S.kin _ _ ho) rfl hco hgen rfl (codeRec_of S.kin hf.code) (hbind _ _ _ _ _ _ _ _ _ ?_))
  refine wpAny_newFunctionEnv_cells hkind (fun x hx => ?_) fun env' he s' X => ?_
  · rcases hbk x hx with q | q
    · exact .inl q
    · refine .inr ⟨q, ?_⟩
      have : x.1 ∈ cellNames (fnScope st).names := by
        refine List.mem_map.mpr ⟨(x.1, .cell), List.mem_filter.mpr ⟨mem_of_lookup q, rfl⟩, rfl⟩
      obtain ⟨i, hi, e⟩ := List.getElem_of_mem this
      rw [← e, hlk i hi]; rfl
  · subst he
    have hkp := X.toInCall.keep
    obtain ⟨h₁, tk, e⟩ := X.toInCall.same
    refine ⟨S.nolimit.keeps hkp, codeAny_func ?_⟩
    have hlen : cv.length = (cellNames (fnScope st).names).length := by rw [← hcv]; simp
    have hE : newEnv (fnScope st) s.heap.objs.size mainGlobals (cellsFrom (s.heap.objs.size + 1) (fnScope st).names []) (qual ++ ".<locals>.") (some f) cdv none builtinsNs = envOfC qual (fnScope st) s.heap.objs.size f cdv := rfl
    have D : Led W.B (cellLed cv (List.range' (s.heap.objs.size + 1) cv.length) ++ ((s.heap.objs.size, IsNs (mkLoc bl rest)) :: (env.locals, IsNs loc) :: nw)) s'.heap := by
      have D0 : Led W.B ((s.heap.objs.size, IsNs (mkLoc bl rest)) :: (env.locals, IsNs loc) :: nw) s'.heap := by
        obtain ⟨o, es, ep, ho', hd, hsk, hf⟩ := X.toInCall.ns
        refine S.led.cons_new hkp S.led.size_ne S.led.size_new ho' ⟨by rw [hks2]; exact hnd, es, ep, hd, hsk, fun x => ?_⟩
        have hnd2 : (bl.map Prod.fst).Nodup := hnd.sublist (List.sublist_append_left _ _)
        rw [hf x, bindL_eq _ _ _ _ hbnd, Option.or_none, lk_mkLoc _ _ hnd2]
        show (mapL (fnScope st) binds).lookup x = _
        rw [hbl]
        have hrev : ∀ (l : List (Str × Value)), (l.map Prod.fst).Nodup → l.lookup x = l.reverse.lookup x := by
          intro l hl
          induction l with
          | nil => rfl
          | cons p r ih =>
            rw [List.map_cons, List.nodup_cons] at hl
            rw [List.reverse_cons, List.lookup_append, ← ih hl.2, List.lookup_cons, List.lookup_cons]
            by_cases q : x = p.1
            · subst q
              have : r.lookup p.1 = none := by
                rw [List.lookup_eq_none_iff]
                intro z hz
                rw [bne_iff_ne]
                exact fun e => hl.1 (List.mem_map.mpr ⟨z, hz, e.symm⟩)
              simp [this]
            · rw [beq_eq_false_iff_ne.mpr q]; simp
        exact hrev bl hnd2
      have hcell : ∀ i (hi : i < cv.length), s'.heap.IsCell (s.heap.objs.size + 1 + i) cv[i] := fun i hi => by
        have hi' : i < (cellNames (fnScope st).names).length := by rw [← hlen]; exact hi
        have := X.cell _ _ (hlk i hi')
        have hkc : (fnScope st).names.lookup (cellNames (fnScope st).names)[i] = some .cell := (hcs _ (List.getElem_mem hi')).1.1
        have e2 : bindC (newEnv (fnScope st) s.heap.objs.size mainGlobals (cellsFrom (s.heap.objs.size + 1) (fnScope st).names []) (qual ++ ".<locals>.") (some f) cdv none builtinsNs).kindOf binds (fun _ => none) (cellNames (fnScope st).names)[i] = cv[i] := by
          rw [bindC_eq _ _ _ _ hbnd (by show (fnScope st).names.lookup _ ≠ _; rw [hkc]; decide), Option.or_none]
          simp only [← hcv, List.getElem_map]
        rw [← e2]; exact this
      refine ⟨D0.keep, fun p hp => ?_, ?_⟩
      · rcases List.mem_append.mp hp with hp | hp
        · obtain ⟨i, hi, rfl⟩ := cellLed_mem _ _ _ hp
          obtain ⟨o, ho2, hd2⟩ := hcell i hi
          refine ⟨?_, o, ho2, hd2⟩
          cases q : W.B.get? (s.heap.objs.size + 1 + i) with
          | none => rfl
          | some o2 => exact absurd (Heap.lt_size (S.led.keep _ _ q)) (fun hh => by
              have hh' : s.heap.objs.size + 1 + i < s.heap.objs.size := hh
              omega)
        · exact D0.own p hp
      · rw [List.map_append, List.nodup_append, cellLed_keys]
        refine ⟨List.nodup_range', D0.nodup, fun a ha b hb e => ?_⟩
        subst e
        have hge : s.heap.objs.size + 1 ≤ a := by
          have := List.mem_range'_1.mp ha
          exact this.1
        rw [List.map_cons] at hb
        rcases List.mem_cons.mp hb with q | hb
        · exact absurd q (Nat.ne_of_gt hge)
        · obtain ⟨p, hp, q⟩ := List.mem_map.mp hb
          obtain ⟨o, ho2, _⟩ := (S.led.own p hp).2
          have hl : p.1 < s.heap.objs.size := Heap.lt_size ho2
          exact absurd q (Nat.ne_of_lt (Nat.lt_trans hl hge))
    have S' : Sta W G (envOfC qual (fnScope st) s.heap.objs.size f cdv) (mkLoc bl rest) (cellLed cv (List.range' (s.heap.objs.size + 1) cv.length) ++ ((env.locals, IsNs loc) :: nw)) s' := by
      subst e
      refine ⟨S.ok, by rw [hks2]; exact ⟨hkind, rfl, rfl, fun x hx => (hks x hx).1, fun x hx => (hks x hx).2, hnd⟩, D.perm List.perm_middle, S.bare, S.os, S.gens, S.gnd⟩
    refine wpAny_mono (h _ _ _ ?_ S') (fun fl s'' q => q) (fun _ _ q => q.elim)
    rw [hlen]
    refine cellsAt_of _ _ fun i hi => ⟨(hcs _ (List.getElem_mem hi)).1.1, hlk i hi, (hcs _ (List.getElem_mem hi)).1.2, (hcs _ (List.getElem_mem hi)).2⟩
end
end Mine
end
section
open PySem PySem.W PyProof.Rows PySem.W.X
set_option maxRecDepth 100000
namespace Mine
/-- a thing that is its own iterator -/
noncomputable def SelfIt (W : Wd) (it : Addr) (c : Cell) : Prop := ∀ A s (Q : Value → Shared → Prop) E o, s.heap.get? it = some o → c o → Q (.ref it) s → wpAny (model W.prog W.w) A (pyIter (.ref it)) Q E s

theorem codeAny_compLoop {prog : Program} {w : World} {A : Around} {s : Shared} {R : Result → Shared → Prop} {elt : Expr} {gens : List Comprehension} {scope : Scope} {pos p : Pos} {d : Nat} {target : Expr} {it acc : Value} {env : Env} {body : Sem Unit}
    (hT : compTurn (.ListComp elt gens scope pos) d it acc env = (standAt p >>= fun _ => pyNext it >>= fun r => match r with
      | none => pure (.done .next)
      | some v => letOwnedTupleGo target it v >>= fun _ => assign target env v >>= fun _ => body >>= fun _ => again (.compLoop (.ListComp elt gens scope pos) d it acc env)))
    (I : Nat → Shared → Prop)
    (turn : ∀ n s, I n s → wpAny (model prog w) A (pyNext it) (fun r s₁ => match r with
      | none => R (.ok .next) s₁
      | some v => wpAny (model prog w) A (letOwnedTupleGo target it v) (fun _ s₁ => wpAny (model prog w) A (assign target env v) (fun _ s₂ => wpAny (model prog w) A body (fun _ s₃ => ∃ m, m < n ∧ I m s₃)
          (fun _ _ => False) s₂) (fun _ _ => False) s₁) (fun _ _ => False) s₁) (fun _ _ => False) s)
    (n : Nat) (h : I n s) : codeAny (model prog w) A (.compLoop (.ListComp elt gens scope pos) d it acc env) R s := by
  refine codeAny_loop rfl I (fun n s hI => ?_) n h
  show wpAny _ _ ((compTurn (.ListComp elt gens scope pos) d it acc env).onRaise (fun x => do noteFrame x env; theTreesLotGoes x)) _ _ s
  refine wpAny_noted ?_
  rw [hT]
  refine wpAny_bind (wpAny_standAt (wpAny_bind (wpAny_mono (turn n s hI) (fun r s₁ h₁ => ?_) fun _ _ h' => h'.elim)))
  cases r with
  | none => exact wpAny_pure h₁
  | some v =>
    refine wpAny_bind (wpAny_mono h₁ (fun _ s₁' h₁' => ?_) fun _ _ h' => h'.elim)
    refine wpAny_bind (wpAny_mono h₁' (fun _ s₂ h₂ => wpAny_bind (wpAny_mono h₂ (fun _ s₃ h₃ => ?_) fun _ _ h' => h'.elim)) fun _ _ h' => h'.elim)
    exact wpAny_pure ⟨rfl, h₃⟩

section
variable {W : Wd} {sh : Ledger} {env : Env} {A : Around} {R : Result → Shared → Prop} {it : Addr} {target : Expr} {elt : Expr} {gens : List Comprehension} {scope : Scope} {pos p : Pos} {d : Nat} {acc : Value} {body : Sem Unit}
theorem comp_y {α : Type} {P : α → Value → Prop} (hA : Aok 7 A)
    (hT : compTurn (.ListComp elt gens scope pos) d (.ref it) acc env = (standAt p >>= fun _ => pyNext (.ref it) >>= fun r => match r with
      | none => pure (.done .next)
      | some v => letOwnedTupleGo target (.ref it) v >>= fun _ => assign target env v >>= fun _ => body >>= fun _ => again (.compLoop (.ListComp elt gens scope pos) d (.ref it) acc env)))
    (J : List α → Loc → Ledger → Gens → Prop)
    (turn : ∀ x v rest tl tg loc nw G s, P x v → Sta W (G ++ tg) env loc (nw ++ (sh ++ tl)) s → J (x :: rest) loc nw G →
      wpAny (model W.prog W.w) A (assign target env v) (fun _ s₂ => wpAny (model W.prog W.w) A body (fun _ s₃ => ∃ loc' nw' G', Sta W (G' ++ tg) env loc' (nw' ++ (sh ++ tl)) s₃ ∧ J rest loc' nw' G') (fun _ _ => False) s₂) (fun _ _ => False) s)
    (fin : ∀ loc nw G s, Sta W G env loc (nw ++ sh) s → J [] loc nw G → R (.ok .next) s)
    {vs : List α} {own : Ledger} {og G : Gens} {loc : Loc} {nw : Ledger} {s : Shared} (S : Sta W (G ++ og) env loc (nw ++ (sh ++ own)) s) (hy : YieldsR W sh it P vs own og) (hJ : J vs loc nw G) :
    codeAny (model W.prog W.w) A (.compLoop (.ListComp elt gens scope pos) d (.ref it) acc env) R s := by
  refine codeAny_compLoop hT (fun n s => ∃ vs own og G loc nw, vs.length = n ∧ Sta W (G ++ og) env loc (nw ++ (sh ++ own)) s ∧ YieldsR W sh it P vs own og ∧ J vs loc nw G) (fun n s hI => ?_) vs.length ⟨vs, own, og, G, loc, nw, rfl, S, hy, hJ⟩
  obtain ⟨vs, own, og, G, loc, nw, hn, S, hy, hJ⟩ := hI
  cases vs with
  | nil => exact hy.2 A ((env.locals, IsNs loc) :: nw) G s _ _ hA S.to0 fun s' S' => fin loc nw G s' (St0.toSta S' S.eok) hJ
  | cons x rest =>
    refine hy.2 A ((env.locals, IsNs loc) :: nw) G s _ _ hA S.to0 fun v own' og' s' hpv S' hy' => ?_
    have S1 : Sta W (G ++ og') env loc (nw ++ (sh ++ own')) s' := St0.toSta S' S.eok
    have ht : Typ sh it own' := by cases rest <;> exact hy'.1
    obtain ⟨c, hc, hp⟩ := ht
    obtain ⟨o, ho, hco⟩ := S1.get (a := it) (c := c) (List.mem_append_right _ hc)
    refine tupGo ho (hp o hco) ?_
    refine wpAny_mono (turn x v rest own' og' loc nw G s' hpv S1 hJ) (fun _ s₂ h₂ => wpAny_mono h₂ (fun f s₃ h₃ => ?_) fun _ _ h => h) fun _ _ h => h
    obtain ⟨loc', nw', G', S3, hJ'⟩ := h₃
    exact ⟨rest.length, by rw [← hn]; simp, rest, own', og', G', loc', nw', rfl, S3, hy', hJ'⟩
/-- the start of a comprehension's loop -/
theorem comp_start {c : Cell} {s : Shared} {g : Comprehension} (hg : gens[d]? = some g) (ha : g.is_async = 0) (hs : SelfIt W it c) (m : ∃ o, s.heap.get? it = some o ∧ c o)
    (h : codeAny (model W.prog W.w) A (.compLoop (.ListComp elt gens scope pos) d (.ref it) acc env) R s) :
    codeAny (model W.prog W.w) A (.compStart (.ListComp elt gens scope pos) d (.ref it) acc env) R s := by
  obtain ⟨o, ho, hc⟩ := m
  refine codeAny_of_tree ?_
  show wpAny _ _ ((compStart (.ListComp elt gens scope pos) d (.ref it) acc env).onRaise (fun x => do noteFrame x env; standAt theWindowsPlace)) _ _ s
  refine wpAny_notedAt ?_
  have e : (clausesOf (.ListComp elt gens scope pos))[d]? = some g := hg
  unfold compStart
  rw [e]
  simp only [Option.elim_some, ha]
  show wpAny _ _ (ask >>= _) _ _ s
  refine wpAny_bind (wpAny_askSetting (wpAny_ite ?_))
  split
  · exact wpAny_pure (And.intro rfl h)
  · exact wpAny_bind (wpAny_rule (wpAny_bind (wpAny_standAt (wpAny_bind (hs A _ _ _ o ho hc (wpAny_pure (And.intro rfl h)))))))
end

section
variable {W : Wd} {G : Gens} {env : Env} {loc loc' : Loc} {nw nw' : Ledger} {s : Shared} {A : Around} {E : Value → Shared → Prop}
noncomputable def kindsComp (sc : Scope) (ks : List Str) : Bool := sc.kind == .function && (sc.names.all fun x => x.2 != .cell) && (sc.names.all fun x => x.2 != .local || sc.names.lookup x.1 == some .local) && (ks.all fun x => sc.names.lookup x == some .local && !(x == ("__debug__" : Str))) && decide ks.Nodup
/-- what a comprehension does once its first iterator stands -/
noncomputable def CompK (W : Wd) (A : Around) (env : Env) (e : Expr) (scope : Scope) (cl : List (Str × Addr)) (ks : List Str) (Q : Value → Shared → Prop) (it : Value) (s : Shared) : Prop :=
  ∃ G loc nw, Sta W G env loc nw s ∧ ∀ acc C s', EnvOk (compEnvC scope cl C env) ks → Sta W G (compEnvC scope cl C env) (ks.map fun k => (k, none)) ((acc, IsLst []) :: (env.locals, IsNs loc) :: nw) s' →
    codeAny (model W.prog W.w) A (.compStart e 0 it (.ref acc) (compEnvC scope cl C env)) (fun r s'' => ∃ f loc' nw' G', r = .ok f ∧ Sta W G' (compEnvC scope cl C env) loc' ((env.locals, IsNs loc) :: nw') s'' ∧ ∀ s₃, Sta W G' env loc nw' s₃ → Q (.ref acc) s₃) s'
theorem listComp {elt target iter : Expr} {gens : List Comprehension} {scope : Scope} {pos : Pos} {cl : List (Str × Addr)} {Q : Value → Shared → Prop} (ks : List Str)
    (hclos : closureFor scope env = pure cl) (hk : kindsComp scope ks = true) (he : env.globals = mainGlobals) (hb : env.builtins = builtinsNs)
    (h : wpAny (model W.prog W.w) A (eval iter env) (fun x s₁ => wpAny (model W.prog W.w) A (pyIter x) (fun it s₂ => CompK W A env (.ListComp elt (⟨target, iter, [], 0⟩ :: gens) scope pos) scope cl ks Q it s₂) E s₁) E s)
    (hs : ∀ x, foldedSetIterable iter env x = pure x := by intro _; rfl) :
    wpAny (model W.prog W.w) A (eval (.ListComp elt (⟨target, iter, [], 0⟩ :: gens) scope pos) env) Q E s := by
  simp only [kindsComp, Bool.and_eq_true, beq_iff_eq, Bool.not_eq_true', List.all_eq_true, bne_iff_ne, decide_eq_true_eq, Bool.or_eq_true] at hk
  obtain ⟨⟨⟨⟨hkind, hcell⟩, hnames⟩, hks⟩, hnd⟩ := hk
  rw [eval_ListComp]
  refine wpAny_comprehension_free (use := none) (cl := cl) rfl hs hclos hkind (fun x hx hl => (hnames x hx).resolve_left fun q => q hl) (wpAny_mono h (fun xv s₁ h₁ => wpAny_mono h₁ (fun it s₂ h₂ => ?_) fun _ _ e => e) fun _ _ e => e)
  obtain ⟨G, loc, nw, S, kk⟩ := h₂
  refine S.newList (by simp) fun acc s₃ S₃ => ?_
  refine wpAny_newFunctionEnv hcell (by intro y hy; simp at hy) (fun h₁ hns hsb => ?_) hkind
  have hkp : ∀ b o, s₃.heap.get? b = some o → h₁.get? b = some o := fun b o e => hsb.extBut b o (Nat.ne_of_lt (Heap.lt_size e)) (Heap.get?_push_of_some _ e)
  have D : Led W.B ((s₃.heap.objs.size, IsNs (ks.map fun k => (k, none))) :: (env.locals, IsNs loc) :: (acc, IsLst []) :: nw) h₁ := by
    obtain ⟨o, es, ep, ho', hd, hsk, hf⟩ := hns
    refine S₃.led.cons_new hkp S₃.led.size_ne S₃.led.size_new ho' ⟨by rw [List.map_map]; simpa [Function.comp_def] using hnd, es, ep, hd, hsk, fun x => ?_⟩
    rw [hf x, lk_none]; rfl
  have ek : (ks.map fun k => ((k, none) : Str × Option Value)).map Prod.fst = ks := by rw [List.map_map]; simp [Function.comp_def]
  have eok : EnvOk (compEnvC scope cl s₃.heap.objs.size env) ks := ⟨hkind, he, hb, fun x hx => lookup_relabel_local (hks x hx).1, fun x hx => (hks x hx).2, hnd⟩
  refine codeAny_mono (kk acc s₃.heap.objs.size { s₃ with heap := h₁, toks := s₃.toks + 0 } eok ⟨S₃.ok, by rw [ek]; exact eok, D.perm (List.Perm.cons _ (List.Perm.swap ..)), S₃.bare, S₃.os, S₃.gens, S₃.gnd⟩) fun r s'' h'' => ?_
  obtain ⟨f, loc', nw', G', rfl, S', hQ⟩ := h''
  refine ⟨_, S'.ns, fun h' hs' => hQ _ ⟨S'.ok, S.eok, ?_, S'.bare, S'.os, S'.gens, S'.gnd⟩⟩
  have := Led.dropBack (nw := []) (h' := h') S'.led fun b o hb e => (hs'.2 b hb).trans e
  exact this
end
end Mine
end
section
open PySem PySem.W PyProof.Rows PySem.W.X
set_option maxRecDepth 100000
namespace Mine
noncomputable def IsCodeQ (qual : Str) : Cell := fun o => ∃ vs t, o.data = .fields vs ∧ vs[1]? = some (.str qual t)
noncomputable def IsTab (ps : List Value) : Cell := fun o => o = tabObj ps.toArray
noncomputable def IsLam (qual : Str) (params : Arguments) (body : Expr) (scope : Scope) (clos : List (Str × Addr)) (c' : Addr) : Cell := fun o => ∃ pm ctv, o = kla_obj "<lambda>" qual params body scope clos pm c' ctv
/-- the table of the law's own inner codes: none, or that of its one lambda -/
noncomputable def Tabs (P : Addr) (pos : Pos) (qual : Str) (c? : Option Addr) : Ledger := match c? with
  | none => [(P, IsTab [])]
  | some c' => [(P, IsTab [rawInt pos.line, rawInt pos.col, .ref c']), (c', IsCodeQ qual)]
noncomputable def frees (names : List (Str × NameKind)) : List Str := (names.filter fun p => p.2 == .free).map Prod.fst
theorem closure_go {env : Env} (ca : Str → Addr) (f : Str × NameKind → List (Str × Addr) → Sem (ForInStep (List (Str × Addr))))
    (hf : ∀ x cs, f x cs = if x.2 == .free then (cellOf env x.1 >>= fun c => pure (.yield ((x.1, c) :: cs))) else pure (.yield cs)) :
    ∀ (names : List (Str × NameKind)) (acc : List (Str × Addr)), (∀ x ∈ frees names, env.cells.lookup x = some (ca x)) →
    forIn names acc f = (pure (((frees names).map fun x => (x, ca x)).reverse ++ acc) : Sem _)
  | [], acc, _ => rfl
  | (n, k) :: r, acc, h => by
    rw [List.forIn_cons, hf]
    cases hk : k == .free with
    | true =>
      have e : frees ((n, k) :: r) = n :: frees r := by simp [frees, hk]
      have hc : cellOf env n = pure (ca n) := by unfold cellOf; rw [h n (by rw [e]; exact .head _)]
      simp only [if_true, hc, pure_bind]
      rw [closure_go ca f hf r _ fun x hx => h x (by rw [e]; exact .tail _ hx), e]
      simp
    | false =>
      have e : frees ((n, k) :: r) = frees r := by simp [frees, hk]
      simp only [Bool.false_eq_true, if_false, pure_bind]
      rw [closure_go ca f hf r _ fun x hx => h x (by rw [e]; exact hx), e]
theorem closure_eq {scope : Scope} {env : Env} (ca : Str → Addr) (h : ∀ x ∈ frees scope.names, env.cells.lookup x = some (ca x)) : closureFor scope env = pure (((frees scope.names).map fun x => (x, ca x)).reverse) := by
  simp only [closureFor]
  rw [closure_go ca _ (fun x cs => by obtain ⟨n, k⟩ := x; cases hk : k == NameKind.free <;> simp) _ _ h]
  simp
theorem closure_one {scope : Scope} {env : Env} {x : Str} {c : Addr} (h : frees scope.names = [x]) (hc : CellOk env .cell x c) : closureFor scope env = pure [(x, c)] := by
  rw [closure_eq (fun _ => c) (by rw [h]; intro y hy; rw [List.mem_singleton.mp hy]; exact hc.at_), h]; rfl
theorem closure_two {scope : Scope} {env : Env} {x y : Str} {c d : Addr} (h : frees scope.names = [x, y]) (hn : (y == x) = false) (hc : CellOk env .cell x c) (hd : CellOk env .cell y d) : closureFor scope env = pure [(y, d), (x, c)] := by
  rw [closure_eq (fun z => if z == x then c else d) (by
    rw [h]; intro z hz
    rcases List.mem_cons.mp hz with rfl | hz
    · simp [hc.at_]
    · rw [List.mem_singleton.mp hz, hn]; exact hd.at_), h]
  simp [beq_eq_false_iff_ne.mp hn]
section
variable {W : Wd} {G : Gens} {env : Env} {loc loc' : Loc} {nw nw' : Ledger} {s : Shared} {A : Around} {E : Value → Shared → Prop}
theorem Sta.bmAt (S : Sta W G env loc nw s) {P : Addr} {c : Cell} (m : (P, c) ∈ nw) : ∃ mg, s.heap.Ns mainGlobals mg ∧ mainGlobals ≠ P ∧ s.heap.BuiltinsAt mg P := by
  obtain ⟨mg, bm, ob, hg, h1, h2, h3, h4, h5, h6, h7⟩ := S.ok.bm
  have hB := (S.led.own _ (.tail _ m)).1
  refine ⟨mg, hg.keeps S.led.keep, fun q => ?_, bm, ob, h1, h2, h3, fun q => ?_, S.led.keep _ _ h4, h5, h6, h7⟩
  · obtain ⟨o, es, ep, e, _⟩ := hg
    rw [q] at e; rw [hB] at e; cases e
  · rw [q] at h4; rw [hB] at h4; cases h4
theorem Sta.lambda {params : Arguments} {body : Expr} {scope : Scope} {pos : Pos} {clos : List (Str × Addr)} {P c : Addr} {c? : Option Addr} {Q : Value → Shared → Prop}
    (S : Sta W G env loc (Tabs P pos (env.qual ++ "<lambda>") c? ++ nw) s) (hdef : defaultsOf params env = ([], [])) (hcl : closureFor scope env = pure clos) (hcode : env.code = .ref c) (C : CodeHd W.B c P)
    (h : ∀ f c' s', Sta W G env loc ((f, IsLam (env.qual ++ "<lambda>") params body scope clos c') :: (Tabs P pos (env.qual ++ "<lambda>") (some c') ++ nw)) s' → Q (.ref f) s') :
    wpAny (model W.prog W.w) A (eval (.Lambda params body scope pos) env) Q E s := by
  refine kla_eval hdef ?_
  cases c? with
  | none =>
    have m : (P, IsTab []) ∈ Tabs P pos (env.qual ++ "<lambda>") none ++ nw := .head _
    obtain ⟨mg, hg, hgP, hb⟩ := S.bmAt m
    obtain ⟨o, hP, rfl⟩ := S.get m
    refine kla_makeFunction hcl S.eok.glob hg hcode (C.keeps S.led.keep) hP trivial rfl hgP hb fun c' ctv h' tk hx hge hlt hrec hP' => ?_
    obtain ⟨c2, oc, vs, t, e, hc, hd, hv⟩ := hrec
    cases e
    refine h _ c' _ ?_
    have D := S.led
    have hne : ∀ p ∈ ((env.locals, IsNs loc) :: (Tabs P pos (env.qual ++ "<lambda>") none ++ nw)), p.1 ≠ c' := fun p hp q => by
      obtain ⟨o2, ho2, _⟩ := (D.own p hp).2
      have := Heap.lt_size ho2
      rw [q] at this
      exact absurd hge (Nat.not_le.mpr this)
    have D1 : Led W.B ((env.locals, IsNs loc) :: (P, IsTab [rawInt pos.line, rawInt pos.col, .ref c']) :: nw) h' := by
      refine D.set (a := P) (c := IsTab []) (.tail .head) (fun b o hb e => hx b o hb e) hP' ?_
      show tabObj _ = tabObj _
      simp
    have D2 : Led W.B ((c', IsCodeQ (env.qual ++ "<lambda>")) :: (env.locals, IsNs loc) :: (P, IsTab [rawInt pos.line, rawInt pos.col, .ref c']) :: nw) h' := by
      refine D1.cons_new (fun _ _ e => e) (fun q => ?_) ?_ hc ⟨vs, t, hd, hv⟩
      · obtain ⟨p, hp, e⟩ := List.mem_map.mp q
        rcases List.mem_cons.mp hp with rfl | hp
        · exact hne _ (.head _) e
        rcases List.mem_cons.mp hp with rfl | hp
        · exact hne (P, IsTab []) (.tail _ (.head _)) e
        · exact hne p (.tail _ (.tail _ hp)) e
      · cases q : W.B.get? c' with
        | none => rfl
        | some o2 => exact absurd (Heap.lt_size (D.keep _ _ q)) (Nat.not_lt.mpr hge)
    have D3 := D2.new (c := IsLam (env.qual ++ "<lambda>") params body scope clos c') (o := kla_obj "<lambda>" (env.qual ++ "<lambda>") params body scope clos ((mg "__name__").getD .none) c' ctv) rfl ⟨_, _, rfl⟩
    refine ⟨S.ok, S.eok, D3.perm ?_, S.bare, S.os, S.gens, S.gnd⟩
    show List.Perm (_ :: (c', _) :: (env.locals, _) :: (P, _) :: nw) ((env.locals, _) :: _ :: (P, _) :: (c', _) :: nw)
    refine (List.Perm.cons _ (List.Perm.swap ..)).trans ((List.Perm.swap ..).trans (List.Perm.cons _ (List.Perm.cons _ (List.Perm.swap ..))))
  | some c' =>
    have m : (P, IsTab [rawInt pos.line, rawInt pos.col, .ref c']) ∈ Tabs P pos (env.qual ++ "<lambda>") (some c') ++ nw := .head _
    obtain ⟨mg, hg, hgP, hb⟩ := S.bmAt m
    obtain ⟨o, hP, rfl⟩ := S.get m
    refine kla_makeFunctionHit (cv := .ref c') hcl S.eok.glob hg hcode (C.keeps S.led.keep) hP ⟨⟩ (by simp [codeAmong, rawInt]) hb fun ctv h' tk hk _ => ?_
    refine h _ c' _ ?_
    exact (S.grow hk tk).new (c := IsLam (env.qual ++ "<lambda>") params body scope clos c') rfl ⟨_, _, rfl⟩ tk
theorem Sta.call_lam {qual : Str} {params : Arguments} {body : Expr} {scope : Scope} {clos : List (Str × Addr)} {f c' : Addr} {Q : Value → Shared → Prop} {pos : List Value} {binds : List (Str × Value)}
    (S : Sta W G env loc nw s) (m : (f, IsLam qual params body scope clos c') ∈ nw) (mc : (c', IsCodeQ qual) ∈ nw) (hroom : A.depth < recursionLimit)
    (hbind : ∀ pm ctv, bindArgs (kla_fn "<lambda>" qual params body scope clos pm (.ref c') ctv) ⟨pos, []⟩ = pure binds) (hk : kindsOk scope (binds.map Prod.fst) = true)
    (h : ∀ L s', Sta W G (envX qual scope L f (.ref c') clos) (mkLoc binds []) ((env.locals, IsNs loc) :: nw) s' →
      wpAny (model W.prog W.w) (A.deeper (envX qual scope L f (.ref c') clos)) (eval body (envX qual scope L f (.ref c') clos)) Q (fun _ _ => False) s') :
    wpAny (model W.prog W.w) A (call (.ref f) pos) Q E s := by
  simp only [kindsOk, Bool.and_eq_true, beq_iff_eq, Bool.not_eq_true', List.all_eq_true, bne_iff_ne, decide_eq_true_eq] at hk
  obtain ⟨⟨⟨⟨⟨hkind, hco⟩, hgen⟩, hcell⟩, hks⟩, hnd⟩ := hk
  have hks2 : ((mkLoc binds []).map Prod.fst) = binds.map Prod.fst := by
    simp [mkLoc, List.map_map, Function.comp_def]
  obtain ⟨o, ho, pm, ctv, rfl⟩ := S.get m
  obtain ⟨oc, hoc, vs, t, hd, hv⟩ := S.get mc
  refine wpAny_call (kla_callFunE hroom ho rfl hco hgen rfl ⟨c', oc, vs, t, rfl, hoc, hd, hv⟩ ?_)
  rw [hbind]
  refine wpAny_pure (wpAny_newFunctionEnv hcell (fun x hx => (hks x.1 (List.mem_map.mpr ⟨x, hx, rfl⟩)).1) (fun h₁ hns hsb => ?_) hkind)
  have hkp : ∀ b o, s.heap.get? b = some o → h₁.get? b = some o := fun b o e => hsb.extBut b o (Nat.ne_of_lt (Heap.lt_size e)) (Heap.get?_push_of_some _ e)
  refine ⟨S.nolimit.keeps hkp, kla_codeExpr ?_⟩
  have D : Led W.B ((s.heap.objs.size, IsNs (mkLoc binds [])) :: (env.locals, IsNs loc) :: nw) h₁ := by
    obtain ⟨o, es, ep, ho', hd, hsk, hf⟩ := hns
    refine S.led.cons_new hkp S.led.size_ne S.led.size_new ho' ⟨by rw [hks2]; exact hnd, es, ep, hd, hsk, fun x => ?_⟩
    rw [hf x, lk_mkLoc _ _ hnd]
  have S' : Sta W G (envX qual scope s.heap.objs.size f (.ref c') clos) (mkLoc binds []) ((env.locals, IsNs loc) :: nw) { s with heap := h₁, toks := s.toks + binds.length } :=
    ⟨S.ok, by rw [hks2]; exact ⟨hkind, rfl, rfl, fun x hx => (hks x hx).1, fun x hx => (hks x hx).2, hnd⟩, D, S.bare, S.os, S.gens, S.gnd⟩
  exact wpAny_mono (h _ _ S') (fun fl s'' q => q) (fun _ _ q => q.elim)
end
end Mine
end
section
open PySem PySem.W PyProof.Rows PySem.W.X
set_option maxRecDepth 100000
namespace Mine
noncomputable def IsRng (a b : Int) : Cell := fun o => ∃ t u v, o = { cls := .type "range", dict := none, data := .fields #[.int a t, .int b u, .int 1 v], slots := #[] }
noncomputable def IsRngIt (x left : Int) : Cell := fun o => o = { cls := .type "range_iterator", dict := none, data := .fields #[rawInt x, rawInt left, rawInt 1], slots := #[] }
theorem plain_rng {d : Option Addr} {dt : Data} {sl : Array (Option Value)} : plainIt { cls := .type "range_iterator", dict := d, data := dt, slots := sl } = true := by unfold plainIt; dsimp only; decide
theorem yields_range {W : Wd} {sh : Ledger} {it : Addr} : ∀ (n a : Nat), YieldsR W sh it (fun (k : Nat) v => ∃ t, v = .int (k : Int) t) (List.range' a n) [(it, IsRngIt (a : Int) (n : Int))] []
  | 0, a => ⟨⟨IsRngIt (a : Int) ((0 : Nat) : Int), by simp, fun o h => by rw [h]; exact plain_rng⟩, fun A R GR s Q E hA S hQ => by
    have D0 : Led W.B ((R ++ sh) ++ ((it, IsRngIt (a : Int) ((0 : Nat) : Int)) :: [])) s.heap := by rw [List.append_assoc]; exact S.led
    obtain ⟨o, ho, rfl⟩ := D0.get (a := it) (c := IsRngIt (a : Int) ((0 : Nat) : Int)) (by simp)
    refine wpAny_pyNext_range_end hA.handled ho (by simp) fun h' hx => hQ _ ?_
    refine ⟨S.ok, ?_, S.bare, S.os, fun p hp => S.gens p (by simpa using hp), by simpa using S.gnd⟩
    exact (D0.dropBack fun b o hb e => hx b o hb e).sub (List.sublist_append_left _ _)⟩
  | n + 1, a => by
    rw [List.range'_succ]
    refine ⟨⟨IsRngIt (a : Int) ((n + 1 : Nat) : Int), by simp, fun o h => by rw [h]; exact plain_rng⟩, ?_⟩
    intro A R GR s Q E hA S hQ
    have D0 : Led W.B ((R ++ sh) ++ ((it, IsRngIt (a : Int) ((n + 1 : Nat) : Int)) :: [])) s.heap := by rw [List.append_assoc]; exact S.led
    obtain ⟨o, ho, rfl⟩ := D0.get (a := it) (c := IsRngIt (a : Int) ((n + 1 : Nat) : Int)) (by simp)
    refine wpAny_pyNext_range_item ho (by omega) fun h' hit hs => ?_
    have D1 := D0.back (c' := IsRngIt ((a + 1 : Nat) : Int) (n : Int)) (h' := h') (fun b o hb e => (hs.2 b hb).trans e) hit (by
      have e1 : ((a : Int) + 1) = ((a + 1 : Nat) : Int) := by omega
      have e2 : (((n + 1 : Nat) : Int) - 1) = (n : Int) := by omega
      rw [e1, e2]; rfl)
    rw [List.append_assoc] at D1
    exact hQ _ _ [] _ ⟨_, rfl⟩ ⟨S.ok, D1, S.bare, S.os, S.gens, S.gnd⟩ (yields_range n (a + 1))

theorem self_rng {W : Wd} {it : Addr} {x left : Int} : SelfIt W it (IsRngIt x left) := fun A s Q E o ho hc h => by
  subst hc
  have hT : s.TypeIs (.ref it) "range_iterator" := ⟨_, ho, rfl⟩
  refine wpAny_pyIter_slot hT F.slot_range_iterator_iter (wpAny_call_entry F.slot_range_iterator_iter hT F.entry_range_iterator_iter ?_ (F.args_range_iterator_iter_1 _))
  exact wpAny_pure ⟨_, rfl, "range_iterator", _, hT, F.slot_range_iterator_next.lookup, h⟩
theorem self_li {W : Wd} {it l : Addr} {i : Nat} : SelfIt W it (IsLI l i) := fun A s Q E o ho hc h => wpAny_pyIter_listiter ⟨o, ho, hc.1, hc.2⟩ h

section
variable {W : Wd} {G : Gens} {env : Env} {loc loc' : Loc} {nw nw' : Ledger} {s : Shared} {A : Around} {E : Value → Shared → Prop}
theorem Sta.range1 {n : Int} {t : Tok} {Q : Value → Shared → Prop} (S : Sta W G env loc nw s) (h : ∀ r s', Sta W G env loc ((r, IsRng 0 n) :: nw) s' → Q (.ref r) s') : wpAny (model W.prog W.w) A (call (.type "range") [.int n t]) Q E s :=
  call_range_1 (h _ _ (S.new (c := IsRng 0 n) rfl ⟨_, _, _, rfl⟩ _))
theorem Sta.iterRange {r : Addr} {a b : Nat} {Q : Value → Shared → Prop} (S : Sta W G env loc nw s) (m : (r, IsRng (a : Int) (b : Int)) ∈ nw) (ha : a ≤ 1000000) (hb : b ≤ 1000000) (h : ∀ it s', Sta W G env loc ((it, IsRngIt (a : Int) ((b - a : Nat) : Int)) :: nw) s' → Q (.ref it) s') :
    wpAny (model W.prog W.w) A (pyIter (.ref r)) Q E s := by
  obtain ⟨o, ho, t, u, v, rfl⟩ := S.get m
  refine wpAny_pyIter_range ho (small_one (by omega) (by omega) (by omega) (by omega)) (h _ _ (S.new (c := IsRngIt (a : Int) ((b - a : Nat) : Int)) rfl ?_ s.toks))
  rw [rangeSize_one]
  have : (if (a : Int) < (b : Int) then (b : Int) - (a : Int) else 0) = ((b - a : Nat) : Int) := by split <;> omega
  rw [this]; rfl
theorem Sta.iterList {l : Addr} {xs : List Value} {Q : Value → Shared → Prop} (S : Sta W G env loc nw s) (m : (l, IsLst xs) ∈ nw) (h : ∀ it s', Sta W G env loc ((it, IsLI l 0) :: nw) s' → Q (.ref it) s') :
    wpAny (model W.prog W.w) A (pyIter (.ref l)) Q E s :=
  wpAny_pyIter_list (S.isList m) (h _ _ (S.new (c := IsLI l 0) rfl ⟨rfl, rfl⟩ s.toks))
theorem Sta.reversed {l : Addr} {xs : List Value} {Q : Value → Shared → Prop} (S : Sta W G env loc nw s) (m : (l, IsLst xs) ∈ nw) (h : ∀ it s', Sta W G env loc ((it, IsRI l ((xs.length : Int) - 1)) :: nw) s' → Q (.ref it) s') :
    wpAny (model W.prog W.w) A (call (.type "reversed") [.ref l]) Q E s :=
  call_reversed_list (S.isList m) (h _ _ (S.new (c := IsRI l ((xs.length : Int) - 1)) rfl ⟨rfl, by simp [revObj]⟩ s.toks))
theorem Sta.iterRev {it l : Addr} {i : Int} {Q : Value → Shared → Prop} (S : Sta W G env loc nw s) (m : (it, IsRI l i) ∈ nw) (h : Q (.ref it) s) : wpAny (model W.prog W.w) A (pyIter (.ref it)) Q E s := by
  obtain ⟨o, ho, hc, hd⟩ := S.get m
  exact wpAny_pyIter_revIter ⟨o, ho, hc, hd⟩ h
/-- items -/
theorem Sta.item {l : Addr} {xs : List Value} {k : Int} {t : Tok} {v : Value} {Q : Value → Shared → Prop} (S : Sta W G env loc nw s) (m : (l, IsLst xs) ∈ nw) (h0 : 0 ≤ k) (h1 : k < 1000000) (hx : xs[k.toNat]? = some v) (h : Q v s) :
    wpAny (model W.prog W.w) A (getItem (.ref l) (.int k t)) Q E s := wpAny_getItem_list (S.isList m) h0 (by omega) (by simpa using hx) h
theorem Sta.sub_list {l : Addr} {xs : List Value} {k : Int} {t : Tok} {v : Value} {Q : Value → Shared → Prop} (S : Sta W G env loc nw s) (m : (l, IsLst xs) ∈ nw) (h0 : 0 ≤ k) (h1 : k < 1000000) (hx : xs[k.toNat]? = some v) (h : Q v s) :
    SubscriptOn (model W.prog W.w) A (.ref l) (.int k t) Q E s := ⟨"list", _, F.slot_list_getitem.lookup, (S.isList m).typeIs, S.item m h0 h1 hx h⟩
/-- any subscript by an index, whatever stands ahead of it -/
theorem Subscript_any {value slice : Expr} {pos : Pos} {Q : Value → Shared → Prop}
    (h : wpAny (model W.prog W.w) A (eval value env) (fun o s₁ => wpAny (model W.prog W.w) A (eval slice env) (fun i s₂ => SubscriptOn (model W.prog W.w) A o i Q E s₂) E s₁) E s)
    (he : ∀ o i, subscripted slice false o i = operate [o, i] (getItem o i)) :
    wpAny (model W.prog W.w) A (eval (.Subscript value slice pos) env) Q E s := by
  rw [eval_Subscript]
  refine wpAny_bind (wpAny_mono h (fun o s₁ h₁ => wpAny_bind (wpAny_holding (wpAny_mono h₁ (fun i s₂ h₂ => wpAny_bind (wpAny_standAt ?_)) fun _ _ x => x))) fun _ _ x => x)
  obtain ⟨T, id, hl, hT, hg⟩ := h₂
  refine wpAny_bind ?_
  rw [getitemInPython_of_ne hT.not_modules]
  refine wpAny_bind (wpAny_specialOf hT hl ?_)
  have fin : wpAny (model W.prog W.w) A (subscripted slice false o i) (fun r s₃ => wpAny (model W.prog W.w) A (letTemporaryGo value o r >>= fun _ => pure r) Q E s₃) E s₂ := by
    rw [he]
    exact wpAny_operating (wpAny_mono hg (fun r s₃ h₃ => wpAny_bind (wpAny_letTemporaryGo (wpAny_pure h₃))) fun _ _ x => x)
  first
    | exact wpAny_pure (wpAny_bind fin)
    | exact wpAny_bind (wpAny_pure (wpAny_bind fin))
    | exact wpAny_bind fin
theorem Sta.fdiv {a b : Int} {t u : Tok} {Q : Value → Shared → Prop} (S : Sta W G env loc nw s) (hb : b ≠ 0) (hp : b.natAbs < 1073741824) (h : ∀ t s', Sta W G env loc nw s' → Q (.int (a.fdiv b) t) s') : wpAny (model W.prog W.w) A (binaryOp .FloorDiv (.int a t) (.int b u)) Q E s :=
  floordiv_int hb (h _ _ (S.toks _)) (.inl (PyProof.noPylong_small hp))
theorem Sta.iadd {a b : Int} {t u : Tok} {Q : Value → Shared → Prop} (S : Sta W G env loc nw s) (h : ∀ t s', Sta W G env loc nw s' → Q (.int (a + b) t) s') : wpAny (model W.prog W.w) A (inplaceOp .Add (.int a t) (.int b u)) Q E s :=
  PyProof.Rows.iadd_int (h _ _ (S.toks _))
/-- a tuple unpacked -/
theorem Sta.isTup {a : Addr} {xs : List Value} (S : Sta W G env loc nw s) (m : (a, IsTpl xs) ∈ nw) : IsTup s.heap a xs.toArray := by
  obtain ⟨o, ho, n, rfl⟩ := S.get m
  exact ⟨_, ho, rfl, n, rfl⟩
theorem Sta.unpackI {a : Addr} {xs : List Value} {n : Nat} {Q : List Value → Shared → Prop} (S : Sta W G env loc nw s) (hh : A.handled = none) (m : (a, IsTpl xs) ∈ nw) (hn : n = xs.length) (h : ∀ s', Sta W G env loc nw s' → Q xs s') : wpAny (model W.prog W.w) A (unpackItems (.ref a) n none) Q E s := by
  subst hn
  have e : xs.length = xs.toArray.size := by simp
  rw [e]
  exact unpackItems_tuple hh (S.isTup m) fun h' he => h _ (S.grow (fun b o e => he b o (Nat.ne_of_lt (Heap.lt_size e)) e) s.toks)
theorem Sta.unpackT {elts : List Expr} {x1} {pos : Pos} {a : Addr} {xs : List Value} {Q : Unit → Shared → Prop} (S : Sta W G env loc nw s) (hh : A.handled = none) (m : (a, IsTpl xs) ∈ nw)
    (hn : (assignEach elts env).length = xs.length) (hstar : (assignEach elts env).findIdx? (·.1) = none) (h : ∀ s', Sta W G env loc nw s' → wpAny (model W.prog W.w) A (assignInOrder ((assignEach elts env).map (·.2)) xs) Q E s') :
    wpAny (model W.prog W.w) A (assign (.Tuple elts x1 pos) env (.ref a)) Q E s :=
  assign_Tuple_tuple hh (S.isTup m) (by simpa using hn) hstar fun h' he => h _ (S.grow (fun b o e => he b o (Nat.ne_of_lt (Heap.lt_size e)) e) s.toks)
/-- a call of a def or class of the text -/
theorem callW {pos : Pos} {f : Addr} {first : List Value} {e : Expr} {rest : List Expr} {Q : Value → Shared → Prop} (hk : keepIn W.K (.ref f) = true)
    (h : wpAny (model W.prog W.w) A (spliced (backTo pos (starEach (e :: rest) env))) (fun vs s₁ => W.K.In s₁.heap ∧ wpAny (model W.prog W.w) A (call (.ref f) (first ++ vs)) Q E s₁) E s)
    (he : starEach (e :: rest) env = (false, eval e env) :: starEach rest env) (hplain : (backTo pos (starEach rest env)).any (·.1) = false) :
    wpAny (model W.prog W.w) A (callWith pos (.ref f) first (backTo pos (starEach (e :: rest) env)) []) Q E s := by
  rw [he] at h ⊢
  refine callWith_of (P := fun h => W.K.In h) (by show (false || (backTo pos (starEach rest env)).any (·.1) || false) = false; rw [hplain]; rfl) (fun h X => keeps_K hk h X) (Calls.evalArgs_plain h)
theorem callW0 {pos : Pos} {f : Addr} {first : List Value} {Q : Value → Shared → Prop} (hk : keepIn W.K (.ref f) = true) (X : W.K.In s.heap)
    (h : wpAny (model W.prog W.w) A (call (.ref f) first) Q E s) :
    wpAny (model W.prog W.w) A (callWith pos (.ref f) first (backTo pos (starEach [] env)) []) Q E s :=
  callWith_of (P := fun h => W.K.In h) rfl (fun h X => keeps_K hk h X) (PySem.evalArgs_none ⟨X, by rw [List.append_nil]; exact h⟩)
end
end Mine
end
section
open PySem PySem.W PyProof.Rows PySem.W.X
set_option maxRecDepth 100000
namespace Mine
theorem lk_list_append : typeLookup (.type "list") "append" = pure (some (.builtin "list.append")) := by rw [typeLookup_type, builtinLookup_eq_fast]; kernel_rfl
theorem lk_md_get : typeLookup (.type "method_descriptor") "__get__" = pure (some (.builtin "method_descriptor.__get__")) := by rw [typeLookup_type, builtinLookup_eq_fast]; kernel_rfl
theorem lk_md_set : typeLookup (.type "method_descriptor") "__set__" = pure none := by rw [typeLookup_type, builtinLookup_eq_fast]; kernel_rfl
theorem lk_md_del : typeLookup (.type "method_descriptor") "__delete__" = pure none := by rw [typeLookup_type, builtinLookup_eq_fast]; kernel_rfl
theorem ty_append : typeOf (.builtin "list.append") = pure (.type "method_descriptor") := by show builtinType _ = _; rw [builtinType_eq_fast]; kernel_rfl
theorem slot_md_get : Slot "method_descriptor" "__get__" "method_descriptor.__get__" :=
  Slot.of lk_md_get (owner := "method_descriptor") (n := "__get__") (by decide +kernel) (by decide +kernel) (by decide +kernel) (.inl (by decide +kernel)) (by rw [isSubtype_type]; kernel_rfl)
theorem entry_md_get : entryFor table "method_descriptor.__get__" = some Builtin.«method_descriptor.__get__» := entryFor_of_tree (by kernel_rfl)
theorem args_md_get (a b c : Value) : argsOk "method_descriptor.__get__" ⟨[a, b, c], []⟩ := by unfold argsOk; kernel_rfl
theorem ty_ga : typeOf (.builtin "list.__getattribute__") = pure (.type "wrapper_descriptor") := by show builtinType _ = _; rw [builtinType_eq_fast]; kernel_rfl
noncomputable def IsBound (id : String) (self : Value) : Cell := fun o => o = { cls := .type "builtin_function_or_method", data := .fields #[.builtin id, self] }
theorem getattr_append {prog : Program} {w : World} {A : Around} {E : Value → Shared → Prop}  {h : Heap} {g : Array GenState} {d : Drawn} {t : Nat} {os : OsState} {a : Addr} {xs : List Value} {n : Nat} {Q : Value → Shared → Prop}
   (hx : h.get? a = some { cls := .type "list", data := .seq xs.toArray n }) (hq : ∀ t, Q (.ref h.objs.size) ⟨h.push { cls := .type "builtin_function_or_method", data := .fields #[.builtin "list.append", .ref a] }, g, d, t, os⟩) :
   wpAny (model prog w) A (getAttr (.ref a) "append" true) Q E ⟨h, g, d, t, os⟩ := by
  have hT : ∀ t, (⟨h, g, d, t, os⟩ : Shared).TypeIs (.ref a) "list" := fun _ => ⟨_, hx, rfl⟩
  unfold getAttr
  refine wpAny_bind (wpAny_mkText ?_)
  unfold getAttrBy
  refine wpAny_holding (wpAny_bind (wpAny_typeOf (hT _) ?_))
  refine wpAny_bind (wpAny_of_eq F.slot_list_getattribute.lookup ?_)
  show wpAny _ _ (getAttrByItsOwn _ _ _ _ _ _) _ _ _
  unfold getAttrByItsOwn
  refine wpAny_bind (wpAny_of_eq (a := none) rfl ?_)
  refine wpAny_bind (wpAny_attempt (wpAny_holding ?_))
  show wpAny _ _ (boundAndCalled _ _ _) _ _ _
  unfold boundAndCalled
  refine wpAny_bind (wpAny_of_eq (a := (.builtin "list.__getattribute__", [.ref a])) (by unfold bindSpecial; rw [ty_ga]; rfl) ?_)
  refine wpAny_call_entry F.slot_list_getattribute (hT _) F.entry_list_ga ?_ (F.args_list_getattribute_2 _ _)
  have L1 : Looks (model prog w) h (typeOf (.ref a)) (.type "list") := (Looks.ld hx).andThen .now
  have L2 : Looks (model prog w) h (typeLookup (.type "list") "append") (some (.builtin "list.append")) := Looks.of_pure lk_list_append
  have L3 : Looks (model prog w) h (specialOf (.builtin "list.append") "__get__") (some (.builtin "method_descriptor.__get__")) := (Looks.of_pure ty_append).andThen (Looks.of_pure lk_md_get)
  have L4 : Looks (model prog w) h (specialOf (.builtin "list.append") "__set__") none := (Looks.of_pure ty_append).andThen (Looks.of_pure lk_md_set)
  have L5 : Looks (model prog w) h (specialOf (.builtin "list.append") "__delete__") none := (Looks.of_pure ty_append).andThen (Looks.of_pure lk_md_del)
  dsimp only
  unfold Builtin.«object.__getattribute__»
  have hB : ∀ t, (⟨h, g, d, t, os⟩ : Shared).TypeIs (.builtin "list.append") "method_descriptor" := fun _ => ty_append
  repeat (first | (with_reducible refine wpAny_call_entry slot_md_get (hB _) entry_md_get ?_ (args_md_get _ _ _)) | lk)
  refine ⟨_, rfl, wpAny_pure ⟨_, rfl, ?_⟩⟩
  rw [handedOut_of rfl]; exact wpAny_pure (hq _)

section
variable {W : Wd} {G : Gens} {env : Env} {loc loc' : Loc} {nw nw' : Ledger} {s : Shared} {A : Around} {E : Value → Shared → Prop}
theorem Sta.getAppend {a : Addr} {xs : List Value} {Q : Value → Shared → Prop} (S : Sta W G env loc nw s) (m : (a, IsLst xs) ∈ nw) (h : ∀ q s', Sta W G env loc ((q, IsBound "list.append" (.ref a)) :: nw) s' → Q (.ref q) s') :
    wpAny (model W.prog W.w) A (getAttr (.ref a) "append" true) Q E s := by
  obtain ⟨n, hl⟩ := S.isL m
  exact getattr_append hl fun t => h _ _ (S.new (c := IsBound "list.append" (.ref a)) rfl rfl t)
theorem Attribute_ {value : Expr} {attr : Str} {pos : Pos} {Q : Value → Shared → Prop} (h : wpAny (model W.prog W.w) A (eval value env) (fun o s₁ => wpAny (model W.prog W.w) A (getAttr o attr true) Q E s₁) E s)
    (hb : attributeBase value attr env (eval value env) = eval value env) : wpAny (model W.prog W.w) A (eval (.Attribute value attr pos) env) Q E s := by
  rw [arm_eval_Attribute, hb]
  exact wpAny_bind (wpAny_mono h (fun o s₁ h₁ => wpAny_bind (wpAny_standAt (wpAny_bind (wpAny_holding (wpAny_mono h₁ (fun r s₂ h₂ => wpAny_bind (wpAny_letTemporaryGo (wpAny_pure h₂))) fun _ _ x => x))))) fun _ _ x => x)
theorem attrs_empty (names : List Str) (hn : names.Nodup) : IsAttrs (names.map fun k => (k, none)) emptyDict := by
  refine ⟨by rw [List.map_map]; simpa [Function.comp_def] using hn, rfl, #[], 0, rfl, fun e he => by simp at he, fun x => by rw [lk_none]; rfl, ?_⟩
  unfold cnt
  induction names with
  | nil => rfl
  | cons k r ih => simpa using ih (by simp at hn; exact hn.2)
/-- an instance made -/
theorem Sta.make {C fI : Addr} (names : List Str) {rest : List Value} {kw : List (Str × Value)} {Q : Value → Shared → Prop} (S : Sta W G env loc nw s) (hn : names.Nodup) (hm : makesIn W.K C = true) (hi : findIn W.K (.ref C) "__init__" = some (some (.ref fI))) (hf : typeIn W.K (.ref fI) = some (.type "function"))
    (h : ∀ x dx s', Sta W G env loc ((x, IsInst C dx) :: (dx, IsAttrs (names.map fun k => (k, none))) :: nw) s' →
      codeAny (model W.prog W.w) (A.under (.builtin "type.__call__" ⟨.ref C :: rest, kw⟩)) (.call (.ref fI) ⟨.ref x :: rest, kw⟩) (fun r s'' => r = .ok (.ret .none) ∧ Q (.ref x) s'') s') :
    wpAny (model W.prog W.w) A (call (.ref C) rest kw) Q E s := by
  have K0 := S.kin
  have S1 := S.new (c := IsAttrs (names.map fun k => (k, none))) (o := emptyDict) rfl (attrs_empty names hn) s.toks
  have S2 := S1.new (c := IsInst C s.heap.objs.size) (o := instObj C s.heap.objs.size) rfl rfl s.toks
  refine wpAny_call ?_
  obtain ⟨hh, g, d, t, os⟩ := s
  refine make_core (makes_of K0 hm) (looks_findIn K0 hi) (fun self => bind_fn K0 self hf) (.inl rfl) ?_
  have e : (hh.push emptyDict).objs.size = hh.objs.size + 1 := Heap.size_push ..
  have := h _ _ _ S2
  dsimp only at this
  rw [e] at this
  refine codeAny_mono this fun r s'' q => ?_
  obtain ⟨rfl, q⟩ := q
  exact ⟨rfl, q⟩
theorem aok_make {k : Nat} {C : Addr} {rest : List Value} {kw : List (Str × Value)} (hA : Aok (k + 1) A) : Aok k (A.under (.builtin "type.__call__" ⟨.ref C :: rest, kw⟩)) := by
  have hw : (Code.builtin "type.__call__" ⟨.ref C :: rest, kw⟩).weight = 1 := by rfl
  have hu : (Code.builtin "type.__call__" ⟨.ref C :: rest, kw⟩).cUnits = 1 := by rfl
  refine ⟨hA.handled, ?_, ?_⟩
  · have := hA.depth
    unfold Around.under
    rw [hw]
    show A.depth + 1 + k < _
    omega
  · have := hA.units
    unfold Around.under
    rw [hu]
    show A.units + 1 + 8 * k < _
    omega
end
end Mine
end
section
open PySem PySem.W PyProof.Rows PySem.W.X PySem.SeqAt
set_option maxRecDepth 100000
namespace Mine
theorem eqLists {A : Around} {s : Shared} {l b : Addr} {xs ys : List Value} (hl : s.heap.IsList l xs.toArray) (hb : s.heap.IsList b ys.toArray) (hz : xs.length = ys.length) (hu : A.units < cLine)
    (he : ∀ j (h1 : j < xs.length) (h2 : j < ys.length), EqAt A.in1 s xs[j] ys[j] true) : RcAt A s (.ref l) (.ref b) true := by
  have := RcAt.lists (e := fun _ => true) hl hb (by simpa using hz) hu (fun j h1 h2 => by simpa using he j (by simpa using h1) (by simpa using h2))
  have e : (List.range xs.toArray.size).all (fun _ => true) = true := by simp
  rwa [e] at this
theorem eqOf {A : Around} {s : Shared} {l b : Addr} (h : RcAt A s (.ref l) (.ref b) true) : EqAt A s (.ref l) (.ref b) true := by
  by_cases e : l = b
  · subst e; exact EqAt.same _
  · exact EqAt.of_refs e h
noncomputable def IsView (d : Addr) : Cell := fun o => o = { cls := .type "dict_items", data := .fields #[.ref d] }
section
variable {W : Wd} {G : Gens} {env : Env} {loc loc' : Loc} {nw nw' : Ledger} {s : Shared} {A : Around} {E : Value → Shared → Prop}
theorem Sta.eqOp {l b : Addr} {Q : Value → Shared → Prop} (_S : Sta W G env loc nw s) (h : RcAt A s (.ref l) (.ref b) true) (hq : Q (.bool true) s) : wpAny (model W.prog W.w) A (compareOp .Eq (.ref l) (.ref b)) Q E s := h _ _ _ _ hq
theorem dictAt_keeps {P : Program} {w : World} {h h' : Heap} {d : Addr} {kvs : List (Str × Value)} {ep : Nat} (x : h.DictAt (PySem.strKind P w) d kvs ep) (k : ∀ b o, h.get? b = some o → h'.get? b = some o) : h'.DictAt (PySem.strKind P w) d kvs ep :=
  let ⟨o, es, e, r⟩ := x; ⟨o, es, k _ _ e, r⟩
theorem Sta.items {d : Addr} {kvs : List (Str × Value)} {ep : Nat} {Q : Value → Shared → Prop} (S : Sta W G env loc nw s) (hm : W.B.DictAt (PySem.strKind W.prog W.w) d kvs ep) (hd : (d == sysModules) = false) (h : ∀ r s', Sta W G env loc ((r, IsView d) :: nw) s' → Q (.ref r) s') :
    wpAny (model W.prog W.w) A (call (.builtin "dict.items") [.ref d]) Q E s := by
  have hD := dictAt_keeps hm S.led.keep
  have hO : s.heap.DictOf (PySem.strKind W.prog W.w) d kvs := by
    obtain ⟨o, es, e, a, b, c⟩ := hD
    exact ⟨o, es, ep, e, a, b, c⟩
  exact call_meetsIn PySem.F.slot_dict_items hO.typeIs PySem.F.entry_dict_items (PySem.F.args_dict_items_1 _) (meets_dict_items (PySem.strKind W.prog W.w) d hd) ⟨⟨kvs, hO⟩, h _ _ (S.new (c := IsView d) rfl rfl s.toks)⟩
theorem Sta.listItems {r d : Addr} {kvs : List (Str × Value)} {ep : Nat} {Q : Value → Shared → Prop} (S : Sta W G env loc nw s) (hh : A.handled = none) (hm : W.B.DictAt (PySem.strKind W.prog W.w) d kvs ep) (mv : (r, IsView d) ∈ nw) (hn : kvs.length ≤ sizeLine)
    (h : ∀ (l : Addr) (as : List Addr) s', as.length = kvs.length → Sta W G env loc ((l, IsLst (as.map Value.ref)) :: nw) s' → Q (.ref l) s') : wpAny (model W.prog W.w) A (call (.type "list") [.ref r]) Q E s := by
  obtain ⟨o, ho, rfl⟩ := S.get mv
  refine kdx_call (knd := PySem.strKind W.prog W.w) hh ⟨_, ho, rfl, rfl⟩ (dictAt_keeps hm S.led.keep) hn fun h' tk acc c as hk hS hl hG hacc => h _ as _ hl ⟨S.ok, S.eok, ?_, S.bare, S.os, S.gens, S.gnd⟩
  refine (S.led.cons_new hk S.led.size_ne S.led.size_new hS ⟨c, ?_⟩).perm (List.Perm.swap ..)
  rw [← hacc]
/-- the dict's own getM -/
theorem Sta.getM_dict {name : Str} {d : Addr} {kvs : List (Str × Value)} {ep : Nat} {Q : Value × List Value → Shared → Prop} {id : String} (S : Sta W G env loc nw s) (hm : W.B.DictAt (PySem.strKind W.prog W.w) d kvs ep) (slot : Slot "dict" name id) (hty : typeOf (.builtin id) = pure (.type "method_descriptor")) (h : Q (.builtin id, [.ref d]) s) :
    GetM (model W.prog W.w) A E name (.ref d) Q s := by
  obtain ⟨o, es, e, a, b, c⟩ := dictAt_keeps hm S.led.keep
  exact getM_builtin F.plainAttrs_dict slot hty ⟨_, e, a.1⟩ (fun b e' => by cases e'; exact ⟨_, e, a.2.1⟩) h
theorem Assign_attr {o : Expr} {attr : Str} {pos' : Pos} {value : Expr} {pos : Pos} {Q : Flow → Shared → Prop}
    (h : wpAny (model W.prog W.w) A (eval value env) (fun v s₁ => wpAny (model W.prog W.w) A (eval o env) (fun ov s₂ => wpAny (model W.prog W.w) A (setAttr ov attr v) (fun _ => Q .next) E s₂) E s₁) E s)
    (hs : swapsWith value (some (.Attribute o attr pos')) pos.line env = pure false) : wpAny (model W.prog W.w) A (exec (.Assign [.Attribute o attr pos'] value pos) env) Q E s := plainObj_wpAny_Assign_Attribute h hs
end
end Mine
end
section
open PySem PySem.W PyProof.Rows PySem.W.X PySem.SeqAt
set_option maxRecDepth 100000
namespace Mine
theorem ite_t {P R : Prop} (h : P) : (if true = true then P else R) := by rw [if_pos rfl]; exact h
theorem ite_f {P R : Prop} (h : R) : (if false = true then P else R) := by rw [if_neg (by decide)]; exact h
theorem ite_nf {P R : Prop} (h : P) : (if (!false) = true then P else R) := by rw [if_pos (by decide)]; exact h
theorem ite_nt {P R : Prop} (h : R) : (if (!true) = true then P else R) := by rw [if_neg (by decide)]; exact h
section
variable {W : Wd} {G : Gens} {env : Env} {loc loc' : Loc} {nw nw' : Ledger} {s : Shared} {A : Around} {E : Value → Shared → Prop}
theorem Sta.dict0 {pos : Pos} {Q : Value → Shared → Prop} {M : Model} (S : Sta W G env loc nw s) (h : ∀ a s', Sta W G env loc ((a, IsObj { cls := .type "dict", data := .dict #[] }) :: nw) s' → Q (.ref a) s') : wpAny M A (eval (.Dict [] [] pos) env) Q E s :=
  wpAny_Dict_empty (h _ _ (S.new (c := IsObj { cls := .type "dict", data := .dict #[] }) rfl rfl s.toks))
theorem callWith_m1 {M : Model} {pos : Pos} {id : String} {self : Value} {e : Expr} {rest : List Expr} {Q : Value → Shared → Prop}
    (h : wpAny M A (spliced (backTo pos (starEach (e :: rest) env))) (fun vs s₁ => wpAny M A (call (.builtin id) (self :: vs)) Q E s₁) E s)
    (he : starEach (e :: rest) env = (false, eval e env) :: starEach rest env)
    (hplain : (backTo pos (starEach rest env)).any (·.1) = false) :
    wpAny M A (callWith pos (.builtin id) [self] (backTo pos (starEach (e :: rest) env)) (backToKw pos (keywordEach [] env))) Q E s := callWith_bi h he hplain
theorem callW_1 {pos : Pos} {f : Addr} {e : Expr} {rest : List Expr} {Q : Value → Shared → Prop} (hk : keepIn W.K (.ref f) = true)
    (h : wpAny (model W.prog W.w) A (spliced (backTo pos (starEach (e :: rest) env))) (fun vs s₁ => W.K.In s₁.heap ∧ wpAny (model W.prog W.w) A (call (.ref f) vs) Q E s₁) E s)
    (he : starEach (e :: rest) env = (false, eval e env) :: starEach rest env) (hplain : (backTo pos (starEach rest env)).any (·.1) = false) :
    wpAny (model W.prog W.w) A (callWith pos (.ref f) [] (backTo pos (starEach (e :: rest) env)) []) Q E s := callW (first := []) hk h he hplain
theorem callW_m {pos : Pos} {f : Addr} {self : Value} {e : Expr} {rest : List Expr} {Q : Value → Shared → Prop} (hk : keepIn W.K (.ref f) = true)
    (h : wpAny (model W.prog W.w) A (spliced (backTo pos (starEach (e :: rest) env))) (fun vs s₁ => W.K.In s₁.heap ∧ wpAny (model W.prog W.w) A (call (.ref f) (self :: vs)) Q E s₁) E s)
    (he : starEach (e :: rest) env = (false, eval e env) :: starEach rest env) (hplain : (backTo pos (starEach rest env)).any (·.1) = false) :
    wpAny (model W.prog W.w) A (callWith pos (.ref f) [self] (backTo pos (starEach (e :: rest) env)) (backToKw pos (keywordEach [] env))) Q E s := callW (first := [self]) hk h he hplain
end
end Mine
end
section
open PySem PySem.W PyProof.Rows PySem.W.X PySem.SeqAt
set_option maxRecDepth 100000
namespace Mine
inductive Pull {α : Type} (p : α) : List α → List α → Prop
  | head {r} : Pull p (p :: r) r
  | tail {q r r'} : Pull p r r' → Pull p (q :: r) (q :: r')
theorem Pull.perm {α : Type} {p : α} {l l' : List α} (h : Pull p l l') : l.Perm (p :: l') := by
  induction h with
  | head => exact List.Perm.refl _
  | tail h ih => exact (List.Perm.cons _ ih).trans (List.Perm.swap ..)
noncomputable def Sel (L L2 : Ledger) : Prop := ∃ rest, L.Perm (L2 ++ rest)
theorem Sel.refl (L : Ledger) : Sel L L := ⟨[], by rw [List.append_nil]⟩
theorem Sel.drop {q : Addr × Cell} {L L2 : Ledger} (h : Sel L L2) : Sel (q :: L) L2 := by
  obtain ⟨r, h⟩ := h
  exact ⟨q :: r, (List.Perm.cons _ h).trans List.perm_middle.symm⟩
theorem Sel.cons {p : Addr × Cell} {L L' L2 : Ledger} (hp : Pull p L L') (h : Sel L' L2) : Sel L (p :: L2) := by
  obtain ⟨r, h⟩ := h
  exact ⟨r, hp.perm.trans (List.Perm.cons _ h)⟩
theorem Sel.of_perm {L L2 : Ledger} (h : L.Perm L2) : Sel L L2 := ⟨[], by rw [List.append_nil]; exact h⟩
theorem Sel.trans {L L2 L3 : Ledger} (h : Sel L L2) (k : Sel L2 L3) : Sel L L3 := by
  obtain ⟨r, h⟩ := h
  obtain ⟨r', k⟩ := k
  exact ⟨r' ++ r, h.trans ((List.Perm.append_right r k).trans (by rw [List.append_assoc]))⟩
theorem Sta.sel {W : Wd} {G : Gens} {env : Env} {loc : Loc} {nw nw' : Ledger} {s : Shared} (S : Sta W G env loc nw s) (h : Sel nw nw') : Sta W G env loc nw' s := by
  obtain ⟨r, h⟩ := h
  exact (S.perm h).sub (List.sublist_append_left _ _)
theorem ite_by {b : Bool} {P R : Prop} (h1 : b = true → P) (h2 : b = false → R) : (if b = true then P else R) := by
  cases b with
  | true => exact h1 rfl
  | false => exact h2 rfl
theorem IntsAre.snoc {vs : List Value} {ns : List Int} (h : IntsAre vs ns) (n : Int) (t : Tok) : IntsAre (vs ++ [.int n t]) (ns ++ [n]) := by
  induction h with
  | nil => exact .cons n t .nil
  | cons m u h ih => exact .cons m u ih
theorem IntsAre.unsnoc {vs : List Value} {ns : List Int} {n : Int} (h : IntsAre vs (ns ++ [n])) : ∃ vs' t, vs = vs' ++ [.int n t] ∧ IntsAre vs' ns := by
  induction ns generalizing vs with
  | nil => cases h with | cons n t h => cases h; exact ⟨[], t, rfl, .nil⟩
  | cons m r ih =>
    cases h with
    | cons m u h =>
      obtain ⟨vs', t, e, k⟩ := ih h
      exact ⟨.int m u :: vs', t, by rw [e]; rfl, .cons m u k⟩
theorem IntsAre.length' {vs : List Value} {ns : List Int} (h : IntsAre vs ns) : vs.length = ns.length := by
  induction h with
  | nil => rfl
  | cons m u h ih => rw [List.length_cons, List.length_cons, ih]
theorem IntsAre.getAt {vs : List Value} {ns : List Int} (h : IntsAre vs ns) : ∀ (k : Nat) (h : k < ns.length), ∃ t, vs[k]? = some (.int ns[k] t) := by
  induction h with
  | nil => intro k h; cases h
  | cons n t h ih =>
    intro k hk
    cases k with
    | zero => exact ⟨t, rfl⟩
    | succ k =>
      obtain ⟨u, e⟩ := ih k (by simpa using hk)
      exact ⟨u, by simpa using e⟩
theorem IntsAre.setAt {vs : List Value} {ns : List Int} (h : IntsAre vs ns) : ∀ (k : Nat) (n : Int) (t : Tok), IntsAre (vs.set k (.int n t)) (ns.set k n) := by
  induction h with
  | nil => intro k n t; exact .nil
  | cons m u h ih =>
    intro k n t
    cases k with
    | zero => exact .cons n t h
    | succ k => exact .cons m u (ih k n t)
end Mine
end
section
open PySem PySem.W PyProof.Rows PySem.W.X PySem.SeqAt
set_option maxRecDepth 100000
namespace Mine
section
variable {W : Wd} {G : Gens} {env : Env} {loc loc' : Loc} {nw nw' : Ledger} {s : Shared} {A : Around} {E : Value → Shared → Prop}
theorem St0.kin (S : St0 W G nw s) : W.K.In s.heap := S.ok.kin.keeps S.led.keep
theorem St0.nolimit (S : St0 W G nw s) : s.heap.NoLimit := S.ok.nolimit.keeps S.led.keep
theorem St0.code_def {R : Result → Shared → Prop} {f : Addr} {name qual : Str} {st : Stmt} {dV kV doc pm cdv ct oc : Value} {an od : Option Addr} {osl : Array (Option Value)} {args : Args} {binds : List (Str × Value)} (rest : List Str)
    (S : St0 W G nw s) (hroom : A.depth < recursionLimit)
    (ho : W.K.lookup f = some ⟨oc, od, .func (fnOf name qual (fnArgs st) (fnBody st) (fnScope st) dV kV doc pm an cdv ct), osl⟩) (hcd : codeIn W.K cdv qual = true)
    (hbind : BindsTo s (fnOf name qual (fnArgs st) (fnBody st) (fnScope st) dV kV doc pm an cdv ct) args binds)
    (hk : kindsOk (fnScope st) (binds.map Prod.fst ++ rest) = true)
    (h : ∀ L s', Sta W G (envOf qual (fnScope st) L f cdv) (mkLoc binds rest) nw s' →
      wpAny (model W.prog W.w) (A.deeper (envOf qual (fnScope st) L f cdv)) (execs (fnBody st) (envOf qual (fnScope st) L f cdv)) (fun fl s'' => R (.ok (.ret (match fl with | .ret v => v | _ => .none))) s'') (fun _ _ => False) s') :
    codeAny (model W.prog W.w) A (.call (.ref f) args) R s := by
  simp only [kindsOk, Bool.and_eq_true, beq_iff_eq, Bool.not_eq_true', List.all_eq_true, bne_iff_ne, decide_eq_true_eq] at hk
  obtain ⟨⟨⟨⟨⟨hkind, hco⟩, hgen⟩, hcell⟩, hks⟩, hnd⟩ := hk
  have hks2 : ((mkLoc binds rest).map Prod.fst) = binds.map Prod.fst ++ rest := by
    simp [mkLoc, List.map_map, Function.comp_def]
  refine (codeAny_call_def (fd := fnOf name qual (fnArgs st) (fnBody st) (fnScope st) dV kV doc pm an cdv ct) (body := fnBody st) (binds := binds) hroom (S.kin _ _ ho) rfl S.nolimit (codeRec_of S.kin hcd) rfl hbind hcell
    (fun x hx => (hks x.1 (List.mem_append_left _ (List.mem_map.mpr ⟨x, hx, rfl⟩))).1) (fun h₁ hns hkp => ?_) hco hgen hkind)
  have D : Led W.B ((s.heap.objs.size, IsNs (mkLoc binds rest)) :: nw) h₁ := by
    obtain ⟨o, es, ep, ho', hd, hsk, hf⟩ := hns
    refine S.led.cons_new hkp S.led.size_ne S.led.size_new ho' ⟨by rw [hks2]; exact hnd, es, ep, hd, hsk, fun x => ?_⟩
    rw [hf x, lk_mkLoc _ _ (hnd.sublist (List.sublist_append_left _ _))]
  have S' : Sta W G (envOf qual (fnScope st) s.heap.objs.size f cdv) (mkLoc binds rest) nw { s with heap := h₁, toks := s.toks + binds.length } :=
    ⟨S.ok, by rw [hks2]; exact ⟨hkind, rfl, rfl, fun x hx => (hks x hx).1, fun x hx => (hks x hx).2, hnd⟩, D, S.bare, S.os, S.gens, S.gnd⟩
  exact wpAny_mono (h _ _ S') (fun fl s'' q => q) (fun _ _ q => q.elim)
theorem St0.code {R : Result → Shared → Prop} {f : Addr} {qual : Str} {st : Stmt} {dV kV cdv : Value} {pos : List Value} {kw : List (Str × Value)} {binds : List (Str × Value)} (rest : List Str)
    (S : St0 W G nw s) (hf : Fn W.K f st qual dV kV cdv) (hroom : A.depth < recursionLimit) (hbind : Binds s st qual dV kV cdv ⟨pos, kw⟩ binds) (hk : kindsOk (fnScope st) (binds.map Prod.fst ++ rest) = true)
    (h : ∀ L s', Sta W G (envOf qual (fnScope st) L f cdv) (mkLoc binds rest) nw s' →
      wpAny (model W.prog W.w) (A.deeper (envOf qual (fnScope st) L f cdv)) (execs (fnBody st) (envOf qual (fnScope st) L f cdv)) (fun fl s'' => R (.ok (.ret (match fl with | .ret v => v | _ => .none))) s'') (fun _ _ => False) s') :
    codeAny (model W.prog W.w) A (.call (.ref f) ⟨pos, kw⟩) R s := by
  obtain ⟨name, doc, pm, ct, oc, an, od, osl, ho⟩ := hf.at_
  exact S.code_def (args := ⟨pos, kw⟩) rest hroom ho hf.code (hbind _ _ _ _ _) hk h
end
theorem kn_postG {M : Model} {A : Around} {cd : Code} {s s₁ : Shared} {cw : ClaimW} {cl : Str → Option Addr} {mean : ExcName → Option Value} {args : List WData} {tabs : List (Addr × Addr)} (hT : TabsAt tabs s₁.heap) (hr : ∀ x, cw.raises args x = false) (hp : cw.post args (.bool true) args = true)
    (h : codeAny M A cd (fun r s' => r = .ok (.ret (.bool true)) ∧ (∀ b o, (ghostOf s₁.heap tabs).get? b = some o → s'.heap.get? b = some o) ∧ s'.os = s₁.os ∧ AllBare s'.gens ∧ GrownAll tabs s'.heap) s) : codeAny M A cd (GoodWG cw cl mean args s₁) s :=
  codeAny_mono h fun r s' ⟨hr1, hk, hos, hg, hgr⟩ => by
    have keep : ∀ b o, b ∉ tabs.map (·.2) → s₁.heap.get? b = some o → s'.heap.get? b = some o := fun b o hb e => hk b o (ghost_ne e hb)
    have grown : ∀ b o, b ∈ tabs.map (·.2) → s₁.heap.get? b = some o → isCodeTable s₁.heap b ∧ o = tabObj #[] ∧ ∃ ps, s'.heap.get? b = some (tabObj ps) := fun b o hb e => by
      obtain ⟨q, hq, rfl⟩ := List.mem_map.mp hb
      have e2 := (hT q hq).2
      rw [e] at e2
      exact ⟨((hT q hq).1.tab (hT q hq).2).isCodeTable, Option.some.inj e2, hgr.get q hq⟩
    refine ⟨.inl ⟨_, _, [], hr1, hr, ReadsW.bool true, hp, fun _ => ⟨List.nodup_nil, fun _ hm => (nomatch hm)⟩⟩, ⟨fun b o e => ?_, fun b o e => ?_⟩, hos, hg⟩
    · by_cases hb : b ∈ tabs.map (·.2)
      · obtain ⟨ht, rfl, ps, hP⟩ := grown b o hb e
        exact .inr (.inl ⟨ht, rfl, #[], ps, rfl, by rw [Array.empty_append]; exact hP⟩)
      · exact .inl (keep b o hb e)
    · by_cases hb : b ∈ tabs.map (·.2)
      · obtain ⟨_, _, ps, hP⟩ := grown b o hb e
        exact ⟨_, hP⟩
      · exact ⟨o, keep b o hb e⟩
noncomputable def tabLed (tabs : List (Addr × Addr)) : Ledger := tabs.map fun q => (q.2, IsTab [])
/-- the world of a law that is called -/
theorem sta0_of {W : Wd} {p : Program} {loose : List Str} {mean : ExcName → Option Value} {mg mb : Str → Option Value} {s₁ : Shared} {tabs : List (Addr × Addr)} (hT : TabsAt tabs s₁.heap) (hn : (tabs.map (·.2)).Nodup) (X : W.K.In s₁.heap) (hK : noTabs W.K = true) (T : Top p loose mean mg mb s₁.heap) (hg : s₁.gens = #[])
    (hB : W.B = ghostOf s₁.heap tabs) (ho : W.os = s₁.os) : St0 W [] (tabLed tabs) s₁ := by
  refine ⟨⟨?_, ?_⟩, ⟨?_, ?_, ?_⟩, .of_eq hg, ho.symm, fun _ h => by simp at h, List.nodup_nil⟩
  · rw [hB]; exact ghost_K hT X hK
  · rw [hB]; exact ⟨_, _, _, _, ghost_top hT T⟩
  · intro b o e; rw [hB] at e; exact of_hideAll _ e
  · intro q hq
    obtain ⟨r, hr, rfl⟩ := List.mem_map.mp hq
    exact ⟨by rw [hB]; exact hideAll_none _ (List.mem_map_of_mem hr), _, (hT r hr).2, rfl⟩
  · simpa [tabLed, List.map_map, Function.comp_def] using hn
end Mine
end
section
open PySem PySem.W PyProof.Rows PySem.W.X PySem.SeqAt
set_option maxRecDepth 100000
namespace Mine
noncomputable def fdAt (K : Frag) (f : Addr) : FuncData := match K.lookup f with
  | some ⟨_, _, .func fd, _⟩ => fd
  | _ => default
noncomputable def obAt (K : Frag) (f : Addr) : Obj := (K.lookup f).getD default
noncomputable def selfNames : List Str := ["_write", "_data", "_with_comments", "_strip_text", "_exclude_attrs", "_exclude_tags", "_rewrite_prefixes", "_qname_aware_tags", "_find_qname_aware_attrs", "_declared_ns_stack", "_ns_stack", "_prefix_map", "_preserve_space", "_pending_start", "_root_seen", "_root_done", "_ignored_depth"]
theorem bo_list : bootBuiltins "list" = some (.type "list") := by kernel_rfl
theorem bo_len : bootBuiltins "len" = some (.builtin "len") := by kernel_rfl
theorem bo_str : bootBuiltins "str" = some (.type "str") := by kernel_rfl
theorem bo_range : bootBuiltins "range" = some (.type "range") := by kernel_rfl
theorem bo_set : bootBuiltins "set" = some (.type "set") := by kernel_rfl
theorem bo_sorted : bootBuiltins "sorted" = some (.builtin "sorted") := by kernel_rfl
theorem bo_isinstance : bootBuiltins "isinstance" = some (.builtin "isinstance") := by kernel_rfl
theorem bo_chr : bootBuiltins "chr" = some (.builtin "chr") := by kernel_rfl
end Mine
end
section
open PySem PySem.W PyProof.Rows
set_option maxRecDepth 100000
set_option maxHeartbeats 8000000
namespace Mine
/-- the law is well said: by the kernel alone, without the twin of the text that open_top lays (4 MB) -/
theorem ws : PySem.Challenge.rw_dn0284_01.wellSaid = true := by kernel_rfl
open_top hd for (PySem.W.OpenLaw.row PySem.Challenge.rw_dn0284_01)
end Mine
end
section
open PySem PySem.W PyProof.Rows PySem.W.X PySem.SeqAt
set_option maxRecDepth 100000
namespace Mine
noncomputable abbrev pp : Program := PySem.Challenge.pw_dn0284_01
noncomputable abbrev KK (P : Params) : Frag := hd.heap_1 P
structure IsC (W : Wd) : Prop where
  k : W.K = KK W.w.params
noncomputable def stC : Stmt := topStmt pp 7
noncomputable def st_escC : Stmt := topStmt pp 8
theorem fn_escC (P : Params) : Fn (KK P) 161 st_escC "_escape_cdata_c14n" .none .none (.ref 160) :=
  ⟨⟨(fdAt (KK P) 161).name, (fdAt (KK P) 161).doc, (fdAt (KK P) 161).pyModule, (fdAt (KK P) 161).closureTuple, (obAt (KK P) 161).cls, (fdAt (KK P) 161).annotations, (obAt (KK P) 161).dict, (obAt (KK P) 161).slots, by kernel_rfl⟩, by kernel_rfl⟩
theorem IsC.f_escC {W : Wd} (I : IsC W) : Fn W.K 161 st_escC "_escape_cdata_c14n" .none .none (.ref 160) := by rw [I.k]; exact fn_escC _
theorem IsC.g_escC {W : Wd} (I : IsC W) : nsIn W.K mainGlobals "_escape_cdata_c14n" = some (some (.ref 161)) := by rw [I.k]; kernel_rfl
noncomputable def st_escA : Stmt := topStmt pp 9
theorem fn_escA (P : Params) : Fn (KK P) 168 st_escA "_escape_attrib_c14n" .none .none (.ref 167) :=
  ⟨⟨(fdAt (KK P) 168).name, (fdAt (KK P) 168).doc, (fdAt (KK P) 168).pyModule, (fdAt (KK P) 168).closureTuple, (obAt (KK P) 168).cls, (fdAt (KK P) 168).annotations, (obAt (KK P) 168).dict, (obAt (KK P) 168).slots, by kernel_rfl⟩, by kernel_rfl⟩
theorem IsC.f_escA {W : Wd} (I : IsC W) : Fn W.K 168 st_escA "_escape_attrib_c14n" .none .none (.ref 167) := by rw [I.k]; exact fn_escA _
theorem IsC.g_escA {W : Wd} (I : IsC W) : nsIn W.K mainGlobals "_escape_attrib_c14n" = some (some (.ref 168)) := by rw [I.k]; kernel_rfl
noncomputable def st_law : Stmt := topStmt pp 16
theorem fn_law (P : Params) : Fn (KK P) 208 st_law "law" .none .none (.ref 207) :=
  ⟨⟨(fdAt (KK P) 208).name, (fdAt (KK P) 208).doc, (fdAt (KK P) 208).pyModule, (fdAt (KK P) 208).closureTuple, (obAt (KK P) 208).cls, (fdAt (KK P) 208).annotations, (obAt (KK P) 208).dict, (obAt (KK P) 208).slots, by kernel_rfl⟩, by kernel_rfl⟩
theorem IsC.f_law {W : Wd} (I : IsC W) : Fn W.K 208 st_law "law" .none .none (.ref 207) := by rw [I.k]; exact fn_law _
noncomputable def st_l_sign : Stmt := topStmt pp 11
theorem fn_l_sign (P : Params) : Fn (KK P) 175 st_l_sign "_law_sign" .none .none (.ref 174) :=
  ⟨⟨(fdAt (KK P) 175).name, (fdAt (KK P) 175).doc, (fdAt (KK P) 175).pyModule, (fdAt (KK P) 175).closureTuple, (obAt (KK P) 175).cls, (fdAt (KK P) 175).annotations, (obAt (KK P) 175).dict, (obAt (KK P) 175).slots, by kernel_rfl⟩, by kernel_rfl⟩
theorem IsC.f_l_sign {W : Wd} (I : IsC W) : Fn W.K 175 st_l_sign "_law_sign" .none .none (.ref 174) := by rw [I.k]; exact fn_l_sign _
theorem IsC.g_l_sign {W : Wd} (I : IsC W) : nsIn W.K mainGlobals "_law_sign" = some (some (.ref 175)) := by rw [I.k]; kernel_rfl
noncomputable def st_l_tree : Stmt := topStmt pp 12
theorem fn_l_tree (P : Params) : Fn (KK P) 182 st_l_tree "_law_tree" .none .none (.ref 181) :=
  ⟨⟨(fdAt (KK P) 182).name, (fdAt (KK P) 182).doc, (fdAt (KK P) 182).pyModule, (fdAt (KK P) 182).closureTuple, (obAt (KK P) 182).cls, (fdAt (KK P) 182).annotations, (obAt (KK P) 182).dict, (obAt (KK P) 182).slots, by kernel_rfl⟩, by kernel_rfl⟩
theorem IsC.f_l_tree {W : Wd} (I : IsC W) : Fn W.K 182 st_l_tree "_law_tree" .none .none (.ref 181) := by rw [I.k]; exact fn_l_tree _
theorem IsC.g_l_tree {W : Wd} (I : IsC W) : nsIn W.K mainGlobals "_law_tree" = some (some (.ref 182)) := by rw [I.k]; kernel_rfl
noncomputable def st_l_written : Stmt := topStmt pp 13
theorem fn_l_written (P : Params) : Fn (KK P) 189 st_l_written "_law_written" .none .none (.ref 188) :=
  ⟨⟨(fdAt (KK P) 189).name, (fdAt (KK P) 189).doc, (fdAt (KK P) 189).pyModule, (fdAt (KK P) 189).closureTuple, (obAt (KK P) 189).cls, (fdAt (KK P) 189).annotations, (obAt (KK P) 189).dict, (obAt (KK P) 189).slots, by kernel_rfl⟩, by kernel_rfl⟩
theorem IsC.f_l_written {W : Wd} (I : IsC W) : Fn W.K 189 st_l_written "_law_written" .none .none (.ref 188) := by rw [I.k]; exact fn_l_written _
theorem IsC.g_l_written {W : Wd} (I : IsC W) : nsIn W.K mainGlobals "_law_written" = some (some (.ref 189)) := by rw [I.k]; kernel_rfl
noncomputable def st_l_plain : Stmt := topStmt pp 14
theorem fn_l_plain (P : Params) : Fn (KK P) 196 st_l_plain "_law_plain" .none .none (.ref 195) :=
  ⟨⟨(fdAt (KK P) 196).name, (fdAt (KK P) 196).doc, (fdAt (KK P) 196).pyModule, (fdAt (KK P) 196).closureTuple, (obAt (KK P) 196).cls, (fdAt (KK P) 196).annotations, (obAt (KK P) 196).dict, (obAt (KK P) 196).slots, by kernel_rfl⟩, by kernel_rfl⟩
theorem IsC.f_l_plain {W : Wd} (I : IsC W) : Fn W.K 196 st_l_plain "_law_plain" .none .none (.ref 195) := by rw [I.k]; exact fn_l_plain _
theorem IsC.g_l_plain {W : Wd} (I : IsC W) : nsIn W.K mainGlobals "_law_plain" = some (some (.ref 196)) := by rw [I.k]; kernel_rfl
noncomputable def st_l_read : Stmt := topStmt pp 15
theorem fn_l_read (P : Params) : Fn (KK P) 201 st_l_read "_law_read" .none .none (.ref 200) :=
  ⟨⟨(fdAt (KK P) 201).name, (fdAt (KK P) 201).doc, (fdAt (KK P) 201).pyModule, (fdAt (KK P) 201).closureTuple, (obAt (KK P) 201).cls, (fdAt (KK P) 201).annotations, (obAt (KK P) 201).dict, (obAt (KK P) 201).slots, by kernel_rfl⟩, by kernel_rfl⟩
theorem IsC.f_l_read {W : Wd} (I : IsC W) : Fn W.K 201 st_l_read "_law_read" .none .none (.ref 200) := by rw [I.k]; exact fn_l_read _
theorem IsC.g_l_read {W : Wd} (I : IsC W) : nsIn W.K mainGlobals "_law_read" = some (some (.ref 201)) := by rw [I.k]; kernel_rfl
noncomputable def st_init : Stmt := inClass stC 0
theorem fn_init (P : Params) : Fn (KK P) 67 st_init "C14NWriterTarget.__init__" .none (.ref 60) (.ref 66) :=
  ⟨⟨(fdAt (KK P) 67).name, (fdAt (KK P) 67).doc, (fdAt (KK P) 67).pyModule, (fdAt (KK P) 67).closureTuple, (obAt (KK P) 67).cls, (fdAt (KK P) 67).annotations, (obAt (KK P) 67).dict, (obAt (KK P) 67).slots, by kernel_rfl⟩, by kernel_rfl⟩
theorem IsC.f_init {W : Wd} (I : IsC W) : Fn W.K 67 st_init "C14NWriterTarget.__init__" .none (.ref 60) (.ref 66) := by rw [I.k]; exact fn_init _
noncomputable def st_iter : Stmt := inClass stC 1
theorem fn_iter (P : Params) : Fn (KK P) 75 st_iter "C14NWriterTarget._iter_namespaces" (.ref 68) .none (.ref 74) :=
  ⟨⟨(fdAt (KK P) 75).name, (fdAt (KK P) 75).doc, (fdAt (KK P) 75).pyModule, (fdAt (KK P) 75).closureTuple, (obAt (KK P) 75).cls, (fdAt (KK P) 75).annotations, (obAt (KK P) 75).dict, (obAt (KK P) 75).slots, by kernel_rfl⟩, by kernel_rfl⟩
theorem IsC.f_iter {W : Wd} (I : IsC W) : Fn W.K 75 st_iter "C14NWriterTarget._iter_namespaces" (.ref 68) .none (.ref 74) := by rw [I.k]; exact fn_iter _
noncomputable def st_qname : Stmt := inClass stC 3
theorem fn_qname (P : Params) : Fn (KK P) 90 st_qname "C14NWriterTarget._qname" (.ref 83) .none (.ref 89) :=
  ⟨⟨(fdAt (KK P) 90).name, (fdAt (KK P) 90).doc, (fdAt (KK P) 90).pyModule, (fdAt (KK P) 90).closureTuple, (obAt (KK P) 90).cls, (fdAt (KK P) 90).annotations, (obAt (KK P) 90).dict, (obAt (KK P) 90).slots, by kernel_rfl⟩, by kernel_rfl⟩
theorem IsC.f_qname {W : Wd} (I : IsC W) : Fn W.K 90 st_qname "C14NWriterTarget._qname" (.ref 83) .none (.ref 89) := by rw [I.k]; exact fn_qname _
noncomputable def st_data : Stmt := inClass stC 4
theorem fn_data (P : Params) : Fn (KK P) 97 st_data "C14NWriterTarget.data" .none .none (.ref 96) :=
  ⟨⟨(fdAt (KK P) 97).name, (fdAt (KK P) 97).doc, (fdAt (KK P) 97).pyModule, (fdAt (KK P) 97).closureTuple, (obAt (KK P) 97).cls, (fdAt (KK P) 97).annotations, (obAt (KK P) 97).dict, (obAt (KK P) 97).slots, by kernel_rfl⟩, by kernel_rfl⟩
theorem IsC.f_data {W : Wd} (I : IsC W) : Fn W.K 97 st_data "C14NWriterTarget.data" .none .none (.ref 96) := by rw [I.k]; exact fn_data _
noncomputable def st_flush : Stmt := inClass stC 5
theorem fn_flush (P : Params) : Fn (KK P) 106 st_flush "C14NWriterTarget._flush" (.ref 99) .none (.ref 105) :=
  ⟨⟨(fdAt (KK P) 106).name, (fdAt (KK P) 106).doc, (fdAt (KK P) 106).pyModule, (fdAt (KK P) 106).closureTuple, (obAt (KK P) 106).cls, (fdAt (KK P) 106).annotations, (obAt (KK P) 106).dict, (obAt (KK P) 106).slots, by kernel_rfl⟩, by kernel_rfl⟩
theorem IsC.f_flush {W : Wd} (I : IsC W) : Fn W.K 106 st_flush "C14NWriterTarget._flush" (.ref 99) .none (.ref 105) := by rw [I.k]; exact fn_flush _
noncomputable def st_start : Stmt := inClass stC 7
theorem fn_start (P : Params) : Fn (KK P) 120 st_start "C14NWriterTarget.start" .none .none (.ref 119) :=
  ⟨⟨(fdAt (KK P) 120).name, (fdAt (KK P) 120).doc, (fdAt (KK P) 120).pyModule, (fdAt (KK P) 120).closureTuple, (obAt (KK P) 120).cls, (fdAt (KK P) 120).annotations, (obAt (KK P) 120).dict, (obAt (KK P) 120).slots, by kernel_rfl⟩, by kernel_rfl⟩
theorem IsC.f_start {W : Wd} (I : IsC W) : Fn W.K 120 st_start "C14NWriterTarget.start" .none .none (.ref 119) := by rw [I.k]; exact fn_start _
noncomputable def st_start1 : Stmt := inClass stC 8
theorem fn_start1 (P : Params) : Fn (KK P) 126 st_start1 "C14NWriterTarget._start" (.ref 121) .none (.ref 125) :=
  ⟨⟨(fdAt (KK P) 126).name, (fdAt (KK P) 126).doc, (fdAt (KK P) 126).pyModule, (fdAt (KK P) 126).closureTuple, (obAt (KK P) 126).cls, (fdAt (KK P) 126).annotations, (obAt (KK P) 126).dict, (obAt (KK P) 126).slots, by kernel_rfl⟩, by kernel_rfl⟩
theorem IsC.f_start1 {W : Wd} (I : IsC W) : Fn W.K 126 st_start1 "C14NWriterTarget._start" (.ref 121) .none (.ref 125) := by rw [I.k]; exact fn_start1 _
noncomputable def st_end : Stmt := inClass stC 9
theorem fn_end (P : Params) : Fn (KK P) 133 st_end "C14NWriterTarget.end" .none .none (.ref 132) :=
  ⟨⟨(fdAt (KK P) 133).name, (fdAt (KK P) 133).doc, (fdAt (KK P) 133).pyModule, (fdAt (KK P) 133).closureTuple, (obAt (KK P) 133).cls, (fdAt (KK P) 133).annotations, (obAt (KK P) 133).dict, (obAt (KK P) 133).slots, by kernel_rfl⟩, by kernel_rfl⟩
theorem IsC.f_end {W : Wd} (I : IsC W) : Fn W.K 133 st_end "C14NWriterTarget.end" .none .none (.ref 132) := by rw [I.k]; exact fn_end _
noncomputable def st_comment : Stmt := inClass stC 10
theorem fn_comment (P : Params) : Fn (KK P) 140 st_comment "C14NWriterTarget.comment" .none .none (.ref 139) :=
  ⟨⟨(fdAt (KK P) 140).name, (fdAt (KK P) 140).doc, (fdAt (KK P) 140).pyModule, (fdAt (KK P) 140).closureTuple, (obAt (KK P) 140).cls, (fdAt (KK P) 140).annotations, (obAt (KK P) 140).dict, (obAt (KK P) 140).slots, by kernel_rfl⟩, by kernel_rfl⟩
theorem IsC.f_comment {W : Wd} (I : IsC W) : Fn W.K 140 st_comment "C14NWriterTarget.comment" .none .none (.ref 139) := by rw [I.k]; exact fn_comment _
noncomputable def st_pi : Stmt := inClass stC 11
theorem fn_pi (P : Params) : Fn (KK P) 147 st_pi "C14NWriterTarget.pi" .none .none (.ref 146) :=
  ⟨⟨(fdAt (KK P) 147).name, (fdAt (KK P) 147).doc, (fdAt (KK P) 147).pyModule, (fdAt (KK P) 147).closureTuple, (obAt (KK P) 147).cls, (fdAt (KK P) 147).annotations, (obAt (KK P) 147).dict, (obAt (KK P) 147).slots, by kernel_rfl⟩, by kernel_rfl⟩
theorem IsC.f_pi {W : Wd} (I : IsC W) : Fn W.K 147 st_pi "C14NWriterTarget.pi" .none .none (.ref 146) := by rw [I.k]; exact fn_pi _
theorem IsC.g_cls {W : Wd} (I : IsC W) : nsIn W.K mainGlobals "C14NWriterTarget" = some (some (.ref 150)) := by rw [I.k]; kernel_rfl
theorem IsC.g_map {W : Wd} (I : IsC W) : nsIn W.K mainGlobals "_namespace_map" = some (some (.ref 44)) := by rw [I.k]; kernel_rfl
theorem IsC.b_list {W : Wd} (I : IsC W) : nsIn W.K mainGlobals "list" = some none := by rw [I.k]; kernel_rfl
theorem IsC.b_len {W : Wd} (I : IsC W) : nsIn W.K mainGlobals "len" = some none := by rw [I.k]; kernel_rfl
theorem IsC.b_str {W : Wd} (I : IsC W) : nsIn W.K mainGlobals "str" = some none := by rw [I.k]; kernel_rfl
theorem IsC.b_range {W : Wd} (I : IsC W) : nsIn W.K mainGlobals "range" = some none := by rw [I.k]; kernel_rfl
theorem IsC.b_set {W : Wd} (I : IsC W) : nsIn W.K mainGlobals "set" = some none := by rw [I.k]; kernel_rfl
theorem IsC.b_sorted {W : Wd} (I : IsC W) : nsIn W.K mainGlobals "sorted" = some none := by rw [I.k]; kernel_rfl
theorem IsC.b_isinstance {W : Wd} (I : IsC W) : nsIn W.K mainGlobals "isinstance" = some none := by rw [I.k]; kernel_rfl
theorem IsC.b_chr {W : Wd} (I : IsC W) : nsIn W.K mainGlobals "chr" = some none := by rw [I.k]; kernel_rfl
theorem cl_C (P : Params) : Cl (KK P) 150 selfNames where
  ga := by kernel_rfl
  gh := by kernel_rfl
  sa := by kernel_rfl
  plain := by kernel_rfl
  dict := by kernel_rfl
  own := by
    intro n hn
    simp only [selfNames, List.mem_cons, List.not_mem_nil, or_false] at hn
    rcases hn with rfl | rfl | rfl | rfl | rfl | rfl | rfl | rfl | rfl | rfl | rfl | rfl | rfl | rfl | rfl | rfl | rfl <;> kernel_rfl
theorem IsC.cl {W : Wd} (I : IsC W) : Cl W.K 150 selfNames := by rw [I.k]; exact cl_C _
end Mine
end
section
open PySem PySem.W PyProof.Rows PySem.W.X PySem.SeqAt
set_option maxRecDepth 100000
namespace Mine
/-- texts sign by sign -/
noncomputable def mapS (f : Nat → List Nat) (x : Str) : Str := ⟨(x.cps.toList.flatMap f).toArray⟩
theorem Str.ext' {a b : Str} (h : a.cps.toList = b.cps.toList) : a = b := by
  obtain ⟨⟨a⟩⟩ := a; obtain ⟨⟨b⟩⟩ := b; cases h; rfl
theorem mapS_list (f : Nat → List Nat) (x : Str) : (mapS f x).cps.toList = x.cps.toList.flatMap f := rfl
theorem mapS_append (f : Nat → List Nat) (a b : Str) : mapS f (a ++ b) = mapS f a ++ mapS f b := by
  apply Str.ext'
  simp [mapS, Str.cps_append]
theorem mapS_mapS (f g : Nat → List Nat) (x : Str) : mapS f (mapS g x) = mapS (fun c => (g c).flatMap f) x := by
  apply Str.ext'
  simp [mapS, List.flatMap_assoc]
theorem mapS_id (x : Str) : mapS (fun c => [c]) x = x := by
  apply Str.ext'
  simp [mapS]
theorem flatMap_le {α β : Type} (f : α → List β) (k : Nat) (h : ∀ c, (f c).length ≤ k) : ∀ l : List α, (l.flatMap f).length ≤ k * l.length
  | [] => by simp
  | c :: r => by
    have h1 := flatMap_le f k h r
    have h2 := h c
    rw [List.flatMap_cons, List.length_append, List.length_cons, Nat.mul_succ]
    omega
theorem Str.len_list (x : Str) : x.length = x.cps.toList.length := by simp [Str.length]
theorem mapS_len (f : Nat → List Nat) (k : Nat) (h : ∀ c, (f c).length ≤ k) (x : Str) : (mapS f x).length ≤ k * x.length := by
  rw [Str.len_list, Str.len_list, mapS_list]; exact flatMap_le f k h _
/-- one sign spelled otherwise -/
noncomputable def r1 (c : Nat) (z : List Nat) (k : Nat) : List Nat := if k = c then z else [k]
theorem r1_free (c : Nat) (z : List Nat) : ∀ l : List Nat, c ∉ l → l.flatMap (r1 c z) = l
  | [], _ => rfl
  | k :: r, h => by
    have h1 : ¬ k = c := fun e => h (e ▸ List.mem_cons_self ..)
    have h2 : c ∉ r := fun m => h (List.mem_cons_of_mem _ m)
    rw [List.flatMap_cons, r1_free c z r h2]
    simp [r1, h1]
theorem r1_join (c : Nat) (z : Str) : ∀ parts : List Str, (∀ p ∈ parts, c ∉ p.cps.toList) → (Str.join ⟨#[c]⟩ parts).cps.toList.flatMap (r1 c z.cps.toList) = (Str.join z parts).cps.toList
  | [], _ => rfl
  | [p], h => r1_free c _ _ (h p (List.mem_singleton.mpr rfl))
  | p :: q :: r, h => by
    have ih := r1_join c z (q :: r) fun a ha => h a (List.mem_cons_of_mem _ ha)
    show (p ++ ⟨#[c]⟩ ++ Str.join ⟨#[c]⟩ (q :: r)).cps.toList.flatMap _ = (p ++ z ++ Str.join z (q :: r)).cps.toList
    simp only [Str.cps_append, Array.toList_append, List.flatMap_append]
    rw [ih, r1_free c _ _ (h p (List.mem_cons_self ..))]
    simp [r1]
theorem replace_r1 (x z : Str) (c : Nat) : Txt.replace x ⟨#[c]⟩ z = mapS (r1 c z.cps.toList) x := by
  apply Str.ext'
  rw [StrLaws.replace_one, ← r1_join c z _ (StrLaws.split_free x c), StrLaws.join_split]
  rfl
theorem mapS_free {x : Str} {c : Nat} {z : List Nat} (h : c ∉ x.cps.toList) : mapS (r1 c z) x = x := Str.ext' (r1_free c z _ h)
noncomputable def fC (c : Nat) : List Nat := if c = 38 then [38, 97, 109, 112, 59] else if c = 60 then [38, 108, 116, 59] else if c = 62 then [38, 103, 116, 59] else if c = 13 then [38, 35, 120, 68, 59] else [c]
noncomputable def fA (c : Nat) : List Nat := if c = 38 then [38, 97, 109, 112, 59] else if c = 60 then [38, 108, 116, 59] else if c = 34 then [38, 113, 117, 111, 116, 59] else if c = 9 then [38, 35, 120, 57, 59] else if c = 10 then [38, 35, 120, 65, 59] else if c = 13 then [38, 35, 120, 68, 59] else [c]
noncomputable def escC (x : Str) : Str := mapS fC x
noncomputable def escA (x : Str) : Str := mapS fA x
noncomputable def gC1 : Nat → List Nat := r1 38 [38, 97, 109, 112, 59]
noncomputable def gC2 (c : Nat) : List Nat := (gC1 c).flatMap (r1 60 [38, 108, 116, 59])
noncomputable def gC3 (c : Nat) : List Nat := (gC2 c).flatMap (r1 62 [38, 103, 116, 59])
noncomputable def gC4 (c : Nat) : List Nat := (gC3 c).flatMap (r1 13 [38, 35, 120, 68, 59])
theorem gC1_len (c : Nat) : (gC1 c).length ≤ 6 := by unfold gC1 r1; split <;> simp
theorem gC2_eq (c : Nat) : gC2 c = if c = 38 then [38, 97, 109, 112, 59] else if c = 60 then [38, 108, 116, 59] else [c] := by
  unfold gC2 gC1 r1; by_cases h : c = 38 <;> simp [h]
theorem gC3_eq (c : Nat) : gC3 c = if c = 38 then [38, 97, 109, 112, 59] else if c = 60 then [38, 108, 116, 59] else if c = 62 then [38, 103, 116, 59] else [c] := by
  unfold gC3; rw [gC2_eq]; unfold r1; by_cases h : c = 38 <;> by_cases h2 : c = 60 <;> simp [h, h2]
theorem gC4_eq (c : Nat) : gC4 c = fC c := by
  unfold gC4; rw [gC3_eq]; unfold r1 fC; by_cases h : c = 38 <;> by_cases h2 : c = 60 <;> by_cases h3 : c = 62 <;> simp [h, h2, h3]
theorem gC2_len (c : Nat) : (gC2 c).length ≤ 6 := by rw [gC2_eq]; (repeat' split) <;> simp
theorem gC3_len (c : Nat) : (gC3 c).length ≤ 6 := by rw [gC3_eq]; (repeat' split) <;> simp
theorem fC_len (c : Nat) : (fC c).length ≤ 6 := by unfold fC; (repeat' split) <;> simp
theorem fA_len (c : Nat) : (fA c).length ≤ 6 := by unfold fA; (repeat' split) <;> simp
noncomputable def gA3 (c : Nat) : List Nat := (gC2 c).flatMap (r1 34 [38, 113, 117, 111, 116, 59])
noncomputable def gA4 (c : Nat) : List Nat := (gA3 c).flatMap (r1 9 [38, 35, 120, 57, 59])
noncomputable def gA5 (c : Nat) : List Nat := (gA4 c).flatMap (r1 10 [38, 35, 120, 65, 59])
noncomputable def gA6 (c : Nat) : List Nat := (gA5 c).flatMap (r1 13 [38, 35, 120, 68, 59])
theorem gA3_eq (c : Nat) : gA3 c = if c = 38 then [38, 97, 109, 112, 59] else if c = 60 then [38, 108, 116, 59] else if c = 34 then [38, 113, 117, 111, 116, 59] else [c] := by
  unfold gA3; rw [gC2_eq]; unfold r1; by_cases h : c = 38 <;> by_cases h2 : c = 60 <;> simp [h, h2]
theorem gA4_eq (c : Nat) : gA4 c = if c = 38 then [38, 97, 109, 112, 59] else if c = 60 then [38, 108, 116, 59] else if c = 34 then [38, 113, 117, 111, 116, 59] else if c = 9 then [38, 35, 120, 57, 59] else [c] := by
  unfold gA4; rw [gA3_eq]; unfold r1; by_cases h : c = 38 <;> by_cases h2 : c = 60 <;> by_cases h3 : c = 34 <;> simp [h, h2, h3]
theorem gA5_eq (c : Nat) : gA5 c = if c = 38 then [38, 97, 109, 112, 59] else if c = 60 then [38, 108, 116, 59] else if c = 34 then [38, 113, 117, 111, 116, 59] else if c = 9 then [38, 35, 120, 57, 59] else if c = 10 then [38, 35, 120, 65, 59] else [c] := by
  unfold gA5; rw [gA4_eq]; unfold r1; by_cases h : c = 38 <;> by_cases h2 : c = 60 <;> by_cases h3 : c = 34 <;> by_cases h4 : c = 9 <;> simp [h, h2, h3, h4]
theorem gA6_eq (c : Nat) : gA6 c = fA c := by
  unfold gA6; rw [gA5_eq]; unfold r1 fA; by_cases h : c = 38 <;> by_cases h2 : c = 60 <;> by_cases h3 : c = 34 <;> by_cases h4 : c = 9 <;> by_cases h5 : c = 10 <;> simp [h, h2, h3, h4, h5]
theorem gA3_len (c : Nat) : (gA3 c).length ≤ 6 := by rw [gA3_eq]; (repeat' split) <;> simp
theorem gA4_len (c : Nat) : (gA4 c).length ≤ 6 := by rw [gA4_eq]; (repeat' split) <;> simp
theorem gA5_len (c : Nat) : (gA5 c).length ≤ 6 := by rw [gA5_eq]; (repeat' split) <;> simp
noncomputable def txtLine : Nat := 300000
section
variable {W : Wd} {G : Gens} {env : Env} {loc loc' : Loc} {nw nw' : Ledger} {s : Shared} {A : Around} {E : Value → Shared → Prop}
/-- a written text, its token told -/
theorem Sta.strT {x : Str} {k : Nat} {pos : Pos} {Q : Value → Shared → Prop} {M : Model} (S : Sta W G env loc nw s) (h : ∀ s', Sta W G env loc nw s' → s'.toks = s.toks + 1 → Q (.str x s.toks) s') : wpAny M A (eval (.Constant (.str x) k pos) env) Q E s :=
  wpAny_Constant_str (h _ (S.toks _) rfl)
theorem Sta.replace_ {x z : Str} {c : Nat} {y : Str} {t u v : Tok} {Q : Value → Shared → Prop} (S : Sta W G env loc nw s) (hy : y = ⟨#[c]⟩) (hu : u ≠ 0) (hv : v ≠ 0) (huv : u ≠ v) (hyz : (y == z) = false) (hx : x.length ≤ 6 * txtLine) (hz : z.length ≤ 6)
    (h : ∀ t' s', Sta W G env loc nw s' → Q (.str (mapS (r1 c z.cps.toList) x) t') s') : wpAny (model W.prog W.w) A (call (.builtin "str.replace") [.str x t, .str y u, .str z v]) Q E s := by
  subst hy
  refine SC.replace hu hv huv hyz ?_ fun t' k => ?_
  · have h1 : (x.length + 1) * z.length ≤ (x.length + 1) * 6 := Nat.mul_le_mul_left _ hz
    unfold txtLine at hx
    omega
  · rw [replace_r1]; exact h _ _ (S.toks k)
theorem Sta.inStr {x y : Str} {c : Nat} {t u : Tok} {Q : Value → Shared → Prop} (hy : y = ⟨#[c]⟩) (h1 : c ∈ x.cps.toList → Q (.bool true) s) (h2 : c ∉ x.cps.toList → Q (.bool false) s) : wpAny (model W.prog W.w) A (compareOp .In (.str y u) (.str x t)) Q E s := by
  subst hy
  refine PyProof.Rows.in_str ?_
  rw [StrLaws.found_one]
  by_cases h : c ∈ x.cps.toList
  · rw [decide_eq_true h]; exact h1 h
  · rw [decide_eq_false h]; exact h2 h
end
end Mine
end
section
open PySem PySem.W PyProof.Rows PySem.W.X PySem.SeqAt
set_option maxRecDepth 100000
namespace Mine
inductive TxtsAre : List Value → List Str → Prop
  | nil : TxtsAre [] []
  | cons {vs ss} (x : Str) (t : Tok) : TxtsAre vs ss → TxtsAre (.str x t :: vs) (x :: ss)
theorem TxtsAre.snoc {vs : List Value} {ss : List Str} (h : TxtsAre vs ss) (x : Str) (t : Tok) : TxtsAre (vs ++ [.str x t]) (ss ++ [x]) := by
  induction h with
  | nil => exact .cons x t .nil
  | cons y u h ih => exact .cons y u ih
theorem TxtsAre.length {vs : List Value} {ss : List Str} (h : TxtsAre vs ss) : vs.length = ss.length := by
  induction h with
  | nil => rfl
  | cons y u h ih => rw [List.length_cons, List.length_cons, ih]
theorem TxtsAre.values {vs : List Value} {ss : List Str} (h : TxtsAre vs ss) : ∃ l : List (Str × Tok), vs = strValues l ∧ l.map (·.1) = ss := by
  induction h with
  | nil => exact ⟨[], rfl, rfl⟩
  | cons x t h ih =>
    obtain ⟨l, e1, e2⟩ := ih
    exact ⟨(x, t) :: l, by rw [e1]; rfl, by rw [← e2]; rfl⟩
theorem TxtsAre.drop {vs : List Value} {ss : List Str} (h : TxtsAre vs ss) : ∀ k, TxtsAre (vs.drop k) (ss.drop k) := by
  induction h with
  | nil => intro k; rw [List.drop_nil, List.drop_nil]; exact .nil
  | cons y u h ih =>
    intro k
    cases k with
    | zero => exact .cons y u h
    | succ k => exact ih k
noncomputable def IsTxts (ss : List Str) : Cell := fun o => ∃ vs, TxtsAre vs ss ∧ IsLst vs o
/-- texts glued -/
noncomputable def cat : List Str → Str
  | [] => Str.empty
  | x :: r => x ++ cat r
theorem cat_append : ∀ a b : List Str, cat (a ++ b) = cat a ++ cat b
  | [], b => (Str.empty_append _).symm
  | x :: r, b => by
    show x ++ cat (r ++ b) = x ++ cat r ++ cat b
    rw [cat_append r b, Str.append_assoc]
theorem cat_join : ∀ l : List Str, Txt.join Str.empty l = cat l
  | [] => rfl
  | [x] => by
    show x = x ++ Str.empty
    rw [Str.append_empty]
  | x :: y :: r => by
    have ih := cat_join (y :: r)
    unfold Txt.join at ih ⊢
    rw [StrLaws.glued_eq_join] at ih ⊢
    show x ++ Str.empty ++ Str.join Str.empty (y :: r) = x ++ cat (y :: r)
    rw [ih, Str.append_empty]
theorem cat_len : ∀ l : List Str, (cat l).length = (l.map (·.length)).sum
  | [] => rfl
  | x :: r => by
    show (x ++ cat r).length = _
    rw [Str.length_append, cat_len r]; simp
theorem joinOk_cat {l : List Str} (h : (cat l).length ≤ 16777216) : JoinOk Str.empty l = true := by
  unfold JoinOk
  rw [StrLaws.joinTotal, ← cat_len]
  have e : Str.empty.length = 0 := rfl
  rw [e, Nat.mul_zero, Nat.add_zero]
  have hh : Builtin.Str.tooLong (cat l).length = false := by
    unfold Builtin.Str.tooLong sizeLine
    exact decide_eq_false (by omega)
  rw [hh]; rfl
theorem Upd.via2 {a : Addr} {c c' : Cell} {l l' : Ledger} (h : Upd a c c' l l') : ∀ c1, ∃ l1, Upd a c c1 l l1 ∧ Upd a c1 c' l1 l' := by
  induction h with
  | head => exact fun c1 => ⟨_, .head, .head⟩
  | tail h ih =>
    intro c1
    obtain ⟨l1, h1, h2⟩ := ih c1
    exact ⟨_, .tail h1, .tail h2⟩
section
variable {W : Wd} {G : Gens} {env : Env} {loc loc' : Loc} {nw nw' : Ledger} {s : Shared} {A : Around} {E : Value → Shared → Prop}
/-- one cell told otherwise -/
theorem Sta.tell {a : Addr} {c c' : Cell} (S : Sta W G env loc nw s) (U : Upd a c c' nw nw') (h : ∀ o, s.heap.get? a = some o → c o → c' o) : Sta W G env loc nw' s := by
  obtain ⟨o, ho, hc⟩ := S.get U.mem
  exact S.set U (fun b o _ e => e) ho (h o ho hc) s.toks
theorem Sta.openT {a : Addr} {ss : List Str} {c' : Cell} (S : Sta W G env loc nw s) (U : Upd a (IsTxts ss) c' nw nw') : ∃ vs nw1, TxtsAre vs ss ∧ Upd a (IsTxts ss) (IsLst vs) nw nw1 ∧ Upd a (IsLst vs) c' nw1 nw' ∧ Sta W G env loc nw1 s := by
  obtain ⟨o, ho, vs, ht, hl⟩ := S.get U.mem
  obtain ⟨nw1, U1, U2⟩ := U.via2 (IsLst vs)
  exact ⟨vs, nw1, ht, U1, U2, S.tell U1 fun o' ho' _ => by rw [ho] at ho'; cases ho'; exact hl⟩
theorem Sta.txts {a : Addr} {ss : List Str} (S : Sta W G env loc nw s) (m : (a, IsTxts ss) ∈ nw) : ∃ vs, TxtsAre vs ss ∧ s.heap.IsList a vs.toArray := by
  obtain ⟨o, ho, vs, ht, n, rfl⟩ := S.get m
  exact ⟨vs, ht, _, ho, rfl, n, rfl⟩
theorem Sta.appendT {a : Addr} {ss : List Str} {x : Str} {t : Tok} {Q : Value → Shared → Prop} (S : Sta W G env loc nw s) (U : Upd a (IsTxts ss) (IsTxts (ss ++ [x])) nw nw') (hz : ss.length ≤ sizeLine) (h : ∀ s', Sta W G env loc nw' s' → Q .none s') :
    wpAny (model W.prog W.w) A (call (.builtin "list.append") [.ref a, .str x t]) Q E s := by
  obtain ⟨vs, nw1, ht, U1, U2, S1⟩ := S.openT U
  obtain ⟨nw2, U3, U4⟩ := U2.via2 (IsLst (vs ++ [.str x t]))
  exact S1.append U3 (by rw [ht.length]; exact hz) fun s' S2 => h _ (S2.tell U4 fun o _ ho => ⟨_, ht.snoc x t, ho⟩)
theorem Sta.joinT {a : Addr} {ss : List Str} {x : Str} {t : Tok} {Q : Value → Shared → Prop} (S : Sta W G env loc nw s) (m : (a, IsTxts ss) ∈ nw) (hx : x = Str.empty) (hz : (cat ss).length ≤ 16777216) (h : ∀ t' s', Sta W G env loc nw s' → Q (.str (cat ss) t') s') :
    wpAny (model W.prog W.w) A (call (.builtin "str.join") [.str x t, .ref a]) Q E s := by
  subst hx
  obtain ⟨vs, ht, hl⟩ := S.txts m
  obtain ⟨l, e1, e2⟩ := ht.values
  rw [e1] at hl
  refine SC.join hl e2 (joinOk_cat hz) fun t' k => ?_
  rw [cat_join]; exact h _ _ (S.toks k)
/-- a bound method of a built-in called -/
theorem bound_call {p : Addr} {id : String} {self : Value} {pos : List Value} {R : Result → Shared → Prop} {b : Builtin} (hq : plainId id = true) (hb : entryFor table id = some b) (ho : s.heap.get? p = some { cls := .type "builtin_function_or_method", data := .fields #[.builtin id, self] })
    (hc : ∀ (A' : Around) (Q' : Unit → Shared → Prop) (E' : Value → Shared → Prop), Q' () s → wpAny (model W.prog W.w) A' (checkBoundCall id ⟨self :: pos, []⟩) Q' E' s)
    (h : wpAny (model W.prog W.w) A.in1 (b ⟨self :: pos, []⟩)
      (fun fin s' => match fin with | .done f => R (.ok f) s' | .again c' => c'.quiet = true ∧ codeAny (model W.prog W.w) A c' R s') (fun e s' => R (.error e) s') s) :
    codeAny (model W.prog W.w) A (.call (.ref p) ⟨pos, []⟩) R s := by
  obtain ⟨hh, g, dr, t, os⟩ := s
  refine codeAny_of_tree ?_
  show wpAny _ _ (callAny (.ref p) _) _ _ _
  dsimp only at ho
  refine nd_load ho ?_
  show wpAny _ _ (checkBoundCall id ⟨self :: pos, []⟩ >>= fun _ => again (Code.builtin id ⟨self :: pos, []⟩)) _ _ _
  refine wpAny_bind (hc _ _ _ ?_)
  refine wpAny_pure ⟨plainId_quiet hq _, codeAny_builtin hb ?_⟩
  rw [Around.under_plainId hq]
  exact h
theorem check_append {a : Addr} {v : Value} {h : Heap} {g : Array GenState} {d : Drawn} {t : Nat} {os : OsState} {xs : List Value} {n : Nat} (hx : h.get? a = some { cls := .type "list", data := .seq xs.toArray n }) (A' : Around) (Q' : Unit → Shared → Prop) (E' : Value → Shared → Prop) (hq : Q' () ⟨h, g, d, t, os⟩) : wpAny (model W.prog W.w) A' (checkBoundCall "list.append" ⟨[.ref a, v], []⟩) Q' E' ⟨h, g, d, t, os⟩ := by
  have hT : (⟨h, g, d, t, os⟩ : Shared).TypeIs (.ref a) "list" := ⟨_, hx, rfl⟩
  have f1 : Manifest.signature? "list.append" = some ⟨.oneArg, "list.append", "append", .self, [⟨"object", .posOnly, true⟩]⟩ := by kernel_rfl
  have f2 : builtinKind "list.append" = some .method := by kernel_rfl
  have f3 : isSubtype (.type "list") (.type "module") = pure false := by rw [isSubtype_type]; kernel_rfl
  have f4 : Manifest.varargsMethods.contains "list.append" = false := by decide +kernel
  have f5 : ∀ sig : Manifest.Signature, sig = ⟨.oneArg, "list.append", "append", .self, [⟨"object", .posOnly, true⟩]⟩ → Bind.checkArgs "list.append" { sig with full := s!"{Bind.lastOf "list"}.{Bind.lastOf "list.append"}" } ⟨[.ref a, v], []⟩ = pure () := by intro sig e; subst e; kernel_rfl
  unfold checkBoundCall
  rw [f1, f2]
  refine wpAny_bind (wpAny_isInstance hT f3 ?_)
  rw [f4]
  show wpAny _ _ (isType (.ref a) >>= _) _ _ _
  refine wpAny_bind ?_
  unfold isType
  repeat lk
  exact hq
end
end Mine
end
section
open PySem PySem.W PyProof.Rows PySem.W.X PySem.SeqAt
set_option maxRecDepth 100000
namespace Mine
noncomputable def VV (a1 a2 a3 a4 a5 a6 a7 a8 a9 a10 a11 a12 a13 a14 a15 a16 a17 : Value) : Loc := [("_write", some a1), ("_data", some a2), ("_with_comments", some a3), ("_strip_text", some a4), ("_exclude_attrs", some a5), ("_exclude_tags", some a6), ("_rewrite_prefixes", some a7), ("_qname_aware_tags", some a8), ("_find_qname_aware_attrs", some a9), ("_declared_ns_stack", some a10), ("_ns_stack", some a11), ("_prefix_map", some a12), ("_preserve_space", some a13), ("_pending_start", some a14), ("_root_seen", some a15), ("_root_done", some a16), ("_ignored_depth", some a17)]
theorem VV.keys {a1 a2 a3 a4 a5 a6 a7 a8 a9 a10 a11 a12 a13 a14 a15 a16 a17 : Value} : (VV a1 a2 a3 a4 a5 a6 a7 a8 a9 a10 a11 a12 a13 a14 a15 a16 a17).map Prod.fst = selfNames := rfl
theorem m_write {a1 a2 a3 a4 a5 a6 a7 a8 a9 a10 a11 a12 a13 a14 a15 a16 a17 : Value} : (("_write" : Str), some a1) ∈ VV a1 a2 a3 a4 a5 a6 a7 a8 a9 a10 a11 a12 a13 a14 a15 a16 a17 := (.head _)
theorem m_data {a1 a2 a3 a4 a5 a6 a7 a8 a9 a10 a11 a12 a13 a14 a15 a16 a17 : Value} : (("_data" : Str), some a2) ∈ VV a1 a2 a3 a4 a5 a6 a7 a8 a9 a10 a11 a12 a13 a14 a15 a16 a17 := (.tail _ (.head _))
theorem m_with_comments {a1 a2 a3 a4 a5 a6 a7 a8 a9 a10 a11 a12 a13 a14 a15 a16 a17 : Value} : (("_with_comments" : Str), some a3) ∈ VV a1 a2 a3 a4 a5 a6 a7 a8 a9 a10 a11 a12 a13 a14 a15 a16 a17 := (.tail _ (.tail _ (.head _)))
theorem m_strip_text {a1 a2 a3 a4 a5 a6 a7 a8 a9 a10 a11 a12 a13 a14 a15 a16 a17 : Value} : (("_strip_text" : Str), some a4) ∈ VV a1 a2 a3 a4 a5 a6 a7 a8 a9 a10 a11 a12 a13 a14 a15 a16 a17 := (.tail _ (.tail _ (.tail _ (.head _))))
theorem m_exclude_attrs {a1 a2 a3 a4 a5 a6 a7 a8 a9 a10 a11 a12 a13 a14 a15 a16 a17 : Value} : (("_exclude_attrs" : Str), some a5) ∈ VV a1 a2 a3 a4 a5 a6 a7 a8 a9 a10 a11 a12 a13 a14 a15 a16 a17 := (.tail _ (.tail _ (.tail _ (.tail _ (.head _)))))
theorem m_exclude_tags {a1 a2 a3 a4 a5 a6 a7 a8 a9 a10 a11 a12 a13 a14 a15 a16 a17 : Value} : (("_exclude_tags" : Str), some a6) ∈ VV a1 a2 a3 a4 a5 a6 a7 a8 a9 a10 a11 a12 a13 a14 a15 a16 a17 := (.tail _ (.tail _ (.tail _ (.tail _ (.tail _ (.head _))))))
theorem m_rewrite_prefixes {a1 a2 a3 a4 a5 a6 a7 a8 a9 a10 a11 a12 a13 a14 a15 a16 a17 : Value} : (("_rewrite_prefixes" : Str), some a7) ∈ VV a1 a2 a3 a4 a5 a6 a7 a8 a9 a10 a11 a12 a13 a14 a15 a16 a17 := (.tail _ (.tail _ (.tail _ (.tail _ (.tail _ (.tail _ (.head _)))))))
theorem m_qname_aware_tags {a1 a2 a3 a4 a5 a6 a7 a8 a9 a10 a11 a12 a13 a14 a15 a16 a17 : Value} : (("_qname_aware_tags" : Str), some a8) ∈ VV a1 a2 a3 a4 a5 a6 a7 a8 a9 a10 a11 a12 a13 a14 a15 a16 a17 := (.tail _ (.tail _ (.tail _ (.tail _ (.tail _ (.tail _ (.tail _ (.head _))))))))
theorem m_find_qname_aware_attrs {a1 a2 a3 a4 a5 a6 a7 a8 a9 a10 a11 a12 a13 a14 a15 a16 a17 : Value} : (("_find_qname_aware_attrs" : Str), some a9) ∈ VV a1 a2 a3 a4 a5 a6 a7 a8 a9 a10 a11 a12 a13 a14 a15 a16 a17 := (.tail _ (.tail _ (.tail _ (.tail _ (.tail _ (.tail _ (.tail _ (.tail _ (.head _)))))))))
theorem m_declared_ns_stack {a1 a2 a3 a4 a5 a6 a7 a8 a9 a10 a11 a12 a13 a14 a15 a16 a17 : Value} : (("_declared_ns_stack" : Str), some a10) ∈ VV a1 a2 a3 a4 a5 a6 a7 a8 a9 a10 a11 a12 a13 a14 a15 a16 a17 := (.tail _ (.tail _ (.tail _ (.tail _ (.tail _ (.tail _ (.tail _ (.tail _ (.tail _ (.head _))))))))))
theorem m_ns_stack {a1 a2 a3 a4 a5 a6 a7 a8 a9 a10 a11 a12 a13 a14 a15 a16 a17 : Value} : (("_ns_stack" : Str), some a11) ∈ VV a1 a2 a3 a4 a5 a6 a7 a8 a9 a10 a11 a12 a13 a14 a15 a16 a17 := (.tail _ (.tail _ (.tail _ (.tail _ (.tail _ (.tail _ (.tail _ (.tail _ (.tail _ (.tail _ (.head _)))))))))))
theorem m_prefix_map {a1 a2 a3 a4 a5 a6 a7 a8 a9 a10 a11 a12 a13 a14 a15 a16 a17 : Value} : (("_prefix_map" : Str), some a12) ∈ VV a1 a2 a3 a4 a5 a6 a7 a8 a9 a10 a11 a12 a13 a14 a15 a16 a17 := (.tail _ (.tail _ (.tail _ (.tail _ (.tail _ (.tail _ (.tail _ (.tail _ (.tail _ (.tail _ (.tail _ (.head _))))))))))))
theorem m_preserve_space {a1 a2 a3 a4 a5 a6 a7 a8 a9 a10 a11 a12 a13 a14 a15 a16 a17 : Value} : (("_preserve_space" : Str), some a13) ∈ VV a1 a2 a3 a4 a5 a6 a7 a8 a9 a10 a11 a12 a13 a14 a15 a16 a17 := (.tail _ (.tail _ (.tail _ (.tail _ (.tail _ (.tail _ (.tail _ (.tail _ (.tail _ (.tail _ (.tail _ (.tail _ (.head _)))))))))))))
theorem m_pending_start {a1 a2 a3 a4 a5 a6 a7 a8 a9 a10 a11 a12 a13 a14 a15 a16 a17 : Value} : (("_pending_start" : Str), some a14) ∈ VV a1 a2 a3 a4 a5 a6 a7 a8 a9 a10 a11 a12 a13 a14 a15 a16 a17 := (.tail _ (.tail _ (.tail _ (.tail _ (.tail _ (.tail _ (.tail _ (.tail _ (.tail _ (.tail _ (.tail _ (.tail _ (.tail _ (.head _))))))))))))))
theorem m_root_seen {a1 a2 a3 a4 a5 a6 a7 a8 a9 a10 a11 a12 a13 a14 a15 a16 a17 : Value} : (("_root_seen" : Str), some a15) ∈ VV a1 a2 a3 a4 a5 a6 a7 a8 a9 a10 a11 a12 a13 a14 a15 a16 a17 := (.tail _ (.tail _ (.tail _ (.tail _ (.tail _ (.tail _ (.tail _ (.tail _ (.tail _ (.tail _ (.tail _ (.tail _ (.tail _ (.tail _ (.head _)))))))))))))))
theorem m_root_done {a1 a2 a3 a4 a5 a6 a7 a8 a9 a10 a11 a12 a13 a14 a15 a16 a17 : Value} : (("_root_done" : Str), some a16) ∈ VV a1 a2 a3 a4 a5 a6 a7 a8 a9 a10 a11 a12 a13 a14 a15 a16 a17 := (.tail _ (.tail _ (.tail _ (.tail _ (.tail _ (.tail _ (.tail _ (.tail _ (.tail _ (.tail _ (.tail _ (.tail _ (.tail _ (.tail _ (.tail _ (.head _))))))))))))))))
theorem m_ignored_depth {a1 a2 a3 a4 a5 a6 a7 a8 a9 a10 a11 a12 a13 a14 a15 a16 a17 : Value} : (("_ignored_depth" : Str), some a17) ∈ VV a1 a2 a3 a4 a5 a6 a7 a8 a9 a10 a11 a12 a13 a14 a15 a16 a17 := (.tail _ (.tail _ (.tail _ (.tail _ (.tail _ (.tail _ (.tail _ (.tail _ (.tail _ (.tail _ (.tail _ (.tail _ (.tail _ (.tail _ (.tail _ (.tail _ (.head _)))))))))))))))))
theorem p_write {a1 a2 a3 a4 a5 a6 a7 a8 a9 a10 a11 a12 a13 a14 a15 a16 a17 v : Value} : Put "_write" (some v) (VV a1 a2 a3 a4 a5 a6 a7 a8 a9 a10 a11 a12 a13 a14 a15 a16 a17) (VV v a2 a3 a4 a5 a6 a7 a8 a9 a10 a11 a12 a13 a14 a15 a16 a17) := .head
theorem p_data {a1 a2 a3 a4 a5 a6 a7 a8 a9 a10 a11 a12 a13 a14 a15 a16 a17 v : Value} : Put "_data" (some v) (VV a1 a2 a3 a4 a5 a6 a7 a8 a9 a10 a11 a12 a13 a14 a15 a16 a17) (VV a1 v a3 a4 a5 a6 a7 a8 a9 a10 a11 a12 a13 a14 a15 a16 a17) := (.tail .head)
theorem p_with_comments {a1 a2 a3 a4 a5 a6 a7 a8 a9 a10 a11 a12 a13 a14 a15 a16 a17 v : Value} : Put "_with_comments" (some v) (VV a1 a2 a3 a4 a5 a6 a7 a8 a9 a10 a11 a12 a13 a14 a15 a16 a17) (VV a1 a2 v a4 a5 a6 a7 a8 a9 a10 a11 a12 a13 a14 a15 a16 a17) := (.tail (.tail .head))
theorem p_strip_text {a1 a2 a3 a4 a5 a6 a7 a8 a9 a10 a11 a12 a13 a14 a15 a16 a17 v : Value} : Put "_strip_text" (some v) (VV a1 a2 a3 a4 a5 a6 a7 a8 a9 a10 a11 a12 a13 a14 a15 a16 a17) (VV a1 a2 a3 v a5 a6 a7 a8 a9 a10 a11 a12 a13 a14 a15 a16 a17) := (.tail (.tail (.tail .head)))
theorem p_exclude_attrs {a1 a2 a3 a4 a5 a6 a7 a8 a9 a10 a11 a12 a13 a14 a15 a16 a17 v : Value} : Put "_exclude_attrs" (some v) (VV a1 a2 a3 a4 a5 a6 a7 a8 a9 a10 a11 a12 a13 a14 a15 a16 a17) (VV a1 a2 a3 a4 v a6 a7 a8 a9 a10 a11 a12 a13 a14 a15 a16 a17) := (.tail (.tail (.tail (.tail .head))))
theorem p_exclude_tags {a1 a2 a3 a4 a5 a6 a7 a8 a9 a10 a11 a12 a13 a14 a15 a16 a17 v : Value} : Put "_exclude_tags" (some v) (VV a1 a2 a3 a4 a5 a6 a7 a8 a9 a10 a11 a12 a13 a14 a15 a16 a17) (VV a1 a2 a3 a4 a5 v a7 a8 a9 a10 a11 a12 a13 a14 a15 a16 a17) := (.tail (.tail (.tail (.tail (.tail .head)))))
theorem p_rewrite_prefixes {a1 a2 a3 a4 a5 a6 a7 a8 a9 a10 a11 a12 a13 a14 a15 a16 a17 v : Value} : Put "_rewrite_prefixes" (some v) (VV a1 a2 a3 a4 a5 a6 a7 a8 a9 a10 a11 a12 a13 a14 a15 a16 a17) (VV a1 a2 a3 a4 a5 a6 v a8 a9 a10 a11 a12 a13 a14 a15 a16 a17) := (.tail (.tail (.tail (.tail (.tail (.tail .head))))))
theorem p_qname_aware_tags {a1 a2 a3 a4 a5 a6 a7 a8 a9 a10 a11 a12 a13 a14 a15 a16 a17 v : Value} : Put "_qname_aware_tags" (some v) (VV a1 a2 a3 a4 a5 a6 a7 a8 a9 a10 a11 a12 a13 a14 a15 a16 a17) (VV a1 a2 a3 a4 a5 a6 a7 v a9 a10 a11 a12 a13 a14 a15 a16 a17) := (.tail (.tail (.tail (.tail (.tail (.tail (.tail .head)))))))
theorem p_find_qname_aware_attrs {a1 a2 a3 a4 a5 a6 a7 a8 a9 a10 a11 a12 a13 a14 a15 a16 a17 v : Value} : Put "_find_qname_aware_attrs" (some v) (VV a1 a2 a3 a4 a5 a6 a7 a8 a9 a10 a11 a12 a13 a14 a15 a16 a17) (VV a1 a2 a3 a4 a5 a6 a7 a8 v a10 a11 a12 a13 a14 a15 a16 a17) := (.tail (.tail (.tail (.tail (.tail (.tail (.tail (.tail .head))))))))
theorem p_declared_ns_stack {a1 a2 a3 a4 a5 a6 a7 a8 a9 a10 a11 a12 a13 a14 a15 a16 a17 v : Value} : Put "_declared_ns_stack" (some v) (VV a1 a2 a3 a4 a5 a6 a7 a8 a9 a10 a11 a12 a13 a14 a15 a16 a17) (VV a1 a2 a3 a4 a5 a6 a7 a8 a9 v a11 a12 a13 a14 a15 a16 a17) := (.tail (.tail (.tail (.tail (.tail (.tail (.tail (.tail (.tail .head)))))))))
theorem p_ns_stack {a1 a2 a3 a4 a5 a6 a7 a8 a9 a10 a11 a12 a13 a14 a15 a16 a17 v : Value} : Put "_ns_stack" (some v) (VV a1 a2 a3 a4 a5 a6 a7 a8 a9 a10 a11 a12 a13 a14 a15 a16 a17) (VV a1 a2 a3 a4 a5 a6 a7 a8 a9 a10 v a12 a13 a14 a15 a16 a17) := (.tail (.tail (.tail (.tail (.tail (.tail (.tail (.tail (.tail (.tail .head))))))))))
theorem p_prefix_map {a1 a2 a3 a4 a5 a6 a7 a8 a9 a10 a11 a12 a13 a14 a15 a16 a17 v : Value} : Put "_prefix_map" (some v) (VV a1 a2 a3 a4 a5 a6 a7 a8 a9 a10 a11 a12 a13 a14 a15 a16 a17) (VV a1 a2 a3 a4 a5 a6 a7 a8 a9 a10 a11 v a13 a14 a15 a16 a17) := (.tail (.tail (.tail (.tail (.tail (.tail (.tail (.tail (.tail (.tail (.tail .head)))))))))))
theorem p_preserve_space {a1 a2 a3 a4 a5 a6 a7 a8 a9 a10 a11 a12 a13 a14 a15 a16 a17 v : Value} : Put "_preserve_space" (some v) (VV a1 a2 a3 a4 a5 a6 a7 a8 a9 a10 a11 a12 a13 a14 a15 a16 a17) (VV a1 a2 a3 a4 a5 a6 a7 a8 a9 a10 a11 a12 v a14 a15 a16 a17) := (.tail (.tail (.tail (.tail (.tail (.tail (.tail (.tail (.tail (.tail (.tail (.tail .head))))))))))))
theorem p_pending_start {a1 a2 a3 a4 a5 a6 a7 a8 a9 a10 a11 a12 a13 a14 a15 a16 a17 v : Value} : Put "_pending_start" (some v) (VV a1 a2 a3 a4 a5 a6 a7 a8 a9 a10 a11 a12 a13 a14 a15 a16 a17) (VV a1 a2 a3 a4 a5 a6 a7 a8 a9 a10 a11 a12 a13 v a15 a16 a17) := (.tail (.tail (.tail (.tail (.tail (.tail (.tail (.tail (.tail (.tail (.tail (.tail (.tail .head)))))))))))))
theorem p_root_seen {a1 a2 a3 a4 a5 a6 a7 a8 a9 a10 a11 a12 a13 a14 a15 a16 a17 v : Value} : Put "_root_seen" (some v) (VV a1 a2 a3 a4 a5 a6 a7 a8 a9 a10 a11 a12 a13 a14 a15 a16 a17) (VV a1 a2 a3 a4 a5 a6 a7 a8 a9 a10 a11 a12 a13 a14 v a16 a17) := (.tail (.tail (.tail (.tail (.tail (.tail (.tail (.tail (.tail (.tail (.tail (.tail (.tail (.tail .head))))))))))))))
theorem p_root_done {a1 a2 a3 a4 a5 a6 a7 a8 a9 a10 a11 a12 a13 a14 a15 a16 a17 v : Value} : Put "_root_done" (some v) (VV a1 a2 a3 a4 a5 a6 a7 a8 a9 a10 a11 a12 a13 a14 a15 a16 a17) (VV a1 a2 a3 a4 a5 a6 a7 a8 a9 a10 a11 a12 a13 a14 a15 v a17) := (.tail (.tail (.tail (.tail (.tail (.tail (.tail (.tail (.tail (.tail (.tail (.tail (.tail (.tail (.tail .head)))))))))))))))
theorem p_ignored_depth {a1 a2 a3 a4 a5 a6 a7 a8 a9 a10 a11 a12 a13 a14 a15 a16 a17 v : Value} : Put "_ignored_depth" (some v) (VV a1 a2 a3 a4 a5 a6 a7 a8 a9 a10 a11 a12 a13 a14 a15 a16 a17) (VV a1 a2 a3 a4 a5 a6 a7 a8 a9 a10 a11 a12 a13 a14 a15 a16 v) := (.tail (.tail (.tail (.tail (.tail (.tail (.tail (.tail (.tail (.tail (.tail (.tail (.tail (.tail (.tail (.tail .head))))))))))))))))
inductive Mid (L L' : Ledger) : Ledger → Ledger → Prop
  | head {N} : Mid L L' (L ++ N) (L' ++ N)
  | tail {p r r'} : Mid L L' r r' → Mid L L' (p :: r) (p :: r')
  | app {P r r'} : Mid L L' r r' → Mid L L' (P ++ r) (P ++ r')
theorem Mid.perm {L L' nw nw' : Ledger} (h : Mid L L' nw nw') : ∃ N, nw.Perm (L ++ N) ∧ nw'.Perm (L' ++ N) := by
  induction h with
  | @head N => exact ⟨N, .refl _, .refl _⟩
  | @tail p r r' h ih =>
    obtain ⟨N, h1, h2⟩ := ih
    exact ⟨p :: N, (List.Perm.cons _ h1).trans List.perm_middle.symm, (List.Perm.cons _ h2).trans List.perm_middle.symm⟩
  | @app P r r' h ih =>
    obtain ⟨N, h1, h2⟩ := ih
    have e : ∀ L : Ledger, List.Perm (P ++ (L ++ N)) (L ++ (P ++ N)) := fun L => by
      rw [← List.append_assoc, ← List.append_assoc]
      exact List.Perm.append_right _ List.perm_append_comm
    exact ⟨P ++ N, (List.Perm.append_left P h1).trans (e _), (List.Perm.append_left P h2).trans (e _)⟩
/-- where what is written goes -/
structure Sink (W : Wd) where
  σ : Type
  q : Addr
  L : σ → Ledger
  push : σ → Str → σ
  room : σ → Nat → Prop
  less : ∀ {st : σ} {n : Nat}, room st (n + 1) → room st n
  step : ∀ {st : σ} {n : Nat} (x : Str), room st (n + 1) → room (push st x) n
  call : ∀ {G : Gens} {env : Env} {loc : Loc} {N : Ledger} {s : Shared} {A : Around} {E : Value → Shared → Prop} {x : Str} {t : Tok} {st : σ} {Q : Value → Shared → Prop}, Aok 3 A → room st 1 → Sta W G env loc (L st ++ N) s →
    (∀ s', Sta W G env loc (L (push st x) ++ N) s' → Q .none s') → wpAny (model W.prog W.w) A (PySem.call (.ref q) [.str x t]) Q E s
  keep : ∀ {N : Ledger} {h : Heap} {st : σ}, W.K.In h → Led W.B (L st ++ N) h → ∃ k, (k = Keeper.frame ∨ k = Keeper.machine ∨ k = Keeper.boundFrame) ∧ Looks (model W.prog W.w) h (keeperOf (.ref q)) k
noncomputable def Sink.pushes {W : Wd} (K : Sink W) (st : K.σ) (xs : List Str) : K.σ := xs.foldl K.push st
theorem Sink.pushes_append {W : Wd} (K : Sink W) (st : K.σ) (a b : List Str) : K.pushes st (a ++ b) = K.pushes (K.pushes st a) b := List.foldl_append
section
variable {W : Wd} {G : Gens} {env : Env} {loc loc' : Loc} {nw nw' : Ledger} {s : Shared} {A : Around} {E : Value → Shared → Prop} {C x dx : Addr} {vals vals' : Loc}
theorem Sta.getF {name : Str} {v : Value} {expr : Bool} {Q : Value → Shared → Prop} (S : Sta W G env loc nw s) (c : Cl W.K C selfNames) (mx : (x, IsInst C dx) ∈ nw) (md : (dx, IsAttrs vals) ∈ nw) (hk : vals.map Prod.fst = selfNames) (hv : (name, some v) ∈ vals) (hh : handedIn v = true)
    (h : ∀ s', Sta W G env loc nw s' → Q v s') : wpAny (model W.prog W.w) A (getAttr (.ref x) name expr) Q E s := S.getattr c mx md hk hv hh h
theorem Sta.getM_val {name : Str} {v : Value} {Q : Value × List Value → Shared → Prop} (S : Sta W G env loc nw s) (c : Cl W.K C selfNames) (mx : (x, IsInst C dx) ∈ nw) (md : (dx, IsAttrs vals) ∈ nw) (hk : vals.map Prod.fst = selfNames) (hv : (name, some v) ∈ vals) (hh : handedIn v = true)
    (h : ∀ s', Sta W G env loc nw s' → Q (v, []) s') : GetM (model W.prog W.w) A E name (.ref x) Q s := fun pl => by
  obtain ⟨od, I, nd, _, es, ep, hd, hsk, hl, _⟩ := S.inst mx md
  have hn : findIn W.K (.ref C) name = some none := c.own _ (by rw [← hk]; exact List.mem_map.mpr ⟨_, hv, rfl⟩)
  exact method_usual S.kin I c.ga c.gh hn rfl (S.getattr c mx md hk hv hh h)
theorem Sta.sink {K : Sink W} {st : K.σ} {y : Str} {t : Tok} {Q : Value → Shared → Prop} (S : Sta W G env loc nw s) (hA : Aok 3 A) (hr : K.room st 1) (M : Mid (K.L st) (K.L (K.push st y)) nw nw') (h : ∀ s', Sta W G env loc nw' s' → Q .none s') :
    wpAny (model W.prog W.w) A (call (.ref K.q) [.str y t]) Q E s := by
  obtain ⟨N, h1, h2⟩ := M.perm
  exact K.call hA hr (S.perm h1) fun s' S' => h _ (S'.perm h2.symm)
/-- a call of the value under which the sink stands -/
theorem callK_1 {K : Sink W} {pos : Pos} {e : Expr} {rest : List Expr} {Q : Value → Shared → Prop}
    (h : wpAny (model W.prog W.w) A (spliced (backTo pos (starEach (e :: rest) env))) (fun vs s₁ => (∃ N st, W.K.In s₁.heap ∧ Led W.B (K.L st ++ N) s₁.heap) ∧ wpAny (model W.prog W.w) A (call (.ref K.q) vs) Q E s₁) E s)
    (he : starEach (e :: rest) env = (false, eval e env) :: starEach rest env) (hplain : (backTo pos (starEach rest env)).any (·.1) = false) :
    wpAny (model W.prog W.w) A (callWith pos (.ref K.q) [] (backTo pos (starEach (e :: rest) env)) (backToKw pos (keywordEach [] env))) Q E s := by
  rw [he] at h ⊢
  refine callWith_of (P := fun h => ∃ N st, W.K.In h ∧ Led W.B (K.L st ++ N) h) (first := []) (by show (false || (backTo pos (starEach rest env)).any (·.1) || false) = false; rw [hplain]; rfl) (fun h X => ?_) (Calls.evalArgs_plain h)
  obtain ⟨N, st, X, D⟩ := X
  exact K.keep X D
theorem Sta.sinkLed {K : Sink W} {st : K.σ} {L' : Ledger} (S : Sta W G env loc nw s) (M : Mid (K.L st) L' nw nw') : ∃ N st, W.K.In s.heap ∧ Led W.B (K.L st ++ N) s.heap := by
  obtain ⟨N, h1, _⟩ := M.perm
  exact ⟨N, st, S.kin, (S.perm h1).led.tail⟩
theorem looks_bound {M : Model} {h : Heap} {q : Addr} {id : String} {self : Value} (ho : h.get? q = some { cls := .type "builtin_function_or_method", data := .fields #[.builtin id, self] }) : Looks M h (keeperOf (.ref q)) .machine :=
  (Looks.ld (part := none) ho).andThen .now
end
/-- the writing kept in a list -/
noncomputable def listSink (W : Wd) (q out : Addr) : Sink W where
  σ := List Str
  q := q
  L := fun ss => [(q, IsBound "list.append" (.ref out)), (out, IsTxts ss)]
  push := fun ss x => ss ++ [x]
  room := fun ss n => ss.length + n ≤ 16000000
  less := fun h => by omega
  step := fun x h => by rw [List.length_append, List.length_singleton]; omega
  call := by
    intro G env loc N s A E x t st Q hA hr S h
    obtain ⟨o, ho, rfl⟩ := S.get (.head _)
    have U : Upd out (IsTxts st) (IsTxts (st ++ [x])) ([(q, IsBound "list.append" (.ref out)), (out, IsTxts st)] ++ N) ([(q, IsBound "list.append" (.ref out)), (out, IsTxts (st ++ [x]))] ++ N) := .tail .head
    obtain ⟨vs, nw1, ht, U1, U2, S1⟩ := S.openT U
    obtain ⟨nw2, U3, U4⟩ := U2.via2 (IsLst (vs ++ [.str x t]))
    obtain ⟨n, hl⟩ := S1.isL U3.mem
    have hz : vs.length ≤ sizeLine := by rw [ht.length, sizeLine_eq]; omega
    refine wpAny_call (bound_call (W := W) F.slot_list_append.plain F.entry_list_append ho (fun A' Q' E' hq => check_append hl A' Q' E' hq) ?_)
    refine list_append out vs.toArray n (.str x t) (by simpa using hz) W.prog W.w A (wants Q E) s ⟨hl, ?_⟩
    exact h _ ((S1.setL hl _ (by simp) U3 _).tell U4 fun o _ ho => ⟨_, ht.snoc x t, ho⟩)
  keep := by
    intro N h st X D
    obtain ⟨o, ho, rfl⟩ := D.get (.head _)
    exact ⟨.machine, .inr (.inl rfl), looks_bound ho⟩
end Mine
end
section
open PySem PySem.W PyProof.Rows PySem.W.X PySem.SeqAt
set_option maxRecDepth 100000
namespace Mine
theorem delAll_run {prog : Program} {w : World} {A : Around} {E : Value → Shared → Prop} {h : Heap} {g : Array GenState} {d : Drawn} {t : Nat} {os : OsState} {a sl : Addr} {xs : List Value} {n : Nat} {Q : Fin → Shared → Prop}
   (hx : h.get? a = some { cls := .type "list", data := .seq xs.toArray n }) (hs : h.get? sl = some { cls := .type "slice", data := .fields #[.none, .none, .none] }) (hz : xs.length ≤ sizeLine)
   (hq : ∀ f : Array Value → Array Value, f xs.toArray = #[] → Q (.done (.ret .none)) ⟨h.update a (Obj.mapSeq f), g, d, t, os⟩) :
   wpAny (model prog w) A (Builtin.«list.__delitem__» ⟨[.ref a, .ref sl], []⟩) Q E ⟨h, g, d, t, os⟩ := by
  have hT : (⟨h, g, d, t, os⟩ : Shared).TypeIs (.ref a) "list" := ⟨_, hx, rfl⟩
  have hS : (⟨h, g, d, t, os⟩ : Shared).TypeIs (.ref sl) "slice" := ⟨_, hs, rfl⟩
  unfold Builtin.«list.__delitem__»
  repeat lk
  refine wpAny_update hx ?_
  have hf : ∀ (sel : Nat → Bool), (∀ k, k < xs.length → sel k = true) → (fun ys : Array Value => (ys.toList.zipIdx.filterMap fun x => if sel x.2 = true then none else some x.1).toArray) xs.toArray = #[] := by
    intro sel h
    show (xs.zipIdx.filterMap fun x => if sel x.2 = true then none else some x.1).toArray = #[]
    rw [List.filterMap_eq_nil_iff.mpr]
    intro x hx
    have := (List.mem_zipIdx hx).2.1
    rw [if_pos (h _ (by omega))]
  have hs1 : ∀ k, k < xs.length → (if (1 : Int) > 0 then decide ((if (1 : Int) > 0 then 0 else (xs.toArray.size : Int) - 1) ≤ (k : Int)) && decide ((k : Int) < (if (1 : Int) > 0 then (xs.toArray.size : Int) else -1)) && (((k : Int) - (if (1 : Int) > 0 then 0 else (xs.toArray.size : Int) - 1)) % 1 == 0)
      else false) = true := by
    intro k hk
    simp
    omega
  have e := hf _ hs1
  refine wpAny_lookBehind (IsL.update hx _) ?_ ?_
  · refine pastItsLine_seq ?_
    rw [List.size_toArray]
    refine Nat.le_trans (List.length_filterMap_le _ _) ?_
    rw [List.length_zipIdx]
    show xs.length ≤ sizeLine + 1
    omega
  refine wpAny_bind (wpAny_letGo ?_)
  refine wpAny_pure ?_
  exact hq _ e
section
variable {W : Wd} {G : Gens} {env : Env} {loc loc' : Loc} {nw nw' : Ledger} {s : Shared} {A : Around} {E : Value → Shared → Prop}
noncomputable def DelK (W : Wd) (env : Env) (Q : Unit → Shared → Prop) (o : Value) (s : Shared) : Prop :=
  ∃ G loc nw nw' l ss, Sta W G env loc nw s ∧ o = .ref l ∧ Upd l (IsTxts ss) (IsTxts []) nw nw' ∧ ss.length ≤ sizeLine ∧ ∀ s', Sta W G env loc nw' s' → Q () s'
/-- del xs[:] -/
theorem delete_all {value : Expr} {p pos : Pos} {Q : Unit → Shared → Prop}
    (h : wpAny (model W.prog W.w) A (eval value env) (fun o s₁ => DelK W env Q o s₁) E s) :
    wpAny (model W.prog W.w) A (delete (.Subscript value (.Slice none none none p) pos) env) Q E s := by
  show wpAny _ _ (do
    let ov ← eval value env
    let iv ← holding [ov] (eval (.Slice none none none p) env)
    standAt pos
    holding [ov, iv] (delItem ov iv)
    release [ov, iv] []) _ _ _
  refine wpAny_bind (wpAny_mono h (fun o s₁ h₁ => ?_) fun _ _ e => e)
  obtain ⟨G, loc, nw, nw', l, ss, S, rfl, U, hz, q⟩ := h₁
  refine wpAny_bind (wpAny_holding ?_)
  refine wpAny_Slice ?_
  rw [evalPart_none]
  refine wpAny_pure (wpAny_pure (wpAny_pure ?_))
  have S1 := S.new (c := IsObj { cls := .type "slice", data := .fields #[.none, .none, .none] }) rfl rfl s₁.toks
  refine wpAny_bind (wpAny_standAt (wpAny_bind (wpAny_holding ?_)))
  obtain ⟨vs, nw1, ht, U1, U2, S2⟩ := S1.openT (.tail U)
  obtain ⟨nw2, U3, U4⟩ := U2.via2 (IsLst [])
  obtain ⟨n, hl⟩ := S2.isL U3.mem
  obtain ⟨o, ho, rfl⟩ := S1.get (.head _)
  refine wpAny_delItem_slot ⟨_, hl, rfl⟩ (by decide) F.slot_list_delitem ?_
  refine wpAny_call (codeAny_call_builtin F.slot_list_delitem.plain F.entry_list_delitem (F.slot_list_delitem.check _ _ _ _ _ _ _ _ ⟨_, hl, rfl⟩ (F.args_list_delitem_2 _ _) ?_))
  refine delAll_run hl ho (by rw [ht.length]; exact hz) fun f hf => ?_
  refine wpAny_release (q _ ?_)
  exact ((S2.setL hl f hf U3 _).tell U4 fun o _ ho => ⟨_, .nil, ho⟩).sub (List.sublist_cons_self _ _)
theorem check_join {x : Str} {t0 : Tok} {v : Value} (A' : Around) (Q' : Unit → Shared → Prop) (E' : Value → Shared → Prop) (hq : Q' () s) : wpAny (model W.prog W.w) A' (checkBoundCall "str.join" ⟨[.str x t0, v], []⟩) Q' E' s := by
  obtain ⟨h, g, d, t, os⟩ := s
  have hT : (⟨h, g, d, t, os⟩ : Shared).TypeIs (.str x t0) "str" := typeIs_str _ _ _
  have f1 : Manifest.signature? "str.join" = some ⟨.oneArg, "str.join", "join", .self, [⟨"iterable", .posOnly, true⟩]⟩ := by kernel_rfl
  have f2 : builtinKind "str.join" = some .method := by kernel_rfl
  have f3 : isSubtype (.type "str") (.type "module") = pure false := by rw [isSubtype_type]; kernel_rfl
  have f4 : Manifest.varargsMethods.contains "str.join" = false := by decide +kernel
  have f5 : ∀ sig : Manifest.Signature, sig = ⟨.oneArg, "str.join", "join", .self, [⟨"iterable", .posOnly, true⟩]⟩ → Bind.checkArgs "str.join" { sig with full := s!"{Bind.lastOf "str"}.{Bind.lastOf "str.join"}" } ⟨[.str x t0, v], []⟩ = pure () := by intro sig e; subst e; kernel_rfl
  unfold checkBoundCall
  rw [f1, f2]
  refine wpAny_bind (wpAny_isInstance hT f3 ?_)
  rw [f4]
  show wpAny _ _ (isType (.str x t0) >>= _) _ _ _
  refine wpAny_bind ?_
  unfold isType
  repeat lk
  first | exact hq | exact wpAny_of_eq (f5 _ rfl) hq
/-- the bound ''.join of the text called -/
theorem Sta.joinB {p a : Addr} {ss : List Str} {x : Str} {t0 : Tok} {Q : Value → Shared → Prop} (S : Sta W G env loc nw s) (ho : W.K.lookup p = some { cls := .type "builtin_function_or_method", data := .fields #[.builtin "str.join", .str x t0] }) (m : (a, IsTxts ss) ∈ nw) (hx : x = Str.empty) (hz : (cat ss).length ≤ 16777216) (h : ∀ t' s', Sta W G env loc nw s' → Q (.str (cat ss) t') s') :
    wpAny (model W.prog W.w) A (call (.ref p) [.ref a]) Q E s := by
  subst hx
  obtain ⟨vs, ht, hl⟩ := S.txts m
  obtain ⟨l, e1, e2⟩ := ht.values
  rw [e1] at hl
  have hok := joinOk_cat hz
  rw [← e2] at hok
  unfold JoinOk at hok
  rw [Bool.not_eq_true'] at hok
  refine wpAny_call (bound_call (W := W) F.slot_str_join.plain F.entry_str_join (S.kin _ _ ho) (fun A' Q' E' hq => check_join A' Q' E' hq) ?_)
  refine meets_str_join_list Str.empty t0 a l hok W.prog W.w A (wants Q E) s ⟨hl, post_join l ⟨joinFit_length hok, fun t' k => ?_⟩⟩
  show Q (.str (Txt.join Str.empty (l.map (·.1))) t') _
  rw [e2, cat_join]; exact h _ _ (S.toks k)
/-- a call of a bound built-in of the text -/
theorem callB_1 {pos : Pos} {p : Addr} {id : String} {self : Value} {e : Expr} {rest : List Expr} {Q : Value → Shared → Prop} (ho : W.K.lookup p = some { cls := .type "builtin_function_or_method", data := .fields #[.builtin id, self] })
    (h : wpAny (model W.prog W.w) A (spliced (backTo pos (starEach (e :: rest) env))) (fun vs s₁ => W.K.In s₁.heap ∧ wpAny (model W.prog W.w) A (call (.ref p) vs) Q E s₁) E s)
    (he : starEach (e :: rest) env = (false, eval e env) :: starEach rest env) (hplain : (backTo pos (starEach rest env)).any (·.1) = false) :
    wpAny (model W.prog W.w) A (callWith pos (.ref p) [] (backTo pos (starEach (e :: rest) env)) []) Q E s := by
  rw [he] at h ⊢
  exact callWith_of (P := fun h => W.K.In h) (first := []) (by show (false || (backTo pos (starEach rest env)).any (·.1) || false) = false; rw [hplain]; rfl) (fun h X => ⟨.machine, .inr (.inl rfl), looks_bound (X _ _ ho)⟩) (Calls.evalArgs_plain h)
theorem isNot_nn {M : Model} {Q : Value → Shared → Prop} (h : Q (.bool false) s) : wpAny M A (compareOp .IsNot .none .none) Q E s := wpAny_isNot_plain rfl h
theorem isNot_rn {M : Model} {a : Addr} {Q : Value → Shared → Prop} (h : Q (.bool true) s) : wpAny M A (compareOp .IsNot (.ref a) .none) Q E s := wpAny_isNot_plain rfl h
theorem isNot_sn {M : Model} {x : Str} {t : Tok} {Q : Value → Shared → Prop} (h : Q (.bool true) s) : wpAny M A (compareOp .IsNot (.str x t) .none) Q E s := wpAny_isNot_plain rfl h
theorem is_nn {M : Model} {Q : Value → Shared → Prop} (h : Q (.bool true) s) : wpAny M A (compareOp .Is .none .none) Q E s := wpAny_is_plain rfl h
theorem is_sn {M : Model} {x : Str} {t : Tok} {Q : Value → Shared → Prop} (h : Q (.bool false) s) : wpAny M A (compareOp .Is (.str x t) .none) Q E s := wpAny_is_plain rfl h
theorem truthy_s {x : Str} {t : Tok} {Q : Bool → Shared → Prop} (S : Sta W G env loc nw s) (hz : x.length ≤ 16777216) (h1 : x.length = 0 → ∀ s', Sta W G env loc nw s' → Q false s') (h2 : x.length ≠ 0 → ∀ s', Sta W G env loc nw s' → Q true s') : wpAny (model W.prog W.w) A (truthy (.str x t)) Q E s := by
  refine SBL.truthy (by omega) ?_
  by_cases e : x.length = 0
  · have e2 : ((x.length : Int) != 0) = false := by rw [e]; rfl
    rw [e2]; exact h1 e _ (S.toks _)
  · have e2 : ((x.length : Int) != 0) = true := bne_iff_ne.mpr (by omega)
    rw [e2]; exact h2 e _ (S.toks _)
theorem Sta.getM_txts {name : Str} {a : Addr} {ss : List Str} {Q : Value × List Value → Shared → Prop} {id : String} (S : Sta W G env loc nw s) (m : (a, IsTxts ss) ∈ nw) (slot : Slot "list" name id) (hty : typeOf (.builtin id) = pure (.type "method_descriptor")) (h : Q (.builtin id, [.ref a]) s) :
    GetM (model W.prog W.w) A E name (.ref a) Q s := by
  obtain ⟨o, ho, vs, ht, n, rfl⟩ := S.get m
  exact getM_builtin F.plainAttrs_list slot hty ⟨_, ho, rfl⟩ (fun b e => by cases e; exact ⟨_, ho, rfl⟩) h
theorem Sta.truthyT {a : Addr} {ss : List Str} {Q : Bool → Shared → Prop} (S : Sta W G env loc nw s) (m : (a, IsTxts ss) ∈ nw) (hz : ss.length ≤ sizeLine) (h : ∀ s', Sta W G env loc nw s' → Q (!ss.isEmpty) s') :
    wpAny (model W.prog W.w) A (truthy (.ref a)) Q E s := by
  obtain ⟨vs, ht, hl⟩ := S.txts m
  have e : vs.isEmpty = ss.isEmpty := by cases ht <;> rfl
  refine wpAny_truthy_list hl ?_ ?_
  · rw [sizeLine_eq] at hz; rw [List.size_toArray, ht.length]; omega
  · have := h _ (S.toks (s.toks + 1 + 1))
    rw [← e] at this
    simpa using this
end
end Mine
end
section
open PySem PySem.W PyProof.Rows PySem.W.X PySem.SeqAt
set_option maxRecDepth 100000
namespace Mine
theorem execs_at {M : Model} {A : Around} {E : Value → Shared → Prop} {s : Shared} {env : Env} {l : List Stmt} {n : Nat} {st : Stmt} {Q : Flow → Shared → Prop} (h : l[n]? = some st)
    (k : wpAny M A (exec st env) (fun f s₁ => match f with | .next => wpAny M A (execs (l.drop (n + 1)) env) Q E s₁ | f => Q f s₁) E s) : wpAny M A (execs (l.drop n) env) Q E s := by
  obtain ⟨hn, e⟩ := List.getElem?_eq_some_iff.mp h
  rw [List.drop_eq_getElem_cons hn, e]
  exact wpAny_execs_cons k
theorem execs_end {M : Model} {A : Around} {E : Value → Shared → Prop} {s : Shared} {env : Env} {l : List Stmt} {n : Nat} {Q : Flow → Shared → Prop} (h : l.length ≤ n) (k : Q .next s) : wpAny M A (execs (l.drop n) env) Q E s := by
  rw [List.drop_of_length_le h]
  exact wpAny_execs_nil k
theorem execs_go {M : Model} {A : Around} {E : Value → Shared → Prop} {s : Shared} {env : Env} {l : List Stmt} {Q : Flow → Shared → Prop} (k : wpAny M A (execs (l.drop 0) env) Q E s) : wpAny M A (execs l env) Q E s := k
noncomputable def SliceSK (W : Wd) (env : Env) (Q : Value → Shared → Prop) (o vl vu : Value) (s : Shared) : Prop :=
  ∃ G loc nw x t lo hi, Sta W G env loc nw s ∧ o = .str x t ∧ x.length ≤ sizeLine ∧ IsPart vl lo ∧ IsPart vu hi ∧ ∀ t' s', Sta W G env loc nw s' → Q (.str (Txt.slice x lo hi) t') s'
noncomputable def IsSS (W : Wd) (S : Str → Bool) (n : Nat) : Cell := fun o => o.SetObjOf (PySem.strKind W.prog W.w) S n
section
variable {W : Wd} {G : Gens} {env : Env} {loc loc' : Loc} {nw nw' : Ledger} {s : Shared} {A : Around} {E : Value → Shared → Prop}
theorem part_value {v : Value} {o : Option Int} (h : IsPart v o) : ∃ l : Option (Int × Tok), v = partValue l ∧ l.map (·.1) = o := by
  cases h with
  | none => exact ⟨none, rfl, rfl⟩
  | int i t => exact ⟨some (i, t), rfl, rfl⟩
theorem sliceS_ {value : Expr} {lower upper : Option Expr} {p pos : Pos} {Q : Value → Shared → Prop}
    (h : wpAny (model W.prog W.w) A (eval value env) (fun o s₁ => wpAny (model W.prog W.w) A (evalPart lower env) (fun vl s₂ => wpAny (model W.prog W.w) A (evalPart upper env) (fun vu s₃ => SliceSK W env Q o vl vu s₃) E s₂) E s₁) E s)
    (ht : ∀ o r, letTemporaryGo value o r = pure () := by intro _ _; rfl) :
    wpAny (model W.prog W.w) A (eval (.Subscript value (.Slice lower upper none p) pos) env) Q E s := by
  refine wpAny_Subscript_str_slice (wpAny_mono h (fun o s₁ h₁ => wpAny_mono h₁ (fun vl s₂ h₂ => wpAny_mono h₂ (fun vu s₃ h₃ => ?_) fun _ _ e => e) fun _ _ e => e) fun _ _ e => e) ht
  obtain ⟨G, loc, nw, x, t, lo, hi, S, rfl, hz, pl, pu, q⟩ := h₃
  obtain ⟨l, e1, e2⟩ := part_value pl
  obtain ⟨u, e3, e4⟩ := part_value pu
  refine ⟨x, t, l, u, rfl, e1, e3, ?_⟩
  have k : ∀ t' k, Q (.str (Txt.slice x (l.map (·.1)) (u.map (·.1))) t') { s₃ with heap := s₃.heap.push { cls := .type "slice", data := .fields #[vl, vu, .none] }, toks := k } := fun t' k => by
    rw [e2, e4]
    exact q _ _ (S.grow (fun _ _ e => Heap.get?_push_of_some _ e) k)
  exact post_val_or_str ⟨Nat.le_trans (Txt.slice_le x _ _) hz, fun t' j => k t' j⟩
theorem eq_s {x y : Str} {t u : Tok} {Q : Value → Shared → Prop} (h1 : x = y → Q (.bool true) s) (h2 : x ≠ y → Q (.bool false) s) : wpAny (model W.prog W.w) A (compareOp .Eq (.str x t) (.str y u)) Q E s := by
  refine PyProof.Rows.eq_str ?_
  by_cases e : x = y
  · have : (x.cps.toList == y.cps.toList) = true := by rw [e]; simp
    first | (rw [this]; exact h1 e) | (have e2 : (x == y) = true := by rw [e]; simp
                                       rw [e2]; exact h1 e)
  · have : (x.cps.toList == y.cps.toList) = false := by
      rw [beq_eq_false_iff_ne]; exact fun q => e (Str.ext' q)
    first | (rw [this]; exact h2 e) | (have e2 : (x == y) = false := by rw [beq_eq_false_iff_ne]; exact e
                                       rw [e2]; exact h2 e)
theorem Sta.newSet {Q : Value → Shared → Prop} (S : Sta W G env loc nw s) (h : ∀ a s', Sta W G env loc ((a, IsSS W (fun _ => false) 0) :: nw) s' → Q (.ref a) s') : wpAny (model W.prog W.w) A (call (.type "set") []) Q E s :=
  call_set_0 fun led => h _ _ (S.new (c := IsSS W (fun _ => false) 0) rfl (setObjOf_fresh led) s.toks)
theorem Sta.setAt {a : Addr} {T : Str → Bool} {n : Nat} (S : Sta W G env loc nw s) (m : (a, IsSS W T n) ∈ nw) (hn : n < scanBound) : s.heap.SetOf (PySem.strKind W.prog W.w) a T n := by
  obtain ⟨o, ho, hc⟩ := S.get m
  exact hc.setOf ho hn
theorem Sta.getM_add {a : Addr} {T : Str → Bool} {n : Nat} {Q : Value × List Value → Shared → Prop} (S : Sta W G env loc nw s) (m : (a, IsSS W T n) ∈ nw) (hn : n < scanBound) (h : Q (.builtin "set.add", [.ref a]) s) : GetM (model W.prog W.w) A E "add" (.ref a) Q s := fun _ =>
  getMethod_set_add (S.setAt m hn) h
theorem Sta.setAdd {a : Addr} {T : Str → Bool} {n : Nat} {x : Str} {t : Tok} {Q : Value → Shared → Prop} (S : Sta W G env loc nw s) (U : Upd a (IsSS W T n) (IsSS W (fun k => T k || decide (k = x)) (if T x then n else n + 1)) nw nw') (hn : n + 1 < scanBound)
    (h : ∀ s', Sta W G env loc nw' s' → Q .none s') : wpAny (model W.prog W.w) A (call (.builtin "set.add") [.ref a, .str x t]) Q E s := by
  refine call_set_add (k := x) (by simp [PySem.strKind, Value.isStrOf]) rfl (S.setAt U.mem (by omega)) hn fun h' hsb hS => ?_
  obtain ⟨o, ho, hc⟩ := hS.objOf
  exact h _ (S.set U (fun b o hb e => (hsb.2 b hb).trans e) ho hc _)
theorem Sta.notInSet {a : Addr} {T : Str → Bool} {n : Nat} {x : Str} {t : Tok} {Q : Value → Shared → Prop} (S : Sta W G env loc nw s) (m : (a, IsSS W T n) ∈ nw) (hn : n < scanBound) (h : ∀ s', Sta W G env loc nw s' → Q (.bool (!T x)) s') :
    wpAny (model W.prog W.w) A (compareOp .NotIn (.str x t) (.ref a)) Q E s :=
  wpAny_notInSet_of (k := x) (by simp [PySem.strKind, Value.isStrOf]) rfl (S.setAt m hn) (h _ (S.toks _))
end
/-- the first sign -/
theorem slice_first (x : Str) : Txt.slice x none (some 1) = ⟨(x.cps.toList.take 1).toArray⟩ := by
  by_cases h : 1 ≤ x.cps.toList.length
  · have := eq_of_beq (slice_closes_to (x := x) (j := 1) ⟨by decide, by omega⟩)
    rw [this]
    simp
  · have e : x.cps.toList = [] := List.length_eq_zero_iff.mp (by omega)
    have e2 : x = ⟨#[]⟩ := Str.ext' e
    subst e2
    rfl
end Mine
end
section
open PySem PySem.W PyProof.Rows PySem.W.X PySem.SeqAt
set_option maxRecDepth 100000
namespace Mine
/-- a dict of texts as keys -/
noncomputable def IsD (W : Wd) (d : Addr) (kvs : List (Str × Value)) : Cell := fun o => d ≠ sysModules ∧ o.IsDictOf (PySem.strKind W.prog W.w) kvs
section
variable {W : Wd} {G : Gens} {env : Env} {loc loc' : Loc} {nw nw' : Ledger} {s : Shared} {A : Around} {E : Value → Shared → Prop}
theorem Sta.size_mods (S : Sta W G env loc nw s) : s.heap.objs.size ≠ sysModules := by
  obtain ⟨mg, o, es, ep, hg, _⟩ := S.ok.g
  have h1 := Heap.lt_size (S.led.keep _ _ hg)
  have h2 : sysModules < mainGlobals := by decide
  exact fun e => by
    have : mainGlobals < sysModules := e ▸ h1
    exact absurd (Nat.lt_trans h2 this) (Nat.lt_irrefl _)
theorem isD_empty {d : Addr} (h : d ≠ sysModules) : IsD W d [] { cls := .type "dict", data := .dict #[] } := by
  exact ⟨h, #[], 0, ⟨rfl, rfl, rfl⟩, rfl, fun e he => by simp at he, .nil, List.nodup_nil⟩
theorem Sta.newDict {Q : Value → Shared → Prop} {M : Model} (S : Sta W G env loc nw s) (h : ∀ a s', Sta W G env loc ((a, IsD W a []) :: nw) s' → Q (.ref a) s') : wpAny M A newDict Q E s :=
  wpAny_newObj_type (h _ _ (S.new (c := IsD W s.heap.objs.size []) rfl (isD_empty S.size_mods) s.toks))
theorem Sta.dictD0 {pos : Pos} {Q : Value → Shared → Prop} {M : Model} (S : Sta W G env loc nw s) (h : ∀ a s', Sta W G env loc ((a, IsD W a []) :: nw) s' → Q (.ref a) s') : wpAny M A (eval (.Dict [] [] pos) env) Q E s :=
  wpAny_Dict_empty (h _ _ (S.new (c := IsD W s.heap.objs.size []) rfl (isD_empty S.size_mods) s.toks))
theorem Sta.dictAt {d : Addr} {kvs : List (Str × Value)} (S : Sta W G env loc nw s) (m : (d, IsD W d kvs) ∈ nw) : s.heap.DictOf (PySem.strKind W.prog W.w) d kvs ∧ (d == sysModules) = false := by
  obtain ⟨o, ho, hne, hd⟩ := S.get m
  exact ⟨Heap.dictOf_iff.mpr ⟨o, ho, hd⟩, by rw [beq_eq_false_iff_ne]; exact hne⟩
theorem Sta.dictSet {d : Addr} {kvs : List (Str × Value)} {x : Str} {t : Tok} {v : Value} {Q : Unit → Shared → Prop} (S : Sta W G env loc nw s) (U : Upd d (IsD W d kvs) (IsD W d (stored kvs x v)) nw nw') (hz : kvs.length + 1 ≤ sizeLine)
    (h : ∀ s', Sta W G env loc nw' s' → Q () s') : wpAny (model W.prog W.w) A (dictSet d (.str x t) v) Q E s := by
  obtain ⟨hd, hn⟩ := S.dictAt U.mem
  refine wpAny_dictSet_pairs (strKind_is _ _ x t) hd (fun h' hm hs => ?_) ?_
  · obtain ⟨o, ho, hdo⟩ := Heap.dictOf_iff.mp hm
    exact h _ (S.set U (fun b o hb e => (hs.2 b hb).trans e) ho ⟨by simpa using hn, hdo⟩ _)
  · omega
end
theorem codeAny_compLoopD {prog : Program} {w : World} {A : Around} {s : Shared} {R : Result → Shared → Prop} {kx vx : Expr} {gens : List Comprehension} {scope : Scope} {pos p : Pos} {d : Nat} {target : Expr} {it acc : Value} {env : Env} {body : Sem Unit}
    (hT : compTurn (.DictComp kx vx gens scope pos) d it acc env = (standAt p >>= fun _ => pyNext it >>= fun r => match r with
      | none => pure (.done .next)
      | some v => letOwnedTupleGo target it v >>= fun _ => assign target env v >>= fun _ => body >>= fun _ => again (.compLoop (.DictComp kx vx gens scope pos) d it acc env)))
    (I : Nat → Shared → Prop)
    (turn : ∀ n s, I n s → wpAny (model prog w) A (pyNext it) (fun r s₁ => match r with
      | none => R (.ok .next) s₁
      | some v => wpAny (model prog w) A (letOwnedTupleGo target it v) (fun _ s₁ => wpAny (model prog w) A (assign target env v) (fun _ s₂ => wpAny (model prog w) A body (fun _ s₃ => ∃ m, m < n ∧ I m s₃)
          (fun _ _ => False) s₂) (fun _ _ => False) s₁) (fun _ _ => False) s₁) (fun _ _ => False) s)
    (n : Nat) (h : I n s) : codeAny (model prog w) A (.compLoop (.DictComp kx vx gens scope pos) d it acc env) R s := by
  refine codeAny_loop rfl I (fun n s hI => ?_) n h
  show wpAny _ _ ((compTurn (.DictComp kx vx gens scope pos) d it acc env).onRaise (fun x => do noteFrame x env; theTreesLotGoes x)) _ _ s
  refine wpAny_noted ?_
  rw [hT]
  refine wpAny_bind (wpAny_standAt (wpAny_bind (wpAny_mono (turn n s hI) (fun r s₁ h₁ => ?_) fun _ _ h' => h'.elim)))
  cases r with
  | none => exact wpAny_pure h₁
  | some v =>
    refine wpAny_bind (wpAny_mono h₁ (fun _ s₁' h₁' => ?_) fun _ _ h' => h'.elim)
    refine wpAny_bind (wpAny_mono h₁' (fun _ s₂ h₂ => wpAny_bind (wpAny_mono h₂ (fun _ s₃ h₃ => ?_) fun _ _ h' => h'.elim)) fun _ _ h' => h'.elim)
    exact wpAny_pure ⟨rfl, h₃⟩

section
variable {W : Wd} {sh : Ledger} {env : Env} {A : Around} {R : Result → Shared → Prop} {it : Addr} {target : Expr} {kx vx : Expr} {gens : List Comprehension} {scope : Scope} {pos p : Pos} {d : Nat} {acc : Value} {body : Sem Unit}
theorem compD_y {α : Type} {P : α → Value → Prop} (hA : Aok 7 A)
    (hT : compTurn (.DictComp kx vx gens scope pos) d (.ref it) acc env = (standAt p >>= fun _ => pyNext (.ref it) >>= fun r => match r with
      | none => pure (.done .next)
      | some v => letOwnedTupleGo target (.ref it) v >>= fun _ => assign target env v >>= fun _ => body >>= fun _ => again (.compLoop (.DictComp kx vx gens scope pos) d (.ref it) acc env)))
    (J : List α → Loc → Ledger → Gens → Prop)
    (turn : ∀ x v rest tl tg loc nw G s, P x v → Sta W (G ++ tg) env loc (nw ++ (sh ++ tl)) s → J (x :: rest) loc nw G →
      wpAny (model W.prog W.w) A (assign target env v) (fun _ s₂ => wpAny (model W.prog W.w) A body (fun _ s₃ => ∃ loc' nw' G', Sta W (G' ++ tg) env loc' (nw' ++ (sh ++ tl)) s₃ ∧ J rest loc' nw' G') (fun _ _ => False) s₂) (fun _ _ => False) s)
    (fin : ∀ loc nw G s, Sta W G env loc (nw ++ sh) s → J [] loc nw G → R (.ok .next) s)
    {vs : List α} {own : Ledger} {og G : Gens} {loc : Loc} {nw : Ledger} {s : Shared} (S : Sta W (G ++ og) env loc (nw ++ (sh ++ own)) s) (hy : YieldsR W sh it P vs own og) (hJ : J vs loc nw G) :
    codeAny (model W.prog W.w) A (.compLoop (.DictComp kx vx gens scope pos) d (.ref it) acc env) R s := by
  refine codeAny_compLoopD hT (fun n s => ∃ vs own og G loc nw, vs.length = n ∧ Sta W (G ++ og) env loc (nw ++ (sh ++ own)) s ∧ YieldsR W sh it P vs own og ∧ J vs loc nw G) (fun n s hI => ?_) vs.length ⟨vs, own, og, G, loc, nw, rfl, S, hy, hJ⟩
  obtain ⟨vs, own, og, G, loc, nw, hn, S, hy, hJ⟩ := hI
  cases vs with
  | nil => exact hy.2 A ((env.locals, IsNs loc) :: nw) G s _ _ hA S.to0 fun s' S' => fin loc nw G s' (St0.toSta S' S.eok) hJ
  | cons x rest =>
    refine hy.2 A ((env.locals, IsNs loc) :: nw) G s _ _ hA S.to0 fun v own' og' s' hpv S' hy' => ?_
    have S1 : Sta W (G ++ og') env loc (nw ++ (sh ++ own')) s' := St0.toSta S' S.eok
    have ht : Typ sh it own' := by cases rest <;> exact hy'.1
    obtain ⟨c, hc, hp⟩ := ht
    obtain ⟨o, ho, hco⟩ := S1.get (a := it) (c := c) (List.mem_append_right _ hc)
    refine tupGo ho (hp o hco) ?_
    refine wpAny_mono (turn x v rest own' og' loc nw G s' hpv S1 hJ) (fun _ s₂ h₂ => wpAny_mono h₂ (fun f s₃ h₃ => ?_) fun _ _ h => h) fun _ _ h => h
    obtain ⟨loc', nw', G', S3, hJ'⟩ := h₃
    exact ⟨rest.length, by rw [← hn]; simp, rest, own', og', G', loc', nw', rfl, S3, hy', hJ'⟩
theorem compD_start {c : Cell} {s : Shared} {g : Comprehension} (hg : gens[d]? = some g) (ha : g.is_async = 0) (hs : SelfIt W it c) (m : ∃ o, s.heap.get? it = some o ∧ c o)
    (h : codeAny (model W.prog W.w) A (.compLoop (.DictComp kx vx gens scope pos) d (.ref it) acc env) R s) :
    codeAny (model W.prog W.w) A (.compStart (.DictComp kx vx gens scope pos) d (.ref it) acc env) R s := by
  obtain ⟨o, ho, hc⟩ := m
  refine codeAny_of_tree ?_
  show wpAny _ _ ((compStart (.DictComp kx vx gens scope pos) d (.ref it) acc env).onRaise (fun x => do noteFrame x env; standAt theWindowsPlace)) _ _ s
  refine wpAny_notedAt ?_
  have e : (clausesOf (.DictComp kx vx gens scope pos))[d]? = some g := hg
  unfold compStart
  rw [e]
  simp only [Option.elim_some, ha]
  show wpAny _ _ (ask >>= _) _ _ s
  refine wpAny_bind (wpAny_askSetting (wpAny_ite ?_))
  split
  · exact wpAny_pure (And.intro rfl h)
  · exact wpAny_bind (wpAny_rule (wpAny_bind (wpAny_standAt (wpAny_bind (hs A _ _ _ o ho hc (wpAny_pure (And.intro rfl h)))))))
end
section
variable {W : Wd} {G : Gens} {env : Env} {loc loc' : Loc} {nw nw' : Ledger} {s : Shared} {A : Around} {E : Value → Shared → Prop}
end
end Mine
end
section
open PySem PySem.W PyProof.Rows PySem.W.X PySem.SeqAt
set_option maxRecDepth 100000
namespace Mine
/-- a set of texts that may be walked -/
noncomputable def SetL (W : Wd) (o : Obj) (ss : List Str) : Prop :=
  o.ExactSet ∧ ∃ es ep t, o.data = .set es ep t ∧ ElemsOf (PySem.strKind W.prog W.w) es.toList ∧ (∃ ss', TxtsAre (es.toList.map (·.2)) ss' ∧ ss'.Perm ss) ∧ t.fits es.size = true ∧
    (t.led = true ∨ W.w.params.followText "set-order" = true) ∧ (es.size ≠ 0 → t.plain = false) ∧ (es.size ≤ 1 → t.mask = 7 ∧ t.dummies = #[])
noncomputable def IsSL (W : Wd) (ss : List Str) : Cell := fun o => SetL W o ss
theorem TxtsAre.perm {vs vs' : List Value} (p : vs'.Perm vs) : ∀ {ss : List Str}, TxtsAre vs ss → ∃ ss', TxtsAre vs' ss' ∧ ss'.Perm ss := by
  induction p with
  | nil => intro ss h; exact ⟨ss, h, .refl _⟩
  | cons x p ih =>
    intro ss h
    cases h with
    | cons y t h =>
      obtain ⟨ss', h1, h2⟩ := ih h
      exact ⟨y :: ss', .cons y t h1, h2.cons _⟩
  | swap x y l =>
    intro ss h
    cases h with
    | cons a t h => cases h with
      | cons b u h => exact ⟨_, .cons _ _ (.cons _ _ h), .swap ..⟩
  | trans p q ih1 ih2 =>
    intro ss h
    obtain ⟨s1, a1, b1⟩ := ih2 h
    obtain ⟨s2, a2, b2⟩ := ih1 a1
    exact ⟨s2, a2, b2.trans b1⟩
theorem orStandIn_led (t : SetTable) (n : Nat) : (t.orStandIn n).led = t.led := by unfold SetTable.orStandIn; split <;> rfl
theorem layNew_led (t : SetTable) (es : Array (Int × Value)) (h : Int) (x : Value) : (layNew t es h x).2.1.led = t.led := by
  unfold layNew
  split
  · exact orStandIn_led _ _
  · rfl
theorem relayAll_led (t : SetTable) (es : Array (Int × Value)) (w : Nat) : (relayAll t es w).2.1.led = t.led := by
  unfold relayAll
  split
  · rename_i t' order e
    dsimp only
    split
    · unfold SetTable.relaid SetTable.laid at e
      simp only [bind, Option.bind] at e
      split at e
      · cases e
      · injection e with e; injection e with e1 e2; rw [← e1]
    · rfl
  · rfl
theorem relayAll_plain (t : SetTable) (es : Array (Int × Value)) (w : Nat) (hp : t.plain = false) : (relayAll t es w).2.1.plain = false := by
  unfold relayAll
  split
  · rename_i t' order e
    dsimp only
    split
    · unfold SetTable.relaid SetTable.laid at e
      simp only [bind, Option.bind] at e
      split at e
      · cases e
      · injection e with e; injection e with e1 e2; rw [← e1]; exact hp
    · rfl
  · rfl
theorem layNew_first {t : SetTable} (hm : t.mask = 7) (hp : t.place.size = 0) (hd : t.dummies = #[]) (es : Array (Int × Value)) (he : es.size = 0) (h : Int) (x : Value) :
    (layNew t es h x).2.1.mask = 7 ∧ (layNew t es h x).2.1.dummies = #[] ∧ (layNew t es h x).2.1.place.size = 1 ∧ (layNew t es h x).1.size = 1 := by
  have hp0 : t.place = #[] := Array.size_eq_zero_iff.mp hp
  have he0 : es = #[] := Array.size_eq_zero_iff.mp he
  subst he0
  obtain ⟨mask, place, dummies, finger, led, moves, plain⟩ := t
  dsimp only at hm hp0 hd
  subst hm hp0 hd
  have hs : ∀ j, SetTable.slot ⟨7, #[], #[], finger, led, moves, plain⟩ j = .empty := by
    intro j
    simp [SetTable.slot, SetTable.has]
  have hf : SetTable.freeSlot ⟨7, #[], #[], finger, led, moves, plain⟩ h = some ((SetTable.probeStart ⟨7, #[], #[], finger, led, moves, plain⟩ h).j, false) := by
    have key : ∀ (f : Nat → Int) (p : SetTable.Probe), SetTable.probe.go ⟨7, #[], #[], finger, led, moves, plain⟩ f h (219 + 1) p = some (.empty p.j p.dummy) := by
      intro f p
      unfold SetTable.probe.go
      rw [hs]
    unfold SetTable.freeSlot SetTable.probe
    have e := key (fun _ => h + 1) (SetTable.probeStart ⟨7, #[], #[], finger, led, moves, plain⟩ h)
    have e2 : (10 * SetTable.turns (SetTable.mk 7 #[] #[] finger led moves plain).mask) = 219 + 1 := rfl
    rw [e2, e]
    rfl
  unfold layNew
  rw [hf]
  dsimp only
  have hq : (SetTable.put ⟨7, #[], #[], finger, led, moves, plain⟩ (SetTable.probeStart ⟨7, #[], #[], finger, led, moves, plain⟩ h).j) = (⟨7, #[(SetTable.probeStart ⟨7, #[], #[], finger, led, moves, plain⟩ h).j], #[], finger, led, moves, plain⟩, 0) := by
    unfold SetTable.put
    simp [SetTable.below, SetTable.below.go, SetTable.insertAt, SetTable.has]
  rw [hq]
  dsimp only
  have hi : (SetTable.insertAt (#[] : Array (Int × Value)) 0 (h, x)).size = 1 := by simp [SetTable.insertAt]
  rw [hi]
  have ho : SetTable.orStandIn ⟨7, #[(SetTable.probeStart ⟨7, #[], #[], finger, led, moves, plain⟩ h).j], #[], finger, led, moves, plain⟩ 1 = ⟨7, #[(SetTable.probeStart ⟨7, #[], #[], finger, led, moves, plain⟩ h).j], #[], finger, led, moves, plain⟩ := by
    unfold SetTable.orStandIn
    rw [if_pos]
    simp [SetTable.fits, SetTable.fill]
  rw [ho]
  exact ⟨rfl, rfl, rfl, rfl⟩
section
variable {W : Wd} {G : Gens} {env : Env} {loc loc' : Loc} {nw nw' : Ledger} {s : Shared} {A : Around} {E : Value → Shared → Prop}
theorem isKey {x y : Str} {t : Tok} (h : (PySem.strKind W.prog W.w).is x (.str y t) = true) : x = y := by
  have : Value.isStrOf x (.str y t) = true := h
  simp [Value.isStrOf] at this
  first | exact this | exact this.symm
theorem TxtsAre.mem {vs : List Value} {ss : List Str} (h : TxtsAre vs ss) {v : Value} (hv : v ∈ vs) : ∃ x t, v = .str x t ∧ x ∈ ss := by
  induction h with
  | nil => cases hv
  | cons x t h ih =>
    rcases List.mem_cons.mp hv with rfl | hv
    · exact ⟨x, t, rfl, .head _⟩
    · obtain ⟨y, u, e, m⟩ := ih hv
      exact ⟨y, u, e, .tail _ m⟩
theorem setL_store {a : Addr} {o : Obj} {es : Array (Int × Value)} {ep : Nat} {t : SetTable} {h : Heap} (ho : h.get? a = some o) (hex : o.ExactSet) (hd : o.data = .set es ep t) (es' : Array (Int × Value)) (t' : SetTable) :
    ∃ o', (h.update a (Obj.putSet es' t')).get? a = some o' ∧ o'.ExactSet ∧ o'.data = .set es' (ep + 1) t' := by
  obtain ⟨c, di, dt, sl⟩ := o
  dsimp only at hd
  subst hd
  exact ⟨_, Heap.get?_update_self _ ho rfl, hex, rfl⟩
theorem tailL {g : Bool → Sem Unit} (hg : ∀ (b : Bool) (s₁ : Shared) (Q' : Unit → Shared → Prop), Q' () s₁ → wpAny (model W.prog W.w) A (g b) Q' E s₁)
    {a : Addr} {o : Obj} {es : Array (Int × Value)} {ep : Nat} {t : SetTable} (ho : s.heap.get? a = some o) (hex : o.ExactSet) (hd : o.data = .set es ep t)
    {es1 : Array (Int × Value)} {t2 : SetTable} (hb1 : es1.size < scanBound) (hf2 : t2.fits es1.size = true) (hp2 : t2.plain = false) {wasDummy : Bool} {R : Option Bool → Shared → Prop}
    (h : ∀ h' o' es2 ep2 t3, Heap.SameBut a s.heap h' → h'.get? a = some o' → o'.ExactSet → o'.data = .set es2 ep2 t3 → es2.toList.Perm es1.toList → t3.fits es2.size = true → t3.led = t2.led → t3.plain = false → (t2.tooFull = false → t3 = t2) → R (some true) { s with heap := h' }) :
    wpAny (model W.prog W.w) A (do
        storeSet a es1 t2
        if (!wasDummy && t2.tooFull) = true then do
            g (relayAll t2 es1 (SetTable.grown es1.size)).2.2
            storeSet a (relayAll t2 es1 (SetTable.grown es1.size)).1 (relayAll t2 es1 (SetTable.grown es1.size)).2.1
            pure (some true)
          else pure (some true)) R E s := by
  refine wpAny_bind (wpAny_storeSet_of ho hd ?_ (fits_of_scanBound hb1))
  obtain ⟨o1, ho1, hex1, hd1⟩ := setL_store ho hex hd es1 t2
  have hsb1 := Heap.SameBut.update s.heap a (Obj.putSet es1 t2)
  split
  · rename_i hfull
    have hp := relayAll_perm t2 es1 (SetTable.grown es1.size)
    have hfr := relayAll_fits t2 es1 (SetTable.grown es1.size)
    have hlr := relayAll_led t2 es1 (SetTable.grown es1.size)
    have hpr := relayAll_plain t2 es1 (SetTable.grown es1.size) hp2
    generalize hRl : relayAll t2 es1 (SetTable.grown es1.size) = Rl at hp hfr hlr hpr ⊢
    obtain ⟨es2, t3, gave2⟩ := Rl
    dsimp only at hp hfr hlr hpr ⊢
    have hsz : es2.size = es1.size := by rw [← Array.length_toList, hp.length_eq, Array.length_toList]
    refine wpAny_bind (hg _ _ _ ?_)
    refine wpAny_bind (wpAny_storeSet_of ho1 hd1 ?_ (fits_of_scanBound (by rw [hsz]; exact hb1)))
    obtain ⟨o2, ho2, hex2, hd2⟩ := setL_store ho1 hex1 hd1 es2 t3
    exact wpAny_pure (h _ o2 es2 _ t3 (hsb1.trans (Heap.SameBut.update _ a _)) ho2 hex2 hd2 hp hfr hlr hpr fun q => by rw [q] at hfull; simp at hfull)
  · exact wpAny_pure (h _ o1 es1 _ t2 hsb1 ho1 hex1 hd1 (.refl _) hf2 rfl hp2 fun _ => rfl)
/-- a text that is not in it yet laid into a set -/
theorem Sta.addL {a : Addr} {ss : List Str} {x : Str} {t : Tok} {Q : Bool → Shared → Prop} (S : Sta W G env loc nw s) (U : Upd a (IsSL W ss) (IsSL W (ss ++ [x])) nw nw') (hx : x ∉ ss) (hn : ss.length + 1 < scanBound) (h : ∀ s', Sta W G env loc nw' s' → Q true s') :
    wpAny (model W.prog W.w) A (setAddHashed a (.str x t) ((PySem.strKind W.prog W.w).hash x)) Q E s := by
  obtain ⟨o, ho, hex, es, ep, tb, hd, hel, ⟨ss', htx, hpm⟩, hf, hled, hpl, hsm⟩ := S.get U.mem
  have hlen : es.size = ss.length := by
    have := htx.length
    rw [List.length_map, Array.length_toList] at this
    rw [this, hpm.length_eq]
  have hkey := strKind_is W.prog W.w x t
  unfold setAddHashed setAddHashedIn
  refine wpAny_holding (wpAny_bind (wpAny_setState_of ho hd hf ?_))
  dsimp only
  rw [byScan_of (knd := PySem.strKind W.prog W.w) rfl (by omega) hel]
  simp only [↓reduceIte]
  unfold setAddByScan
  refine wpAny_bind ?_
  refine wpAny_bind (wpAny_rule ?_)
  refine wpAny_bind (wpAny_setScan_of hkey ho hd hf hel ?_)
  have hr : List.findIdx? (fun e => (PySem.strKind W.prog W.w).is x e.2) es.toList = none := by
    rw [List.findIdx?_eq_none_iff]
    intro e he
    cases q : (PySem.strKind W.prog W.w).is x e.2 with
    | false => rfl
    | true =>
      obtain ⟨y, u, e1, m⟩ := htx.mem (List.mem_map.mpr ⟨e, he, rfl⟩)
      rw [e1] at q
      exact absurd (hpm.mem_iff.mp (isKey q ▸ m)) hx
  rw [hr]
  dsimp only
  have hgw : ∀ (b : Bool) {s₁ : Shared} {Q' : Unit → Shared → Prop}, Q' () s₁ → wpAny (model W.prog W.w) A (match b with | true => rule "set.scan.the-table-gave-way" | false => pure ()) Q' E s₁ :=
    fun b s₁ Q' hq => by cases b <;> first | exact wpAny_pure hq | exact wpAny_rule hq
  have hperm := layNew_perm tb es ((PySem.strKind W.prog W.w).hash x) (.str x t)
  have hfits := layNew_fits tb es ((PySem.strKind W.prog W.w).hash x) (.str x t)
  have hleds := layNew_led tb es ((PySem.strKind W.prog W.w).hash x) (.str x t)
  have hfirst : es.size = 0 → _ := fun q => layNew_first (hsm (by omega)).1 (by have := hf; simp only [SetTable.fits, Bool.and_eq_true, beq_iff_eq] at this; omega) (hsm (by omega)).2 es q ((PySem.strKind W.prog W.w).hash x) (.str x t)
  generalize hL : layNew tb es ((PySem.strKind W.prog W.w).hash x) (.str x t) = L at hperm hfits hleds hfirst ⊢
  obtain ⟨es1, t1, wasDummy, gave⟩ := L
  dsimp only at hperm hfits hleds hfirst ⊢
  rw [Array.toList_push] at hperm
  have hel1 : ElemsOf (PySem.strKind W.prog W.w) es1.toList := (hel.push hkey rfl).perm hperm
  have hb1' : es1.size < scanBound := by rw [← Array.length_toList, hperm.length_eq, List.length_append, Array.length_toList]; simpa [hlen] using hn
  refine wpAny_bind (hgw _ ?_)
  have fin : ∀ h' o' es2 ep2 t3, Heap.SameBut a s.heap h' → h'.get? a = some o' → o'.ExactSet → o'.data = .set es2 ep2 t3 → es2.toList.Perm es1.toList → t3.fits es2.size = true → t3.led = t1.led → t3.plain = false → (t1.tooFull = false → t3.mask = t1.mask ∧ t3.dummies = t1.dummies) → Q true { s with heap := h' } := by
    intro h' o' es2 ep2 t3 hsb ho' hex' hd' hp hf' hl' hpl' hsame
    refine h _ (S.set U (fun b o hb e => (hsb.2 b hb).trans e) ho' ⟨hex', es2, ep2, t3, hd', hel1.perm hp, ?_, hf', ?_, fun _ => hpl', fun q => ?_⟩ s.toks)
    · have h1 : TxtsAre ((es.toList ++ [((PySem.strKind W.prog W.w).hash x, Value.str x t)]).map (·.2)) (ss' ++ [x]) := by
        rw [List.map_append]; exact htx.snoc x t
      obtain ⟨s2, a2, b2⟩ := TxtsAre.perm ((hp.trans hperm).map (·.2)) h1
      exact ⟨s2, a2, b2.trans (hpm.append_right _)⟩
    · rw [hl', hleds]; exact hled
    · have e1 : es2.size = es.size + 1 := by rw [← Array.length_toList, hp.length_eq, hperm.length_eq, List.length_append, Array.length_toList]; rfl
      obtain ⟨m1, d1, p1, z1⟩ := hfirst (by omega)
      have hfull : t1.tooFull = false := by
        unfold SetTable.tooFull SetTable.fill
        rw [p1, d1, m1]; rfl
      obtain ⟨q1, q2⟩ := hsame hfull
      exact ⟨q1.trans m1, q2.trans d1⟩
  split
  · refine wpAny_bind ?_
    rw [hashByValue_scannable 8 rfl]
    refine wpAny_pure ?_
    refine tailL ?_ ho hex hd hb1' ?_ ?_ ?_
    · intro b s₁ Q' hq; cases b <;> first | exact wpAny_pure hq | exact wpAny_rule hq
    · split
      · exact hfits
      · exact SetTable.fits_plain_off hfits
    · rfl
    · intro h' o' es2 ep2 t3 hsb ho' hex' hd' hp hf' hl' hpl' hsame
      exact wpAny_pure (fin h' o' es2 ep2 t3 hsb ho' hex' hd' hp hf' hl' hpl' fun q => by rw [hsame q]; exact ⟨rfl, rfl⟩)
  · rename_i hpf
    refine wpAny_bind (wpAny_pure ?_)
    simp only [↓reduceIte]
    refine tailL ?_ ho hex hd hb1' hfits (by simpa using hpf) ?_
    · intro b s₁ Q' hq; cases b <;> first | exact wpAny_pure hq | exact wpAny_rule hq
    · intro h' o' es2 ep2 t3 hsb ho' hex' hd' hp hf' hl' hpl' hsame
      exact wpAny_pure (fin h' o' es2 ep2 t3 hsb ho' hex' hd' hp hf' hl' hpl' fun q => by rw [hsame q]; exact ⟨rfl, rfl⟩)
end
end Mine
end
section
open PySem PySem.W PyProof.Rows PySem.W.X PySem.SeqAt
set_option maxRecDepth 100000
namespace Mine
/-- a dict of texts as keys, its epoch told -/
noncomputable def IsDE (W : Wd) (d : Addr) (kvs : List (Str × Value)) (ep : Nat) : Cell := fun o => d ≠ sysModules ∧ ∃ es, o.ExactDict ∧ o.data = .dict es ep ∧ KeysOf (PySem.strKind W.prog W.w) es ∧ Pairs (PySem.strKind W.prog W.w) es.toList kvs ∧ (kvs.map (·.1)).Nodup
theorem sub_dict_frozenset : isSubtype (.type "dict") (.type "frozenset") = pure false := by rw [isSubtype_type]; kernel_rfl
section
variable {W : Wd} {G : Gens} {env : Env} {loc loc' : Loc} {nw nw' : Ledger} {s : Shared} {A : Around} {E : Value → Shared → Prop}
theorem Sta.dictE {d : Addr} {kvs : List (Str × Value)} {ep : Nat} (S : Sta W G env loc nw s) (m : (d, IsDE W d kvs ep) ∈ nw) : s.heap.DictAt (PySem.strKind W.prog W.w) d kvs ep ∧ (d == sysModules) = false := by
  obtain ⟨o, ho, hne, es, r⟩ := S.get m
  exact ⟨⟨o, es, ho, r⟩, by rw [beq_eq_false_iff_ne]; exact hne⟩
theorem isDE_isD {d : Addr} {kvs : List (Str × Value)} {ep : Nat} {o : Obj} (h : IsDE W d kvs ep o) : IsD W d kvs o := by
  obtain ⟨hne, es, r⟩ := h
  exact ⟨hne, es, ep, r⟩
/-- one text added, its hash reckoned -/
theorem Sta.addT {a : Addr} {ss : List Str} {x : Str} {t : Tok} {Q : Bool → Shared → Prop} (S : Sta W G env loc nw s) (U : Upd a (IsSL W ss) (IsSL W (ss ++ [x])) nw nw') (hx : x ∉ ss) (hn : ss.length + 1 < scanBound) (h : ∀ s', Sta W G env loc nw' s' → Q true s') :
    wpAny (model W.prog W.w) A (PySem.setAdd a (.str x t)) Q E s := by
  unfold PySem.setAdd
  refine wpAny_holding (wpAny_bind ((PySem.strKind W.prog W.w).pyHash (strKind_is _ _ x t) ?_))
  exact (S.toks _).addL U hx hn h
theorem Pull.mem' {α : Type} {p : α} {l l' : List α} (h : Pull p l l') : p ∈ l := by
  induction h with
  | head => exact .head _
  | tail h ih => exact .tail _ ih
theorem Sta.lost {it : Addr} {c : Cell} {N : Ledger} {h' : Heap} (S : Sta W G env loc nw s) (p : Pull (it, c) nw N) (hx : Heap.ExtBut it s.heap h') : Sta W G env loc N { s with heap := h' } := by
  have hB := (S.led.own _ (.tail _ p.mem')).1
  have D := S.led.perm ((p.perm.cons _).trans (List.Perm.swap ..))
  have nd := D.nodup
  rw [List.map_cons, List.nodup_cons] at nd
  refine ⟨S.ok, S.eok, ⟨fun b o e => hx b o (fun q => by rw [q, hB] at e; cases e) (S.led.keep b o e), fun q hq => ?_, nd.2⟩, S.bare, S.os, S.gens, S.gnd⟩
  obtain ⟨h1, o, ho, hc⟩ := D.own q (.tail _ hq)
  exact ⟨h1, o, hx _ _ (fun e => nd.1 (List.mem_map.mpr ⟨q, hq, e⟩)) ho, hc⟩
noncomputable def IsKI (d : Addr) (i n ep : Nat) : Cell := fun o => o.cls = .type "dict_keyiterator" ∧ o.data = .fields #[.ref d, .int i 0, .int n 0, .int ep 0]
/-- the loop over a dict's keys that lays them into a set -/
theorem Sta.keysLoop {a d it : Addr} {kvs : List (Str × Value)} {ep : Nat} {R : Result → Shared → Prop} (hA : Aok 2 A) : ∀ (m i : Nat), kvs.length - i = m → i ≤ kvs.length → ∀ {ss : List Str} {N : Ledger} {s : Shared},
    Sta W G env loc ((a, IsSL W ss) :: (it, IsKI d i kvs.length ep) :: (d, IsDE W d kvs ep) :: N) s → (∀ x ∈ (kvs.drop i).map (·.1), x ∉ ss) → (kvs.map (·.1)).Nodup → ss.length + (kvs.length - i) + 1 < scanBound →
    (∀ s', Sta W G env loc ((a, IsSL W (ss ++ (kvs.drop i).map (·.1))) :: (d, IsDE W d kvs ep) :: N) s' → R (.ok (.ret .none)) s') →
    codeAny (model W.prog W.w) A (.builtin "set.update.loop" ⟨[.ref a, .ref it], []⟩) R s
  | 0, i, hm, hi, ss, N, s, S, hx, hnd, hb, k => by
    obtain ⟨o, ho, hc⟩ := S.get (.tail _ (.head _))
    have hD := (S.dictE (.tail _ (.tail _ (.head _)))).1
    have e0 : kvs.drop i = [] := List.drop_of_length_le (by omega)
    refine codeAny_builtin F.entry_set_update_loop ?_
    rw [Around.under_plainId F.plain_set_update_loop _]
    show wpAny _ A.in1 (pyNext (.ref it) >>= _) _ _ s
    refine wpAny_bind (wpAny_pyNext_dict_end hA.handled ⟨o, ho, hc.1, hc.2⟩ hD (List.getElem?_eq_none (by omega)) fun h' hx' => ?_)
    rw [e0] at k
    simp only [List.map_nil, List.append_nil] at k
    exact wpAny_pure (k _ (S.lost (.tail .head) hx'))
  | m + 1, i, hm, hi, ss, N, s, S, hx, hnd, hb, k => by
    obtain ⟨o, ho, hc⟩ := S.get (.tail _ (.head _))
    have hD := (S.dictE (.tail _ (.tail _ (.head _)))).1
    have hlt : i < kvs.length := by omega
    have e0 : kvs.drop i = kvs[i] :: kvs.drop (i + 1) := List.drop_eq_getElem_cons hlt
    refine codeAny_builtin F.entry_set_update_loop ?_
    rw [Around.under_plainId F.plain_set_update_loop _]
    show wpAny _ A.in1 (pyNext (.ref it) >>= _) _ _ s
    refine wpAny_bind (wpAny_pyNext_dict_item (k := kvs[i].1) (v := kvs[i].2) ⟨o, ho, hc.1, hc.2⟩ hD (List.getElem?_eq_getElem hlt) fun key h' hkey hit hsb => ?_)
    obtain ⟨tk, rfl⟩ := Value.isStrOf_shape hkey
    obtain ⟨o', ho', hc1, hc2⟩ := hit
    have S1 : Sta W G env loc ((a, IsSL W ss) :: (it, IsKI d (i + 1) kvs.length ep) :: (d, IsDE W d kvs ep) :: N) { s with heap := h' } := S.set (.tail .head) (fun b o hb e => (hsb.2 b hb).trans e) ho' ⟨hc1, hc2⟩ s.toks
    show wpAny _ A.in1 (holding [Value.str kvs[i].1 tk] (PySem.setAdd a (.str kvs[i].1 tk)) >>= _) _ _ _
    rw [e0, List.map_cons] at hx k
    refine wpAny_bind (wpAny_holding (S1.addT .head (hx _ (.head _)) (by omega) fun s2 S2 => ?_))
    refine wpAny_pure ⟨plainId_quiet F.plain_set_update_loop _, ?_⟩
    refine Sta.keysLoop hA m (i + 1) (by omega) hlt S2 (fun x hx' hm' => ?_) hnd (by rw [List.length_append, List.length_singleton]; omega) fun s3 S3 => ?_
    · rcases List.mem_append.mp hm' with q | q
      · exact hx x (.tail _ hx') q
      · rw [List.mem_singleton] at q
        subst q
        have nd2 : ((kvs.drop i).map (·.1)).Nodup := hnd.sublist ((List.drop_sublist i kvs).map _)
        rw [e0, List.map_cons, List.nodup_cons] at nd2
        exact nd2.1 hx'
    · refine k _ ?_
      simpa using S3
theorem Pairs.at' {es : List DictEntry} {kvs : List (Str × Value)} (h : Pairs (PySem.strKind W.prog W.w) es kvs) : ∀ (i : Nat) (hi : i < kvs.length), ∃ e, es[i]? = some e ∧ (PySem.strKind W.prog W.w).is kvs[i].1 e.key = true ∧ e.val = kvs[i].2 := by
  induction h with
  | nil => intro i hi; simp at hi
  | @cons e kv es kvs h1 h2 h3 ih =>
    intro i hi
    cases i with
    | zero => exact ⟨e, rfl, h1, h2⟩
    | succ i => simpa using ih i (by simpa using hi)
theorem roomFor_small {t : SetTable} {n : Nat} (hm : t.mask = 7) (hd : t.dummies = #[]) (hp : t.place.size + n ≤ 4) : t.roomFor n = none := by
  unfold SetTable.roomFor SetTable.fill
  rw [hm, hd, if_neg]
  simp
  omega
theorem forIn_range_list {n : Nat} {β : Type} (b : β) (f : Nat → β → Sem (ForInStep β)) : (forIn [0:n] b f : Sem β) = forIn (List.range' 0 n) b f := by
  rw [Std.Legacy.Range.forIn_eq_forIn_range']
  simp
/-- the road by the storage -/
theorem Sta.starGo {a d : Addr} {kvs : List (Str × Value)} {ep : Nat} {Q : Unit → Shared → Prop} (f : Nat → Unit → Sem (ForInStep Unit))
    (hf : ∀ i u, f i u = (do
      let some e := (← dictEntries d)[i]? | unsupported "dict.changed-during-merge"
      holding [e.key] (do let _ ← setAddHashed a e.key e.hash)
      if (← dictEpoch d) != ep then unsupported "dict.changed-during-merge"
      pure (.yield ()))) : ∀ (m i : Nat), kvs.length - i = m → i ≤ kvs.length → ∀ {ss : List Str} {N : Ledger} {s : Shared},
    Sta W G env loc ((a, IsSL W ss) :: (d, IsDE W d kvs ep) :: N) s → (∀ x ∈ (kvs.drop i).map (·.1), x ∉ ss) → (kvs.map (·.1)).Nodup → ss.length + (kvs.length - i) + 1 < scanBound →
    (∀ s', Sta W G env loc ((a, IsSL W (ss ++ (kvs.drop i).map (·.1))) :: (d, IsDE W d kvs ep) :: N) s' → Q () s') →
    wpAny (model W.prog W.w) A (forIn (List.range' i m) () f) Q E s
  | 0, i, hm, hi, ss, N, s, S, hx, hnd, hb, k => by
    have e0 : kvs.drop i = [] := List.drop_of_length_le (by omega)
    rw [e0] at k
    simp only [List.map_nil, List.append_nil] at k
    exact wpAny_pure (k _ S)
  | m + 1, i, hm, hi, ss, N, s, S, hx, hnd, hb, k => by
    obtain ⟨o, ho, hne, es, hex, hd, hk, hp, hn⟩ := S.get (.tail _ (.head _))
    have hlt : i < kvs.length := by omega
    have hle := hp.length
    rw [Array.length_toList] at hle
    have e0 : kvs.drop i = kvs[i] :: kvs.drop (i + 1) := List.drop_eq_getElem_cons hlt
    rw [List.range'_succ, List.forIn_cons, hf]
    obtain ⟨e, he, hkey, hval⟩ := Pairs.at' hp i hlt
    have he2 : es[i]? = some e := by rw [← Array.getElem?_toList]; exact he
    obtain ⟨k0, hk0, hh0⟩ := hk e (Array.mem_toList_iff.mp (List.mem_of_getElem? he))
    obtain ⟨tk, hkk⟩ := Value.isStrOf_shape hkey
    have hke : k0 = kvs[i].1 := (PySem.strKind W.prog W.w).inj _ _ _ hk0 hkey
    subst hke
    refine wpAny_bind (wpAny_bind (wpAny_dictEntries ho hd ?_))
    rw [he2]
    dsimp only
    rw [e0, List.map_cons] at hx k
    refine wpAny_bind (wpAny_holding ?_)
    rw [hkk, hh0]
    refine wpAny_bind (S.addL .head (hx _ (.head _)) (by omega) fun s2 S2 => wpAny_pure ?_)
    obtain ⟨o2, ho2, _, es2, hex2, hd2, _⟩ := S2.get (.tail _ (.head _))
    refine wpAny_bind (wpAny_dictEpoch ho2 hd2 ?_)
    have ee : (ep != ep) = false := by simp
    rw [ee]
    simp only [Bool.false_eq_true, ↓reduceIte]
    refine wpAny_pure ?_
    dsimp only
    refine Sta.starGo f hf m (i + 1) (by omega) hlt S2 (fun x hx' hm' => ?_) hnd (by rw [List.length_append, List.length_singleton]; omega) fun s3 S3 => ?_
    · rcases List.mem_append.mp hm' with q | q
      · exact hx x (.tail _ hx') q
      · rw [List.mem_singleton] at q
        subst q
        have nd2 : ((kvs.drop i).map (·.1)).Nodup := hnd.sublist ((List.drop_sublist i kvs).map _)
        rw [e0, List.map_cons, List.nodup_cons] at nd2
        exact nd2.1 hx'
    · refine k _ ?_
      simpa using S3
/-- {.., *attrs} -/
theorem Sta.star {a d : Addr} {kvs : List (Str × Value)} {x : Str} {N : Ledger} {Q : Unit → Shared → Prop} (S : Sta W G env loc ((a, IsSL W [x]) :: (d, IsD W d kvs) :: N) s) (hA : Aok 3 A) (hx : x ∉ kvs.map (·.1)) (hz : kvs.length ≤ 3)
    (k : ∀ s', Sta W G env loc ((a, IsSL W (x :: kvs.map (·.1))) :: (d, IsD W d kvs) :: N) s' → Q () s') : wpAny (model W.prog W.w) A (setDisplayStar a (.ref d)) Q E s := by
  obtain ⟨o, ho, hne, es0, ep0, hex0, hd0, hk0, hp0, hnd⟩ := S.get (.tail _ (.head _))
  have hT : s.TypeIs (.ref d) "dict" := ⟨o, ho, hex0.1⟩
  have S1 : Sta W G env loc ((a, IsSL W [x]) :: (d, IsDE W d kvs ep0) :: N) s := S.tell (.tail .head) fun o' ho' _ => by rw [ho] at ho'; cases ho'; exact ⟨hne, es0, hex0, hd0, hk0, hp0, hnd⟩
  have back : ∀ s', Sta W G env loc ((a, IsSL W (x :: kvs.map (·.1))) :: (d, IsDE W d kvs ep0) :: N) s' → Q () s' := fun s' S' => k _ (S'.tell (.tail .head) fun o _ h => isDE_isD h)
  have hxs : ∀ y ∈ (kvs.drop 0).map (·.1), y ∉ [x] := fun y hy q => by
    rw [List.mem_singleton] at q; subst q; exact hx (by simpa using hy)
  have hb : [x].length + (kvs.length - 0) + 1 < scanBound := by
    have : scanBound = 4096 := rfl
    simp; omega
  unfold setDisplayStar
  refine wpAny_bind (wpAny_isInstance hT F.sub_dict_set ?_)
  simp only [Bool.false_eq_true, ↓reduceIte]
  refine wpAny_bind (wpAny_isInstance hT sub_dict_frozenset ?_)
  refine wpAny_bind (wpAny_askSetting ?_)
  have hmods : (d == sysModules) = false := by rw [beq_eq_false_iff_ne]; exact hne
  have byIter : wpAny (model W.prog W.w) A (do
      let it ← pyIter (.ref d)
      let _ ← runValue (Code.builtin "set.update.loop" ⟨[.ref a, it], []⟩)
      pure ()) Q E s := by
    have hD := (S1.dictE (.tail _ (.head _))).1
    refine wpAny_bind (wpAny_pyIter_dict hmods hD ?_)
    have S2 := S1.new (c := IsKI d 0 kvs.length ep0) (o := { cls := .type "dict_keyiterator", data := .fields #[.ref d, .int 0 0, .int kvs.length 0, .int ep0 0] }) rfl ⟨rfl, rfl⟩ s.toks
    refine wpAny_bind (wpAny_runValue ?_)
    refine Sta.keysLoop (a := a) (d := d) (it := s.heap.objs.size) (kvs := kvs) (ep := ep0) (hA.le (by first | decide | omega)) kvs.length 0 (by omega) (by omega) (S2.perm (List.Perm.swap ..)) hxs hnd hb fun s' S' => ?_
    exact wpAny_pure (back _ (by simpa using S'))
  cases hby : (Setting.mk (model W.prog W.w).prog (model W.prog W.w).w.params).params.followText "set-display-star-reads-storage" with
  | true =>
    simp only [↓reduceIte]
    exact byIter
  | false =>
    simp only [Bool.false_eq_true, ↓reduceIte]
    refine wpAny_bind (wpAny_typeOf hT ?_)
    have e1 : (Value.type "dict" == Value.type "dict") = true := by decide
    rw [e1]
    simp only [↓reduceIte]
    refine wpAny_bind (wpAny_rule ?_)
    rw [hmods]
    simp only [Bool.false_eq_true, ↓reduceIte]
    refine wpAny_bind (wpAny_dictEpoch ho hd0 ?_)
    refine wpAny_bind (wpAny_dictEntries ho hd0 ?_)
    have hle := hp0.length
    rw [Array.length_toList] at hle
    obtain ⟨oa, hoa, hexa, esa, epa, ta, hda, hela, ⟨ssa, htxa, hpma⟩, hfa, _, _, hsma⟩ := S1.get (.head _)
    have hsz : esa.size = 1 := by
      have := htxa.length
      rw [List.length_map, Array.length_toList] at this
      rw [this, hpma.length_eq]; rfl
    have hroom : wpAny (model W.prog W.w) A (setRoomFor a es0.size) (fun _ s' => s' = s) E s := by
      unfold setRoomFor
      refine wpAny_bind (wpAny_setState_of hoa hda hfa ?_)
      have hpl : ta.place.size = 1 := by
        have := hfa; simp only [SetTable.fits, Bool.and_eq_true, beq_iff_eq] at this; omega
      rw [roomFor_small (hsma (by omega)).1 (hsma (by omega)).2 (by omega)]
      exact wpAny_pure rfl
    refine wpAny_bind (wpAny_mono hroom (fun _ s' e => ?_) fun _ _ e => e)
    subst e
    refine wpAny_bind ?_
    rw [hle]
    rw [forIn_range_list]
    refine Sta.starGo (ep := ep0) _ (fun i u => ?_) kvs.length 0 (by omega) (by omega) S1 hxs hnd hb fun s' S' => wpAny_pure (back _ (by simpa using S'))
    rfl
theorem isSL_empty (led : Bool) (hl : led = true ∨ W.w.params.followText "set-order" = true) : IsSL W [] { cls := .type "set", dict := none, data := .set #[] 0 (.fresh 0 0 led) } :=
  ⟨⟨rfl, rfl, rfl⟩, #[], 0, _, rfl, fun e he => by simp at he, ⟨[], .nil, .refl _⟩, by rfl, hl, fun h => absurd rfl h, fun _ => ⟨rfl, rfl⟩⟩
theorem Sta.newSL {Q : Value → Shared → Prop} (S : Sta W G env loc nw s) (h : ∀ a s', Sta W G env loc ((a, IsSL W []) :: nw) s' → Q (.ref a) s') : wpAny (model W.prog W.w) A (PySem.newSet (.type "set")) Q E s := by
  unfold PySem.newSet setsByText
  refine wpAny_bind (wpAny_bind (wpAny_askSetting (wpAny_pure ?_)))
  dsimp only
  simp only [newObj]
  refine wpAny_bind (wpAny_alloc (wpAny_pure (h _ _ (S.new (c := IsSL W []) rfl (isSL_empty _ ?_) s.toks))))
  cases q : W.w.params.followText "set-order" with
  | true => exact .inr rfl
  | false => exact .inl (by show (!W.w.params.followText "set-order") = true; rw [q]; rfl)
/-- {x, *attrs} -/
theorem Sta.setDisp {n1 n2 : Str} {p1 p2 p3 pos : Pos} {x : Str} {t : Tok} {d c : Addr} {oc : Obj} {vs : Array Value} {kvs : List (Str × Value)} {Q : Value → Shared → Prop} (S : Sta W G env loc nw s) (hA : Aok 3 A) (h1 : (n1, some (.str x t)) ∈ loc) (h2 : (n2, some (.ref d)) ∈ loc)
    (hc : env.code = .ref c) (hoc : W.K.lookup c = some oc) (hdc : oc.data = .fields vs) (hfl : ∃ f tf, vs.getD 18 .none = .str f tf) {N : Ledger} (hd : Pull (d, IsD W d kvs) nw N) (hx : x ∉ kvs.map (·.1)) (hz : kvs.length ≤ 3)
    (h : ∀ a s', Sta W G env loc ((a, IsSL W (x :: kvs.map (·.1))) :: (d, IsD W d kvs) :: N) s' → Q (.ref a) s') :
    wpAny (model W.prog W.w) A (eval (.Set [.Name n1 p1, .Starred (.Name n2 p2) p3] 0 pos) env) Q E s := by
  rw [arm_eval_Set]
  refine wpAny_bind (wpAny_standAt ?_)
  obtain ⟨f, tf, hf⟩ := hfl
  have hcode : (env.code == .none) = false := by rw [hc]; rfl
  unfold inMainModule
  rw [hcode, hc]
  simp only [Bool.false_eq_true, ↓reduceIte]
  refine wpAny_bind (wpAny_bind (wpAny_fieldsOf (S.kin _ _ hoc) hdc ?_))
  rw [hf]
  refine wpAny_bind (wpAny_askSetting (wpAny_pure ?_))
  have e1 : displayRoad 0 [.Name n1 p1, .Starred (.Name n2 p2) p3] = .oneByOne := rfl
  have e2 : starEach [.Name n1 p1, .Starred (.Name n2 p2) p3] env = [(false, eval (.Name n1 p1) env), (true, eval (.Name n2 p2) env)] := rfl
  rw [e1, e2]
  unfold setDisplay
  have e3 : (DisplayRoad.oneByOne == DisplayRoad.constants) = false := rfl
  have e4 : (DisplayRoad.oneByOne == DisplayRoad.unsure) = false := rfl
  rw [e3]
  simp only [Bool.false_eq_true, ↓reduceIte]
  refine wpAny_bind (S.newSL fun a s1 S1 => ?_)
  dsimp only
  have e5 : (if (List.map (fun x : Bool × Sem Value => (x.1, do let v ← x.2; standAt pos; pure v)) [(false, eval (.Name n1 p1) env), (true, eval (.Name n2 p2) env)]).length > 30 then 0 else
      (List.findIdx? (fun x => x.1) (List.map (fun x : Bool × Sem Value => (x.1, do let v ← x.2; standAt pos; pure v)) [(false, eval (.Name n1 p1) env), (true, eval (.Name n2 p2) env)])).getD
        (List.map (fun x : Bool × Sem Value => (x.1, do let v ← x.2; standAt pos; pure v)) [(false, eval (.Name n1 p1) env), (true, eval (.Name n2 p2) env)]).length) = 1 := rfl
  rw [e5]
  simp only [List.map_cons, List.map_nil, List.take_succ_cons, List.take_zero, List.drop_succ_cons, List.drop_zero]
  refine wpAny_bind (wpAny_holding ?_)
  refine wpAny_bind (wpAny_evalAll_cons ?_)
  refine wpAny_bind (S1.local_ h1 (wpAny_bind (wpAny_standAt (wpAny_pure ?_))))
  refine wpAny_evalAll_nil ?_
  refine wpAny_bind (wpAny_holding ?_)
  rw [List.forIn_cons]
  refine wpAny_bind (wpAny_bind (wpAny_bind (S1.addT (ss := []) .head (by simp) (by decide) fun s2 S2 => wpAny_pure ?_)))
  dsimp only
  rw [List.forIn_nil]
  refine wpAny_pure ?_
  rw [e4]
  simp only [Bool.false_eq_true, ↓reduceIte]
  refine wpAny_pure ?_
  rw [List.forIn_cons]
  refine wpAny_bind (wpAny_bind (wpAny_bind (wpAny_bind (S2.local_ h2 (wpAny_bind (wpAny_standAt (wpAny_pure ?_)))))))
  simp only [↓reduceIte]
  refine wpAny_bind (wpAny_holding ?_)
  refine Sta.star (a := a) (kvs := kvs) (x := x) (N := N) (S2.perm (hd.perm.cons _)) hA hx hz fun s3 S3 => ?_
  refine wpAny_pure ?_
  dsimp only
  rw [List.forIn_nil]
  refine wpAny_pure (wpAny_pure (wpAny_pure (h _ _ S3)))
end
end Mine
end
section
open PySem PySem.W PyProof.Rows PySem.W.X PySem.SeqAt
set_option maxRecDepth 100000
namespace Mine
theorem erase_perm {α : Type} : ∀ {l : List α} {i : Nat} (h : i < l.length), (l[i] :: l.eraseIdx i).Perm l
  | x :: l, 0, _ => by simp
  | x :: l, i + 1, h => by
    have := erase_perm (l := l) (i := i) (by simpa using h)
    simp only [List.getElem_cons_succ, List.eraseIdx_cons_succ]
    exact (List.Perm.swap ..).trans (this.cons _)
section
variable {W : Wd} {G : Gens} {env : Env} {loc loc' : Loc} {nw nw' : Ledger} {s : Shared} {A : Around} {E : Value → Shared → Prop}
theorem wpAny_choose {M : Model} {src : Source} {n : Nat} {Q : Nat → Shared → Prop} (hn : n ≠ 0) (h : ∀ i d, i < n → Q i { s with drawn := d }) : wpAny M A (choose src n) Q E s :=
  fun _ _ _ => ⟨hn, h _ _ (Nat.mod_lt _ (by omega))⟩
theorem Sta.drawn (S : Sta W G env loc nw s) (d : Drawn) : Sta W G env loc nw { s with drawn := d } := ⟨S.ok, S.eok, S.led, S.bare, S.os, S.gens, S.gnd⟩
/-- any order may be drawn -/
theorem Sta.drawOrder {α : Type} {M : Model} (n : Nat) : ∀ (xs : List α) {Q : List α → Shared → Prop} {s : Shared}, xs.length = n → Sta W G env loc nw s → (∀ ys s', ys.Perm xs → Sta W G env loc nw s' → Q ys s') → wpAny M A (PySem.drawOrder n xs) Q E s := by
  induction n with
  | zero =>
    intro xs Q s hn S h
    have : xs = [] := List.length_eq_zero_iff.mp hn
    subst this
    unfold PySem.drawOrder
    exact wpAny_pure (h [] _ (.refl _) S)
  | succ n ih =>
    intro xs Q s hn S h
    cases xs with
    | nil => exact absurd hn (by simp)
    | cons x xs =>
      unfold PySem.drawOrder
      refine wpAny_bind (wpAny_choose (by simp) fun i d hi => ?_)
      rw [List.getElem?_eq_getElem hi]
      dsimp only
      refine wpAny_bind (ih ((x :: xs).eraseIdx i) (by rw [List.length_eraseIdx_of_lt hi, hn]; rfl) (S.drawn d) fun ys s' hp S' => ?_)
      refine wpAny_pure (h _ _ ?_ S')
      exact (hp.cons _).trans (erase_perm hi)
theorem pick_go {α : Type} (next : Nat → Nat) : ∀ (fuel k : Nat) (left : List α) (out : Array α), left.length = fuel → (pickOrder.go next fuel k left out).toList.Perm (out.toList ++ left)
  | 0, k, left, out, h => by
    have : left = [] := List.length_eq_zero_iff.mp h
    subst this
    unfold pickOrder.go
    simp
  | fuel + 1, k, left, out, h => by
    have hlt : next k % left.length < left.length := Nat.mod_lt _ (by omega)
    unfold pickOrder.go
    rw [List.getElem?_eq_getElem hlt]
    dsimp only
    refine (pick_go next fuel (k + 1) _ _ (by rw [List.length_eraseIdx_of_lt hlt, h]; rfl)).trans ?_
    rw [Array.toList_push, List.append_assoc]
    exact List.Perm.append_left _ (erase_perm hlt)
theorem pick_perm {α : Type} (next : Nat → Nat) (xs : Array α) : (pickOrder next xs).toList.Perm xs.toList := by
  unfold pickOrder
  simpa using pick_go next xs.size 0 xs.toList #[] (by simp)
end
end Mine
end
section
open PySem PySem.W PyProof.Rows PySem.W.X PySem.SeqAt
set_option maxRecDepth 100000
namespace Mine
theorem lk_set_iter : typeLookup (.type "set") "__iter__" = pure (some (.builtin "set.__iter__")) := by rw [typeLookup_type, builtinLookup_eq_fast]; kernel_rfl
theorem lk_si_next : typeLookup (.type "set_iterator") "__next__" = pure (some (.builtin "set_iterator.__next__")) := by rw [typeLookup_type, builtinLookup_eq_fast]; kernel_rfl
theorem slot_set_iter : Slot "set" "__iter__" "set.__iter__" :=
  Slot.of lk_set_iter (owner := "set") (n := "__iter__") (by decide +kernel) (by decide +kernel) (by decide +kernel) (.inl (by decide +kernel)) (by rw [isSubtype_type]; kernel_rfl)
theorem slot_si_next : Slot "set_iterator" "__next__" "set_iterator.__next__" :=
  Slot.of lk_si_next (owner := "set_iterator") (n := "__next__") (by decide +kernel) (by decide +kernel) (by decide +kernel) (.inl (by decide +kernel)) (by rw [isSubtype_type]; kernel_rfl)
theorem entry_set_iter : entryFor table "set.__iter__" = some Builtin.«frozenset.__iter__» := entryFor_alias (id' := "frozenset.__iter__") (by kernel_rfl) rfl (by decide +kernel) (by kernel_rfl)
theorem entry_si_next : entryFor table "set_iterator.__next__" = some Builtin.«set_iterator.__next__» := entryFor_of_tree (by kernel_rfl)
theorem args_set_iter (a : Value) : argsOk "set.__iter__" ⟨[a], []⟩ := by unfold argsOk; kernel_rfl
theorem args_si_next (a : Value) : argsOk "set_iterator.__next__" ⟨[a], []⟩ := by unfold argsOk; kernel_rfl

/-- an iterator over a set -/
noncomputable def IsSI (first : Value) (i : Nat) (a : Addr) (n ep : Nat) : Cell := fun o => o.cls = .type "set_iterator" ∧ o.data = .fields #[first, .int i 0, .ref a, .int n 0, .int ep 0]
section
variable {W : Wd} {G : Gens} {env : Env} {loc loc' : Loc} {nw nw' : Ledger} {s : Shared} {A : Around} {E : Value → Shared → Prop}
theorem iterSet_run {a : Addr} {o : Obj} {es : Array (Int × Value)} {ep : Nat} {tb : SetTable} {Q : PySem.Fin → Shared → Prop} (S : Sta W G env loc nw s) (ma : (a, IsObj o) ∈ nw) (hex : o.ExactSet) (hd : o.data = .set es ep tb) (hf : tb.fits es.size = true) (hz : es.size ≤ 4000)
    (h1 : W.w.params.followText "set-order" = true ∨ tb.plain = true ∨ es.size ≤ 1 → ∀ it s', Sta W G env loc ((it, IsSI (rawInt 0) 0 a es.size ep) :: nw) s' → Q (.done (.ret (.ref it))) s')
    (h2 : W.w.params.followText "set-order" = false → tb.plain = false → 1 < es.size → ∀ (ps : List Nat) it tp s', ps.Perm (List.range es.size) → Sta W G env loc ((it, IsSI (.ref tp) 0 a es.size ep) :: (tp, IsTpl (ps.map fun (i : Nat) => rawInt i)) :: nw) s' → Q (.done (.ret (.ref it))) s') :
    wpAny (model W.prog W.w) A (Builtin.«frozenset.__iter__» ⟨[.ref a], []⟩) Q E s := by
  unfold Builtin.«frozenset.__iter__»
  have ho : s.heap.get? a = some o := by
    obtain ⟨o', ho', rfl⟩ := S.get ma
    exact ho'
  have S0 := S
  obtain ⟨h, g, d, t, os⟩ := s
  have hT : (⟨h, g, d, t, os⟩ : Shared).TypeIs (.ref a) "set" := ⟨o, ho, hex.1⟩
  repeat lk
  rw [hd]
  dsimp only
  have hcond : (tb.place.size != es.size || decide (tb.fill > tb.mask)) = false := by
    have := hf
    simp only [SetTable.fits, Bool.and_eq_true, beq_iff_eq, decide_eq_true_eq] at this
    rw [this.1]
    simp only [bne_self_eq_false, Bool.false_or]
    exact decide_eq_false (by omega)
  rw [hcond]
  simp only [Bool.false_eq_true, ↓reduceIte]
  refine wpAny_pure (wpAny_pure (wpAny_pure ?_))
  dsimp only
  have hdr : wpAny (model W.prog W.w) A (setDrawn a) (fun b s' => s' = ⟨h, g, d, t, os⟩ ∧ b = (!W.w.params.followText "set-order" && (!tb.plain && decide (es.size > 1)))) E ⟨h, g, d, t, os⟩ := by
    unfold setDrawn setsByText
    refine wpAny_bind (wpAny_setState_of ho hd hf ?_)
    exact wpAny_bind (wpAny_bind (wpAny_askSetting (wpAny_pure (wpAny_pure ⟨rfl, rfl⟩))))
  refine wpAny_bind (wpAny_mono hdr (fun b s' q => ?_) fun _ _ e => e)
  obtain ⟨rfl, hb⟩ := q
  cases b with
  | true =>
    simp only [↓reduceIte]
    have hb' := hb.symm
    simp only [Bool.and_eq_true, Bool.not_eq_true', decide_eq_true_eq] at hb'
    refine wpAny_bind (S0.drawOrder es.size (List.range es.size) (by simp) fun ps s1 hp S1 => ?_)
    refine wpAny_bind (S1.newTuple (by rw [List.length_map, hp.length_eq, List.length_range, sizeLine_eq]; omega) fun tp s2 S2 => ?_)
    obtain ⟨o2, ho2, rfl⟩ := S2.get (.tail _ ma)
    refine wpAny_bind (wpAny_setEpoch_of ho2 hd hf ?_)
    refine wpAny_bind (wpAny_newObj_type ?_)
    exact wpAny_pure (h2 hb'.1 hb'.2.1 hb'.2.2 ps _ tp _ hp (S2.new (c := IsSI (.ref tp) 0 a es.size ep) rfl ⟨rfl, rfl⟩ s2.toks))
  | false =>
    simp only [Bool.false_eq_true, ↓reduceIte]
    refine wpAny_bind (wpAny_pure ?_)
    refine wpAny_bind (wpAny_setEpoch_of ho hd hf ?_)
    refine wpAny_bind (wpAny_newObj_type ?_)
    refine wpAny_pure (h1 ?_ _ _ (S0.new (c := IsSI (rawInt 0) 0 a es.size ep) rfl ⟨rfl, rfl⟩ t))
    have hb' := hb.symm
    rcases q1 : W.w.params.followText "set-order" with _ | _
    · rw [q1] at hb'
      rcases q2 : tb.plain with _ | _
      · rw [q2] at hb'
        simp at hb'
        exact .inr (.inr (by omega))
      · exact .inr (.inl rfl)
    · exact .inl rfl
theorem St0.get {a : Addr} {c : Cell} (S : St0 W G nw s) (m : (a, c) ∈ nw) : ∃ o, s.heap.get? a = some o ∧ c o := S.led.get m
theorem St0.set {a : Addr} {c c' : Cell} {o : Obj} {h' : Heap} (S : St0 W G nw s) (U : Upd a c c' nw nw') (hs : ∀ b o, b ≠ a → s.heap.get? b = some o → h'.get? b = some o) (ho : h'.get? a = some o) (hc : c' o) (t : Nat) : St0 W G nw' { s with heap := h', toks := t } :=
  ⟨S.ok, S.led.set U hs ho hc, S.bare, S.os, S.gens, S.gnd⟩
theorem St0.lost {it : Addr} {c : Cell} {N : Ledger} {h' : Heap} (S : St0 W G nw s) (p : Pull (it, c) nw N) (hx : Heap.ExtBut it s.heap h') : St0 W G N { s with heap := h' } := by
  have D := S.led.perm p.perm
  have hB := (D.own _ (.head _)).1
  have nd := D.nodup
  rw [List.map_cons, List.nodup_cons] at nd
  refine ⟨S.ok, ⟨fun b o e => hx b o (fun q => by rw [q, hB] at e; cases e) (S.led.keep b o e), fun q hq => ?_, nd.2⟩, S.bare, S.os, S.gens, S.gnd⟩
  obtain ⟨h1, o, ho, hc⟩ := D.own q (.tail _ hq)
  exact ⟨h1, o, hx _ _ (fun e => nd.1 (List.mem_map.mpr ⟨q, hq, e⟩)) ho, hc⟩
/-- StopIteration raised within a next -/
theorem stop_tail {Q : Option Value → Shared → Prop} {h' : Heap} {g : Array GenState} {d : Drawn} {tk : Nat} {os : OsState} (hh : A.handled = none) (hQ : ∀ h2, (∀ b o, h'.get? b = some o → h2.get? b = some o) → Q none ⟨h2, g, d, tk, os⟩) {R : PySem.Fin → Shared → Prop} :
    wpAny (model W.prog W.w) A.in1 (newExc (.type "StopIteration") [] >>= fun e => (raiseNew e : Sem PySem.Fin)) R
      (fun e s' => wpAny (model W.prog W.w) A (do if ← isInstance e (.type "StopIteration") then pure none else throw e) Q E s') ⟨h', g, d, tk, os⟩ := by
  refine wpAny_bind ?_
  simp only [newExc, newTuple]
  refine wpAny_bind (wpAny_newObj_type ?_ (by size_fits))
  refine wpAny_bind (m := firstArgMember _ _) (wpAny_of_eq (a := Value.none) (by first | rfl | (simp only [firstArgMember]; rfl)) ?_)
  refine wpAny_newObj_type ?_ (by size_fits)
  simp only [raiseNew]
  refine wpAny_bind (wpAny_handled ?_)
  rw [show A.in1.handled = none from hh]
  refine wpAny_bind (wpAny_pure (wpAny_throw ?_))
  refine wpAny_bind (wpAny_isInstance (T := "StopIteration") (b := true) ⟨_, Heap.get?_push_size _ rfl, rfl⟩ isSubtype_stop ?_)
  exact wpAny_pure (hQ _ fun b o e => Heap.get?_push_of_some _ (Heap.get?_push_of_some _ e))
theorem St0.field {it a : Addr} {first first' : Value} {i i' n ep : Nat} {oi : Obj} (S : St0 W G nw s) (U : Upd it (IsSI first i a n ep) (IsSI first' i' a n ep) nw nw') (hoi : s.heap.get? it = some oi) (hc : oi.cls = .type "set_iterator") (hdi : oi.data = .fields #[first, .int i 0, .ref a, .int n 0, .int ep 0])
    (f : Array Value → Array Value) (hf : f #[first, .int i 0, .ref a, .int n 0, .int ep 0] = #[first', .int i' 0, .ref a, .int n 0, .int ep 0]) : St0 W G nw' { s with heap := s.heap.update it (Obj.mapFields f) } :=
  S.set U (fun b o hb e => ((Heap.SameBut.update s.heap it _).2 b hb).trans e) (Heap.get?_update_self _ hoi (Obj.isFreed_of_fields (Obj.data_mapFields hdi _))) ⟨(Obj.cls_mapFields ..).trans hc, by rw [Obj.data_mapFields hdi, hf]⟩ s.toks
/-- the next one by the places drawn -/
theorem next_drawn {it a tp : Addr} {i : Nat} {ps : List Nat} {o : Obj} {es : Array (Int × Value)} {ep : Nat} {tb : SetTable} {Q : Option Value → Shared → Prop} (S : St0 W G nw s) (U : Upd it (IsSI (.ref tp) i a es.size ep) (IsSI (.ref tp) (i + 1) a es.size ep) nw nw') (mt : (tp, IsTpl (ps.map fun (i : Nat) => rawInt i)) ∈ nw) (ma : (a, IsObj o) ∈ nw)
    (hd : o.data = .set es ep tb) (hf : tb.fits es.size = true) (hi : i < ps.length) (hp : ps[i] < es.size) (h : ∀ s', St0 W G nw' s' → Q (some es[ps[i]].2) s') : wpAny (model W.prog W.w) A (pyNext (.ref it)) Q E s := by
  obtain ⟨oi, hoi, hc, hdi⟩ := S.get U.mem
  obtain ⟨o', ho', rfl⟩ := S.get ma
  obtain ⟨ot, hot, nt, rfl⟩ := S.get mt
  have hT : s.TypeIs (.ref it) "set_iterator" := ⟨oi, hoi, hc⟩
  unfold pyNext
  refine wpAny_bind (wpAny_attempt (wpAny_callSpecial?_slot (name := Str.ofString "__next__") hT slot_si_next (wpAny_call_entry slot_si_next hT entry_si_next ?_ (args_si_next _))))
  unfold Builtin.«set_iterator.__next__»
  refine wpAny_bind (wpAny_pure ?_)
  dsimp only
  refine wpAny_bind (wpAny_fieldsOf hoi hdi ?_)
  dsimp only
  refine wpAny_bind (wpAny_setEntries_of ho' hd hf ?_)
  have e1 : ((es.size : Int) != (es.size : Int)) = false := by simp
  rw [e1]
  simp only [Bool.false_eq_true, ↓reduceIte]
  refine wpAny_bind (wpAny_seqItems hot rfl ?_)
  dsimp only
  have e2 : ((ps.map fun (i : Nat) => rawInt i).toArray)[(i : Int).toNat]? = some (.int ps[i] 0) := by
    simp [hi, rawInt]
  rw [e2]
  dsimp only
  unfold setNextDrawn
  refine wpAny_bind (wpAny_bind (wpAny_setState_of ho' hd hf ?_))
  have e3 : (ep != (ep : Int).toNat) = false := by simp
  dsimp only
  rw [e3]
  simp only [Bool.false_eq_true, ↓reduceIte]
  have e4 : es[(ps[i] : Int).toNat]? = some es[ps[i]] := by
    rw [Int.toNat_natCast]; exact Array.getElem?_eq_getElem hp
  rw [e4]
  refine wpAny_pure ?_
  refine wpAny_bind (wpAny_setField hoi hdi (by simp) ?_)
  refine wpAny_pure ⟨_, rfl, wpAny_pure (h _ ?_)⟩
  refine S.field U hoi hc hdi _ ?_
  simp [rawInt]
theorem end_drawn {it a tp : Addr} {i : Nat} {ps : List Nat} {o : Obj} {es : Array (Int × Value)} {ep : Nat} {tb : SetTable} {N : Ledger} {Q : Option Value → Shared → Prop} (S : St0 W G nw s) (hh : A.handled = none) (P : Pull (it, IsSI (.ref tp) i a es.size ep) nw N) (mt : (tp, IsTpl (ps.map fun (i : Nat) => rawInt i)) ∈ nw) (ma : (a, IsObj o) ∈ nw)
    (hd : o.data = .set es ep tb) (hf : tb.fits es.size = true) (hi : ps.length ≤ i) (h : ∀ s', St0 W G N s' → Q none s') : wpAny (model W.prog W.w) A (pyNext (.ref it)) Q E s := by
  obtain ⟨oi, hoi, hc, hdi⟩ := S.get P.mem'
  obtain ⟨o', ho', rfl⟩ := S.get ma
  have hT : s.TypeIs (.ref it) "set_iterator" := ⟨oi, hoi, hc⟩
  unfold pyNext
  refine wpAny_bind (wpAny_attempt (wpAny_callSpecial?_slot (name := Str.ofString "__next__") hT slot_si_next (wpAny_call_entry slot_si_next hT entry_si_next ?_ (args_si_next _))))
  unfold Builtin.«set_iterator.__next__»
  refine wpAny_bind (wpAny_pure ?_)
  dsimp only
  refine wpAny_bind (wpAny_fieldsOf hoi hdi ?_)
  dsimp only
  refine wpAny_bind (wpAny_setEntries_of ho' hd hf ?_)
  have e1 : ((es.size : Int) != (es.size : Int)) = false := by simp
  rw [e1]
  simp only [Bool.false_eq_true, ↓reduceIte]
  obtain ⟨ot, hot, nt, rfl⟩ := S.get mt
  refine wpAny_bind (wpAny_seqItems hot rfl ?_)
  dsimp only
  have e2 : ((ps.map fun (i : Nat) => rawInt i).toArray)[(i : Int).toNat]? = none := by
    simp [hi]
  rw [e2]
  dsimp only
  refine wpAny_bind (wpAny_setField hoi hdi (by simp) ?_)
  have h2 := Heap.get?_update_self (Obj.mapFields (·.setIfInBounds 0 (rawInt 0))) hoi (Obj.isFreed_of_fields (Obj.data_mapFields hdi _))
  refine wpAny_bind (wpAny_setField h2 (Obj.data_mapFields hdi _) (by simp) ?_)
  refine stop_tail hh fun h3 hk => h _ (S.lost P fun b o hb e => hk b o ?_)
  exact ((Heap.SameBut.update _ it _).2 b hb).trans (((Heap.SameBut.update s.heap it _).2 b hb).trans e)
/-- the set's next one, however its order is told -/
noncomputable def NextIs (W : Wd) (a : Addr) (es : Array (Int × Value)) (ep : Nat) (tb : SetTable) (slot given : Nat) (r : Option (Value × Nat)) : Prop := ∀ A (s : Shared) o, s.heap.get? a = some o → o.data = .set es ep tb → tb.fits es.size = true → ∀ (E : Value → Shared → Prop),
  wpAny (model W.prog W.w) A (setNext a slot given ep) (fun q s' => s' = s ∧ q = r) E s
theorem next_is {it a : Addr} {o : Obj} {es : Array (Int × Value)} {ep : Nat} {tb : SetTable} {Q : Option Value → Shared → Prop} {slot slot' i : Nat} {v : Value} (S : St0 W G nw s) (hn : NextIs W a es ep tb slot i (some (v, slot'))) (U : Upd it (IsSI (rawInt slot) i a es.size ep) (IsSI (rawInt slot') (i + 1) a es.size ep) nw nw') (ma : (a, IsObj o) ∈ nw)
    (hd : o.data = .set es ep tb) (hf : tb.fits es.size = true) (h : ∀ s', St0 W G nw' s' → Q (some v) s') : wpAny (model W.prog W.w) A (pyNext (.ref it)) Q E s := by
  obtain ⟨oi, hoi, hc, hdi⟩ := S.get U.mem
  obtain ⟨o', ho', rfl⟩ := S.get ma
  have hT : s.TypeIs (.ref it) "set_iterator" := ⟨oi, hoi, hc⟩
  unfold pyNext
  refine wpAny_bind (wpAny_attempt (wpAny_callSpecial?_slot (name := Str.ofString "__next__") hT slot_si_next (wpAny_call_entry slot_si_next hT entry_si_next ?_ (args_si_next _))))
  unfold Builtin.«set_iterator.__next__»
  refine wpAny_bind (wpAny_pure ?_)
  dsimp only
  refine wpAny_bind (wpAny_fieldsOf hoi hdi ?_)
  dsimp only
  refine wpAny_bind (wpAny_setEntries_of ho' hd hf ?_)
  have e1 : ((es.size : Int) != (es.size : Int)) = false := by simp
  rw [e1]
  simp only [Bool.false_eq_true, ↓reduceIte]
  refine wpAny_bind (wpAny_mono (hn _ s _ ho' hd hf _) (fun q s' e => ?_) fun _ _ e => e)
  obtain ⟨rfl, rfl⟩ := e
  dsimp only
  refine wpAny_bind (wpAny_setField hoi hdi (by simp) ?_)
  have h2 := Heap.get?_update_self (Obj.mapFields (·.setIfInBounds 0 (rawInt slot'))) hoi (Obj.isFreed_of_fields (Obj.data_mapFields hdi _))
  refine wpAny_bind (wpAny_setField h2 (Obj.data_mapFields hdi _) (by simp) ?_)
  refine wpAny_pure ⟨_, rfl, wpAny_pure (h _ ?_)⟩
  obtain ⟨nw1, U1, U2⟩ := U.via2 (IsSI (rawInt slot') i a es.size ep)
  have S1 := S.field U1 hoi hc hdi (·.setIfInBounds 0 (rawInt slot')) (by simp)
  have S2 := S1.field U2 h2 ((Obj.cls_mapFields ..).trans hc) (by rw [Obj.data_mapFields hdi]; simp) (·.setIfInBounds 1 (rawInt ((i : Int) + 1))) (by simp [rawInt])
  exact S2
theorem end_is {it a : Addr} {o : Obj} {es : Array (Int × Value)} {ep : Nat} {tb : SetTable} {Q : Option Value → Shared → Prop} {slot i : Nat} {N : Ledger} (S : St0 W G nw s) (hh : A.handled = none) (hn : NextIs W a es ep tb slot i none) (P : Pull (it, IsSI (rawInt slot) i a es.size ep) nw N) (ma : (a, IsObj o) ∈ nw)
    (hd : o.data = .set es ep tb) (hf : tb.fits es.size = true) (h : ∀ s', St0 W G N s' → Q none s') : wpAny (model W.prog W.w) A (pyNext (.ref it)) Q E s := by
  obtain ⟨oi, hoi, hc, hdi⟩ := S.get P.mem'
  obtain ⟨o', ho', rfl⟩ := S.get ma
  have hT : s.TypeIs (.ref it) "set_iterator" := ⟨oi, hoi, hc⟩
  unfold pyNext
  refine wpAny_bind (wpAny_attempt (wpAny_callSpecial?_slot (name := Str.ofString "__next__") hT slot_si_next (wpAny_call_entry slot_si_next hT entry_si_next ?_ (args_si_next _))))
  unfold Builtin.«set_iterator.__next__»
  refine wpAny_bind (wpAny_pure ?_)
  dsimp only
  refine wpAny_bind (wpAny_fieldsOf hoi hdi ?_)
  dsimp only
  refine wpAny_bind (wpAny_setEntries_of ho' hd hf ?_)
  have e1 : ((es.size : Int) != (es.size : Int)) = false := by simp
  rw [e1]
  simp only [Bool.false_eq_true, ↓reduceIte]
  refine wpAny_bind (wpAny_mono (hn _ s _ ho' hd hf _) (fun q s' e => ?_) fun _ _ e => e)
  obtain ⟨rfl, rfl⟩ := e
  dsimp only
  refine wpAny_bind (wpAny_setField hoi hdi (by simp) ?_)
  refine stop_tail hh fun h3 hk => h _ (S.lost P fun b o hb e => hk b o ?_)
  exact ((Heap.SameBut.update _ it _).2 b hb).trans e
theorem nextIs_slot {a : Addr} {es : Array (Int × Value)} {ep : Nat} {tb : SetTable} {slot given : Nat} (hby : W.w.params.followText "set-order" = false) (hled : tb.led = true) (h1 : es.size ≤ 1) :
    NextIs W a es ep tb slot given (match es[SetTable.below tb.place slot]?, tb.place[SetTable.below tb.place slot]? with | some (_, x), some j => some (x, j + 1) | _, _ => none) := by
  intro A s o ho hd hf E
  unfold setNext setsByText
  refine wpAny_bind (wpAny_setState_of ho hd hf ?_)
  refine wpAny_bind (wpAny_bind (wpAny_askSetting (wpAny_pure ?_)))
  have q : ((Setting.mk (model W.prog W.w).prog (model W.prog W.w).w.params).params.followText "set-order") = false := hby
  rw [q]
  dsimp only
  simp only [Bool.false_eq_true, ↓reduceIte]
  rw [if_neg]
  rotate_left
  · show ¬ ((!tb.plain && decide (es.size > 1)) = true)
    rw [decide_eq_false (by omega)]; simp
  show wpAny _ _ ((if (!tb.led && !es.isEmpty) = true then (unsupported "set:maker-not-led" : Sem Unit) else pure ()) >>= _) _ _ _
  rw [if_neg (by rw [hled]; simp)]
  exact wpAny_bind (wpAny_pure (wpAny_pure ⟨rfl, rfl⟩))
theorem nextIs_text {a : Addr} {es : Array (Int × Value)} {ep : Nat} {tb : SetTable} {slot given : Nat} (hby : W.w.params.followText "set-order" = true) :
    NextIs W a es ep tb slot given (((pickOrder (W.w.params.setOrder a ep) es)[given]?).map fun e => (e.2, slot)) := by
  intro A s o ho hd hf E
  unfold setNext setsByText
  refine wpAny_bind (wpAny_setState_of ho hd hf ?_)
  refine wpAny_bind (wpAny_bind (wpAny_askSetting (wpAny_pure ?_)))
  have q : ((Setting.mk (model W.prog W.w).prog (model W.prog W.w).w.params).params.followText "set-order") = true := hby
  rw [q]
  dsimp only
  have e1 : (ep != ep) = false := by simp
  rw [e1]
  simp only [Bool.false_eq_true, ↓reduceIte]
  unfold setWalk setsByText
  refine wpAny_bind (wpAny_bind (wpAny_setState_of ho hd hf ?_))
  refine wpAny_bind (wpAny_bind (wpAny_askSetting (wpAny_pure ?_)))
  rw [q]
  simp only [↓reduceIte]
  exact wpAny_bind (wpAny_askSetting (wpAny_pure (wpAny_pure ⟨rfl, rfl⟩)))
end
end Mine
end
section
open PySem PySem.W PyProof.Rows PySem.W.X PySem.SeqAt
set_option maxRecDepth 100000
namespace Mine
theorem pull_app {α : Type} (p : α) : ∀ (L R : List α), Pull p (L ++ p :: R) (L ++ R)
  | [], _ => .head
  | _ :: L, R => .tail (pull_app p L R)
theorem upd_app {a : Addr} {c c' : Cell} : ∀ (L R : Ledger), Upd a c c' (L ++ (a, c) :: R) (L ++ (a, c') :: R)
  | [], _ => .head
  | _ :: L, R => .tail (upd_app L R)
theorem St0.sub {W : Wd} {G : Gens} {nw nw' : Ledger} {s : Shared} (S : St0 W G nw s) (h : List.Sublist nw' nw) : St0 W G nw' s := ⟨S.ok, S.led.sub h, S.bare, S.os, S.gens, S.gnd⟩
theorem plain_si {first : Value} {i : Nat} {a : Addr} {n ep : Nat} : ∀ o, IsSI first i a n ep o → plainIt o = true := fun o h => by unfold plainIt; rw [h.1]; decide
section
variable {W : Wd} {sh : Ledger} {it a tp : Addr} {o : Obj} {es : Array (Int × Value)} {ep : Nat} {tb : SetTable}
theorem yields_drawn {ps : List Nat} (ma : (a, IsObj o) ∈ sh) (hd : o.data = .set es ep tb) (hf : tb.fits es.size = true) (hps : ∀ j ∈ ps, j < es.size) : ∀ (m i : Nat), ps.length - i = m → i ≤ ps.length →
    Yields W sh it ((ps.drop i).map fun j => (es.getD j (0, .none)).2) [(it, IsSI (.ref tp) i a es.size ep), (tp, IsTpl (ps.map fun (i : Nat) => rawInt i))] []
  | 0, i, hm, hi => by
    have e0 : ps.drop i = [] := List.drop_of_length_le (by omega)
    rw [e0]
    refine ⟨⟨_, List.mem_append_right _ (.head _), plain_si⟩, fun A R GR s Q E hA S hQ => ?_⟩
    rw [List.append_nil] at S
    rw [← List.append_assoc] at S
    refine end_drawn S hA.handled (pull_app _ (R ++ sh) _) (ps := ps) (by simp) (by simp [ma]) hd hf (by omega) fun s' S' => hQ _ ?_
    exact S'.sub (List.sublist_append_left _ _)
  | m + 1, i, hm, hi => by
    have hlt : i < ps.length := by omega
    have e0 : ps.drop i = ps[i] :: ps.drop (i + 1) := List.drop_eq_getElem_cons hlt
    have hj := hps _ (List.getElem_mem hlt)
    rw [e0, List.map_cons]
    refine ⟨⟨_, List.mem_append_right _ (.head _), plain_si⟩, fun A R GR s Q E hA S hQ => ?_⟩
    rw [List.append_nil] at S
    rw [← List.append_assoc] at S
    refine next_drawn S (upd_app (R ++ sh) _) (ps := ps) (by simp) (by simp [ma]) hd hf hlt hj fun s' S' => ?_
    have e1 : es[ps[i]].2 = (es.getD ps[i] (0, .none)).2 := by simp [Array.getD, hj]
    rw [e1]
    refine hQ [(it, IsSI (.ref tp) (i + 1) a es.size ep), (tp, IsTpl (ps.map fun (i : Nat) => rawInt i))] [] _ ?_ (yields_drawn ma hd hf hps m (i + 1) (by omega) hlt)
    rw [List.append_nil, ← List.append_assoc]; exact S'
/-- by a told order -/
theorem yields_is {slots : List Nat} {vs : List Value} (ma : (a, IsObj o) ∈ sh) (hd : o.data = .set es ep tb) (hf : tb.fits es.size = true) (hl : slots.length = vs.length + 1)
    (hn : ∀ i (h : i < vs.length), NextIs W a es ep tb (slots[i]'(by omega)) i (some (vs[i], slots[i + 1]'(by omega)))) (he : NextIs W a es ep tb (slots[vs.length]'(by omega)) vs.length none) : ∀ (m i : Nat) (hm : vs.length - i = m) (hi : i ≤ vs.length),
    Yields W sh it (vs.drop i) [(it, IsSI (rawInt (slots[i]'(by omega) : Nat)) i a es.size ep)] []
  | 0, i, hm, hi => by
    have hi2 : i = vs.length := by omega
    subst hi2
    rw [List.drop_length]
    refine ⟨⟨_, List.mem_append_right _ (.head _), plain_si⟩, fun A R GR s Q E hA S hQ => ?_⟩
    rw [List.append_nil] at S
    rw [← List.append_assoc] at S
    refine end_is S hA.handled he (pull_app _ (R ++ sh) _) (by simp [ma]) hd hf fun s' S' => hQ _ ?_
    simpa using S'
  | m + 1, i, hm, hi => by
    have hlt : i < vs.length := by omega
    have e0 : vs.drop i = vs[i] :: vs.drop (i + 1) := List.drop_eq_getElem_cons hlt
    rw [e0]
    refine ⟨⟨_, List.mem_append_right _ (.head _), plain_si⟩, fun A R GR s Q E hA S hQ => ?_⟩
    rw [List.append_nil] at S
    rw [← List.append_assoc] at S
    refine next_is S (hn i hlt) (upd_app (R ++ sh) _) (by simp [ma]) hd hf fun s' S' => ?_
    refine hQ [(it, IsSI (rawInt (slots[i + 1]'(by omega) : Nat)) (i + 1) a es.size ep)] [] _ ?_ (yields_is ma hd hf hl hn he m (i + 1) (by omega) hlt)
    rw [List.append_nil, ← List.append_assoc]; exact S'
theorem TxtsAre.get {vs : List Value} {ss : List Str} (h : TxtsAre vs ss) : ∀ (ps : List Nat), (∀ j ∈ ps, j < vs.length) → TxtsAre (ps.map fun j => vs.getD j .none) (ps.map fun j => ss.getD j Str.empty)
  | [], _ => .nil
  | j :: ps, hp => by
    have ih := TxtsAre.get h ps fun k hk => hp k (.tail _ hk)
    have hj := hp j (.head _)
    have key : ∀ {vs : List Value} {ss : List Str}, TxtsAre vs ss → ∀ j, j < vs.length → ∃ t, vs.getD j .none = .str (ss.getD j Str.empty) t := by
      intro vs ss h
      induction h with
      | nil => intro j hj; simp at hj
      | cons x t h ih =>
        intro j hj
        cases j with
        | zero => exact ⟨t, rfl⟩
        | succ j => simpa using ih j (by simpa using hj)
    obtain ⟨t, e⟩ := key h j hj
    rw [List.map_cons, List.map_cons, e]
    exact .cons _ t ih
theorem getD_range_perm {α : Type} (d : α) (l : List α) : ((List.range l.length).map fun j => l.getD j d) = l := by
  apply List.ext_getElem
  · simp
  · intro i h1 h2
    simp at h1
    simp [h1]
end
section
variable {W : Wd} {G : Gens} {env : Env} {loc loc' : Loc} {nw nw' N : Ledger} {s : Shared} {A : Around} {E : Value → Shared → Prop}
/-- the walk over a set: its texts, in any order -/
theorem Sta.iterSet {a : Addr} {ss : List Str} {Q : Value → Shared → Prop} (S : Sta W G env loc ((a, IsSL W ss) :: N) s) (hz : ss.length ≤ 4000)
    (h : ∀ it vs ss' own o s', TxtsAre vs ss' → ss'.Perm ss → IsSL W ss o → Sta W G env loc (own ++ ((a, IsObj o) :: N)) s' → Yields W [(a, IsObj o)] it vs own [] → Q (.ref it) s') : wpAny (model W.prog W.w) A (pyIter (.ref a)) Q E s := by
  obtain ⟨o, ho, hsl⟩ := S.get (.head _)
  have S1 : Sta W G env loc ((a, IsObj o) :: N) s := S.tell .head fun o' ho' _ => by rw [ho] at ho'; cases ho'; rfl
  have hsl0 : IsSL W ss o := hsl
  obtain ⟨hex, es, ep, tb, hd, hel, ⟨ss', htx, hpm⟩, hf, hled, hpl, hsm⟩ := hsl
  have hT : s.TypeIs (.ref a) "set" := ⟨o, ho, hex.1⟩
  have hlen : es.size = ss.length := by
    have := htx.length
    rw [List.length_map, Array.length_toList] at this
    rw [this, hpm.length_eq]
  have hpsz : tb.place.size = es.size := by
    have := hf; simp only [SetTable.fits, Bool.and_eq_true, beq_iff_eq] at this; exact this.1
  refine wpAny_pyIter_slot hT slot_set_iter (wpAny_call_entry slot_set_iter hT entry_set_iter ?_ (args_set_iter _))
  refine iterSet_run S1 (.head _) hex hd hf (by omega) (fun hc it s' S' => ?_) (fun hby hp hgt ps it tp s' hperm S' => ?_)
  · obtain ⟨oi, hoi, hci, _⟩ := S'.get (.head _)
    refine ⟨_, rfl, "set_iterator", _, ⟨oi, hoi, hci⟩, lk_si_next, ?_⟩
    cases hby : W.w.params.followText "set-order" with
    | true =>
      have hpp := pick_perm (W.w.params.setOrder a ep) es
      obtain ⟨s2, a2, b2⟩ := TxtsAre.perm (hpp.map (·.2)) htx
      refine h it _ s2 [(it, IsSI (rawInt 0) 0 a es.size ep)] o s' a2 (b2.trans hpm) hsl0 S' ?_
      have hpz : (pickOrder (W.w.params.setOrder a ep) es).size = es.size := by rw [← Array.length_toList, hpp.length_eq, Array.length_toList]
      have Y := yields_is (W := W) (sh := [(a, IsObj o)]) (it := it) (a := a) (o := o) (es := es) (ep := ep) (tb := tb) (slots := List.replicate (es.size + 1) 0) (vs := (pickOrder (W.w.params.setOrder a ep) es).toList.map (·.2)) (.head _) hd hf (by simp [hpz]) ?_ ?_ _ 0 rfl (by omega)
      · simpa using Y
      · intro i hi
        simp only [List.length_map, Array.length_toList] at hi
        have := nextIs_text (W := W) (a := a) (es := es) (ep := ep) (tb := tb) (slot := 0) (given := i) hby
        rw [Array.getElem?_eq_getElem hi] at this
        simpa using this
      · have := nextIs_text (W := W) (a := a) (es := es) (ep := ep) (tb := tb) (slot := 0) (given := (pickOrder (W.w.params.setOrder a ep) es).size) hby
        rw [Array.getElem?_eq_none (Nat.le_refl _)] at this
        simpa using this
    | false =>
      have hl2 : tb.led = true := hled.resolve_right (by rw [hby]; decide)
      have hle : es.size ≤ 1 := by
        rcases hc with q | q | q
        · rw [hby] at q; cases q
        · by_cases z : es.size = 0
          · omega
          · rw [hpl z] at q; cases q
        · exact q
      refine h it _ ss' [(it, IsSI (rawInt 0) 0 a es.size ep)] o s' htx hpm hsl0 S' ?_
      by_cases z : es.size = 0
      · have e1 : es = #[] := Array.size_eq_zero_iff.mp z
        have Y := yields_is (W := W) (sh := [(a, IsObj o)]) (it := it) (a := a) (o := o) (es := es) (ep := ep) (tb := tb) (slots := [0]) (vs := []) (.head _) hd hf rfl (fun i hi => by simp at hi) ?_ _ 0 rfl (by omega)
        · subst e1; simpa using Y
        · have := nextIs_slot (W := W) (a := a) (es := es) (ep := ep) (tb := tb) (slot := 0) (given := 0) hby hl2 hle
          have e2 : es[SetTable.below tb.place 0]? = none := Array.getElem?_eq_none (by omega)
          rw [e2] at this
          exact this
      · have hz1 : es.size = 1 := by omega
        obtain ⟨j, hj⟩ : ∃ j, tb.place = #[j] := Array.size_eq_one_iff.mp (by omega)
        obtain ⟨e, he⟩ : ∃ e, es = #[e] := Array.size_eq_one_iff.mp hz1
        have b0 : SetTable.below tb.place 0 = 0 := by rw [hj]; simp [SetTable.below, SetTable.below.go]
        have b1 : SetTable.below tb.place (j + 1) = 1 := by rw [hj]; simp [SetTable.below, SetTable.below.go]
        have Y := yields_is (W := W) (sh := [(a, IsObj o)]) (it := it) (a := a) (o := o) (es := es) (ep := ep) (tb := tb) (slots := [0, j + 1]) (vs := [e.2]) (.head _) hd hf rfl (fun i hi => ?_) ?_ _ 0 rfl (by omega)
        · subst he; simpa using Y
        · have hi0 : i = 0 := by simpa using hi
          subst hi0
          have := nextIs_slot (W := W) (a := a) (es := es) (ep := ep) (tb := tb) (slot := 0) (given := 0) hby hl2 hle
          rw [b0, hj, he] at this
          rw [he]
          simpa using this
        · have := nextIs_slot (W := W) (a := a) (es := es) (ep := ep) (tb := tb) (slot := j + 1) (given := 1) hby hl2 hle
          rw [b1] at this
          have e2 : es[1]? = none := Array.getElem?_eq_none (by omega)
          rw [e2] at this
          simpa using this
  · obtain ⟨oi, hoi, hci, _⟩ := S'.get (.head _)
    refine ⟨_, rfl, "set_iterator", _, ⟨oi, hoi, hci⟩, lk_si_next, ?_⟩
    have hps : ∀ j ∈ ps, j < es.size := fun j hj => by simpa using hperm.mem_iff.mp hj
    have Y := yields_drawn (W := W) (sh := [(a, IsObj o)]) (it := it) (a := a) (tp := tp) (o := o) (es := es) (ep := ep) (tb := tb) (ps := ps) (.head _) hd hf hps ps.length 0 (by omega) (by omega)
    rw [List.drop_zero] at Y
    have hpl2 : ∀ j ∈ ps, j < (es.toList.map (·.2)).length := fun j hj => by simpa using hps j hj
    have ht := TxtsAre.get htx ps hpl2
    have e1 : (ps.map fun j => (es.toList.map (·.2)).getD j .none) = ps.map fun j => (es.getD j (0, .none)).2 := by
      apply List.map_congr_left
      intro j hj
      have := hps j hj
      simp [Array.getD, this, List.getD]
    rw [e1] at ht
    refine h it _ _ _ o s' ht ?_ hsl0 S' Y
    have hl' : ss'.length = es.size := by
      have := htx.length
      rw [List.length_map, Array.length_toList] at this
      exact this.symm
    have p1 := hperm.map fun j => ss'.getD j Str.empty
    rw [← hl', getD_range_perm] at p1
    exact p1.trans hpm
end
end Mine
end
section
open PySem PySem.W PyProof.Rows PySem.W.X PySem.SeqAt
set_option maxRecDepth 100000
namespace Mine
theorem lk_set_len : typeLookup (.type "set") "__len__" = pure (some (.builtin "set.__len__")) := by rw [typeLookup_type, builtinLookup_eq_fast]; kernel_rfl
theorem St0.perm {W : Wd} {G : Gens} {nw nw' : Ledger} {s : Shared} (S : St0 W G nw s) (h : List.Perm nw nw') : St0 W G nw' s := ⟨S.ok, S.led.perm h, S.bare, S.os, S.gens, S.gnd⟩
theorem perm_x {α : Type} (e a t : α) (own N : List α) : List.Perm (e :: (own ++ (a :: t :: N))) (t :: ((e :: N) ++ ([a] ++ own))) := by
  have h1 : List.Perm (e :: (own ++ (a :: t :: N))) (e :: ((a :: t :: N) ++ own)) := List.perm_append_comm.cons _
  have h2 : List.Perm (e :: ((a :: t :: N) ++ own)) (t :: e :: a :: (N ++ own)) := ((List.Perm.swap ..).cons _).trans (List.Perm.swap ..)
  exact h1.trans (h2.trans ((List.perm_middle.symm.cons _).cons _))
section
variable {W : Wd} {G : Gens} {env : Env} {loc loc' : Loc} {nw nw' N : Ledger} {s : Shared} {A : Around} {E : Value → Shared → Prop}
theorem hint_set {a : Addr} {Q : Bool → Shared → Prop} (hT : s.TypeIs (.ref a) "set") (h : Q false s) : wpAny (model W.prog W.w) A (Builtin.List.listLengthHint (.ref a)) Q E s := by
  obtain ⟨o, ho, hc⟩ := hT
  obtain ⟨hp, g, d, t, os⟩ := s
  have hT : (⟨hp, g, d, t, os⟩ : Shared).TypeIs (.ref a) "set" := ⟨o, ho, hc⟩
  unfold Builtin.List.listLengthHint
  refine wpAny_bind (wpAny_specialOf hT lk_set_len ?_)
  dsimp only
  rw [show splitId "set.__len__" = some ("set", "__len__") from by decide +kernel]
  dsimp only
  refine wpAny_bind (wpAny_isInstance (b := true) hT (by rw [isSubtype_type]; kernel_rfl) ?_)
  rw [if_neg (by decide)]
  rw [if_pos]
  rotate_left
  · decide +kernel
  exact wpAny_bind (wpAny_typeOf hT (wpAny_pure h))
/-- a set's texts gathered, in any order -/
theorem Sta.collectSet {a : Addr} {ss : List Str} {Q : List Value → Shared → Prop} (S : Sta W G env loc ((a, IsSL W ss) :: N) s) (hA : Aok 9 A) (hz : ss.length ≤ 4000)
    (h : ∀ vs ss' s', TxtsAre vs ss' → ss'.Perm ss → Sta W G env loc ((a, IsSL W ss) :: N) s' → Q vs s') : wpAny (model W.prog W.w) A (collect (.ref a)) Q E s := by
  unfold collect
  refine wpAny_bind (wpAny_runValue (codeAny_builtin F.entry_proto_collect ?_))
  rw [Around.under_plainId F.plain_proto_collect _]
  show wpAny _ A.in1 (PySem.newList [] >>= fun l => again (.builtin "list.__iadd__" ⟨[l, .ref a], []⟩)) _ _ s
  refine wpAny_bind (S.newList (by simp) fun T s1 S1 => ?_)
  refine wpAny_pure ⟨plainId_quiet F.plain_list_iadd _, codeAny_builtin F.entry_list_iadd ?_⟩
  rw [Around.under_plainId F.plain_list_iadd _]
  show wpAny _ A.in1 (Builtin.List.listExtendWith (.ref T) (.ref a) (.ref T)) _ _ _
  unfold Builtin.List.listExtendWith
  obtain ⟨oa, hoa, hsl⟩ := S1.get (.tail _ (.head _))
  have hT1 : s1.TypeIs (.ref a) "set" := ⟨oa, hoa, hsl.1.1⟩
  have hne : T ≠ a := fun e => by
    have nd := S1.led.nodup
    simp only [List.map_cons, List.nodup_cons, List.mem_cons] at nd
    exact nd.2.1 (.inl e)
  refine wpAny_bind (wpAny_typeOf hT1 ?_)
  have h1 : Builtin.List.listSameRef (.ref T) (.ref a) = false := by simp [Builtin.List.listSameRef, hne]
  have h2 : (Value.type "set" == Value.type "list") = false := by decide
  have h3 : (Value.type "set" == Value.type "tuple") = false := by decide
  simp only [h1, h2, h3, Bool.or_false, Bool.false_eq_true, if_false]
  refine wpAny_bind ((S1.perm (List.Perm.swap ..)).iterSet hz fun it vs ss' own o s2 ht hpm hslo S2 hy => ?_)
  obtain ⟨o2, ho2, e2⟩ := S2.get (List.mem_append_right _ (.head _))
  have e2 : o2 = o := e2
  rw [e2] at ho2
  refine wpAny_bind (wpAny_holding (hint_set ⟨_, ho2, hslo.1.1⟩ ?_))
  have hres : ((false || (["set", "frozenset", "dict", "dict_keys", "dict_values", "dict_items"] : List String).any (Value.type "set" == .type ·)) = true) := by decide
  show wpAny _ A.in1 ((if (false || (["set", "frozenset", "dict", "dict_keys", "dict_values", "dict_items"] : List String).any (Value.type "set" == .type ·)) = true then (rule "list.extend.makes-room" >>= fun _ => Builtin.List.listTouch (.ref T) >>= fun _ => again (.builtin "list.extend.loop" ⟨[.ref T, .ref it, .ref T], []⟩)) else again (.builtin "list.extend.loop" ⟨[.ref T, .ref it, .ref T], []⟩))) _ _ _
  rw [if_pos hres]
  refine wpAny_bind (wpAny_rule ?_)
  refine wpAny_bind ?_
  show wpAny _ A.in1 (updateSeq T (·.push .none) >>= fun _ => updateSeq T (·.pop)) _ _ _
  have S0 : St0 W (G ++ []) ((T, IsLst []) :: (((env.locals, IsNs loc) :: N) ++ ([(a, IsObj o)] ++ own))) s2 := by
    rw [List.append_nil]
    exact S2.to0.perm (perm_x _ _ _ _ _)
  obtain ⟨n, hl⟩ := S0.isL (.head _)
  refine wpAny_bind (wpAny_updateSeq hl rfl ?_ (by simp) (by simp))
  have S3 := S0.setL (ys := [.none]) hl (·.push Value.none) (by simp)
  obtain ⟨n1, hl1⟩ := S3.isL (.head _)
  refine wpAny_updateSeq hl1 rfl ?_ (by simp [sizeLine_eq]) (by simp)
  have S4 := S3.setL (ys := []) hl1 (·.pop) (by simp)
  have hvz : vs.length ≤ sizeLine := by rw [ht.length, hpm.length_eq, sizeLine_eq]; omega
  refine wpAny_pure ⟨plainId_quiet F.plain_extend_loop _, extend_loop_y vs own [] [] A _ (hA.le (by first | decide | omega)) hy (by simpa using hvz) S4 fun s5 S5 => ?_⟩
  rw [List.nil_append] at S5
  obtain ⟨n5, hl5⟩ := S5.isL (.head _)
  show wpAny _ A (load T >>= _) _ _ s5
  refine wpAny_bind (wpAny_load hl5 ?_)
  refine wpAny_pure (h vs ss' s5 ht hpm ?_)
  have S6 : St0 W G ((env.locals, IsNs loc) :: (a, IsObj o) :: N) s5 := (S5.sub (List.sublist_cons_self _ _)).perm (by
    show List.Perm ((env.locals, IsNs loc) :: (N ++ [(a, IsObj o)])) ((env.locals, IsNs loc) :: (a, IsObj o) :: N)
    exact (List.perm_append_comm (l₁ := N) (l₂ := [_])).cons _)
  exact (St0.toSta S6 S.eok).tell .head fun o _ e => by rw [e]; exact hslo
end
end Mine
end
section
open PySem PySem.W PyProof.Rows PySem.W.X PySem.SeqAt
set_option maxRecDepth 100000
namespace Mine
/-- rows of texts, which comes first -/
noncomputable def ltLs : List Str → List Str → Bool
  | [], [] => false
  | [], _ :: _ => true
  | _ :: _, [] => false
  | x :: xs, y :: ys => if x = y then ltLs xs ys else decide (x.cps.toList < y.cps.toList)
theorem TxtsAre.at' {vs : List Value} {ss : List Str} (h : TxtsAre vs ss) : ∀ (i : Nat) (h : i < ss.length), ∃ t, vs[i]? = some (.str ss[i] t) := by
  induction h with
  | nil => intro k h; cases h
  | cons n t h ih =>
    intro k hk
    cases k with
    | zero => exact ⟨t, rfl⟩
    | succ k =>
      obtain ⟨u, e⟩ := ih k (by simpa using hk)
      exact ⟨u, by simpa using e⟩
theorem eqAt_str {A : Around} {s : Shared} {x y : Str} {t u : Tok} : EqAt A s (.str x t) (.str y u) (decide (x = y)) := by
  have h : EqAt A s (.str x t) (.str y u) _ := EqAt.str_str x t y u
  have e : (x == y) = decide (x = y) := by
    by_cases q : x = y
    · subst q; simp
    · rw [decide_eq_false q]; exact beq_eq_false_iff_ne.mpr q
  first | exact e ▸ h | (rw [← e]; exact h) | simpa using h

open PySem.AutoSeq1 (wpAny_loadPart')
open PySem.MeetsSeq PySem.MeetsSeq2 PySem.MeetsSeq3 PySem.SeqRoads2
theorem rc_lt_str {prog : Program} {w : World} {A : Around} {E : Value → Shared → Prop} {s : Shared} {x y : Str} {t u : Tok} {Q : Value → Shared → Prop} (h : Q (.bool (decide (x.cps.toList < y.cps.toList))) s) : wpAny (model prog w) A (richCompare .Lt (.str x t) (.str y u)) Q E s :=
  PyProof.Rows.lt_str h
theorem lt_loop (l b : Addr) (vs vs2 : List Value) (n n2 : Nat) (ss ss2 : List Str) (h1 : TxtsAre vs ss) (h2 : TxtsAre vs2 ss2) (k : Nat) :
    ∀ i : Nat, ss.length - i = k → i ≤ ss.length → i ≤ ss2.length → Meets (Builtin.«list.__eq__.loop» ⟨[.ref l, .ref b, rawInt i, rawInt 0], []⟩)
      (fun _ R s => s.heap.get? l = some { cls := .type "list", data := .seq vs.toArray n } ∧ s.heap.get? b = some { cls := .type "list", data := .seq vs2.toArray n2 } ∧
        R (.ok (.ret (.bool (ltLs (ss.drop i) (ss2.drop i))))) s) := by
  induction k with
  | zero =>
    intro i hk hi hi2 prog w A R s h
    obtain ⟨hp, g, d, tk, os⟩ := s; obtain ⟨hl, hb, h⟩ := h
    wp_walk using wpAny_loadPart' hl, wpAny_loadPart' hb
    have e1 : vs.toArray[((i : Nat) : Int).toNat]? = none := by
      simp [h1.length]; omega
    rw [e1]
    wp_walk using wpAny_loadPart' hl, wpAny_loadPart' hb
    show R (.ok (.ret (.bool (decide (vs.toArray.size < vs2.toArray.size))))) _
    rw [List.size_toArray, List.size_toArray, h1.length, h2.length]
    have e2 : ss.drop i = [] := List.drop_of_length_le (by omega)
    rw [e2] at h
    have e3 : ltLs [] (ss2.drop i) = decide (ss.length < ss2.length) := by
      by_cases q : i < ss2.length
      · rw [List.drop_eq_getElem_cons q]
        have : ss.length < ss2.length := by omega
        simp [ltLs, this]
      · rw [List.drop_of_length_le (by omega)]
        have : ¬ ss.length < ss2.length := by omega
        simp [ltLs, this]
    rw [← e3]; exact h
  | succ k ih =>
    intro i hk hi hi2 prog w A R s h
    obtain ⟨hp, g, d, tk, os⟩ := s; obtain ⟨hl, hb, h⟩ := h
    have hlt : i < ss.length := by omega
    obtain ⟨t, et⟩ := h1.at' i hlt
    have e1 : vs.toArray[((i : Nat) : Int).toNat]? = some (.str ss[i] t) := by simpa using et
    by_cases hlt2 : i < ss2.length
    · obtain ⟨u, eu⟩ := h2.at' i hlt2
      have e2 : vs2.toArray[((i : Nat) : Int).toNat]? = some (.str ss2[i] u) := by simpa using eu
      wp_walk using wpAny_loadPart' hl, wpAny_loadPart' hb
      rw [e1, e2]
      refine wpAny_bind (eqAt_str prog w _ _ ?_)
      rw [List.drop_eq_getElem_cons hlt, List.drop_eq_getElem_cons hlt2] at h
      have hc : ((i : Int) + 1) = ((i + 1 : Nat) : Int) := by push_cast; rfl
      by_cases q : ss[i] = ss2[i]
      · rw [decide_eq_true q]
        wp_walk
        rw [hc]
        refine ⟨plainId_quiet plain_eq_loop _, codeAny_builtin entry_eq_loop ?_⟩
        rw [Around.under_plainId plain_eq_loop _]
        refine ih (i + 1) (by omega) (by omega) (by omega) prog w A R _ ⟨hl, hb, ?_⟩
        rw [ltLs, if_pos q] at h
        exact h
      · rw [decide_eq_false q]
        wp_walk using wpAny_loadPart' hl, wpAny_loadPart' hb
        rw [e1, e2]
        rw [ltLs, if_neg q] at h
        refine wpAny_bind (rc_lt_str ?_)
        exact wpAny_pure h
    · have e2 : vs2.toArray[((i : Nat) : Int).toNat]? = none := by simp [h2.length]; omega
      wp_walk using wpAny_loadPart' hl, wpAny_loadPart' hb
      rw [e1, e2]
      wp_walk using wpAny_loadPart' hl, wpAny_loadPart' hb
      show R (.ok (.ret (.bool (decide (vs.toArray.size < vs2.toArray.size))))) _
      rw [List.size_toArray, List.size_toArray, h1.length, h2.length]
      rw [List.drop_eq_getElem_cons hlt, List.drop_of_length_le (Nat.le_of_not_lt hlt2)] at h
      have : ¬ ss.length < ss2.length := by omega
      rw [decide_eq_false this]; exact h
theorem list_lt (l b : Addr) (vs vs2 : List Value) (n n2 : Nat) (ss ss2 : List Str) (h1 : TxtsAre vs ss) (h2 : TxtsAre vs2 ss2) :
    Meets (Builtin.«list.__lt__» ⟨[.ref l, .ref b], []⟩)
      (fun _ R s => s.heap.get? l = some { cls := .type "list", data := .seq vs.toArray n } ∧ s.heap.get? b = some { cls := .type "list", data := .seq vs2.toArray n2 } ∧
        R (.ok (.ret (.bool (ltLs ss ss2)))) s) := by
  intro prog w A R s h
  obtain ⟨hp, g, d, tk, os⟩ := s; obtain ⟨hl, hb, h⟩ := h
  have f3 := AutoSeq1.sub_list_list
  wp_walk using wpAny_loadPart' hl, wpAny_loadPart' hb
  refine ⟨plainId_quiet plain_eq_loop _, codeAny_builtin entry_eq_loop ?_⟩
  rw [Around.under_plainId plain_eq_loop _]
  exact lt_loop l b vs vs2 n n2 ss ss2 h1 h2 _ 0 rfl (Nat.zero_le _) (Nat.zero_le _) prog w A R _ ⟨hl, hb, by simpa using h⟩
theorem slot_lt2 : Slot "list" "__lt__" "list.__lt__" := F.slot_list_lt
theorem key_lt {prog : Program} {w : World} {A : Around} {E : Value → Shared → Prop} {s : Shared} {l b : Addr} {vs vs2 : List Value} {n n2 : Nat} {ss ss2 : List Str} {Q : Bool → Shared → Prop} (hu : A.units < cLine) (h1 : TxtsAre vs ss) (h2 : TxtsAre vs2 ss2)
    (hl : s.heap.get? l = some { cls := .type "list", data := .seq vs.toArray n }) (hb : s.heap.get? b = some { cls := .type "list", data := .seq vs2.toArray n2 }) (h : Q (ltLs ss ss2) s) :
    wpAny (model prog w) A (keyLt' oneType' (.ref l) (.ref b)) Q E s := by
  rw [keyLt'_oneType, oneLt'_eq]
  simp only [if_true]
  refine wpAny_bind (wpAny_cRoomFor hu ?_)
  refine wpAny_bind (wpAny_callSpecialIfBound?_slot ⟨_, hl, rfl⟩ slot_lt2 (call_meets slot_lt2 ⟨_, hl, rfl⟩ F.entry_list_lt (F.args_list_lt_2 _ _) (list_lt l b vs vs2 n n2 ss ss2 h1 h2) ⟨hl, hb, ?_⟩))
  exact wpAny_truthy_bool h
end Mine
end
section
open PySem PySem.W PyProof.Rows PySem.W.X PySem.SeqAt
set_option maxRecDepth 100000
namespace Mine
/-- what a sort asks and leaves, whatever the answers -/
noncomputable def KAll (n : Nat) {α : Type} (P : α → Prop) : KasT α → Prop
  | .ret a => P a
  | .ask i j k => i < n ∧ j < n ∧ ∀ b, KAll n P (k b)
theorem KAll.mono {n : Nat} {α : Type} {P P' : α → Prop} (h : ∀ a, P a → P' a) : ∀ {t : KasT α}, KAll n P t → KAll n P' t
  | .ret a, x => h a x
  | .ask _ _ _, x => ⟨x.1, x.2.1, fun b => KAll.mono h (x.2.2 b)⟩
theorem KAll.bind {n : Nat} {α β : Type} {P : α → Prop} {P' : β → Prop} {f : α → KasT β} (h : ∀ a, P a → KAll n P' (f a)) : ∀ {t : KasT α}, KAll n P t → KAll n P' (t.bind f)
  | .ret a, x => h a x
  | .ask _ _ _, x => ⟨x.1, x.2.1, fun b => KAll.bind h (x.2.2 b)⟩
theorem KAll.wp {n : Nat} {α : Type} {P : α → Prop} {cmp : Nat → Nat → (Bool → Shared → Prop) → Shared → Prop} {s : Shared} (hc : ∀ i j, i < n → j < n → ∃ b, ∀ C : Bool → Shared → Prop, C b s → cmp i j C s) {Q : α → Shared → Prop} (hQ : ∀ a, P a → Q a s) : ∀ {t : KasT α}, KAll n P t → t.kasWp cmp Q s
  | .ret a, x => hQ a x
  | .ask i j k, x => by
    obtain ⟨b, hb⟩ := hc i j x.1 x.2.1
    exact hb _ (KAll.wp hc hQ (x.2.2 b))
noncomputable def Ok (n : Nat) (p : Array Nat) : Prop := p.toList.Perm (List.range n)
theorem Ok.lt {n : Nat} {p : Array Nat} (h : Ok n p) (hn : 0 < n) (i : Nat) : p.getD i 0 < n := by
  by_cases q : i < p.size
  · have e : p.getD i 0 = p[i] := by simp [Array.getD, q]
    have : p[i] ∈ p.toList := Array.mem_toList_iff.mpr (Array.getElem_mem q)
    have := h.mem_iff.mp this
    rw [e]; simpa using this
  · have e : p.getD i 0 = 0 := by simp [Array.getD, q]
    omega
theorem Ok.rev {n : Nat} {p : Array Nat} (h : Ok n p) (i j : Nat) : Ok n (kas_rev p i j) := (Array.perm_iff_toList_perm.mp (mirror_perm p i j _)).trans h
theorem Ok.bub {n : Nat} {p : Array Nat} (h : Ok n p) (i j : Nat) : Ok n (bubble p i j) := (Array.perm_iff_toList_perm.mp (bubble_perm p i j)).trans h
section
variable {n : Nat} {p : Array Nat}
theorem ka_asc (hn : 0 < n) (h : Ok n p) : ∀ f m, KAll n (fun _ => True) (kas_asc p f m)
  | 0, _ => trivial
  | f + 1, m => ⟨h.lt hn _, h.lt hn _, fun b => by cases b with
    | true => exact trivial
    | false => exact ka_asc hn h f (m + 1)⟩
theorem ka_desc (hn : 0 < n) : ∀ f p m q, Ok n p → KAll n (fun r => Ok n r.1) (kas_desc f p m q)
  | 0, _, _, _, h => h
  | f + 1, p, m, q, h => ⟨h.lt hn _, h.lt hn _, fun b => by
    cases b with
    | true =>
      show KAll n _ (if true = true then _ else _)
      rw [if_pos rfl]
      split
      · exact ka_desc hn f _ _ _ (h.rev _ _)
      · exact ka_desc hn f _ _ _ h
    | false => exact ⟨h.lt hn _, h.lt hn _, fun d => by cases d with
      | true => exact h
      | false => exact ka_desc hn f _ _ _ h⟩⟩
theorem ka_tail3 (hn : 0 < n) (h : Ok n p) (a b : Nat) : KAll n (fun r => Ok n r.2) (kas_tail3 a b p) := by
  refine KAll.bind (P := fun _ => True) (fun m _ => ?_) (ka_asc hn (h.rev _ _) _ _)
  exact h.rev _ _
theorem ka_descPart (hn : 0 < n) (h : Ok n p) (a b : Nat) : KAll n (fun r => Ok n r.2) (kas_descPart a b p) := (ka_desc hn _ _ _ _ h).bind fun r hr => by
  split
  · exact ka_tail3 hn (hr.rev _ _) _ _
  · exact ka_tail3 hn hr _ _
theorem ka_count (hn : 0 < n) (h : Ok n p) (a : Nat) : KAll n (fun r => Ok n r.2) (kas_count a p) := (ka_asc hn h _ _).bind fun m _ => by
  split
  · exact h
  · split
    · exact ⟨h.lt hn _, h.lt hn _, fun c => by cases c with
        | true => exact h
        | false => exact ka_descPart hn (h.rev _ _) _ _⟩
    · exact ka_descPart hn h _ _
theorem ka_place (hn : 0 < n) (h : Ok n p) (k : Nat) : ∀ f l r, KAll n (fun _ => True) (kas_place p k f l r)
  | 0, _, _ => trivial
  | f + 1, l, r => by
    unfold kas_place
    split
    · trivial
    · exact ⟨h.lt hn _, h.lt hn _, fun c => by cases c with
        | true => exact ka_place hn h k f _ _
        | false => exact ka_place hn h k f _ _⟩
theorem ka_bin (hn : 0 < n) : ∀ f p k, Ok n p → KAll n (Ok n) (kas_bin f p k)
  | 0, _, _, h => h
  | f + 1, p, k, h => (ka_place hn h k _ _ _).bind fun l _ => ka_bin hn f _ _ (h.bub _ _)
theorem ka_sort (hn : 0 < n) : KAll n (Ok n) (kas_sort n) := (ka_count hn (p := List.toArray (List.range n)) (List.Perm.refl _) n).bind fun r hr => by
  split
  · exact ka_bin hn _ _ _ hr
  · exact hr
end
end Mine
end
section
open PySem PySem.W PyProof.Rows PySem.W.X PySem.SeqAt
set_option maxRecDepth 100000
set_option linter.unusedVariables false
namespace Mine
noncomputable def kLed (kp : Str → List Str) : List Addr → List Str → Ledger
  | k :: ks, x :: xs => (k, IsTxts (kp x)) :: kLed kp ks xs
  | _, _ => []
theorem kLed_snoc (kp : Str → List Str) (k : Addr) (x : Str) : ∀ (ks : List Addr) (xs : List Str), ks.length = xs.length → kLed kp (ks ++ [k]) (xs ++ [x]) = kLed kp ks xs ++ [(k, IsTxts (kp x))]
  | [], [], _ => rfl
  | [], _ :: _, h => by simp at h
  | _ :: _, [], h => by simp at h
  | _ :: ks, _ :: xs, h => by
    show _ :: kLed kp (ks ++ [k]) (xs ++ [x]) = _
    rw [kLed_snoc kp k x ks xs (by simpa using h)]; rfl
theorem kLed_mem (kp : Str → List Str) : ∀ (ks : List Addr) (xs : List Str) (i : Nat) (h1 : i < ks.length) (h2 : i < xs.length), (ks[i], IsTxts (kp xs[i])) ∈ kLed kp ks xs
  | k :: ks, x :: xs, 0, _, _ => .head _
  | k :: ks, x :: xs, i + 1, h1, h2 => .tail _ (kLed_mem kp ks xs i (by simpa using h1) (by simpa using h2))
section
variable {W : Wd} {G : Gens} {env : Env} {loc loc' : Loc} {nw nw' N : Ledger} {s : Shared} {A : Around} {E : Value → Shared → Prop}
theorem TxtsAre.pick {vs : List Value} {ss : List Str} (h : TxtsAre vs ss) (p : List Nat) (hp : ∀ i ∈ p, i < ss.length) : TxtsAre (p.map fun i => vs.getD i .none) (p.map fun i => ss.getD i Str.empty) :=
  TxtsAre.get h p fun j hj => by rw [h.length]; exact hp j hj
set_option maxHeartbeats 4000000 in
/-- a list of texts sorted by a key that gives rows of texts -/
theorem Sta.sortKey {l f : Addr} {vs : List Value} {ss : List Str} {kp : Str → List Str} {Q : Value → Shared → Prop} (S : Sta W G env loc ((l, IsLst vs) :: N) s) (ht : TxtsAre vs ss) (hu : A.units + 1 < cLine) (h64 : ss.length < 64)
    (hkey : ∀ x t L0 s (Q' : Value → Shared → Prop), x ∈ ss → Sta W G env loc (L0 ++ N) s → (∀ k s', Sta W G env loc ((k, IsTxts (kp x)) :: (L0 ++ N)) s' → Q' (.ref k) s') → wpAny (model W.prog W.w) A.in1 (call (.ref f) [.str x t]) Q' (fun _ _ => False) s)
    (h : ∀ ss' s', ss'.Perm ss → Sta W G env loc ((l, IsTxts ss') :: N) s' → Q .none s') :
    wpAny (model W.prog W.w) A (call (.builtin "list.sort") [.ref l] [(Str.ofString "key", .ref f)]) Q E s := by
  obtain ⟨n, hl⟩ := S.isL (.head _)
  have hlen := ht.length
  refine wpAny_call_entry_kw PyProof.Rows.slot_list_sort ⟨_, hl, rfl⟩ PyProof.Rows.entry_list_sort ?_ (ksk_l1 _ _)
  rw [ksk_t1]
  unfold ksk_tree
  refine wpAny_bind (listItems_at hl rfl ?_)
  refine wpAny_bind (listUpdate_at hl rfl ?_ (by rw [List.size_toArray, sizeLine_eq]; omega) (Nat.zero_le _))
  have S1 := S.setL (ys := []) hl (fun _ => #[]) rfl .head s.toks
  obtain ⟨e1, hl1⟩ := S1.isL (.head _)
  replace S1 := S1.tell (nw' := (l, IsObj (seqObj "list" #[] e1)) :: N) .head fun o ho _ => by rw [hl1] at ho; cases ho; rfl
  refine wpAny_bind (seqEpoch_at hl1 rfl ?_)
  refine wpAny_bind (S1.newTuple (by rw [sizeLine_eq]; show vs.length ≤ _; omega) fun tp s2 S2 => ?_)
  refine wpAny_bind (S2.newList (by simp) fun kS s3 S3 => ?_)
  replace S3 := S3.sub (nw' := (kS, IsLst []) :: (l, IsObj (seqObj "list" #[] e1)) :: N) ((List.sublist_cons_self _ _).cons_cons _)
  refine wpAny_holding ?_
  unfold ksk_rest
  refine wpAny_bind (wpAny_rule ?_)
  rw [← Array.forIn_toList]
  refine wpAny_bind (ksk_fold (I := fun i s' => ∃ ks : List Addr, ks.length = i ∧ Sta W G env loc ((kS, IsLst (ks.map .ref)) :: (l, IsObj (seqObj "list" #[] e1)) :: (kLed kp ks (ss.take i) ++ N)) s') vs 0 s3 ⟨[], rfl, S3⟩ (fun j x s' hx hI => ?_) (fun s' hI => ?_))
  · obtain ⟨ks, hks, S4⟩ := hI
    rw [Nat.zero_add] at hks S4
    have hj : j < ss.length := by
      rw [← hlen]; exact (List.getElem?_eq_some_iff.mp hx).1
    obtain ⟨t, ex⟩ := ht.at' j hj
    rw [hx] at ex
    cases ex
    refine wpAny_bind (wpAny_attempt (wpAny_mono (hkey ss[j] t ((kS, IsLst (ks.map .ref)) :: (l, IsObj (seqObj "list" #[] e1)) :: kLed kp ks (ss.take j)) s' (fun v s'' => ∃ k, v = .ref k ∧ Sta W G env loc ((k, IsTxts (kp ss[j])) :: ((kS, IsLst (ks.map .ref)) :: (l, IsObj (seqObj "list" #[] e1)) :: (kLed kp ks (ss.take j) ++ N))) s'') (List.getElem_mem hj) S4 fun k s'' S5 => ⟨k, rfl, S5⟩) (fun v s'' hv => ?_) fun _ _ hF => hF.elim))
    obtain ⟨k, rfl, S5⟩ := hv
    obtain ⟨n5, hl5⟩ := S5.isL (a := kS) (.tail _ (.head _))
    have hksz : ks.length ≤ 64 := by omega
    refine wpAny_bind (listUpdate_at hl5 rfl ?_ (by rw [List.size_toArray, List.length_map, sizeLine_eq]; omega) (by show ((ks.map Value.ref).toArray.push _).size ≤ _; simp [sizeLine_eq]; omega))
    have S6 := S5.setL (ys := (ks ++ [k]).map Value.ref) hl5 (·.push (.ref k)) (by simp) (.tail .head) s''.toks
    refine wpAny_pure ⟨rfl, ks ++ [k], by simp [hks], S6.perm ?_⟩
    rw [Nat.zero_add, List.take_add_one, List.getElem?_eq_getElem hj]
    show List.Perm ((k, IsTxts (kp ss[j])) :: (kS, _) :: (l, _) :: (kLed kp ks (ss.take j) ++ N)) ((kS, _) :: (l, _) :: (kLed kp (ks ++ [k]) (ss.take j ++ [ss[j]]) ++ N))
    rw [kLed_snoc kp k _ ks (ss.take j) (by rw [hks, List.length_take]; omega), List.append_assoc]
    exact (List.Perm.swap ..).trans (((List.Perm.swap ..).trans (List.perm_middle.symm.cons _)).cons _)
  · obtain ⟨ks, hks, S4⟩ := hI
    rw [Nat.zero_add] at hks
    have etk : ss.take (0 + vs.length) = ss := List.take_of_length_le (by omega)
    rw [etk] at S4
    obtain ⟨n4, hl4⟩ := S4.isL (.head _)
    refine wpAny_bind (listItems_at hl4 rfl ?_)
    unfold ksk_end
    simp only [Bool.false_eq_true, if_false]
    have hz : ((ks.map Value.ref).toArray.zip vs.toArray).size = vs.length := by simp [hks]
    -- what is behind the runs
    have hend : ∀ (st : SortSt) (p : List Nat) (s' : Shared), p.Perm (List.range vs.length) → arrOf st = (p.map (kas_item ((ks.map Value.ref).toArray.zip vs.toArray))).toArray → failedOf st = none →
        Sta W G env loc ((kS, IsLst (ks.map .ref)) :: (l, IsObj (seqObj "list" #[] e1)) :: (kLed kp ks ss ++ N)) s' →
        wpAny (model W.prog W.w) A.in1 (ksk_tail l false e1 (.ref kS) st) (fun fin s'' => ∃ v, fin = .done (.ret v) ∧ Q v s'') E s' := by
      intro st p s' hp harr hf S5
      unfold ksk_tail
      dsimp only
      obtain ⟨n5, hl5⟩ := S5.isL (.head _)
      refine wpAny_bind (listUpdate_at hl5 rfl ?_ (by rw [List.size_toArray, List.length_map, sizeLine_eq]; omega) (Nat.zero_le _))
      have S6 := S5.setL (ys := []) hl5 (fun _ => #[]) rfl .head s'.toks
      refine wpAny_bind (wpAny_letGo ?_)
      obtain ⟨o6, ho6, e6⟩ := S6.get (a := l) (.tail _ (.head _))
      have e6 : o6 = seqObj "list" #[] e1 := e6
      subst e6
      refine wpAny_bind (seqEpoch_at ho6 rfl ?_)
      have hsz : (arrOf st).size = vs.length := by rw [harr]; simp [hp.length_eq]
      refine wpAny_bind (listUpdate_at ho6 rfl ?_ (Nat.zero_le _) (by show ((arrOf st).map _).size ≤ _; rw [Array.size_map, hsz, sizeLine_eq]; omega))
      have hvs : (arrOf st).map (·.2) = (p.map fun i => vs.getD i .none).toArray := by
        rw [harr]
        simp only [List.map_toArray, List.map_map]
        congr 1
        refine List.map_congr_left fun i hi => ?_
        have hi2 : i < vs.length := by have := hp.mem_iff.mp hi; simpa using this
        show (kas_item _ i).2 = _
        unfold kas_item
        have h1 : i < ((ks.map Value.ref).toArray.zip vs.toArray).size := by rw [hz]; exact hi2
        simp [Array.getD, h1, hi2, hks]
      simp only [Bool.false_eq_true, if_false]
      have S7 : Sta W G env loc ((l, IsLst (p.map fun i => vs.getD i .none)) :: N) { s' with heap := (s'.heap.update kS (Obj.mapSeq fun _ => #[])).update l (Obj.mapSeq fun _ => (arrOf st).map (·.2)) } := by
        have S6' := S6.tell (nw' := (kS, IsLst []) :: (l, IsLst []) :: (kLed kp ks ss ++ N)) (.tail .head) fun o ho e => ⟨e1, e⟩
        obtain ⟨n6, hl6⟩ := S6'.isL (a := l) (.tail _ (.head _))
        have S7 := S6'.setL (ys := p.map fun i => vs.getD i .none) hl6 (fun _ => (arrOf st).map (·.2)) hvs (.tail .head) s'.toks
        exact S7.sub (List.Sublist.cons _ ((List.sublist_append_right _ _).cons_cons _))
      rw [hf]
      simp only [bne_self_eq_false, Bool.false_eq_true, if_false]
      have hpl : ∀ i ∈ p, i < ss.length := fun i hi => by have := hp.mem_iff.mp hi; rw [← hlen]; simpa using this
      refine wpAny_pure ⟨_, rfl, h (p.map fun i => ss.getD i Str.empty) _ ?_ (S7.tell .head fun o ho e => ⟨_, ht.pick p hpl, e⟩)⟩
      have q : List.Perm (p.map fun i => ss.getD i Str.empty) ((List.range vs.length).map fun i => ss.getD i Str.empty) := hp.map _
      rw [hlen, getD_range_perm] at q
      exact q
    by_cases h2 : vs.toArray.size < 2
    · rw [if_pos h2, if_pos h2]
      refine wpAny_bind (wpAny_pure ?_)
      rw [StateT.run_pure]
      refine wpAny_bind (wpAny_pure ?_)
      refine hend _ (List.range vs.length) s' (.refl _) ?_ rfl S4
      have e := kas_range ((ks.map Value.ref).toArray.zip vs.toArray)
      rw [hz, List.map_toArray] at e
      exact e.symm
    · rw [if_neg h2, if_neg h2]
      rw [List.size_toArray] at h2
      refine wpAny_bind (kas_kind (T := .type "list") (by rw [List.length_map]; omega) (fun v hv => ?_) (by decide) (by decide) ?_)
      · obtain ⟨k, hk, rfl⟩ := List.mem_map.mp hv
        obtain ⟨i, hi, rfl⟩ := List.getElem_of_mem hk
        have hm : (ks[i], IsTxts (kp (ss[i]'(by omega)))) ∈ (kS, IsLst (ks.map .ref)) :: (l, IsObj (seqObj "list" #[] e1)) :: (kLed kp ks ss ++ N) := .tail _ (.tail _ (List.mem_append_left _ (kLed_mem kp ks ss i hi (by omega))))
        obtain ⟨o, ho, vk, htk, nk, rfl⟩ := S4.get hm
        exact (Looks.ld ho).andThen .now
      have est : SortSt.mk' oneType' ((ks.map Value.ref).toArray.zip vs.toArray) #[] 7 none = kas_st oneType' ((ks.map Value.ref).toArray.zip vs.toArray) (List.toArray (List.range vs.length)) := by
        have e := kas_range ((ks.map Value.ref).toArray.zip vs.toArray)
        rw [hz] at e
        show _ = SortSt.mk' oneType' ((List.toArray (List.range vs.length)).map (kas_item ((ks.map Value.ref).toArray.zip vs.toArray))) #[] 7 none
        rw [e]
      rw [est]
      have ask : (kas_sort vs.length).kasWp (kas_cmp W.prog W.w A.in1 oneType' ((ks.map Value.ref).toArray.zip vs.toArray)) (fun p s'' => Ok vs.length p ∧ s'' = s') s' := by
        refine KAll.wp (n := vs.length) (fun i j hi hj => ?_) (fun p hp => ⟨hp, rfl⟩) (ka_sort (by omega))
        have mem : ∀ i, i < vs.length → ∃ k x vk nk, kas_item ((ks.map Value.ref).toArray.zip vs.toArray) i = (.ref k, vs.getD i .none) ∧ TxtsAre vk (kp x) ∧ s'.heap.get? k = some { cls := .type "list", data := .seq vk.toArray nk } := by
          intro i hi
          have hm : (ks[i], IsTxts (kp (ss[i]'(by omega)))) ∈ (kS, IsLst (ks.map .ref)) :: (l, IsObj (seqObj "list" #[] e1)) :: (kLed kp ks ss ++ N) := .tail _ (.tail _ (List.mem_append_left _ (kLed_mem kp ks ss i (by omega) (by omega))))
          obtain ⟨o, ho, vk, htk, nk, rfl⟩ := S4.get hm
          refine ⟨ks[i], _, vk, nk, ?_, htk, ho⟩
          unfold kas_item
          have h1 : i < ((ks.map Value.ref).toArray.zip vs.toArray).size := by rw [hz]; exact hi
          simp [Array.getD, h1, hi, hks]
        obtain ⟨k1, x1, v1, n1, q1, t1, o1⟩ := mem i hi
        obtain ⟨k2, x2, v2, n2, q2, t2, o2⟩ := mem j hj
        refine ⟨ltLs (kp x1) (kp x2), fun C hC => ?_⟩
        unfold kas_cmp
        rw [q1, q2]
        exact key_lt (by show A.units + 1 < cLine; exact hu) t1 t2 o1 o2 hC
      have run := kas_runs (E := E) (Q := fun _ st' s'' => ∃ p : Array Nat, Ok vs.length p ∧ arrOf st' = p.map (kas_item ((ks.map Value.ref).toArray.zip vs.toArray)) ∧ failedOf st' = none ∧ s'' = s') (by omega) (by omega) (fun p' st' s'' a1 a2 a3 a4 => ⟨p', a4.1, a2, a3, a4.2⟩) ask
      refine wpAny_bind (wpAny_mono run ?_ fun _ _ e => e)
      rintro ⟨⟨⟩, st'⟩ s'' ⟨p, hp, har, hf, rfl⟩
      refine hend st' p.toList s'' hp ?_ hf S4
      rw [har]
      apply Array.ext'
      simp
end
end Mine
end
section
open PySem PySem.W PyProof.Rows PySem.W.X PySem.SeqAt
set_option maxRecDepth 100000
set_option linter.unusedVariables false
namespace Mine
noncomputable def IsMeth (f : Addr) (self : Value) : Cell := fun o => o = methodObj (.ref f) self
theorem txtsAre_values : ∀ l : List (Str × Tok), TxtsAre (strValues l) (l.map (·.1))
  | [] => .nil
  | (x, t) :: r => .cons x t (txtsAre_values r)
section
variable {W : Wd} {G : Gens} {env : Env} {loc loc' : Loc} {nw nw' N : Ledger} {s : Shared} {A : Around} {E : Value → Shared → Prop}
open PySem.Builtin.Str in
/-- x.split(y, k) -/
theorem Sta.splitMax {x y : Str} {k : Int} {t u v : Tok} {Q : Value → Shared → Prop} (S : Sta W G env loc nw s) (hy : (y.length == 0) = false) (hk : (decide (k < -(2 ^ 63 : Int)) || decide (k ≥ 2 ^ 63)) = false) (hsz : x.length ≤ 1000000)
    (h : ∀ a s', Sta W G env loc ((a, IsTxts (Txt.splitMax x y k)) :: nw) s' → Q (.ref a) s') : wpAny (model W.prog W.w) A (call (.builtin "str.split") [.str x t, .str y u, .int k v]) Q E s := by
  have hn : (partsBetween x (occurrences x y 0 x.length (limitOf x k)) y.length).length ≤ sizeLine := by
    have e1 := StrLaws.occ_length_le_len x y 0 x.length (limitOf x k)
    rw [length_partsBetween, sizeLine_eq]; omega
  have h' : ∀ (l : List (Str × Tok)) tk, l.map (·.1) = Txt.splitMax x y k → Q (.ref s.heap.objs.size) { s with heap := s.heap.push { cls := .type "list", data := .seq (strValues l).toArray }, toks := tk } := fun l tk e =>
    h _ _ (S.new (c := IsTxts (Txt.splitMax x y k)) rfl ⟨strValues l, by rw [← e]; exact txtsAre_values l, 0, rfl⟩ tk)
  cases h1 : (decide (x.length < y.length) || decide (strKind x < strKind y))
  · cases hf : (occurrences x y 0 x.length (limitOf x k)).isEmpty
    · refine call_meets F.slot_str_split (typeIs_str _ _ _) F.entry_str_split (F.args_str_split_3 _ _ _) (meets_str_split_sep_max x y k t u v hk h1 hy hf (by rw [sizeLine_eq]; omega) hn) ?_
      show wants Q E _ { s with toks := _, heap := s.heap.push { cls := .type "list", data := .seq (strsFrom s.toks (partsBetween x (occurrences x y 0 x.length (limitOf x k)) y.length)).toArray } }
      rw [strsFrom_eq]
      exact h' (numbered s.toks _) _ ((numbered_texts _ _).trans ((if_neg (ne_true_of_eq_false h1)).trans (if_neg (ne_true_of_eq_false hf))).symm)
    · exact call_meets F.slot_str_split (typeIs_str _ _ _) F.entry_str_split (F.args_str_split_3 _ _ _) (meets_str_split_max_not_found x y k t u v hk h1 hy hf) (h' [(x, t)] s.toks ((if_neg (ne_true_of_eq_false h1)).trans (if_pos hf)).symm)
  · exact call_meets F.slot_str_split (typeIs_str _ _ _) F.entry_str_split (F.args_str_split_3 _ _ _) (meets_str_split_max_cannot_occur x y k t u v hk h1) (h' [(x, t)] s.toks (if_pos h1).symm)
/-- sorted(set, key=f) -/
theorem Sta.sortedSet {a f : Addr} {ss : List Str} {kp : Str → List Str} {Q : Value → Shared → Prop} (S : Sta W G env loc ((a, IsSL W ss) :: N) s) (hA : Aok 12 A) (h64 : ss.length < 64)
    (hkey : ∀ x t L0 s (Q' : Value → Shared → Prop), x ∈ ss → Sta W G env loc (L0 ++ ((a, IsSL W ss) :: N)) s → (∀ k s', Sta W G env loc ((k, IsTxts (kp x)) :: (L0 ++ ((a, IsSL W ss) :: N))) s' → Q' (.ref k) s') → wpAny (model W.prog W.w) A.in1.in1 (call (.ref f) [.str x t]) Q' (fun _ _ => False) s)
    (h : ∀ l ss' s', ss'.Perm ss → Sta W G env loc ((l, IsTxts ss') :: (a, IsSL W ss) :: N) s' → Q (.ref l) s') :
    wpAny (model W.prog W.w) A (call (.builtin "sorted") [.ref a] [(Str.ofString "key", .ref f)]) Q E s := by
  refine call_function_entry_kw kind_sorted plain_sorted entry_sorted (ksk_s1 _ _) ?_
  unfold Builtin.«sorted»
  refine wpAny_bind (m := checkCount "sorted" 1 1 _) (wpAny_pure ?_)
  have hA1 : Aok 11 A.in1 := hA.in1
  refine wpAny_bind (S.collectSet (hA1.le (by omega)) (by omega) fun vs ss' s1 ht hp S1 => ?_)
  refine wpAny_bind (S1.newList (by rw [ht.length, hp.length_eq, sizeLine_eq]; omega) fun l s2 S2 => ?_)
  refine wpAny_bind (wpAny_holding ?_)
  refine S2.sortKey (kp := kp) ht (by have := hA1.units; omega) (by rw [hp.length_eq]; exact h64) (fun x t L0 s3 Q' hx S3 k => hkey x t L0 s3 Q' (hp.mem_iff.mp hx) S3 k) fun ss2 s3 hp2 S3 => ?_
  exact wpAny_pure ⟨_, rfl, h l ss2 s3 (hp2.trans hp) S3⟩
/-- a method of an instance read as a value -/
theorem Sta.getBound {name : Str} {C x d f : Addr} {names : List Str} {vals : Loc} {expr : Bool} {Q : Value → Shared → Prop} (S : Sta W G env loc nw s) (c : Cl W.K C names) (mx : (x, IsInst C d) ∈ nw) (md : (d, IsAttrs vals) ∈ nw) (hk : vals.map Prod.fst = names) (hn : name ∉ names)
    (hf : findIn W.K (.ref C) name = some (some (.ref f))) (ht : typeIn W.K (.ref f) = some (.type "function")) (hg : specialIn W.K (.ref f) "__get__" = some (some (.builtin "function.__get__"))) (htk : takesIn W.K (.ref f) = some false) (hcp : copiedNames.contains name = false)
    (h : ∀ q s', Sta W G env loc ((q, IsMeth f (.ref x)) :: nw) s' → Q (.ref q) s') : wpAny (model W.prog W.w) A (getAttr (.ref x) name expr) Q E s := by
  obtain ⟨od, I, nd, _, es, ep, hd, hsk, hl, _⟩ := S.inst mx md
  have hno : lk vals name = none := by
    unfold lk
    rw [List.lookup_eq_none_iff.mpr]
    · rfl
    · intro p hp
      rw [bne_iff_ne]
      exact fun e => hn (by rw [← hk, e]; exact List.mem_map.mpr ⟨p, hp, rfl⟩)
  refine get_bind S.kin I c.ga (findObj_fn c.dict hf hg htk hcp (by rw [lookIn_of hd hsk ((hl name).trans hno)])) c.gh ?_
  refine wpAny_call (fn_get (s := { s with toks := s.toks + 1 }) S.kin ht (handed_on rfl ?_))
  exact h _ _ (S.new (c := IsMeth f (.ref x)) rfl rfl _)
theorem Sta.callMeth {q f : Addr} {self : Value} {pos : List Value} {kw : List (Str × Value)} {Q : Value → Shared → Prop} (S : Sta W G env loc nw s) (m : (q, IsMeth f self) ∈ nw)
    (h : codeAny (model W.prog W.w) A (.call (.ref f) ⟨self :: pos, kw⟩) (fun r s' => match r with | .ok (.ret v) => Q v s' | .ok _ => False | .error e => E e s') s) : wpAny (model W.prog W.w) A (call (.ref q) pos kw) Q E s := by
  obtain ⟨o, ho, rfl⟩ := S.get m
  exact wpAny_call (method_call ho h)
theorem callM_1 {pos : Pos} {q f : Addr} {self : Value} {e : Expr} {rest : List Expr} {Q : Value → Shared → Prop} (hf : fnIn W.K f = true)
    (h : wpAny (model W.prog W.w) A (spliced (backTo pos (starEach (e :: rest) env))) (fun vs s₁ => MethP W.K q f self s₁.heap ∧ wpAny (model W.prog W.w) A (call (.ref q) vs) Q E s₁) E s)
    (he : starEach (e :: rest) env = (false, eval e env) :: starEach rest env) (hplain : (backTo pos (starEach rest env)).any (·.1) = false) :
    wpAny (model W.prog W.w) A (callWith pos (.ref q) [] (backTo pos (starEach (e :: rest) env)) []) Q E s := by
  rw [he] at h ⊢
  exact callWith_of (P := fun h => MethP W.K q f self h) (first := []) (by show (false || (backTo pos (starEach rest env)).any (·.1) || false) = false; rw [hplain]; rfl) (keeps_M hf) (Calls.evalArgs_plain h)
theorem Sta.methP {q f : Addr} {self : Value} (S : Sta W G env loc nw s) (m : (q, IsMeth f self) ∈ nw) : MethP W.K q f self s.heap := by
  obtain ⟨o, ho, rfl⟩ := S.get m
  exact ⟨ho, S.kin⟩
end
end Mine
end
section
open PySem PySem.W PyProof.Rows PySem.W.X PySem.SeqAt
set_option maxRecDepth 100000
set_option linter.unusedVariables false
namespace Mine
/-- what an f-string does behind one of its parts -/
noncomputable def JP (M : Model) (A : Around) (E : Value → Shared → Prop) (out : Str) (rest : List (Sem Value)) (Q : Value → Shared → Prop) : Value → Shared → Prop := fun v s => ∃ y t, v = .str y t ∧ (out ++ y).length ≤ sizeLine ∧ wpAny M A (joinParts (out ++ y) rest) Q E s
section
variable {M : Model} {A : Around} {E : Value → Shared → Prop} {s : Shared} {env : Env}
theorem JP.mk {out y : Str} {t : Tok} {rest : List (Sem Value)} {Q : Value → Shared → Prop} (hz : (out ++ y).length ≤ sizeLine) (h : wpAny M A (joinParts (out ++ y) rest) Q E s) : JP M A E out rest Q (.str y t) s := ⟨y, t, rfl, hz, h⟩
theorem joinP {out : Str} {v : Expr} {rest : List Expr} {Q : Value → Shared → Prop} (h : wpAny M A (eval v env) (JP M A E out (evalEach rest env) Q) E s) : wpAny M A (joinParts out (evalEach (v :: rest) env)) Q E s := by
  refine joinParts_cons (x := eval v env) (rest := evalEach rest env) (wpAny_mono h (fun v s₁ h₁ => ?_) fun _ _ e => e)
  obtain ⟨y, t, rfl, hz, h₁⟩ := h₁
  exact ⟨hz, h₁⟩
theorem joined {v₁ v₂ : Expr} {rest : List Expr} {pos : Pos} {Q : Value → Shared → Prop} (h : wpAny M A (joinParts Str.empty (evalEach (v₁ :: v₂ :: rest) env)) Q E s) : wpAny M A (eval (.JoinedStr (v₁ :: v₂ :: rest) pos) env) Q E s := h
end
section
variable {W : Wd} {G : Gens} {env : Env} {loc loc' : Loc} {nw nw' N : Ledger} {s : Shared} {A : Around} {E : Value → Shared → Prop}
theorem Sta.joinEnd {M : Model} {out : Str} {Q : Value → Shared → Prop} (S : Sta W G env loc nw s) (hz : out.length ≤ sizeLine) (h : ∀ t s', Sta W G env loc nw s' → Q (.str out t) s') : wpAny M A (joinParts out (evalEach [] env)) Q E s :=
  joinParts_nil (h _ _ (S.toks _)) hz
theorem Sta.fmtS {M : Model} {x : Str} {t : Tok} {Q : Value → Shared → Prop} (S : Sta W G env loc nw s) (hz : x.length ≤ sizeLine) (h : ∀ t' s', Sta W G env loc nw s' → Q (.str x t') s') : wpAny M A (formatField (.str x t) Str.empty) Q E s :=
  formatField_str (fun t' tk => h t' _ (S.toks tk)) hz
/-- dicts -/
theorem Sta.truthyD {d : Addr} {kvs : List (Str × Value)} {Q : Bool → Shared → Prop} (S : Sta W G env loc nw s) (m : (d, IsD W d kvs) ∈ nw) (hz : kvs.length ≤ 1000000) (h : ∀ s', Sta W G env loc nw s' → Q (!kvs.isEmpty) s') : wpAny (model W.prog W.w) A (truthy (.ref d)) Q E s := by
  obtain ⟨hd, hn⟩ := S.dictAt m
  exact wpAny_truthy_dict hn hd (by omega) (h _ (S.toks _))
theorem Sta.getM_D {name : Str} {d : Addr} {kvs : List (Str × Value)} {Q : Value × List Value → Shared → Prop} {id : String} (S : Sta W G env loc nw s) (m : (d, IsD W d kvs) ∈ nw) (slot : Slot "dict" name id) (hty : typeOf (.builtin id) = pure (.type "method_descriptor")) (h : Q (.builtin id, [.ref d]) s) :
    GetM (model W.prog W.w) A E name (.ref d) Q s := by
  obtain ⟨hd, hn⟩ := S.dictAt m
  exact getM_builtin F.plainAttrs_dict slot hty hd.typeIs hd.mapOf.noDict h
theorem Sta.dictGet {d : Addr} {kvs : List (Str × Value)} {x : Str} {t : Tok} {Q : Value → Shared → Prop} (S : Sta W G env loc nw s) (m : (d, IsD W d kvs) ∈ nw) (h : ∀ s', Sta W G env loc nw s' → Q ((valueAt kvs x).getD .none) s') : wpAny (model W.prog W.w) A (call (.builtin "dict.get") [.ref d, .str x t]) Q E s := by
  obtain ⟨hd, hn⟩ := S.dictAt m
  exact call_meetsIn F.slot_dict_get hd.typeIs F.entry_dict_get (F.args_dict_get_2 _ _) (meets_dict_get (PySem.strKind W.prog W.w) d (strKind_is _ _ x t) hn) ⟨_, hd.mapOf, h _ (S.toks _)⟩
theorem Sta.subD {d : Addr} {kvs : List (Str × Value)} {x : Str} {t : Tok} {v : Value} {Q : Value → Shared → Prop} (S : Sta W G env loc nw s) (m : (d, IsD W d kvs) ∈ nw) (hv : valueAt kvs x = some v) (h : ∀ s', Sta W G env loc nw s' → Q v s') : SubscriptOn (model W.prog W.w) A (.ref d) (.str x t) Q E s := by
  obtain ⟨hd, hn⟩ := S.dictAt m
  exact ⟨"dict", _, slot_dict_getitem.lookup, hd.typeIs, wpAny_getItem_of (strKind_is _ _ x t) hd.mapOf hv (h _ (S.toks _))⟩
theorem Sta.notInD {d : Addr} {kvs : List (Str × Value)} {x : Str} {t : Tok} {Q : Value → Shared → Prop} (S : Sta W G env loc nw s) (m : (d, IsD W d kvs) ∈ nw) (h : ∀ s', Sta W G env loc nw s' → Q (.bool (!(valueAt kvs x).isSome)) s') : wpAny (model W.prog W.w) A (compareOp .NotIn (.str x t) (.ref d)) Q E s := by
  obtain ⟨hd, hn⟩ := S.dictAt m
  exact wpAny_notIn_of (strKind_is _ _ x t) hn hd.mapOf (h _ (S.toks _))
theorem Sta.itemsD {d : Addr} {kvs : List (Str × Value)} {Q : Value → Shared → Prop} (S : Sta W G env loc nw s) (m : (d, IsD W d kvs) ∈ nw) (h : ∀ r s', Sta W G env loc ((r, IsView d) :: nw) s' → Q (.ref r) s') : wpAny (model W.prog W.w) A (call (.builtin "dict.items") [.ref d]) Q E s := by
  obtain ⟨hd, hn⟩ := S.dictAt m
  exact call_meetsIn PySem.F.slot_dict_items hd.typeIs PySem.F.entry_dict_items (PySem.F.args_dict_items_1 _) (meets_dict_items (PySem.strKind W.prog W.w) d hn) ⟨⟨kvs, hd⟩, h _ _ (S.new (c := IsView d) rfl rfl s.toks)⟩
theorem list_sort_one {a : Addr} {v : Value} {n : Nat} {P : PySem.Fin → Shared → Prop} {M : Model} (ho : s.heap.get? a = some (seqObj "list" #[v] n)) (h : ∀ h', (∀ b o, b ≠ a → s.heap.get? b = some o → h'.get? b = some o) → (∃ e, h'.get? a = some (seqObj "list" #[v] e)) → P (.done (.ret .none)) { s with heap := h' }) :
    wpAny M A (Builtin.«list.sort» ⟨[.ref a], []⟩) P E s := by
  have s1 := Heap.SameBut.update s.heap a (Obj.mapSeq fun _ => (#[] : Array Value))
  obtain ⟨e1, ho1⟩ : ∃ e1, (s.heap.update a (Obj.mapSeq fun _ => (#[] : Array Value))).get? a = some (seqObj "list" #[] e1) := ⟨_, get?_update_seq ho fun _ => #[]⟩
  rw [list_sort_plain]
  refine wpAny_bind (listItems_at ho rfl ?_)
  refine wpAny_bind (listUpdate_at ho rfl ?_ (by rw [sizeLine_eq]; simp) (Nat.zero_le _))
  refine wpAny_bind (seqEpoch_at ho1 rfl ?_)
  refine wpAny_bind (wpAny_newTuple ?_ (by simp [sizeLine_eq]))
  refine wpAny_bind (wpAny_newList ?_ (Nat.zero_le _))
  refine wpAny_holding ?_
  have h2 : (#[v] : Array Value).size < 2 := by simp
  rw [if_pos h2, if_pos h2]
  refine wpAny_bind (wpAny_pure ?_)
  dsimp only
  rw [StateT.run_pure]
  refine wpAny_bind (wpAny_pure ?_)
  dsimp only
  have ho3 : (((s.heap.update a (Obj.mapSeq fun _ => (#[] : Array Value))).push (seqObj "tuple" (#[v] : Array Value).toList.toArray 0)).push (seqObj "list" #[] 0)).get? a = some (seqObj "list" #[] e1) := Heap.get?_push_of_some _ (Heap.get?_push_of_some _ ho1)
  have hvs : Array.map (fun x : Keyed => x.snd) (arrOf (SortSt.mk' general' (#[v].zip #[v]) #[] 7 none)) = #[v] := by
    show Array.map (fun x : Keyed => x.snd) (#[v].zip #[v]) = #[v]
    simp
  refine wpAny_bind (seqEpoch_at ho3 rfl ?_)
  refine wpAny_bind (listUpdate_at ho3 rfl ?_ (Nat.zero_le _) (by
    show (Array.map (fun x : Keyed => x.snd) (arrOf (SortSt.mk' general' (#[v].zip #[v]) #[] 7 none))).size ≤ _
    rw [hvs, sizeLine_eq]; exact Nat.le_of_ble_eq_true rfl))
  rw [hvs]
  simp only [bne_self_eq_false, Bool.false_eq_true, if_false]
  obtain ⟨c2, hc2⟩ : ∃ c2, ((((s.heap.update a (Obj.mapSeq fun _ => (#[] : Array Value))).push (seqObj "tuple" (#[v] : Array Value).toList.toArray 0)).push (seqObj "list" #[] 0)).update a (Obj.mapSeq fun _ => #[v])).get? a = some (seqObj "list" #[v] c2) := ⟨_, get?_update_seq ho3 fun _ => #[v]⟩
  refine wpAny_pure (h _ (fun b o hb e => ?_) ⟨c2, hc2⟩)
  exact ((Heap.SameBut.update _ a _).2 b hb).trans (Heap.get?_push_of_some _ (Heap.get?_push_of_some _ ((s1.2 b hb).trans e)))
/-- sorted(d.items()) of a dict of one key -/
theorem Sta.sortedItem {r d : Addr} {x : Str} {v : Value} {Q : Value → Shared → Prop} (S : Sta W G env loc nw s) (hh : A.handled = none) (mv : (r, IsView d) ∈ nw) (md : (d, IsD W d [(x, v)]) ∈ nw)
    (h : ∀ l a t s', Sta W G env loc ((l, IsLst [.ref a]) :: (a, IsTpl [.str x t, v]) :: nw) s' → Q (.ref l) s') : wpAny (model W.prog W.w) A (call (.builtin "sorted") [.ref r]) Q E s := by
  obtain ⟨o, ho, rfl⟩ := S.get mv
  obtain ⟨hd, hn⟩ := S.dictAt md
  obtain ⟨ep, hat⟩ := hd.dictAt
  refine Calls.call_function_entry kind_sorted plain_sorted entry_sorted (args_sorted1 _) ?_
  unfold Builtin.«sorted»
  refine wpAny_bind (m := checkCount "sorted" 1 1 _) (wpAny_pure ?_)
  refine wpAny_bind (kdx_collect (A := A.in1) (knd := PySem.strKind W.prog W.w) (kvs := [(x, v)]) (ep := ep) hh ⟨_, ho, rfl, rfl⟩ hat (by simp [sizeLine_eq]) fun h' tk as hk hl hG => ?_)
  obtain ⟨a, rfl⟩ : ∃ a, as = [a] := by
    match as, hl with
    | [a], _ => exact ⟨a, rfl⟩
  obtain ⟨key, k, x', e1, e2, e3⟩ := hG.pairs 0 a rfl
  have e1' : (x, v) = (k, x') := by simpa using e1
  cases e1'
  obtain ⟨t, rfl⟩ : ∃ t, key = .str x t := by
    cases key with
    | str y t => exact ⟨t, by rw [isKey e2]⟩
    | _ => first | cases e2 | exact absurd e2 (by simp [PySem.strKind, Value.isStrOf])
  have hlo := hG.above a (.head _)
  have S1 : Sta W G env loc ((a, IsTpl [.str x t, v]) :: nw) { s with heap := h', toks := tk } := by
    refine ⟨S.ok, S.eok, ?_, S.bare, S.os, S.gens, S.gnd⟩
    refine (S.led.cons_new (c := IsTpl [.str x t, v]) hk (fun q => ?_) ?_ e3 ⟨0, rfl⟩).perm (List.Perm.swap ..)
    · obtain ⟨p, hp, e⟩ := List.mem_map.mp q
      obtain ⟨o2, ho2, _⟩ := (S.led.own p hp).2
      have := Heap.lt_size ho2
      rw [e] at this
      exact absurd hlo (Nat.not_lt.mpr (Nat.le_of_lt this))
    · cases q : W.B.get? a with
      | none => rfl
      | some o2 => exact absurd hlo (Nat.not_lt.mpr (Nat.le_of_lt (Heap.lt_size (S.led.keep _ _ q))))
  refine wpAny_bind (S1.newList (by simp [sizeLine_eq]) fun l s2 S2 => ?_)
  obtain ⟨n2, hl2⟩ := S2.isL (.head _)
  refine wpAny_bind (wpAny_holding (wpAny_call_entry slot_list_sort ⟨_, hl2, rfl⟩ entry_list_sort (list_sort_one (n := n2) hl2 fun h2 hs he => ⟨_, rfl, ?_⟩) (args_list_sort _)))
  obtain ⟨e, he⟩ := he
  exact wpAny_pure ⟨_, rfl, h l a t _ (S2.set (c' := IsLst [.ref a]) .head hs he ⟨e, rfl⟩ s2.toks)⟩
end
end Mine
end
section
open PySem PySem.W PyProof.Rows PySem.W.X PySem.SeqAt
set_option maxRecDepth 100000
set_option linter.unusedVariables false
namespace Mine
theorem compTurn_dict1 (kx vx target iter : Expr) (scope : Scope) (pos : Pos) (it : Value) (D : Addr) (env : Env) :
    compTurn (.DictComp kx vx [⟨target, iter, [], 0⟩] scope pos) 0 it (.ref D) env = (standAt iter.pos >>= fun _ => pyNext it >>= fun r => match r with
      | none => pure (.done .next)
      | some v => letOwnedTupleGo target it v >>= fun _ => assign target env v >>= fun _ =>
        (eval kx env >>= fun kv => holding [kv] (eval vx env) >>= fun vv => standAt { kx.pos with endLine := vx.pos.endLine, endCol := vx.pos.endCol } >>= fun _ => holding [kv, vv] (dictSet D kv vv)) >>= fun _ =>
          again (.compLoop (.DictComp kx vx [⟨target, iter, [], 0⟩] scope pos) 0 it (.ref D) env)) := by rfl
theorem Call_kw {M : Model} {A : Around} {E : Value → Shared → Prop} {s : Shared} {env : Env} {func : Expr} {args : List Expr} {kws : List Keyword} {pos : Pos} {Q : Value → Shared → Prop}
    (h : wpAny M A (eval func env) (fun f s₁ => wpAny M A (callWith pos f [] (backTo pos (starEach args env)) (backToKw pos (keywordEach kws env))) Q E s₁) E s)
    (he : eval (.Call func args kws pos) env = (do callWith pos (← eval func env) [] (backTo pos (starEach args env)) (backToKw pos (keywordEach kws env)))) :
    wpAny M A (eval (.Call func args kws pos) env) Q E s := by
  rw [he]; exact wpAny_bind h
section
variable {W : Wd} {G : Gens} {env : Env} {loc loc' : Loc} {nw nw' N : Ledger} {s : Shared} {A : Around} {E : Value → Shared → Prop}
theorem Sta.neg {a : Int} {t : Tok} {Q : Value → Shared → Prop} (S : Sta W G env loc nw s) (h : ∀ t s', Sta W G env loc nw s' → Q (.int (-a) t) s') : wpAny (model W.prog W.w) A (unaryOp .USub (.int a t)) Q E s :=
  PyProof.Rows.neg_int (h _ _ (S.toks _))
theorem Sta.addS {x y : Str} {t u : Tok} {Q : Value → Shared → Prop} (S : Sta W G env loc nw s) (hz : x.length + y.length ≤ sizeLine) (h : ∀ t s', Sta W G env loc nw s' → Q (.str (x ++ y) t) s') : wpAny (model W.prog W.w) A (binaryOp .Add (.str x t) (.str y u)) Q E s :=
  PyProof.Rows.add_str (fun t' tk => h t' _ (S.toks tk)) hz
theorem Sta.sub_last {l : Addr} {xs : List Value} {t : Tok} {v : Value} {Q : Value → Shared → Prop} (S : Sta W G env loc nw s) (m : (l, IsLst xs) ∈ nw) (hx : xs.getLast? = some v) (h : Q v s) :
    SubscriptOn (model W.prog W.w) A (.ref l) (.int (-1) t) Q E s := by
  have hne : xs ≠ [] := fun e => by subst e; simp at hx
  have hlen : 0 < xs.length := List.length_pos_iff.mpr hne
  refine ⟨"list", _, F.slot_list_getitem.lookup, (S.isList m).typeIs, wpAny_getItem_list_neg (S.isList m) (by omega) (by simp; omega) (by omega) ?_ h⟩
  rw [List.size_toArray]
  have e : ((-1 : Int) + (xs.length : Int)).toNat = xs.length - 1 := by omega
  rw [e, List.getElem?_toArray, ← List.getLast?_eq_getElem?]
  exact hx
theorem Sta.sub_tuple {l : Addr} {xs : List Value} {k : Int} {t : Tok} {j : Nat} {v : Value} {Q : Value → Shared → Prop} (S : Sta W G env loc nw s) (m : (l, IsTpl xs) ∈ nw) (hk : k = (j : Int)) (hj : j < 1000000) (hx : xs[j]? = some v) (h : Q v s) :
    SubscriptOn (model W.prog W.w) A (.ref l) (.int k t) Q E s := by
  subst hk
  have hlt : j < xs.length := (List.getElem?_eq_some_iff.mp hx).1
  refine ⟨"tuple", _, F.slot_tuple_getitem.lookup, (S.isTup m).typeIs, PyProof.Rows.getItem_tuple (j := j) (S.isTup m) (by omega) (by omega) ?_ (by simpa using hx) h⟩
  unfold seqIndex?
  rw [List.size_toArray]
  simp
  omega
/-- a list of texts, walked -/
theorem Sta.iterT {l : Addr} {ss : List Str} {Q : Value → Shared → Prop} (S : Sta W G env loc nw s) {N : Ledger} (P : Pull (l, IsTxts ss) nw N) (h : ∀ it vs s', TxtsAre vs ss → Sta W G env loc ((it, IsLI l 0) :: (l, IsLst vs) :: N) s' → Q (.ref it) s') :
    wpAny (model W.prog W.w) A (pyIter (.ref l)) Q E s := by
  have S1 := S.perm P.perm
  obtain ⟨vs, nw1, ht, U1, U2, S2⟩ := S1.openT (c' := IsTxts ss) .head
  cases U1 with
  | head => exact S2.iterL (.head _) fun it s' S' => h it vs s' ht S'
  | tail U => exact absurd S1.led.nodup (by
      have m := U.mem
      simp only [List.map_cons, List.nodup_cons]
      exact fun q => q.2.1 (List.mem_map.mpr ⟨_, m, rfl⟩))
theorem stored_new {kvs : List (Str × Value)} {x : Str} {v : Value} (h : x ∉ kvs.map (·.1)) : stored kvs x v = kvs ++ [(x, v)] := by
  unfold stored
  rw [if_neg]
  intro q
  obtain ⟨p, hp, e⟩ := List.any_eq_true.mp q
  exact h (List.mem_map.mpr ⟨p, hp, of_decide_eq_true e⟩)
theorem valueAt_mem {kvs : List (Str × Value)} {x : Str} {v : Value} (nd : (kvs.map (·.1)).Nodup) (h : (x, v) ∈ kvs) : valueAt kvs x = some v := by
  unfold valueAt
  induction kvs with
  | nil => cases h
  | cons p r ih =>
    rw [List.map_cons, List.nodup_cons] at nd
    rcases List.mem_cons.mp h with rfl | h
    · simp
    · have hne : ¬ p.1 = x := fun e => nd.1 (List.mem_map.mpr ⟨_, h, e.symm⟩)
      rw [List.find?_cons_of_neg (by simpa using hne)]
      exact ih nd.2 h
theorem valueAt_none {kvs : List (Str × Value)} {x : Str} (h : x ∉ kvs.map (·.1)) : valueAt kvs x = none := by
  unfold valueAt
  rw [List.find?_eq_none.mpr]
  · rfl
  · intro p hp q
    exact h (List.mem_map.mpr ⟨p, hp, of_decide_eq_true q⟩)
end
end Mine
end
section
open PySem PySem.W PyProof.Rows PySem.W.X PySem.SeqAt
set_option maxRecDepth 100000
set_option linter.unusedVariables false
namespace Mine
section
variable {W : Wd} {G : Gens} {env : Env} {loc loc' : Loc} {nw nw' : Ledger} {s : Shared} {A : Around} {E : Value → Shared → Prop}
theorem comp_use {G' : Gens} {cenv : Env} {loc2 locC : Loc} {nw' : Ledger} {s'' : Shared} {y : Str} {py : Pos} {acc : Addr} {Q : Flow → Shared → Prop} (he : EnvOk env (loc.map Prod.fst)) (S' : Sta W G' cenv locC ((env.locals, IsNs loc) :: nw') s'') (hp : Put y (some (.ref acc)) loc loc2)
    (hQ : ∀ s₃, Sta W G' env loc2 nw' s₃ → Q .next s₃) :
    wpAny (model W.prog W.w) A (assign (.Name y py) env (.ref acc)) (fun _ s'' => ∃ m, s''.heap.Ns cenv.locals m ∧ ∀ h', Heap.SameBut cenv.locals s''.heap h' → Q .next { s'' with heap := h' }) E s'' := by
  have S1 : Sta W G' env loc ((cenv.locals, IsNs locC) :: nw') s'' := ⟨S'.ok, he, S'.led.perm (List.Perm.swap ..), S'.bare, S'.os, S'.gens, S'.gnd⟩
  refine wpAny_assign_Name (S1.store hp fun s3 S3 => ?_)
  obtain ⟨o, ho, _, es, ep, hd, hk, hf⟩ := S3.get (.head _)
  refine ⟨_, ⟨o, es, ep, ho, hd, hk, hf⟩, fun h' hs' => hQ _ ⟨S3.ok, S3.eok, ?_, S3.bare, S3.os, S3.gens, S3.gnd⟩⟩
  have := Led.dropBack (nw := [(env.locals, IsNs loc2)]) (a := cenv.locals) (post := nw') (h' := h') S3.led fun b o hb e => (hs'.2 b hb).trans e
  exact this
noncomputable def CompDKA (W : Wd) (A : Around) (env : Env) (e : Expr) (scope : Scope) (cl : List (Str × Addr)) (ks : List Str) (y : Str) (Q : Flow → Shared → Prop) (it : Value) (s : Shared) : Prop :=
  ∃ G loc nw, Sta W G env loc nw s ∧ ∀ acc C s', EnvOk (compEnvC scope cl C env) ks → Sta W G (compEnvC scope cl C env) (ks.map fun k => (k, none)) ((acc, IsD W acc []) :: (env.locals, IsNs loc) :: nw) s' →
    codeAny (model W.prog W.w) A (.compStart e 0 it (.ref acc) (compEnvC scope cl C env)) (fun r s'' => ∃ f loc' loc2 nw' G', r = .ok f ∧ Sta W G' (compEnvC scope cl C env) loc' ((env.locals, IsNs loc) :: nw') s'' ∧ Put y (some (.ref acc)) loc loc2 ∧ ∀ s₃, Sta W G' env loc2 nw' s₃ → Q .next s₃) s'
/-- y = {k: v for ..} -/
theorem assignDictComp {kx vx target iter : Expr} {gens : List Comprehension} {scope : Scope} {pos py spos : Pos} {y : Str} {cl : List (Str × Addr)} {Q : Flow → Shared → Prop} (ks : List Str)
    (hsw : swapsWith (.DictComp kx vx (⟨target, iter, [], 0⟩ :: gens) scope pos) (some (.Name y py)) spos.line env = pure true)
    (hclos : closureFor scope env = pure cl) (hk : kindsComp scope ks = true) (he : env.globals = mainGlobals) (hb : env.builtins = builtinsNs)
    (h : wpAny (model W.prog W.w) A (eval iter env) (fun x s₁ => wpAny (model W.prog W.w) A (pyIter x) (fun it s₂ => CompDKA W A env (.DictComp kx vx (⟨target, iter, [], 0⟩ :: gens) scope pos) scope cl ks y Q it s₂) E s₁) E s)
    (hs : ∀ x, foldedSetIterable iter env x = pure x := by intro _; rfl) :
    wpAny (model W.prog W.w) A (exec (.Assign [.Name y py] (.DictComp kx vx (⟨target, iter, [], 0⟩ :: gens) scope pos) spos) env) Q E s := by
  simp only [kindsComp, Bool.and_eq_true, beq_iff_eq, Bool.not_eq_true', List.all_eq_true, bne_iff_ne, decide_eq_true_eq, Bool.or_eq_true] at hk
  obtain ⟨⟨⟨⟨hkind, hcell⟩, hnames⟩, hks⟩, hnd⟩ := hk
  rw [exec_Assign_Name_used _ _ _ _ hsw]
  refine wpAny_bind (wpAny_standAt (wpAny_bind ?_))
  show wpAny _ A (do let _ ← comprehension (.DictComp kx vx (⟨target, iter, [], 0⟩ :: gens) scope pos) scope env _ newDict false (eval iter env) (some (assign (.Name y py) env))) _ _ s
  refine wpAny_bind (wpAny_mono (wpAny_comprehension_free (use := some (assign (.Name y py) env)) (Q := fun _ s' => Q .next s') (cl := cl) rfl hs hclos hkind (fun x hx hl => (hnames x hx).resolve_left fun q => q hl) (wpAny_mono h (fun xv s₁ h₁ => wpAny_mono h₁ (fun it s₂ h₂ => ?_) fun _ _ e => e) fun _ _ e => e)) (fun _ s' hq => wpAny_pure (wpAny_pure hq)) fun _ _ e => e)
  obtain ⟨G, loc, nw, S, kk⟩ := h₂
  refine S.newDict fun acc s₃ S₃ => ?_
  refine wpAny_newFunctionEnv hcell (by intro y hy; simp at hy) (fun h₁ hns hsb => ?_) hkind
  have hkp : ∀ b o, s₃.heap.get? b = some o → h₁.get? b = some o := fun b o e => hsb.extBut b o (Nat.ne_of_lt (Heap.lt_size e)) (Heap.get?_push_of_some _ e)
  have D : Led W.B ((s₃.heap.objs.size, IsNs (ks.map fun k => (k, none))) :: (env.locals, IsNs loc) :: (acc, IsD W acc []) :: nw) h₁ := by
    obtain ⟨o, es, ep, ho', hd, hsk, hf⟩ := hns
    refine S₃.led.cons_new hkp S₃.led.size_ne S₃.led.size_new ho' ⟨by rw [List.map_map]; simpa [Function.comp_def] using hnd, es, ep, hd, hsk, fun x => ?_⟩
    rw [hf x, lk_none]; rfl
  have ek : (ks.map fun k => ((k, none) : Str × Option Value)).map Prod.fst = ks := by rw [List.map_map]; simp [Function.comp_def]
  have eok : EnvOk (compEnvC scope cl s₃.heap.objs.size env) ks := ⟨hkind, he, hb, fun x hx => lookup_relabel_local (hks x hx).1, fun x hx => (hks x hx).2, hnd⟩
  refine codeAny_mono (kk acc s₃.heap.objs.size { s₃ with heap := h₁, toks := s₃.toks + 0 } eok ⟨S₃.ok, by rw [ek]; exact eok, D.perm (List.Perm.cons _ (List.Perm.swap ..)), S₃.bare, S₃.os, S₃.gens, S₃.gnd⟩) fun r s'' h'' => ?_
  obtain ⟨f, loc', loc2, nw', G', rfl, S', hp, hQ⟩ := h''
  exact comp_use (cenv := compEnvC scope cl s₃.heap.objs.size env) S.eok S' hp hQ
noncomputable def CompKA (W : Wd) (A : Around) (env : Env) (e : Expr) (scope : Scope) (cl : List (Str × Addr)) (ks : List Str) (y : Str) (Q : Flow → Shared → Prop) (it : Value) (s : Shared) : Prop :=
  ∃ G loc nw, Sta W G env loc nw s ∧ ∀ acc C s', EnvOk (compEnvC scope cl C env) ks → Sta W G (compEnvC scope cl C env) (ks.map fun k => (k, none)) ((acc, IsLst []) :: (env.locals, IsNs loc) :: nw) s' →
    codeAny (model W.prog W.w) A (.compStart e 0 it (.ref acc) (compEnvC scope cl C env)) (fun r s'' => ∃ f loc' loc2 nw' G', r = .ok f ∧ Sta W G' (compEnvC scope cl C env) loc' ((env.locals, IsNs loc) :: nw') s'' ∧ Put y (some (.ref acc)) loc loc2 ∧ ∀ s₃, Sta W G' env loc2 nw' s₃ → Q .next s₃) s'
/-- y = [v for ..] -/
theorem assignListComp {elt target iter : Expr} {gens : List Comprehension} {scope : Scope} {pos py spos : Pos} {y : Str} {cl : List (Str × Addr)} {ifs : List Expr} {Q : Flow → Shared → Prop} (ks : List Str)
    (hsw : swapsWith (.ListComp elt (⟨target, iter, ifs, 0⟩ :: gens) scope pos) (some (.Name y py)) spos.line env = pure true)
    (hclos : closureFor scope env = pure cl) (hk : kindsComp scope ks = true) (he : env.globals = mainGlobals) (hb : env.builtins = builtinsNs)
    (h : wpAny (model W.prog W.w) A (eval iter env) (fun x s₁ => wpAny (model W.prog W.w) A (pyIter x) (fun it s₂ => CompKA W A env (.ListComp elt (⟨target, iter, ifs, 0⟩ :: gens) scope pos) scope cl ks y Q it s₂) E s₁) E s)
    (hs : ∀ x, foldedSetIterable iter env x = pure x := by intro _; rfl) :
    wpAny (model W.prog W.w) A (exec (.Assign [.Name y py] (.ListComp elt (⟨target, iter, ifs, 0⟩ :: gens) scope pos) spos) env) Q E s := by
  simp only [kindsComp, Bool.and_eq_true, beq_iff_eq, Bool.not_eq_true', List.all_eq_true, bne_iff_ne, decide_eq_true_eq, Bool.or_eq_true] at hk
  obtain ⟨⟨⟨⟨hkind, hcell⟩, hnames⟩, hks⟩, hnd⟩ := hk
  rw [exec_Assign_Name_used _ _ _ _ hsw]
  refine wpAny_bind (wpAny_standAt (wpAny_bind ?_))
  show wpAny _ A (do let _ ← comprehension (.ListComp elt (⟨target, iter, ifs, 0⟩ :: gens) scope pos) scope env _ (newList []) false (eval iter env) (some (assign (.Name y py) env))) _ _ s
  refine wpAny_bind (wpAny_mono (wpAny_comprehension_free (use := some (assign (.Name y py) env)) (Q := fun _ s' => Q .next s') (cl := cl) rfl hs hclos hkind (fun x hx hl => (hnames x hx).resolve_left fun q => q hl) (wpAny_mono h (fun xv s₁ h₁ => wpAny_mono h₁ (fun it s₂ h₂ => ?_) fun _ _ e => e) fun _ _ e => e)) (fun _ s' hq => wpAny_pure (wpAny_pure hq)) fun _ _ e => e)
  obtain ⟨G, loc, nw, S, kk⟩ := h₂
  refine S.newList (by simp) fun acc s₃ S₃ => ?_
  refine wpAny_newFunctionEnv hcell (by intro y hy; simp at hy) (fun h₁ hns hsb => ?_) hkind
  have hkp : ∀ b o, s₃.heap.get? b = some o → h₁.get? b = some o := fun b o e => hsb.extBut b o (Nat.ne_of_lt (Heap.lt_size e)) (Heap.get?_push_of_some _ e)
  have D : Led W.B ((s₃.heap.objs.size, IsNs (ks.map fun k => (k, none))) :: (env.locals, IsNs loc) :: (acc, IsLst []) :: nw) h₁ := by
    obtain ⟨o, es, ep, ho', hd, hsk, hf⟩ := hns
    refine S₃.led.cons_new hkp S₃.led.size_ne S₃.led.size_new ho' ⟨by rw [List.map_map]; simpa [Function.comp_def] using hnd, es, ep, hd, hsk, fun x => ?_⟩
    rw [hf x, lk_none]; rfl
  have ek : (ks.map fun k => ((k, none) : Str × Option Value)).map Prod.fst = ks := by rw [List.map_map]; simp [Function.comp_def]
  have eok : EnvOk (compEnvC scope cl s₃.heap.objs.size env) ks := ⟨hkind, he, hb, fun x hx => lookup_relabel_local (hks x hx).1, fun x hx => (hks x hx).2, hnd⟩
  refine codeAny_mono (kk acc s₃.heap.objs.size { s₃ with heap := h₁, toks := s₃.toks + 0 } eok ⟨S₃.ok, by rw [ek]; exact eok, D.perm (List.Perm.cons _ (List.Perm.swap ..)), S₃.bare, S₃.os, S₃.gens, S₃.gnd⟩) fun r s'' h'' => ?_
  obtain ⟨f, loc', loc2, nw', G', rfl, S', hp, hQ⟩ := h''
  exact comp_use (cenv := compEnvC scope cl s₃.heap.objs.size env) S.eok S' hp hQ
theorem callK_n {K : Sink W} {pos : Pos} {e : Expr} {rest : List Expr} {Q : Value → Shared → Prop}
    (h : wpAny (model W.prog W.w) A (spliced (backTo pos (starEach (e :: rest) env))) (fun vs s₁ => (∃ N st, W.K.In s₁.heap ∧ Led W.B (K.L st ++ N) s₁.heap) ∧ wpAny (model W.prog W.w) A (call (.ref K.q) vs) Q E s₁) E s)
    (he : starEach (e :: rest) env = (false, eval e env) :: starEach rest env) (hplain : (backTo pos (starEach rest env)).any (·.1) = false) :
    wpAny (model W.prog W.w) A (callWith pos (.ref K.q) [] (backTo pos (starEach (e :: rest) env)) []) Q E s := callK_1 h he hplain
theorem Sta.isub {a b : Int} {t u : Tok} {Q : Value → Shared → Prop} (S : Sta W G env loc nw s) (h : ∀ t s', Sta W G env loc nw s' → Q (.int (a - b) t) s') : wpAny (model W.prog W.w) A (inplaceOp .Sub (.int a t) (.int b u)) Q E s :=
  PyProof.Rows.isub_int (h _ _ (S.toks _))
end
end Mine
end
section
open PySem PySem.W PyProof.Rows PySem.W.X PySem.SeqAt
set_option maxRecDepth 100000
set_option linter.unusedVariables false
namespace Mine
/-- a comprehension's turn with one test -/
theorem codeAny_compLoopI {prog : Program} {w : World} {A : Around} {s : Shared} {R : Result → Shared → Prop} {elt target iter c : Expr} {scope : Scope} {pos : Pos} {it acc : Value} {env : Env}
    (I : Nat → Shared → Prop)
    (turn : ∀ n s, I n s → wpAny (model prog w) A (pyNext it) (fun r s₁ => match r with
      | none => R (.ok .next) s₁
      | some v => wpAny (model prog w) A (letOwnedTupleGo target it v) (fun _ s₁ => wpAny (model prog w) A (assign target env v) (fun _ s₂ => wpAny (model prog w) A (isTrue c env (eval c env)) (fun b s₃ => if b = true then
          wpAny (model prog w) A (eval elt env) (fun y s₄ => wpAny (model prog w) A (call (.builtin "list.append") [acc, y]) (fun _ s₅ => ∃ m, m < n ∧ I m s₅) (fun _ _ => False) s₄) (fun _ _ => False) s₃ else ∃ m, m < n ∧ I m s₃)
          (fun _ _ => False) s₂) (fun _ _ => False) s₁) (fun _ _ => False) s₁) (fun _ _ => False) s)
    (n : Nat) (h : I n s) : codeAny (model prog w) A (.compLoop (.ListComp elt [⟨target, iter, [c], 0⟩] scope pos) 0 it acc env) R s := by
  refine codeAny_loop rfl I (fun n s hI => ?_) n h
  show wpAny _ _ ((compTurn (.ListComp elt [⟨target, iter, [c], 0⟩] scope pos) 0 it acc env).onRaise (fun x => do noteFrame x env; theTreesLotGoes x)) _ _ s
  refine wpAny_noted ?_
  rw [compTurn_list]
  refine wpAny_bind (wpAny_standAt (wpAny_bind (wpAny_mono (turn n s hI) (fun r s₁ h₁ => ?_) fun _ _ h' => h'.elim)))
  cases r with
  | none => exact wpAny_pure h₁
  | some v =>
    refine wpAny_bind (wpAny_mono h₁ (fun _ s₁' h₁' => ?_) fun _ _ h' => h'.elim)
    refine wpAny_bind (wpAny_mono h₁' (fun _ s₂ h₂ => ?_) fun _ _ h' => h'.elim)
    refine wpAny_bind (wpAny_tests_one (wpAny_mono h₂ (fun b s₃ h₃ => ?_) fun _ _ h' => h'.elim))
    cases b with
    | true =>
      rw [if_pos rfl] at h₃
      simp only [if_true]
      refine wpAny_bind (wpAny_bind (wpAny_mono h₃ (fun y s₄ h₄ => wpAny_bind (wpAny_mono h₄ (fun _ s₅ h₅ => wpAny_pure (wpAny_pure ⟨rfl, h₅⟩)) fun _ _ h' => h'.elim)) fun _ _ h' => h'.elim))
    | false =>
      rw [if_neg (by decide)] at h₃
      simp only [Bool.false_eq_true, if_false]
      exact wpAny_pure ⟨rfl, h₃⟩
section
variable {W : Wd} {sh : Ledger} {env : Env} {A : Around} {R : Result → Shared → Prop} {it : Addr} {elt target iter c : Expr} {scope : Scope} {pos : Pos} {acc : Value}
theorem comp_yI {α : Type} {P : α → Value → Prop} (hA : Aok 7 A)
    (J : List α → Loc → Ledger → Gens → Prop)
    (turn : ∀ x v rest tl tg loc nw G s, P x v → Sta W (G ++ tg) env loc (nw ++ (sh ++ tl)) s → J (x :: rest) loc nw G →
      wpAny (model W.prog W.w) A (assign target env v) (fun _ s₂ => wpAny (model W.prog W.w) A (isTrue c env (eval c env)) (fun b s₃ => if b = true then
        wpAny (model W.prog W.w) A (eval elt env) (fun y s₄ => wpAny (model W.prog W.w) A (call (.builtin "list.append") [acc, y]) (fun _ s₅ => ∃ loc' nw' G', Sta W (G' ++ tg) env loc' (nw' ++ (sh ++ tl)) s₅ ∧ J rest loc' nw' G') (fun _ _ => False) s₄) (fun _ _ => False) s₃
        else ∃ loc' nw' G', Sta W (G' ++ tg) env loc' (nw' ++ (sh ++ tl)) s₃ ∧ J rest loc' nw' G') (fun _ _ => False) s₂) (fun _ _ => False) s)
    (fin : ∀ loc nw G s, Sta W G env loc (nw ++ sh) s → J [] loc nw G → R (.ok .next) s)
    {vs : List α} {own : Ledger} {og G : Gens} {loc : Loc} {nw : Ledger} {s : Shared} (S : Sta W (G ++ og) env loc (nw ++ (sh ++ own)) s) (hy : YieldsR W sh it P vs own og) (hJ : J vs loc nw G) :
    codeAny (model W.prog W.w) A (.compLoop (.ListComp elt [⟨target, iter, [c], 0⟩] scope pos) 0 (.ref it) acc env) R s := by
  refine codeAny_compLoopI (fun n s => ∃ vs own og G loc nw, vs.length = n ∧ Sta W (G ++ og) env loc (nw ++ (sh ++ own)) s ∧ YieldsR W sh it P vs own og ∧ J vs loc nw G) (fun n s hI => ?_) vs.length ⟨vs, own, og, G, loc, nw, rfl, S, hy, hJ⟩
  obtain ⟨vs, own, og, G, loc, nw, hn, S, hy, hJ⟩ := hI
  cases vs with
  | nil => exact hy.2 A ((env.locals, IsNs loc) :: nw) G s _ _ hA S.to0 fun s' S' => fin loc nw G s' (St0.toSta S' S.eok) hJ
  | cons x rest =>
    refine hy.2 A ((env.locals, IsNs loc) :: nw) G s _ _ hA S.to0 fun v own' og' s' hpv S' hy' => ?_
    have S1 : Sta W (G ++ og') env loc (nw ++ (sh ++ own')) s' := St0.toSta S' S.eok
    have ht : Typ sh it own' := by cases rest <;> exact hy'.1
    obtain ⟨c, hc, hp⟩ := ht
    obtain ⟨o, ho, hco⟩ := S1.get (a := it) (c := c) (List.mem_append_right _ hc)
    refine tupGo ho (hp o hco) ?_
    have nx : ∀ s₃, (∃ loc' nw' G', Sta W (G' ++ og') env loc' (nw' ++ (sh ++ own')) s₃ ∧ J rest loc' nw' G') → ∃ m, m < n ∧ ∃ vs own og G loc nw, vs.length = m ∧ Sta W (G ++ og) env loc (nw ++ (sh ++ own)) s₃ ∧ YieldsR W sh it P vs own og ∧ J vs loc nw G := by
      intro s₃ h₃
      obtain ⟨loc', nw', G', S3, hJ'⟩ := h₃
      exact ⟨rest.length, by rw [← hn]; simp, rest, own', og', G', loc', nw', rfl, S3, hy', hJ'⟩
    refine wpAny_mono (turn x v rest own' og' loc nw G s' hpv S1 hJ) (fun _ s₂ h₂ => wpAny_mono h₂ (fun b s₃ h₃ => ?_) fun _ _ h => h) fun _ _ h => h
    cases b with
    | true =>
      rw [if_pos rfl] at h₃ ⊢
      exact wpAny_mono h₃ (fun y s₄ h₄ => wpAny_mono h₄ (fun _ s₅ h₅ => nx s₅ h₅) fun _ _ h => h) fun _ _ h => h
    | false =>
      rw [if_neg (by decide)] at h₃ ⊢
      exact nx s₃ h₃
end
section
variable {W : Wd} {G : Gens} {env : Env} {loc loc' : Loc} {nw nw' : Ledger} {s : Shared} {A : Around} {E : Value → Shared → Prop}
theorem Sta.lenS {x : Str} {t : Tok} {Q : Value → Shared → Prop} (S : Sta W G env loc nw s) (hz : x.length ≤ 16777216) (h : ∀ t s', Sta W G env loc nw s' → Q (.int x.length t) s') : wpAny (model W.prog W.w) A (call (.builtin "len") [.str x t]) Q E s :=
  P.len_str (by omega) (h _ _ (S.toks _))
end
end Mine
end
section
open PySem PySem.W PyProof.Rows PySem.W.X PySem.SeqAt
set_option maxRecDepth 100000
set_option linter.unusedVariables false
namespace Mine
theorem merged_new : ∀ (kvs acc : List (Str × Value)), ((acc ++ kvs).map (·.1)).Nodup → merged acc kvs = acc ++ kvs
  | [], acc, _ => by simp [merged]
  | (x, v) :: r, acc, h => by
    have hx : x ∉ acc.map (·.1) := by
      rw [List.map_append, List.nodup_append] at h
      intro m
      exact h.2.2 x m x (by simp) rfl
    have e : merged acc ((x, v) :: r) = merged (stored acc x v) r := by simp [merged]
    rw [e, stored_new hx, merged_new r (acc ++ [(x, v)]) (by simpa using h)]
    simp
section
variable {M : Model} {A : Around} {E : Value → Shared → Prop} {s : Shared} {env : Env} {prog : Program} {w : World}
theorem pairs_nil {pos : Pos} {Q : List (Value × Value) → Shared → Prop} (h : Q [] s) : wpAny (model prog w) A (evalPairs (pairTrees [] [] env pos)) Q E s := evalPairs_nil h
theorem pairs_cons {k v : Expr} {ks : List (Option Expr)} {vs : List Expr} {pos : Pos} {Q : List (Value × Value) → Shared → Prop}
    (h : wpAny (model prog w) A (eval k env) (fun kv s₁ => wpAny (model prog w) A (eval v env) (fun vv s₂ => wpAny (model prog w) A (evalPairs (pairTrees ks vs env pos)) (fun r s₃ => Q ((kv, vv) :: r) s₃) E s₂) E s₁) E s) :
    wpAny (model prog w) A (evalPairs (pairTrees (some k :: ks) (v :: vs) env pos)) Q E s := by
  show wpAny _ _ (evalPairs ((eval k env, do let x ← eval v env; standAt pos; pure x) :: pairTrees ks vs env pos)) _ _ _
  refine evalPairs_cons (wpAny_mono h (fun kv s₁ h₁ => ?_) fun _ _ e => e)
  exact wpAny_bind (wpAny_mono h₁ (fun vv s₂ h₂ => wpAny_bind (wpAny_standAt (wpAny_pure h₂))) fun _ _ e => e)
end
section
variable {W : Wd} {G : Gens} {env : Env} {loc loc' : Loc} {nw nw' : Ledger} {s : Shared} {A : Around} {E : Value → Shared → Prop}
noncomputable def DLit (W : Wd) (env : Env) (Q : Value → Shared → Prop) (d : Addr) (vs : List (Value × Value)) (s : Shared) : Prop :=
  ∃ G loc nw nw' kvs, Sta W G env loc nw s ∧ Carries (PySem.strKind W.prog W.w) vs kvs ∧ (kvs.map (·.1)).Nodup ∧ kvs.length ≤ 100 ∧ Upd d (IsD W d []) (IsD W d kvs) nw nw' ∧ ∀ s', Sta W G env loc nw' s' → Q (.ref d) s'
/-- {..} with keys that are texts -/
theorem Sta.dictLit {keys : List (Option Expr)} {values : List Expr} {pos : Pos} {Q : Value → Shared → Prop} (hall : keys.all (·.isSome) = true) (hl : keys.length = values.length) (h0 : keys ≠ []) (hlen : keys.length ≤ 15) (S : Sta W G env loc nw s)
    (h : ∀ d s', Sta W G env loc ((d, IsD W d []) :: nw) s' → wpAny (model W.prog W.w) A (evalPairs (pairTrees keys values env pos)) (fun vs s₁ => DLit W env Q d vs s₁) E s') :
    wpAny (model W.prog W.w) A (eval (.Dict keys values pos) env) Q E s := by
  refine wpAny_Dict_any hall hl h0 hlen ?_
  refine wpAny_mono (h _ _ (S.new (c := IsD W s.heap.objs.size []) rfl (isD_empty S.size_mods) s.toks)) (fun vs s₁ h₁ => ?_) fun _ _ e => e
  obtain ⟨G', loc', nw1, nw2, kvs, S1, hc, hnd, hk, U, k⟩ := h₁
  obtain ⟨hd, hn⟩ := S1.dictAt U.mem
  refine wpAny_storeAll vs kvs [] s₁ _ hc hd (by rw [sizeLine_eq]; simp; omega) fun h' hm hs => ?_
  rw [merged_new kvs [] (by simpa using hnd)] at hm
  obtain ⟨o, ho, hdo⟩ := Heap.dictOf_iff.mp hm
  exact k _ (S1.set U (fun b o hb e => (hs.2 b hb).trans e) ho ⟨by simpa using hn, by simpa using hdo⟩ _)
theorem DLit.mk {d : Addr} {vs : List (Value × Value)} {Q : Value → Shared → Prop} (kvs : List (Str × Value)) (S : Sta W G env loc nw s) (hc : Carries (PySem.strKind W.prog W.w) vs kvs) (hnd : (kvs.map (·.1)).Nodup) (hk : kvs.length ≤ 100) (U : Upd d (IsD W d []) (IsD W d kvs) nw nw')
    (h : ∀ s', Sta W G env loc nw' s' → Q (.ref d) s') : DLit W env Q d vs s := ⟨_, _, _, _, kvs, S, hc, hnd, hk, U, h⟩
end
end Mine
end
section
open PySem PySem.W PyProof.Rows PySem.W.X PySem.SeqAt
set_option maxRecDepth 100000
set_option linter.unusedVariables false
namespace Mine
/-- a row of constant texts -/
noncomputable def strEs : List Str → List Pos → List Expr
  | x :: xs, p :: ps => .Constant (.str x) 0 p :: strEs xs ps
  | _, _ => []
noncomputable def lstE : Stmt → List Expr
  | .Assign _ (.List es _) _ => es
  | _ => []
noncomputable def cPos : Expr → Pos
  | .Constant _ _ p => p
  | .List _ p => p
  | .Name _ p => p
  | _ => default
noncomputable def asP1 : Stmt → Pos
  | .Assign ts _ _ => cPos (ts.getD 0 (.Name "x" default))
  | _ => default
noncomputable def asP2 : Stmt → Pos
  | .Assign _ v _ => cPos v
  | _ => default
noncomputable def asP3 : Stmt → Pos
  | .Assign _ _ p => p
  | _ => default
section
variable {W : Wd} {G : Gens} {env : Env} {loc loc' : Loc} {nw nw' : Ledger} {s : Shared} {A : Around} {E : Value → Shared → Prop}
theorem Sta.strs {pos : Pos} {xs : List Str} : ∀ {ps : List Pos}, ps.length = xs.length → ∀ {s : Shared} {Q : List Value → Shared → Prop}, Sta W G env loc nw s → (∀ vs s', TxtsAre vs xs → Sta W G env loc nw s' → Q vs s') → wpAny (model W.prog W.w) A (spliced (backTo pos (starEach (strEs xs ps) env))) Q E s := by
  induction xs with
  | nil =>
    intro ps hl s Q S k
    exact args_nil (k [] s .nil S)
  | cons x xs ih =>
    intro ps hl s Q S k
    cases ps with
    | nil => cases hl
    | cons p ps =>
      refine args_cons ?_ rfl
      refine S.str_ fun t s' S' => ?_
      exact ih (Nat.succ.inj hl) S' fun vs s' hv S' => k _ s' (.cons x t hv) S'
theorem Sta.assignStrs {st : Stmt} {y : Str} {xs : List Str} {ps : List Pos} {p1 p2 p3 : Pos} {Q : Flow → Shared → Prop} (S : Sta W G env loc nw s) (h : st = .Assign [.Name y p1] (.List (strEs xs ps) p2) p3) (hl : ps.length = xs.length) (hz : xs.length ≤ sizeLine)
    (k : ∀ a vs s', TxtsAre vs xs → Sta W G env loc ((a, IsLst vs) :: nw) s' → wpAny (model W.prog W.w) A (storeName env y (.ref a)) (fun _ => Q .next) E s') : wpAny (model W.prog W.w) A (exec st env) Q E s := by
  subst h
  refine wpAny_Assign_Name ?_ rfl
  refine List_ ?_
  refine Sta.strs hl S fun vs s' hv S' => ?_
  exact S'.newList (by rw [hv.length]; exact hz) fun a s' S' => k a vs s' hv S'
end
end Mine
end
section
open PySem PySem.W PyProof.Rows PySem.W.X PySem.SeqAt
set_option maxRecDepth 100000
namespace Mine
theorem len_empty : Str.empty.length = 0 := rfl
section
variable {M : Model} {s : Shared} {A : Around} {E : Value → Shared → Prop} {x : Str} {t : Tok} {Q : Value × List Value → Shared → Prop}
theorem getM_sjoin (h : Q (.builtin "str.join", [.str x t]) s) : GetM M A E "join" (.str x t) Q s := getM_str (name := "join") (id := "str.join") F.slot_str_join F.type_str_join h
theorem getM_ssplit (h : Q (.builtin "str.split", [.str x t]) s) : GetM M A E "split" (.str x t) Q s := getM_str (name := "split") (id := "str.split") F.slot_str_split F.type_str_split h
theorem getM_sreplace (h : Q (.builtin "str.replace", [.str x t]) s) : GetM M A E "replace" (.str x t) Q s := getM_str (name := "replace") (id := "str.replace") F.slot_str_replace F.type_str_replace h
theorem getM_sfind (h : Q (.builtin "str.find", [.str x t]) s) : GetM M A E "find" (.str x t) Q s := getM_str (name := "find") (id := "str.find") F.slot_str_find F.type_str_find h
end
end Mine
end
section
open PySem PySem.W PyProof.Rows PySem.W.X PySem.SeqAt
set_option maxRecDepth 100000
set_option linter.unusedVariables false
namespace Mine
theorem upd_same {a : Addr} {c : Cell} : ∀ {l : Ledger}, (a, c) ∈ l → Upd a c c l l
  | p :: l, h => by
    by_cases e : p = (a, c)
    · subst e; exact .head
    · rcases List.mem_cons.mp h with h | h
      · exact absurd h.symm e
      · exact .tail (upd_same h)
theorem Upd.app {a : Addr} {c c' : Cell} {l l' : Ledger} (h : Upd a c c' l l') (R : Ledger) : Upd a c c' (l ++ R) (l' ++ R) := by
  induction h with
  | head => exact .head
  | tail h ih => exact .tail ih
theorem TxtsAre.unsnoc {vs : List Value} {ss : List Str} {x : Str} (h : TxtsAre vs (ss ++ [x])) : ∃ vs' t, vs = vs' ++ [.str x t] ∧ TxtsAre vs' ss := by
  induction ss generalizing vs with
  | nil => cases h with | cons n t h => cases h; exact ⟨[], t, rfl, .nil⟩
  | cons m r ih =>
    cases h with
    | cons m u h =>
      obtain ⟨vs', t, e, k⟩ := ih h
      exact ⟨.str m u :: vs', t, by rw [e]; rfl, .cons m u k⟩
theorem TxtsAre.at? {vs : List Value} {ss : List Str} (h : TxtsAre vs ss) {j : Nat} {x : Str} (hx : ss[j]? = some x) : ∃ t, vs[j]? = some (.str x t) := by
  obtain ⟨hj, rfl⟩ := List.getElem?_eq_some_iff.mp hx
  exact h.at' j hj
theorem TxtsAre.set {vs : List Value} {ss : List Str} (h : TxtsAre vs ss) : ∀ (j : Nat) (x : Str) (t : Tok), TxtsAre (vs.set j (.str x t)) (ss.set j x) := by
  induction h with
  | nil => intro k n t; exact .nil
  | cons m u h ih =>
    intro k n t
    cases k with
    | zero => exact .cons n t h
    | succ k => exact .cons m u (ih k n t)
section
variable {W : Wd} {G : Gens} {env : Env} {loc loc' : Loc} {nw nw' N : Ledger} {s : Shared} {A : Around} {E : Value → Shared → Prop}
theorem Sta.subT {a : Addr} {ss : List Str} {k : Int} {j : Nat} {t : Tok} {x : Str} {Q : Value → Shared → Prop} (S : Sta W G env loc nw s) (m : (a, IsTxts ss) ∈ nw) (hk : k = (j : Int)) (hj : j < 1000000) (hx : ss[j]? = some x) (h : ∀ t, Q (.str x t) s) :
    SubscriptOn (model W.prog W.w) A (.ref a) (.int k t) Q E s := by
  obtain ⟨vs, nw1, ht, U1, U2, S1⟩ := S.openT (upd_same m)
  obtain ⟨u, hu⟩ := ht.at? hx
  exact S1.sub_list U2.mem (by omega) (by omega) (by rw [hk]; simpa using hu) (h u)
theorem sliceK_txts {l : Addr} {ss : List Str} {k : Int} {j : Nat} {t : Tok} {Q : Value → Shared → Prop} (S : Sta W G env loc nw s) (m : (l, IsTxts ss) ∈ nw) (hz : ss.length ≤ sizeLine) (hk : k = (j : Int)) (h : ∀ a s', Sta W G env loc ((a, IsTxts (ss.drop j)) :: nw) s' → Q (.ref a) s') :
    SliceK W env Q (.ref l) (.int k t) .none s := by
  obtain ⟨vs, nw1, ht, U1, U2, S1⟩ := S.openT (upd_same m)
  refine ⟨G, loc, nw1, l, vs, some k, none, S1, rfl, U2.mem, by rw [ht.length]; exact hz, .int _ _, .none, fun a s' S2 => ?_⟩
  rw [hk, slice_from] at S2
  have S3 := S2.tell (.tail U2) fun o _ ho => ⟨_, ht, ho⟩
  exact h a s' (S3.tell .head fun o _ ho => ⟨_, ht.drop j, ho⟩)
end
end Mine
end
section
open PySem PySem.W PyProof.Rows PySem.W.X PySem.SeqAt
set_option maxRecDepth 100000
namespace Mine
/-- one taken out of a row -/
noncomputable def Pl {α : Type} (p : α) (L L' : List α) : Prop := L.Perm (p :: L')
/-- a piece taken out of a row -/
noncomputable def Ps {α : Type} (A L L' : List α) : Prop := L.Perm (A ++ L')
section
variable {α : Type} {p q x : α} {A B C L L' L2 R r r' : List α}
theorem pl_h : Pl p (p :: r) r := List.Perm.refl _
theorem pl_t (h : Pl p r r') : Pl p (q :: r) (q :: r') := (List.Perm.cons q h).trans (List.Perm.swap ..)
theorem pl_a (h : Pl p r r') : Pl p (A ++ r) (A ++ r') := (List.Perm.append_left A h).trans List.perm_middle
theorem pl_c (h : Pl p (x :: (A ++ B)) L') : Pl p ((x :: A) ++ B) L' := h
theorem pl_n (h : Pl p B L') : Pl p ([] ++ B) L' := h
theorem pl_s (h : Pl p (A ++ (B ++ C)) L') : Pl p ((A ++ B) ++ C) L' := by unfold Pl at h ⊢; rw [List.append_assoc]; exact h
theorem ps_h : Ps A (A ++ r) r := List.Perm.refl _
theorem ps_e : Ps A A [] := by unfold Ps; rw [List.append_nil]
theorem ps_t (h : Ps A r r') : Ps A (q :: r) (q :: r') := (List.Perm.cons q h).trans List.perm_middle.symm
theorem ps_a (h : Ps A r r') : Ps A (B ++ r) (B ++ r') := by
  unfold Ps at h ⊢
  refine (List.Perm.append_left B h).trans ?_
  rw [← List.append_assoc, ← List.append_assoc]
  exact List.Perm.append_right r' List.perm_append_comm
theorem ps_c (h : Ps A (x :: (C ++ B)) L') : Ps A ((x :: C) ++ B) L' := h
theorem ps_n (h : Ps A B L') : Ps A ([] ++ B) L' := h
theorem ps_s (h : Ps L (A ++ (B ++ C)) L') : Ps L ((A ++ B) ++ C) L' := by unfold Ps at h ⊢; rw [List.append_assoc]; exact h
theorem pm_p (h : Pl p L L') (k : L'.Perm R) : L.Perm (p :: R) := h.trans (List.Perm.cons p k)
theorem pm_s (h : Ps A L L') (k : L'.Perm R) : L.Perm (A ++ R) := h.trans (List.Perm.append_left A k)
theorem pm_k (k : L.Perm R) : (p :: L).Perm (p :: R) := List.Perm.cons p k
theorem pm_a (k : L.Perm R) : (A ++ L).Perm (A ++ R) := List.Perm.append_left A k
theorem pm_cl (k : (x :: (A ++ B)).Perm R) : ((x :: A) ++ B).Perm R := k
theorem pm_cr (k : L.Perm (x :: (A ++ B))) : L.Perm ((x :: A) ++ B) := k
theorem pm_nl (k : B.Perm R) : ([] ++ B).Perm R := k
theorem pm_nr (k : L.Perm B) : L.Perm ([] ++ B) := k
theorem pm_sl (k : (A ++ (B ++ C)).Perm R) : ((A ++ B) ++ C).Perm R := by rw [List.append_assoc]; exact k
theorem pm_sr (k : L.Perm (A ++ (B ++ C))) : L.Perm ((A ++ B) ++ C) := by rw [List.append_assoc]; exact k
theorem pm_el (k : A.Perm R) : (A ++ []).Perm R := by rw [List.append_nil]; exact k
theorem pm_er (k : L.Perm A) : L.Perm (A ++ []) := by rw [List.append_nil]; exact k
end
end Mine
end
section
open PySem PySem.W PyProof.Rows PySem.W.X PySem.SeqAt
set_option maxRecDepth 100000
set_option linter.unusedVariables false
namespace Mine
/-- a list of ints -/
noncomputable def IsInts (ns : List Int) : Cell := fun o => ∃ vs, IntsAre vs ns ∧ IsLst vs o
section
variable {W : Wd} {G : Gens} {env : Env} {loc loc' : Loc} {nw nw' N : Ledger} {s : Shared} {A : Around} {E : Value → Shared → Prop}
theorem Sta.openI {a : Addr} {ns : List Int} {c' : Cell} (S : Sta W G env loc nw s) (U : Upd a (IsInts ns) c' nw nw') : ∃ vs nw1, IntsAre vs ns ∧ Upd a (IsInts ns) (IsLst vs) nw nw1 ∧ Upd a (IsLst vs) c' nw1 nw' ∧ Sta W G env loc nw1 s := by
  obtain ⟨o, ho, vs, ht, hc⟩ := S.get U.mem
  obtain ⟨nw1, U1, U2⟩ := U.via2 (IsLst vs)
  exact ⟨vs, nw1, ht, U1, U2, S.tell U1 fun o' ho' _ => by rw [ho] at ho'; cases ho'; exact hc⟩
theorem IntsAre.at? {vs : List Value} {ns : List Int} (h : IntsAre vs ns) {j : Nat} {x : Int} (hx : ns[j]? = some x) : ∃ t, vs[j]? = some (.int x t) := by
  obtain ⟨hj, rfl⟩ := List.getElem?_eq_some_iff.mp hx
  exact Mine.IntsAre.getAt h j hj
theorem Sta.subI {a : Addr} {ns : List Int} {k : Int} {j : Nat} {t : Tok} {x : Int} {Q : Value → Shared → Prop} (S : Sta W G env loc nw s) (m : (a, IsInts ns) ∈ nw) (hk : k = (j : Int)) (hj : j < 1000000) (hx : ns[j]? = some x) (h : ∀ t, Q (.int x t) s) :
    SubscriptOn (model W.prog W.w) A (.ref a) (.int k t) Q E s := by
  obtain ⟨vs, nw1, ht, U1, U2, S1⟩ := S.openI (upd_same m)
  obtain ⟨u, hu⟩ := Mine.IntsAre.at? ht hx
  exact S1.sub_list U2.mem (by omega) (by omega) (by rw [hk]; simpa using hu) (h u)
end
end Mine
end
section
open PySem PySem.W PyProof.Rows PySem.W.X PySem.SeqAt
set_option compiler.extract_closed false
set_option maxRecDepth 100000
namespace Mine
theorem Sta.pl {W : Wd} {G : Gens} {env : Env} {loc : Loc} {nw nw' : Ledger} {s : Shared} {p : Addr × Cell} (S : Sta W G env loc nw s) (h : Pl p nw nw') : Sta W G env loc (p :: nw') s := S.perm h
theorem CellsAt.cons' {env : Env} {x : Str} {xs : List Str} : ∀ {cs : List Addr}, CellsAt env (x :: xs) cs → ∃ c r, cs = c :: r ∧ CellOk env .cell x c ∧ CellsAt env xs r := by
  intro cs h
  cases cs with
  | nil => exact h.elim
  | cons c r => exact ⟨c, r, rfl, h.1, h.2⟩
theorem CellsAt.nil' {env : Env} {cs : List Addr} (h : CellsAt env [] cs) : cs = [] := by
  cases cs with
  | nil => rfl
  | cons c r => exact h.elim
theorem CellsAt.one {env : Env} {x : Str} {cs : List Addr} (h : CellsAt env [x] cs) : ∃ c, cs = [c] ∧ CellOk env .cell x c := by
  obtain ⟨c, r, rfl, h1, h2⟩ := h.cons'
  rw [h2.nil']
  exact ⟨c, rfl, h1⟩
theorem CellsAt.two {env : Env} {x y : Str} {cs : List Addr} (h : CellsAt env [x, y] cs) : ∃ c d, cs = [c, d] ∧ CellOk env .cell x c ∧ CellOk env .cell y d := by
  obtain ⟨c, r, rfl, h1, h2⟩ := h.cons'
  obtain ⟨d, rfl, h3⟩ := h2.one
  exact ⟨c, d, rfl, h1, h3⟩
theorem CellsAt.three {env : Env} {x y z : Str} {cs : List Addr} (h : CellsAt env [x, y, z] cs) : ∃ c d e, cs = [c, d, e] ∧ CellOk env .cell x c ∧ CellOk env .cell y d ∧ CellOk env .cell z e := by
  obtain ⟨c, r, rfl, h1, h2⟩ := h.cons'
  obtain ⟨d, e, rfl, h3, h4⟩ := h2.two
  exact ⟨c, d, e, rfl, h1, h3, h4⟩
def notComp : Expr → Bool
  | .DictComp .. => false
  | .ListComp .. => false
  | _ => true
theorem Assign_plain {M : Model} {A : Around} {E : Value → Shared → Prop} {s : Shared} {env : Env} {name : Str} {npos : Pos} {value : Expr} {pos : Pos} {Q : Flow → Shared → Prop} (h : wpAny M A (eval value env) (fun v s₁ => wpAny M A (storeName env name v) (fun _ => Q .next) E s₁) E s)
    (_hv : notComp value = true) (hs : swapsWith value (some (.Name name npos)) pos.line env = pure false) : wpAny M A (exec (.Assign [.Name name npos] value pos) env) Q E s := wpAny_Assign_Name h hs
/-- how a hole of a walk's rule is closed -/
def closeBy (w : String) : Lean.MacroM (Lean.TSyntax `tactic) := match w with
  | "kr" => `(tactic| kernel_rfl)
  | "rfl" => `(tactic| rfl)
  | "simp" => `(tactic| simp)
  | "deck" => `(tactic| decide +kernel)
  | "dec" => `(tactic| decide)
  | "asm" => `(tactic| with_reducible assumption)
  | "le" => `(tactic| exact Nat.le_of_ble_eq_true rfl)
  | "ik" => `(tactic| (rw [$(Lean.mkIdent `I.k):ident]; kernel_rfl))
  | "ml" => `(tactic| (rw [$(Lean.mkIdent `map_len):ident, $(Lean.mkIdent `sizeLine_eq):ident]; decide))
  | "ia" => `(tactic| (clear $(Lean.mkIdent `S'); intro $(Lean.mkIdent `a') $(Lean.mkIdent `as') $(Lean.mkIdent `s') $(Lean.mkIdent `hl') $(Lean.mkIdent `S')))
  | "hnd" => `(tactic| first | exact $(Lean.mkIdent `hA'.handled) | exact $(Lean.mkIdent `hA.handled))
  | w => `(tactic| walk_at $(Lean.Syntax.mkStrLit w):str)
def nameOf (w : String) : Lean.Ident := Lean.mkIdent ((w.splitOn ".").foldl Lean.Name.mkStr Lean.Name.anonymous)
/-- a rule of a walk as one row: its name; its arguments: S the state, _ what goes on, /x a hole closed by x, or a name; behind the bar what comes after; @name: apply -/
def argOf (w : String) (p : Array (Lean.TSyntax `term) × Array (Lean.TSyntax `tactic)) : Lean.MacroM (Array (Lean.TSyntax `term) × Array (Lean.TSyntax `tactic)) :=
  if w == "_" then do return (p.1.push (← `(?_)), p.2)
  else if w == "~" then do return (p.1.push (← `(_)), p.2)
  else if w == "S" then return (p.1.push (nameOf "S'"), p.2)
  else if w.startsWith "/" then do
    let n := nameOf ("hh" ++ toString p.2.size)
    let t ← closeBy (String.ofList (w.toList.drop 1))
    return (p.1.push (← `(?$n:ident)), p.2.push (← `(tactic| case $n:ident => $t:tactic)))
  else return (p.1.push (nameOf w), p.2)
def altOf (r : String) : Lean.MacroM (Lean.TSyntax `tactic) := if r.startsWith "@" then do `(tactic| with_reducible apply $(nameOf (String.ofList (r.toList.drop 1)))) else do
  let rs := r.splitOn " | "
  let ws := (rs.headD "").splitOn " "
  let p ← (ws.drop 1).foldlM (fun p w => argOf w p) (#[], #[])
  let hd := ws.headD ""
  let f : Lean.TSyntax `term ← if hd.endsWith "!" then `($(nameOf (String.ofList (hd.toList.dropLast))) (K := $(Lean.mkIdent `K))) else pure (nameOf hd)
  let t : Lean.TSyntax `term := if p.1.isEmpty then f else Lean.Syntax.mkApp f p.1
  let hd ← if p.2.isEmpty then `(tactic| with_reducible refine $t) else `(tactic| with_reducible refine' $t)
  let ps ← (rs.drop 1).mapM closeBy
  let all := #[hd] ++ p.2 ++ ps.toArray
  `(tactic| ($[$all:tactic];*))
def altsOf (rs : String) : Lean.MacroM (Array (Lean.TSyntax `tactic)) := ((rs.splitOn "; ").toArray).mapM altOf
def namesOf (rs : String) : Lean.MacroM (Array (Lean.TSyntax `tactic)) := ((rs.splitOn " ").toArray).mapM fun n => `(tactic| exact $(nameOf n))
/-- one step of a search, and on: fin ends it, one of rs goes on -/
def stepOf (w fin rs : String) : Lean.MacroM (Lean.TSyntax `tactic) := do
  let fs ← altsOf fin
  let ts ← altsOf rs
  let all := fs.push (← `(tactic| ((first $[| $ts:tactic]*); walk_at $(Lean.Syntax.mkStrLit w):str)))
  `(tactic| first $[| $all:tactic]*)
/-- a method of a writer looked up: its name, the address of its def -/
def methOf (n : String) (f : Nat) : Lean.MacroM (Lean.TSyntax `tactic) := do
  let p ← ["S", "/asm", "/mem", "/mem", "VV.keys", "/deck", "/ik", "/ik", "_"].foldlM (fun p w => argOf w p) (#[], #[])
  `(tactic| ((with_reducible refine' $(Lean.Syntax.mkApp (← `($(nameOf "Sta.getM_inst") (name := $(Lean.quote n)) (f := $(Lean.quote f)))) p.1)); $[$(p.2):tactic];*))
end Mine
end
section
open PySem PySem.W PyProof.Rows PySem.W.X PySem.SeqAt
set_option maxRecDepth 100000
set_option linter.unusedVariables false
namespace Mine
theorem Sel.rest {L L2 : Ledger} (J : Ledger) (h : L.Perm (L2 ++ J)) : Sel L L2 := ⟨J, h⟩
theorem ite_te {c : Bool} {P Q : Prop} (e : c = true) (h : P) : if c = true then P else Q := by rw [if_pos e]; exact h
theorem ite_fe {c : Bool} {P Q : Prop} (e : c = false) (h : Q) : if c = true then P else Q := by rw [if_neg (by rw [e]; decide)]; exact h
section
variable {W : Wd} {G : Gens} {env : Env} {loc loc' : Loc} {nw nw' N : Ledger} {s : Shared} {A : Around} {E : Value → Shared → Prop}
open PySem.Builtin.Str in
/-- x.split(y) -/
theorem Sta.split1 {x y : Str} {t u : Tok} {Q : Value → Shared → Prop} (S : Sta W G env loc nw s) (hy : (y.length == 0) = false) (hsz : x.length ≤ 1000000)
    (h : ∀ a s', Sta W G env loc ((a, IsTxts (Txt.split x y)) :: nw) s' → Q (.ref a) s') : wpAny (model W.prog W.w) A (call (.builtin "str.split") [.str x t, .str y u]) Q E s := by
  have hn : (partsBetween x (occurrences x y 0 x.length (x.length + 1)) y.length).length ≤ sizeLine := by
    have e1 := StrLaws.occ_length_le_len x y 0 x.length (x.length + 1)
    rw [length_partsBetween, sizeLine_eq]; omega
  have h' : ∀ (l : List (Str × Tok)) tk, l.map (·.1) = Txt.split x y → Q (.ref s.heap.objs.size) { s with heap := s.heap.push { cls := .type "list", data := .seq (strValues l).toArray }, toks := tk } := fun l tk e =>
    h _ _ (S.new (c := IsTxts (Txt.split x y)) rfl ⟨strValues l, by rw [← e]; exact txtsAre_values l, 0, rfl⟩ tk)
  cases h1 : (decide (x.length < y.length) || decide (strKind x < strKind y))
  · cases hf : (occurrences x y 0 x.length (x.length + 1)).isEmpty
    · refine call_meets F.slot_str_split (typeIs_str _ _ _) F.entry_str_split (F.args_str_split_2 _ _) (meets_str_split_sep x y t u h1 hy hf (by rw [sizeLine_eq]; omega) hn) ?_
      show wants Q E _ { s with toks := _, heap := s.heap.push { cls := .type "list", data := .seq (strsFrom s.toks (partsBetween x (occurrences x y 0 x.length (x.length + 1)) y.length)).toArray } }
      rw [strsFrom_eq]
      exact h' (numbered s.toks _) _ ((numbered_texts _ _).trans ((if_neg (ne_true_of_eq_false h1)).trans (if_neg (ne_true_of_eq_false hf))).symm)
    · exact call_meets F.slot_str_split (typeIs_str _ _ _) F.entry_str_split (F.args_str_split_2 _ _) (meets_str_split_not_found x y t u h1 hy hf) (h' [(x, t)] s.toks ((if_neg (ne_true_of_eq_false h1)).trans (if_pos hf)).symm)
  · exact call_meets F.slot_str_split (typeIs_str _ _ _) F.entry_str_split (F.args_str_split_2 _ _) (meets_str_split_cannot_occur x y t u h1) (h' [(x, t)] s.toks (if_pos h1).symm)
theorem Sta.iaddS {x y : Str} {t u : Tok} {Q : Value → Shared → Prop} (S : Sta W G env loc nw s) (hz : x.length + y.length ≤ sizeLine) (h : ∀ t s', Sta W G env loc nw s' → Q (.str (x ++ y) t) s') : wpAny (model W.prog W.w) A (inplaceOp .Add (.str x t) (.str y u)) Q E s :=
  PyProof.Rows.iadd_str (fun t' tk => h t' _ (S.toks tk)) hz
open PySem.Builtin.Str in
/-- x.find(y) where y is found -/
theorem Sta.find {x y : Str} {t u : Tok} {i : Nat} {Q : Value → Shared → Prop} (S : Sta W G env loc nw s) (hf : occurrences x y 0 x.length 1 = [i]) (h : ∀ t s', Sta W G env loc nw s' → Q (.int (i : Int) t) s') :
    wpAny (model W.prog W.w) A (call (.builtin "str.find") [.str x t, .str y u]) Q E s := by
  refine PySem.SC.find ?_
  have e : Txt.find x y = (i : Int) := by unfold Txt.find; rw [hf]
  rw [e]
  exact h _ _ (S.toks _)
theorem yields_txts {sh : Ledger} {it : Addr} {vs : List Value} {ss : List Str} {own : Ledger} {og : Gens} (h : TxtsAre vs ss) : Yields W sh it vs own og → YieldsR W sh it (fun (x : Str) v => ∃ t, v = .str x t) ss own og := by
  induction h generalizing own og with
  | nil => exact fun H => H
  | cons n t h ih => exact fun H => ⟨H.1, fun A R GR s Q E hA S hQ => H.2 A R GR s Q E hA S fun own' og' s' S' H' => hQ _ own' og' s' ⟨t, rfl⟩ S' (ih H')⟩
end
end Mine
end
section
open PySem PySem.W PyProof.Rows PySem.W.X PySem.SeqAt
set_option maxRecDepth 100000
set_option linter.unusedVariables false
namespace Mine
/-- the two ways to spell: of texts (false) and of values (true) -/
noncomputable def fL (b : Bool) : Nat → List Nat := if b then fA else fC
noncomputable def sgs (b : Bool) : List Nat := if b then [38, 60, 34, 9, 10, 13] else [38, 60, 62, 13]
noncomputable def ampL : List Nat := [97, 109, 112, 59]
noncomputable def nmOf (c : Nat) : List Nat := if c = 38 then ampL else if c = 60 then [108, 116, 59] else if c = 62 then [103, 116, 59] else if c = 34 then [113, 117, 111, 116, 59] else if c = 9 then [35, 120, 57, 59] else if c = 10 then [35, 120, 65, 59] else [35, 120, 68, 59]
noncomputable def nmd : List Nat := [38, 60, 62, 34, 9, 10, 13]
theorem fL_in {b : Bool} {c : Nat} (h : c ∈ sgs b) : fL b c = 38 :: nmOf c := by
  cases b
  · simp [sgs] at h
    rcases h with rfl | rfl | rfl | rfl <;> rfl
  · simp [sgs] at h
    rcases h with rfl | rfl | rfl | rfl | rfl | rfl <;> rfl
theorem fL_out {b : Bool} {c : Nat} (h : c ∉ sgs b) : fL b c = [c] := by
  cases b
  · simp [sgs] at h
    simp [fL, fC, h]
  · simp [sgs] at h
    simp [fL, fA, h]
theorem sgs_nmd {b : Bool} {c : Nat} (h : c ∈ sgs b) : c ∈ nmd := by
  cases b
  · simp [sgs] at h
    rcases h with rfl | rfl | rfl | rfl <;> decide
  · simp [sgs] at h
    rcases h with rfl | rfl | rfl | rfl | rfl | rfl <;> decide
/-- a sign gone through layers -/
noncomputable def spellL (ls : List Bool) (c : Nat) : List Nat := ls.foldl (fun acc b => acc.flatMap (fL b)) [c]
theorem spellL_snoc (ls : List Bool) (b : Bool) (c : Nat) : spellL (ls ++ [b]) c = (spellL ls c).flatMap (fL b) := by simp [spellL, List.foldl_append]
noncomputable def spell (ls : List Bool) (x : Str) : Str := mapS (spellL ls) x
theorem spell_nil (x : Str) : spell [] x = x := mapS_id x
theorem spell_snoc (ls : List Bool) (b : Bool) (x : Str) : spell (ls ++ [b]) x = mapS (fL b) (spell ls x) := by
  unfold spell
  rw [mapS_mapS]
  congr 1
  funext c
  exact spellL_snoc ls b c
end Mine
end
section
open PySem PySem.W PyProof.Rows PySem.W.X PySem.SeqAt
set_option maxRecDepth 100000
set_option linter.unusedVariables false
namespace Mine
/-- one of the row: a text, its own layer, the document's number -/
structure Rc where
  x : Str
  o : List Bool
  n : Nat
noncomputable def rcTx (cs : List Bool) (r : Rc) : Str := spell (r.o ++ cs.drop r.n) r.x
noncomputable def rcsTx (cs : List Bool) (rs : List Rc) : Str := cat (rs.map (rcTx cs))
theorem rcsTx_append (cs : List Bool) (a b : List Rc) : rcsTx cs (a ++ b) = rcsTx cs a ++ rcsTx cs b := by simp [rcsTx, cat_append]
theorem rcTx_own (cs : List Bool) (x : Str) (o : List Bool) : rcTx cs ⟨x, o, cs.length⟩ = spell o x := by
  unfold rcTx
  simp
theorem spell_one (b : Bool) (x : Str) : spell [b] x = mapS (fL b) x := by
  have := spell_snoc [] b x
  rw [spell_nil] at this
  exact this
theorem rc1c (cs : List Bool) (x : Str) : rcsTx cs [⟨x, [false], cs.length⟩] = escC x := by
  unfold rcsTx
  simp only [List.map_cons, List.map_nil, rcTx_own, spell_one]
  exact Str.append_empty _
noncomputable def fl0 (held : List Str) : List Str := if (cat held).length = 0 then [] else [escC (cat held)]
theorem cat_fl0 (held : List Str) : cat (fl0 held) = escC (cat held) := by
  unfold fl0
  split
  · rename_i h
    have : cat held = Str.empty := Str.ext' (List.length_eq_zero_iff.mp (by rw [← Str.len_list]; exact h))
    rw [this]; rfl
  · exact Str.append_empty _
theorem escC_append (a b : Str) : escC (a ++ b) = escC a ++ escC b := mapS_append _ _ _
/-- what a writer has written and holds -/
noncomputable def wtx (σ held : List Str) : Str := cat σ ++ escC (cat held)
theorem wtx_mark (σ held ms : List Str) : wtx (σ ++ (fl0 held ++ ms)) [] = wtx σ held ++ cat ms := by
  unfold wtx
  rw [cat_append, cat_append, cat_fl0]
  show _ ++ escC Str.empty = _
  have : escC Str.empty = Str.empty := rfl
  rw [this, Str.append_empty, Str.append_assoc]
theorem wtx_data (σ held : List Str) (x : Str) : wtx σ (held ++ [x]) = wtx σ held ++ escC x := by
  unfold wtx
  rw [cat_append, escC_append]
  have : cat [x] = x := Str.append_empty _
  rw [this, Str.append_assoc]
end Mine
namespace Mine
noncomputable def Inv (cs : List Bool) (σ held : List Str) (rs : List Rc) : Prop := wtx σ held = rcsTx cs rs ∧ ∀ r ∈ rs, r.n ≤ cs.length ∧ r.o.length ≤ 1
theorem Inv.mark {cs : List Bool} {σ held : List Str} {rs : List Rc} (h : Inv cs σ held rs) (ms : List Str) (new : List Rc) (h1 : rcsTx cs new = cat ms) (h2 : ∀ r ∈ new, r.n ≤ cs.length ∧ r.o.length ≤ 1) : Inv cs (σ ++ (fl0 held ++ ms)) [] (rs ++ new) := by
  refine ⟨?_, fun r hr => ?_⟩
  · rw [wtx_mark, h.1, rcsTx_append, h1]
  · rcases List.mem_append.mp hr with hr | hr
    · exact h.2 r hr
    · exact h2 r hr
theorem Inv.data {cs : List Bool} {σ held : List Str} {rs : List Rc} (h : Inv cs σ held rs) (x : Str) : Inv cs σ (held ++ [x]) (rs ++ [⟨x, [false], cs.length⟩]) := by
  refine ⟨?_, fun r hr => ?_⟩
  · rw [wtx_data, h.1, rcsTx_append, rc1c]
  · rcases List.mem_append.mp hr with hr | hr
    · exact h.2 r hr
    · rw [List.mem_singleton.mp hr]; exact ⟨Nat.le_refl _, Nat.le_refl _⟩
end Mine
end
section
open PySem PySem.W PyProof.Rows PySem.W.X PySem.SeqAt
set_option maxRecDepth 100000
set_option linter.unusedVariables false
namespace Mine
/-- a document of law 01: texts, and documents in it: 0 a text of t, 1 a value of v, 2 a comment, 3 an instruction -/
inductive Dc
  | nil
  | txt (x : Str) (r : Dc)
  | node (k : Nat) (d r : Dc)
noncomputable def opn : Nat → Str
  | 0 => "<t>"
  | 1 => "<v k=\""
  | 2 => "<!--"
  | _ => "<?p "
noncomputable def clo : Nat → Str
  | 0 => "</t>"
  | 1 => "\"></v>"
  | 2 => "-->"
  | _ => "?>"
noncomputable def esK (k : Nat) (x : Str) : Str := if k = 1 then escA x else escC x
noncomputable def bodyD : Dc → Str
  | .nil => Str.empty
  | .txt x r => escC x ++ bodyD r
  | .node k d r => opn k ++ (esK k ("<d>" ++ (bodyD d ++ "</d>")) ++ (clo k ++ bodyD r))
noncomputable def wrD (d : Dc) : Str := "<d>" ++ (bodyD d ++ "</d>")
noncomputable def WfD : Bool → Dc → Prop
  | _, .nil => True
  | b, .txt x r => b = true ∧ x.length ≠ 0 ∧ WfD false r
  | _, .node k d r => k < 4 ∧ WfD true d ∧ WfD true r
open PySem.Builtin.Str in
theorem subAt_get {x y : Str} {i : Nat} (h : subAt x y i = true) (j : Nat) (hj : j < y.length) : x.cps.toList[i + j]? = y.cps.toList[j]? := by
  unfold subAt at h
  have e : (x.cps.extract i (i + y.length)).toList = y.cps.toList := by rw [eq_of_beq h]
  rw [← e]
  simp only [Array.toList_extract, List.extract_eq_drop_take]
  rw [List.getElem?_take, List.getElem?_drop]
  rw [if_pos (by omega)]
open PySem.Builtin.Str in
theorem subAt_mid {x y : Str} {A R : List Nat} (hx : x.cps.toList = A ++ (y.cps.toList ++ R)) : subAt x y A.length = true := by
  unfold subAt
  rw [beq_iff_eq]
  apply Array.toList_inj.mp
  simp only [Array.toList_extract, List.extract_eq_drop_take]
  rw [hx, List.drop_left, Str.len_list]
  simp
open PySem.Builtin.Str in
/-- where a text is found first -/
theorem find_at {x y : Str} {A R : List Nat} (hx : x.cps.toList = A ++ (y.cps.toList ++ R)) (h : ∀ i < A.length, ∃ j, j < y.length ∧ (A ++ (y.cps.toList ++ R))[i + j]? ≠ y.cps.toList[j]?) : occurrences x y 0 x.length 1 = [A.length] := by
  have hl : A.length + y.length ≤ x.length := by
    rw [Str.len_list x, hx, Str.len_list y]
    simp
  have hat : StrLaws.At x y x.length A.length := ⟨hl, subAt_mid hx⟩
  rcases StrLaws.occ_head x y 1 (Nat.le_refl 1) with ⟨h0, hn⟩ | ⟨i, r, he, ha, hn⟩
  · exact absurd hat (hn _)
  · have hi : i = A.length := by
      rcases Nat.lt_trichotomy i A.length with hlt | e | hgt
      · obtain ⟨j, hj, hne⟩ := h i hlt
        have := subAt_get ha.2 j hj
        rw [hx] at this
        exact absurd this hne
      · exact e
      · exact absurd hat (hn _ hgt)
    have hle := StrLaws.occ_length_le x y 0 x.length 1
    rw [he] at hle ⊢
    cases r with
    | nil => rw [hi]
    | cons a b => simp at hle
end Mine
end
section
open PySem PySem.W PyProof.Rows PySem.W.X PySem.SeqAt
set_option maxRecDepth 100000
set_option linter.unusedVariables false
namespace Mine
open PySem.Builtin.Str in
/-- found first where its last sign stands nowhere before -/
theorem find_last {x y : Str} {A R m : List Nat} {c : Nat} (hx : x.cps.toList = A ++ (y.cps.toList ++ R)) (hy : y.cps.toList = m ++ [c]) (hm : c ∉ m) (hA : ∀ i, m.length ≤ i → A[i]? ≠ some c) : occurrences x y 0 x.length 1 = [A.length] := by
  have hyl : y.length = m.length + 1 := by rw [Str.len_list, hy]; simp
  refine find_at hx fun i hi => ⟨m.length, by omega, ?_⟩
  rw [hy, List.getElem?_append_right (Nat.le_refl _), Nat.sub_self]
  show _ ≠ some c
  by_cases h : i + m.length < A.length
  · rw [List.getElem?_append_left h]
    exact hA _ (by omega)
  · rw [List.getElem?_append_right (by omega), List.append_assoc, List.getElem?_append_left (by omega)]
    intro e
    exact hm (List.mem_of_getElem? e)
theorem escC_free {x : Str} {c : Nat} (h : c = 60 ∨ c = 62 ∨ c = 13) : c ∉ (escC x).cps.toList := by
  intro m
  rw [show (escC x).cps.toList = x.cps.toList.flatMap fC from rfl] at m
  obtain ⟨d, _, hd⟩ := List.mem_flatMap.mp m
  unfold fC at hd
  rcases h with rfl | rfl | rfl <;> (repeat' split at hd) <;> simp at hd <;> omega
theorem escA_free {x : Str} {c : Nat} (h : c = 60 ∨ c = 34) : c ∉ (escA x).cps.toList := by
  intro m
  rw [show (escA x).cps.toList = x.cps.toList.flatMap fA from rfl] at m
  obtain ⟨d, _, hd⟩ := List.mem_flatMap.mp m
  unfold fA at hd
  rcases h with rfl | rfl <;> (repeat' split at hd) <;> simp at hd <;> omega
theorem free_get {l : List Nat} {c : Nat} (h : c ∉ l) (i : Nat) : l[i]? ≠ some c := fun e => h (List.mem_of_getElem? e)
open PySem.Builtin.Str in
/-- the end of what begins is where it was written -/
theorem find_clo {x t r : Str} {k : Nat} (hk : k < 4) (ht : ∃ l, t.cps.toList = 60 :: l) (hx : x = opn k ++ (esK k t ++ (clo k ++ r))) : occurrences x (clo k) 0 x.length 1 = [(opn k ++ esK k t).length] := by
  have hl : x.cps.toList = (opn k ++ esK k t).cps.toList ++ ((clo k).cps.toList ++ r.cps.toList) := by
    rw [hx]; simp [Str.cps_append]
  rw [Str.len_list (opn k ++ esK k t)]
  match k, hk with
  | 0, _ =>
    refine find_last hl (m := [60, 47, 116]) (c := 62) (by decide +kernel) (by decide) fun i hi => ?_
    rw [Str.cps_append, Array.toList_append, List.getElem?_append_right (by exact hi)]
    exact free_get (escC_free (.inr (.inl rfl))) _
  | 2, _ =>
    refine find_last hl (m := [45, 45]) (c := 62) (by decide +kernel) (by decide) fun i hi => ?_
    rw [Str.cps_append, Array.toList_append]
    refine free_get ?_ i
    rw [List.mem_append]
    rintro (h | h)
    · exact absurd h (by decide +kernel)
    · exact escC_free (.inr (.inl rfl)) h
  | 3, _ =>
    refine find_last hl (m := [63]) (c := 62) (by decide +kernel) (by decide) fun i hi => ?_
    rw [Str.cps_append, Array.toList_append]
    refine free_get ?_ i
    rw [List.mem_append]
    rintro (h | h)
    · exact absurd h (by decide +kernel)
    · exact escC_free (.inr (.inl rfl)) h
  | 1, _ =>
    obtain ⟨l, hl0⟩ := ht
    have he : (esK 1 t).cps.toList = 38 :: ([108, 116, 59] ++ l.flatMap fA) := by
      show t.cps.toList.flatMap fA = _
      rw [hl0]; rfl
    have hcl : (clo 1).cps.toList = [34, 62, 60, 47, 118, 62] := by decide +kernel
    have hop : (opn 1).cps.toList = [60, 118, 32, 107, 61, 34] := by decide +kernel
    refine find_at hl fun i hi => ?_
    rw [hcl]
    have hfree : 34 ∉ (esK 1 t).cps.toList := escA_free (.inr rfl)
    by_cases h5 : i = 5
    · subst h5
      refine ⟨1, by decide +kernel, ?_⟩
      rw [Str.cps_append, Array.toList_append, hop, he]
      simp
    · refine ⟨0, by decide +kernel, ?_⟩
      rw [Nat.add_zero, List.getElem?_append_left hi, Str.cps_append, Array.toList_append, hop]
      by_cases h6 : i < 6
      · rw [List.getElem?_append_left h6]
        obtain rfl | rfl | rfl | rfl | rfl : i = 0 ∨ i = 1 ∨ i = 2 ∨ i = 3 ∨ i = 4 := by omega
        all_goals decide
      · rw [List.getElem?_append_right (by simpa using h6)]
        exact free_get hfree _
end Mine
end
section
open PySem PySem.W PyProof.Rows PySem.W.X PySem.SeqAt
set_option maxRecDepth 100000
set_option linter.unusedVariables false
namespace Mine
/-- the stretches between the signs that are spelled -/
noncomputable def seg (b : Bool) : List Nat → List Nat × List (Nat × List Nat)
  | [] => ([], [])
  | c :: s => if c ∈ sgs b then ([], (c, (seg b s).1) :: (seg b s).2) else (c :: (seg b s).1, (seg b s).2)
theorem seg_out (b : Bool) (s : List Nat) : (seg b s).1 ++ (seg b s).2.flatMap (fun p => p.1 :: p.2) = s := by
  induction s with
  | nil => rfl
  | cons c s ih =>
    unfold seg
    split
    · simp [ih]
    · simp [ih]
theorem seg_esc (b : Bool) (s : List Nat) : (seg b s).1 ++ (seg b s).2.flatMap (fun p => 38 :: (nmOf p.1 ++ p.2)) = s.flatMap (fL b) := by
  induction s with
  | nil => rfl
  | cons c s ih =>
    rw [List.flatMap_cons]
    by_cases h : c ∈ sgs b
    · rw [fL_in h, ← ih]
      have e : seg b (c :: s) = ([], (c, (seg b s).1) :: (seg b s).2) := if_pos h
      rw [e]; simp
    · rw [fL_out h, ← ih]
      have e : seg b (c :: s) = (c :: (seg b s).1, (seg b s).2) := if_neg h
      rw [e]; simp
theorem sgs_38 (b : Bool) : 38 ∈ sgs b := by cases b <;> decide
theorem seg_free (b : Bool) (s : List Nat) : 38 ∉ (seg b s).1 ∧ ∀ p ∈ (seg b s).2, p.1 ∈ sgs b ∧ 38 ∉ p.2 := by
  induction s with
  | nil => exact ⟨by simp [seg], by simp [seg]⟩
  | cons c s ih =>
    unfold seg
    split
    · rename_i h
      refine ⟨by simp, fun p hp => ?_⟩
      rcases List.mem_cons.mp hp with rfl | hp
      · exact ⟨h, ih.1⟩
      · exact ih.2 p hp
    · rename_i h
      refine ⟨fun m => ?_, ih.2⟩
      rcases List.mem_cons.mp m with rfl | m
      · exact h (sgs_38 b)
      · exact ih.1 m
theorem nmOf_free (c : Nat) : 38 ∉ nmOf c := by
  unfold nmOf ampL
  repeat' split
  all_goals decide
theorem cut_eq {c : Nat} : ∀ {a b x y : List Nat}, c ∉ a → c ∉ b → a ++ c :: x = b ++ c :: y → a = b ∧ x = y
  | [], [], _, _, _, _, h => ⟨rfl, by simpa using h⟩
  | [], d :: b, _, _, _, hb, h => by
    simp at h
    exact absurd (by rw [h.1]; exact .head _) hb
  | d :: a, [], _, _, ha, _, h => by
    simp at h
    exact absurd (by rw [← h.1]; exact .head _) ha
  | d :: a, e :: b, x, y, ha, hb, h => by
    simp at h
    obtain ⟨rfl, h⟩ := h
    have := cut_eq (fun m => ha (.tail _ m)) (fun m => hb (.tail _ m)) h
    exact ⟨by rw [this.1], this.2⟩
theorem join_two (c : Nat) (p q : Str) (r : List Str) : (Str.join ⟨#[c]⟩ (p :: q :: r)).cps.toList = p.cps.toList ++ c :: (Str.join ⟨#[c]⟩ (q :: r)).cps.toList := by
  show (p ++ ⟨#[c]⟩ ++ Str.join ⟨#[c]⟩ (q :: r)).cps.toList = _
  simp [Str.cps_append]
/-- what is cut at a sign is cut in one way -/
theorem join_inj (c : Nat) : ∀ (P Q : List Str), P ≠ [] → Q ≠ [] → (∀ p ∈ P, c ∉ p.cps.toList) → (∀ p ∈ Q, c ∉ p.cps.toList) → (Str.join ⟨#[c]⟩ P).cps.toList = (Str.join ⟨#[c]⟩ Q).cps.toList → P = Q
  | [], _, h, _, _, _, _ => absurd rfl h
  | _ :: _, [], _, h, _, _, _ => absurd rfl h
  | [p], [q], _, _, _, _, e => by rw [Str.ext' (show p.cps.toList = q.cps.toList from e)]
  | [p], q :: q2 :: r, _, _, hp, _, e => by
    rw [join_two] at e
    have e : p.cps.toList = q.cps.toList ++ c :: (Str.join ⟨#[c]⟩ (q2 :: r)).cps.toList := e
    exact absurd (by rw [e]; simp) (hp p (.head _))
  | p :: p2 :: r, [q], _, _, _, hq, e => by
    rw [join_two] at e
    have e : p.cps.toList ++ c :: (Str.join ⟨#[c]⟩ (p2 :: r)).cps.toList = q.cps.toList := e
    exact absurd (by rw [← e]; simp) (hq q (.head _))
  | p :: p2 :: r, q :: q2 :: r', _, _, hp, hq, e => by
    rw [join_two, join_two] at e
    have h := cut_eq (hp p (.head _)) (hq q (.head _)) e
    rw [Str.ext' h.1, join_inj c (p2 :: r) (q2 :: r') (by simp) (by simp) (fun x hx => hp x (.tail _ hx)) (fun x hx => hq x (.tail _ hx)) h.2]
noncomputable def sS (l : List Nat) : Str := ⟨l.toArray⟩
theorem join_segs (c : Nat) (f : Nat × List Nat → List Nat) : ∀ (h : List Nat) (t : List (Nat × List Nat)), (Str.join ⟨#[c]⟩ (sS h :: t.map fun p => sS (f p))).cps.toList = h ++ t.flatMap (fun p => c :: f p)
  | h, [] => by show h = _; simp
  | h, p :: t => by
    rw [List.map_cons, join_two, join_segs c f (f p) t]
    simp [sS]
/-- a spelled text cut at & -/
theorem split_esc (b : Bool) (x : Str) : Txt.split (mapS (fL b) x) ⟨#[38]⟩ = sS (seg b x.cps.toList).1 :: (seg b x.cps.toList).2.map fun p => sS (nmOf p.1 ++ p.2) := by
  have hf := seg_free b x.cps.toList
  refine join_inj 38 _ _ ?_ (by simp) (StrLaws.split_free _ 38) ?_ ?_
  · intro e
    have e2 : ∀ x y : Str, Txt.split x y ≠ [] := by
      intro x y h
      unfold Txt.split at h
      split at h
      · cases h
      · split at h
        · cases h
        · rw [StrLaws.partsBetween_eq] at h
          obtain ⟨p, r, h2⟩ := StrLaws.partsFrom_ne x y.length 0 (PySem.Builtin.Str.occurrences x y 0 x.length (x.length + 1))
          rw [h2] at h; cases h
    exact e2 _ _ e
  · intro p hp
    rcases List.mem_cons.mp hp with rfl | hp
    · exact hf.1
    · obtain ⟨q, hq, rfl⟩ := List.mem_map.mp hp
      show 38 ∉ nmOf q.1 ++ q.2
      rw [List.mem_append]
      rintro (h | h)
      · exact nmOf_free _ h
      · exact (hf.2 q hq).2 h
  · rw [StrLaws.join_split, join_segs 38 (fun p => nmOf p.1 ++ p.2)]
    exact (seg_esc b _).symm
end Mine
end
section
open PySem PySem.W PyProof.Rows PySem.W.X PySem.SeqAt
set_option maxRecDepth 100000
set_option linter.unusedVariables false
namespace Mine
/-- a name without its semicolon -/
noncomputable def nmI (c : Nat) : List Nat := (nmOf c).dropLast
theorem nmI_eq (c : Nat) : nmOf c = nmI c ++ [59] := by
  unfold nmI nmOf ampL
  repeat' split
  all_goals rfl
theorem nmI_free (c : Nat) : 59 ∉ nmI c := by
  unfold nmI nmOf ampL
  repeat' split
  all_goals decide
open PySem.Builtin.Str in
theorem find_semi (c : Nat) (r : List Nat) : occurrences (sS (nmOf c ++ r)) ";" 0 (sS (nmOf c ++ r)).length 1 = [(nmI c).length] := by
  have hy : (";" : Str).cps.toList = [59] := by decide +kernel
  refine find_last (R := r) (m := []) (c := 59) ?_ hy (by simp) fun i _ => free_get (nmI_free c) i
  rw [hy, ← List.append_assoc, ← nmI_eq]
  rfl
/-- the first signs of a document's inside -/
theorem body_first {d : Dc} (h : WfD false d) : bodyD d = Str.empty ∨ ∃ l, (bodyD d).cps.toList = 60 :: l := by
  cases d with
  | nil => exact .inl rfl
  | txt x r => exact absurd h.1 (by decide)
  | node k d r =>
    refine .inr ?_
    have hk : k < 4 := h.1
    have e : (bodyD (.node k d r)).cps.toList = (opn k).cps.toList ++ ((esK k (wrD d)).cps.toList ++ ((clo k).cps.toList ++ (bodyD r).cps.toList)) := by
      show (opn k ++ (esK k (wrD d) ++ (clo k ++ bodyD r))).cps.toList = _
      simp [Str.cps_append]
    rw [e]
    match k, hk with
    | 0, _ => exact ⟨_, rfl⟩
    | 1, _ => exact ⟨_, rfl⟩
    | 2, _ => exact ⟨_, rfl⟩
    | 3, _ => exact ⟨_, rfl⟩
theorem escC_cons {x : Str} (h : x.length ≠ 0) : ∃ c l, (escC x).cps.toList = c :: l ∧ c ≠ 60 := by
  rw [Str.len_list] at h
  have hf : 60 ∉ (escC x).cps.toList := escC_free (.inl rfl)
  cases hx : x.cps.toList with
  | nil => rw [hx] at h; exact absurd rfl h
  | cons c s =>
    have e : (escC x).cps.toList = fC c ++ s.flatMap fC := by
      show x.cps.toList.flatMap fC = _
      rw [hx]; rfl
    have hne : ∃ a l, fC c = a :: l := by
      unfold fC
      repeat' split
      all_goals exact ⟨_, _, rfl⟩
    obtain ⟨a, l, hal⟩ := hne
    rw [hal] at e
    exact ⟨a, _, e, fun q => hf (by rw [e, q]; exact .head _)⟩
open PySem.Builtin.Str in
/-- a text ends where the next mark begins -/
theorem find_mark {x : Str} {d : Dc} (h : WfD false d) : occurrences (escC x ++ bodyD d ++ "<") "<" 0 (escC x ++ bodyD d ++ "<").length 1 = [(escC x).length] := by
  have hy : ("<" : Str).cps.toList = [60] := by decide +kernel
  rw [Str.len_list (escC x)]
  have hfree : ∀ i : Nat, ([] : List Nat).length ≤ i → (escC x).cps.toList[i]? ≠ some 60 := fun i _ => free_get (escC_free (.inl rfl)) i
  rcases body_first h with e | ⟨l, e⟩
  · refine find_last (R := []) (m := []) (c := 60) ?_ hy (by simp) hfree
    rw [e, hy]
    simp [Str.cps_append, hy]
    rfl
  · refine find_last (R := l ++ [60]) (m := []) (c := 60) ?_ hy (by simp) hfree
    rw [hy]
    simp [Str.cps_append, hy, e]
/-- which mark begins -/
noncomputable def begins (l : Str) (k : Nat) : Bool := decide (l.cps.toList.take (opn k).length = (opn k).cps.toList)
theorem begins_node {d r : Dc} {k j : Nat} (hk : k < 4) (hj : j < 4) : begins (bodyD (.node k d r)) j = decide (j = k) := by
  have e : (bodyD (.node k d r)).cps.toList = (opn k).cps.toList ++ ((esK k (wrD d)).cps.toList ++ ((clo k).cps.toList ++ (bodyD r).cps.toList)) := by
    show (opn k ++ (esK k (wrD d) ++ (clo k ++ bodyD r))).cps.toList = _
    simp [Str.cps_append]
  unfold begins
  rw [e]
  generalize (esK k (wrD d)).cps.toList ++ ((clo k).cps.toList ++ (bodyD r).cps.toList) = Z
  have o0 : (opn 0).cps.toList = [60, 116, 62] := by decide +kernel
  have o1 : (opn 1).cps.toList = [60, 118, 32, 107, 61, 34] := by decide +kernel
  have o2 : (opn 2).cps.toList = [60, 33, 45, 45] := by decide +kernel
  have o3 : (opn 3).cps.toList = [60, 63, 112, 32] := by decide +kernel
  rw [Str.len_list]
  obtain rfl | rfl | rfl | rfl : k = 0 ∨ k = 1 ∨ k = 2 ∨ k = 3 := by omega
  all_goals
    obtain rfl | rfl | rfl | rfl : j = 0 ∨ j = 1 ∨ j = 2 ∨ j = 3 := by omega
    all_goals (simp only [o0, o1, o2, o3]; simp)
theorem begins_txt {x : Str} {r : Dc} {j : Nat} (hj : j < 4) (hx : x.length ≠ 0) : begins (bodyD (.txt x r)) j = false := by
  obtain ⟨c, l, e, hc⟩ := escC_cons hx
  have e2 : (bodyD (.txt x r)).cps.toList = c :: (l ++ (bodyD r).cps.toList) := by
    show (escC x ++ bodyD r).cps.toList = _
    simp [Str.cps_append, e]
  unfold begins
  rw [e2, decide_eq_false_iff_not, Str.len_list]
  intro h
  obtain rfl | rfl | rfl | rfl : j = 0 ∨ j = 1 ∨ j = 2 ∨ j = 3 := by omega
  all_goals
    have o0 : (opn 0).cps.toList = [60, 116, 62] := by decide +kernel
    have o1 : (opn 1).cps.toList = [60, 118, 32, 107, 61, 34] := by decide +kernel
    have o2 : (opn 2).cps.toList = [60, 33, 45, 45] := by decide +kernel
    have o3 : (opn 3).cps.toList = [60, 63, 112, 32] := by decide +kernel
    simp only [o0, o1, o2, o3] at h
    simp at h
    exact hc h.1
end Mine
end
section
open PySem PySem.W PyProof.Rows PySem.W.X PySem.SeqAt
set_option maxRecDepth 100000
set_option linter.unusedVariables false
namespace Mine
/-- how many signs are spelled somewhere -/
noncomputable def spl (l : List Nat) : Nat := l.countP fun c => decide (c ∈ nmd)
theorem spl_append (a b : List Nat) : spl (a ++ b) = spl a + spl b := List.countP_append
theorem spl_le (a : List Nat) : spl a ≤ a.length := List.countP_le_length
theorem spl_fL (b : Bool) (c : Nat) : spl (fL b c) = spl [c] ∧ (fL b c).length ≤ 1 + 5 * spl [c] := by
  by_cases h : c ∈ nmd
  · simp only [nmd, List.mem_cons, List.not_mem_nil, or_false] at h
    rcases h with rfl | rfl | rfl | rfl | rfl | rfl | rfl <;> cases b <;> decide
  · have h2 : c ∉ sgs b := fun m => h (sgs_nmd m)
    rw [fL_out h2]
    exact ⟨rfl, by simp⟩
theorem spl_flat (b : Bool) : ∀ l : List Nat, spl (l.flatMap (fL b)) = spl l ∧ (l.flatMap (fL b)).length ≤ l.length + 5 * spl l
  | [] => ⟨rfl, Nat.le_refl _⟩
  | c :: l => by
    have h1 := spl_fL b c
    have h2 := spl_flat b l
    have h3 : spl (c :: l) = spl [c] + spl l := spl_append [c] l
    rw [List.flatMap_cons, spl_append, List.length_append, List.length_cons]
    omega
theorem esK_as (k : Nat) (x : Str) : ∃ b, esK k x = mapS (fL b) x := by
  unfold esK
  split
  · exact ⟨true, rfl⟩
  · exact ⟨false, rfl⟩
theorem spl_esK (k : Nat) (x : Str) : spl (esK k x).cps.toList = spl x.cps.toList ∧ (esK k x).length ≤ x.length + 5 * spl x.cps.toList := by
  obtain ⟨b, e⟩ := esK_as k x
  rw [e, Str.len_list, Str.len_list x]
  exact spl_flat b _
/-- how much a document says, raw -/
noncomputable def raw : Dc → Nat
  | .nil => 0
  | .txt x r => x.length + raw r
  | .node _ d r => 20 + raw d + raw r
/-- how deep it goes -/
noncomputable def dep : Dc → Nat
  | .nil => 1
  | .txt _ r => dep r
  | .node _ d r => max (dep d + 1) (dep r)
theorem opn_len (k : Nat) : (opn k).length + (clo k).length ≤ 12 := by
  match k with
  | 0 => decide +kernel
  | 1 => decide +kernel
  | 2 => decide +kernel
  | n + 3 => show (opn 3).length + (clo 3).length ≤ 12; decide +kernel
theorem spl_str (a b : Str) : spl (a ++ b).cps.toList = spl a.cps.toList + spl b.cps.toList := by
  rw [Str.cps_append, Array.toList_append, spl_append]
theorem spl_body : ∀ d : Dc, spl (bodyD d).cps.toList ≤ raw d
  | .nil => Nat.le_refl 0
  | .txt x r => by
    have h1 := (spl_esK 0 x).1
    have h2 := spl_le x.cps.toList
    have h3 := spl_body r
    have e : spl (bodyD (.txt x r)).cps.toList = spl (esK 0 x).cps.toList + spl (bodyD r).cps.toList := spl_str _ _
    rw [e, h1]
    unfold raw
    rw [Str.len_list]
    omega
  | .node k d r => by
    have h1 := (spl_esK k (wrD d)).1
    have h3 := spl_body r
    have h4 := spl_body d
    have e : spl (bodyD (.node k d r)).cps.toList = spl (opn k).cps.toList + (spl (esK k (wrD d)).cps.toList + (spl (clo k).cps.toList + spl (bodyD r).cps.toList)) := by
      show spl (opn k ++ (esK k (wrD d) ++ (clo k ++ bodyD r))).cps.toList = _
      rw [spl_str, spl_str, spl_str]
    have e2 : spl (wrD d).cps.toList = 2 + (spl (bodyD d).cps.toList + 2) := by
      show spl ("<d>" ++ (bodyD d ++ "</d>")).cps.toList = _
      rw [spl_str, spl_str]
      rfl
    have h5 := spl_le (opn k).cps.toList
    have h6 := spl_le (clo k).cps.toList
    have h7 := opn_len k
    rw [Str.len_list, Str.len_list] at h7
    rw [e, h1, e2]
    unfold raw
    omega
theorem wrD_len (d : Dc) : (wrD d).length = (bodyD d).length + 7 := by
  show ("<d>" ++ (bodyD d ++ "</d>")).length = _
  rw [Str.length_append, Str.length_append]
  have h1 : ("<d>" : Str).length = 3 := by decide +kernel
  have h2 : ("</d>" : Str).length = 4 := by decide +kernel
  omega
theorem spl_wr (d : Dc) : spl (wrD d).cps.toList ≤ 4 + raw d := by
  have e2 : spl (wrD d).cps.toList = 2 + (spl (bodyD d).cps.toList + 2) := by
    show spl ("<d>" ++ (bodyD d ++ "</d>")).cps.toList = _
    rw [spl_str, spl_str]
    rfl
  have := spl_body d
  omega
theorem body_len : ∀ (d : Dc) (n : Nat), dep d ≤ n → (bodyD d).length ≤ (1 + 5 * n) * raw d
  | .nil, n, h => by show 0 ≤ _; omega
  | .txt x r, n, h => by
    have h1 := (spl_esK 0 x).2
    have h2 := spl_le x.cps.toList
    have hn : 1 ≤ n := by
      have : ∀ d : Dc, 1 ≤ dep d := by
        intro d
        induction d with
        | nil => exact Nat.le_refl _
        | txt x r ih => exact ih
        | node k d r i1 i2 => exact Nat.le_trans i2 (Nat.le_max_right _ _)
      exact Nat.le_trans (this _) h
    have h3 := body_len r n h
    have e : (bodyD (.txt x r)).length = (esK 0 x).length + (bodyD r).length := Str.length_append _ _
    rw [← Str.len_list] at h2
    rw [e]
    unfold raw
    rw [Nat.mul_add]
    have h5 : 6 * x.length ≤ (1 + 5 * n) * x.length := Nat.mul_le_mul_right _ (by omega)
    omega
  | .node k d r, n, h => by
    have hd : dep d + 1 ≤ n := Nat.le_trans (Nat.le_max_left _ _) h
    have hr : dep r ≤ n := Nat.le_trans (Nat.le_max_right _ _) h
    obtain ⟨m, rfl⟩ : ∃ m, n = m + 1 := ⟨n - 1, by omega⟩
    have h3 := body_len r (m + 1) hr
    have h4 := body_len d m (by omega)
    have h1 := (spl_esK k (wrD d)).2
    have h2 := spl_wr d
    have h7 := opn_len k
    have hw := wrD_len d
    have e : (bodyD (.node k d r)).length = (opn k).length + ((esK k (wrD d)).length + ((clo k).length + (bodyD r).length)) := by
      show (opn k ++ (esK k (wrD d) ++ (clo k ++ bodyD r))).length = _
      rw [Str.length_append, Str.length_append, Str.length_append]
    have h8 : (1 + 5 * m) * raw d + 5 * raw d = (1 + 5 * (m + 1)) * raw d := by
      rw [← Nat.add_mul]; congr 1
    have h9 : (1 + 5 * (m + 1)) * (20 + raw d + raw r) = (1 + 5 * (m + 1)) * 20 + (1 + 5 * (m + 1)) * raw d + (1 + 5 * (m + 1)) * raw r := by
      rw [Nat.mul_add, Nat.mul_add]
    rw [e]
    unfold raw
    rw [h9]
    omega
end Mine
end
section
open PySem PySem.W PyProof.Rows PySem.W.X PySem.SeqAt
set_option maxRecDepth 100000
set_option linter.unusedVariables false
namespace Mine
theorem slice_to {x : Str} {A B : List Nat} {j : Int} (hx : x.cps.toList = A ++ B) (hj : j = (A.length : Int)) : Txt.slice x none (some j) = sS A := by
  have h := StrLaws.sliceText_to (x := x) (j := j) (by rw [hx, List.length_append]; omega)
  have e : Txt.slice x none (some j) = StrLaws.sliceText x none (some j) := rfl
  rw [e, h, hx, hj]
  simp [sS]
theorem slice_fr {x : Str} {A B : List Nat} {j : Int} (hx : x.cps.toList = A ++ B) (hj : j = (A.length : Int)) : Txt.slice x (some j) none = sS B := by
  have h := StrLaws.sliceText_from (x := x) (i := j) (by rw [hx, List.length_append]; omega)
  have e : Txt.slice x (some j) none = StrLaws.sliceText x (some j) none := rfl
  have e2 : (((A ++ B).length : Int) - (A.length : Int)).toNat = B.length := by rw [List.length_append]; omega
  rw [e, h, hx, hj, e2]
  simp [sS]
theorem slice_mid {x : Str} {A B C : List Nat} {i j : Int} (hx : x.cps.toList = A ++ (B ++ C)) (hi : i = (A.length : Int)) (hj : j = ((A.length + B.length : Nat) : Int)) : Txt.slice x (some i) (some j) = sS B := by
  have h := StrLaws.sliceText_plain (x := x) (i := i) (j := j) (by rw [hx]; simp only [List.length_append]; omega)
  have e : Txt.slice x (some i) (some j) = StrLaws.sliceText x (some i) (some j) := rfl
  have e2 : (j - i).toNat = B.length := by omega
  have e3 : i.toNat = A.length := by omega
  rw [e, h, hx, e2, e3]
  simp [sS]
theorem sS_list (x : Str) : sS x.cps.toList = x := Str.ext' rfl
end Mine
end
section
open PySem PySem.W PyProof.Rows PySem.W.X PySem.SeqAt
set_option maxRecDepth 100000
set_option linter.unusedVariables false
namespace Mine
open PySem.Builtin.Str in
theorem slice_take (x : Str) (n : Nat) : (Txt.slice x none (some (n : Int))).cps.toList = x.cps.toList.take n := by
  by_cases h : n ≤ x.cps.toList.length
  · have := slice_to (x := x) (A := x.cps.toList.take n) (B := x.cps.toList.drop n) (j := (n : Int)) (List.take_append_drop _ _).symm (by rw [List.length_take]; omega)
    rw [this]; rfl
  · have hl := Str.len_list x
    have e : Txt.slice x none (some (n : Int)) = Txt.slice x none (some (x.length : Int)) := by
      show StrLaws.sliceText x none (some (n : Int)) = StrLaws.sliceText x none (some (x.length : Int))
      have e2 : strSliceIndices none (some (n : Int)) 1 x.length = strSliceIndices none (some (x.length : Int)) 1 x.length := by
        have a : ¬ ((n : Int) < 0) := by omega
        have b : ¬ ((x.length : Int) < 0) := by omega
        have c : min (n : Int) x.length = x.length := by omega
        simp [strSliceIndices, a, b, c]
      unfold StrLaws.sliceText
      rw [e2]
    have := slice_to (x := x) (A := x.cps.toList) (B := []) (j := (x.length : Int)) (by simp) (by rw [hl])
    rw [e, this, List.take_of_length_le (by omega)]; rfl
theorem wrD_list (d : Dc) : (wrD d).cps.toList = ("<d>" : Str).cps.toList ++ ((bodyD d).cps.toList ++ ("</d>" : Str).cps.toList) := by
  show ("<d>" ++ (bodyD d ++ "</d>")).cps.toList = _
  simp [Str.cps_append]
theorem sl_open (d : Dc) : Txt.slice (wrD d) none (some 3) = "<d>" := by
  rw [slice_to (wrD_list d) (by decide +kernel), sS_list]
theorem sl_close (d : Dc) : Txt.slice (wrD d) (some (-4)) none = "</d>" := by
  have hw := wrD_len d
  have h := StrLaws.sliceText_neg_lo (wrD d) none (i := -4) (by decide) (by omega)
  have e : Txt.slice (wrD d) (some (-4)) none = StrLaws.sliceText (wrD d) (some (-4)) none := rfl
  rw [e, h]
  show Txt.slice (wrD d) _ none = _
  have h3 : ("<d>" : Str).cps.toList.length = 3 := by decide +kernel
  rw [slice_fr (A := ("<d>" : Str).cps.toList ++ (bodyD d).cps.toList) (B := ("</d>" : Str).cps.toList) (by rw [wrD_list, List.append_assoc]) (by rw [List.length_append, h3, ← Str.len_list]; omega), sS_list]
theorem sl_body (d : Dc) : Txt.slice (wrD d) (some 3) (some (-4)) = bodyD d := by
  have hw := wrD_len d
  have h := StrLaws.sliceText_neg_hi (wrD d) (some 3) (j := -4) (by decide) (by omega)
  have e : Txt.slice (wrD d) (some 3) (some (-4)) = StrLaws.sliceText (wrD d) (some 3) (some (-4)) := rfl
  rw [e, h]
  show Txt.slice (wrD d) (some 3) _ = _
  have h3 : ("<d>" : Str).cps.toList.length = 3 := by decide +kernel
  rw [slice_mid (wrD_list d) (by rw [h3]; rfl) (by rw [h3, ← Str.len_list]; omega), sS_list]
theorem body_txt_list (x : Str) (r : Dc) : (bodyD (.txt x r)).cps.toList = (escC x).cps.toList ++ (bodyD r).cps.toList := by
  show (escC x ++ bodyD r).cps.toList = _
  simp [Str.cps_append]
theorem body_node_list (k : Nat) (d r : Dc) : (bodyD (.node k d r)).cps.toList = (opn k).cps.toList ++ ((esK k (wrD d)).cps.toList ++ ((clo k).cps.toList ++ (bodyD r).cps.toList)) := by
  show (opn k ++ (esK k (wrD d) ++ (clo k ++ bodyD r))).cps.toList = _
  simp [Str.cps_append]
theorem sl_txt (x : Str) (r : Dc) : Txt.slice (bodyD (.txt x r)) none (some ((escC x).length : Int)) = escC x := by
  rw [slice_to (body_txt_list x r) (by rw [Str.len_list]), sS_list]
theorem sl_txt2 (x : Str) (r : Dc) : Txt.slice (bodyD (.txt x r)) (some ((escC x).length : Int)) none = bodyD r := by
  rw [slice_fr (body_txt_list x r) (by rw [Str.len_list]), sS_list]
theorem sl_node (k : Nat) (d r : Dc) : Txt.slice (bodyD (.node k d r)) (some ((opn k).length : Int)) (some ((opn k ++ esK k (wrD d)).length : Int)) = esK k (wrD d) := by
  rw [slice_mid (body_node_list k d r) (by rw [Str.len_list]) (by rw [Str.length_append, Str.len_list, Str.len_list (esK k (wrD d))]), sS_list]
theorem sl_node2 (k : Nat) (d r : Dc) : Txt.slice (bodyD (.node k d r)) (some (((opn k ++ esK k (wrD d)).length : Int) + ((clo k).length : Int))) none = bodyD r := by
  have e : (bodyD (.node k d r)).cps.toList = ((opn k).cps.toList ++ (esK k (wrD d)).cps.toList ++ (clo k).cps.toList) ++ (bodyD r).cps.toList := by
    rw [body_node_list]; simp
  rw [slice_fr e (by rw [Str.length_append, Str.len_list, Str.len_list (esK k (wrD d)), Str.len_list (clo k), List.length_append, List.length_append]; omega), sS_list]
theorem begins_iff (l : Str) (k : Nat) : Txt.slice l none (some ((opn k).length : Int)) = opn k ↔ begins l k = true := by
  unfold begins
  rw [decide_eq_true_eq, ← slice_take]
  exact ⟨fun e => by rw [e], fun e => Str.ext' e⟩
/-- the marks that begin here -/
noncomputable def wys (l : Str) : List Nat := (List.range' 0 4).filter fun k => begins l k
theorem wys_txt {x : Str} {r : Dc} (hx : x.length ≠ 0) : wys (bodyD (.txt x r)) = [] := by
  unfold wys
  rw [List.filter_eq_nil_iff]
  intro k hk
  rw [List.mem_range'] at hk
  obtain ⟨i, hi, rfl⟩ := hk
  rw [begins_txt (by omega) hx]
  decide
theorem wys_node {k : Nat} {d r : Dc} (hk : k < 4) : wys (bodyD (.node k d r)) = [k] := by
  have e : wys (bodyD (.node k d r)) = (List.range' 0 4).filter fun j => decide (j = k) := by
    unfold wys
    refine List.filter_congr fun j hj => ?_
    rw [List.mem_range'] at hj
    obtain ⟨i, hi, rfl⟩ := hj
    exact begins_node hk (by omega)
  rw [e]
  obtain rfl | rfl | rfl | rfl : k = 0 ∨ k = 1 ∨ k = 2 ∨ k = 3 := by omega
  all_goals decide
theorem body_ne {x : Str} {r : Dc} (hx : x.length ≠ 0) : bodyD (.txt x r) ≠ "" := by
  intro e
  obtain ⟨c, l, e2, _⟩ := escC_cons hx
  have h1 := body_txt_list x r
  rw [e, e2] at h1
  exact absurd h1 (by rw [show ("" : Str).cps.toList = [] by decide +kernel]; simp)
theorem opn_cons (k : Nat) : ∃ c l, (opn k).cps.toList = c :: l := by
  match k with
  | 0 => exact ⟨_, _, (rfl : (opn 0).cps.toList = _)⟩
  | 1 => exact ⟨_, _, (rfl : (opn 1).cps.toList = _)⟩
  | 2 => exact ⟨_, _, (rfl : (opn 2).cps.toList = _)⟩
  | n + 3 => exact ⟨_, _, (rfl : (opn 3).cps.toList = _)⟩
theorem body_ne2 {k : Nat} {d r : Dc} : bodyD (.node k d r) ≠ "" := by
  intro e
  obtain ⟨c, l, e2⟩ := opn_cons k
  have h1 := body_node_list k d r
  rw [e, e2] at h1
  exact absurd h1 (by rw [show ("" : Str).cps.toList = [] by decide +kernel]; simp)
end Mine
end
section
open PySem PySem.W PyProof.Rows PySem.W.X PySem.SeqAt
set_option maxRecDepth 100000
namespace Mine
local macro_rules | `(tactic| walk_at "perm0") => `(tactic| (classical (refine List.perm_iff_count.mpr (fun xx => ?_)); (simp only [List.count_append, List.count_cons, List.count_nil, Nat.add_zero, Nat.zero_add, List.cons_append, List.nil_append, List.append_assoc, List.append_nil]); first | done | omega | ac_rfl))
local macro_rules | `(tactic| walk_at "pl") => stepOf "pl" "pl_h" "@pl_c; @pl_n; @pl_s; @pl_t; @pl_a"
local macro_rules | `(tactic| walk_at "ps") => stepOf "ps" "ps_h; ps_e" "@ps_c; @ps_n; @ps_s; @ps_t; @ps_a"
local macro_rules | `(tactic| walk_at "pm") => stepOf "pm" "List.Perm.refl ~" "pm_cr _; pm_nr _; pm_sr _; pm_er _; pm_cl _; pm_nl _; pm_sl _; pm_el _; pm_k _; pm_a _; pm_p /pl _; pm_s /ps _"
local macro_rules | `(tactic| walk_at "perm") => `(tactic| first | walk_at "pm" | walk_at "perm0")
local macro_rules | `(tactic| walk_at "mem") => `(tactic| first | with_reducible exact List.mem_cons_self | ((with_reducible refine List.mem_cons_of_mem _ ?_); walk_at "mem") | ((fail_if_success (with_reducible refine List.mem_cons_of_mem _ ?_)); with_reducible assumption))
local macro_rules | `(tactic| walk_at "put") => stepOf "put" "Put.head" "@Put.tail"
local macro_rules | `(tactic| walk_at "upd") => stepOf "upd" "Upd.head" "@Upd.tail"
local macro_rules | `(tactic| walk_at "pull") => stepOf "pull" "Pull.head" "@Pull.tail"
local macro_rules | `(tactic| walk_at "mid") => stepOf "mid" "Mid.head" "@Mid.tail; @Mid.app"
local macro_rules | `(tactic| walk_at "fld") => do
  let ts ← namesOf "m_write m_data m_with_comments m_strip_text m_exclude_attrs m_exclude_tags m_rewrite_prefixes m_qname_aware_tags m_find_qname_aware_attrs m_declared_ns_stack m_ns_stack m_prefix_map m_preserve_space m_pending_start m_root_seen m_root_done m_ignored_depth"
  `(tactic| with_reducible (first $[| $ts:tactic]*))
local macro_rules | `(tactic| walk_at "pfld") => do
  let ts ← namesOf "p_write p_data p_with_comments p_strip_text p_exclude_attrs p_exclude_tags p_rewrite_prefixes p_qname_aware_tags p_find_qname_aware_attrs p_declared_ns_stack p_ns_stack p_prefix_map p_preserve_space p_pending_start p_root_seen p_root_done p_ignored_depth"
  `(tactic| with_reducible (first $[| $ts:tactic]*))
local macro_rules | `(tactic| walk_at "len") => `(tactic| first | with_reducible assumption | (simp only [Str.length_append, len_empty, sizeLine_eq]; omega))
local macro_rules | `(tactic| walk_at "sz") => `(tactic| first | with_reducible assumption | decide | (simp [sizeLine_eq]; done))
set_option hygiene false in
local macro_rules | `(tactic| walk_at "ns") => `(tactic| (clear S'; intro s' S'))
set_option hygiene false in
local macro_rules | `(tactic| walk_at "nt") => `(tactic| (clear S'; intro t' s' S'))
set_option hygiene false in
local macro_rules | `(tactic| walk_at "na") => `(tactic| (clear S'; intro a' s' S'))
set_option hygiene false in
local macro_rules | `(tactic| walk_at "cw") => do
  let a ← altsOf "ite_t _; ite_nf _; ite_nt _; ite_f _; wpAny_execs_nil _; wpAny_execs_cons _; wpAny_Return_some _; wpAny_Return_none _; wpAny_If _; wpAny_Constant_none _; wpAny_Constant_bool _; IfExp_ _; isTrue_not _; isTrue_and _; isTrue_and_nil _; isTrue_or _; isTrue_or_nil _; wpAny_truthy_bool _; truthy_none _; wpAny_BinOp _; PyProof.Rows.eq_int _; PyProof.Rows.gt_int _; PyProof.Rows.lt_int _; evalPart_some_step _; evalPart_none_step _; callWith_bi0 _; args_nil _; List_ _; Tuple_ _; joined _; joinP _; FormattedValue_plain _; wpAny_AugAssign_AttributeAny _; wpAny_AugAssign_Name _; UnaryOp_ _; callWith_type0 _; isNot_nn _; isNot_rn _; isNot_sn _; is_nn _; is_sn _; PyProof.Rows.truthy_int _; Call_m _ /kr /kr /kr; wpAny_isTrue_Compare1 _ /kr; isTrue_plain _ /kr; wpAny_Compare1 _ /kr; Attribute_ _ /kr; Call_ _ /kr; Assign_attr _ /kr; args_cons _ /kr; Sta.int_ S _ | nt; Sta.str_ S _ | nt; Sta.add S _ | nt; Sta.sub_ S _ | nt; Sta.iadd S _ | nt; Sta.isub S _ | nt; Sta.neg S _ | nt; Sta.local_ S /mem _; Sta.local' S /mem _; Sta.getM_list S /mem F.slot_list_append F.type_list_append _; Sta.getM_list S /mem F.slot_list_pop F.type_list_pop _; Sta.getM_list S /mem F.slot_list_insert F.type_list_insert _; Sta.cell S /asm /mem _; Sta.store S /put _ | ns; wpAny_Expr_any _ /kr /kr; PyProof.Rows.callWith_builtin1 _ /kr /kr; PyProof.Rows.callWith_type1 _ /kr /kr; callWith_m1 _ /kr /kr; Assign_plain _ /rfl /kr"
  let b ← altsOf "Sta.newList S /sz _ | na; Sta.newTuple S /sz _ | na; Sta.dict0 S _ | na; Sta.newSet S _ | na; JP.mk /len _; Sta.joinEnd S /len _ | nt; Sta.fmtS S /len _ | nt; Sta.addS S /len _ | nt; Sta.append S /upd /sz _ | ns; Sta.appendT S /upd /sz _ | ns; Sta.setAdd S /upd /sz _ | ns; Sta.truthyD S /mem /sz _ | ns; Sta.truthyL S /mem /sz _ | ns; Sta.truthyT S /mem /sz _ | ns; Sta.notInSet S /mem /sz _ | ns; Sta.getM_txts S /mem F.slot_list_append F.type_list_append _; Sta.getM_add S /mem /sz _; execs_at /rfl _; execs_end /le _; Sta.getF S /asm /mem /mem VV.keys /fld /rfl _ | ns; Sta.setattr S /asm /mem /upd VV.keys /pfld /dec _ | ns; Sta.getM_val S /asm /mem /mem VV.keys /fld /rfl _ | ns; callK_1! _ /kr /kr; callK_n! _ /kr /kr"
  let all := a ++ b
  `(tactic| first $[| $all:tactic]*)
local macro_rules | `(tactic| walk_at "ev") => `(tactic| walk_at "cw")
section
open PySem PySem.W PyProof.Rows PySem.W.X PySem.SeqAt
set_option maxRecDepth 100000
section
variable {W : Wd} {G : Gens} {env : Env} {loc loc' : Loc} {nw nw' : Ledger} {s : Shared} {A : Around} {E : Value → Shared → Prop}
set_option maxHeartbeats 4000000 in
theorem esc_if {x y z : Str} {t : Tok} {c : Nat} {k1 k2 k3 : Nat} {p1 p2 p3 p4 p5 p6 p7 p8 p9 p10 p11 : Pos} {Q : Flow → Shared → Prop} (S' : Sta W G env [("text", some (.str x t))] nw s) (hy : y = ⟨#[c]⟩) (hyz : (y == z) = false) (hx : x.length ≤ 6 * txtLine) (hz : z.length ≤ 6) (hl : (p6.endLine == p9.line) = true)
    (k : ∀ t' s', Sta W G env [("text", some (.str (mapS (r1 c z.cps.toList) x) t'))] nw s' → Q .next s') :
    wpAny (model W.prog W.w) A (exec (.If (.Compare (.Constant (.str y) k1 p1) [.In] [.Name "text" p2] p3) [.Assign [.Name "text" p4] (.Call (.Attribute (.Name "text" p5) "replace" p6) [.Constant (.str y) k2 p7, .Constant (.str z) k3 p8] [] p9) p10] [] p11) env) Q E s := by
  refine wpAny_If ?_
  refine wpAny_isTrue_Compare1 ?_ rfl
  refine S'.strT ?_
  clear S'; intro s' S' hk
  refine Sta.local_ S' (by walk_at "mem") ?_
  refine Sta.inStr hy (fun hc => ?_) (fun hc => ?_)
  · refine wpAny_truthy_bool ?_
    refine ite_t ?_
    refine wpAny_execs_cons ?_
    refine wpAny_Assign_Name ?_ rfl
    refine Call_m ?_ rfl rfl hl
    refine Sta.local_ S' (by walk_at "mem") ?_
    refine getM_sreplace ?_
    refine callWith_m1 ?_ rfl rfl
    refine args_cons ?_ rfl
    refine S'.strT ?_
    clear S'; intro s2 S' hk2
    refine args_cons ?_ rfl
    refine S'.strT ?_
    clear S'; intro s3 S' hk3
    refine args_nil ?_
    refine S'.replace_ hy ?_ ?_ ?_ hyz hx hz ?_
    · show s'.toks ≠ 0; omega
    · show s2.toks ≠ 0; omega
    · show s'.toks ≠ s2.toks; omega
    clear S'; intro t' s4 S'
    refine S'.store .head ?_
    intro s5 S5
    exact wpAny_execs_nil (k _ _ S5)
  · refine wpAny_truthy_bool ?_
    refine ite_f ?_
    refine wpAny_execs_nil (k t _ ?_)
    rw [mapS_free hc]; exact S'
set_option maxHeartbeats 4000000 in
theorem escC_ {x : Str} {t : Tok} {Q : Value → Shared → Prop} (I : IsC W) (S : Sta W G env loc nw s) (hA : Aok 2 A) (hx : x.length ≤ txtLine)
    (k : ∀ t' s', Sta W G env loc nw s' → Q (.str (escC x) t') s') : wpAny (model W.prog W.w) A (call (.ref 161) [.str x t]) Q E s := by
  refine S.call_fn (binds := [("text", .str x t)]) [] I.f_escC hA.room (fun _ _ _ _ _ => BindsTo.of_eq (by kernel_rfl)) (by kernel_rfl) ?_
  intro L s' S'
  simp only [mkLoc, List.map_cons, List.map_nil, List.cons_append, List.nil_append] at S'
  refine wpAny_execs_cons ?_
  refine wpAny_Try_except ?_
  refine wpAny_execs_cons ?_
  refine esc_if (c := 38) S' (by kernel_rfl) (by decide +kernel) (by omega) (by decide +kernel) (by kernel_rfl) ?_
  clear S'; intro t1 s' S'
  refine wpAny_execs_cons ?_
  refine esc_if (c := 60) S' (by kernel_rfl) (by decide +kernel) ?_ (by decide +kernel) (by kernel_rfl) ?_
  · exact Nat.le_trans (mapS_len _ 6 gC1_len x) (Nat.mul_le_mul_left _ hx)
  clear S'; intro t1 s' S'
  rw [mapS_mapS] at S'
  refine wpAny_execs_cons ?_
  refine esc_if (c := 62) S' (by kernel_rfl) (by decide +kernel) ?_ (by decide +kernel) (by kernel_rfl) ?_
  · exact Nat.le_trans (mapS_len _ 6 gC2_len x) (Nat.mul_le_mul_left _ hx)
  clear S'; intro t1 s' S'
  rw [mapS_mapS] at S'
  refine wpAny_execs_cons ?_
  refine esc_if (c := 13) S' (by kernel_rfl) (by decide +kernel) ?_ (by decide +kernel) (by kernel_rfl) ?_
  · exact Nat.le_trans (mapS_len _ 6 gC3_len x) (Nat.mul_le_mul_left _ hx)
  clear S'; intro t1 s' S'
  rw [mapS_mapS] at S'
  repeat walk_at "ev"
  have e : mapS (fun c => gC4 c) x = escC x := by
    have : (fun c => gC4 c) = fC := funext gC4_eq
    rw [this]; rfl
  have S2 := Sta.back S' S.eok
  have q := k t1 _ S2
  rw [← e] at q
  exact q
set_option maxHeartbeats 4000000 in
theorem escA_ {x : Str} {t : Tok} {Q : Value → Shared → Prop} (I : IsC W) (S : Sta W G env loc nw s) (hA : Aok 2 A) (hx : x.length ≤ txtLine)
    (k : ∀ t' s', Sta W G env loc nw s' → Q (.str (escA x) t') s') : wpAny (model W.prog W.w) A (call (.ref 168) [.str x t]) Q E s := by
  refine S.call_fn (binds := [("text", .str x t)]) [] I.f_escA hA.room (fun _ _ _ _ _ => BindsTo.of_eq (by kernel_rfl)) (by kernel_rfl) ?_
  intro L s' S'
  simp only [mkLoc, List.map_cons, List.map_nil, List.cons_append, List.nil_append] at S'
  refine wpAny_execs_cons ?_
  refine wpAny_Try_except ?_
  refine wpAny_execs_cons ?_
  refine esc_if (c := 38) S' (by kernel_rfl) (by decide +kernel) (by omega) (by decide +kernel) (by kernel_rfl) ?_
  clear S'; intro t1 s' S'
  refine wpAny_execs_cons ?_
  refine esc_if (c := 60) S' (by kernel_rfl) (by decide +kernel) ?_ (by decide +kernel) (by kernel_rfl) ?_
  · exact Nat.le_trans (mapS_len _ 6 gC1_len x) (Nat.mul_le_mul_left _ hx)
  clear S'; intro t1 s' S'
  rw [mapS_mapS] at S'
  refine wpAny_execs_cons ?_
  refine esc_if (c := 34) S' (by kernel_rfl) (by decide +kernel) ?_ (by decide +kernel) (by kernel_rfl) ?_
  · exact Nat.le_trans (mapS_len _ 6 gC2_len x) (Nat.mul_le_mul_left _ hx)
  clear S'; intro t1 s' S'
  rw [mapS_mapS] at S'
  refine wpAny_execs_cons ?_
  refine esc_if (c := 9) S' (by kernel_rfl) (by decide +kernel) ?_ (by decide +kernel) (by kernel_rfl) ?_
  · exact Nat.le_trans (mapS_len _ 6 gA3_len x) (Nat.mul_le_mul_left _ hx)
  clear S'; intro t1 s' S'
  rw [mapS_mapS] at S'
  refine wpAny_execs_cons ?_
  refine esc_if (c := 10) S' (by kernel_rfl) (by decide +kernel) ?_ (by decide +kernel) (by kernel_rfl) ?_
  · exact Nat.le_trans (mapS_len _ 6 gA4_len x) (Nat.mul_le_mul_left _ hx)
  clear S'; intro t1 s' S'
  rw [mapS_mapS] at S'
  refine wpAny_execs_cons ?_
  refine esc_if (c := 13) S' (by kernel_rfl) (by decide +kernel) ?_ (by decide +kernel) (by kernel_rfl) ?_
  · exact Nat.le_trans (mapS_len _ 6 gA5_len x) (Nat.mul_le_mul_left _ hx)
  clear S'; intro t1 s' S'
  rw [mapS_mapS] at S'
  repeat walk_at "ev"
  have e : mapS (fun c => gA6 c) x = escA x := by
    have : (fun c => gA6 c) = fA := funext gA6_eq
    rw [this]; rfl
  have S2 := Sta.back S' S.eok
  have q := k t1 _ S2
  rw [← e] at q
  exact q
end
end
section
open PySem PySem.W PyProof.Rows PySem.W.X PySem.SeqAt
set_option maxRecDepth 100000
section
variable {W : Wd} {G : Gens} {env : Env} {loc loc' : Loc} {nw nw' : Ledger} {s : Shared} {A : Around} {E : Value → Shared → Prop}
theorem perm_end {α : Type} {R sh : List α} {p : α} : List.Perm (p :: (R ++ sh)) (R ++ (sh ++ [p])) := by
  rw [← List.append_assoc]
  exact (List.perm_append_comm (l₁ := [p]) (l₂ := R ++ sh))
theorem mapref_rev (lv : List (Addr × List Value)) : (lv.reverse.map fun p => Value.ref p.1) = ((lv.map fun p => Value.ref p.1).take (lv.map fun p => Value.ref p.1).length).reverse := by
  rw [List.take_length, List.map_reverse]
noncomputable abbrev itLoc (x st : Addr) (rv : Value) : Loc := mkLoc [("self", .ref x), ("ns_stack", .ref st), ("_reversed", rv)] ["namespaces"]
noncomputable abbrev itEnv (L : Addr) : Env := envOf "C14NWriterTarget._iter_namespaces" (fnScope st_iter) L 75 (.ref 74)
/-- the walk of _iter_namespaces, given what its reverser gives -/
theorem good_ {L x st : Addr} {rv : Value} {sh : Ledger} (he : EnvOk (itEnv L) ["self", "ns_stack", "_reversed", "namespaces"]) (ls : List (Addr × List Value)) (hls : ∀ p ∈ ls, (p.1, IsLst p.2) ∈ sh ∧ p.2.length ≤ sizeLine)
    (hrev : ∀ A R GR s, Aok 4 A → Sta W GR (itEnv L) (itLoc x st rv) (R ++ sh) s → ∀ Q E, (∀ rit own s', Sta W GR (itEnv L) (itLoc x st rv) (R ++ (sh ++ own)) s' → LY W sh rit (ls.map fun p => .ref p.1) own → Q (.ref rit) s') →
      ∀ p2 p3 p4, wpAny (model W.prog W.w) A (eval (.Call (.Name "_reversed" p2) [.Name "ns_stack" p3] [] p4) (itEnv L)) (fun x s₁ => wpAny (model W.prog W.w) A (pyIter x) Q E s₁) E s) :
    GoodGen W sh (ls.flatMap (·.2)) (.fresh (.func (fnBody st_iter) (itEnv L))) [(L, IsNs (itLoc x st rv))] := by
  refine iter_good (nm := "namespaces") (rv := "_reversed") (sk := "ns_stack") (ks := ["self", "ns_stack", "_reversed", "namespaces"]) (by kernel_rfl) (by decide +kernel) (itLoc x st rv) rfl he ls hls ?_
  intro A R GR s hA S Q E h
  exact hrev A R GR s hA S Q E h _ _ _
/-- the reverser that stands by itself -/
theorem rev_ {L x st : Addr} {sh : Ledger} {lv : List (Addr × List Value)} (hst : (st, IsLst (lv.map fun p => .ref p.1)) ∈ sh) :
    ∀ A R GR s, Aok 4 A → Sta W GR (itEnv L) (itLoc x st (.type "reversed")) (R ++ sh) s → ∀ Q E, (∀ rit own s', Sta W GR (itEnv L) (itLoc x st (.type "reversed")) (R ++ (sh ++ own)) s' → LY W sh rit (lv.reverse.map fun p => .ref p.1) own → Q (.ref rit) s') →
      ∀ p2 p3 p4, wpAny (model W.prog W.w) A (eval (.Call (.Name "_reversed" p2) [.Name "ns_stack" p3] [] p4) (itEnv L)) (fun x s₁ => wpAny (model W.prog W.w) A (pyIter x) Q E s₁) E s := by
  intro A R GR s hA S' Q E h p2 p3 p4
  have hm : (st, IsLst (lv.map fun p => .ref p.1)) ∈ R ++ sh := List.mem_append_right _ hst
  simp only [itLoc, mkLoc, List.map_cons, List.map_nil, List.cons_append, List.nil_append] at S'
  repeat walk_at "ev"
  refine Sta.reversed S' hm ?_
  clear S'; intro it s' S'
  refine Sta.iterRev S' (by walk_at "mem") ?_
  refine h it [(it, IsRI st (((lv.map fun p => Value.ref p.1).length : Int) - 1))] _ (S'.perm perm_end) ?_
  rw [mapref_rev]
  exact ly_rev hst _ (Nat.le_refl _)
/-- the same, what it reads laid apart -/
theorem genS_ {x st : Addr} {lv : List (Addr × List Value)} {N sh : Ledger} {Q : Value → Shared → Prop} (I : IsC W) (S : Sta W G env loc (N ++ sh) s) (hA : Aok 1 A) (hst : (st, IsLst (lv.map fun p => .ref p.1)) ∈ sh) (hlv : ∀ p ∈ lv, (p.1, IsLst p.2) ∈ sh ∧ p.2.length ≤ sizeLine)
    (h : ∀ a g own gs s', Sta W (G ++ [(g, gs)]) env loc (N ++ (sh ++ (own ++ [(a, IsGenO g)]))) s' → Yields W sh a (lv.reverse.flatMap (·.2)) (own ++ [(a, IsGenO g)]) [(g, gs)] → Q (.ref a) s') :
    wpAny (model W.prog W.w) A (call (.ref 75) [.ref x, .ref st]) Q E s := by
  refine S.call_gen (binds := [("self", .ref x), ("ns_stack", .ref st), ("_reversed", .type "reversed")]) ["namespaces"] I.f_iter hA.room ?_ (by kernel_rfl) ?_
  · intro name doc pm ct an
    exact kp_binds S.kin fun S => by rw [I.k]; kernel_rfl
  intro a g L s' he S'
  have H := good_ (W := W) (x := x) (st := st) (rv := .type "reversed") (sh := sh) he lv.reverse (fun p hp => hlv p (List.mem_reverse.mp hp)) (rev_ hst)
  refine h a g [(L, IsNs (itLoc x st (.type "reversed")))] _ s' (S'.perm ?_) (yields_gen H)
  show List.Perm ((a, IsGenO g) :: (L, IsNs _) :: (N ++ sh)) (N ++ (sh ++ [(L, IsNs _), (a, IsGenO g)]))
  rw [← List.append_assoc]
  exact (List.Perm.swap ..).trans (List.perm_append_comm (l₁ := [_, _]) (l₂ := N ++ sh))
theorem Sta.iterGen {a : Addr} {g : Nat} {Q : Value → Shared → Prop} (S : Sta W G env loc nw s) (m : (a, IsGenO g) ∈ nw) (h : Q (.ref a) s) : wpAny (model W.prog W.w) A (pyIter (.ref a)) Q E s := by
  obtain ⟨o, ho, nm, qn, rfl⟩ := S.get m
  exact wpAny_pyIter_gen ⟨_, nm, qn, ho, rfl, rfl, rfl⟩ h
end
end
section
open PySem PySem.W PyProof.Rows PySem.W.X PySem.SeqAt
set_option maxRecDepth 100000
noncomputable def IsLen (n : Nat) : Cell := fun o => ∃ xs, xs.length = n ∧ IsLst xs o
structure Wr where
  x : Addr
  dx : Addr
  d : Addr
  dns : Addr
  ns : Addr
  pm : Addr
  ps : Addr
  a0 : Addr
  tp : Addr
  tu : Tok
  tx : Tok
structure Ws where
  held : List Str
  es : List Addr
  rs : Bool
  rd : Bool
  ig : Nat
  ti : Tok
  dp : Nat
noncomputable abbrev xmlNs : Str := "http://www.w3.org/XML/1998/namespace"
noncomputable abbrev selfV (w : Wr) (et : Value) (q : Addr) (st : Ws) : Loc := VV (.ref q) (.ref w.d) (.bool true) (.bool false) .none et (.bool false) .none .none (.ref w.dns) (.ref w.ns) (.ref w.pm) (.ref w.ps) .none (.bool st.rs) (.bool st.rd) (.int (st.ig : Int) st.ti)
noncomputable def esLed (es : List Addr) : Ledger := es.map fun a => (a, IsLst [])
noncomputable abbrev wrLed (w : Wr) (et : Value) (q : Addr) (st : Ws) (N : Ledger) : Ledger :=
  (w.x, IsInst 150 w.dx) :: (w.dx, IsAttrs (selfV w et q st)) :: (w.d, IsTxts st.held) :: (w.dns, IsLst (.ref w.a0 :: st.es.map .ref)) :: (w.ns, IsLen (st.dp + 2)) :: (w.ps, IsLst (List.replicate (st.dp + 1) (.bool false))) ::
    (w.a0, IsLst [.ref w.tp]) :: (w.tp, IsTpl [.str xmlNs w.tu, .str "xml" w.tx]) :: (esLed st.es ++ N)
noncomputable def Ws.data (st : Ws) (x : Str) : Ws := if st.ig = 0 then { st with held := st.held ++ [x] } else st
section
variable {W : Wd} {G : Gens} {env : Env} {loc loc' : Loc} {nw nw' : Ledger} {s : Shared} {A : Around} {E : Value → Shared → Prop} {w : Wr} {et : Value} {q : Addr} {st : Ws} {N : Ledger}
set_option maxHeartbeats 4000000 in
theorem data_ {x : Str} {t : Tok} {R : Result → Shared → Prop} (I : IsC W) (S : Sta W G env loc (wrLed w et q st N) s) (hA : Aok 2 A) (hz : st.held.length ≤ sizeLine)
    (k : ∀ s', Sta W G env loc (wrLed w et q (st.data x) N) s' → R (.ok (.ret .none)) s') : codeAny (model W.prog W.w) A (.call (.ref 97) ⟨[.ref w.x, .str x t], []⟩) R s := by
  refine S.code_fn (binds := [("self", .ref w.x), ("data", .str x t)]) [] I.f_data hA.room (fun _ _ _ _ _ => BindsTo.of_eq (by kernel_rfl)) (by kernel_rfl) ?_
  intro L s' S'
  simp only [mkLoc, List.map_cons, List.map_nil, List.cons_append, List.nil_append] at S'
  have hcl := I.cl
  refine execs_go ?_
  repeat walk_at "cw"
  by_cases hi : st.ig = 0
  · have e0 : ((st.ig : Int) != 0) = false := by rw [hi]; rfl
    rw [e0]
    repeat walk_at "cw"
    have S2 := Sta.back S' S.eok
    have q := k s'
    unfold Ws.data at q
    rw [if_pos hi] at q
    exact q S2
  · have e0 : ((st.ig : Int) != 0) = true := bne_iff_ne.mpr (by omega)
    rw [e0]
    repeat walk_at "cw"
    have S2 := Sta.back S' S.eok
    have q := k s'
    unfold Ws.data at q
    rw [if_neg hi] at q
    exact q S2
noncomputable def flushed (held : List Str) : List Str := if (cat held).length = 0 then [] else [escC (cat held)]
theorem jb_at (I : IsC W) : ∃ t0, W.K.lookup 98 = some { cls := .type "builtin_function_or_method", data := .fields #[.builtin "str.join", .str "" t0] } := by
  rw [I.k]
  exact ⟨437, by kernel_rfl⟩
set_option maxHeartbeats 4000000 in
theorem flush_ {K : Sink W} {σ : K.σ} {Q : Value → Shared → Prop} (I : IsC W) (S : Sta W G env loc (wrLed w et K.q st (K.L σ ++ N)) s) (hA : Aok 5 A) (hrs : st.rs = true) (hz : st.held.length ≤ sizeLine) (hc : (cat st.held).length ≤ txtLine) (hr : K.room σ 1)
    (k : ∀ s', Sta W G env loc (wrLed w et K.q { st with held := [] } (K.L (K.pushes σ (flushed st.held)) ++ N)) s' → Q .none s') : wpAny (model W.prog W.w) A (call (.ref 106) [.ref w.x]) Q E s := by
  obtain ⟨t0, hj⟩ := jb_at I
  have hz2 : (cat st.held).length ≤ 16777216 := by unfold txtLine at hc; omega
  refine S.call_fn (binds := [("self", .ref w.x), ("_join_text", .ref 98)]) ["data", "args", "qname_text"] I.f_flush hA.room ?_ (by kernel_rfl) ?_
  · intro name doc pm ct an
    exact kp_binds S.kin fun S => by rw [I.k]; kernel_rfl
  intro L s' S'
  have hA' := hA.deeper (env := envOf "C14NWriterTarget._flush" (fnScope st_flush) L 106 (.ref 105))
  simp only [mkLoc, List.map_cons, List.map_nil, List.cons_append, List.nil_append] at S'
  have hcl := I.cl
  refine execs_go ?_
  repeat walk_at "cw"
  refine callB_1 hj ?_ (by kernel_rfl) (by kernel_rfl)
  repeat walk_at "cw"
  refine ⟨S'.kin, ?_⟩
  refine Sta.joinB S' hj (by walk_at "mem") (by kernel_rfl) hz2 ?_
  clear S'; intro t1 s' S'
  repeat walk_at "cw"
  refine wpAny_Delete (wpAny_deleteEach_cons (delete_all ?_))
  repeat walk_at "cw"
  refine ⟨_, _, _, _, _, _, S', rfl, by walk_at "upd", hz, ?_⟩
  clear S'; intro s' S'
  refine wpAny_deleteEach_nil ?_
  repeat walk_at "cw"
  refine truthy_s S' hz2 (fun e s' S' => ?_) (fun e s' S' => ?_)
  · repeat walk_at "cw"
    have S2 := Sta.back S' S.eok
    have q := k s'
    unfold flushed at q
    rw [if_pos e] at q
    exact q S2
  · repeat walk_at "cw"
    rw [hrs]
    repeat walk_at "cw"
    refine Sta.global S' I.g_escC (by kernel_rfl) ?_
    refine callW_1 (by rw [I.k]; kernel_rfl) ?_ (by kernel_rfl) (by kernel_rfl)
    repeat walk_at "cw"
    refine ⟨S'.kin, ?_⟩
    refine escC_ I S' (hA'.le (by first | decide | omega)) hc ?_
    clear S'; intro t2 s' S'
    repeat walk_at "cw"
    refine ⟨S'.sinkLed (L' := []) (by walk_at "mid"), ?_⟩
    refine S'.sink (hA'.le (by first | decide | omega)) hr (by walk_at "mid") ?_
    clear S'; intro s' S'
    repeat walk_at "cw"
    have S2 := Sta.back S' S.eok
    have q := k s'
    unfold flushed at q
    rw [if_neg e] at q
    exact q S2
end
end
section
open PySem PySem.W PyProof.Rows PySem.W.X PySem.SeqAt
set_option maxRecDepth 100000
/-- a name without a namespace -/
noncomputable def plainName (x : Str) : Prop := (⟨(x.cps.toList.take 1).toArray⟩ : Str) ≠ ("{" : Str) ∧ x.length ≤ 1000
/-- between two turns of _qname's loop -/
inductive QnI (W : Wd) (G : Gens) (env : Env) (loc : Loc) (w : Wr) (et : Value) (q : Addr) (st : Ws) (N : Ledger) (x : Str) (t t' : Tok) (a' : Addr) (rest : List Value) (loc1 : Loc) (nw1 : Ledger) (G' : Gens) : Prop
  | mk (vu vp : Option Value) (T : Str → Bool) (n : Nat) (hG : G' = G) (hloc : loc1 = ([("self", some (.ref w.x)), ("qname", some (.str x t)), ("uri", some (.str "" t')), ("tag", some (.str x t)), ("prefixes_seen", some (.ref a')), ("u", vu), ("prefix", vp)] : Loc))
    (hnw : nw1 = (a', IsSS W T n) :: (env.locals, IsNs loc) :: (w.x, IsInst 150 w.dx) :: (w.dx, IsAttrs (selfV w et q st)) :: (w.d, IsTxts st.held) :: (w.ns, IsLen (st.dp + 2)) :: (w.ps, IsLst (List.replicate (st.dp + 1) (.bool false))) :: (w.tp, IsTpl [.str xmlNs w.tu, .str "xml" w.tx]) :: N)
    (hT : T "" = false) (hn : n ≤ 1) (hn0 : rest = [] ∨ n = 0) (hr : ∀ y ∈ rest, y = .ref w.tp) (hl : rest.length ≤ 1) : QnI W G env loc w et q st N x t t' a' rest loc1 nw1 G'
section
variable {W : Wd} {G : Gens} {env : Env} {loc loc' : Loc} {nw nw' : Ledger} {s : Shared} {A : Around} {E : Value → Shared → Prop} {w : Wr} {et : Value} {q : Addr} {st : Ws} {N : Ledger}
set_option maxHeartbeats 4000000 in
theorem qnameC_ {x : Str} {t : Tok} {R : Result → Shared → Prop} (I : IsC W) (S : Sta W G env loc (wrLed w et q st N) s) (hA : Aok 12 A) (hx : plainName x)
    (k : ∀ a t2 s', Sta W G env loc ((a, IsTpl [.str x t, .str x t, .str "" t2]) :: wrLed w et q st N) s' → R (.ok (.ret (.ref a))) s') : codeAny (model W.prog W.w) A (.call (.ref 90) ⟨[.ref w.x, .str x t], []⟩) R s := by
  refine S.code_fn (binds := [("self", .ref w.x), ("qname", .str x t), ("uri", .none)]) ["tag", "prefixes_seen", "u", "prefix"] I.f_qname hA.room ?_ (by kernel_rfl) ?_
  · intro name doc pm ct an
    exact kp_binds S.kin fun S => by rw [I.k]; kernel_rfl
  intro L s' S'
  have hA' := hA.deeper (env := envOf "C14NWriterTarget._qname" (fnScope st_qname) L 90 (.ref 89))
  simp only [mkLoc, List.map_cons, List.map_nil, List.cons_append, List.nil_append] at S'
  have hcl := I.cl
  refine execs_go ?_
  repeat walk_at "cw"
  refine Assign_Tuple ?_ (by kernel_rfl) (by kernel_rfl)
  repeat walk_at "cw"
  refine sliceS_ ?_ (by intro _ _; kernel_rfl)
  repeat walk_at "cw"
  refine ⟨_, _, _, _, _, _, _, S', rfl, by rw [sizeLine_eq]; have := hx.2; omega, .none, .int _ _, ?_⟩
  clear S'; intro t1 s' S'
  rw [slice_first]
  repeat walk_at "cw"
  refine eq_s (fun e => absurd e hx.1) (fun _ => ?_)
  repeat walk_at "cw"
  refine Sta.unpackT S' hA'.handled (by walk_at "mem") (by kernel_rfl) (by kernel_rfl) ?_
  clear S'; intro s' S'
  refine assignInOrder_cons ?_
  refine assign_Name ?_
  repeat walk_at "cw"
  refine assignInOrder_cons ?_
  refine assign_Name ?_
  repeat walk_at "cw"
  refine assignInOrder_nil ?_
  repeat walk_at "cw"
  refine Sta.builtin S' I.b_set bo_set (by kernel_rfl) ?_
  repeat walk_at "cw"
  simp only [wrLed] at S'
  have hlv : ((w.a0, [.ref w.tp]) :: st.es.map fun a => (a, ([] : List Value))).map (fun p => Value.ref p.1) = .ref w.a0 :: st.es.map Value.ref := by simp
  replace S' := S'.sel (nw' := (a', IsSS W (fun _ => false) 0) :: (env.locals, IsNs loc) :: (w.x, IsInst 150 w.dx) :: (w.dx, IsAttrs (selfV w et q st)) :: (w.d, IsTxts st.held) :: (w.ns, IsLen (st.dp + 2)) :: (w.ps, IsLst (List.replicate (st.dp + 1) (.bool false))) :: (w.tp, IsTpl [.str xmlNs w.tu, .str "xml" w.tx]) :: (N ++ ((w.dns, IsLst (.ref w.a0 :: st.es.map .ref)) :: (w.a0, IsLst [.ref w.tp]) :: esLed st.es))) (by
    iterate 8 (apply Sel.cons (by walk_at "pull"))
    exact Sel.drop (Sel.of_perm (List.perm_append_comm (l₁ := (w.dns, IsLst (.ref w.a0 :: st.es.map .ref)) :: (w.a0, IsLst [.ref w.tp]) :: esLed st.es) (l₂ := N))))
  have md : (w.dns, IsLst (.ref w.a0 :: st.es.map .ref)) ∈ (a', IsSS W (fun _ => false) 0) :: (env.locals, IsNs loc) :: (w.x, IsInst 150 w.dx) :: (w.dx, IsAttrs (selfV w et q st)) :: (w.d, IsTxts st.held) :: (w.ns, IsLen (st.dp + 2)) :: (w.ps, IsLst (List.replicate (st.dp + 1) (.bool false))) :: (w.tp, IsTpl [.str xmlNs w.tu, .str "xml" w.tx]) :: (N ++ ((w.dns, IsLst (.ref w.a0 :: st.es.map .ref)) :: (w.a0, IsLst [.ref w.tp]) :: esLed st.es)) := by simp
  refine wpAny_For ?_ (by intro _; kernel_rfl)
  repeat walk_at "cw"
  refine Sta.getM_inst (f := 75) S' hcl (by walk_at "mem") (by walk_at "mem") VV.keys (by decide +kernel) (by rw [I.k]; kernel_rfl) (by rw [I.k]; kernel_rfl) ?_
  refine callW_m (by rw [I.k]; kernel_rfl) ?_ (by kernel_rfl) (by kernel_rfl)
  repeat walk_at "cw"
  refine ⟨S'.kin, ?_⟩
  refine genS_ (N := (a', IsSS W (fun _ => false) 0) :: (env.locals, IsNs loc) :: (w.x, IsInst 150 w.dx) :: (w.dx, IsAttrs (selfV w et q st)) :: (w.d, IsTxts st.held) :: (w.ns, IsLen (st.dp + 2)) :: (w.ps, IsLst (List.replicate (st.dp + 1) (.bool false))) :: (w.tp, IsTpl [.str xmlNs w.tu, .str "xml" w.tx]) :: N) (sh := (w.dns, IsLst (.ref w.a0 :: st.es.map .ref)) :: (w.a0, IsLst [.ref w.tp]) :: esLed st.es)
    (lv := (w.a0, [.ref w.tp]) :: st.es.map fun a => (a, ([] : List Value))) I S' (hA'.le (by first | decide | omega)) (by rw [hlv]; exact .head _) ?_ ?_
  · intro p hp
    rcases List.mem_cons.mp hp with rfl | hp
    · exact ⟨.tail _ (.head _), by rw [sizeLine_eq]; simp⟩
    · obtain ⟨a, ha, rfl⟩ := List.mem_map.mp hp
      exact ⟨.tail _ (.tail _ (List.mem_map.mpr ⟨a, ha, rfl⟩)), by simp⟩
  clear S'; intro ga g own gs s' S' hy
  refine S'.iterGen (g := g) (by simp) ?_
  have hfl : List.flatMap (fun x => x.2) ((w.a0, [Value.ref w.tp]) :: st.es.map fun a => (a, ([] : List Value))).reverse = [Value.ref w.tp] := by
    simp [List.flatMap_append]
  rw [hfl] at hy
  refine for_y (sh := (w.dns, IsLst (.ref w.a0 :: st.es.map .ref)) :: (w.a0, IsLst [.ref w.tp]) :: esLed st.es) (P := fun x v => v = x) (hA'.le (by first | decide | omega))
    (fun rest loc1 nw1 G' => QnI W G env loc w et q st N x t t' a' rest loc1 nw1 G') ?_ ?_ S' hy.rel ⟨none, none, fun _ => false, 0, rfl, rfl, rfl, rfl, by omega, .inr rfl, by simp, by simp⟩
  · intro y v rest tl tg loc1 nw1 G' s1 hv S1 hJ
    obtain ⟨vu, vp, T, n, rfl, rfl, rfl, hT, hn, hn0, hr, hl⟩ := hJ
    obtain rfl := hr y (.head _)
    subst hv
    have hn0 : n = 0 := hn0.resolve_left (by simp)
    subst hn0
    have hr0 : rest = [] := by simpa using hl
    subst hr0
    clear S'
    have S' := S1
    clear S1
    simp only [List.cons_append] at S'
    refine Sta.unpackT S' hA'.handled (by walk_at "mem") (by kernel_rfl) (by kernel_rfl) ?_
    clear S'; intro s' S'
    refine assignInOrder_cons ?_
    refine assign_Name ?_
    repeat walk_at "cw"
    refine assignInOrder_cons ?_
    refine assign_Name ?_
    repeat walk_at "cw"
    refine assignInOrder_nil ?_
    repeat walk_at "cw"
    refine eq_s (fun e => absurd e (by decide +kernel)) (fun _ => ?_)
    repeat walk_at "cw"
    refine ⟨_, (_ :: _ :: _ :: _ :: _ :: _ :: _ :: _ :: N), _, S', ⟨_, _, _, _, rfl, rfl, rfl, ?_, ?_, .inl rfl, by simp, by simp⟩⟩
    · rw [hT]; decide +kernel
    · split <;> omega
  · intro loc1 nw1 G' s1 S1 hJ
    obtain ⟨vu, vp, T, n, rfl, rfl, rfl, hT, hn, _, _, _⟩ := hJ
    clear S'
    have S' := S1
    clear S1
    simp only [List.cons_append] at S'
    have hn1 : n < scanBound := Nat.lt_of_le_of_lt hn (by decide)
    repeat walk_at "cw"
    refine truthy_s S' (by decide +kernel) (fun _ s' S' => ?_) (fun e => absurd (show Str.length "" = 0 by decide +kernel) e)
    repeat walk_at "cw"
    rw [hT]
    repeat walk_at "cw"
    have S2 := S'.sel (nw' := (env.locals, IsNs loc) :: (a', IsTpl [.str x t, .str x t, .str "" _]) :: (w.x, IsInst 150 w.dx) :: (w.dx, IsAttrs (selfV w et q st)) :: (w.d, IsTxts st.held) :: (w.ns, IsLen (st.dp + 2)) :: (w.ps, IsLst (List.replicate (st.dp + 1) (.bool false))) :: (w.tp, IsTpl [.str xmlNs w.tu, .str "xml" w.tx]) ::
        (w.dns, IsLst (.ref w.a0 :: st.es.map .ref)) :: (w.a0, IsLst [.ref w.tp]) :: (esLed st.es ++ N)) (by
      iterate 8 (apply Sel.cons (by walk_at "pull"))
      exact Sel.drop (Sel.of_perm (List.perm_append_comm (l₁ := N) (l₂ := (w.dns, IsLst (.ref w.a0 :: st.es.map .ref)) :: (w.a0, IsLst [.ref w.tp]) :: esLed st.es))))
    have S3 := S2.sel (nw' := (env.locals, IsNs loc) :: (a', IsTpl [.str x t, .str x t, .str "" _]) :: wrLed w et q st N) (by
      simp only [wrLed]
      iterate 10 (apply Sel.cons (by walk_at "pull"))
      exact Sel.refl _)
    exact k a' _ s' (Sta.back S3 S.eok)
theorem qname_ {x : Str} {t : Tok} {Q : Value → Shared → Prop} (I : IsC W) (S : Sta W G env loc (wrLed w et q st N) s) (hA : Aok 12 A) (hx : plainName x)
    (k : ∀ a t2 s', Sta W G env loc ((a, IsTpl [.str x t, .str x t, .str "" t2]) :: wrLed w et q st N) s' → Q (.ref a) s') : wpAny (model W.prog W.w) A (call (.ref 90) [.ref w.x, .str x t]) Q E s := wpAny_call (qnameC_ I S hA hx k)
end
end
section
open PySem PySem.W PyProof.Rows PySem.W.X PySem.SeqAt
set_option maxRecDepth 100000
set_option linter.unusedVariables false
noncomputable abbrev lamArgs (p : Pos) : Arguments := ⟨[], [⟨"n", none, p⟩], none, [], [], none, []⟩
noncomputable abbrev lamBody (p1 p2 p3 p4 p5 : Pos) : Expr := .Call (.Attribute (.Name "n" p1) "split" p2) [.Constant (.str "}") 0 p3, .Constant (.int 1) 0 p4] [] p5
noncomputable abbrev lamScope : Scope := { kind := .function, names := [(Str.ofString "n", .local)], isGenerator := false, isCoroutine := false, more := [] }
noncomputable abbrev cmpScope : Scope := { kind := .function, names := [(Str.ofString ".0", .local), (Str.ofString "n", .local), (Str.ofString "parse_qname", .free)], isGenerator := false, isCoroutine := false, more := [] }
noncomputable abbrev startQ : Str := "C14NWriterTarget._start"
noncomputable abbrev lamQ1 : Str := "C14NWriterTarget._start.<locals>.<lambda>"
noncomputable abbrev env1 (L : Addr) : Env := envOfC startQ (fnScope st_start1) L 126 (.ref 125)
/-- names read -/
structure Pq where
  x : Str
  a : Addr
  t : Tok
  t2 : Tok
noncomputable def pqLed (pl : List Pq) : Ledger := pl.map fun p => (p.a, IsTpl [.str p.x p.t, .str p.x p.t, .str "" p.t2])
noncomputable def pqD (pl : List Pq) : List (Str × Value) := pl.map fun p => (p.x, .ref p.a)
noncomputable def splitB (x : Str) : List Str := Txt.splitMax x "}" 1
section
variable {W : Wd} {G : Gens} {env : Env} {loc loc' : Loc} {nw nw' : Ledger} {s : Shared} {A : Around} {E : Value → Shared → Prop} {w : Wr} {et : Value} {q : Addr} {st : Ws} {N : Ledger}
set_option maxHeartbeats 4000000 in
/-- the key of the sort -/
theorem lam_ {f c' : Addr} {clos : List (Str × Addr)} {qual x : Str} {t : Tok} {p0 p1 p2 p3 p4 p5 : Pos} {Q : Value → Shared → Prop} (S : Sta W G env loc nw s) (hA : Aok 2 A) (mf : (f, IsLam qual (lamArgs p0) (lamBody p1 p2 p3 p4 p5) lamScope clos c') ∈ nw) (mc : (c', IsCodeQ qual) ∈ nw) (hx : x.length ≤ 1000) (hl : (p2.endLine == p5.line) = true)
    (k : ∀ a s', Sta W G env loc ((a, IsTxts (splitB x)) :: nw) s' → Q (.ref a) s') : wpAny (model W.prog W.w) A (call (.ref f) [.str x t]) Q E s := by
  refine S.call_lam (binds := [("n", .str x t)]) mf mc hA.room (fun pm ctv => by kernel_rfl) (by kernel_rfl) ?_
  intro L s' S'
  simp only [mkLoc, List.map_cons, List.map_nil, List.cons_append, List.nil_append] at S'
  refine Call_m ?_ rfl rfl hl
  repeat walk_at "ev"
  refine getM_ssplit ?_
  repeat walk_at "ev"
  refine S'.splitMax (by decide +kernel) (by decide +kernel) (by omega) ?_
  clear S'; intro a s' S'
  exact k a s' (Sta.back (S'.perm (List.Perm.swap ..)) S.eok)
theorem pqD_keys (pl : List Pq) : (pqD pl).map (·.1) = pl.map (·.x) := by simp [pqD, List.map_map, Function.comp_def]
theorem perm_f {α : Type} (f a : α) (T R : List α) : List.Perm (f :: (T ++ a :: R)) (a :: f :: (T ++ R)) := (List.perm_middle.cons _).trans (List.Perm.swap ..)
noncomputable abbrev lamX (p0 p1 p2 p3 p4 p5 lp : Pos) : Expr := .Lambda (lamArgs p0) (lamBody p1 p2 p3 p4 p5) lamScope lp
noncomputable abbrev pqX (p0 p1 p2 p3 p4 p5 lp k1 k2 k3 k4 k5 k6 k7 k8 k9 k10 : Pos) : Expr := .DictComp (.Name "n" k1) (.Call (.Name "parse_qname" k2) [.Name "n" k3] [] k4) [⟨.Name "n" k5, .Call (.Name "sorted" k6) [.Name "qnames" k7] [⟨some "key", lamX p0 p1 p2 p3 p4 p5 lp, k8⟩] k9, [], 0⟩] cmpScope k10
set_option maxHeartbeats 4000000 in
theorem pq_ {b1 b2 : Pos} {loc2 : Addr → Loc} {L qs c2 bm : Addr} {c? : Option Addr} {ss : List Str} {p0 p1 p2 p3 p4 p5 lp k1 k2 k3 k4 k5 k6 k7 k8 k9 k10 : Pos} {Q : Flow → Shared → Prop} (I : IsC W) (C : CodeHd W.B 125 123) (hA : Aok 20 A) (hsw : swapsWith (pqX p0 p1 p2 p3 p4 p5 lp k1 k2 k3 k4 k5 k6 k7 k8 k9 k10) (some (.Name "parsed_qnames" b1)) b2.line (env1 L) = pure true) (hput : ∀ acc, Put "parsed_qnames" (some (.ref acc)) loc (loc2 acc)) (hl : (p2.endLine == p5.line) = true) (hpq : CellOk (env1 L) .cell "parse_qname" c2) (hq : (("qnames" : Str), some (Value.ref qs)) ∈ loc)
    (hnd : ss.Nodup) (hpl : ∀ x ∈ ss, plainName x) (h64 : ss.length < 64)
    (S' : Sta W G (env1 L) loc (Tabs 123 lp lamQ1 c? ++ ((qs, IsSL W ss) :: (c2, IsCel (some (.ref bm))) :: (bm, IsMeth 90 (.ref w.x)) :: wrLed w et q st N)) s)
    (k : ∀ acc pl c' s', (pl.map (·.x)).Perm ss → Sta W G (env1 L) (loc2 acc) ((acc, IsD W acc (pqD pl)) :: (c2, IsCel (some (.ref bm))) :: wrLed w et q st (pqLed pl ++ (Tabs 123 lp lamQ1 (some c') ++ N))) s' → Q .next s') :
    wpAny (model W.prog W.w) A (exec (.Assign [.Name "parsed_qnames" b1] (pqX p0 p1 p2 p3 p4 p5 lp k1 k2 k3 k4 k5 k6 k7 k8 k9 k10) b2) (env1 L)) Q E s := by
  refine assignDictComp (cl := [("parse_qname", c2)]) ["n"] hsw (closure_one (by kernel_rfl) hpq) (by kernel_rfl) rfl rfl ?_ (by intro _; kernel_rfl)
  refine Call_kw ?_ (by kernel_rfl)
  refine Sta.builtin S' I.b_sorted bo_sorted (by kernel_rfl) ?_
  refine callWith_kw ?_ (by kernel_rfl) (by kernel_rfl) (by kernel_rfl) (by kernel_rfl)
  refine args_cons ?_ (by kernel_rfl)
  refine S'.local_ hq ?_
  refine args_nil ?_
  refine kws_cons ?_
  refine Sta.lambda S' (by kernel_rfl) (clos := []) (by kernel_rfl) rfl C ?_
  clear S'; intro f c' s' S'
  refine kws_nil ?_
  have S2 : Sta W G (env1 L) loc ((qs, IsSL W ss) :: (f, IsLam lamQ1 (lamArgs p0) (lamBody p1 p2 p3 p4 p5) lamScope [] c') :: (Tabs 123 lp lamQ1 (some c') ++ ((c2, IsCel (some (.ref bm))) :: (bm, IsMeth 90 (.ref w.x)) :: wrLed w et q st N))) s' := S'.perm (perm_f _ _ _ _)
  show wpAny _ _ (call (.builtin "sorted") [.ref qs] [(Str.ofString "key", .ref f)]) _ _ _
  refine S2.sortedSet (kp := splitB) (hA.le (by first | decide | omega)) h64 (fun x t L0 s3 Q' hx S3 kk => ?_) fun l ss' s3 hp S3 => ?_
  · refine lam_ S3 ((hA.in1.in1).le (by omega)) (f := f) (c' := c') (List.mem_append_right _ (.tail _ (.head _))) (List.mem_append_right _ (.tail _ (.tail _ (.tail _ (.head _))))) (hpl x hx).2 hl kk
  refine S3.iterT .head fun it vs s4 ht S4 => ?_
  refine ⟨_, _, _, S4, ?_⟩
  intro acc Cc s5 eok S5
  refine compD_start rfl rfl self_li (S5.get (.tail _ (.tail _ (.head _)))) ?_
  have hnd' : ss'.Nodup := hp.nodup_iff.mpr hnd
  have Y : LY W [(l, IsLst vs)] it vs [(it, IsLI l 0)] := ly_list (own₀ := []) (by simp) vs 0 rfl
  refine compD_y (sh := [(l, IsLst vs)]) (P := fun x v => v = x) (hA.le (by first | decide | omega)) (compTurn_dict1 ..)
    (fun rest loc1 nw1 G' => G' = G ∧ ∃ vn, ∃ pl : List Pq, ∃ ssr, TxtsAre rest ssr ∧ pl.map (·.x) ++ ssr = ss' ∧ loc1 = ([("n", vn)] : Loc) ∧ nw1 = (acc, IsD W acc (pqD pl)) :: ((env1 L).locals, IsNs loc) :: (c2, IsCel (some (.ref bm))) :: (bm, IsMeth 90 (.ref w.x)) :: wrLed w et q st (pqLed pl ++ (Tabs 123 lp lamQ1 (some c') ++ N))) ?_ ?_ (nw := (acc, IsD W acc (pqD [])) :: ((env1 L).locals, IsNs loc) :: (c2, IsCel (some (.ref bm))) :: (bm, IsMeth 90 (.ref w.x)) :: wrLed w et q st (pqLed [] ++ (Tabs 123 lp lamQ1 (some c') ++ N))) (G := G) (own := [(it, IsLI l 0)]) (og := []) ?_ Y.yields.rel ⟨rfl, none, [], ss', ht, rfl, rfl, rfl⟩
  · intro x v rest tl tg loc1 nw1 G' s6 hv S6 hJ
    obtain ⟨rfl, vn, pl, ssr, htr, hss, rfl, rfl⟩ := hJ
    subst hv
    cases htr with
    | cons x t htr =>
    rename_i ssr
    refine wpAny_assign_Name (S6.store .head fun s' S' => ?_)
    refine wpAny_bind ?_
    refine S'.local_ (.head _) ?_
    refine wpAny_bind (wpAny_holding ?_)
    refine Call_ ?_ (by kernel_rfl)
    refine Sta.cell S' ⟨by kernel_rfl, rfl, by decide +kernel, by decide +kernel⟩ (c := c2) (.tail _ (.tail _ (.head _))) ?_
    refine callM_1 (f := 90) (self := .ref w.x) (by rw [I.k]; kernel_rfl) ?_ (by kernel_rfl) (by kernel_rfl)
    refine args_cons ?_ (by kernel_rfl)
    refine S'.local_ (.head _) ?_
    refine args_nil ?_
    refine ⟨S'.methP (.tail _ (.tail _ (.tail _ (.head _)))), ?_⟩
    refine S'.callMeth (.tail _ (.tail _ (.tail _ (.head _)))) ?_
    have hxs : x ∈ ss' := by rw [← hss]; simp
    have S7 := S'.perm (nw' := wrLed w et q st ((acc, IsD W acc (pqD pl)) :: ((env1 L).locals, IsNs loc) :: (c2, IsCel (some (.ref bm))) :: (bm, IsMeth 90 (.ref w.x)) :: ((pqLed pl ++ (Tabs 123 lp lamQ1 (some c') ++ N)) ++ ([(l, IsLst vs)] ++ tl)))) (by simp only [wrLed]; walk_at "perm")
    refine qnameC_ I S7 (hA.le (by first | decide | omega)) (hpl x (hp.mem_iff.mp hxs)) ?_
    intro a t2 s7 S8
    have S9 := S8.perm (nw' := (acc, IsD W acc (pqD pl)) :: ((env1 L).locals, IsNs loc) :: (c2, IsCel (some (.ref bm))) :: (bm, IsMeth 90 (.ref w.x)) :: (wrLed w et q st (pqLed (pl ++ [⟨x, a, t, t2⟩]) ++ (Tabs 123 lp lamQ1 (some c') ++ N)) ++ ([(l, IsLst vs)] ++ tl))) (by
      simp only [wrLed, pqLed, List.map_append, List.map_cons, List.map_nil]; walk_at "perm")
    refine wpAny_bind (wpAny_standAt (wpAny_holding ?_))
    have hnx : x ∉ (pqD pl).map (·.1) := by
      rw [pqD_keys]
      intro m
      rw [← hss, List.nodup_append] at hnd'
      exact hnd'.2.2 x m x (.head _) rfl
    have hlen : (pqD pl).length ≤ 64 := by
      have h1 := congrArg List.length hss
      have h2 := hp.length_eq
      simp only [pqD, List.length_map, List.length_append] at h1 ⊢
      omega
    refine S9.dictSet (x := x) (v := .ref a) .head (by rw [sizeLine_eq]; omega) fun s8 S10 => ?_
    rw [stored_new hnx] at S10
    refine ⟨([("n", some (.str x t))] : Loc), (acc, IsD W acc (pqD (pl ++ [⟨x, a, t, t2⟩]))) :: ((env1 L).locals, IsNs loc) :: (c2, IsCel (some (.ref bm))) :: (bm, IsMeth 90 (.ref w.x)) :: wrLed w et q st (pqLed (pl ++ [⟨x, a, t, t2⟩]) ++ (Tabs 123 lp lamQ1 (some c') ++ N)), G', ?_, rfl, some (.str x t), pl ++ [⟨x, a, t, t2⟩], ssr, htr, ?_, rfl, rfl⟩
    · have e : pqD (pl ++ [⟨x, a, t, t2⟩]) = pqD pl ++ [(x, .ref a)] := by simp [pqD]
      rw [e]; exact S10
    · rw [← hss]; simp
  · intro loc1 nw1 G' s6 S6 hJ
    obtain ⟨rfl, vn, pl, ssr, htr, hss, rfl, rfl⟩ := hJ
    cases htr
    rw [List.append_nil] at hss
    refine ⟨.next, ([("n", vn)] : Loc), loc2 acc, (acc, IsD W acc (pqD pl)) :: (c2, IsCel (some (.ref bm))) :: wrLed w et q st (pqLed pl ++ (Tabs 123 lp lamQ1 (some c') ++ N)), G', rfl, ?_, hput acc, fun s7 S7 => k acc pl c' s7 (by rw [hss]; exact hp) S7⟩
    exact S6.sel (by
      refine Sel.trans (Sel.of_perm (L2 := ((l, IsLst vs) :: (bm, IsMeth 90 (.ref w.x)) :: ((env1 L).locals, IsNs loc) :: (acc, IsD W acc (pqD pl)) :: (c2, IsCel (some (.ref bm))) :: wrLed w et q st (pqLed pl ++ (Tabs 123 lp lamQ1 (some c') ++ N)))) (by simp only [wrLed]; walk_at "perm")) ?_
      exact Sel.drop (Sel.drop (Sel.refl _)))
  · rw [List.append_nil]
    refine S5.sel (Sel.trans (Sel.of_perm (L2 := (f, IsLam lamQ1 (lamArgs p0) (lamBody p1 p2 p3 p4 p5) lamScope [] c') :: (qs, IsSL W ss) :: ((acc, IsD W acc (pqD [])) :: ((env1 L).locals, IsNs loc) :: (c2, IsCel (some (.ref bm))) :: (bm, IsMeth 90 (.ref w.x)) :: wrLed w et q st (pqLed [] ++ (Tabs 123 lp lamQ1 (some c') ++ N))) ++ ([(l, IsLst vs)] ++ [(it, IsLI l 0)])) ?_) (Sel.drop (Sel.drop (Sel.refl _))))
    simp only [wrLed, pqLed, pqD, List.map_nil]
    walk_at "perm"
end
end
section
open PySem PySem.W PyProof.Rows PySem.W.X PySem.SeqAt
set_option maxRecDepth 100000
set_option linter.unusedVariables false
noncomputable abbrev lamP : Pos := ⟨135, 71, 135, 96⟩
noncomputable abbrev loc1 (tag : Str) (t : Tok) (d nn : Addr) (vk vv vqs vrn vqa van vpq vuri val vaq vsb vwr : Option Value) : Loc := [("tag", some (.str tag t)), ("attrs", some (.ref d)), ("new_namespaces", some (.ref nn)), ("qname_text", some .none), ("k", vk), ("v", vv), ("qnames", vqs), ("resolved_names", vrn), ("qname", none), ("qattrs", vqa), ("attr_name", van), ("value", none), ("parsed_qnames", vpq), ("uri", vuri), ("attr_list", val), ("attr_qname", vaq), ("space_behaviour", vsb), ("write", vwr)]
section
variable {W : Wd} {G : Gens} {env : Env} {loc loc' : Loc} {nw nw' : Ledger} {s : Shared} {A : Around} {E : Value → Shared → Prop} {w : Wr} {et : Value} {q : Addr} {st : Ws} {N : Ledger}
theorem code1 (I : IsC W) : ∃ oc vs, W.K.lookup 125 = some oc ∧ oc.data = .fields vs ∧ ∃ f tf, vs.getD 18 .none = .str f tf := by
  rw [I.k]
  exact ⟨(obAt (KK W.w.params) 125), (match (obAt (KK W.w.params) 125).data with | .fields vs => vs | _ => #[]), by kernel_rfl, by kernel_rfl, (match (match (obAt (KK W.w.params) 125).data with | .fields vs => vs | _ => #[]).getD 18 .none with | .str f _ => f | _ => Str.empty), (match (match (obAt (KK W.w.params) 125).data with | .fields vs => vs | _ => #[]).getD 18 .none with | .str _ t => t | _ => 0), by kernel_rfl⟩
set_option maxHeartbeats 8000000 in
theorem startA_ {L d nn c1 c2 : Addr} {tag : Str} {t : Tok} {kvs : List (Str × Value)} {c? : Option Addr} {vk vv van vuri vaq vsb vwr : Option Value} {Q : Flow → Shared → Prop} (I : IsC W) (C : CodeHd W.B 125 123) (hA : Aok 22 A)
    (hself : CellOk (env1 L) .cell "self" c1) (hpq : CellOk (env1 L) .cell "parse_qname" c2) (hnn : nn ∈ st.es) (hx : tag ∉ kvs.map (·.1)) (hz : kvs.length ≤ 3) (hnd : (kvs.map (·.1)).Nodup) (hpl : ∀ x ∈ tag :: kvs.map (·.1), plainName x)
    (S' : Sta W G (env1 L) (loc1 tag t d nn vk vv none none none van none vuri none vaq vsb vwr) ((c1, IsCel (some (.ref w.x))) :: (c2, IsCel none) :: (d, IsD W d kvs) :: wrLed w et q st (Tabs 123 lamP lamQ1 c? ++ N)) s)
    (k : ∀ acc al pl vqs vrn c' s', (pl.map (·.x)).Perm (tag :: kvs.map (·.1)) → Sta W G (env1 L) (loc1 tag t d nn vk vv vqs vrn (some .none) van (some (.ref acc)) vuri (some (.ref al)) vaq vsb vwr) ((al, IsLst []) :: (acc, IsD W acc (pqD pl)) :: (c1, IsCel (some (.ref w.x))) :: (d, IsD W d kvs) :: wrLed w et q st (pqLed pl ++ (Tabs 123 lamP lamQ1 (some c') ++ N))) s' →
      wpAny (model W.prog W.w) A (execs ((fnBody st_start1).drop 8) (env1 L)) Q E s') :
    wpAny (model W.prog W.w) A (execs ((fnBody st_start1).drop 0) (env1 L)) Q E s := by
  have hcl := I.cl
  obtain ⟨oc, vs, hoc, hdc, hfl⟩ := code1 I
  simp only [loc1, wrLed] at S'
  repeat walk_at "cw"
  refine Sta.setDisp S' (hA.le (by first | decide | omega)) (x := tag) (kvs := kvs) (by walk_at "mem") (by walk_at "mem") rfl hoc hdc hfl (by walk_at "pull") hx hz ?_
  clear S'; intro qs s' S'
  repeat walk_at "cw"
  refine Sta.getBound (f := 90) S' hcl (by walk_at "mem") (by walk_at "mem") VV.keys (by decide +kernel) (by rw [I.k]; kernel_rfl) (by rw [I.k]; kernel_rfl) (by rw [I.k]; kernel_rfl) (by rw [I.k]; kernel_rfl) (by decide +kernel) ?_
  clear S'; intro bm s' S'
  refine Sta.storeC S' hpq (by walk_at "upd") ?_
  clear S'; intro s' S'
  repeat walk_at "cw"
  have S2 := S'.perm (nw' := Tabs 123 lamP lamQ1 c? ++ ((qs, IsSL W (tag :: kvs.map (·.1))) :: (c2, IsCel (some (.ref bm))) :: (bm, IsMeth 90 (.ref w.x)) :: wrLed w et q st ((c1, IsCel (some (.ref w.x))) :: (d, IsD W d kvs) :: (a', IsObj { cls := .type "dict", data := .dict #[] }) :: N))) (by simp only [wrLed]; walk_at "perm")
  refine pq_ (loc2 := fun acc => loc1 tag t d nn vk vv (some (.ref qs)) (some (.ref a')) (some .none) van (some (.ref acc)) vuri none vaq vsb vwr) I C (hA.le (by first | decide | omega)) (by kernel_rfl) (fun acc => by walk_at "put") (by decide) hpq (by walk_at "mem") (List.nodup_cons.mpr ⟨hx, hnd⟩) hpl (by simp; omega) S2 ?_
  intro acc pl c' s3 hp S3
  clear S'
  have S' := S3.sel (nw' := (acc, IsD W acc (pqD pl)) :: (c1, IsCel (some (.ref w.x))) :: (d, IsD W d kvs) :: wrLed w et q st (pqLed pl ++ (Tabs 123 lamP lamQ1 (some c') ++ N))) (by
    refine Sel.trans (Sel.of_perm (L2 := (c2, IsCel (some (.ref bm))) :: (a', IsObj { cls := .type "dict", data := .dict #[] }) :: (acc, IsD W acc (pqD pl)) :: (c1, IsCel (some (.ref w.x))) :: (d, IsD W d kvs) :: wrLed w et q st (pqLed pl ++ (Tabs 123 lamP lamQ1 (some c') ++ N))) (by simp only [wrLed]; walk_at "perm")) ?_
    exact Sel.drop (Sel.drop (Sel.refl _)))
  clear S2 S3
  simp only [loc1, wrLed] at S'
  have hmn : ∀ X : Ledger, (nn, IsLst []) ∈ esLed st.es ++ X := fun X => List.mem_append_left _ (List.mem_map.mpr ⟨nn, hnn, rfl⟩)
  refine execs_at rfl ?_
  refine wpAny_If ?_
  refine isTrue_plain ?_ (by kernel_rfl)
  refine S'.local_ (by walk_at "mem") ?_
  refine Sta.truthyL S' (xs := []) (by repeat (first | exact hmn _ | refine List.mem_cons_of_mem _ ?_)) (by simp) ?_
  clear S'; intro s' S'
  refine ite_f ?_
  refine wpAny_execs_cons ?_
  iterate 6 walk_at "cw"
  exact k acc a' pl _ _ c' s' hp S'
end
end
section
open PySem PySem.W PyProof.Rows PySem.W.X PySem.SeqAt
set_option maxRecDepth 100000
set_option linter.unusedVariables false
section
variable {W : Wd} {G : Gens} {env : Env} {loc loc' : Loc} {nw nw' : Ledger} {s : Shared} {A : Around} {E : Value → Shared → Prop} {w : Wr} {et : Value} {q : Addr} {st : Ws} {N : Ledger}
theorem pq_two {pl : List Pq} {tag x : Str} (h : (pl.map (·.x)).Perm [tag, x]) : ∃ p q : Pq, p.x = tag ∧ q.x = x ∧ List.Perm pl [p, q] := by
  have hl := h.length_eq
  match pl, hl with
  | [p, q], _ =>
    have h : List.Perm [p.x, q.x] [tag, x] := h
    have hm : p.x ∈ [tag, x] := h.mem_iff.mp (.head _)
    rcases List.mem_cons.mp hm with e | e
    · rw [e] at h
      have := List.perm_singleton.mp h.cons_inv
      exact ⟨p, q, e, by simpa using this, .refl _⟩
    · have e : p.x = x := by simpa using e
      rw [e] at h
      have := List.perm_singleton.mp (h.trans (List.Perm.swap ..)).cons_inv
      exact ⟨q, p, by simpa using this, e, .swap ..⟩
theorem pq_one {pl : List Pq} {tag : Str} (h : (pl.map (·.x)).Perm [tag]) : ∃ p : Pq, p.x = tag ∧ pl = [p] := by
  have hl := h.length_eq
  match pl, hl with
  | [p], _ => exact ⟨p, by simpa using List.perm_singleton.mp h, rfl⟩
set_option maxHeartbeats 8000000 in
/-- the attribute laid into attr_list -/
theorem startB_ {L d nn c1 acc al : Addr} {tag x : Str} {t : Tok} {v : Value} {vk vv vqs vrn van vuri vaq vsb vwr : Option Value} {p2 : Pq} {Q : Flow → Shared → Prop} (I : IsC W) (hA : Aok 12 A) (pl : List Pq) (hv : valueAt (pqD pl) x = some (.ref p2.a)) (hp2 : p2.x = x)
    (S' : Sta W G (env1 L) (loc1 tag t d nn vk vv vqs vrn (some .none) van (some (.ref acc)) vuri (some (.ref al)) vaq vsb vwr) ((p2.a, IsTpl [.str p2.x p2.t, .str p2.x p2.t, .str "" p2.t2]) :: (al, IsLst []) :: (acc, IsD W acc (pqD pl)) :: (d, IsD W d [(x, v)]) :: N) s)
    (k : ∀ tp vk vv van vuri vaq tx s', Sta W G (env1 L) (loc1 tag t d nn vk vv vqs vrn (some .none) van (some (.ref acc)) vuri (some (.ref al)) vaq vsb vwr) ((tp, IsTpl [.str x tx, v]) :: (al, IsLst [.ref tp]) :: (acc, IsD W acc (pqD pl)) :: (d, IsD W d [(x, v)]) :: N) s' →
      wpAny (model W.prog W.w) A (execs ((fnBody st_start1).drop 9) (env1 L)) Q E s') :
    wpAny (model W.prog W.w) A (execs ((fnBody st_start1).drop 8) (env1 L)) Q E s := by
  simp only [loc1] at S'
  refine execs_at rfl ?_
  refine wpAny_If ?_
  refine isTrue_plain ?_ (by kernel_rfl)
  repeat walk_at "cw"
  refine ite_t ?_
  refine wpAny_execs_cons ?_
  refine wpAny_For ?_ (by intro _; kernel_rfl)
  repeat walk_at "cw"
  refine Sta.builtin S' I.b_sorted bo_sorted (by kernel_rfl) ?_
  repeat walk_at "cw"
  refine Sta.getM_D S' (by walk_at "mem") F.slot_dict_items F.type_dict_items ?_
  repeat walk_at "cw"
  refine Sta.itemsD S' (by walk_at "mem") ?_
  clear S'; intro r s' S'
  repeat walk_at "cw"
  refine Sta.sortedItem S' hA.handled (x := x) (v := v) (by walk_at "mem") (by walk_at "mem") ?_
  clear S'; intro l tp t1 s' S'
  refine Sta.iterList S' (.head _) ?_
  clear S'; intro it s' S'
  have Y : LY W [(l, IsLst [Value.ref tp])] it [Value.ref tp] [(it, IsLI l 0)] := ly_list (own₀ := []) (by simp) _ 0 rfl
  have S2 := S'.perm (nw' := ((tp, IsTpl [.str x t1, v]) :: (p2.a, IsTpl [.str p2.x p2.t, .str p2.x p2.t, .str "" p2.t2]) :: (al, IsLst []) :: (acc, IsD W acc (pqD pl)) :: (d, IsD W d [(x, v)]) :: (r, IsView d) :: N) ++ ([(l, IsLst [.ref tp])] ++ [(it, IsLI l 0)])) (by walk_at "perm")
  clear S'
  refine for_y (sh := [(l, IsLst [Value.ref tp])]) (P := fun x v => v = x) (hA.le (by first | decide | omega)) (G := G) (og := []) (own := [(it, IsLI l 0)])
    (fun rest loc' nw1 G' => G' = G ∧ ((rest = [.ref tp] ∧ loc' = loc1 tag t d nn vk vv vqs vrn (some .none) van (some (.ref acc)) vuri (some (.ref al)) vaq vsb vwr ∧ nw1 = (tp, IsTpl [.str x t1, v]) :: (p2.a, IsTpl [.str p2.x p2.t, .str p2.x p2.t, .str "" p2.t2]) :: (al, IsLst []) :: (acc, IsD W acc (pqD pl)) :: (d, IsD W d [(x, v)]) :: (r, IsView d) :: N) ∨
      (rest = [] ∧ ∃ tp2 tx vk vv van vuri vaq, loc' = loc1 tag t d nn vk vv vqs vrn (some .none) van (some (.ref acc)) vuri (some (.ref al)) vaq vsb vwr ∧ nw1 = (tp2, IsTpl [.str x tx, v]) :: (al, IsLst [.ref tp2]) :: (acc, IsD W acc (pqD pl)) :: (d, IsD W d [(x, v)]) :: N))) ?_ ?_ (by rw [List.append_nil]; exact S2) Y.yields.rel ⟨rfl, .inl ⟨rfl, rfl, rfl⟩⟩
  · intro y vy rest tl tg loc' nw1 G' s1 hvy S1 hJ
    obtain ⟨rfl, ⟨hr, rfl, rfl⟩ | ⟨hr, _⟩⟩ := hJ
    · injection hr with hr1 hr2
      subst hr1 hr2 hvy
      have S' := S1
      clear S1 S2
      simp only [loc1, List.cons_append] at S'
      refine Sta.unpackT S' hA.handled (xs := [.str x t1, v]) (by walk_at "mem") (by kernel_rfl) (by kernel_rfl) ?_
      clear S'; intro s' S'
      refine assignInOrder_cons ?_
      refine assign_Name ?_
      repeat walk_at "cw"
      refine assignInOrder_cons ?_
      refine assign_Name ?_
      repeat walk_at "cw"
      refine assignInOrder_nil ?_
      repeat walk_at "cw"
      refine Assign_Tuple ?_ (by kernel_rfl) (by kernel_rfl)
      refine Subscript_any ?_ (by intro _ _; kernel_rfl)
      repeat walk_at "cw"
      refine Sta.subD S' (by walk_at "mem") hv ?_
      clear S'; intro s' S'
      refine Sta.unpackT S' hA.handled (xs := [.str p2.x p2.t, .str p2.x p2.t, .str "" p2.t2]) (by walk_at "mem") (by kernel_rfl) (by kernel_rfl) ?_
      clear S'; intro s' S'
      refine assignInOrder_cons ?_
      refine assign_Name ?_
      repeat walk_at "cw"
      refine assignInOrder_cons ?_
      refine assign_Name ?_
      repeat walk_at "cw"
      refine assignInOrder_cons ?_
      refine assign_Name ?_
      repeat walk_at "cw"
      refine assignInOrder_nil ?_
      repeat walk_at "cw"
      refine truthy_s S' (by decide +kernel) (fun _ s' S' => ?_) (fun e => absurd (show Str.length "" = 0 by decide +kernel) e)
      repeat walk_at "cw"
      rw [hp2] at S'
      simp only [List.nil_append] at S'
      refine ⟨_, (a', IsTpl [.str x p2.t, v]) :: (al, IsLst [.ref a']) :: (acc, IsD W acc (pqD pl)) :: (d, IsD W d [(x, v)]) :: N, G', S'.sel ?_, rfl, .inr ⟨rfl, a', p2.t, _, _, _, _, _, rfl, rfl⟩⟩
      refine Sel.trans (Sel.of_perm (L2 := (r, IsView d) :: (p2.a, IsTpl [.str x p2.t, .str x p2.t, .str "" p2.t2]) :: (tp, IsTpl [.str x t1, v]) :: ((a', IsTpl [.str x p2.t, v]) :: (al, IsLst [.ref a']) :: (acc, IsD W acc (pqD pl)) :: (d, IsD W d [(x, v)]) :: N) ++ ([(l, IsLst [.ref tp])] ++ tl)) (by walk_at "perm")) ?_
      exact Sel.drop (Sel.drop (Sel.drop (Sel.refl _)))
    · cases hr
  · intro loc' nw1 G' s1 S1 hJ
    obtain ⟨rfl, ⟨hr, _⟩ | ⟨_, tp2, tx, vk, vv, van, vuri, vaq, rfl, rfl⟩⟩ := hJ
    · cases hr
    · refine wpAny_execs_nil ?_
      exact k tp2 vk vv van vuri vaq tx s1 (S1.sel (Sel.trans (Sel.of_perm (List.perm_append_comm (l₂ := [(l, IsLst [Value.ref tp])]))) (Sel.drop (Sel.refl _))))
end
end
section
open PySem PySem.W PyProof.Rows PySem.W.X PySem.SeqAt
set_option maxRecDepth 100000
set_option linter.unusedVariables false
noncomputable def attrTxt (x v : Str) : Str := " " ++ x ++ "=\"" ++ escA v ++ "\""
noncomputable abbrev atScope : Scope := { kind := .function, names := [(Str.ofString ".0", .local), (Str.ofString "k", .local), (Str.ofString "v", .local), (Str.ofString "_escape_attrib_c14n", .globalImplicit)], isGenerator := false, isCoroutine := false, more := [] }
noncomputable abbrev atX (p1 p2 p3 p4 p5 p6 p7 p8 p9 p10 p11 p12 p13 p14 p15 : Pos) : Expr := .ListComp (.JoinedStr [.Constant (.str " ") 0 p1, .FormattedValue (.Name "k" p2) (-1) none p3, .Constant (.str "=\"") 0 p4, .FormattedValue (.Call (.Name "_escape_attrib_c14n" p5) [.Name "v" p6] [] p7) (-1) none p8, .Constant (.str "\"") 0 p9] p10) [⟨.Tuple [.Name "k" p11, .Name "v" p12] 0 p13, .Name "attr_list" p14, [], 0⟩] atScope p15
theorem escA_len (v : Str) : (escA v).length ≤ 6 * v.length := mapS_len _ 6 fA_len v
section
variable {W : Wd} {G : Gens} {env : Env} {loc loc' : Loc} {nw nw' : Ledger} {s : Shared} {A : Around} {E : Value → Shared → Prop} {w : Wr} {et : Value} {q : Addr} {st : Ws} {N : Ledger}
set_option maxHeartbeats 8000000 in
theorem attrTxt_ {L al tp : Addr} {x v : Str} {tx tv : Tok} {p1 p2 p3 p4 p5 p6 p7 p8 p9 p10 p11 p12 p13 p14 p15 : Pos} {Q : Value → Shared → Prop} (I : IsC W) (hA : Aok 12 A) (hx : x.length ≤ 1000) (hv : v.length ≤ txtLine) (hal : (("attr_list" : Str), some (Value.ref al)) ∈ loc)
    (S' : Sta W G (env1 L) loc ((al, IsLst [.ref tp]) :: (tp, IsTpl [.str x tx, .str v tv]) :: N) s)
    (k : ∀ b s', Sta W G (env1 L) loc ((b, IsTxts [attrTxt x v]) :: (al, IsLst [.ref tp]) :: (tp, IsTpl [.str x tx, .str v tv]) :: N) s' → Q (.ref b) s') :
    wpAny (model W.prog W.w) A (eval (atX p1 p2 p3 p4 p5 p6 p7 p8 p9 p10 p11 p12 p13 p14 p15) (env1 L)) Q E s := by
  have hl1 : (" " : Str).length = 1 := by decide +kernel
  have hl2 : ("=\"" : Str).length = 2 := by decide +kernel
  have hl3 : ("\"" : Str).length = 1 := by decide +kernel
  have hl4 := escA_len v
  unfold txtLine at hv
  refine listComp (cl := []) ["k", "v"] (by kernel_rfl) (by kernel_rfl) rfl rfl ?_ (by intro _; kernel_rfl)
  refine S'.local_ hal ?_
  refine S'.iterL (.head _) ?_
  clear S'; intro it s' S'
  refine ⟨G, _, _, S', ?_⟩
  intro b Cc s1 eok S1
  refine comp_start rfl rfl self_li (S1.get (.tail _ (.tail _ (.head _)))) ?_
  have Y : LY W [(al, IsLst [Value.ref tp])] it [Value.ref tp] [(it, IsLI al 0)] := ly_list (own₀ := []) (by simp) _ 0 rfl
  have S2 := S1.perm (nw' := ((b, IsLst []) :: ((env1 L).locals, IsNs loc) :: (tp, IsTpl [.str x tx, .str v tv]) :: N) ++ ([(al, IsLst [.ref tp])] ++ [(it, IsLI al 0)])) (by walk_at "perm")
  clear S' S1
  refine comp_y (sh := [(al, IsLst [Value.ref tp])]) (P := fun x v => v = x) (hA.le (by first | decide | omega)) (compTurn_list1 ..) (G := G) (og := []) (own := [(it, IsLI al 0)])
    (fun rest loc' nw1 G' => G' = G ∧ ((rest = [.ref tp] ∧ loc' = ([("k", none), ("v", none)] : Loc) ∧ nw1 = (b, IsLst []) :: ((env1 L).locals, IsNs loc) :: (tp, IsTpl [.str x tx, .str v tv]) :: N) ∨
      (rest = [] ∧ ∃ vk vv tt, loc' = ([("k", vk), ("v", vv)] : Loc) ∧ nw1 = (b, IsLst [.str (attrTxt x v) tt]) :: ((env1 L).locals, IsNs loc) :: (tp, IsTpl [.str x tx, .str v tv]) :: N))) ?_ ?_ (by rw [List.append_nil]; exact S2) Y.yields.rel ⟨rfl, .inl ⟨rfl, rfl, rfl⟩⟩
  · intro y vy rest tl tg loc' nw1 G' s1 hvy S1 hJ
    obtain ⟨rfl, ⟨hr, rfl, rfl⟩ | ⟨hr, _⟩⟩ := hJ
    · injection hr with hr1 hr2
      subst hr1 hr2 hvy
      have S' := S1
      clear S1 S2
      simp only [List.cons_append] at S'
      refine Sta.unpackT S' hA.handled (xs := [.str x tx, .str v tv]) (by walk_at "mem") (by kernel_rfl) (by kernel_rfl) ?_
      clear S'; intro s' S'
      refine assignInOrder_cons ?_
      refine assign_Name ?_
      repeat walk_at "cw"
      refine assignInOrder_cons ?_
      refine assign_Name ?_
      repeat walk_at "cw"
      refine assignInOrder_nil ?_
      refine wpAny_bind ?_
      repeat walk_at "cw"
      refine Sta.global S' I.g_escA (by kernel_rfl) ?_
      refine callW_1 (by rw [I.k]; kernel_rfl) ?_ (by kernel_rfl) (by kernel_rfl)
      repeat walk_at "cw"
      refine ⟨S'.kin, ?_⟩
      refine escA_ I S' (hA.le (by first | decide | omega)) (by unfold txtLine; omega) ?_
      clear S'; intro t2 s' S'
      repeat walk_at "cw"
      refine wpAny_bind (S'.append .head (by simp) fun s' S' => wpAny_pure ?_)
      refine ⟨([("k", some (.str x tx)), ("v", some (.str v tv))] : Loc), (b, IsLst [.str (attrTxt x v) t']) :: ((env1 L).locals, IsNs loc) :: (tp, IsTpl [.str x tx, .str v tv]) :: N, G', ?_, rfl, .inr ⟨rfl, some (.str x tx), some (.str v tv), t', rfl, rfl⟩⟩
      have e : attrTxt x v = Str.empty ++ " " ++ x ++ "=\"" ++ escA v ++ "\"" := by rw [Str.empty_append]; rfl
      rw [e]
      exact S'
    · cases hr
  · intro loc' nw1 G' s1 S1 hJ
    obtain ⟨rfl, ⟨hr, _⟩ | ⟨_, vk, vv, tt, rfl, rfl⟩⟩ := hJ
    · cases hr
    · have S2 := S1.tell (nw' := (b, IsTxts [attrTxt x v]) :: (((env1 L).locals, IsNs loc) :: (tp, IsTpl [.str x tx, .str v tv]) :: N) ++ [(al, IsLst [Value.ref tp])]) .head fun o _ ho => ⟨_, .cons _ _ .nil, ho⟩
      refine ⟨.next, ([("k", vk), ("v", vv)] : Loc), (b, IsTxts [attrTxt x v]) :: (al, IsLst [.ref tp]) :: (tp, IsTpl [.str x tx, .str v tv]) :: N, G', rfl, S2.perm (by walk_at "perm"), fun s3 S3 => k b s3 S3⟩
end
end
section
open PySem PySem.W PyProof.Rows PySem.W.X PySem.SeqAt
set_option maxRecDepth 100000
set_option linter.unusedVariables false
noncomputable def alLed (al tp : Addr) (tx tv : Tok) : Option (Str × Str) → Ledger
  | none => [(al, IsLst [])]
  | some (x, v) => [(al, IsLst [.ref tp]), (tp, IsTpl [.str x tx, .str v tv])]
noncomputable def atTxts : Option (Str × Str) → List Str
  | none => []
  | some (x, v) => [attrTxt x v]
noncomputable def atKeys : Option (Str × Str) → List Str
  | none => []
  | some (x, _) => [x]
noncomputable def atOk : Option (Str × Str) → Prop
  | none => True
  | some (x, v) => plainName x ∧ v.length ≤ txtLine
noncomputable def startTxts (tag : Str) (at_ : Option (Str × Str)) : List Str := ("<" ++ tag) :: (atTxts at_ ++ [(">" : Str)])
noncomputable abbrev spaceK : Str := "{http://www.w3.org/XML/1998/namespace}space"
theorem plain_space {x : Str} (h : plainName x) : x ≠ spaceK := by
  rintro rfl
  exact h.1 (by decide +kernel)
theorem attrTxt_len (x v : Str) : (attrTxt x v).length ≤ x.length + 6 * v.length + 4 := by
  have hl1 : (" " : Str).length = 1 := by decide +kernel
  have hl2 : ("=\"" : Str).length = 2 := by decide +kernel
  have hl3 : ("\"" : Str).length = 1 := by decide +kernel
  have hl4 := escA_len v
  unfold attrTxt
  simp only [Str.length_append]
  omega
theorem last_rep (n : Nat) : (List.replicate (n + 1) (Value.bool false)).getLast? = some (.bool false) := by
  rw [List.replicate_succ']; simp
section
variable {W : Wd} {G : Gens} {env : Env} {loc loc' : Loc} {nw nw' : Ledger} {s : Shared} {A : Around} {E : Value → Shared → Prop} {w : Wr} {et : Value} {q : Addr} {st : Ws} {N : Ledger}
theorem Sta.lenOf {a : Addr} {n : Nat} {c' : Cell} (S : Sta W G env loc nw s) (U : Upd a (IsLen n) c' nw nw') : ∃ xs nw1, xs.length = n ∧ Upd a (IsLen n) (IsLst xs) nw nw1 ∧ Upd a (IsLst xs) c' nw1 nw' ∧ Sta W G env loc nw1 s := by
  obtain ⟨o, ho, xs, hl, hx⟩ := S.get U.mem
  obtain ⟨nw1, U1, U2⟩ := U.via2 (IsLst xs)
  exact ⟨xs, nw1, hl, U1, U2, S.tell U1 fun o' ho' _ => by rw [ho] at ho'; cases ho'; exact hx⟩
theorem Sta.getM_len {name : Str} {a : Addr} {n : Nat} {Q : Value × List Value → Shared → Prop} {id : String} (S : Sta W G env loc nw s) (m : (a, IsLen n) ∈ nw) (slot : Slot "list" name id) (hty : typeOf (.builtin id) = pure (.type "method_descriptor")) (h : Q (.builtin id, [.ref a]) s) :
    GetM (model W.prog W.w) A E name (.ref a) Q s := by
  obtain ⟨o, ho, xs, hx, n, rfl⟩ := S.get m
  exact getM_builtin F.plainAttrs_list slot hty ⟨_, ho, rfl⟩ (fun b e => by cases e; exact ⟨_, ho, rfl⟩) h
theorem Sta.appendLen {a : Addr} {n : Nat} {v : Value} {Q : Value → Shared → Prop} (S : Sta W G env loc nw s) (U : Upd a (IsLen n) (IsLen (n + 1)) nw nw') (hz : n ≤ sizeLine) (h : ∀ s', Sta W G env loc nw' s' → Q .none s') :
    wpAny (model W.prog W.w) A (call (.builtin "list.append") [.ref a, v]) Q E s := by
  obtain ⟨xs, nw1, hl, U1, U2, S1⟩ := S.lenOf U
  obtain ⟨nw2, U3, U4⟩ := U2.via2 (IsLst (xs ++ [v]))
  exact S1.append U3 (by rw [hl]; exact hz) fun s' S2 => h _ (S2.tell U4 fun o _ ho => ⟨_, by simp [hl], ho⟩)
theorem Sta.popLen {a : Addr} {n : Nat} {Q : Value → Shared → Prop} (S : Sta W G env loc nw s) (U : Upd a (IsLen (n + 1)) (IsLen n) nw nw') (hz : n < sizeLine) (h : ∀ v s', Sta W G env loc nw' s' → Q v s') :
    wpAny (model W.prog W.w) A (call (.builtin "list.pop") [.ref a]) Q E s := by
  obtain ⟨xs, nw1, hl, U1, U2, S1⟩ := S.lenOf U
  obtain ⟨ys, v, rfl⟩ : ∃ ys v, xs = ys ++ [v] := by
    have hne : xs ≠ [] := fun e => by subst e; simp at hl
    exact ⟨xs.dropLast, xs.getLast hne, (List.dropLast_concat_getLast hne).symm⟩
  obtain ⟨nw2, U3, U4⟩ := U2.via2 (IsLst ys)
  have hy : ys.length = n := by simpa using hl
  exact S1.pop U3 (by rw [hy]; exact hz) fun s' S2 => h v _ (S2.tell U4 fun o _ ho => ⟨_, hy, ho⟩)
set_option maxHeartbeats 8000000 in
theorem startC_ {K : Sink W} {σ : K.σ} {L d nn c1 acc al tp : Addr} {tx tv : Tok} {at_ : Option (Str × Str)} {kvs : List (Str × Value)} {t : Tok} {vk vv vqs vrn van vuri vaq : Option Value} {p1 : Pq} {Q : Flow → Shared → Prop} (I : IsC W) (hA : Aok 14 A) (hself : CellOk (env1 L) .cell "self" c1) (pl : List Pq) (hv1 : valueAt (pqD pl) p1.x = some (.ref p1.a)) (hpl : plainName p1.x) (hat : atOk at_) (hsp : valueAt kvs spaceK = none) (hr : K.room σ 3) (hdp : st.dp ≤ 10000)
    (S' : Sta W G (env1 L) (loc1 p1.x t d nn vk vv vqs vrn (some .none) van (some (.ref acc)) vuri (some (.ref al)) vaq none none) (alLed al tp tx tv at_ ++ ((p1.a, IsTpl [.str p1.x p1.t, .str p1.x p1.t, .str "" p1.t2]) :: (acc, IsD W acc (pqD pl)) :: (c1, IsCel (some (.ref w.x))) :: (d, IsD W d kvs) :: wrLed w et K.q st (K.L σ ++ N))) s)
    (k : ∀ loc' s', Sta W G (env1 L) loc' (wrLed w et K.q { st with rs := true, dp := st.dp + 1 } (K.L (K.pushes σ (startTxts p1.x at_)) ++ N)) s' → Q .next s') :
    wpAny (model W.prog W.w) A (execs ((fnBody st_start1).drop 9) (env1 L)) Q E s := by
  have hcl := I.cl
  have hl1 : ("<" : Str).length = 1 := by decide +kernel
  have hl2 := hpl.2
  have hps : (List.replicate (st.dp + 1) (Value.bool false)).length ≤ sizeLine := by rw [List.length_replicate, sizeLine_eq]; omega
  have hls := last_rep st.dp
  have hr1 : K.room σ 1 := K.less (K.less hr)
  have hr2 : ∀ x, K.room (K.push σ x) 2 := fun x => K.step x hr
  have hr3 : ∀ x y, K.room (K.push (K.push σ x) y) 1 := fun x y => K.step y (hr2 x)
  simp only [loc1] at S'
  replace S' := S'.perm (nw' := (p1.a, IsTpl [.str p1.x p1.t, .str p1.x p1.t, .str "" p1.t2]) :: (acc, IsD W acc (pqD pl)) :: (c1, IsCel (some (.ref w.x))) :: (d, IsD W d kvs) :: wrLed w et K.q st (K.L σ ++ (alLed al tp tx tv at_ ++ N))) (by walk_at "perm")
  simp only [wrLed] at S'
  repeat walk_at "cw"
  refine Sta.getM_D S' (by walk_at "mem") F.slot_dict_get F.type_dict_get ?_
  repeat walk_at "cw"
  refine Sta.dictGet S' (by walk_at "mem") ?_
  clear S'; intro s' S'
  rw [hsp, Option.getD_none]
  repeat walk_at "cw"
  refine Subscript_any ?_ (by intro _ _; kernel_rfl)
  repeat walk_at "cw"
  refine Sta.sub_last S' (by walk_at "mem") hls ?_
  repeat walk_at "cw"
  refine Subscript_any ?_ (by intro _ _; kernel_rfl)
  refine Subscript_any ?_ (by intro _ _; kernel_rfl)
  repeat walk_at "cw"
  refine Sta.subD S' (by walk_at "mem") hv1 ?_
  clear S'; intro s' S'
  repeat walk_at "cw"
  refine Sta.sub_tuple S' (by walk_at "mem") (j := 0) rfl (by omega) rfl ?_
  repeat walk_at "cw"
  refine ⟨S'.sinkLed (L' := []) (by walk_at "mid"), ?_⟩
  refine S'.sink (hA.le (by first | decide | omega)) hr1 (by walk_at "mid") ?_
  clear S'; intro s' S'
  repeat walk_at "cw"
  cases at_ with
  | none =>
    simp only [alLed, List.cons_append, List.nil_append] at S'
    replace S' := Sta.pl (p := (al, IsLst [])) S' (by walk_at "pl")
    repeat walk_at "cw"
    refine ite_f ?_
    repeat walk_at "cw"
    refine ⟨S'.sinkLed (L' := []) (by walk_at "mid"), ?_⟩
    refine S'.sink (hA.le (by first | decide | omega)) (K.less (hr2 _)) (by walk_at "mid") ?_
    clear S'; intro s' S'
    repeat walk_at "cw"
    refine Sta.getM_len S' (by walk_at "mem") F.slot_list_append F.type_list_append ?_
    repeat walk_at "cw"
    refine Sta.appendLen S' (by walk_at "upd") (by rw [sizeLine_eq]; omega) ?_
    clear S'; intro s' S'
    repeat walk_at "cw"
    rw [← List.replicate_succ'] at S'
    exact k _ s' (S'.sel (Sel.drop (Sel.drop (Sel.drop (Sel.drop (Sel.drop (Sel.drop (Sel.refl _))))))))
  | some xv =>
    obtain ⟨x, v⟩ := xv
    simp only [alLed, List.cons_append, List.nil_append] at S'
    replace S' := Sta.pl (p := (tp, IsTpl [.str x tx, .str v tv])) S' (by walk_at "pl")
    replace S' := Sta.pl (p := (al, IsLst [.ref tp])) S' (by walk_at "pl")
    repeat walk_at "cw"
    refine ite_t ?_
    repeat walk_at "cw"
    refine getM_sjoin ?_
    refine callWith_m1 ?_ (by kernel_rfl) (by kernel_rfl)
    refine args_cons ?_ (by kernel_rfl)
    refine attrTxt_ (al := al) (tp := tp) I (hA.le (by first | decide | omega)) hat.1.2 hat.2 (by walk_at "mem") S' ?_
    clear S'; intro b s' S'
    refine args_nil ?_
    refine Sta.joinT S' (.head _) (by kernel_rfl) (by
      have h1 := hat.1.2
      have h2 := hat.2
      have h3 := attrTxt_len x v
      unfold txtLine at h2
      rw [cat_len]
      simp only [List.map_cons, List.map_nil, List.sum_cons, List.sum_nil]
      omega) ?_
    clear S'; intro t3 s' S'
    have ec : cat [attrTxt x v] = attrTxt x v := Str.append_empty _
    rw [ec]
    repeat walk_at "cw"
    refine ⟨S'.sinkLed (L' := []) (by walk_at "mid"), ?_⟩
    refine S'.sink (hA.le (by first | decide | omega)) (K.less (hr2 _)) (by walk_at "mid") ?_
    clear S'; intro s' S'
    repeat walk_at "cw"
    refine ⟨S'.sinkLed (L' := []) (by walk_at "mid"), ?_⟩
    refine S'.sink (hA.le (by first | decide | omega)) (hr3 _ _) (by walk_at "mid") ?_
    clear S'; intro s' S'
    repeat walk_at "cw"
    refine Sta.getM_len S' (by walk_at "mem") F.slot_list_append F.type_list_append ?_
    repeat walk_at "cw"
    refine Sta.appendLen S' (by walk_at "upd") (by rw [sizeLine_eq]; omega) ?_
    clear S'; intro s' S'
    repeat walk_at "cw"
    rw [← List.replicate_succ'] at S'
    exact k _ s' (S'.sel (Sel.drop (Sel.drop (Sel.drop (Sel.drop (Sel.drop (Sel.drop (Sel.drop (Sel.drop (Sel.refl _))))))))))
end
end
section
open PySem PySem.W PyProof.Rows PySem.W.X PySem.SeqAt
set_option maxRecDepth 100000
set_option linter.unusedVariables false
noncomputable def kvsOf (tv : Tok) : Option (Str × Str) → List (Str × Value)
  | none => []
  | some (x, v) => [(x, .str v tv)]
theorem kvsOf_keys (tv : Tok) (at_ : Option (Str × Str)) : (kvsOf tv at_).map (·.1) = atKeys at_ := by cases at_ <;> rfl
section
variable {W : Wd} {G : Gens} {env : Env} {loc loc' : Loc} {nw nw' : Ledger} {s : Shared} {A : Around} {E : Value → Shared → Prop} {w : Wr} {et : Value} {q : Addr} {st : Ws} {N : Ledger}
set_option maxHeartbeats 8000000 in
theorem start1_ {K : Sink W} {σ : K.σ} {d nn : Addr} {tag : Str} {t tv : Tok} {at_ : Option (Str × Str)} {c? : Option Addr} {Q : Value → Shared → Prop} (I : IsC W) (C : CodeHd W.B 125 123) (hA : Aok 24 A) (hnn : nn ∈ st.es) (htag : plainName tag) (hat : atOk at_) (hne : tag ∉ atKeys at_) (hr : K.room σ 3) (hdp : st.dp ≤ 10000)
    (S : Sta W G env loc ((d, IsD W d (kvsOf tv at_)) :: wrLed w et K.q st (K.L σ ++ (Tabs 123 lamP lamQ1 c? ++ N))) s)
    (k : ∀ c' s', Sta W G env loc (wrLed w et K.q { st with rs := true, dp := st.dp + 1 } (K.L (K.pushes σ (startTxts tag at_)) ++ (Tabs 123 lamP lamQ1 (some c') ++ N))) s' → Q .none s') :
    wpAny (model W.prog W.w) A (call (.ref 126) [.ref w.x, .str tag t, .ref d, .ref nn]) Q E s := by
  refine S.call_fnC (binds := [("self", .ref w.x), ("tag", .str tag t), ("attrs", .ref d), ("new_namespaces", .ref nn), ("qname_text", .none)]) [("tag", .str tag t), ("attrs", .ref d), ("new_namespaces", .ref nn), ("qname_text", .none)] ["k", "v", "qnames", "resolved_names", "qname", "qattrs", "attr_name", "value", "parsed_qnames", "uri", "attr_list", "attr_qname", "space_behaviour", "write"] [some (.ref w.x), none] I.f_start1 hA.room ?_ (by kernel_rfl) (by kernel_rfl) (by kernel_rfl) ?_
  · intro name doc pm ct an
    exact kp_binds S.kin fun S => by rw [I.k]; kernel_rfl
  intro L cs s' hcs S'
  have hnm : cellNames (fnScope st_start1).names = (["self", "parse_qname"] : List Str) := by kernel_rfl
  rw [hnm] at hcs
  obtain ⟨c1, c2, rfl, hself, hpq⟩ := hcs.two
  have hA' := hA.deeper (env := env1 L)
  simp only [mkLoc, List.map_cons, List.map_nil, List.cons_append, List.nil_append, cellLed] at S'
  have S2 := S'.perm (nw' := (c1, IsCel (some (.ref w.x))) :: (c2, IsCel none) :: (d, IsD W d (kvsOf tv at_)) :: wrLed w et K.q st (Tabs 123 lamP lamQ1 c? ++ ((env.locals, IsNs loc) :: (K.L σ ++ N)))) (by simp only [wrLed]; walk_at "perm")
  clear S'
  refine execs_go ?_
  have hkn : ((kvsOf tv at_).map (·.1)).Nodup := by cases at_ <;> simp [kvsOf]
  refine startA_ (kvs := kvsOf tv at_) I C (hA'.le (by first | decide | omega)) hself hpq hnn (by rw [kvsOf_keys]; exact hne) (by cases at_ <;> simp [kvsOf]) hkn (fun x hx => ?_) S2 ?_
  · rcases List.mem_cons.mp hx with rfl | hx
    · exact htag
    · cases at_ with
      | none => simp [kvsOf] at hx
      | some p => obtain ⟨y, v⟩ := p; simp [kvsOf] at hx; subst hx; exact hat.1
  intro acc al pl vqs vrn c' s3 hp S3
  rw [kvsOf_keys] at hp
  have hpn : ((pqD pl).map (·.1)).Nodup := by
    rw [pqD_keys]
    refine hp.nodup_iff.mpr (List.nodup_cons.mpr ⟨hne, ?_⟩)
    cases at_ <;> simp [atKeys]
  cases at_ with
  | none =>
    obtain ⟨p1, rfl, rfl⟩ := pq_one hp
    have hv1 : valueAt (pqD [p1]) p1.x = some (.ref p1.a) := valueAt_mem hpn (by simp [pqD])
    refine execs_at rfl ?_
    refine wpAny_If ?_
    refine isTrue_plain ?_ (by kernel_rfl)
    refine S3.local_ (by simp only [loc1]; walk_at "mem") ?_
    refine Sta.truthyD S3 (kvs := []) (.tail _ (.tail _ (.tail _ (.head _)))) (by simp) ?_
    intro s4 S4
    refine ite_f ?_
    refine wpAny_execs_nil ?_
    have S5 := S4.perm (nw' := alLed al 0 0 0 none ++ ((p1.a, IsTpl [.str p1.x p1.t, .str p1.x p1.t, .str "" p1.t2]) :: (acc, IsD W acc (pqD [p1])) :: (c1, IsCel (some (.ref w.x))) :: (d, IsD W d (kvsOf tv none)) :: wrLed w et K.q st (K.L σ ++ (Tabs 123 lamP lamQ1 (some c') ++ ((env.locals, IsNs loc) :: N))))) (by
      simp only [wrLed, alLed, pqLed, List.map_cons, List.map_nil]; walk_at "perm")
    refine startC_ (kvs := kvsOf tv none) I (hA'.le (by first | decide | omega)) hself [p1] hv1 htag hat (by rfl) hr hdp S5 ?_
    intro loc' s6 S6
    refine k c' s6 (Sta.back (S6.perm ?_) S.eok)
    simp only [wrLed]; walk_at "perm"
  | some xv =>
    obtain ⟨x, v⟩ := xv
    obtain ⟨p1, p2, h1, h2, hpp⟩ := pq_two hp
    subst h1
    have hv1 : valueAt (pqD pl) p1.x = some (.ref p1.a) := valueAt_mem hpn (List.mem_map.mpr ⟨p1, hpp.mem_iff.mpr (.head _), rfl⟩)
    have hv2 : valueAt (pqD pl) x = some (.ref p2.a) := by rw [← h2]; exact valueAt_mem hpn (List.mem_map.mpr ⟨p2, hpp.mem_iff.mpr (.tail _ (.head _)), rfl⟩)
    have hpL : List.Perm (pqLed pl) [(p1.a, IsTpl [.str p1.x p1.t, .str p1.x p1.t, .str "" p1.t2]), (p2.a, IsTpl [.str p2.x p2.t, .str p2.x p2.t, .str "" p2.t2])] := hpp.map _
    have S4 := S3.perm (nw' := (p2.a, IsTpl [.str p2.x p2.t, .str p2.x p2.t, .str "" p2.t2]) :: (al, IsLst []) :: (acc, IsD W acc (pqD pl)) :: (d, IsD W d [(x, .str v tv)]) :: ((p1.a, IsTpl [.str p1.x p1.t, .str p1.x p1.t, .str "" p1.t2]) :: (c1, IsCel (some (.ref w.x))) :: wrLed w et K.q st (K.L σ ++ (Tabs 123 lamP lamQ1 (some c') ++ ((env.locals, IsNs loc) :: N))))) (by
      refine List.Perm.trans (l₂ := pqLed pl ++ ((al, IsLst []) :: (acc, IsD W acc (pqD pl)) :: (d, IsD W d [(x, .str v tv)]) :: ((c1, IsCel (some (.ref w.x))) :: wrLed w et K.q st (K.L σ ++ (Tabs 123 lamP lamQ1 (some c') ++ ((env.locals, IsNs loc) :: N)))))) ?_ ((hpL.append_right _).trans ?_)
      · simp only [wrLed, kvsOf]; walk_at "perm"
      · simp only [wrLed]; walk_at "perm")
    refine startB_ (c1 := c1) I (hA'.le (by first | decide | omega)) pl hv2 h2 S4 ?_
    intro tp vk vv van vuri vaq tx s5 S5
    have S6 := S5.perm (nw' := alLed al tp tx tv (some (x, v)) ++ ((p1.a, IsTpl [.str p1.x p1.t, .str p1.x p1.t, .str "" p1.t2]) :: (acc, IsD W acc (pqD pl)) :: (c1, IsCel (some (.ref w.x))) :: (d, IsD W d (kvsOf tv (some (x, v)))) :: wrLed w et K.q st (K.L σ ++ (Tabs 123 lamP lamQ1 (some c') ++ ((env.locals, IsNs loc) :: N))))) (by
      simp only [wrLed, alLed, kvsOf]; walk_at "perm")
    refine startC_ (kvs := kvsOf tv (some (x, v))) I (hA'.le (by first | decide | omega)) hself pl hv1 htag hat (valueAt_none (by simp only [kvsOf, List.map_cons, List.map_nil, List.mem_singleton]; exact (plain_space hat.1).symm)) hr hdp S6 ?_
    intro loc' s7 S7
    refine k c' s7 (Sta.back (S7.perm ?_) S.eok)
    simp only [wrLed]; walk_at "perm"
end
end
section
open PySem PySem.W PyProof.Rows PySem.W.X PySem.SeqAt
set_option maxRecDepth 100000
set_option linter.unusedVariables false
noncomputable def Ws.started (st : Ws) (nn : Addr) : Ws := { st with held := [], es := st.es ++ [nn], rs := true, dp := st.dp + 1 }
noncomputable abbrev envS (L : Addr) : Env := envOf "C14NWriterTarget.start" (fnScope st_start) L 120 (.ref 119)
noncomputable abbrev locS (w : Wr) (tag : Str) (t : Tok) (d : Addr) (vn : Option Value) : Loc := [("self", some (.ref w.x)), ("tag", some (.str tag t)), ("attrs", some (.ref d)), ("new_namespaces", vn)]
theorem room_le {W : Wd} (K : Sink W) {σ : K.σ} {n m : Nat} (h : n ≤ m) (hr : K.room σ m) : K.room σ n := by
  induction m with
  | zero => have : n = 0 := by omega
            subst this; exact hr
  | succ m ih =>
    by_cases e : n = m + 1
    · subst e; exact hr
    · exact ih (by omega) (K.less hr)
theorem room_pushes {W : Wd} (K : Sink W) : ∀ (xs : List Str) {σ : K.σ} {n : Nat}, K.room σ (n + xs.length) → K.room (K.pushes σ xs) n
  | [], σ, n, h => h
  | x :: r, σ, n, h => room_pushes K r (σ := K.push σ x) (K.step x (by simpa [Nat.add_assoc] using h))
theorem flushed_len (held : List Str) : (flushed held).length ≤ 1 := by unfold flushed; split <;> simp
theorem room_fl {W : Wd} (K : Sink W) {σ : K.σ} {n : Nat} (held : List Str) (h : K.room σ (n + 1)) : K.room (K.pushes σ (flushed held)) n := room_pushes K _ (room_le K (by have := flushed_len held; omega) h)
theorem esLed_snoc (es : List Addr) (a : Addr) : esLed (es ++ [a]) = esLed es ++ [(a, IsLst [])] := by simp [esLed]
section
variable {W : Wd} {G : Gens} {env : Env} {loc loc' : Loc} {nw nw' : Ledger} {s : Shared} {A : Around} {E : Value → Shared → Prop} {w : Wr} {et : Value} {q : Addr} {st : Ws} {N : Ledger}
set_option maxHeartbeats 8000000 in
/-- the held text let out, as every method does it -/
theorem flushNow_ {K : Sink W} {σ : K.σ} {pos apos opos : Pos} {Q : Value → Shared → Prop} (I : IsC W) (hA : Aok 5 A) (hs : (("self" : Str), some (Value.ref w.x)) ∈ loc) (hrs : st.rs = true) (hz : st.held.length ≤ sizeLine) (hc : (cat st.held).length ≤ txtLine) (hr : K.room σ 1)
    (hb : attributeBase (.Name "self" opos) "_flush" env (eval (.Name "self" opos) env) = eval (.Name "self" opos) env) (hf : methodCallForm (([] : List Expr).length + ([] : List Keyword).length) (backTo pos (starEach [] env)) (backToKw pos (keywordEach [] env)) = true) (hl : (apos.endLine == pos.line) = true)
    (S : Sta W G env loc (wrLed w et K.q st (K.L σ ++ N)) s)
    (k : ∀ s', Sta W G env loc (wrLed w et K.q { st with held := [] } (K.L (K.pushes σ (flushed st.held)) ++ N)) s' → Q .none s') :
    wpAny (model W.prog W.w) A (eval (.Call (.Attribute (.Name "self" opos) "_flush" apos) [] [] pos) env) Q E s := by
  have hcl := I.cl
  refine Call_m ?_ hb hf hl
  refine S.local_ hs ?_
  refine Sta.getM_inst (f := 106) S hcl (by walk_at "mem") (by walk_at "mem") VV.keys (by decide +kernel) (by rw [I.k]; kernel_rfl) (by rw [I.k]; kernel_rfl) ?_
  refine callW0 (by rw [I.k]; kernel_rfl) S.kin ?_
  exact flush_ I S hA hrs hz hc hr k
set_option maxHeartbeats 8000000 in
theorem startS_ {K : Sink W} {σ : K.σ} {L d : Addr} {tag : Str} {t tv : Tok} {at_ : Option (Str × Str)} {c? : Option Addr} {Q : Flow → Shared → Prop} (I : IsC W) (C : CodeHd W.B 125 123) (hA : Aok 26 A) (htag : plainName tag) (hat : atOk at_) (hne : tag ∉ atKeys at_) (hh : st.held = [] ∨ st.rs = true) (hz : st.held.length ≤ sizeLine) (hc : (cat st.held).length ≤ txtLine) (hr : K.room σ 4) (hdp : st.dp ≤ 10000) (hes : st.es.length ≤ 10000)
    (S' : Sta W G (envS L) (locS w tag t d none) ((d, IsD W d (kvsOf tv at_)) :: wrLed w et K.q st (K.L σ ++ (Tabs 123 lamP lamQ1 c? ++ N))) s)
    (k : ∀ nn c' loc' s', Sta W G (envS L) loc' (wrLed w et K.q (st.started nn) (K.L (K.pushes σ (flushed st.held ++ startTxts tag at_)) ++ (Tabs 123 lamP lamQ1 (some c') ++ N))) s' → Q .next s') :
    wpAny (model W.prog W.w) A (execs ((fnBody st_start).drop 1) (envS L)) Q E s := by
  have hcl := I.cl
  have rest : ∀ s', Sta W G (envS L) (locS w tag t d none) ((d, IsD W d (kvsOf tv at_)) :: wrLed w et K.q { st with held := [] } (K.L (K.pushes σ (flushed st.held)) ++ (Tabs 123 lamP lamQ1 c? ++ N))) s' → wpAny (model W.prog W.w) A (execs ((fnBody st_start).drop 2) (envS L)) Q E s' := by
    clear S'
    intro s' S'
    have hdz : (Value.ref w.a0 :: st.es.map Value.ref).length ≤ sizeLine := by rw [sizeLine_eq]; simp; omega
    simp only [locS, wrLed] at S'
    repeat walk_at "cw"
    refine Sta.getM_inst (f := 126) S' hcl (by walk_at "mem") (by walk_at "mem") VV.keys (by decide +kernel) (by rw [I.k]; kernel_rfl) (by rw [I.k]; kernel_rfl) ?_
    refine callW_m (by rw [I.k]; kernel_rfl) ?_ (by kernel_rfl) (by kernel_rfl)
    repeat walk_at "cw"
    refine ⟨S'.kin, ?_⟩
    have S2 := S'.perm (nw' := (d, IsD W d (kvsOf tv at_)) :: wrLed w et K.q { st with held := [], es := st.es ++ [a'] } (K.L (K.pushes σ (flushed st.held)) ++ (Tabs 123 lamP lamQ1 c? ++ N))) (by
      simp only [wrLed, esLed_snoc, List.map_append, List.map_cons, List.map_nil, List.cons_append]; walk_at "perm")
    refine start1_ I C (hA.le (by first | decide | omega)) (show a' ∈ ({ st with held := [], es := st.es ++ [a'] } : Ws).es from List.mem_append_right _ (.head _)) htag hat hne (room_fl K _ hr) hdp S2 ?_
    clear S'; intro c' s' S'
    repeat walk_at "cw"
    refine k a' c' (locS w tag t d (some (.ref a'))) s' ?_
    rw [K.pushes_append]
    exact S'
  refine execs_at rfl ?_
  refine wpAny_If ?_
  refine isTrue_plain ?_ (by kernel_rfl)
  simp only [wrLed] at S'
  refine Attribute_ ?_ (by kernel_rfl)
  refine S'.local_ (.head _) ?_
  walk_at "cw"
  walk_at "cw"
  cases hd : st.held with
  | nil =>
    rw [hd] at S' rest
    refine ite_f ?_
    refine wpAny_execs_nil ?_
    exact rest _ S'
  | cons y r =>
    have hrs : st.rs = true := hh.resolve_left (by rw [hd]; simp)
    refine ite_t ?_
    refine wpAny_execs_cons ?_
    refine wpAny_Expr_any ?_ (by kernel_rfl) (by kernel_rfl)
    have S2 := S'.perm (nw' := wrLed w et K.q st (K.L σ ++ ((d, IsD W d (kvsOf tv at_)) :: (Tabs 123 lamP lamQ1 c? ++ N)))) (by simp only [wrLed]; walk_at "perm")
    refine flushNow_ I (hA.le (by first | decide | omega)) (.head _) hrs hz hc (room_le K (by omega) hr) (by kernel_rfl) (by kernel_rfl) (by kernel_rfl) S2 ?_
    intro s2 S3
    refine wpAny_execs_nil ?_
    exact rest _ (S3.perm (by walk_at "perm"))
end
end
section
open PySem PySem.W PyProof.Rows PySem.W.X PySem.SeqAt
set_option maxRecDepth 100000
set_option linter.unusedVariables false
section
variable {W : Wd} {G : Gens} {env : Env} {loc loc' : Loc} {nw nw' : Ledger} {s : Shared} {A : Around} {E : Value → Shared → Prop} {w : Wr} {et : Value} {q : Addr} {st : Ws} {N : Ledger}
set_option maxHeartbeats 8000000 in
/-- a start, no tags left out -/
theorem start0_ {K : Sink W} {σ : K.σ} {d : Addr} {tag : Str} {t tv : Tok} {at_ : Option (Str × Str)} {c? : Option Addr} {Q : Value → Shared → Prop} (I : IsC W) (C : CodeHd W.B 125 123) (hA : Aok 27 A) (htag : plainName tag) (hat : atOk at_) (hne : tag ∉ atKeys at_) (hh : st.held = [] ∨ st.rs = true) (hz : st.held.length ≤ sizeLine) (hc : (cat st.held).length ≤ txtLine) (hr : K.room σ 4) (hdp : st.dp ≤ 10000) (hes : st.es.length ≤ 10000)
    (S : Sta W G env loc ((d, IsD W d (kvsOf tv at_)) :: wrLed w .none K.q st (K.L σ ++ (Tabs 123 lamP lamQ1 c? ++ N))) s)
    (k : ∀ nn c' s', Sta W G env loc (wrLed w .none K.q (st.started nn) (K.L (K.pushes σ (flushed st.held ++ startTxts tag at_)) ++ (Tabs 123 lamP lamQ1 (some c') ++ N))) s' → Q .none s') :
    wpAny (model W.prog W.w) A (call (.ref 120) [.ref w.x, .str tag t, .ref d]) Q E s := by
  refine S.call_fn (binds := [("self", .ref w.x), ("tag", .str tag t), ("attrs", .ref d)]) ["new_namespaces"] I.f_start hA.room (fun _ _ _ _ _ => BindsTo.of_eq (by kernel_rfl)) (by kernel_rfl) ?_
  intro L s' S'
  have hA' := hA.deeper (env := envS L)
  simp only [mkLoc, List.map_cons, List.map_nil, List.cons_append, List.nil_append] at S'
  have hcl := I.cl
  refine execs_go ?_
  refine execs_at rfl ?_
  refine wpAny_If ?_
  iterate 9 walk_at "cw"
  refine ite_f ?_
  refine wpAny_execs_nil ?_
  have S2 := S'.perm (nw' := (d, IsD W d (kvsOf tv at_)) :: wrLed w .none K.q st (K.L σ ++ (Tabs 123 lamP lamQ1 c? ++ ((env.locals, IsNs loc) :: N)))) (by walk_at "perm")
  refine startS_ I C (hA'.le (by first | decide | omega)) htag hat hne hh hz hc hr hdp hes S2 ?_
  intro nn c' loc' s3 S3
  exact k nn c' s3 (Sta.back (S3.perm (by walk_at "perm")) S.eok)
end
end
section
open PySem PySem.W PyProof.Rows PySem.W.X PySem.SeqAt
set_option maxRecDepth 100000
set_option linter.unusedVariables false
noncomputable def endTxt (tag : Str) : Str := "</" ++ tag ++ ">"
noncomputable def comTxt (x : Str) : Str := "<!--" ++ escC x ++ "-->"
noncomputable def piTxt (tg x : Str) : Str := if x.length = 0 then "<?" ++ tg ++ "?>" else "<?" ++ tg ++ " " ++ escC x ++ "?>"
theorem escC_len (v : Str) : (escC v).length ≤ 6 * v.length := mapS_len _ 6 fC_len v
section
variable {W : Wd} {G : Gens} {env : Env} {loc loc' : Loc} {nw nw' : Ledger} {s : Shared} {A : Around} {E : Value → Shared → Prop} {w : Wr} {et : Value} {q : Addr} {st : Ws} {N : Ledger}
set_option maxHeartbeats 8000000 in
theorem end_ {K : Sink W} {σ : K.σ} {tag : Str} {t : Tok} {es0 : List Addr} {a : Addr} {dp0 : Nat} {Q : Value → Shared → Prop} (I : IsC W) (hA : Aok 16 A) (htag : plainName tag) (hig : st.ig = 0) (hrs : st.rs = true) (hz : st.held.length ≤ sizeLine) (hc : (cat st.held).length ≤ txtLine) (hr : K.room σ 2) (hes : st.es = es0 ++ [a]) (hd : st.dp = dp0 + 1) (hdp : dp0 ≤ 10000) (hel : es0.length ≤ 10000)
    (S : Sta W G env loc (wrLed w et K.q st (K.L σ ++ N)) s)
    (k : ∀ s', Sta W G env loc (wrLed w et K.q { st with held := [], es := es0, dp := dp0, rd := decide (dp0 = 0) } (K.L (K.pushes σ (flushed st.held ++ [endTxt tag])) ++ N)) s' → Q .none s') :
    wpAny (model W.prog W.w) A (call (.ref 133) [.ref w.x, .str tag t]) Q E s := by
  refine S.call_fn (binds := [("self", .ref w.x), ("tag", .str tag t)]) [] I.f_end hA.room (fun _ _ _ _ _ => BindsTo.of_eq (by kernel_rfl)) (by kernel_rfl) ?_
  intro L s' S'
  have hA' := hA.deeper (env := envOf "C14NWriterTarget.end" (fnScope st_end) L 133 (.ref 132))
  simp only [mkLoc, List.map_cons, List.map_nil, List.cons_append, List.nil_append] at S'
  have hcl := I.cl
  have e0 : ((st.ig : Int) != 0) = false := by rw [hig]; rfl
  have hl1 : ("</" : Str).length = 2 := by decide +kernel
  have hl2 : (">" : Str).length = 1 := by decide +kernel
  have hl3 := htag.2
  have rest : ∀ s', Sta W G (envOf "C14NWriterTarget.end" (fnScope st_end) L 133 (.ref 132)) ([("self", some (.ref w.x)), ("tag", some (.str tag t))] : Loc) ((env.locals, IsNs loc) :: wrLed w et K.q { st with held := [] } (K.L (K.pushes σ (flushed st.held)) ++ N)) s' →
      wpAny (model W.prog W.w) (A.deeper (envOf "C14NWriterTarget.end" (fnScope st_end) L 133 (.ref 132))) (execs ((fnBody st_end).drop 2) (envOf "C14NWriterTarget.end" (fnScope st_end) L 133 (.ref 132))) (fun fl s'' => Q (match fl with | .ret v => v | _ => .none) s'') (fun _ _ => False) s' := by
    clear S'
    intro s' S'
    repeat walk_at "cw"
    refine Subscript_any ?_ (by intro _ _; kernel_rfl)
    repeat walk_at "cw"
    refine Sta.getM_inst (f := 90) S' hcl (by walk_at "mem") (by walk_at "mem") VV.keys (by decide +kernel) (by rw [I.k]; kernel_rfl) (by rw [I.k]; kernel_rfl) ?_
    refine callW_m (by rw [I.k]; kernel_rfl) ?_ (by kernel_rfl) (by kernel_rfl)
    repeat walk_at "cw"
    refine ⟨S'.kin, ?_⟩
    refine qname_ (st := { st with held := [] }) I (S'.perm (nw' := wrLed w et K.q { st with held := [] } ((env.locals, IsNs loc) :: (K.L (K.pushes σ (flushed st.held)) ++ N))) (by walk_at "perm")) (hA'.le (by first | decide | omega)) htag ?_
    clear S'; intro tp t2 s' S'
    repeat walk_at "cw"
    refine Sta.sub_tuple S' (.head _) (j := 0) rfl (by omega) rfl ?_
    repeat walk_at "cw"
    rw [Str.empty_append]
    refine ⟨S'.sinkLed (L' := []) (by walk_at "mid"), ?_⟩
    refine S'.sink (hA'.le (by first | decide | omega)) (room_fl K _ hr) (by walk_at "mid") ?_
    clear S'; intro s' S'
    simp only [hes, hd, List.map_append, List.map_cons, List.map_nil] at S'
    rw [show List.replicate (dp0 + 1 + 1) (Value.bool false) = List.replicate (dp0 + 1) (.bool false) ++ [.bool false] from List.replicate_succ', ← List.cons_append] at S'
    have hz1 : (List.replicate (dp0 + 1) (Value.bool false)).length < sizeLine := by rw [List.length_replicate, sizeLine_eq]; omega
    have hz3 : (List.replicate (dp0 + 1) (Value.bool false)).length ≤ sizeLine := by omega
    have hz2 : (Value.ref w.a0 :: es0.map Value.ref).length < sizeLine := by rw [sizeLine_eq]; simp; omega
    repeat walk_at "cw"
    refine Sta.pop S' (by walk_at "upd") hz1 ?_
    clear S'; intro s' S'
    repeat walk_at "cw"
    refine Sta.builtin S' I.b_len bo_len (by kernel_rfl) ?_
    repeat walk_at "cw"
    refine Sta.len S' (by walk_at "mem") hz3 ?_
    clear S'; intro t3 s' S'
    repeat walk_at "cw"
    refine Sta.pop S' (by walk_at "upd") hz2 ?_
    clear S'; intro s' S'
    repeat walk_at "cw"
    refine Sta.getM_len S' (by walk_at "mem") F.slot_list_pop F.type_list_pop ?_
    repeat walk_at "cw"
    refine Sta.popLen (n := dp0 + 2) S' (by walk_at "upd") (by rw [sizeLine_eq]; omega) ?_
    clear S'; intro _ s' S'
    repeat walk_at "cw"
    have er : ((((List.replicate (dp0 + 1) (Value.bool false)).length : Nat) : Int) == 1) = decide (dp0 = 0) := by
      rw [List.length_replicate]
      by_cases h : dp0 = 0
      · subst h; rfl
      · rw [decide_eq_false h]; exact beq_eq_false_iff_ne.mpr (by omega)
    rw [er] at S'
    refine k s' (Sta.back (S'.sel ?_) S.eok)
    rw [K.pushes_append]
    refine Sel.trans (Sel.of_perm (L2 := (tp, IsTpl [.str tag t, .str tag t, .str "" t2]) :: (a, IsLst []) :: (env.locals, IsNs loc) :: wrLed w et K.q { st with held := [], es := es0, dp := dp0, rd := decide (dp0 = 0) } (K.L (K.pushes (K.pushes σ (flushed st.held)) [endTxt tag]) ++ N)) ?_) (Sel.drop (Sel.drop (Sel.refl _)))
    simp only [esLed_snoc]
    show List.Perm _ _
    walk_at "perm"
  refine execs_go ?_
  refine execs_at rfl ?_
  refine wpAny_If ?_
  iterate 5 walk_at "cw"
  rw [e0]
  refine ite_f ?_
  refine wpAny_execs_nil ?_
  refine execs_at rfl ?_
  refine wpAny_If ?_
  refine isTrue_plain ?_ (by kernel_rfl)
  iterate 4 walk_at "cw"
  cases hd2 : st.held with
  | nil =>
    simp only [wrLed] at S'
    rw [hd2] at S' rest
    refine ite_f ?_
    refine wpAny_execs_nil ?_
    exact rest _ S'
  | cons y r =>
    refine ite_t ?_
    refine wpAny_execs_cons ?_
    refine wpAny_Expr_any ?_ (by kernel_rfl) (by kernel_rfl)
    have S2 := S'.perm (nw' := wrLed w et K.q st (K.L σ ++ ((env.locals, IsNs loc) :: N))) (by walk_at "perm")
    refine flushNow_ I (hA'.le (by first | decide | omega)) (.head _) hrs hz hc (room_le K (by omega) hr) (by kernel_rfl) (by kernel_rfl) (by kernel_rfl) S2 ?_
    intro s2 S3
    refine wpAny_execs_nil ?_
    exact rest _ (S3.perm (by walk_at "perm"))
end
end
section
open PySem PySem.W PyProof.Rows PySem.W.X PySem.SeqAt
set_option maxRecDepth 100000
set_option linter.unusedVariables false
section
variable {W : Wd} {G : Gens} {env : Env} {loc loc' : Loc} {nw nw' : Ledger} {s : Shared} {A : Around} {E : Value → Shared → Prop} {w : Wr} {et : Value} {q : Addr} {st : Ws} {N : Ledger}
set_option maxHeartbeats 8000000 in
/-- a comment in the root -/
theorem comment_ {K : Sink W} {σ : K.σ} {x : Str} {t : Tok} {Q : Value → Shared → Prop} (I : IsC W) (hA : Aok 8 A) (hx : x.length ≤ txtLine) (hig : st.ig = 0) (hrs : st.rs = true) (hrd : st.rd = false) (hz : st.held.length ≤ sizeLine) (hc : (cat st.held).length ≤ txtLine) (hr : K.room σ 2)
    (S : Sta W G env loc (wrLed w et K.q st (K.L σ ++ N)) s)
    (k : ∀ s', Sta W G env loc (wrLed w et K.q { st with held := [] } (K.L (K.pushes σ (flushed st.held ++ [comTxt x])) ++ N)) s' → Q .none s') :
    wpAny (model W.prog W.w) A (call (.ref 140) [.ref w.x, .str x t]) Q E s := by
  refine S.call_fn (binds := [("self", .ref w.x), ("text", .str x t)]) [] I.f_comment hA.room (fun _ _ _ _ _ => BindsTo.of_eq (by kernel_rfl)) (by kernel_rfl) ?_
  intro L s' S'
  have hA' := hA.deeper (env := envOf "C14NWriterTarget.comment" (fnScope st_comment) L 140 (.ref 139))
  simp only [mkLoc, List.map_cons, List.map_nil, List.cons_append, List.nil_append] at S'
  have hcl := I.cl
  have e0 : ((st.ig : Int) != 0) = false := by rw [hig]; rfl
  have hl1 : ("<!--" : Str).length = 4 := by decide +kernel
  have hl2 : ("-->" : Str).length = 3 := by decide +kernel
  have hl3 := escC_len x
  have hx' : x.length ≤ 300000 := hx
  have rest : ∀ s', Sta W G (envOf "C14NWriterTarget.comment" (fnScope st_comment) L 140 (.ref 139)) ([("self", some (.ref w.x)), ("text", some (.str x t))] : Loc) ((env.locals, IsNs loc) :: wrLed w et K.q { st with held := [] } (K.L (K.pushes σ (flushed st.held)) ++ N)) s' →
      wpAny (model W.prog W.w) (A.deeper (envOf "C14NWriterTarget.comment" (fnScope st_comment) L 140 (.ref 139))) (execs ((fnBody st_comment).drop 3) (envOf "C14NWriterTarget.comment" (fnScope st_comment) L 140 (.ref 139))) (fun fl s'' => Q (match fl with | .ret v => v | _ => .none) s'') (fun _ _ => False) s' := by
    clear S'
    intro s' S'
    repeat walk_at "cw"
    refine Sta.global S' I.g_escC (by kernel_rfl) ?_
    refine callW_1 (by rw [I.k]; kernel_rfl) ?_ (by kernel_rfl) (by kernel_rfl)
    repeat walk_at "cw"
    refine ⟨S'.kin, ?_⟩
    refine escC_ I S' (hA'.le (by first | decide | omega)) hx ?_
    clear S'; intro t2 s' S'
    repeat walk_at "cw"
    rw [Str.empty_append]
    refine ⟨S'.sinkLed (L' := []) (by walk_at "mid"), ?_⟩
    refine S'.sink (hA'.le (by first | decide | omega)) (room_fl K _ hr) (by walk_at "mid") ?_
    clear S'; intro s' S'
    repeat walk_at "cw"
    rw [hrs]
    repeat walk_at "cw"
    have S2 := Sta.back S' S.eok
    refine k s' ?_
    rw [K.pushes_append]
    exact S2
  refine execs_go ?_
  repeat walk_at "cw"
  rw [e0]
  repeat walk_at "cw"
  rw [hrd]
  repeat walk_at "cw"
  rw [hrs]
  iterate 7 walk_at "cw"
  cases hd2 : st.held with
  | nil =>
    simp only [wrLed] at S'
    rw [hd2] at S' rest
    refine ite_f ?_
    refine ite_f ?_
    refine wpAny_execs_nil ?_
    refine wpAny_execs_nil ?_
    exact rest _ S'
  | cons y r =>
    refine ite_t ?_
    refine isTrue_and_nil ?_
    refine ite_t ?_
    refine wpAny_execs_cons ?_
    refine wpAny_Expr_any ?_ (by kernel_rfl) (by kernel_rfl)
    have S2 := S'.perm (nw' := wrLed w et K.q st (K.L σ ++ ((env.locals, IsNs loc) :: N))) (by walk_at "perm")
    refine flushNow_ I (hA'.le (by first | decide | omega)) (.head _) hrs hz hc (room_le K (by omega) hr) (by kernel_rfl) (by kernel_rfl) (by kernel_rfl) S2 ?_
    intro s2 S3
    refine wpAny_execs_nil ?_
    refine wpAny_execs_nil ?_
    exact rest _ (S3.perm (by walk_at "perm"))
set_option maxHeartbeats 8000000 in
/-- an instruction in the root -/
theorem pi_ {K : Sink W} {σ : K.σ} {tg x : Str} {t u : Tok} {Q : Value → Shared → Prop} (I : IsC W) (hA : Aok 8 A) (htg : tg.length ≤ 1000) (hx : x.length ≤ txtLine) (hig : st.ig = 0) (hrs : st.rs = true) (hrd : st.rd = false) (hz : st.held.length ≤ sizeLine) (hc : (cat st.held).length ≤ txtLine) (hr : K.room σ 2)
    (S : Sta W G env loc (wrLed w et K.q st (K.L σ ++ N)) s)
    (k : ∀ s', Sta W G env loc (wrLed w et K.q { st with held := [] } (K.L (K.pushes σ (flushed st.held ++ [piTxt tg x])) ++ N)) s' → Q .none s') :
    wpAny (model W.prog W.w) A (call (.ref 147) [.ref w.x, .str tg u, .str x t]) Q E s := by
  refine S.call_fn (binds := [("self", .ref w.x), ("target", .str tg u), ("data", .str x t)]) [] I.f_pi hA.room (fun _ _ _ _ _ => BindsTo.of_eq (by kernel_rfl)) (by kernel_rfl) ?_
  intro L s' S'
  have hA' := hA.deeper (env := envOf "C14NWriterTarget.pi" (fnScope st_pi) L 147 (.ref 146))
  simp only [mkLoc, List.map_cons, List.map_nil, List.cons_append, List.nil_append] at S'
  have hcl := I.cl
  have e0 : ((st.ig : Int) != 0) = false := by rw [hig]; rfl
  have hl1 : ("<?" : Str).length = 2 := by decide +kernel
  have hl2 : ("?>" : Str).length = 2 := by decide +kernel
  have hl4 : (" " : Str).length = 1 := by decide +kernel
  have hl3 := escC_len x
  have hx' : x.length ≤ 300000 := hx
  have rest : ∀ s', Sta W G (envOf "C14NWriterTarget.pi" (fnScope st_pi) L 147 (.ref 146)) ([("self", some (.ref w.x)), ("target", some (.str tg u)), ("data", some (.str x t))] : Loc) ((env.locals, IsNs loc) :: wrLed w et K.q { st with held := [] } (K.L (K.pushes σ (flushed st.held)) ++ N)) s' →
      wpAny (model W.prog W.w) (A.deeper (envOf "C14NWriterTarget.pi" (fnScope st_pi) L 147 (.ref 146))) (execs ((fnBody st_pi).drop 2) (envOf "C14NWriterTarget.pi" (fnScope st_pi) L 147 (.ref 146))) (fun fl s'' => Q (match fl with | .ret v => v | _ => .none) s'') (fun _ _ => False) s' := by
    clear S'
    intro s' S'
    repeat walk_at "cw"
    refine truthy_s S' (by omega) (fun e s' S' => ?_) (fun e s' S' => ?_)
    · repeat walk_at "cw"
      rw [Str.empty_append]
      refine ⟨S'.sinkLed (L' := []) (by walk_at "mid"), ?_⟩
      refine S'.sink (hA'.le (by first | decide | omega)) (room_fl K _ hr) (by walk_at "mid") ?_
      clear S'; intro s' S'
      repeat walk_at "cw"
      rw [hrs]
      repeat walk_at "cw"
      have S2 := Sta.back S' S.eok
      refine k s' ?_
      rw [K.pushes_append]
      have ep : piTxt tg x = "<?" ++ tg ++ "?>" := by unfold piTxt; rw [if_pos e]
      rw [ep]
      exact S2
    · repeat walk_at "cw"
      refine Sta.global S' I.g_escC (by kernel_rfl) ?_
      refine callW_1 (by rw [I.k]; kernel_rfl) ?_ (by kernel_rfl) (by kernel_rfl)
      repeat walk_at "cw"
      refine ⟨S'.kin, ?_⟩
      refine escC_ I S' (hA'.le (by first | decide | omega)) hx ?_
      clear S'; intro t2 s' S'
      repeat walk_at "cw"
      rw [Str.empty_append]
      refine ⟨S'.sinkLed (L' := []) (by walk_at "mid"), ?_⟩
      refine S'.sink (hA'.le (by first | decide | omega)) (room_fl K _ hr) (by walk_at "mid") ?_
      clear S'; intro s' S'
      repeat walk_at "cw"
      rw [hrs]
      repeat walk_at "cw"
      have S2 := Sta.back S' S.eok
      refine k s' ?_
      rw [K.pushes_append]
      have ep : piTxt tg x = "<?" ++ tg ++ " " ++ escC x ++ "?>" := by unfold piTxt; rw [if_neg e]
      rw [ep]
      exact S2
  refine execs_go ?_
  repeat walk_at "cw"
  rw [e0]
  repeat walk_at "cw"
  rw [hrd]
  repeat walk_at "cw"
  rw [hrs]
  iterate 7 walk_at "cw"
  cases hd2 : st.held with
  | nil =>
    simp only [wrLed] at S'
    rw [hd2] at S' rest
    refine ite_f ?_
    refine ite_f ?_
    refine wpAny_execs_nil ?_
    refine wpAny_execs_nil ?_
    exact rest _ S'
  | cons y r =>
    refine ite_t ?_
    refine isTrue_and_nil ?_
    refine ite_t ?_
    refine wpAny_execs_cons ?_
    refine wpAny_Expr_any ?_ (by kernel_rfl) (by kernel_rfl)
    have S2 := S'.perm (nw' := wrLed w et K.q st (K.L σ ++ ((env.locals, IsNs loc) :: N))) (by walk_at "perm")
    refine flushNow_ I (hA'.le (by first | decide | omega)) (.head _) hrs hz hc (room_le K (by omega) hr) (by kernel_rfl) (by kernel_rfl) (by kernel_rfl) S2 ?_
    intro s2 S3
    refine wpAny_execs_nil ?_
    refine wpAny_execs_nil ?_
    exact rest _ (S3.perm (by walk_at "perm"))
end
end
section
open PySem PySem.W PyProof.Rows PySem.W.X PySem.SeqAt
set_option maxRecDepth 100000
set_option linter.unusedVariables false
noncomputable def esAt (K : Frag) (d : Addr) : Array DictEntry := match (obAt K d).data with
  | .dict es _ => es
  | _ => #[]
noncomputable def epAt (K : Frag) (d : Addr) : Nat := match (obAt K d).data with
  | .dict _ ep => ep
  | _ => 0
noncomputable def mapKeys : List Str := ["http://www.w3.org/XML/1998/namespace", "http://www.w3.org/1999/xhtml", "http://www.w3.org/1999/02/22-rdf-syntax-ns#", "http://schemas.xmlsoap.org/wsdl/", "http://www.w3.org/2001/XMLSchema", "http://www.w3.org/2001/XMLSchema-instance", "http://purl.org/dc/elements/1.1/"]
noncomputable def mapE (P : Params) (i : Nat) : DictEntry := (esAt (KK P) 44).toList.getD i default
noncomputable def mapKvs (P : Params) : List (Str × Value) := [("http://www.w3.org/XML/1998/namespace", (mapE P 0).val), ("http://www.w3.org/1999/xhtml", (mapE P 1).val), ("http://www.w3.org/1999/02/22-rdf-syntax-ns#", (mapE P 2).val), ("http://schemas.xmlsoap.org/wsdl/", (mapE P 3).val), ("http://www.w3.org/2001/XMLSchema", (mapE P 4).val), ("http://www.w3.org/2001/XMLSchema-instance", (mapE P 5).val), ("http://purl.org/dc/elements/1.1/", (mapE P 6).val)]
theorem map_list (P : Params) : (esAt (KK P) 44).toList = [mapE P 0, mapE P 1, mapE P 2, mapE P 3, mapE P 4, mapE P 5, mapE P 6] := by kernel_rfl
theorem map_at (prog : Program) (w : World) (h : Heap) (X : (KK w.params).In h) : h.DictAt (PySem.strKind prog w) 44 (mapKvs w.params) (epAt (KK w.params) 44) := by
  refine ⟨obAt (KK w.params) 44, esAt (KK w.params) 44, X _ _ (by kernel_rfl), ⟨by kernel_rfl, by kernel_rfl, by kernel_rfl⟩, by kernel_rfl, ?_, ?_, ?_⟩
  · intro e he
    have he' := Array.mem_toList_iff.mpr he
    rw [map_list] at he'
    simp only [List.mem_cons, List.not_mem_nil, or_false] at he'
    rcases he' with rfl | rfl | rfl | rfl | rfl | rfl | rfl
    · exact ⟨"http://www.w3.org/XML/1998/namespace", by kernel_rfl, by kernel_rfl⟩
    · exact ⟨"http://www.w3.org/1999/xhtml", by kernel_rfl, by kernel_rfl⟩
    · exact ⟨"http://www.w3.org/1999/02/22-rdf-syntax-ns#", by kernel_rfl, by kernel_rfl⟩
    · exact ⟨"http://schemas.xmlsoap.org/wsdl/", by kernel_rfl, by kernel_rfl⟩
    · exact ⟨"http://www.w3.org/2001/XMLSchema", by kernel_rfl, by kernel_rfl⟩
    · exact ⟨"http://www.w3.org/2001/XMLSchema-instance", by kernel_rfl, by kernel_rfl⟩
    · exact ⟨"http://purl.org/dc/elements/1.1/", by kernel_rfl, by kernel_rfl⟩
  · rw [map_list]
    exact .cons (by kernel_rfl) rfl (.cons (by kernel_rfl) rfl (.cons (by kernel_rfl) rfl (.cons (by kernel_rfl) rfl (.cons (by kernel_rfl) rfl (.cons (by kernel_rfl) rfl (.cons (by kernel_rfl) rfl .nil))))))
  · show mapKeys.Nodup
    decide +kernel
theorem IsC.mapAt {W : Wd} (I : IsC W) (O : W.Ok) : W.B.DictAt (PySem.strKind W.prog W.w) 44 (mapKvs W.w.params) (epAt (KK W.w.params) 44) := map_at _ _ _ (by have := O.kin; rwa [I.k] at this)
theorem map_len (P : Params) : (mapKvs P).length = 7 := rfl
/-- a writer just made -/
noncomputable def Ws.fresh (ti : Tok) : Ws := ⟨[], [], false, false, 0, ti, 0⟩
section
local macro_rules | `(tactic| walk_at "sv") => do
  let a ← altsOf "Sta.setattr S hcl /mem /upd /rfl /put /dec _ | ns; Sta.getattr S hcl /mem /mem /rfl /mem /rfl _ | ns; Sta.builtin S I.b_list bo_list /kr _ /deck /deck; Sta.global S I.g_map /kr _ /deck; Sta.getM_dict S hmap F.slot_dict_items F.type_dict_items _; Sta.items S hmap /deck _ | na; Sta.listItems S hA'.handled hmap /mem /ml _ | ia"
  let b ← `(tactic| walk_at "cw")
  let all := a.push b
  `(tactic| first $[| $all:tactic]*)
variable {W : Wd} {G : Gens} {env : Env} {loc loc' : Loc} {nw nw' : Ledger} {s : Shared} {A : Around} {E : Value → Shared → Prop} {w : Wr} {et : Value} {q : Addr} {st : Ws} {N : Ledger}
theorem mkWr {x dx d dns ns pm ps a0 tp le li vw q : Addr} {tu tx ti : Tok} {v1 v2 : Value} {c1 c2 c3 c4 : Cell}
    (S : Sta W G env loc ((ps, IsLst [.bool false]) :: (pm, c1) :: (le, c2) :: (li, c3) :: (vw, c4) :: (ns, IsLst ([] ++ [v1] ++ [v2])) :: (dns, IsLst [.ref a0]) :: (a0, IsLst [.ref tp]) :: (tp, IsTpl [.str xmlNs tu, .str "xml" tx]) :: (d, IsLst []) :: (x, IsInst 150 dx) ::
      (dx, IsAttrs (VV (.ref q) (.ref d) (.bool true) (.bool false) .none et (.bool false) .none .none (.ref dns) (.ref ns) (.ref pm) (.ref ps) .none (.bool false) (.bool false) (.int 0 ti))) :: N) s) :
    Sta W G env loc (wrLed ⟨x, dx, d, dns, ns, pm, ps, a0, tp, tu, tx⟩ et q (.fresh ti) N) s := by
  have S1 := S.tell (a := ns) (c' := IsLen 2) (.tail (.tail (.tail (.tail (.tail .head))))) fun o _ ho => ⟨_, rfl, ho⟩
  have S2 := S1.tell (a := d) (c' := IsTxts []) (.tail (.tail (.tail (.tail (.tail (.tail (.tail (.tail (.tail .head))))))))) fun o _ ho => ⟨_, .nil, ho⟩
  refine S2.sel (Sel.trans (Sel.of_perm (L2 := (pm, c1) :: (le, c2) :: (li, c3) :: (vw, c4) :: wrLed ⟨x, dx, d, dns, ns, pm, ps, a0, tp, tu, tx⟩ et q (.fresh ti) N) ?_) (Sel.drop (Sel.drop (Sel.drop (Sel.drop (Sel.refl _))))))
  simp only [wrLed, Ws.fresh, selfV, esLed, List.map_nil, List.nil_append]
  walk_at "perm"
set_option maxHeartbeats 8000000 in
theorem init0_ {x dx q : Addr} {R : Result → Shared → Prop} (I : IsC W) (S : Sta W G env loc ((x, IsInst 150 dx) :: (dx, IsAttrs (selfNames.map fun k => (k, none))) :: N) s) (hA : Aok 3 A)
    (h : ∀ w ti s', w.x = x → Sta W G env loc (wrLed w .none q (.fresh ti) N) s' → R (.ok (.ret .none)) s') :
    codeAny (model W.prog W.w) A (.call (.ref 67) ⟨[.ref x, .ref q], [("with_comments", .bool true)]⟩) R s := by
  refine S.code_fn (binds := [("self", .ref x), ("write", .ref q), ("with_comments", .bool true), ("strip_text", .bool false), ("rewrite_prefixes", .bool false), ("qname_aware_tags", .none), ("qname_aware_attrs", .none), ("exclude_attrs", .none), ("exclude_tags", .none)]) [] I.f_init hA.room ?_ (by kernel_rfl) ?_
  · intro name doc pm ct an
    exact kp_binds S.kin fun S => by rw [I.k]; kernel_rfl
  intro L s' S'
  have hA' := hA.deeper (env := envOf "C14NWriterTarget.__init__" (fnScope st_init) L 67 (.ref 66))
  simp only [mkLoc, List.map_cons, List.map_nil, List.cons_append, List.nil_append, selfNames] at S'
  have hcl := I.cl
  have hmap := I.mapAt S.ok
  refine wpAny_execs_cons ?_
  repeat walk_at "sv"
  have S2 := S'.perm (Pull.perm (.tail (.tail (.tail (.tail (.tail (.tail (.tail (.tail (.tail (.tail .head)))))))))))
  exact h _ _ s' rfl (mkWr (Sta.back S2 S.eok))
end
end
set_option hygiene false in
local macro_rules | `(tactic| walk_at "nd") => `(tactic| (clear S'; intro d' s' S'))
set_option hygiene false in
local macro_rules | `(tactic| walk_at "cw") => do
  let a ← altsOf "pairs_cons _; pairs_nil _; callW_m /ik _ /kr /kr; Sta.dictD0 S _ | na; Sta.mod S /dec _ | nt; Sta.fdiv S /dec /dec _ | nt"
  let b ← altsOf "Sta.dictLit /rfl /rfl /simp /le S _ | nd"
  let c ← (#[("end", 133), ("pi", 147), ("comment", 140), ("data", 97), ("start", 120)] : Array (String × Nat)).mapM fun x => methOf x.1 x.2
  let d ← `(tactic| with_reducible refine And.intro (Sta.kin S') ?_)
  let all := #[d] ++ a ++ c ++ b
  `(tactic| first $[| $all:tactic]*)
section
open PySem PySem.W PyProof.Rows PySem.W.X PySem.SeqAt
set_option maxRecDepth 100000
set_option linter.unusedVariables false
theorem fmod_bd (y : Int) (n : Int) (h : 0 < n) : 0 ≤ y.fmod n ∧ y.fmod n < n := by
  rw [Int.fmod_eq_emod_of_nonneg y (by omega)]
  exact ⟨Int.emod_nonneg y (by omega), Int.emod_lt_of_pos y h⟩
section
variable {W : Wd} {G : Gens} {env : Env} {loc loc' : Loc} {nw nw' : Ledger} {s : Shared} {A : Around} {E : Value → Shared → Prop} {N : Ledger}
theorem Sta.chr {i : Int} {t : Tok} {Q : Value → Shared → Prop} (S : Sta W G env loc nw s) (h0 : 0 ≤ i) (h1 : i ≤ 0x10FFFF) (h : ∀ t s', Sta W G env loc nw s' → Q (.str ⟨#[i.toNat]⟩ t) s') : wpAny (model W.prog W.w) A (call (.builtin "chr") [.int i t]) Q E s :=
  PySem.P.chr_of_int (by rw [decide_eq_false (by omega), decide_eq_false (by omega)]; rfl) (h _ _ (S.toks _))
set_option maxHeartbeats 8000000 in
theorem sign_ {n : Int} {t : Tok} {Q : Value → Shared → Prop} (I : IsC W) (hA : Aok 6 A) (S : Sta W G env loc N s) (k : ∀ c t' s', Sta W G env loc N s' → Q (.str ⟨#[c]⟩ t') s') :
    wpAny (model W.prog W.w) A (call (.ref 175) [.int n t]) Q E s := by
  refine S.call_fn (binds := [("number", .int n t)]) ["code"] I.f_l_sign hA.room (fun _ _ _ _ _ => BindsTo.of_eq (by kernel_rfl)) (by kernel_rfl) ?_
  intro L s' S'
  have hA' := hA.deeper (env := envOf "_law_sign" (fnScope st_l_sign) L 175 (.ref 174))
  simp only [mkLoc, List.map_cons, List.map_nil, List.cons_append, List.nil_append] at S'
  have hb := fmod_bd n 1112064 (by decide)
  refine execs_go ?_
  repeat walk_at "cw"
  refine Sta.builtin S' I.b_chr bo_chr (by kernel_rfl) ?_
  repeat walk_at "cw"
  by_cases hlt : n.fmod 1112064 < 55296
  · rw [decide_eq_true hlt]
    repeat walk_at "cw"
    refine Sta.chr S' (by omega) (by omega) ?_
    clear S'; intro t2 s' S'
    repeat walk_at "cw"
    exact k _ _ _ (Sta.back S' S.eok)
  · rw [decide_eq_false hlt]
    repeat walk_at "cw"
    refine Sta.chr S' (by omega) (by omega) ?_
    clear S'; intro t2 s' S'
    repeat walk_at "cw"
    exact k _ _ _ (Sta.back S' S.eok)
end
end
set_option hygiene false in
local macro_rules | `(tactic| walk_at "cw") => do
  let a ← altsOf "assignInOrder_cons _; assignInOrder_nil _"
  let b ← altsOf "callW_1 /ik _ /kr /kr; Assign_Tuple _ /kr /kr; Sta.getM_txts S /mem F.slot_list_pop F.type_list_pop _; Sta.unpackT S /hnd /mem /kr /kr _ | ns"
  let c ← `(tactic| ((with_reducible show wpAny _ _ (assign _ _ _) _ _ _); (with_reducible refine assign_Name ?_)))
  let d ← `(tactic| ((fail_if_success (with_reducible show wpAny _ _ (eval (PySem.Expr.Subscript _ (PySem.Expr.Slice _ _ _ _) _) _) _ _ _)); (with_reducible refine' Subscript_any ?_ ?ht); (case ht => intro _ _; kernel_rfl)))
  let all := a ++ #[c] ++ b ++ #[d]
  `(tactic| first $[| $all:tactic]*)
section
open PySem PySem.W PyProof.Rows PySem.W.X PySem.SeqAt
set_option maxRecDepth 100000
set_option linter.unusedVariables false
/-- known of _law_plain -/
noncomputable def kn7 (t0 t1 t2 t3 t4 t5 t6 : Tok) : List (Str × Value) := [("amp;", .str "&" t0), ("lt;", .str "<" t1), ("gt;", .str ">" t2), ("quot;", .str "\"" t3), ("#xD;", .str "\r" t4), ("#xA;", .str "\n" t5), ("#x9;", .str "\t" t6)]
noncomputable def forBody1 : Stmt → List Stmt
  | .For _ _ b _ _ => b
  | _ => []
theorem kn7_nd (t0 t1 t2 t3 t4 t5 t6 : Tok) : ((kn7 t0 t1 t2 t3 t4 t5 t6).map (·.1)).Nodup := by
  show (["amp;", "lt;", "gt;", "quot;", "#xD;", "#xA;", "#x9;"] : List Str).Nodup
  decide +kernel
theorem kn7_in {t0 t1 t2 t3 t4 t5 t6 : Tok} {c : Nat} (h : c ∈ nmd) : ∃ t, valueAt (kn7 t0 t1 t2 t3 t4 t5 t6) (sS (nmOf c)) = some (.str (sS [c]) t) := by
  simp only [nmd, List.mem_cons, List.not_mem_nil, or_false] at h
  rcases h with rfl | rfl | rfl | rfl | rfl | rfl | rfl
  · exact ⟨t0, by kernel_rfl⟩
  · exact ⟨t1, by kernel_rfl⟩
  · exact ⟨t2, by kernel_rfl⟩
  · exact ⟨t3, by kernel_rfl⟩
  · exact ⟨t6, by kernel_rfl⟩
  · exact ⟨t5, by kernel_rfl⟩
  · exact ⟨t4, by kernel_rfl⟩
theorem seg_len (b : Bool) (s : List Nat) : (seg b s).2.length ≤ s.length := by
  induction s with
  | nil => exact Nat.le_refl _
  | cons c s ih =>
    unfold seg
    split
    · simp; exact ih
    · simp; omega
theorem List.length_flatMap_ge {p : Nat × List Nat} {l : List (Nat × List Nat)} (h : p ∈ l) : p.2.length ≤ (l.flatMap fun p => p.1 :: p.2).length := by
  induction l with
  | nil => cases h
  | cons q l ih =>
    rw [List.flatMap_cons, List.length_append]
    rcases List.mem_cons.mp h with rfl | h
    · simp; omega
    · have := ih h; omega
section
variable {W : Wd} {G : Gens} {env : Env} {loc loc' : Loc} {nw nw' : Ledger} {s : Shared} {A : Around} {E : Value → Shared → Prop} {N : Ledger}
noncomputable abbrev envPl (L : Addr) : Env := envOf "_law_plain" (fnScope st_l_plain) L 196 (.ref 195)
noncomputable abbrev locPl (y : Str) (t : Tok) (kn ps : Addr) (pl : Str) (tp : Tok) (vp vb : Option Value) : Loc := [("text", some (.str y t)), ("known", some (.ref kn)), ("parts", some (.ref ps)), ("plain", some (.str pl tp)), ("part", vp), ("behind", vb)]
noncomputable def outS (hd : List Nat) (dn : List (Nat × List Nat)) : Str := sS (hd ++ dn.flatMap fun p => p.1 :: p.2)
theorem outS_snoc (hd : List Nat) (dn : List (Nat × List Nat)) (p : Nat × List Nat) : outS hd (dn ++ [p]) = outS hd dn ++ (sS [p.1] ++ sS p.2) := by
  apply Str.ext'
  simp [outS, sS, Str.cps_append]
inductive PlI (W : Wd) (G : Gens) (y : Str) (t : Tok) (kn ps : Addr) (hd : List Nat) (tl : List (Nat × List Nat)) (M : Ledger) (rest : List Str) (loc' : Loc) (nw1 : Ledger) (G' : Gens) : Prop
  | mk (dn todo : List (Nat × List Nat)) (tp : Tok) (vp vb : Option Value) (hG : G' = G) (htl : tl = dn ++ todo) (hr : rest = todo.map fun p => sS (nmOf p.1 ++ p.2)) (hloc : loc' = locPl y t kn ps (outS hd dn) tp vp vb) (hnw : nw1 = M) : PlI W G y t kn ps hd tl M rest loc' nw1 G'
set_option maxHeartbeats 8000000 in
theorem plainL_ {p : Pos} {L kn ps sl it : Addr} {y : Str} {t tp : Tok} {hd : List Nat} {tl : List (Nat × List Nat)} {vs : List Value} {kv : List (Str × Value)} {X : Ledger} {R : Result → Shared → Prop} (I : IsC W) (hA : Aok 11 A)
    (hkv : ∀ c ∈ nmd, ∃ t, valueAt kv (sS (nmOf c)) = some (.str (sS [c]) t)) (htp : ∀ p ∈ tl, p.1 ∈ nmd) (hlen : ∀ p ∈ tl, (nmOf p.1 ++ p.2).length ≤ 300000) (hol : (outS hd tl).length ≤ 300000)
    (hvs : TxtsAre vs (tl.map fun p => sS (nmOf p.1 ++ p.2)))
    (S : Sta W G (envPl L) (locPl y t kn ps (sS hd) tp none none) ((it, IsLI sl 0) :: (sl, IsLst vs) :: (kn, IsD W kn kv) :: X) s)
    (k : ∀ tp vp vb s', Sta W G (envPl L) (locPl y t kn ps (outS hd tl) tp vp vb) ((kn, IsD W kn kv) :: X) s' → R (.ok .next) s') (body : List Stmt) (hbd : body = forBody1 ((fnBody st_l_plain).getD 3 (.Pass default))) :
    codeAny (model W.prog W.w) A (.forLoop (.Name "part" p) (.ref it) body [] (envPl L)) R s := by
  have S2 := S.perm (nw' := ((kn, IsD W kn kv) :: X) ++ ([] ++ [(it, IsLI sl 0), (sl, IsLst vs)])) (by walk_at "perm")
  clear S
  have hsc : (";" : Str).length = 1 := by decide +kernel
  refine for_y (sh := []) (P := fun (x : Str) v => ∃ t, v = .str x t) (hA.le (by decide)) (G := G) (og := []) (own := [(it, IsLI sl 0), (sl, IsLst vs)])
    (fun rest loc' nw1 G' => PlI W G y t kn ps hd tl ((kn, IsD W kn kv) :: X) rest loc' nw1 G') ?_ ?_ (by rw [List.append_nil]; exact S2) (yields_txts hvs (LY.yields (ly_list (sh := []) (xs := vs) (own₀ := [(sl, IsLst vs)]) (.head _) vs 0 rfl)))
    ⟨[], tl, tp, none, none, rfl, rfl, rfl, by unfold outS; simp, rfl⟩
  · intro x v rest tl' tg loc' nw1 G' s1 hv S1 hJ
    obtain ⟨dn, todo, tp, vp, vb, rfl, htl, hr, rfl, rfl⟩ := hJ
    obtain ⟨t1, rfl⟩ := hv
    cases todo with
    | nil => cases hr
    | cons q todo =>
      rw [List.map_cons] at hr
      injection hr with e1 e2
      subst e1 e2
      have hmq : q ∈ tl := by rw [htl]; simp
      have hq := hlen q hmq
      have hfs := find_semi q.1 q.2
      have hcut : (sS (nmOf q.1 ++ q.2)).cps.toList = nmOf q.1 ++ q.2 := rfl
      have hnl : ((nmI q.1).length : Int) + 1 = ((nmOf q.1).length : Int) := by
        have := congrArg List.length (nmI_eq q.1)
        simp at this; omega
      have hql : (sS (nmOf q.1 ++ q.2)).length ≤ sizeLine := by rw [Str.len_list, hcut, sizeLine_eq]; omega
      have hol2 : (outS hd (dn ++ [q])).length ≤ 300000 := by
        refine Nat.le_trans ?_ hol
        rw [htl, Str.len_list, Str.len_list]
        show (hd ++ (dn ++ [q]).flatMap _).length ≤ (hd ++ (dn ++ q :: todo).flatMap _).length
        simp
      rw [outS_snoc, Str.length_append, Str.length_append] at hol2
      obtain ⟨tc, hc⟩ := hkv q.1 (htp q hmq)
      refine wpAny_assign_Name (S1.store (by simp only [locPl]; walk_at "put") fun s' S' => ?_)
      clear S1 S2
      simp only [List.cons_append] at S'
      subst hbd
      refine execs_go ?_
      repeat walk_at "cw"
      refine getM_sfind ?_
      repeat walk_at "cw"
      refine Sta.find S' hfs ?_
      clear S'; intro t2 s' S'
      repeat walk_at "cw"
      rw [hnl] at S'
      refine sliceS_ ?_ (by intro _ _; kernel_rfl)
      repeat walk_at "cw"
      refine ⟨_, _, _, _, _, _, _, S', rfl, hql, .none, .int _ _, ?_⟩
      clear S'; intro t3 s' S'
      rw [slice_to hcut rfl]
      repeat walk_at "cw"
      refine Sta.notInD S' (by walk_at "mem") ?_
      clear S'; intro s' S'
      rw [hc]
      repeat walk_at "cw"
      refine ite_fe rfl ?_
      repeat walk_at "cw"
      refine sliceS_ ?_ (by intro _ _; kernel_rfl)
      repeat walk_at "cw"
      refine ⟨_, _, _, _, _, _, _, S', rfl, hql, .none, .int _ _, ?_⟩
      clear S'; intro t4 s' S'
      rw [slice_to hcut rfl]
      refine Sta.subD S' (by walk_at "mem") hc ?_
      clear S'; intro s' S'
      repeat walk_at "cw"
      refine sliceS_ ?_ (by intro _ _; kernel_rfl)
      repeat walk_at "cw"
      refine ⟨_, _, _, _, _, _, _, S', rfl, hql, .int _ _, .none, ?_⟩
      clear S'; intro t5 s' S'
      rw [slice_fr hcut rfl]
      refine Sta.addS S' (by rw [sizeLine_eq]; omega) ?_
      clear S'; intro t6 s' S'
      refine Sta.iaddS S' (by rw [Str.length_append, sizeLine_eq]; omega) ?_
      clear S'; intro t7 s' S'
      repeat walk_at "cw"
      rw [← outS_snoc] at S'
      exact ⟨_, (kn, IsD W kn kv) :: X, G', S'.perm (by walk_at "perm"), ⟨dn ++ [q], todo, _, _, _, rfl, by rw [htl]; simp, rfl, rfl, rfl⟩⟩
  · intro loc' nw1 G' s1 S1 hJ
    obtain ⟨dn, todo, tp, vp, vb, rfl, htl, hr, rfl, rfl⟩ := hJ
    cases todo with
    | cons q todo => cases hr
    | nil =>
      rw [List.append_nil] at htl S1
      subst htl
      exact k tp vp vb s1 S1
set_option maxHeartbeats 8000000 in
theorem plain_ {x : Str} {b : Bool} {t : Tok} {Q : Value → Shared → Prop} (I : IsC W) (hA : Aok 12 A) (hx : x.length ≤ 100000) (hz : (mapS (fL b) x).length ≤ 300000) (S : Sta W G env loc N s) (k : ∀ t' s', Sta W G env loc N s' → Q (.str x t') s') :
    wpAny (model W.prog W.w) A (call (.ref 196) [.str (mapS (fL b) x) t]) Q E s := by
  refine S.call_fn (binds := [("text", .str (mapS (fL b) x) t)]) ["known", "parts", "plain", "part", "behind"] I.f_l_plain hA.room (fun _ _ _ _ _ => BindsTo.of_eq (by kernel_rfl)) (by kernel_rfl) ?_
  intro L s' S'
  have hA' := hA.deeper (env := envPl L)
  simp only [mkLoc, List.map_cons, List.map_nil, List.cons_append, List.nil_append] at S'
  have hsp := split_esc b x
  have hamp : ("&" : Str) = ⟨#[38]⟩ := by kernel_rfl
  refine execs_go ?_
  repeat walk_at "cw"
  refine DLit.mk (kn7 _ _ _ _ _ _ _) S' (by exact ⟨strKind_is _ _ _ _, rfl, strKind_is _ _ _ _, rfl, strKind_is _ _ _ _, rfl, strKind_is _ _ _ _, rfl, strKind_is _ _ _ _, rfl, strKind_is _ _ _ _, rfl, strKind_is _ _ _ _, rfl, trivial⟩) (kn7_nd _ _ _ _ _ _ _) (Nat.le_of_ble_eq_true rfl) .head ?_
  clear S'; intro s' S'
  repeat walk_at "cw"
  refine getM_ssplit ?_
  repeat walk_at "cw"
  refine Sta.split1 S' (by decide +kernel) (by omega) ?_
  clear S'; intro ps s' S'
  rw [hamp, hsp] at S'
  generalize hh : (seg b x.cps.toList).1 = hd at S'
  generalize ht : (seg b x.cps.toList).2 = tl at S'
  repeat walk_at "cw"
  refine Sta.subT (j := 0) S' (by walk_at "mem") rfl (by decide) rfl ?_
  intro t0
  have htl : tl.length ≤ x.length := by rw [← ht, Str.len_list]; exact seg_len b _
  have htp : ∀ p ∈ tl, p.1 ∈ nmd := fun p hp => sgs_nmd ((seg_free b x.cps.toList).2 p (by rw [ht]; exact hp)).1
  have hout : hd ++ tl.flatMap (fun p => p.1 :: p.2) = x.cps.toList := by rw [← hh, ← ht]; exact seg_out b _
  have hlen : ∀ p ∈ tl, (nmOf p.1 ++ p.2).length ≤ 300000 := by
    intro p hp
    have h1 : (nmOf p.1).length ≤ 5 := by unfold nmOf ampL; (repeat' split) <;> decide
    have h2 : p.2.length ≤ x.cps.toList.length := by
      rw [← hout, List.length_append]
      have := List.length_flatMap_ge hp
      omega
    rw [← Str.len_list] at h2
    rw [List.length_append]; omega
  repeat walk_at "cw"
  refine wpAny_For ?_ (by intro _; kernel_rfl)
  refine slice_ ?_ (by intro _ _; kernel_rfl)
  repeat walk_at "cw"
  refine sliceK_txts (j := 1) S' (by walk_at "mem") (by rw [sizeLine_eq]; simp; omega) rfl ?_
  clear S'; intro sl s' S'
  rw [List.drop_one, List.tail_cons] at S'
  refine Sta.iterT S' .head ?_
  clear S'; intro it vs s' hvs S'
  have ex : outS hd tl = x := Str.ext' hout
  refine plainL_ (kv := kn7 _ _ _ _ _ _ _) (tl := tl) (hd := hd) (ps := ps) (X := (ps, IsTxts (sS hd :: tl.map fun p => sS (nmOf p.1 ++ p.2))) :: (env.locals, IsNs loc) :: N) I (hA'.le (by decide)) (fun c hc => kn7_in hc) htp hlen (by rw [ex]; omega) hvs (S'.perm (by walk_at "perm")) ?_ _ rfl
  clear S'; intro tp vp vb s' S'
  rw [ex] at S'
  repeat walk_at "cw"
  exact k _ _ (Sta.back (S'.sel (nw' := (env.locals, IsNs loc) :: N) (Sel.rest [_, _] (by walk_at "perm"))) S.eok)
end
end
section
open PySem PySem.W PyProof.Rows PySem.W.X PySem.SeqAt
set_option maxRecDepth 100000
set_option linter.unusedVariables false
theorem cat_one (x : Str) : cat [x] = x := Str.append_empty _
/-- a writer whose root is open: what it has written and holds is y, spelled -/
structure Wt (st : Ws) (σ : List Str) (deep n : Nat) (y : Str) : Prop where
  es : st.es.length = deep + 1
  dp : st.dp = deep + 1
  rs : st.rs = true
  rd : st.rd = false
  ig : st.ig = 0
  tx : cat σ ++ escC (cat st.held) = y
  hc : (cat st.held).length ≤ 300000
  hl : st.held.length ≤ 1
  sl : σ.length ≤ n
theorem cat_flush (σ held ms : List Str) : cat (σ ++ (flushed held ++ ms)) = (cat σ ++ escC (cat held)) ++ cat ms := by
  have e : flushed held = fl0 held := rfl
  rw [cat_append, cat_append, e, cat_fl0]
  exact (Str.append_assoc _ _ _).symm
theorem flushed_le (held : List Str) : (flushed held).length ≤ 1 := by
  unfold flushed; split <;> simp
theorem Wt.mark {st st' : Ws} {σ : List Str} {deep deep' n : Nat} {y : Str} (H : Wt st σ deep n y) (ms : List Str) (h1 : st'.es.length = deep' + 1) (h2 : st'.dp = deep' + 1) (h3 : st'.rs = true) (h4 : st'.rd = false) (h5 : st'.ig = 0) (h6 : st'.held = []) (h7 : ms.length ≤ 4) : Wt st' (σ ++ (flushed st.held ++ ms)) deep' (n + 5) (y ++ cat ms) := by
  refine ⟨h1, h2, h3, h4, h5, ?_, by rw [h6]; decide +kernel, by rw [h6]; decide, ?_⟩
  · have e : escC (cat ([] : List Str)) = Str.empty := rfl
    rw [cat_flush, H.tx, h6, e, Str.append_empty]
  · have := flushed_le st.held
    have := H.sl
    rw [List.length_append, List.length_append]; omega
section
variable {W : Wd} {G : Gens} {env : Env} {loc loc' : Loc} {nw nw' : Ledger} {s : Shared} {A : Around} {E : Value → Shared → Prop} {N : Ledger} {w : Wr} {st : Ws} {q out : Addr} {σ : List Str}
theorem lsPushes (σ xs : List Str) : (listSink W q out).pushes σ xs = σ ++ xs := by
  induction xs generalizing σ with
  | nil => exact (List.append_nil _).symm
  | cons x r ih =>
    show (listSink W q out).pushes (σ ++ [x]) r = _
    rw [ih]
    exact List.append_assoc σ [x] r
set_option maxHeartbeats 8000000 in
theorem dataW {x y : Str} {t : Tok} {deep n : Nat} {Q : Value → Shared → Prop} (I : IsC W) (hA : Aok 16 A) (H : Wt st σ deep n y) (hx : x.length ≤ 300000) (h0 : st.held = [])
    (S : Sta W G env loc (wrLed w .none q st N) s)
    (k : ∀ st' s', Wt st' σ deep n (y ++ escC x) → Sta W G env loc (wrLed w .none q st' N) s' → Q .none s') :
    wpAny (model W.prog W.w) A (call (.ref 97) [.ref w.x, .str x t]) Q E s := by
  refine wpAny_call (data_ I S (hA.le (by decide)) (by rw [h0]; decide +kernel) ?_)
  intro s' S'
  unfold Ws.data at S'
  rw [if_pos H.ig] at S'
  have e : escC (cat ([] : List Str)) = Str.empty := rfl
  refine k { st with held := st.held ++ [x] } s' ⟨H.es, H.dp, H.rs, H.rd, H.ig, ?_, ?_, ?_, H.sl⟩ S'
  · have := H.tx
    rw [h0, e, Str.append_empty] at this
    show cat σ ++ escC (cat (st.held ++ [x])) = _
    rw [h0, this, List.nil_append, cat_one]
  · show (cat (st.held ++ [x])).length ≤ _
    rw [h0, List.nil_append, cat_one]; exact hx
  · show (st.held ++ [x]).length ≤ _
    rw [h0]; exact Nat.le_refl 1
set_option maxHeartbeats 8000000 in
theorem endW {tag y : Str} {t : Tok} {deep n : Nat} {Q : Value → Shared → Prop} (I : IsC W) (hA : Aok 16 A) (htag : plainName tag) (H : Wt st σ (deep + 1) n y) (hn : n ≤ 100000) (hd : deep ≤ 1000)
    (S : Sta W G env loc (wrLed w .none q st ((listSink W q out).L σ ++ N)) s)
    (k : ∀ st' σ' s', st'.held = [] → Wt st' σ' deep (n + 5) (y ++ endTxt tag) → Sta W G env loc (wrLed w .none q st' ((listSink W q out).L σ' ++ N)) s' → Q .none s') :
    wpAny (model W.prog W.w) A (call (.ref 133) [.ref w.x, .str tag t]) Q E s := by
  obtain ⟨es0, a, hes⟩ : ∃ es0 a, st.es = es0 ++ [a] := by
    have hne : st.es ≠ [] := fun e => by have := H.es; rw [e] at this; simp at this
    exact ⟨st.es.dropLast, st.es.getLast hne, (List.dropLast_concat_getLast hne).symm⟩
  have hel : es0.length = deep + 1 := by have := H.es; rw [hes] at this; simpa using this
  have hsl := H.sl
  have hhl := H.hl
  refine end_ (K := listSink W q out) (σ := σ) (dp0 := deep + 1) I hA htag H.ig H.rs (by rw [sizeLine_eq]; omega) H.hc (by show σ.length + 2 ≤ 16000000; omega) hes H.dp (by omega) (by omega) S ?_
  intro s' S'
  rw [lsPushes] at S'
  have M := H.mark (st' := { st with held := [], es := es0, dp := deep + 1, rd := decide (deep + 1 = 0) }) (deep' := deep) [endTxt tag] hel rfl H.rs (by show decide (deep + 1 = 0) = false; simp) H.ig rfl (by simp)
  rw [cat_one] at M
  exact k _ _ s' rfl M S'
set_option maxHeartbeats 8000000 in
theorem piW {tg x y : Str} {t u : Tok} {deep n : Nat} {Q : Value → Shared → Prop} (I : IsC W) (hA : Aok 16 A) (htg : tg.length ≤ 1) (hx : x.length ≤ 300000) (H : Wt st σ deep n y) (hn : n ≤ 100000)
    (S : Sta W G env loc (wrLed w .none q st ((listSink W q out).L σ ++ N)) s)
    (k : ∀ st' σ' s', st'.held = [] → Wt st' σ' deep (n + 5) (y ++ piTxt tg x) → Sta W G env loc (wrLed w .none q st' ((listSink W q out).L σ' ++ N)) s' → Q .none s') :
    wpAny (model W.prog W.w) A (call (.ref 147) [.ref w.x, .str tg u, .str x t]) Q E s := by
  have hsl := H.sl
  have hhl := H.hl
  refine pi_ (K := listSink W q out) (σ := σ) I (hA.le (by decide)) (by omega) hx H.ig H.rs H.rd (by rw [sizeLine_eq]; omega) H.hc (by show σ.length + 2 ≤ 16000000; omega) S ?_
  intro s' S'
  rw [lsPushes] at S'
  have M := H.mark (st' := { st with held := [] }) (deep' := deep) [piTxt tg x] H.es H.dp H.rs H.rd H.ig rfl (by simp)
  rw [cat_one] at M
  exact k _ _ s' rfl M S'
set_option maxHeartbeats 8000000 in
theorem commentW {x y : Str} {t : Tok} {deep n : Nat} {Q : Value → Shared → Prop} (I : IsC W) (hA : Aok 16 A) (hx : x.length ≤ 300000) (H : Wt st σ deep n y) (hn : n ≤ 100000)
    (S : Sta W G env loc (wrLed w .none q st ((listSink W q out).L σ ++ N)) s)
    (k : ∀ st' σ' s', st'.held = [] → Wt st' σ' deep (n + 5) (y ++ comTxt x) → Sta W G env loc (wrLed w .none q st' ((listSink W q out).L σ' ++ N)) s' → Q .none s') :
    wpAny (model W.prog W.w) A (call (.ref 140) [.ref w.x, .str x t]) Q E s := by
  have hsl := H.sl
  have hhl := H.hl
  refine comment_ (K := listSink W q out) (σ := σ) I (hA.le (by decide)) hx H.ig H.rs H.rd (by rw [sizeLine_eq]; omega) H.hc (by show σ.length + 2 ≤ 16000000; omega) S ?_
  intro s' S'
  rw [lsPushes] at S'
  have M := H.mark (st' := { st with held := [] }) (deep' := deep) [comTxt x] H.es H.dp H.rs H.rd H.ig rfl (by simp)
  rw [cat_one] at M
  exact k _ _ s' rfl M S'
set_option maxHeartbeats 8000000 in
theorem startW {d : Addr} {tag y : Str} {t tv : Tok} {at_ : Option (Str × Str)} {deep n : Nat} {c? : Option Addr} {Q : Value → Shared → Prop} (I : IsC W) (C : CodeHd W.B 125 123) (hA : Aok 27 A) (htag : plainName tag) (hat : atOk at_) (hne : tag ∉ atKeys at_) (H : Wt st σ deep n y) (hn : n ≤ 100000) (hd : deep ≤ 1000)
    (S : Sta W G env loc ((d, IsD W d (kvsOf tv at_)) :: wrLed w .none q st ((listSink W q out).L σ ++ (Tabs 123 lamP lamQ1 c? ++ N))) s)
    (k : ∀ st' σ' c' s', st'.held = [] → Wt st' σ' (deep + 1) (n + 5) (y ++ cat (startTxts tag at_)) → Sta W G env loc (wrLed w .none q st' ((listSink W q out).L σ' ++ (Tabs 123 lamP lamQ1 (some c') ++ N))) s' → Q .none s') :
    wpAny (model W.prog W.w) A (call (.ref 120) [.ref w.x, .str tag t, .ref d]) Q E s := by
  have hsl := H.sl
  have hhl := H.hl
  have hes := H.es
  have hdp := H.dp
  refine start0_ (K := listSink W q out) (σ := σ) (at_ := at_) (tv := tv) I C hA htag hat hne (.inr H.rs) (by rw [sizeLine_eq]; omega) H.hc (by show σ.length + 4 ≤ 16000000; omega) (by omega) (by omega) S ?_
  intro nn c' s' S'
  rw [lsPushes] at S'
  have M := H.mark (st' := st.started nn) (deep' := deep + 1) (startTxts tag at_) (by show (st.es ++ [nn]).length = _; rw [List.length_append, List.length_singleton]; omega) (by show st.dp + 1 = _; omega) rfl H.rd H.ig rfl (by cases at_ <;> simp [startTxts, atTxts])
  exact k _ _ c' s' rfl M S'
end
end
section
open PySem PySem.W PyProof.Rows PySem.W.X PySem.SeqAt
set_option maxRecDepth 100000
set_option linter.unusedVariables false
/-- a document as it lies in the heap: the items of a list, each document in it with its tuple and its list -/
inductive AD
  | nil
  | txt (x : Str) (r : AD)
  | node (p a : Addr) (k : Nat) (d r : AD)
noncomputable def AD.dc : AD → Dc
  | .nil => .nil
  | .txt x r => .txt x r.dc
  | .node _ _ k d r => .node k d.dc r.dc
/-- an item alone -/
inductive It
  | txt (x : Str)
  | node (p a : Addr) (k : Nat) (d : AD)
noncomputable def AD.its : AD → List It
  | .nil => []
  | .txt x r => .txt x :: r.its
  | .node p a k d r => .node p a k d :: r.its
noncomputable def ItIs : It → Value → Prop
  | .txt x, v => ∃ t, v = .str x t
  | .node p _ _ _, v => v = .ref p
inductive ItsAre : List Value → List It → Prop
  | nil : ItsAre [] []
  | cons {vs is} (v : Value) (i : It) (h : ItIs i v) : ItsAre vs is → ItsAre (v :: vs) (i :: is)
noncomputable def IsIts (is : List It) : Cell := fun o => ∃ vs, ItsAre vs is ∧ IsLst vs o
noncomputable def IsNd (k : Nat) (a : Addr) : Cell := fun o => ∃ t, IsTpl [.int (k : Int) t, .ref a] o
noncomputable def AD.led : AD → Ledger
  | .nil => []
  | .txt _ r => r.led
  | .node p a k d r => (p, IsNd k a) :: (a, IsIts d.its) :: (d.led ++ r.led)
theorem ItsAre.length {vs : List Value} {is : List It} (h : ItsAre vs is) : vs.length = is.length := by
  induction h with
  | nil => rfl
  | cons v i h hs ih => rw [List.length_cons, List.length_cons, ih]
section
variable {W : Wd} {G : Gens} {env : Env} {loc loc' : Loc} {nw nw' : Ledger} {s : Shared} {A : Around} {E : Value → Shared → Prop} {N : Ledger}
theorem yields_its {sh : Ledger} {it : Addr} {vs : List Value} {is : List It} {own : Ledger} {og : Gens} (h : ItsAre vs is) : Yields W sh it vs own og → YieldsR W sh it ItIs is own og := by
  induction h generalizing own og with
  | nil => exact fun H => H
  | cons v i hi h ih => exact fun H => ⟨H.1, fun A R GR s Q E hA S hQ => H.2 A R GR s Q E hA S fun own' og' s' S' H' => hQ _ own' og' s' hi S' (ih H')⟩
theorem Sta.openIt {a : Addr} {is : List It} {c' : Cell} (S : Sta W G env loc nw s) (U : Upd a (IsIts is) c' nw nw') : ∃ vs nw1, ItsAre vs is ∧ Upd a (IsIts is) (IsLst vs) nw nw1 ∧ Upd a (IsLst vs) c' nw1 nw' ∧ Sta W G env loc nw1 s := by
  obtain ⟨o, ho, vs, ht, hc⟩ := S.get U.mem
  obtain ⟨nw1, U1, U2⟩ := U.via2 (IsLst vs)
  exact ⟨vs, nw1, ht, U1, U2, S.tell U1 fun o' ho' _ => by rw [ho] at ho'; cases ho'; exact hc⟩
theorem Sta.isiStr {x : Str} {t : Tok} {Q : Value → Shared → Prop} (S : Sta W G env loc nw s) (h : Q (.bool true) s) : wpAny (model W.prog W.w) A (call (.builtin "isinstance") [.str x t, .type "str"]) Q E s := PySem.IsiPair.str_str h
theorem Sta.isiNd {p a : Addr} {k : Nat} {Q : Value → Shared → Prop} (S : Sta W G env loc nw s) (m : (p, IsNd k a) ∈ nw) (h : ∀ s', Sta W G env loc nw s' → Q (.bool false) s') : wpAny (model W.prog W.w) A (call (.builtin "isinstance") [.ref p, .type "str"]) Q E s := by
  obtain ⟨o, ho, t, n, rfl⟩ := S.get m
  exact PySem.IsiPair.tuple_str ho rfl (h _ (S.toks _))
end
end
section
open PySem PySem.W PyProof.Rows PySem.W.X PySem.SeqAt
set_option maxRecDepth 100000
set_option linter.unusedVariables false
noncomputable abbrev envWr (L : Addr) : Env := envOf "_law_written" (fnScope st_l_written) L 189 (.ref 188)
noncomputable abbrev locWr (a0 pc tg : Addr) (vi : Option Value) : Loc := [("document", some (.ref a0)), ("pieces", some (.ref pc)), ("target", some (.ref tg)), ("item", vi)]
theorem wt_root (ti : Tok) (nn : Addr) : Wt ((Ws.fresh ti).started nn) ([] ++ (flushed [] ++ startTxts "d" none)) 0 5 "<d>" := by
  refine ⟨rfl, rfl, rfl, rfl, rfl, ?_, by show (cat ([] : List Str)).length ≤ _; decide +kernel, by show ([] : List Str).length ≤ 1; decide, by decide +kernel⟩
  show cat ([] ++ (flushed [] ++ startTxts "d" none)) ++ escC (cat ([] : List Str)) = "<d>"
  decide +kernel
section
variable {W : Wd} {G : Gens} {env : Env} {loc loc' : Loc} {nw nw' : Ledger} {s : Shared} {A : Around} {E : Value → Shared → Prop} {N : Ledger}
theorem callW_kw {pos : Pos} {f : Addr} {e : Expr} {rest : List Expr} {kws : List Keyword} {Q : Value → Shared → Prop} (hk : keepIn W.K (.ref f) = true)
    (h : wpAny (model W.prog W.w) A (spliced (backTo pos (starEach (e :: rest) env))) (fun vs s₁ => wpAny (model W.prog W.w) A (evalAll ((backToKw pos (keywordEach kws env)).map (·.2))) (fun kvs s₂ => W.K.In s₂.heap ∧ wpAny (model W.prog W.w) A (call (.ref f) vs (((backToKw pos (keywordEach kws env)).filterMap (·.1)).zip kvs)) Q E s₂) E s₁) E s)
    (he : backTo pos (starEach (e :: rest) env) = (false, eval e env) :: backTo pos (starEach rest env)) (hplain : ((backTo pos (starEach (e :: rest) env)).any (·.1) || (backToKw pos (keywordEach kws env)).any (·.1.isNone)) = false) (hall : (backToKw pos (keywordEach kws env)).all (·.1.isSome) = true) :
    wpAny (model W.prog W.w) A (callWith pos (.ref f) [] (backTo pos (starEach (e :: rest) env)) (backToKw pos (keywordEach kws env))) Q E s := by
  refine callWith_of (P := fun h => W.K.In h) (first := []) hplain (fun h X => keeps_K hk h X) ?_
  rw [he] at h ⊢
  exact evalArgs_kwB hall h
set_option maxHeartbeats 8000000 in
/-- _law_written up to its loop -/
theorem wrHead_ {L a0 : Addr} {c? : Option Addr} {Q : Flow → Shared → Prop} (I : IsC W) (C : CodeHd W.B 125 123) (hA : Aok 28 A)
    (S' : Sta W G (envWr L) [("document", some (.ref a0)), ("pieces", none), ("target", none), ("item", none)] (Tabs 123 lamP lamQ1 c? ++ N) s)
    (k : ∀ pc w q st σ c' s', st.held = [] → Wt st σ 0 5 "<d>" → Sta W G (envWr L) (locWr a0 pc w.x none) (wrLed w .none q st ((listSink W q pc).L σ ++ (Tabs 123 lamP lamQ1 (some c') ++ N))) s' → wpAny (model W.prog W.w) A (execs ((fnBody st_l_written).drop 3) (envWr L)) Q E s') :
    wpAny (model W.prog W.w) A (execs ((fnBody st_l_written).drop 0) (envWr L)) Q E s := by
  have hcl := I.cl
  repeat walk_at "cw"
  obtain ⟨pc, rfl⟩ : ∃ o, o = a' := ⟨a', rfl⟩
  refine Call_kw ?_ (by kernel_rfl)
  refine Sta.global S' I.g_cls (by kernel_rfl) ?_
  refine callW_kw (by rw [I.k]; kernel_rfl) ?_ (by kernel_rfl) (by kernel_rfl) (by kernel_rfl)
  repeat walk_at "cw"
  refine Sta.getAppend S' (by walk_at "mem") ?_
  clear S'; intro q s' S'
  repeat walk_at "cw"
  refine kws_cons ?_
  repeat walk_at "cw"
  refine kws_nil ?_
  refine ⟨S'.kin, ?_⟩
  refine Sta.make (fI := 67) selfNames S' (by decide +kernel) (by rw [I.k]; kernel_rfl) (by rw [I.k]; kernel_rfl) (by rw [I.k]; kernel_rfl) ?_
  clear S'; intro x dx s' S'
  refine init0_ I S' (aok_make (hA.le (by decide))) ?_
  clear S'; intro w ti s' hw S'
  subst hw
  refine ⟨rfl, ?_⟩
  refine S'.store (by walk_at "put") ?_
  clear S'; intro s' S'
  repeat walk_at "cw"
  have S2 := S'.perm (nw' := (pc, IsLst []) :: (a', IsD W a' (kvsOf 0 none)) :: wrLed w .none q (.fresh ti) ((q, IsBound "list.append" (.ref pc)) :: (Tabs 123 lamP lamQ1 c? ++ N))) (by simp only [kvsOf]; walk_at "perm")
  have S3 := (S2.tell (c' := IsTxts []) .head fun o _ ho => ⟨_, .nil, ho⟩).perm (nw' := (a', IsD W a' (kvsOf 0 none)) :: wrLed w .none q (.fresh ti) ((listSink W q pc).L [] ++ (Tabs 123 lamP lamQ1 c? ++ N))) (by simp only [listSink]; walk_at "perm")
  clear S' S2
  refine start0_ (K := listSink W q pc) (σ := []) (at_ := none) I C (hA.le (by decide)) ⟨by decide +kernel, by decide +kernel⟩ trivial (by simp [atKeys]) (.inl rfl) (by simp [Ws.fresh]) (show (cat []).length ≤ txtLine by decide +kernel) (show ([] : List Str).length + 4 ≤ 16000000 by decide) (show 0 ≤ 10000 by decide) (show ([] : List Addr).length ≤ 10000 by decide) S3 ?_
  clear S3; intro nn c' s' S'
  rw [lsPushes] at S'
  exact k pc w q _ _ c' s' rfl (wt_root ti nn) S'
end
end
section
open PySem PySem.W PyProof.Rows PySem.W.X PySem.SeqAt
set_option maxRecDepth 100000
set_option linter.unusedVariables false
/-- what _law_written does, of documents that go no deeper than n -/
noncomputable def WrOk (W : Wd) (n : Nat) : Prop := ∀ {G : Gens} {env : Env} {loc : Loc} {s : Shared} {A : Around} {E : Value → Shared → Prop} {Q : Value → Shared → Prop} {N : Ledger} (D : AD) (a0 : Addr) (c? : Option Addr), dep D.dc ≤ n → WfD true D.dc → raw D.dc ≤ 3000 → Aok (30 + 2 * n) A →
  Sta W G env loc ((a0, IsIts D.its) :: (D.led ++ (Tabs 123 lamP lamQ1 c? ++ N))) s → (∀ t' c' s', Sta W G env loc ((a0, IsIts D.its) :: (D.led ++ (Tabs 123 lamP lamQ1 c' ++ N))) s' → Q (.str (wrD D.dc) t') s') → wpAny (model W.prog W.w) A (call (.ref 189) [.ref a0]) Q E s
theorem Wt.le {st : Ws} {σ : List Str} {deep n m : Nat} {y : Str} (H : Wt st σ deep n y) (h : n ≤ m) : Wt st σ deep m y := ⟨H.es, H.dp, H.rs, H.rd, H.ig, H.tx, H.hc, H.hl, Nat.le_trans H.sl h⟩
theorem txt_t (y : Str) (d : Dc) : y ++ cat (startTxts "t" none) ++ escC (wrD d) ++ endTxt "t" = y ++ (opn 0 ++ (esK 0 (wrD d) ++ clo 0)) := by
  have e1 : cat (startTxts "t" none) = opn 0 := by decide +kernel
  have e2 : endTxt "t" = clo 0 := by decide +kernel
  rw [e1, e2, Str.append_assoc, Str.append_assoc]
  rfl
theorem txt_v (y : Str) (d : Dc) : y ++ cat (startTxts "v" (some ("k", wrD d))) ++ endTxt "v" = y ++ (opn 1 ++ (esK 1 (wrD d) ++ clo 1)) := by
  have e1 : cat (startTxts "v" (some ("k", wrD d))) ++ endTxt "v" = opn 1 ++ (esK 1 (wrD d) ++ clo 1) := by
    apply Str.ext'
    have h0 : (opn 1).cps.toList = [60, 118, 32, 107, 61, 34] := by decide +kernel
    have h1 : (clo 1).cps.toList = [34, 62, 60, 47, 118, 62] := by decide +kernel
    have h2 : (endTxt "v").cps.toList = [60, 47, 118, 62] := by decide +kernel
    have h3 : (("<" : Str) ++ "v").cps.toList = [60, 118] := by decide +kernel
    have h4 : (">" : Str).cps.toList = [62] := by decide +kernel
    have h5 : (" " : Str).cps.toList = [32] := by decide +kernel
    have h6 : ("=\"" : Str).cps.toList = [61, 34] := by decide +kernel
    have h7 : ("\"" : Str).cps.toList = [34] := by decide +kernel
    have h8 : ("k" : Str).cps.toList = [107] := by decide +kernel
    have h9 : (esK 1 (wrD d)) = escA (wrD d) := rfl
    show ((("<" : Str) ++ "v") ++ (attrTxt "k" (wrD d) ++ (">" ++ Str.empty)) ++ endTxt "v").cps.toList = _
    unfold attrTxt
    simp only [Str.cps_append, Array.toList_append] at h3 ⊢
    simp only [h0, h1, h2, h3, h4, h5, h6, h7, h8, h9]
    simp [Str.empty]
  rw [Str.append_assoc, e1]
theorem piTxt_wr (d : Dc) : piTxt "p" (wrD d) = opn 3 ++ (esK 3 (wrD d) ++ clo 3) := by
  have h : (wrD d).length ≠ 0 := by rw [wrD_len]; omega
  unfold piTxt
  rw [if_neg h, ← Str.append_assoc]
  have e : ("<?" : Str) ++ "p" ++ " " = opn 3 := by decide +kernel
  rw [e]
  rfl
section
variable {W : Wd} {G : Gens} {env : Env} {loc loc' : Loc} {nw nw' : Ledger} {s : Shared} {A : Around} {E : Value → Shared → Prop} {N : Ledger}
theorem Sta.openNd {p a : Addr} {k : Nat} {c' : Cell} (S : Sta W G env loc nw s) (U : Upd p (IsNd k a) c' nw nw') : ∃ t nw1, Upd p (IsNd k a) (IsTpl [.int (k : Int) t, .ref a]) nw nw1 ∧ Upd p (IsTpl [.int (k : Int) t, .ref a]) c' nw1 nw' ∧ Sta W G env loc nw1 s := by
  obtain ⟨o, ho, t, hc⟩ := S.get U.mem
  obtain ⟨nw1, U1, U2⟩ := U.via2 (IsTpl [.int (k : Int) t, .ref a])
  exact ⟨t, nw1, U1, U2, S.tell U1 fun o' ho' _ => by rw [ho] at ho'; cases ho'; exact hc⟩
theorem Sta.subNd0 {p a : Addr} {k : Nat} {u : Tok} {Q : Value → Shared → Prop} (S : Sta W G env loc nw s) (m : (p, IsNd k a) ∈ nw) (h : ∀ t, Q (.int (k : Int) t) s) : SubscriptOn (model W.prog W.w) A (.ref p) (.int 0 u) Q E s := by
  obtain ⟨t, nw1, U1, U2, S1⟩ := S.openNd (upd_same m)
  exact Sta.sub_tuple S1 U2.mem (j := 0) rfl (by omega) rfl (h t)
theorem Sta.subNd1 {p a : Addr} {k : Nat} {u : Tok} {Q : Value → Shared → Prop} (S : Sta W G env loc nw s) (m : (p, IsNd k a) ∈ nw) (h : Q (.ref a) s) : SubscriptOn (model W.prog W.w) A (.ref p) (.int 1 u) Q E s := by
  obtain ⟨t, nw1, U1, U2, S1⟩ := S.openNd (upd_same m)
  exact Sta.sub_tuple S1 U2.mem (j := 1) rfl (by omega) rfl h
noncomputable def stWf : Stmt := (fnBody st_l_written).getD 3 (.Pass default)
set_option maxHeartbeats 8000000 in
/-- a turn: a text -/
theorem turnWt {L a0 pc : Addr} {w : Wr} {q : Addr} {st : Ws} {σ : List Str} {x y : Str} {t : Tok} {n : Nat} {Q : Flow → Shared → Prop} (I : IsC W) (hA : Aok 28 A) (H : Wt st σ 0 n y) (hx : x.length ≤ 300000) (h0 : st.held = [])
    (S' : Sta W G (envWr L) (locWr a0 pc w.x (some (.str x t))) (wrLed w .none q st N) s)
    (k : ∀ st' s', Wt st' σ 0 n (y ++ escC x) → Sta W G (envWr L) (locWr a0 pc w.x (some (.str x t))) (wrLed w .none q st' N) s' → Q .next s')
    (body : List Stmt) (hbd : body = forBody1 stWf) : wpAny (model W.prog W.w) A (execs body (envWr L)) Q E s := by
  have hcl := I.cl
  subst hbd
  simp only [locWr] at S'
  refine execs_go ?_
  refine execs_at rfl ?_
  refine wpAny_If ?_
  repeat walk_at "cw"
  refine Sta.builtin S' I.b_isinstance bo_isinstance (by kernel_rfl) ?_
  repeat walk_at "cw"
  refine Sta.builtin S' I.b_str bo_str (by kernel_rfl) ?_
  repeat walk_at "cw"
  refine Sta.isiStr S' ?_
  repeat walk_at "cw"
  refine dataW I (hA.le (by decide)) H hx h0 S' ?_
  clear S'; intro st' s' H' S'
  repeat walk_at "cw"
  exact k st' s' H' S'
set_option maxHeartbeats 8000000 in
/-- a turn: a document in it, as a comment -/
theorem turnWn {L a0 pc : Addr} {w : Wr} {q : Addr} {st : Ws} {σ : List Str} {y : Str} {kd n m : Nat} {c : Option Addr} {p a : Addr} {d : AD} {Q : Flow → Shared → Prop} (I : IsC W) (C : CodeHd W.B 125 123) (hA : Aok (31 + 2 * m) A) (ih : WrOk W m) (H : Wt st σ 0 n y) (hn : n ≤ 10000) (hk : kd < 4) (hd : dep d.dc ≤ m) (hw : WfD true d.dc) (hr : raw d.dc ≤ 3000) (hl : (wrD d.dc).length ≤ 300000)
    (S' : Sta W G (envWr L) (locWr a0 pc w.x (some (.ref p))) ((p, IsNd kd a) :: (a, IsIts d.its) :: wrLed w .none q st ((listSink W q pc).L σ ++ (d.led ++ (Tabs 123 lamP lamQ1 c ++ N)))) s)
    (k : ∀ st' σ' (c' : Option Addr) s', st'.held = [] → Wt st' σ' 0 (n + 10) (y ++ (opn kd ++ (esK kd (wrD d.dc) ++ clo kd))) → Sta W G (envWr L) (locWr a0 pc w.x (some (.ref p))) ((p, IsNd kd a) :: (a, IsIts d.its) :: wrLed w .none q st' ((listSink W q pc).L σ' ++ (d.led ++ (Tabs 123 lamP lamQ1 c' ++ N)))) s' → Q .next s')
    (body : List Stmt) (hbd : body = forBody1 stWf) : wpAny (model W.prog W.w) A (execs body (envWr L)) Q E s := by
  have hcl := I.cl
  subst hbd
  simp only [locWr] at S'
  refine execs_go ?_
  refine execs_at rfl ?_
  refine wpAny_If ?_
  repeat walk_at "cw"
  refine Sta.builtin S' I.b_isinstance bo_isinstance (by kernel_rfl) ?_
  repeat walk_at "cw"
  refine Sta.builtin S' I.b_str bo_str (by kernel_rfl) ?_
  repeat walk_at "cw"
  refine Sta.isiNd S' (by walk_at "mem") ?_
  clear S'; intro s' S'
  repeat walk_at "cw"
  refine Sta.subNd0 S' (by walk_at "mem") ?_
  intro t0
  repeat walk_at "cw"
  by_cases k0 : kd = 0
  · subst k0
    refine ite_te rfl ?_
    repeat walk_at "cw"
    refine startW (d := a') (at_ := none) (tv := 0) I C (hA.le (by omega)) ⟨by decide +kernel, by decide +kernel⟩ trivial (by simp [atKeys]) H (Nat.le_trans hn (by decide)) (by decide) (S'.perm (nw' := (a', IsD W a' (kvsOf 0 none)) :: wrLed w .none q st ((listSink W q pc).L σ ++ (Tabs 123 lamP lamQ1 c ++ ((p, IsNd 0 a) :: (a, IsIts d.its) :: (d.led ++ N))))) (by simp only [kvsOf]; walk_at "perm")) ?_
    clear S'; intro st1 σ1 c1 s' hh1 H1 S'
    replace S' := S'.perm (nw' := (p, IsNd 0 a) :: (a, IsIts d.its) :: wrLed w .none q st1 ((listSink W q pc).L σ1 ++ (d.led ++ (Tabs 123 lamP lamQ1 (some c1) ++ N)))) (by walk_at "perm")
    repeat walk_at "cw"
    refine Sta.global S' I.g_l_written (by kernel_rfl) ?_
    refine callW_1 (by rw [I.k]; kernel_rfl) ?_ (by kernel_rfl) (by kernel_rfl)
    repeat walk_at "cw"
    refine Sta.subNd1 S' (by walk_at "mem") ?_
    repeat walk_at "cw"
    refine ih d a (some c1) hd hw hr (hA.le (by omega)) (S'.perm (nw' := (a, IsIts d.its) :: (d.led ++ (Tabs 123 lamP lamQ1 (some c1) ++ ((p, IsNd 0 a) :: wrLed w .none q st1 ((listSink W q pc).L σ1 ++ N))))) (by walk_at "perm")) ?_
    clear S'; intro t3 c2 s' S'
    repeat walk_at "cw"
    refine dataW I (hA.le (by omega)) H1 hl hh1 (S'.perm (nw' := wrLed w .none q st1 ((listSink W q pc).L σ1 ++ ((p, IsNd 0 a) :: (a, IsIts d.its) :: (d.led ++ (Tabs 123 lamP lamQ1 c2 ++ N))))) (by walk_at "perm")) ?_
    clear S'; intro st2 s' H2 S'
    replace S' := S'.perm (nw' := (p, IsNd 0 a) :: (a, IsIts d.its) :: wrLed w .none q st2 ((listSink W q pc).L σ1 ++ (d.led ++ (Tabs 123 lamP lamQ1 c2 ++ N)))) (by walk_at "perm")
    repeat walk_at "cw"
    refine endW (deep := 0) I (hA.le (by omega)) ⟨by decide +kernel, by decide +kernel⟩ H2 (by omega) (by decide) (S'.perm (nw' := wrLed w .none q st2 ((listSink W q pc).L σ1 ++ ((p, IsNd 0 a) :: (a, IsIts d.its) :: (d.led ++ (Tabs 123 lamP lamQ1 c2 ++ N))))) (by walk_at "perm")) ?_
    clear S'; intro st3 σ3 s' hh3 H3 S'
    repeat walk_at "cw"
    refine k st3 σ3 c2 s' hh3 ?_ (S'.perm (by walk_at "perm"))
    rw [txt_t] at H3
    exact H3
  have e0 : ((kd : Int) == 0) = false := by rw [beq_eq_false_iff_ne]; omega
  refine ite_fe e0 ?_
  repeat walk_at "cw"
  refine Sta.subNd0 S' (by walk_at "mem") ?_
  intro t1
  repeat walk_at "cw"
  by_cases k1 : kd = 1
  · subst k1
    refine ite_te rfl ?_
    repeat walk_at "cw"
    refine Sta.global S' I.g_l_written (by kernel_rfl) ?_
    refine callW_1 (by rw [I.k]; kernel_rfl) ?_ (by kernel_rfl) (by kernel_rfl)
    repeat walk_at "cw"
    refine Sta.subNd1 S' (by walk_at "mem") ?_
    repeat walk_at "cw"
    refine ih d a c hd hw hr (hA.le (by omega)) (S'.perm (nw' := (a, IsIts d.its) :: (d.led ++ (Tabs 123 lamP lamQ1 c ++ ((d', IsD W d' []) :: (p, IsNd 1 a) :: wrLed w .none q st ((listSink W q pc).L σ ++ N))))) (by walk_at "perm")) ?_
    clear S'; intro t3 c2 s' S'
    replace S' := S'.perm (nw' := (d', IsD W d' []) :: (p, IsNd 1 a) :: (a, IsIts d.its) :: wrLed w .none q st ((listSink W q pc).L σ ++ (d.led ++ (Tabs 123 lamP lamQ1 c2 ++ N)))) (by walk_at "perm")
    repeat walk_at "cw"
    refine DLit.mk [("k", .str (wrD d.dc) t3)] S' (by exact ⟨strKind_is _ _ _ _, rfl, trivial⟩) (by simp) (Nat.le_of_ble_eq_true rfl) .head ?_
    clear S'; intro s' S'
    repeat walk_at "cw"
    refine startW (d := d') (at_ := some ("k", wrD d.dc)) (tv := t3) I C (hA.le (by omega)) ⟨by decide +kernel, by decide +kernel⟩ ⟨⟨by decide +kernel, by decide +kernel⟩, hl⟩ (by simp only [atKeys, List.mem_singleton]; decide +kernel) H (Nat.le_trans hn (by decide)) (by decide) (S'.perm (nw' := (d', IsD W d' (kvsOf t3 (some ("k", wrD d.dc)))) :: wrLed w .none q st ((listSink W q pc).L σ ++ (Tabs 123 lamP lamQ1 c2 ++ ((p, IsNd 1 a) :: (a, IsIts d.its) :: (d.led ++ N))))) (by simp only [kvsOf]; walk_at "perm")) ?_
    clear S'; intro st1 σ1 c1 s' hh1 H1 S'
    replace S' := S'.perm (nw' := (p, IsNd 1 a) :: (a, IsIts d.its) :: wrLed w .none q st1 ((listSink W q pc).L σ1 ++ (d.led ++ (Tabs 123 lamP lamQ1 (some c1) ++ N)))) (by walk_at "perm")
    repeat walk_at "cw"
    refine endW (deep := 0) I (hA.le (by omega)) ⟨by decide +kernel, by decide +kernel⟩ H1 (by omega) (by decide) (S'.perm (nw' := wrLed w .none q st1 ((listSink W q pc).L σ1 ++ ((p, IsNd 1 a) :: (a, IsIts d.its) :: (d.led ++ (Tabs 123 lamP lamQ1 (some c1) ++ N))))) (by walk_at "perm")) ?_
    clear S'; intro st3 σ3 s' hh3 H3 S'
    repeat walk_at "cw"
    refine k st3 σ3 (some c1) s' hh3 ?_ (S'.perm (by walk_at "perm"))
    rw [txt_v] at H3
    exact H3
  have e1 : ((kd : Int) == 1) = false := by rw [beq_eq_false_iff_ne]; omega
  refine ite_fe e1 ?_
  repeat walk_at "cw"
  refine Sta.subNd0 S' (by walk_at "mem") ?_
  intro t2
  repeat walk_at "cw"
  by_cases k2 : kd = 2
  · subst k2
    refine ite_te rfl ?_
    repeat walk_at "cw"
    refine Sta.global S' I.g_l_written (by kernel_rfl) ?_
    refine callW_1 (by rw [I.k]; kernel_rfl) ?_ (by kernel_rfl) (by kernel_rfl)
    repeat walk_at "cw"
    refine Sta.subNd1 S' (by walk_at "mem") ?_
    repeat walk_at "cw"
    refine ih d a c hd hw hr (hA.le (by omega)) (S'.perm (nw' := (a, IsIts d.its) :: (d.led ++ (Tabs 123 lamP lamQ1 c ++ ((p, IsNd 2 a) :: wrLed w .none q st ((listSink W q pc).L σ ++ N))))) (by walk_at "perm")) ?_
    clear S'; intro t3 c2 s' S'
    repeat walk_at "cw"
    refine commentW I (hA.le (by omega)) hl H (Nat.le_trans hn (by decide)) (S'.perm (nw' := wrLed w .none q st ((listSink W q pc).L σ ++ ((p, IsNd 2 a) :: (a, IsIts d.its) :: (d.led ++ (Tabs 123 lamP lamQ1 c2 ++ N))))) (by walk_at "perm")) ?_
    clear S'; intro st' σ' s' hh H' S'
    repeat walk_at "cw"
    refine k st' σ' c2 s' hh ?_ (S'.perm (by walk_at "perm"))
    have e : comTxt (wrD d.dc) = opn 2 ++ (esK 2 (wrD d.dc) ++ clo 2) := by rw [← Str.append_assoc]; rfl
    rw [← e]
    exact H'.le (by omega)
  · obtain rfl : kd = 3 := by omega
    refine ite_fe rfl ?_
    repeat walk_at "cw"
    refine Sta.global S' I.g_l_written (by kernel_rfl) ?_
    refine callW_1 (by rw [I.k]; kernel_rfl) ?_ (by kernel_rfl) (by kernel_rfl)
    repeat walk_at "cw"
    refine Sta.subNd1 S' (by walk_at "mem") ?_
    repeat walk_at "cw"
    refine ih d a c hd hw hr (hA.le (by omega)) (S'.perm (nw' := (a, IsIts d.its) :: (d.led ++ (Tabs 123 lamP lamQ1 c ++ ((p, IsNd 3 a) :: wrLed w .none q st ((listSink W q pc).L σ ++ N))))) (by walk_at "perm")) ?_
    clear S'; intro t3 c2 s' S'
    repeat walk_at "cw"
    refine piW I (hA.le (by omega)) (by decide +kernel) hl H (Nat.le_trans hn (by decide)) (S'.perm (nw' := wrLed w .none q st ((listSink W q pc).L σ ++ ((p, IsNd 3 a) :: (a, IsIts d.its) :: (d.led ++ (Tabs 123 lamP lamQ1 c2 ++ N))))) (by walk_at "perm")) ?_
    clear S'; intro st' σ' s' hh H' S'
    repeat walk_at "cw"
    refine k st' σ' c2 s' hh ?_ (S'.perm (by walk_at "perm"))
    have e : piTxt "p" (wrD d.dc) = opn 3 ++ (esK 3 (wrD d.dc) ++ clo 3) := piTxt_wr _
    rw [← e]
    exact H'.le (by omega)
end
end
section
open PySem PySem.W PyProof.Rows PySem.W.X PySem.SeqAt
set_option maxRecDepth 100000
set_option linter.unusedVariables false
/-- between two turns of _law_written's loop -/
inductive WrI (W : Wd) (G : Gens) (m : Nat) (a0 pc : Addr) (w : Wr) (q : Addr) (D : AD) (N : Ledger) (rest : List It) (loc' : Loc) (nw1 : Ledger) (G' : Gens) : Prop
  | mk (pre : Ledger) (r : AD) (b : Bool) (y : Str) (st : Ws) (σ : List Str) (n : Nat) (c : Option Addr) (vi : Option Value) (hG : G' = G) (hr : rest = r.its) (hp : D.led.Perm (pre ++ r.led)) (hb : b = true → st.held = []) (hw : WfD b r.dc) (hy : y ++ bodyD r.dc = "<d>" ++ bodyD D.dc) (hn : n + raw r.dc ≤ 5 + raw D.dc) (hd : dep r.dc ≤ m + 1)
    (H : Wt st σ 0 n y) (hloc : loc' = locWr a0 pc w.x vi) (hnw : nw1 = wrLed w .none q st ((listSink W q pc).L σ ++ (Tabs 123 lamP lamQ1 c ++ (D.led ++ N)))) : WrI W G m a0 pc w q D N rest loc' nw1 G'
theorem wrD_small {d : Dc} {m : Nat} (hm : m ≤ 5) (hd : dep d ≤ m) (hr : raw d ≤ 3000) : (wrD d).length ≤ 300000 := by
  have h1 := body_len d m hd
  have h2 := wrD_len d
  have h3 : (1 + 5 * m) * raw d ≤ 26 * 3000 := Nat.mul_le_mul (by omega) hr
  omega
section
variable {W : Wd} {G : Gens} {env : Env} {loc loc' : Loc} {nw nw' : Ledger} {s : Shared} {A : Around} {E : Value → Shared → Prop} {N : Ledger}
set_option maxHeartbeats 8000000 in
theorem wrLoop_ {p : Pos} {m : Nat} {L a0 pc it : Addr} {w : Wr} {q : Addr} {st : Ws} {σ : List Str} {D : AD} {c : Option Addr} {vs : List Value} {R : Result → Shared → Prop} (I : IsC W) (C : CodeHd W.B 125 123) (hA : Aok (31 + 2 * m) A) (ih : WrOk W m) (hm : m ≤ 5) (hd : dep D.dc ≤ m + 1) (hw : WfD true D.dc) (hr : raw D.dc ≤ 3000) (H : Wt st σ 0 5 "<d>") (h0 : st.held = []) (hvs : ItsAre vs D.its)
    (S : Sta W G (envWr L) (locWr a0 pc w.x none) ((it, IsLI a0 0) :: (a0, IsLst vs) :: wrLed w .none q st ((listSink W q pc).L σ ++ (Tabs 123 lamP lamQ1 c ++ (D.led ++ N)))) s)
    (k : ∀ st σ c vi s', Wt st σ 0 3005 ("<d>" ++ bodyD D.dc) → Sta W G (envWr L) (locWr a0 pc w.x vi) (wrLed w .none q st ((listSink W q pc).L σ ++ (Tabs 123 lamP lamQ1 c ++ (D.led ++ N))) ++ [(a0, IsLst vs)]) s' → R (.ok .next) s') (body : List Stmt) (hbd : body = forBody1 stWf) :
    codeAny (model W.prog W.w) A (.forLoop (.Name "item" p) (.ref it) body [] (envWr L)) R s := by
  have S2 := S.perm (nw' := wrLed w .none q st ((listSink W q pc).L σ ++ (Tabs 123 lamP lamQ1 c ++ (D.led ++ N))) ++ ([(a0, IsLst vs)] ++ [(it, IsLI a0 0)])) (by walk_at "perm")
  clear S
  have Y : LY W [(a0, IsLst vs)] it vs [(it, IsLI a0 0)] := ly_list (own₀ := []) (by simp) vs 0 rfl
  refine for_y (sh := [(a0, IsLst vs)]) (P := ItIs) (hA.le (by omega)) (G := G) (og := []) (own := [(it, IsLI a0 0)])
    (fun rest loc' nw1 G' => WrI W G m a0 pc w q D N rest loc' nw1 G') ?_ ?_ (by rw [List.append_nil]; exact S2) (yields_its hvs Y.yields)
    ⟨[], D, true, "<d>", st, σ, 5, c, none, rfl, rfl, List.Perm.refl _, fun _ => h0, hw, rfl, Nat.le_refl _, hd, H, rfl, rfl⟩
  · intro x v rest tl tg loc' nw1 G' s1 hv S1 hJ
    obtain ⟨pre, r, b, y, st, σ, n, c, vi, rfl, hr', hp, hb, hw, hy, hn, hd, H, rfl, rfl⟩ := hJ
    cases r with
    | nil => cases hr'
    | txt x' r =>
      have hr' : x :: rest = .txt x' :: r.its := hr'
      injection hr' with e1 e2
      subst e1 e2
      obtain ⟨t, rfl⟩ := hv
      have hn : n + (x'.length + raw r.dc) ≤ 5 + raw D.dc := hn
      refine wpAny_assign_Name (S1.store (by simp only [locWr]; walk_at "put") fun s' S' => ?_)
      refine turnWt (N := (listSink W q pc).L σ ++ (Tabs 123 lamP lamQ1 c ++ (D.led ++ (N ++ ([(a0, IsLst vs)] ++ tl))))) I (hA.le (by omega)) H (by omega) (hb hw.1) (S'.perm (by walk_at "perm")) ?_ _ hbd
      intro st' s2 H' S3
      refine ⟨_, wrLed w .none q st' ((listSink W q pc).L σ ++ (Tabs 123 lamP lamQ1 c ++ (D.led ++ N))), G', S3.perm (by walk_at "perm"), ⟨pre, r, false, y ++ escC x', st', σ, n, c, _, rfl, rfl, hp, (fun h => by cases h), hw.2.2, ?_, by omega, hd, H', rfl, rfl⟩⟩
      rw [← hy, Str.append_assoc]; rfl
    | node p' a k' d r =>
      have hr' : x :: rest = .node p' a k' d :: r.its := hr'
      injection hr' with e1 e2
      subst e1 e2
      obtain rfl : v = .ref p' := hv
      have hw : k' < 4 ∧ WfD true d.dc ∧ WfD true r.dc := hw
      have hn : n + (20 + raw d.dc + raw r.dc) ≤ 5 + raw D.dc := hn
      have hd1 : dep d.dc + 1 ≤ m + 1 := Nat.le_trans (Nat.le_max_left _ _) hd
      have hd2 : dep r.dc ≤ m + 1 := Nat.le_trans (Nat.le_max_right _ _) hd
      have hp : D.led.Perm (pre ++ ((p', IsNd k' a) :: (a, IsIts d.its) :: (d.led ++ r.led))) := hp
      refine wpAny_assign_Name (S1.store (by simp only [locWr]; walk_at "put") fun s' S' => ?_)
      have S4 := S'.perm (nw' := D.led ++ (wrLed w .none q st ((listSink W q pc).L σ ++ (Tabs 123 lamP lamQ1 c ++ (N ++ ([(a0, IsLst vs)] ++ tl)))))) (by walk_at "perm")
      have S5 := S4.perm (hp.append_right _)
      refine turnWn (m := m) (N := pre ++ (r.led ++ (N ++ ([(a0, IsLst vs)] ++ tl)))) I C hA ih H (by omega) hw.1 (by omega) hw.2.1 (by omega) (wrD_small (m := m) hm (by omega) (by omega)) (S5.perm (by walk_at "perm")) ?_ _ hbd
      intro st' σ' c' s2 hh H' S6
      have S7 := (S6.perm (nw' := (pre ++ ((p', IsNd k' a) :: (a, IsIts d.its) :: (d.led ++ r.led))) ++ (wrLed w .none q st' ((listSink W q pc).L σ' ++ (Tabs 123 lamP lamQ1 c' ++ (N ++ ([(a0, IsLst vs)] ++ tl)))))) (by walk_at "perm")).perm (hp.symm.append_right _)
      refine ⟨_, wrLed w .none q st' ((listSink W q pc).L σ' ++ (Tabs 123 lamP lamQ1 c' ++ (D.led ++ N))), G', S7.perm (by walk_at "perm"), ⟨pre ++ ((p', IsNd k' a) :: (a, IsIts d.its) :: d.led), r, true, _, st', σ', n + 10, c', _, rfl, rfl, hp.trans (by walk_at "perm"), fun _ => hh, hw.2.2, ?_, by omega, hd2, H', rfl, rfl⟩⟩
      rw [← hy]
      show y ++ (opn k' ++ (esK k' (wrD d.dc) ++ clo k')) ++ bodyD r.dc = y ++ (opn k' ++ (esK k' (wrD d.dc) ++ (clo k' ++ bodyD r.dc)))
      simp only [Str.append_assoc]
  · intro loc' nw1 G' s1 S1 hJ
    obtain ⟨pre, r, b, y, st, σ, n, c, vi, rfl, hr', hp, hb, hw, hy, hn, hd, H, rfl, rfl⟩ := hJ
    cases r with
    | txt x' r => cases hr'
    | node p' a k' d r => cases hr'
    | nil =>
      have hy : y ++ Str.empty = "<d>" ++ bodyD D.dc := hy
      rw [Str.append_empty] at hy
      rw [hy] at H
      exact k st σ c vi s1 (H.le (by omega)) S1
end
end
section
open PySem PySem.W PyProof.Rows PySem.W.X PySem.SeqAt
set_option maxRecDepth 100000
set_option linter.unusedVariables false
theorem one_dep : ∀ d : Dc, 1 ≤ dep d
  | .nil => Nat.le_refl 1
  | .txt _ r => one_dep r
  | .node _ d r => Nat.le_trans (one_dep r) (Nat.le_max_right _ _)
section
variable {W : Wd} {G : Gens} {env : Env} {loc loc' : Loc} {nw nw' : Ledger} {s : Shared} {A : Around} {E : Value → Shared → Prop} {N : Ledger}
set_option maxHeartbeats 8000000 in
theorem written_ (I : IsC W) (C : CodeHd W.B 125 123) (n : Nat) (hn : n ≤ 6) : WrOk W n := by
  induction n with
  | zero =>
    intro G env loc s A E Q N D a0 c? hd
    have := one_dep D.dc
    omega
  | succ m ihm =>
    have ih : WrOk W m := @ihm (by omega)
    intro G env loc s A E Q N D a0 c? hd hw hr hA0 S k
    have hA : Aok (31 + 2 * m + 1) A := hA0.le (by omega)
    refine S.call_fn (binds := [("document", .ref a0)]) ["pieces", "target", "item"] I.f_l_written hA.room (fun _ _ _ _ _ => BindsTo.of_eq (by kernel_rfl)) (by kernel_rfl) ?_
    intro L s' S'
    have hA' := hA.deeper (env := envWr L)
    simp only [mkLoc, List.map_cons, List.map_nil, List.cons_append, List.nil_append] at S'
    have hcl := I.cl
    refine execs_go ?_
    refine wrHead_ (c? := c?) (N := (env.locals, IsNs loc) :: (a0, IsIts D.its) :: (D.led ++ N)) I C (hA'.le (by omega)) (S'.perm (by walk_at "perm")) ?_
    clear S'
    intro pc w q st σ c1 s' hh H S'
    replace S' := S'.perm (nw' := (a0, IsIts D.its) :: wrLed w .none q st ((listSink W q pc).L σ ++ (Tabs 123 lamP lamQ1 (some c1) ++ (D.led ++ ((env.locals, IsNs loc) :: N))))) (by walk_at "perm")
    obtain ⟨o, ho, vs, hvs, hc⟩ := S'.get (.head _)
    have S1 := S'.tell (c' := IsLst vs) .head fun o' ho' _ => by rw [ho] at ho'; cases ho'; exact hc
    clear S'
    have S' := S1
    clear S1
    refine execs_at rfl ?_
    refine wpAny_For ?_ (by intro _; kernel_rfl)
    refine S'.local_ (by simp only [locWr]; walk_at "mem") ?_
    refine Sta.iterList S' (.head _) ?_
    clear S'; intro it s' S'
    refine wrLoop_ (N := (env.locals, IsNs loc) :: N) (c := some c1) (D := D) I C hA' ih (by omega) hd hw hr H hh hvs S' ?_ _ rfl
    clear S'; intro st2 σ2 c2 vi s' H2 S'
    simp only [locWr] at S'
    replace S' := S'.perm (nw' := wrLed w .none q st2 ((listSink W q pc).L σ2 ++ ((a0, IsLst vs) :: (Tabs 123 lamP lamQ1 c2 ++ (D.led ++ ((env.locals, IsNs loc) :: N)))))) (by walk_at "perm")
    repeat walk_at "cw"
    obtain ⟨a, hes⟩ : ∃ a, st2.es = [a] := by
      have := H2.es
      match h : st2.es with
      | [a] => exact ⟨a, rfl⟩
      | [] => rw [h] at this; simp at this
      | _ :: _ :: _ => rw [h] at this; simp at this
    have hhl := H2.hl
    have hsl := H2.sl
    refine end_ (K := listSink W q pc) (σ := σ2) (dp0 := 0) (es0 := []) I (hA'.le (by omega)) ⟨by decide +kernel, by decide +kernel⟩ H2.ig H2.rs (by rw [sizeLine_eq]; omega) (Nat.le_trans H2.hc (by unfold txtLine; omega)) (by show σ2.length + 2 ≤ 16000000; omega) hes H2.dp (by omega) (by simp) S' ?_
    clear S'; intro s' S'
    rw [lsPushes] at S'
    have hcat : cat (σ2 ++ (flushed st2.held ++ [endTxt "d"])) = wrD D.dc := by
      rw [cat_flush, H2.tx, cat_one]
      have e : endTxt "d" = "</d>" := by decide +kernel
      rw [e, Str.append_assoc]
      rfl
    have hlen : (wrD D.dc).length ≤ 300000 := by
      have h1 := body_len D.dc (m + 1) hd
      have h2 := wrD_len D.dc
      have h3 : (1 + 5 * (m + 1)) * raw D.dc ≤ 31 * 3000 := Nat.mul_le_mul (by omega) hr
      omega
    simp only [listSink, List.cons_append, List.nil_append] at S'
    replace S' := S'.perm (nw' := (pc, IsTxts (σ2 ++ (flushed st2.held ++ [endTxt "d"]))) :: (a0, IsLst vs) :: wrLed w .none q { st2 with held := [], es := [], dp := 0, rd := decide (0 = 0) } ((q, IsBound "list.append" (.ref pc)) :: (Tabs 123 lamP lamQ1 c2 ++ (D.led ++ ((env.locals, IsNs loc) :: N))))) (by walk_at "perm")
    repeat walk_at "cw"
    refine getM_sjoin ?_
    repeat walk_at "cw"
    refine Sta.joinT S' (by walk_at "mem") (by kernel_rfl) (by rw [hcat]; omega) ?_
    clear S'; intro t9 s' S'
    rw [hcat]
    replace S' := S'.tell (a := a0) (c' := IsIts D.its) (by walk_at "upd") fun o' ho' hl => ⟨vs, hvs, hl⟩
    refine k _ c2 _ (Sta.back (S'.sel (Sel.rest (wrLed w .none q { st2 with held := [], es := [], dp := 0, rd := decide (0 = 0) } [(q, IsBound "list.append" (.ref pc)), (pc, IsTxts (σ2 ++ (flushed st2.held ++ [endTxt "d"])))]) ?_)) S.eok)
    walk_at "perm"
end
end
section
open PySem PySem.W PyProof.Rows PySem.W.X PySem.SeqAt
set_option maxRecDepth 100000
set_option linter.unusedVariables false
noncomputable def AD.app : AD → AD → AD
  | .nil, d => d
  | .txt x r, d => .txt x (r.app d)
  | .node p a k e r, d => .node p a k e (r.app d)
noncomputable def Dc.app : Dc → Dc → Dc
  | .nil, d => d
  | .txt x r, d => .txt x (r.app d)
  | .node k e r, d => .node k e (r.app d)
theorem AD.app_its : ∀ a b : AD, (a.app b).its = a.its ++ b.its
  | .nil, _ => rfl
  | .txt x r, b => congrArg (It.txt x :: ·) (AD.app_its r b)
  | .node p a k e r, b => congrArg (It.node p a k e :: ·) (AD.app_its r b)
theorem AD.app_led : ∀ a b : AD, (a.app b).led = a.led ++ b.led
  | .nil, _ => rfl
  | .txt x r, b => AD.app_led r b
  | .node p a k e r, b => by
    show (p, IsNd k a) :: (a, IsIts e.its) :: (e.led ++ (r.app b).led) = (p, IsNd k a) :: (a, IsIts e.its) :: (e.led ++ r.led) ++ b.led
    rw [AD.app_led r b]; simp
theorem AD.app_dc : ∀ a b : AD, (a.app b).dc = a.dc.app b.dc
  | .nil, _ => rfl
  | .txt x r, b => congrArg (Dc.txt x) (AD.app_dc r b)
  | .node p a k e r, b => congrArg (Dc.node k e.dc) (AD.app_dc r b)
theorem Dc.app_nil : ∀ a : Dc, a.app .nil = a
  | .nil => rfl
  | .txt x r => congrArg (Dc.txt x) (Dc.app_nil r)
  | .node k e r => congrArg (Dc.node k e) (Dc.app_nil r)
theorem Dc.app_assoc : ∀ a b c : Dc, (a.app b).app c = a.app (b.app c)
  | .nil, _, _ => rfl
  | .txt x r, b, c => congrArg (Dc.txt x) (Dc.app_assoc r b c)
  | .node k e r, b, c => congrArg (Dc.node k e) (Dc.app_assoc r b c)
theorem ItsAre.snoc {vs : List Value} {is : List It} {v : Value} {i : It} (h : ItsAre vs is) (hi : ItIs i v) : ItsAre (vs ++ [v]) (is ++ [i]) := by
  induction h with
  | nil => exact .cons v i hi .nil
  | cons w j hj hs ih => exact .cons w j hj ih
/-- a pair of marks -/
noncomputable def IsMk (k : Nat) : Cell := fun o => ∃ t u, IsTpl [.str (opn k) t, .str (clo k) u] o
noncomputable def mkL (m : Nat → Addr) : List Value := [.ref (m 0), .ref (m 1), .ref (m 2), .ref (m 3)]
noncomputable def mkLed (m : Nat → Addr) : Ledger := [(m 0, IsMk 0), (m 1, IsMk 1), (m 2, IsMk 2), (m 3, IsMk 3)]
theorem mkL_at (m : Nat → Addr) {k : Nat} (h : k < 4) : (mkL m)[k]? = some (.ref (m k)) := by
  obtain rfl | rfl | rfl | rfl : k = 0 ∨ k = 1 ∨ k = 2 ∨ k = 3 := by omega
  all_goals rfl
theorem mkLed_mem (m : Nat → Addr) {k : Nat} (h : k < 4) : (m k, IsMk k) ∈ mkLed m := by
  obtain rfl | rfl | rfl | rfl : k = 0 ∨ k = 1 ∨ k = 2 ∨ k = 3 := by omega
  all_goals simp [mkLed]
theorem opn_small (k : Nat) : (opn k).length ≤ 12 := by have := opn_len k; omega
section
variable {W : Wd} {G : Gens} {env : Env} {loc loc' : Loc} {nw nw' : Ledger} {s : Shared} {A : Around} {E : Value → Shared → Prop} {N : Ledger}
theorem Sta.appendIt {a : Addr} {is : List It} {i : It} {v : Value} {Q : Value → Shared → Prop} (S : Sta W G env loc nw s) (U : Upd a (IsIts is) (IsIts (is ++ [i])) nw nw') (hi : ItIs i v) (hz : is.length ≤ sizeLine) (h : ∀ s', Sta W G env loc nw' s' → Q .none s') :
    wpAny (model W.prog W.w) A (call (.builtin "list.append") [.ref a, v]) Q E s := by
  obtain ⟨vs, nw1, ht, U1, U2, S1⟩ := S.openIt U
  obtain ⟨nw2, U3, U4⟩ := U2.via2 (IsLst (vs ++ [v]))
  exact S1.append U3 (by rw [ht.length]; exact hz) fun s' S2 => h _ (S2.tell U4 fun o _ ho => ⟨_, ht.snoc hi, ho⟩)
theorem Sta.getM_its {name : Str} {a : Addr} {is : List It} {Q : Value × List Value → Shared → Prop} {id : String} (S : Sta W G env loc nw s) (m : (a, IsIts is) ∈ nw) (slot : Slot "list" name id) (hty : typeOf (.builtin id) = pure (.type "method_descriptor")) (h : Q (.builtin id, [.ref a]) s) :
    GetM (model W.prog W.w) A E name (.ref a) Q s := by
  obtain ⟨o, ho, vs, ht, n, rfl⟩ := S.get m
  exact getM_builtin F.plainAttrs_list slot hty ⟨_, ho, rfl⟩ (fun b e => by cases e; exact ⟨_, ho, rfl⟩) h
theorem Sta.appendI {a : Addr} {ns : List Int} {n : Int} {t : Tok} {Q : Value → Shared → Prop} (S : Sta W G env loc nw s) (U : Upd a (IsInts ns) (IsInts (ns ++ [n])) nw nw') (hz : ns.length ≤ sizeLine) (h : ∀ s', Sta W G env loc nw' s' → Q .none s') :
    wpAny (model W.prog W.w) A (call (.builtin "list.append") [.ref a, .int n t]) Q E s := by
  obtain ⟨vs, nw1, ht, U1, U2, S1⟩ := S.openI U
  obtain ⟨nw2, U3, U4⟩ := U2.via2 (IsLst (vs ++ [.int n t]))
  exact S1.append U3 (by rw [Mine.IntsAre.length' ht]; exact hz) fun s' S2 => h _ (S2.tell U4 fun o _ ho => ⟨_, Mine.IntsAre.snoc ht n t, ho⟩)
theorem Sta.openMk {p : Addr} {k : Nat} {c' : Cell} (S : Sta W G env loc nw s) (U : Upd p (IsMk k) c' nw nw') : ∃ t u nw1, Upd p (IsMk k) (IsTpl [.str (opn k) t, .str (clo k) u]) nw nw1 ∧ Upd p (IsTpl [.str (opn k) t, .str (clo k) u]) c' nw1 nw' ∧ Sta W G env loc nw1 s := by
  obtain ⟨o, ho, t, u, hc⟩ := S.get U.mem
  obtain ⟨nw1, U1, U2⟩ := U.via2 (IsTpl [.str (opn k) t, .str (clo k) u])
  exact ⟨t, u, nw1, U1, U2, S.tell U1 fun o' ho' _ => by rw [ho] at ho'; cases ho'; exact hc⟩
theorem Sta.subMk {p : Addr} {k : Nat} {v : Tok} {Q : Value → Shared → Prop} (S : Sta W G env loc nw s) (m : (p, IsMk k) ∈ nw) (h : ∀ t, Q (.str (opn k) t) s) : SubscriptOn (model W.prog W.w) A (.ref p) (.int 0 v) Q E s := by
  obtain ⟨t, u, nw1, U1, U2, S1⟩ := S.openMk (upd_same m)
  exact Sta.sub_tuple S1 U2.mem (j := 0) rfl (by omega) rfl (h t)
theorem Sta.unpackMk {elts : List Expr} {x1} {pos : Pos} {p : Addr} {k : Nat} {Q : Unit → Shared → Prop} (S : Sta W G env loc nw s) (hh : A.handled = none) (m : (p, IsMk k) ∈ nw) (hn : (assignEach elts env).length = 2) (hstar : (assignEach elts env).findIdx? (·.1) = none)
    (h : ∀ t u s', Sta W G env loc nw s' → wpAny (model W.prog W.w) A (assignInOrder ((assignEach elts env).map (·.2)) [.str (opn k) t, .str (clo k) u]) Q E s') : wpAny (model W.prog W.w) A (assign (.Tuple elts x1 pos) env (.ref p)) Q E s := by
  obtain ⟨t, u, nw1, U1, U2, S1⟩ := S.openMk (upd_same m)
  exact S1.unpackT hh U2.mem hn hstar fun s' S2 => h t u s' (S2.tell U2 fun o _ ho => ⟨t, u, ho⟩)
/-- a list of ints compared with the empty list -/
theorem Sta.eqEmpty {a b : Addr} {ns : List Int} {Q : Value → Shared → Prop} (S : Sta W G env loc nw s) (hu : A.units < cLine) (m : (a, IsInts ns) ∈ nw) (mb : (b, IsLst []) ∈ nw) (h : Q (.bool ns.isEmpty) s) : wpAny (model W.prog W.w) A (compareOp .Eq (.ref a) (.ref b)) Q E s := by
  obtain ⟨vs, nw1, ht, U1, U2, S1⟩ := S.openI (upd_same m)
  have h1 := S1.isList U2.mem
  have h2 := S.isList mb
  have hl := Mine.IntsAre.length' ht
  cases ns with
  | nil =>
    have e : vs = [] := List.length_eq_zero_iff.mp hl
    subst e
    exact Sta.eqOp S (eqLists h1 h2 rfl hu fun j hj _ => absurd hj (by simp)) h
  | cons n r =>
    refine RcAt.lists_lengths h1 h2 ?_ hu _ _ _ _ h
    simp at hl ⊢
    intro e
    subst e
    simp at hl
end
section
variable {W : Wd} {G : Gens} {env : Env} {loc loc' : Loc} {nw nw' : Ledger} {s : Shared} {A : Around} {E : Value → Shared → Prop} {N : Ledger}
noncomputable abbrev envRd (L : Addr) : Env := envOfC "_law_read" (fnScope st_l_read) L 201 (.ref 200)
noncomputable abbrev locRd (src : Str) (ts : Tok) (doc : Addr) (vw vz va vb : Option Value) : Loc := [("source", some (.str src ts)), ("document", some (.ref doc)), ("ways", vw), ("size", vz), ("ahead", va), ("behind", vb)]
noncomputable def whStmt : Stmt := (fnBody st_l_read).getD 4 (.Pass default)
noncomputable def whTest1 : Stmt → Expr
  | .While t _ _ _ => t
  | _ => .Name "" default
noncomputable def whBody1 : Stmt → List Stmt
  | .While _ b _ _ => b
  | _ => []
noncomputable def wayStmt : Stmt := (whBody1 whStmt).getD 0 (.Pass default)
set_option maxHeartbeats 8000000 in
/-- ways = [..] -/
theorem ways_ {L lf ml mks doc : Addr} {m : Nat → Addr} {src left : Str} {ts tl : Tok} {vw vz va vb : Option Value} {Q : Flow → Shared → Prop} (I : IsC W) (hA : Aok 10 A) (hml : CellOk (envRd L) .cell "marks" ml) (hlf : CellOk (envRd L) .cell "left" lf) (hl : left.length ≤ 300000)
    (S' : Sta W G (envRd L) (locRd src ts doc vw vz va vb) ((lf, IsCel (some (.str left tl))) :: (ml, IsCel (some (.ref mks))) :: (mks, IsLst (mkL m)) :: (mkLed m ++ N)) s)
    (k : ∀ b s', Sta W G (envRd L) (locRd src ts doc (some (.ref b)) vz va vb) ((b, IsInts ((wys left).map fun k : Nat => (k : Int))) :: (lf, IsCel (some (.str left tl))) :: (ml, IsCel (some (.ref mks))) :: (mks, IsLst (mkL m)) :: (mkLed m ++ N)) s' → Q .next s')
    (st : Stmt) (hst : st = wayStmt) : wpAny (model W.prog W.w) A (exec st (envRd L)) Q E s := by
  subst hst
  refine assignListComp (cl := [("marks", ml), ("left", lf)]) ["way"] (by kernel_rfl) (closure_two (by kernel_rfl) (by decide +kernel) hlf hml) (by kernel_rfl) rfl rfl ?_ (by intro _; kernel_rfl)
  repeat walk_at "cw"
  refine Sta.builtin S' I.b_range bo_range (by kernel_rfl) ?_
  repeat walk_at "cw"
  refine Sta.range1 S' ?_
  clear S'; intro rg s' S'
  refine Sta.iterRange (a := 0) (b := 4) S' (.head _) (by decide) (by decide) ?_
  clear S'; intro it s' S'
  refine ⟨G, _, _, S', ?_⟩
  intro b Cc s1 eok S1
  refine comp_start rfl rfl self_rng (S1.get (.tail _ (.tail _ (.head _)))) ?_
  generalize hloc0 : locRd src ts doc vw vz va vb = loc0 at S1
  have S2 := (S1.tell (c' := IsInts []) .head fun o _ ho => ⟨_, .nil, ho⟩).sel (nw' := ((b, IsInts []) :: ((envRd L).locals, IsNs loc0) :: (lf, IsCel (some (.str left tl))) :: (ml, IsCel (some (.ref mks))) :: (mks, IsLst (mkL m)) :: (mkLed m ++ N)) ++ ([] ++ [(it, IsRngIt ((0 : Nat) : Int) ((4 - 0 : Nat) : Int))])) (Sel.rest [(rg, IsRng ((0 : Nat) : Int) ((4 : Nat) : Int))] (by walk_at "perm"))
  clear S' S1
  refine comp_yI (sh := []) (P := fun (k : Nat) v => ∃ t, v = .int (k : Int) t) (hA.le (by decide)) (G := G) (og := []) (own := [(it, IsRngIt ((0 : Nat) : Int) ((4 - 0 : Nat) : Int))])
    (fun rest loc' nw1 G' => G' = G ∧ ∃ dn vy, List.range' 0 4 = dn ++ rest ∧ loc' = ([("way", vy)] : Loc) ∧ nw1 = (b, IsInts ((dn.filter fun k => begins left k).map fun k : Nat => (k : Int))) :: ((envRd L).locals, IsNs loc0) :: (lf, IsCel (some (.str left tl))) :: (ml, IsCel (some (.ref mks))) :: (mks, IsLst (mkL m)) :: (mkLed m ++ N)) ?_ ?_ (by rw [List.append_nil]; exact S2) (yields_range 4 0) ⟨rfl, [], none, rfl, rfl, rfl⟩
  · intro x v rest tl' tg loc' nw1 G' s2 hv S1 hJ
    obtain ⟨t1, rfl⟩ := hv
    obtain ⟨rfl, dn, vy, hr, rfl, rfl⟩ := hJ
    have hx4 : x < 4 := by
      have : x ∈ List.range' 0 4 := by rw [hr]; simp
      rw [List.mem_range'] at this
      omega
    have hdn : dn.length ≤ 4 := by have := congrArg List.length hr; simp at this; omega
    have hfl : ((dn.filter fun k => begins left k).map fun k : Nat => (k : Int)).length ≤ sizeLine := by
      rw [List.length_map, sizeLine_eq]
      have := List.length_filter_le (fun k => begins left k) dn
      omega
    have hmk : (m x, IsMk x) ∈ (mkLed m ++ N) ++ ([] ++ tl') := List.mem_append_left _ (List.mem_append_left _ (mkLed_mem m hx4))
    have hos := opn_small x
    refine wpAny_assign_Name (S1.store (by walk_at "put") fun s' S' => ?_)
    clear S1 S2
    simp only [List.cons_append] at S'
    refine wpAny_isTrue_Compare1 ?_ (by kernel_rfl)
    refine sliceS_ ?_ (by intro _ _; kernel_rfl)
    refine Sta.cell S' ⟨by kernel_rfl, rfl, by decide +kernel, by decide +kernel⟩ (c := lf) (by walk_at "mem") ?_
    repeat walk_at "cw"
    refine Sta.builtin S' I.b_len bo_len (by kernel_rfl) ?_
    repeat walk_at "cw"
    refine Sta.cell S' ⟨by kernel_rfl, rfl, by decide +kernel, by decide +kernel⟩ (c := ml) (by walk_at "mem") ?_
    repeat walk_at "cw"
    refine Sta.sub_list S' (by walk_at "mem") (by omega) (by omega) (by rw [Int.toNat_natCast]; exact mkL_at m hx4) ?_
    repeat walk_at "cw"
    refine Sta.subMk S' (by walk_at "mem") ?_
    intro t2
    repeat walk_at "cw"
    refine Sta.lenS S' (by omega) ?_
    clear S'; intro t3 s' S'
    refine ⟨_, _, _, _, _, _, _, S', rfl, by rw [sizeLine_eq]; omega, .none, .int _ _, ?_⟩
    clear S'; intro t4 s' S'
    repeat walk_at "cw"
    refine Sta.cell S' ⟨by kernel_rfl, rfl, by decide +kernel, by decide +kernel⟩ (c := ml) (by walk_at "mem") ?_
    repeat walk_at "cw"
    refine Sta.sub_list S' (by walk_at "mem") (by omega) (by omega) (by rw [Int.toNat_natCast]; exact mkL_at m hx4) ?_
    repeat walk_at "cw"
    refine Sta.subMk S' (by walk_at "mem") ?_
    intro t5
    repeat walk_at "cw"
    refine eq_s (fun e => ?_) (fun e => ?_)
    · have hb := (begins_iff left x).mp e
      have ef : ((dn ++ [x]).filter fun k => begins left k).map (fun k : Nat => (k : Int)) = (dn.filter fun k => begins left k).map (fun k : Nat => (k : Int)) ++ [(x : Int)] := by
        rw [List.filter_append, List.map_append]
        congr 1
        simp [hb]
      repeat walk_at "cw"
      refine Sta.appendI S' .head hfl ?_
      clear S'; intro s' S'
      rw [← ef] at S'
      exact ⟨_, (b, IsInts (((dn ++ [x]).filter fun k => begins left k).map fun k : Nat => (k : Int))) :: ((envRd L).locals, IsNs loc0) :: (lf, IsCel (some (.str left tl))) :: (ml, IsCel (some (.ref mks))) :: (mks, IsLst (mkL m)) :: (mkLed m ++ N), G', S', rfl, dn ++ [x], _, by rw [hr]; simp, rfl, rfl⟩
    · have hb : begins left x = false := by
        rw [← Bool.not_eq_true]
        exact fun h => e ((begins_iff left x).mpr h)
      have ef : ((dn ++ [x]).filter fun k => begins left k).map (fun k : Nat => (k : Int)) = (dn.filter fun k => begins left k).map (fun k : Nat => (k : Int)) := by
        rw [List.filter_append]
        simp [hb]
      repeat walk_at "cw"
      rw [← ef] at S'
      exact ⟨_, (b, IsInts (((dn ++ [x]).filter fun k => begins left k).map fun k : Nat => (k : Int))) :: ((envRd L).locals, IsNs loc0) :: (lf, IsCel (some (.str left tl))) :: (ml, IsCel (some (.ref mks))) :: (mks, IsLst (mkL m)) :: (mkLed m ++ N), G', S', rfl, dn ++ [x], _, by rw [hr]; simp, rfl, rfl⟩
  · intro loc' nw1 G' s2 S1 hJ
    obtain ⟨rfl, dn, vy, hr, rfl, rfl⟩ := hJ
    rw [List.append_nil] at hr S1
    subst hr
    subst hloc0
    refine ⟨.next, _, _, (b, IsInts ((wys left).map fun k : Nat => (k : Int))) :: (lf, IsCel (some (.str left tl))) :: (ml, IsCel (some (.ref mks))) :: (mks, IsLst (mkL m)) :: (mkLed m ++ N), G', rfl, S1.perm (List.Perm.swap ..), by simp only [locRd]; walk_at "put", fun s3 S3 => k b s3 S3⟩
end
end
section
open PySem PySem.W PyProof.Rows PySem.W.X PySem.SeqAt
set_option maxRecDepth 100000
set_option linter.unusedVariables false
/-- what _law_read gives back of what was written -/
noncomputable def RdOk (W : Wd) (n : Nat) : Prop := ∀ {G : Gens} {env : Env} {loc : Loc} {s : Shared} {A : Around} {E : Value → Shared → Prop} {Q : Value → Shared → Prop} {N : Ledger} (d : Dc) (t : Tok), dep d ≤ n → WfD true d → raw d ≤ 3000 → Aok (16 + 2 * n) A →
  Sta W G env loc N s → (∀ b (D : AD) s', D.dc = d → Sta W G env loc ((b, IsIts D.its) :: (D.led ++ N)) s' → Q (.ref b) s') → wpAny (model W.prog W.w) A (call (.ref 201) [.str (wrD d) t]) Q E s
/-- the things of a reader between two turns -/
noncomputable abbrev rdLed (lf ml mks doc : Addr) (m : Nat → Addr) (left : Str) (tl : Tok) (is : List It) (N : Ledger) : Ledger := (lf, IsCel (some (.str left tl))) :: (ml, IsCel (some (.ref mks))) :: (mks, IsLst (mkL m)) :: (doc, IsIts is) :: (mkLed m ++ N)
section
variable {W : Wd} {G : Gens} {env : Env} {loc loc' : Loc} {nw nw' : Ledger} {s : Shared} {A : Around} {E : Value → Shared → Prop} {N : Ledger}
set_option maxHeartbeats 8000000 in
/-- a turn at a text -/
theorem turnRt {L lf ml mks doc : Addr} {m : Nat → Addr} {src x : Str} {r : Dc} {is : List It} {ts tl : Tok} {vw vz va vb : Option Value} {Q : Flow → Shared → Prop} (I : IsC W) (hA : Aok 14 A) (hml : CellOk (envRd L) .cell "marks" ml) (hlf : CellOk (envRd L) .cell "left" lf)
    (hx : x.length ≠ 0) (hx2 : x.length ≤ 100000) (hr : WfD false r) (hl : (bodyD (.txt x r)).length ≤ 200000) (his : is.length ≤ 100000)
    (S' : Sta W G (envRd L) (locRd src ts doc vw vz va vb) (rdLed lf ml mks doc m (bodyD (.txt x r)) tl is N) s)
    (k : ∀ b e tl vw vz s', Sta W G (envRd L) (locRd src ts doc vw vz va vb) (rdLed lf ml mks doc m (bodyD r) tl (is ++ [.txt x]) ((b, IsInts []) :: (e, IsLst []) :: N)) s' → Q .next s')
    (body : List Stmt) (hbd : body = whBody1 whStmt) : wpAny (model W.prog W.w) A (execs body (envRd L)) Q E s := by
  have hcl := I.cl
  subst hbd
  have hw := wys_txt (r := r) hx
  have hfm := find_mark (x := x) hr
  have hs1 := sl_txt x r
  have hs2 := sl_txt2 x r
  have hle : (escC x).length ≤ 200000 := by
    have h : (bodyD (.txt x r)).length = (escC x).length + (bodyD r).length := Str.length_append _ _
    omega
  have he0 : (((escC x).length : Int) == 0) = false := by
    obtain ⟨c, l, e2, _⟩ := escC_cons hx
    have h2 : (escC x).length = l.length + 1 := by rw [Str.len_list, e2]; rfl
    rw [beq_eq_false_iff_ne]; omega
  have h1 : ("<" : Str).length = 1 := by decide +kernel
  have hfd : bodyD (.txt x r) ++ "<" = escC x ++ bodyD r ++ "<" := rfl
  generalize bodyD (.txt x r) = left at S' hw hs1 hs2 hl hfd
  refine execs_go ?_
  refine execs_at rfl ?_
  refine ways_ I (hA.le (by decide)) hml hlf (by omega) (left := left) (tl := tl) (ml := ml) (mks := mks) (m := m) (N := (doc, IsIts is) :: N) (S'.perm (by walk_at "perm")) ?_ _ rfl
  clear S'; intro b s' S'
  rw [hw, List.map_nil] at S'
  replace S' := S'.perm (nw' := (b, IsInts []) :: rdLed lf ml mks doc m left tl is N) (by walk_at "perm")
  refine execs_at rfl ?_
  refine wpAny_If ?_
  refine wpAny_isTrue_Compare1 ?_ (by kernel_rfl)
  repeat walk_at "cw"
  refine Sta.eqEmpty S' (Nat.lt_of_le_of_lt (Nat.le_add_right _ _) hA.units) (ns := []) (by walk_at "mem") (by walk_at "mem") ?_
  refine wpAny_truthy_bool ?_
  refine ite_te rfl ?_
  repeat walk_at "cw"
  refine getM_sfind ?_
  repeat walk_at "cw"
  rw [hfd]
  refine Sta.find S' hfm ?_
  clear S'; intro t2 s' S'
  repeat walk_at "cw"
  refine ite_fe he0 ?_
  repeat walk_at "cw"
  refine Sta.getM_its S' (by walk_at "mem") F.slot_list_append F.type_list_append ?_
  repeat walk_at "cw"
  refine Sta.global S' I.g_l_plain (by kernel_rfl) ?_
  refine callW_1 (by rw [I.k]; kernel_rfl) ?_ (by kernel_rfl) (by kernel_rfl)
  repeat walk_at "cw"
  refine sliceS_ ?_ (by intro _ _; kernel_rfl)
  repeat walk_at "cw"
  refine ⟨_, _, _, _, _, _, _, S', rfl, by rw [sizeLine_eq]; omega, .none, .int _ _, ?_⟩
  clear S'; intro t4 s' S'
  rw [hs1]
  repeat walk_at "cw"
  refine plain_ (x := x) (b := false) I (hA.le (by decide)) hx2 (by show (escC x).length ≤ _; omega) S' ?_
  clear S'; intro t5 s' S'
  repeat walk_at "cw"
  refine Sta.appendIt (i := .txt x) S' (by walk_at "upd") ⟨_, rfl⟩ (by rw [sizeLine_eq]; omega) ?_
  clear S'; intro s' S'
  repeat walk_at "cw"
  refine sliceS_ ?_ (by intro _ _; kernel_rfl)
  repeat walk_at "cw"
  refine ⟨_, _, _, _, _, _, _, S', rfl, by rw [sizeLine_eq]; omega, .int _ _, .none, ?_⟩
  clear S'; intro t6 s' S'
  rw [hs2]
  repeat walk_at "cw"
  refine Sta.storeC S' hlf (by walk_at "upd") ?_
  clear S'; intro s' S'
  repeat walk_at "cw"
  exact k b a' _ _ _ _ (S'.perm (by walk_at "perm"))
set_option maxHeartbeats 8000000 in
/-- a turn at a document in it -/
theorem turnRn {L lf ml mks doc : Addr} {m : Nat → Addr} {src : Str} {kd mm : Nat} {d r : Dc} {is : List It} {ts tl : Tok} {vw vz va vb : Option Value} {Q : Flow → Shared → Prop} (I : IsC W) (hA : Aok (17 + 2 * mm) A) (ih : RdOk W mm) (hml : CellOk (envRd L) .cell "marks" ml) (hlf : CellOk (envRd L) .cell "left" lf)
    (hk : kd < 4) (hd : dep d ≤ mm) (hwf : WfD true d) (hraw : raw d ≤ 3000) (hwl : (wrD d).length ≤ 100000) (hl : (bodyD (.node kd d r)).length ≤ 200000) (his : is.length ≤ 100000)
    (S' : Sta W G (envRd L) (locRd src ts doc vw vz va vb) (rdLed lf ml mks doc m (bodyD (.node kd d r)) tl is N) s)
    (k : ∀ p a (D : AD) X tl vw vz va vb s', D.dc = d → Sta W G (envRd L) (locRd src ts doc vw vz va vb) (rdLed lf ml mks doc m (bodyD r) tl (is ++ [.node p a kd D]) ((p, IsNd kd a) :: (a, IsIts D.its) :: (D.led ++ (X ++ N)))) s' → Q .next s')
    (body : List Stmt) (hbd : body = whBody1 whStmt) : wpAny (model W.prog W.w) A (execs body (envRd L)) Q E s := by
  have hcl := I.cl
  subst hbd
  have hw := wys_node (k := kd) (d := d) (r := r) hk
  obtain ⟨w0, hw0⟩ : ∃ l, (wrD d).cps.toList = 60 :: l := ⟨_, wrD_list d⟩
  have hfm := find_clo (x := bodyD (.node kd d r)) (t := wrD d) (r := bodyD r) hk ⟨w0, hw0⟩ rfl
  have hs1 := sl_node kd d r
  have hs2 := sl_node2 kd d r
  have hle : (opn kd ++ esK kd (wrD d)).length ≤ 200000 ∧ (esK kd (wrD d)).length ≤ 200000 := by
    have h : (bodyD (.node kd d r)).length = (opn kd).length + ((esK kd (wrD d)).length + ((clo kd).length + (bodyD r).length)) := by
      show (opn kd ++ (esK kd (wrD d) ++ (clo kd ++ bodyD r))).length = _
      rw [Str.length_append, Str.length_append, Str.length_append]
    rw [Str.length_append]
    omega
  have hol := opn_len kd
  generalize bodyD (.node kd d r) = left at S' hw hs1 hs2 hl hfm
  generalize (opn kd ++ esK kd (wrD d)).length = sz at hfm hs1 hs2 hle
  have hsz : decide ((sz : Int) < 0) = false := decide_eq_false (by omega)
  refine execs_go ?_
  refine execs_at rfl ?_
  refine ways_ I (hA.le (by omega)) hml hlf (by omega) (left := left) (tl := tl) (ml := ml) (mks := mks) (m := m) (N := (doc, IsIts is) :: N) (S'.perm (by walk_at "perm")) ?_ _ rfl
  clear S'; intro b s' S'
  rw [hw, List.map_cons, List.map_nil] at S'
  replace S' := S'.perm (nw' := (b, IsInts [(kd : Int)]) :: rdLed lf ml mks doc m left tl is N) (by walk_at "perm")
  refine execs_at rfl ?_
  refine wpAny_If ?_
  refine wpAny_isTrue_Compare1 ?_ (by kernel_rfl)
  repeat walk_at "cw"
  obtain ⟨e0, rfl⟩ : ∃ e, e = a' := ⟨a', rfl⟩
  refine Sta.eqEmpty S' (Nat.lt_of_le_of_lt (Nat.le_add_right _ _) hA.units) (ns := [(kd : Int)]) (by walk_at "mem") (by walk_at "mem") ?_
  refine wpAny_truthy_bool ?_
  refine ite_fe rfl ?_
  repeat walk_at "cw"
  refine Sta.subI S' (by walk_at "mem") (j := 0) rfl (by decide) rfl ?_
  intro t1
  repeat walk_at "cw"
  refine Sta.sub_list S' (by walk_at "mem") (by omega) (by omega) (by rw [Int.toNat_natCast]; exact mkL_at m hk) ?_
  have hmk : (m kd, IsMk kd) ∈ mkLed m ++ N := List.mem_append_left _ (mkLed_mem m hk)
  refine Sta.unpackMk S' hA.handled (by walk_at "mem") (by kernel_rfl) (by kernel_rfl) ?_
  clear S'; intro ta tb s' S'
  refine assignInOrder_cons ?_
  repeat walk_at "cw"
  refine assignInOrder_cons ?_
  repeat walk_at "cw"
  refine assignInOrder_nil ?_
  repeat walk_at "cw"
  refine getM_sfind ?_
  repeat walk_at "cw"
  refine Sta.find S' hfm ?_
  clear S'; intro t2 s' S'
  repeat walk_at "cw"
  refine ite_fe hsz ?_
  repeat walk_at "cw"
  refine Sta.getM_its S' (by walk_at "mem") F.slot_list_append F.type_list_append ?_
  repeat walk_at "cw"
  refine Sta.subI S' (by walk_at "mem") (j := 0) rfl (by decide) rfl ?_
  intro t3
  repeat walk_at "cw"
  refine Sta.global S' I.g_l_read (by kernel_rfl) ?_
  refine callW_1 (by rw [I.k]; kernel_rfl) ?_ (by kernel_rfl) (by kernel_rfl)
  repeat walk_at "cw"
  refine Sta.global S' I.g_l_plain (by kernel_rfl) ?_
  refine callW_1 (by rw [I.k]; kernel_rfl) ?_ (by kernel_rfl) (by kernel_rfl)
  repeat walk_at "cw"
  refine sliceS_ ?_ (by intro _ _; kernel_rfl)
  repeat walk_at "cw"
  refine Sta.builtin S' I.b_len bo_len (by kernel_rfl) ?_
  repeat walk_at "cw"
  refine Sta.lenS S' (by omega) ?_
  clear S'; intro t4 s' S'
  repeat walk_at "cw"
  refine ⟨_, _, _, _, _, _, _, S', rfl, by rw [sizeLine_eq]; omega, .int _ _, .int _ _, ?_⟩
  clear S'; intro t5 s' S'
  rw [hs1]
  repeat walk_at "cw"
  obtain ⟨b1, hb1⟩ := esK_as kd (wrD d)
  have hle2 := hle.2
  rw [hb1] at hle2 ⊢
  refine plain_ (x := wrD d) (b := b1) I (hA.le (by omega)) hwl (Nat.le_trans hle2 (by decide)) S' ?_
  clear S'; intro t6 s' S'
  repeat walk_at "cw"
  refine ih d t6 hd hwf hraw (hA.le (by omega)) S' ?_
  clear S'; intro c D s' hD S'
  replace S' := S'.perm (nw' := (c, IsIts D.its) :: rdLed lf ml mks doc m left tl is (D.led ++ ((e0, IsLst []) :: (b, IsInts [(kd : Int)]) :: N))) (by walk_at "perm")
  repeat walk_at "cw"
  replace S' := S'.tell (c' := IsNd kd c) .head fun o _ ho => ⟨t3, ho⟩
  refine Sta.appendIt (i := .node a' c kd D) (is := is) S' (by walk_at "upd") rfl (by rw [sizeLine_eq]; omega) ?_
  clear S'; intro s' S'
  repeat walk_at "cw"
  refine sliceS_ ?_ (by intro _ _; kernel_rfl)
  repeat walk_at "cw"
  refine Sta.builtin S' I.b_len bo_len (by kernel_rfl) ?_
  repeat walk_at "cw"
  refine Sta.lenS S' (by omega) ?_
  clear S'; intro t7 s' S'
  repeat walk_at "cw"
  refine ⟨_, _, _, _, _, _, _, S', rfl, by rw [sizeLine_eq]; omega, .int _ _, .none, ?_⟩
  clear S'; intro t8 s' S'
  rw [hs2]
  repeat walk_at "cw"
  refine Sta.storeC S' hlf (by walk_at "upd") ?_
  clear S'; intro s' S'
  repeat walk_at "cw"
  exact k a' c D [(e0, IsLst []), (b, IsInts [(kd : Int)])] _ _ _ _ _ _ hD (S'.perm (by walk_at "perm"))
end
end
section
open PySem PySem.W PyProof.Rows PySem.W.X PySem.SeqAt
set_option maxRecDepth 100000
set_option linter.unusedVariables false
noncomputable def mk4 (a b c d : Addr) : Nat → Addr
  | 0 => a
  | 1 => b
  | 2 => c
  | _ => d
noncomputable def cntD : Dc → Nat
  | .nil => 0
  | .txt _ r => cntD r + 1
  | .node _ _ r => cntD r + 1
theorem cnt_raw : ∀ (d : Dc) (b : Bool), WfD b d → cntD d ≤ raw d
  | .nil, _, _ => Nat.le_refl 0
  | .txt x r, b, h => by
    have := cnt_raw r false h.2.2
    have := h.2.1
    show cntD r + 1 ≤ x.length + raw r; omega
  | .node k d r, b, h => by
    have := cnt_raw r true h.2.2
    show cntD r + 1 ≤ 20 + raw d + raw r; omega
theorem its_cnt : ∀ D : AD, D.its.length = cntD D.dc
  | .nil => rfl
  | .txt x r => congrArg (· + 1) (its_cnt r)
  | .node p a k d r => congrArg (· + 1) (its_cnt r)
theorem app_cnt : ∀ a b : Dc, cntD (a.app b) = cntD a + cntD b
  | .nil, b => by show cntD b = 0 + cntD b; omega
  | .txt x r, b => by show cntD (r.app b) + 1 = cntD r + 1 + cntD b; rw [app_cnt r b]; omega
  | .node k d r, b => by show cntD (r.app b) + 1 = cntD r + 1 + cntD b; rw [app_cnt r b]; omega
theorem app_raw : ∀ a b : Dc, raw (a.app b) = raw a + raw b
  | .nil, b => by show raw b = 0 + raw b; omega
  | .txt x r, b => by show x.length + raw (r.app b) = x.length + raw r + raw b; rw [app_raw r b]; omega
  | .node k d r, b => by show 20 + raw d + raw (r.app b) = 20 + raw d + raw r + raw b; rw [app_raw r b]; omega
theorem ne_s {W : Wd} {s : Shared} {A : Around} {E : Value → Shared → Prop} {x y : Str} {t u : Tok} {Q : Value → Shared → Prop} (h1 : x ≠ y → Q (.bool true) s) (h2 : x = y → Q (.bool false) s) : wpAny (model W.prog W.w) A (compareOp .NotEq (.str x t) (.str y u)) Q E s := by
  refine PyProof.Rows.ne_str ?_
  by_cases e : x = y
  · have e2 : (x != y) = false := by rw [e]; simp
    rw [e2]; exact h2 e
  · have e2 : (x != y) = true := by rw [bne_iff_ne]; exact e
    rw [e2]; exact h1 e
theorem Sta.mkNew {W : Wd} {G : Gens} {env : Env} {loc : Loc} {nw : Ledger} {s : Shared} {l a b c d : Addr} {t0 t1 t2 t3 t4 t5 t6 t7 : Tok} (S : Sta W G env loc ((l, IsLst [.ref a, .ref b, .ref c, .ref d]) :: (d, IsTpl [.str "<?p " t0, .str "?>" t1]) :: (c, IsTpl [.str "<!--" t2, .str "-->" t3]) :: (b, IsTpl [.str "<v k=\"" t4, .str "\"></v>" t5]) :: (a, IsTpl [.str "<t>" t6, .str "</t>" t7]) :: nw) s) :
    ∃ m, Sta W G env loc ((l, IsLst (mkL m)) :: (mkLed m ++ nw)) s := by
  have S1 := S.tell (a := d) (c' := IsMk 3) (.tail .head) fun o _ ho => ⟨t0, t1, ho⟩
  have S2 := S1.tell (a := c) (c' := IsMk 2) (.tail (.tail .head)) fun o _ ho => ⟨t2, t3, ho⟩
  have S3 := S2.tell (a := b) (c' := IsMk 1) (.tail (.tail (.tail .head))) fun o _ ho => ⟨t4, t5, ho⟩
  have S4 := S3.tell (a := a) (c' := IsMk 0) (.tail (.tail (.tail (.tail .head)))) fun o _ ho => ⟨t6, t7, ho⟩
  refine ⟨mk4 a b c d, S4.perm ?_⟩
  show List.Perm ((l, IsLst [.ref a, .ref b, .ref c, .ref d]) :: (d, IsMk 3) :: (c, IsMk 2) :: (b, IsMk 1) :: (a, IsMk 0) :: nw) ((l, IsLst [.ref a, .ref b, .ref c, .ref d]) :: (a, IsMk 0) :: (b, IsMk 1) :: (c, IsMk 2) :: (d, IsMk 3) :: nw)
  refine List.Perm.cons _ ?_
  exact (List.reverse_perm [(a, IsMk 0), (b, IsMk 1), (c, IsMk 2), (d, IsMk 3)]).append_right nw
section
variable {W : Wd} {G : Gens} {env : Env} {loc loc' : Loc} {nw nw' : Ledger} {s : Shared} {A : Around} {E : Value → Shared → Prop} {N : Ledger}
set_option maxHeartbeats 8000000 in
theorem rdLoop_ {p : Pos} {L lf ml mks doc : Addr} {m : Nat → Addr} {src : Str} {mm : Nat} {d : Dc} {ts tl : Tok} {Q : Flow → Shared → Prop} (I : IsC W) (hA : Aok (17 + 2 * mm) A) (ih : RdOk W mm) (hm : mm ≤ 5) (hml : CellOk (envRd L) .cell "marks" ml) (hlf : CellOk (envRd L) .cell "left" lf)
    (hd : dep d ≤ mm + 1) (hw : WfD true d) (hr : raw d ≤ 3000)
    (S : Sta W G (envRd L) (locRd src ts doc none none none none) (rdLed lf ml mks doc m (bodyD d) tl [] N) s)
    (k : ∀ (D : AD) X vw vz va vb s', D.dc = d → Sta W G (envRd L) (locRd src ts doc vw vz va vb) ((doc, IsIts D.its) :: (D.led ++ (X ++ N))) s' → Q .next s')
    (test : Expr) (body : List Stmt) (ht : test = whTest1 whStmt) (hb : body = whBody1 whStmt) :
    wpAny (model W.prog W.w) A (exec (.While test body [] p) (envRd L)) Q E s := by
  subst ht hb
  refine wpAny_While (codeAny_whileLoop (fun n s' => ∃ (D : AD) (r : Dc) (b : Bool) (X : Ledger) (tl : Tok) (vw vz va vb : Option Value), cntD r = n ∧ D.dc.app r = d ∧ WfD b r ∧ dep r ≤ mm + 1 ∧ Sta W G (envRd L) (locRd src ts doc vw vz va vb) (rdLed lf ml mks doc m (bodyD r) tl D.its (D.led ++ (X ++ N))) s') ?_ (cntD d) ?_)
  · intro n s1 hI
    obtain ⟨D, r, b, X, tl, vw, vz, va, vb, hn, hDr, hw', hd', S'⟩ := hI
    clear S
    have hrr := app_raw D.dc r
    rw [hDr] at hrr
    have hcc := app_cnt D.dc r
    rw [hDr] at hcc
    have hcr := cnt_raw d true hw
    have hil : D.its.length ≤ 100000 := by rw [its_cnt]; omega
    have hbl := body_len r (mm + 1) hd'
    have hb2 : (1 + 5 * (mm + 1)) * raw r ≤ 31 * 3000 := Nat.mul_le_mul (by omega) (by omega)
    refine wpAny_isTrue_Compare1 ?_ (by kernel_rfl)
    repeat walk_at "cw"
    cases r with
    | nil =>
      refine ne_s (fun e => absurd (by kernel_rfl) e) (fun _ => ?_)
      repeat walk_at "cw"
      rw [Dc.app_nil] at hDr
      exact k D (X ++ [(lf, IsCel (some (.str (bodyD .nil) tl))), (ml, IsCel (some (.ref mks))), (mks, IsLst (mkL m))] ++ mkLed m) vw vz va vb _ hDr (S'.perm (by walk_at "perm"))
    | txt x r =>
      have hx : x.length ≠ 0 := hw'.2.1
      have hxr : x.length ≤ raw d := by
        have : raw (.txt x r) = x.length + raw r := rfl
        omega
      refine ne_s (fun _ => ?_) (fun e => absurd e (body_ne hx))
      repeat walk_at "cw"
      refine turnRt I (hA.le (by omega)) hml hlf hx (by omega) hw'.2.2 (by omega) hil S' ?_ _ rfl
      clear S'; intro b1 e tl vw vz s' S'
      refine ⟨cntD r, by show cntD r < n; rw [← hn]; exact Nat.lt_succ_self _, D.app (.txt x .nil), r, false, (b1, IsInts []) :: (e, IsLst []) :: X, tl, vw, vz, va, vb, rfl, ?_, hw'.2.2, hd', ?_⟩
      · rw [AD.app_dc, Dc.app_assoc]; exact hDr
      · rw [AD.app_its, AD.app_led]
        exact S'.perm (by simp only [AD.its, AD.led]; walk_at "perm")
    | node kd e r =>
      have hd1 : dep e + 1 ≤ mm + 1 := Nat.le_trans (Nat.le_max_left _ _) hd'
      have hd2 : dep r ≤ mm + 1 := Nat.le_trans (Nat.le_max_right _ _) hd'
      have hre : raw e ≤ 3000 := by
        have : raw (.node kd e r) = 20 + raw e + raw r := rfl
        omega
      have hwl : (wrD e).length ≤ 100000 := by
        have h1 := body_len e mm (by omega)
        have h2 := wrD_len e
        have h3 : (1 + 5 * mm) * raw e ≤ 26 * 3000 := Nat.mul_le_mul (by omega) hre
        omega
      refine ne_s (fun _ => ?_) (fun e => absurd e body_ne2)
      repeat walk_at "cw"
      refine turnRn I hA ih hml hlf hw'.1 (by omega) hw'.2.1 hre hwl (by omega) hil S' ?_ _ rfl
      clear S'; intro p1 a1 De X1 tl vw vz va vb s' hDe S'
      refine ⟨cntD r, by show cntD r < n; rw [← hn]; exact Nat.lt_succ_self _, D.app (.node p1 a1 kd De .nil), r, true, X1 ++ X, tl, vw, vz, va, vb, rfl, ?_, hw'.2.2, hd2, ?_⟩
      · rw [AD.app_dc, Dc.app_assoc, ← hDr, ← hDe]; rfl
      · rw [AD.app_its, AD.app_led]
        exact S'.perm (by simp only [AD.its, AD.led]; walk_at "perm")
  · exact ⟨.nil, d, true, [], tl, none, none, none, none, rfl, rfl, hw, hd, S⟩
set_option maxHeartbeats 8000000 in
theorem read_ (I : IsC W) (n : Nat) (hn : n ≤ 6) : RdOk W n := by
  induction n with
  | zero =>
    intro G env loc s A E Q N d t hd
    have := one_dep d
    omega
  | succ mm ihm =>
    have ih : RdOk W mm := @ihm (by omega)
    intro G env loc s A E Q N d t hd hw hr hA0 S k
    have hA : Aok (17 + 2 * mm + 1) A := hA0.le (by omega)
    have hlen : (wrD d).length ≤ 150000 := by
      have h1 := body_len d (mm + 1) hd
      have h2 := wrD_len d
      have h3 : (1 + 5 * (mm + 1)) * raw d ≤ 31 * 3000 := Nat.mul_le_mul (by omega) hr
      omega
    refine S.call_fnC (binds := [("source", .str (wrD d) t)]) [("source", .str (wrD d) t)] ["document", "ways", "size", "ahead", "behind"] [none, none] I.f_l_read hA.room (fun _ _ _ _ _ => BindsTo.of_eq (by kernel_rfl)) (by kernel_rfl) (by kernel_rfl) (by kernel_rfl) ?_
    intro L cs s' hcs S'
    have hnm : cellNames (fnScope st_l_read).names = (["marks", "left"] : List Str) := by kernel_rfl
    rw [hnm] at hcs
    obtain ⟨ml, lf, rfl, hml, hlf⟩ := hcs.two
    have hA' := hA.deeper (env := envRd L)
    simp only [mkLoc, List.map_cons, List.map_nil, List.cons_append, List.nil_append, cellLed] at S'
    have hcl := I.cl
    refine execs_go ?_
    repeat walk_at "cw"
    obtain ⟨m, S2⟩ := S'.mkNew
    clear S'
    have S' := S2
    clear S2
    refine Sta.storeC S' hml (by simp only [mkLed, List.cons_append, List.nil_append]; walk_at "upd") ?_
    clear S'; intro s' S'
    obtain ⟨mks, rfl⟩ : ∃ e, e = a' := ⟨a', rfl⟩
    replace S' := S'.perm (nw' := (mks, IsLst (mkL m)) :: (ml, IsCel (some (.ref mks))) :: (lf, IsCel none) :: (mkLed m ++ ((env.locals, IsNs loc) :: N))) (by simp only [mkLed]; walk_at "perm")
    repeat walk_at "cw"
    refine sliceS_ ?_ (by intro _ _; kernel_rfl)
    repeat walk_at "cw"
    refine ⟨_, _, _, _, _, _, _, S', rfl, by rw [sizeLine_eq]; omega, .none, .int _ _, ?_⟩
    clear S'; intro t1 s' S'
    rw [sl_open]
    repeat walk_at "cw"
    refine ne_s (fun e => absurd rfl e) (fun _ => ?_)
    repeat walk_at "cw"
    refine sliceS_ ?_ (by intro _ _; kernel_rfl)
    repeat walk_at "cw"
    refine ⟨_, _, _, _, _, _, _, S', rfl, by rw [sizeLine_eq]; omega, .int _ _, .none, ?_⟩
    clear S'; intro t2 s' S'
    rw [sl_close]
    repeat walk_at "cw"
    refine ne_s (fun e => absurd rfl e) (fun _ => ?_)
    repeat walk_at "cw"
    refine sliceS_ ?_ (by intro _ _; kernel_rfl)
    repeat walk_at "cw"
    refine ⟨_, _, _, _, _, _, _, S', rfl, by rw [sizeLine_eq]; omega, .int _ _, .int _ _, ?_⟩
    clear S'; intro t3 s' S'
    rw [sl_body]
    repeat walk_at "cw"
    refine Sta.storeC S' hlf (by walk_at "upd") ?_
    clear S'; intro s' S'
    repeat walk_at "cw"
    obtain ⟨doc, rfl⟩ : ∃ e, e = a' := ⟨a', rfl⟩
    replace S' := S'.tell (c' := IsIts []) .head fun o _ ho => ⟨_, .nil, ho⟩
    refine rdLoop_ (m := m) (N := (env.locals, IsNs loc) :: N) I hA' ih (by omega) hml hlf hd hw hr (S'.perm (by walk_at "perm")) ?_ _ _ rfl rfl
    clear S'; intro D X vw vz va vb s' hD S'
    simp only [locRd] at S'
    repeat walk_at "cw"
    exact k doc D _ hD (Sta.back (S'.sel (Sel.rest X (by walk_at "perm"))) S.eok)
end
end
section
open PySem PySem.W PyProof.Rows PySem.W.X PySem.SeqAt
set_option maxRecDepth 100000
set_option linter.unusedVariables false
/-- a text told at the end -/
noncomputable def AD.addT : AD → Str → AD
  | .nil, y => .txt y .nil
  | .txt x .nil, y => .txt (x ++ y) .nil
  | .txt x r, y => .txt x (r.addT y)
  | .node p a k d r, y => .node p a k d (r.addT y)
theorem wf_addT : ∀ (D : AD) (b : Bool) (y : Str), WfD b D.dc → y.length ≠ 0 → (b = true ∨ D.dc ≠ .nil) → WfD b (D.addT y).dc
  | .nil, b, y, h, hy, hb => ⟨hb.resolve_right fun e => e rfl, hy, trivial⟩
  | .txt x .nil, b, y, h, hy, hb => ⟨h.1, by have := h.2.1; rw [Str.length_append]; omega, trivial⟩
  | .txt x (.txt z r), b, y, h, hy, hb => absurd h.2.2.1 (by decide)
  | .txt x (.node p a k d r), b, y, h, hy, hb => ⟨h.1, h.2.1, wf_addT (.node p a k d r) false y h.2.2 hy (.inr fun e => by cases e)⟩
  | .node p a k d r, b, y, h, hy, hb => ⟨h.1, h.2.1, wf_addT r true y h.2.2 hy (.inl rfl)⟩
theorem dep_addT : ∀ (D : AD) (y : Str), dep (D.addT y).dc = dep D.dc
  | .nil, y => rfl
  | .txt x .nil, y => rfl
  | .txt x (.txt z r), y => dep_addT (.txt z r) y
  | .txt x (.node p a k d r), y => dep_addT (.node p a k d r) y
  | .node p a k d r, y => congrArg (max (dep d.dc + 1)) (dep_addT r y)
theorem raw_addT : ∀ (D : AD) (y : Str), raw (D.addT y).dc = raw D.dc + y.length
  | .nil, y => by show y.length + 0 = 0 + y.length; omega
  | .txt x .nil, y => by show (x ++ y).length + 0 = x.length + 0 + y.length; rw [Str.length_append]; omega
  | .txt x (.txt z r), y => by
    have := raw_addT (.txt z r) y
    show x.length + raw ((AD.txt z r).addT y).dc = x.length + raw (AD.txt z r).dc + y.length; omega
  | .txt x (.node p a k d r), y => by
    have := raw_addT (.node p a k d r) y
    show x.length + raw ((AD.node p a k d r).addT y).dc = x.length + raw (AD.node p a k d r).dc + y.length; omega
  | .node p a k d r, y => by
    have := raw_addT r y
    show 20 + raw d.dc + raw (r.addT y).dc = 20 + raw d.dc + raw r.dc + y.length; omega
theorem led_addT : ∀ (D : AD) (y : Str), (D.addT y).led = D.led
  | .nil, y => rfl
  | .txt x .nil, y => rfl
  | .txt x (.txt z r), y => led_addT (.txt z r) y
  | .txt x (.node p a k d r), y => led_addT (.node p a k d r) y
  | .node p a k d r, y => by
    show (p, IsNd k a) :: (a, IsIts d.its) :: (d.led ++ (r.addT y).led) = (p, IsNd k a) :: (a, IsIts d.its) :: (d.led ++ r.led)
    rw [led_addT r y]
/-- what stands last, and what a text told makes of it -/
theorem its_addT : ∀ (D : AD) (y : Str), (D.its = [] ∧ (D.addT y).its = [.txt y]) ∨ (∃ is p a k d, D.its = is ++ [.node p a k d] ∧ (D.addT y).its = D.its ++ [.txt y]) ∨ (∃ is x, D.its = is ++ [.txt x] ∧ (D.addT y).its = is ++ [.txt (x ++ y)] ∧ x.length ≤ raw D.dc)
  | .nil, y => .inl ⟨rfl, rfl⟩
  | .txt x .nil, y => .inr (.inr ⟨[], x, rfl, rfl, Nat.le_add_right _ _⟩)
  | .txt x (.txt z r), y => by
    rcases its_addT (.txt z r) y with ⟨h, _⟩ | ⟨is, p, a, k, d, h1, h2⟩ | ⟨is, w, h1, h2, h3⟩
    · cases h
    · exact .inr (.inl ⟨.txt x :: is, p, a, k, d, congrArg (It.txt x :: ·) h1, congrArg (It.txt x :: ·) h2⟩)
    · exact .inr (.inr ⟨.txt x :: is, w, congrArg (It.txt x :: ·) h1, congrArg (It.txt x :: ·) h2, Nat.le_trans h3 (Nat.le_add_left _ _)⟩)
  | .txt x (.node q b j e r), y => by
    rcases its_addT (.node q b j e r) y with ⟨h, _⟩ | ⟨is, p, a, k, d, h1, h2⟩ | ⟨is, w, h1, h2, h3⟩
    · cases h
    · exact .inr (.inl ⟨.txt x :: is, p, a, k, d, congrArg (It.txt x :: ·) h1, congrArg (It.txt x :: ·) h2⟩)
    · exact .inr (.inr ⟨.txt x :: is, w, congrArg (It.txt x :: ·) h1, congrArg (It.txt x :: ·) h2, Nat.le_trans h3 (Nat.le_add_left _ _)⟩)
  | .node q b j e r, y => by
    rcases its_addT r y with ⟨h, h2⟩ | ⟨is, p, a, k, d, h1, h2⟩ | ⟨is, w, h1, h2, h3⟩
    · exact .inr (.inl ⟨[], q, b, j, e, congrArg (It.node q b j e :: ·) h, by
        show It.node q b j e :: (r.addT y).its = It.node q b j e :: r.its ++ [.txt y]
        rw [h, h2]; rfl⟩)
    · exact .inr (.inl ⟨.node q b j e :: is, p, a, k, d, congrArg (It.node q b j e :: ·) h1, congrArg (It.node q b j e :: ·) h2⟩)
    · exact .inr (.inr ⟨.node q b j e :: is, w, congrArg (It.node q b j e :: ·) h1, congrArg (It.node q b j e :: ·) h2, Nat.le_trans h3 (Nat.le_add_left _ _)⟩)
theorem app_dep : ∀ a b : Dc, dep (a.app b) = max (dep a) (dep b)
  | .nil, b => by have := one_dep b; show dep b = max 1 (dep b); omega
  | .txt x r, b => app_dep r b
  | .node k d r, b => by show max (dep d + 1) (dep (r.app b)) = max (max (dep d + 1) (dep r)) (dep b); rw [app_dep r b]; omega
theorem app_wf {k : Nat} {e : Dc} (hk : k < 4) (he : WfD true e) : ∀ (a : Dc) (b : Bool), WfD b a → WfD b (a.app (.node k e .nil))
  | .nil, b, h => ⟨hk, he, trivial⟩
  | .txt x r, b, h => ⟨h.1, h.2.1, app_wf hk he r false h.2.2⟩
  | .node j d r, b, h => ⟨h.1, h.2.1, app_wf hk he r true h.2.2⟩
/-- where the tree is being laid: the open lists, the innermost last -/
inductive Zp
  | root (a : Addr) (pre : AD)
  | down (z : Zp) (p : Addr) (k : Nat) (a : Addr) (pre : AD)
noncomputable def Zp.top : Zp → Addr
  | .root a _ => a
  | .down _ _ _ a _ => a
noncomputable def Zp.pre : Zp → AD
  | .root _ d => d
  | .down _ _ _ _ d => d
noncomputable def Zp.set : Zp → AD → Zp
  | .root a _, d => .root a d
  | .down z p k a _, d => .down z p k a d
noncomputable def Zp.refs : Zp → List Value
  | .root a _ => [.ref a]
  | .down z _ _ a _ => z.refs ++ [.ref a]
noncomputable def Zp.rest : Zp → Ledger
  | .root _ _ => []
  | .down z p k a _ => (p, IsNd k a) :: (z.top, IsIts (z.pre.its ++ [.node p a k .nil])) :: (z.pre.led ++ z.rest)
noncomputable def Zp.lev : Zp → Nat
  | .root _ _ => 1
  | .down z _ _ _ _ => z.lev + 1
noncomputable def Zp.raw : Zp → Nat
  | .root _ d => Mine.raw d.dc
  | .down z _ _ _ d => z.raw + 20 + Mine.raw d.dc
noncomputable def Zp.Ok : Zp → Prop
  | .root _ d => WfD true d.dc ∧ dep d.dc ≤ 4
  | .down z _ k _ d => z.Ok ∧ k < 4 ∧ WfD true d.dc ∧ dep d.dc + z.lev ≤ 4
noncomputable abbrev Zp.led (z : Zp) : Ledger := (z.top, IsIts z.pre.its) :: (z.pre.led ++ z.rest)
theorem Zp.refs_len : ∀ z : Zp, z.refs.length = z.lev
  | .root _ _ => rfl
  | .down z _ _ _ _ => by show (z.refs ++ [_]).length = z.lev + 1; rw [List.length_append, Zp.refs_len z]; rfl
theorem Zp.refs_last : ∀ z : Zp, z.refs.getLast? = some (Value.ref z.top)
  | .root _ _ => rfl
  | .down z _ _ a _ => by show (z.refs ++ [Value.ref a]).getLast? = _; simp; rfl
theorem Zp.refs_set (z : Zp) (d : AD) : (z.set d).refs = z.refs := by cases z <;> rfl
theorem Zp.lev_set (z : Zp) (d : AD) : (z.set d).lev = z.lev := by cases z <;> rfl
theorem Zp.led_set (z : Zp) (d : AD) : (z.set d).led = (z.top, IsIts d.its) :: (d.led ++ z.rest) := by cases z <;> rfl
theorem Zp.raw_set (z : Zp) (d : AD) : (z.set d).raw + Mine.raw z.pre.dc = z.raw + Mine.raw d.dc := by
  cases z with
  | root a e => show Mine.raw d.dc + Mine.raw e.dc = Mine.raw e.dc + Mine.raw d.dc; omega
  | down z p k a e => show z.raw + 20 + Mine.raw d.dc + Mine.raw e.dc = z.raw + 20 + Mine.raw e.dc + Mine.raw d.dc; omega
theorem Zp.Ok.pre {z : Zp} (h : z.Ok) : WfD true z.pre.dc ∧ dep z.pre.dc + z.lev ≤ 5 := by
  cases z with
  | root a e => exact ⟨h.1, by have := h.2; show dep e.dc + 1 ≤ 5; omega⟩
  | down z p k a e => exact ⟨h.2.2.1, by have := h.2.2.2; show dep e.dc + (z.lev + 1) ≤ 5; omega⟩
theorem Zp.Ok.set {z : Zp} (h : z.Ok) {d : AD} (h1 : WfD true d.dc) (h2 : dep d.dc + z.lev ≤ 5) : (z.set d).Ok := by
  cases z with
  | root a e => exact ⟨h1, by have : dep d.dc + 1 ≤ 5 := h2; omega⟩
  | down z p k a e => exact ⟨h.1, h.2.1, h1, by have : dep d.dc + (z.lev + 1) ≤ 5 := h2; omega⟩
theorem Zp.raw_pre (z : Zp) : Mine.raw z.pre.dc ≤ z.raw := by
  cases z with
  | root a e => exact Nat.le_refl _
  | down z p k a e => exact Nat.le_add_left _ _
theorem Zp.Ok.lev {z : Zp} (h : z.Ok) : z.lev ≤ 4 := by
  have := h.pre.2
  have := one_dep z.pre.dc
  omega
theorem Zp.Ok.add {z : Zp} (h : z.Ok) {y : Str} (hy : y.length ≠ 0) : (z.set (z.pre.addT y)).Ok :=
  h.set (wf_addT _ _ _ h.pre.1 hy (.inl rfl)) (by rw [dep_addT]; exact h.pre.2)
theorem Zp.add_raw (z : Zp) (y : Str) : (z.set (z.pre.addT y)).raw = z.raw + y.length := by
  have := z.raw_set (z.pre.addT y)
  rw [raw_addT] at this
  omega
/-- what a close makes -/
noncomputable def Zp.up : Zp → Zp
  | .root a d => .root a d
  | .down z p k a d => z.set (z.pre.app (.node p a k d .nil))
theorem Zp.Ok.up {z : Zp} (h : z.Ok) : z.up.Ok := by
  cases z with
  | root a d => exact h
  | down z p k a d =>
    obtain ⟨h1, h2, h3, h4⟩ := h
    refine h1.set ?_ ?_
    · rw [AD.app_dc]
      exact app_wf h2 h3 _ _ h1.pre.1
    · have := h1.pre.2
      have h0 := one_dep z.pre.dc
      have e : dep (AD.node p a k d .nil).dc = max (dep d.dc + 1) 1 := rfl
      rw [AD.app_dc, app_dep, e]
      omega
theorem Zp.up_raw (z : Zp) : z.up.raw = z.raw := by
  cases z with
  | root a d => rfl
  | down z p k a d =>
    have := z.raw_set (z.pre.app (.node p a k d .nil))
    have e : Mine.raw (AD.node p a k d .nil).dc = 20 + Mine.raw d.dc + 0 := rfl
    rw [AD.app_dc, app_raw, e] at this
    show (z.set _).raw = z.raw + 20 + Mine.raw d.dc
    omega
theorem its_node {vs : List Value} {is : List It} {p a : Addr} {k : Nat} {d d' : AD} (h : ItsAre vs (is ++ [.node p a k d])) : ItsAre vs (is ++ [.node p a k d']) := by
  induction is generalizing vs with
  | nil => cases h with | cons v i hi hs => exact .cons v _ hi hs
  | cons j r ih => cases h with | cons v i hi hs => exact .cons v _ hi (ih hs)
section
variable {W : Wd} {G : Gens} {env : Env} {loc loc' : Loc} {nw nw' : Ledger} {s : Shared} {A : Around} {E : Value → Shared → Prop} {N : Ledger}
theorem Sta.zup {z : Zp} {p a : Addr} {k : Nat} {d : AD} (S : Sta W G env loc ((Zp.down z p k a d).led ++ N) s) : Sta W G env loc ((Zp.down z p k a d).up.led ++ N) s := by
  have S1 := S.perm (nw' := (z.top, IsIts (z.pre.its ++ [.node p a k .nil])) :: ((a, IsIts d.its) :: (d.led ++ ((p, IsNd k a) :: (z.pre.led ++ (z.rest ++ N)))))) (by
    show List.Perm (((a, IsIts d.its) :: (d.led ++ ((p, IsNd k a) :: (z.top, IsIts (z.pre.its ++ [.node p a k .nil])) :: (z.pre.led ++ z.rest)))) ++ N) _
    classical (refine List.perm_iff_count.mpr (fun xx => ?_))
    simp only [List.count_append, List.count_cons, List.cons_append]
    omega)
  have S2 := S1.tell (c' := IsIts (z.pre.its ++ [.node p a k d])) .head fun o _ ho => let ⟨vs, hv, hl⟩ := ho; ⟨vs, its_node hv, hl⟩
  refine S2.perm ?_
  show List.Perm _ ((z.set (z.pre.app (.node p a k d .nil))).led ++ N)
  rw [Zp.led_set, AD.app_its, AD.app_led]
  show List.Perm _ (((z.top, IsIts (z.pre.its ++ [.node p a k d])) :: ((z.pre.led ++ ((p, IsNd k a) :: (a, IsIts d.its) :: (d.led ++ []))) ++ z.rest)) ++ N)
  classical (refine List.perm_iff_count.mpr (fun xx => ?_))
  simp only [List.count_append, List.count_cons, List.cons_append, List.count_nil]
  omega
/-- all that is open closed -/
theorem Sta.zroot : ∀ (n : Nat) {z : Zp} {N : Ledger} {s : Shared}, z.lev = n → z.Ok → Sta W G env loc (z.led ++ N) s → ∃ (a0 : Addr) (r : List Value) (D : AD), z.refs = .ref a0 :: r ∧ WfD true D.dc ∧ dep D.dc ≤ 4 ∧ Mine.raw D.dc = z.raw ∧ Sta W G env loc ((a0, IsIts D.its) :: (D.led ++ N)) s := by
  intro n
  induction n with
  | zero =>
    intro z N s hn
    cases z <;> simp [Zp.lev] at hn
  | succ n ih =>
    intro z N s hn h S
    cases z with
    | root a d => exact ⟨a, [], d, rfl, h.1, h.2, rfl, S.perm (by simp [Zp.led, Zp.rest, Zp.top, Zp.pre])⟩
    | down z p k a d =>
      have hn2 : (Zp.down z p k a d).up.lev = n := by
        show (z.set _).lev = n
        rw [Zp.lev_set]
        have : z.lev + 1 = n + 1 := hn
        omega
      obtain ⟨a0, r, D, e, h1, h2, h3, S2⟩ := ih hn2 h.up S.zup
      have e2 : (Zp.down z p k a d).up.refs = z.refs := Zp.refs_set _ _
      rw [e2] at e
      refine ⟨a0, r ++ [.ref a], D, ?_, h1, h2, h3.trans (Zp.up_raw _), S2⟩
      show z.refs ++ [.ref a] = _
      rw [e]; rfl
end
end
section
open PySem PySem.W PyProof.Rows PySem.W.X PySem.SeqAt
set_option maxRecDepth 100000
set_option linter.unusedVariables false
noncomputable def laid12 : List Str := ["<", ">", "&", "\"", "\r", "\n", "-->", "?>", "&amp;", "</d>", "\"></v>", " "]
theorem laid12_at {j : Nat} (h : j < 12) : ∃ x, laid12[j]? = some x ∧ x.length ≠ 0 ∧ x.length ≤ 6 := by
  have hl : laid12.length = 12 := rfl
  have hm : ∀ x ∈ laid12, x.length ≠ 0 ∧ x.length ≤ 6 := by decide +kernel
  exact ⟨laid12[j]'(by omega), List.getElem?_eq_getElem _, hm _ (List.getElem_mem _)⟩
noncomputable abbrev envTr (L : Addr) : Env := envOf "_law_tree" (fnScope st_l_tree) L 182 (.ref 181)
noncomputable abbrev locTr (scr la st : Addr) (vx vk vm vp : Option Value) : Loc := [("script", some (.ref scr)), ("laid", some (.ref la)), ("standing", some (.ref st)), ("x", vx), ("kind", vk), ("more", vm), ("piece", vp)]
noncomputable def trFor : Stmt := (fnBody st_l_tree).getD 2 (.Pass default)
noncomputable def ifBody1 : Stmt → List Stmt
  | .If _ b _ _ => b
  | _ => []
noncomputable def ifElse1 : Stmt → List Stmt
  | .If _ _ e _ => e
  | _ => []
section
variable {W : Wd} {G : Gens} {env : Env} {loc loc' : Loc} {nw nw' : Ledger} {s : Shared} {A : Around} {E : Value → Shared → Prop} {N : Ledger}
theorem nd_mem {p a : Addr} {k : Nat} {d : AD} : ∀ {D : AD}, It.node p a k d ∈ D.its → (p, IsNd k a) ∈ D.led
  | .nil, h => by cases h
  | .txt x r, h => by
    rcases List.mem_cons.mp h with h | h
    · cases h
    · exact nd_mem (D := r) h
  | .node q b j e r, h => by
    rcases List.mem_cons.mp h with h | h
    · injection h with h1 h2 h3 h4
      subst h1 h2 h3
      exact .head _
    · exact .tail _ (.tail _ (List.mem_append_right _ (nd_mem (D := r) h)))
noncomputable def txtBody : List Stmt := ifElse1 ((ifElse1 ((forBody1 trFor).getD 1 (.Pass default))).getD 0 (.Pass default))
theorem Sta.neEmpty {a b : Addr} {is : List It} {Q : Value → Shared → Prop} (S : Sta W G env loc nw s) (hu : A.units < cLine) (m : (a, IsIts is) ∈ nw) (mb : (b, IsLst []) ∈ nw) (h : Q (.bool (!is.isEmpty)) s) : wpAny (model W.prog W.w) A (compareOp .NotEq (.ref a) (.ref b)) Q E s := by
  obtain ⟨vs, nw1, ht, U1, U2, S1⟩ := S.openIt (upd_same m)
  have h1 := S1.isList U2.mem
  have h2 := S.isList mb
  have hl := ht.length
  cases is with
  | nil =>
    have e : vs = [] := List.length_eq_zero_iff.mp hl
    subst e
    exact RcNeAt.lists (e := fun _ => true) h1 h2 rfl hu (fun j hj _ => absurd hj (by simp)) _ _ _ _ h
  | cons i r =>
    refine RcNeAt.lists_lengths h1 h2 ?_ hu _ _ _ _ h
    simp at hl ⊢
    intro e
    subst e
    simp at hl
theorem ItsAre.unsnoc {vs : List Value} {is : List It} {i : It} (h : ItsAre vs (is ++ [i])) : ∃ vs' v, vs = vs' ++ [v] ∧ ItIs i v ∧ ItsAre vs' is := by
  induction is generalizing vs with
  | nil => cases h with | cons v i hi hs => cases hs; exact ⟨[], v, rfl, hi, .nil⟩
  | cons j r ih =>
    cases h with
    | cons v i hi hs =>
      obtain ⟨vs', v', e, h1, h2⟩ := ih hs
      exact ⟨v :: vs', v', by rw [e]; rfl, h1, .cons v j hi h2⟩
theorem Sta.lastIt {a : Addr} {is : List It} {i : It} {t : Tok} {Q : Value → Shared → Prop} (S : Sta W G env loc nw s) (m : (a, IsIts (is ++ [i])) ∈ nw) (h : ∀ v, ItIs i v → Q v s) : SubscriptOn (model W.prog W.w) A (.ref a) (.int (-1) t) Q E s := by
  obtain ⟨vs, nw1, ht, U1, U2, S1⟩ := S.openIt (upd_same m)
  obtain ⟨vs', v, rfl, hv, _⟩ := ht.unsnoc
  exact S1.sub_last U2.mem (by simp) (h v hv)
theorem Sta.popIt {a : Addr} {is : List It} {i : It} {Q : Value → Shared → Prop} (S : Sta W G env loc nw s) (U : Upd a (IsIts (is ++ [i])) (IsIts is) nw nw') (hz : is.length < sizeLine) (h : ∀ v s', ItIs i v → Sta W G env loc nw' s' → Q v s') :
    wpAny (model W.prog W.w) A (call (.builtin "list.pop") [.ref a]) Q E s := by
  obtain ⟨vs, nw1, ht, U1, U2, S1⟩ := S.openIt U
  obtain ⟨vs', v, rfl, hv, ht'⟩ := ht.unsnoc
  obtain ⟨nw2, U3, U4⟩ := U2.via2 (IsLst vs')
  exact S1.pop U3 (by rw [ht'.length]; exact hz) fun s' S2 => h v _ hv (S2.tell U4 fun o _ ho => ⟨_, ht', ho⟩)
set_option maxHeartbeats 8000000 in
/-- a text laid: the piece found -/
theorem trTail {L scr la st : Addr} {z : Zp} {n y : Int} {tn ty tp : Tok} {px : Str} {vk : Option Value} {Q : Flow → Shared → Prop} (I : IsC W) (hA : Aok 20 A) (hz : z.Ok) (hr : z.raw ≤ 3000) (h0 : px.length ≠ 0) (h6 : px.length ≤ 6)
    (S' : Sta W G (envTr L) (locTr scr la st (some (.int n tn)) vk (some (.int y ty)) (some (.str px tp))) ((st, IsLst z.refs) :: (la, IsTxts laid12) :: (z.led ++ N)) s)
    (k : ∀ (z' : Zp) vp e s', z'.Ok → z'.raw ≤ z.raw + 20 → Sta W G (envTr L) (locTr scr la st (some (.int n tn)) vk (some (.int y ty)) vp) ((st, IsLst z'.refs) :: (la, IsTxts laid12) :: (z'.led ++ ((e, IsLst []) :: N))) s' → Q .next s')
    (body : List Stmt) (hbd : body = txtBody) : wpAny (model W.prog W.w) A (execs (body.drop 1) (envTr L)) Q E s := by
  have hcl := I.cl
  subst hbd
  simp only [locTr, Zp.led, List.cons_append] at S'
  have hlast := z.refs_last
  have hok := hz.add h0
  have hra := z.add_raw px
  have hcn := cnt_raw z.pre.dc true hz.pre.1
  have hil : z.pre.its.length ≤ 3000 := by
    have := z.raw_pre
    rw [its_cnt]; omega
  refine execs_at rfl ?_
  refine wpAny_If ?_
  repeat walk_at "cw"
  refine Sta.sub_last S' (by walk_at "mem") hlast ?_
  repeat walk_at "cw"
  refine Sta.neEmpty S' (Nat.lt_of_le_of_lt (Nat.le_add_right _ _) hA.units) (is := z.pre.its) (by walk_at "mem") (by walk_at "mem") ?_
  obtain ⟨e0, rfl⟩ : ∃ e, e = a' := ⟨a', rfl⟩
  have hset := Zp.led_set z (z.pre.addT px)
  have hrs := Zp.refs_set z (z.pre.addT px)
  have hfin : ∀ vp s1, Sta W G (envTr L) (locTr scr la st (some (.int n tn)) vk (some (.int y ty)) vp) ((e0, IsLst []) :: (st, IsLst z.refs) :: (la, IsTxts laid12) :: (z.top, IsIts (z.pre.addT px).its) :: (z.pre.led ++ z.rest ++ N)) s1 → Q .next s1 := by
    intro vp s1 S1
    refine k (z.set (z.pre.addT px)) vp e0 s1 hok (by omega) ?_
    rw [hrs, hset, led_addT]
    exact S1.perm (by walk_at "perm")
  repeat walk_at "cw"
  rcases its_addT z.pre px with ⟨h1, h2⟩ | ⟨is, p, a, kd, d, h1, h2⟩ | ⟨is, x, h1, h2, h3⟩
  · rw [h1] at S' ⊢
    rw [h2] at hfin
    refine ite_fe rfl ?_
    repeat walk_at "cw"
    refine Sta.sub_last S' (by walk_at "mem") hlast ?_
    repeat walk_at "cw"
    refine Sta.getM_its S' (by walk_at "mem") F.slot_list_append F.type_list_append ?_
    repeat walk_at "cw"
    refine Sta.appendIt (i := .txt px) (is := []) S' (by walk_at "upd") ⟨_, rfl⟩ (by rw [sizeLine_eq]; decide) ?_
    clear S'; intro s' S'
    repeat walk_at "cw"
    exact hfin _ _ S'
  · rw [h1] at S' hil ⊢
    rw [h2, h1] at hfin
    refine ite_te (by simp) ?_
    have hnd : (p, IsNd kd a) ∈ z.pre.led ++ z.rest ++ N := List.mem_append_left _ (List.mem_append_left _ (nd_mem (d := d) (by rw [h1]; simp)))
    repeat walk_at "cw"
    refine Sta.builtin S' I.b_isinstance bo_isinstance (by kernel_rfl) ?_
    repeat walk_at "cw"
    refine Sta.sub_last S' (by walk_at "mem") hlast ?_
    repeat walk_at "cw"
    refine Sta.lastIt S' (by walk_at "mem") ?_
    intro v hv
    obtain rfl : v = .ref p := hv
    repeat walk_at "cw"
    refine Sta.builtin S' I.b_str bo_str (by kernel_rfl) ?_
    repeat walk_at "cw"
    refine Sta.isiNd S' (by walk_at "mem") ?_
    clear S'; intro s' S'
    repeat walk_at "cw"
    refine Sta.sub_last S' (by walk_at "mem") hlast ?_
    repeat walk_at "cw"
    refine Sta.getM_its S' (by walk_at "mem") F.slot_list_append F.type_list_append ?_
    repeat walk_at "cw"
    refine Sta.appendIt (i := .txt px) S' (by walk_at "upd") ⟨_, rfl⟩ (by rw [sizeLine_eq]; omega) ?_
    clear S'; intro s' S'
    repeat walk_at "cw"
    exact hfin _ _ S'
  · rw [h1] at S' hil ⊢
    rw [h2] at hfin
    have hxl : x.length ≤ 3000 := Nat.le_trans h3 (Nat.le_trans z.raw_pre hr)
    have hil2 : is.length ≤ 3000 := by rw [List.length_append] at hil; omega
    refine ite_te (by simp) ?_
    repeat walk_at "cw"
    refine Sta.builtin S' I.b_isinstance bo_isinstance (by kernel_rfl) ?_
    repeat walk_at "cw"
    refine Sta.sub_last S' (by walk_at "mem") hlast ?_
    repeat walk_at "cw"
    refine Sta.lastIt S' (by walk_at "mem") ?_
    intro v hv
    obtain ⟨tv, rfl⟩ : ∃ t, v = .str x t := hv
    repeat walk_at "cw"
    refine Sta.builtin S' I.b_str bo_str (by kernel_rfl) ?_
    repeat walk_at "cw"
    refine Sta.isiStr S' ?_
    repeat walk_at "cw"
    refine Sta.sub_last S' (by walk_at "mem") hlast ?_
    repeat walk_at "cw"
    refine Sta.getM_its S' (by walk_at "mem") F.slot_list_pop F.type_list_pop ?_
    repeat walk_at "cw"
    refine Sta.popIt S' (is := is) (i := .txt x) (by walk_at "upd") (by rw [sizeLine_eq]; omega) ?_
    clear S'; intro v s' hv S'
    obtain ⟨tv, rfl⟩ : ∃ t, v = .str x t := hv
    repeat walk_at "cw"
    refine Sta.sub_last S' (by walk_at "mem") hlast ?_
    repeat walk_at "cw"
    refine Sta.getM_its S' (by walk_at "mem") F.slot_list_append F.type_list_append ?_
    repeat walk_at "cw"
    refine Sta.appendIt (i := .txt (x ++ px)) S' (by walk_at "upd") ⟨_, rfl⟩ (by rw [sizeLine_eq]; omega) ?_
    clear S'; intro s' S'
    repeat walk_at "cw"
    exact hfin _ _ S'
set_option maxHeartbeats 8000000 in
/-- a text laid -/
theorem trText {L scr la st : Addr} {z : Zp} {n y : Int} {tn ty tk : Tok} {vk vp : Option Value} {Q : Flow → Shared → Prop} (I : IsC W) (hA : Aok 20 A) (hz : z.Ok) (hr : z.raw ≤ 3000)
    (S' : Sta W G (envTr L) (locTr scr la st (some (.int n tn)) vk (some (.int y ty)) vp) ((st, IsLst z.refs) :: (la, IsTxts laid12) :: (z.led ++ N)) s)
    (k : ∀ (z' : Zp) vp e s', z'.Ok → z'.raw ≤ z.raw + 20 → Sta W G (envTr L) (locTr scr la st (some (.int n tn)) vk (some (.int y ty)) vp) ((st, IsLst z'.refs) :: (la, IsTxts laid12) :: (z'.led ++ ((e, IsLst []) :: N))) s' → Q .next s')
    (body : List Stmt) (hbd : body = txtBody) : wpAny (model W.prog W.w) A (execs body (envTr L)) Q E s := by
  have hcl := I.cl
  subst hbd
  simp only [locTr] at S'
  refine execs_go ?_
  refine execs_at rfl ?_
  repeat walk_at "cw"
  refine ite_by (fun _ => ?_) (fun _ => ?_)
  · repeat walk_at "cw"
    have hb := fmod_bd (y.fdiv 2) 12 (by decide)
    obtain ⟨px, hpx, h0, h6⟩ := laid12_at (j := ((y.fdiv 2).fmod 12).toNat) (by omega)
    refine Sta.subT S' (by walk_at "mem") (j := ((y.fdiv 2).fmod 12).toNat) (by omega) (by omega) hpx ?_
    intro tp
    refine Sta.store S' (by walk_at "put") ?_
    clear S'; intro s' S'
    exact trTail I hA hz hr h0 h6 S' k _ rfl
  · repeat walk_at "cw"
    refine Sta.global S' I.g_l_sign (by kernel_rfl) ?_
    refine callW_1 (by rw [I.k]; kernel_rfl) ?_ (by kernel_rfl) (by kernel_rfl)
    repeat walk_at "cw"
    refine sign_ I (hA.le (by decide)) S' ?_
    clear S'; intro c tp s' S'
    refine Sta.store S' (by walk_at "put") ?_
    clear S'; intro s' S'
    exact trTail (px := ⟨#[c]⟩) I hA hz hr (by show 1 ≠ 0; decide) (by show 1 ≤ 6; decide) S' k _ rfl
end
end
section
open PySem PySem.W PyProof.Rows PySem.W.X PySem.SeqAt
set_option maxRecDepth 100000
set_option linter.unusedVariables false
noncomputable def trIf : Stmt := (forBody1 trFor).getD 1 (.Pass default)
section
variable {W : Wd} {G : Gens} {env : Env} {loc loc' : Loc} {nw nw' : Ledger} {s : Shared} {A : Around} {E : Value → Shared → Prop} {N : Ledger}
set_option maxHeartbeats 8000000 in
/-- a document begun -/
theorem trOpen {L scr la st : Addr} {z : Zp} {x kd y : Int} {tx tk ty : Tok} {vp : Option Value} {Q : Flow → Shared → Prop} (I : IsC W) (hA : Aok 20 A) (hz : z.Ok) (hr : z.raw ≤ 3000) (hl : z.lev < 4)
    (S' : Sta W G (envTr L) (locTr scr la st (some (.int x tx)) (some (.int kd tk)) (some (.int y ty)) vp) ((st, IsLst z.refs) :: (la, IsTxts laid12) :: (z.led ++ N)) s)
    (k : ∀ (z' : Zp) s', z'.Ok → z'.raw ≤ z.raw + 20 → Sta W G (envTr L) (locTr scr la st (some (.int x tx)) (some (.int kd tk)) (some (.int y ty)) vp) ((st, IsLst z'.refs) :: (la, IsTxts laid12) :: (z'.led ++ N)) s' → Q .next s')
    (body : List Stmt) (hbd : body = ifBody1 trIf) : wpAny (model W.prog W.w) A (execs body (envTr L)) Q E s := by
  have hcl := I.cl
  subst hbd
  simp only [locTr, Zp.led, List.cons_append] at S'
  have hlast := z.refs_last
  have hrl := z.refs_len
  have hrz : z.refs.length ≤ sizeLine := by rw [sizeLine_eq]; omega
  have hcn := cnt_raw z.pre.dc true hz.pre.1
  have hil : z.pre.its.length ≤ sizeLine := by
    have := z.raw_pre
    rw [its_cnt, sizeLine_eq]; omega
  refine execs_go ?_
  refine execs_at rfl ?_
  repeat walk_at "cw"
  refine Sta.sub_last S' (by walk_at "mem") hlast ?_
  repeat walk_at "cw"
  refine Sta.getM_its S' (by walk_at "mem") F.slot_list_append F.type_list_append ?_
  repeat walk_at "cw"
  rename_i e0 _
  have hk4 := fmod_bd y 4 (by decide)
  obtain ⟨k0, hk0⟩ : ∃ k0 : Nat, y.fmod 4 = (k0 : Int) := ⟨(y.fmod 4).toNat, by omega⟩
  rw [hk0] at S' hk4
  replace S' := S'.tell (c' := IsNd k0 e0) .head fun o _ ho => ⟨_, ho⟩
  replace S' := S'.tell (a := e0) (c' := IsIts AD.nil.its) (.tail .head) fun o _ ho => ⟨_, .nil, ho⟩
  refine Sta.appendIt (i := .node a' e0 k0 .nil) S' (by walk_at "upd") rfl hil ?_
  clear S'; intro s' S'
  repeat walk_at "cw"
  refine Sta.sub_last S' (by walk_at "mem") hlast ?_
  repeat walk_at "cw"
  refine Sta.lastIt S' (by walk_at "mem") ?_
  intro v hv
  obtain rfl : v = .ref a' := hv
  repeat walk_at "cw"
  refine Sta.subNd1 S' (by walk_at "mem") ?_
  repeat walk_at "cw"
  refine k (.down z a' k0 e0 .nil) _ ⟨hz, by omega, trivial, by show 1 + z.lev ≤ 4; omega⟩ (by show z.raw + 20 + 0 ≤ _; omega) (S'.perm ?_)
  show List.Perm _ ((st, IsLst (z.refs ++ [.ref e0])) :: (la, IsTxts laid12) :: (((e0, IsIts AD.nil.its) :: (AD.nil.led ++ ((a', IsNd k0 e0) :: (z.top, IsIts (z.pre.its ++ [.node a' e0 k0 .nil])) :: (z.pre.led ++ z.rest)))) ++ N))
  simp only [AD.led, List.nil_append]
  walk_at "perm"
set_option maxHeartbeats 8000000 in
/-- ended, or a text -/
theorem trElse {L scr la st : Addr} {z : Zp} {x kd y : Int} {tx tk ty : Tok} {vp : Option Value} {Q : Flow → Shared → Prop} (I : IsC W) (hA : Aok 20 A) (hz : z.Ok) (hr : z.raw ≤ 3000)
    (S' : Sta W G (envTr L) (locTr scr la st (some (.int x tx)) (some (.int kd tk)) (some (.int y ty)) vp) ((st, IsLst z.refs) :: (la, IsTxts laid12) :: (z.led ++ N)) s)
    (k : ∀ (z' : Zp) vp X s', z'.Ok → z'.raw ≤ z.raw + 20 → Sta W G (envTr L) (locTr scr la st (some (.int x tx)) (some (.int kd tk)) (some (.int y ty)) vp) ((st, IsLst z'.refs) :: (la, IsTxts laid12) :: (z'.led ++ (X ++ N))) s' → Q .next s')
    (body : List Stmt) (hbd : body = ifElse1 trIf) : wpAny (model W.prog W.w) A (execs body (envTr L)) Q E s := by
  have hcl := I.cl
  subst hbd
  simp only [locTr] at S'
  have hlev := hz.lev
  have hrl := z.refs_len
  have hrz : z.refs.length ≤ sizeLine := by rw [sizeLine_eq]; omega
  have htxt : ∀ {Q' : Flow → Shared → Prop} s1, (∀ s', Q .next s' → Q' .next s') → Sta W G (envTr L) (locTr scr la st (some (.int x tx)) (some (.int kd tk)) (some (.int y ty)) vp) ((st, IsLst z.refs) :: (la, IsTxts laid12) :: (z.led ++ N)) s1 → wpAny (model W.prog W.w) A (execs txtBody (envTr L)) Q' E s1 := fun s1 hQ S1 =>
    trText (tk := 0) I hA hz hr S1 (fun z' vp e s2 h1 h2 S2 => hQ _ (k z' vp [(e, IsLst [])] s2 h1 h2 S2)) _ rfl
  refine execs_go ?_
  refine execs_at rfl ?_
  refine wpAny_If ?_
  repeat walk_at "cw"
  refine ite_by (fun _ => ?_) (fun _ => ?_)
  · repeat walk_at "cw"
    refine Sta.builtin S' I.b_len bo_len (by kernel_rfl) ?_
    repeat walk_at "cw"
    refine S'.len (by walk_at "mem") hrz ?_
    clear S'; intro tl s' S'
    repeat walk_at "cw"
    refine ite_by (fun hgt => ?_) (fun _ => ?_)
    · have hgt := of_decide_eq_true hgt
      refine isTrue_and_nil (ite_t ?_)
      repeat walk_at "cw"
      cases z with
      | root a d =>
        have : (Zp.root a d).refs.length = 1 := rfl
        omega
      | down z p k1 a d =>
        have hrz2 : z.refs.length < sizeLine := by
          have : (Zp.down z p k1 a d).refs.length = z.refs.length + 1 := by show (z.refs ++ [_]).length = _; simp
          omega
        have hur : (Zp.down z p k1 a d).up.refs = z.refs := Zp.refs_set _ _
        refine Sta.pop (xs := z.refs) (v := .ref a) S' (by show Upd st (IsLst (z.refs ++ [.ref a])) _ ((st, IsLst (z.refs ++ [.ref a])) :: _) _; exact .head) hrz2 ?_
        clear S'; intro s' S'
        have S2 := Sta.zup (N := (st, IsLst z.refs) :: (la, IsTxts laid12) :: N) (S'.perm (by walk_at "perm"))
        refine wpAny_execs_nil ?_
        refine wpAny_execs_nil ?_
        refine k (Zp.down z p k1 a d).up vp [] _ hz.up (by rw [Zp.up_raw]; omega) ?_
        rw [hur]
        exact S2.perm (by walk_at "perm")
    · refine ite_f ?_
      exact htxt _ (fun s' h => wpAny_execs_nil h) S'
  · refine ite_f ?_
    exact htxt _ (fun s' h => wpAny_execs_nil h) S'
set_option maxHeartbeats 8000000 in
/-- a turn of _law_tree's loop -/
theorem turnT {L scr la st : Addr} {z : Zp} {x : Int} {tx : Tok} {vk vm vp : Option Value} {Q : Flow → Shared → Prop} (I : IsC W) (hA : Aok 20 A) (hz : z.Ok) (hr : z.raw ≤ 3000)
    (S' : Sta W G (envTr L) (locTr scr la st (some (.int x tx)) vk vm vp) ((st, IsLst z.refs) :: (la, IsTxts laid12) :: (z.led ++ N)) s)
    (k : ∀ (z' : Zp) vk vm vp X s', z'.Ok → z'.raw ≤ z.raw + 20 → Sta W G (envTr L) (locTr scr la st (some (.int x tx)) vk vm vp) ((st, IsLst z'.refs) :: (la, IsTxts laid12) :: (z'.led ++ (X ++ N))) s' → Q .next s')
    (body : List Stmt) (hbd : body = forBody1 trFor) : wpAny (model W.prog W.w) A (execs body (envTr L)) Q E s := by
  have hcl := I.cl
  subst hbd
  simp only [locTr] at S'
  have hlev := hz.lev
  have hrl := z.refs_len
  have hrz : z.refs.length ≤ sizeLine := by rw [sizeLine_eq]; omega
  refine execs_go ?_
  refine execs_at rfl ?_
  refine Assign_Tuple_swapped (names := ["kind", "more"]) ?_ (by kernel_rfl) (by kernel_rfl)
  repeat walk_at "cw"
  refine Sta.unpackI S' hA.handled (by walk_at "mem") rfl ?_
  clear S'; intro s' S'
  replace S' := S'.sub (List.sublist_cons_self _ _)
  refine assignInOrder_cons ?_
  refine bindName_ ?_
  repeat walk_at "cw"
  refine assignInOrder_cons ?_
  refine bindName_ ?_
  repeat walk_at "cw"
  refine assignInOrder_nil ?_
  refine execs_at rfl ?_
  refine wpAny_If ?_
  repeat walk_at "cw"
  refine ite_by (fun _ => ?_) (fun _ => ?_)
  · repeat walk_at "cw"
    refine Sta.builtin S' I.b_len bo_len (by kernel_rfl) ?_
    repeat walk_at "cw"
    refine S'.len (by walk_at "mem") hrz ?_
    clear S'; intro tl s' S'
    repeat walk_at "cw"
    refine ite_by (fun hgt => ?_) (fun _ => ?_)
    · have hgt := of_decide_eq_true hgt
      refine isTrue_and_nil (ite_t ?_)
      refine trOpen I hA hz hr (by omega) S' ?_ _ rfl
      intro z' s2 h1 h2 S2
      exact wpAny_execs_nil (k z' _ _ _ [] s2 h1 h2 S2)
    · refine ite_f ?_
      refine trElse I hA hz hr S' ?_ _ rfl
      intro z' vp X s2 h1 h2 S2
      exact wpAny_execs_nil (k z' _ _ _ X s2 h1 h2 S2)
  · refine ite_f ?_
    refine trElse I hA hz hr S' ?_ _ rfl
    intro z' vp X s2 h1 h2 S2
    exact wpAny_execs_nil (k z' _ _ _ X s2 h1 h2 S2)
end
end
section
open PySem PySem.W PyProof.Rows PySem.W.X PySem.SeqAt
set_option maxRecDepth 100000
set_option linter.unusedVariables false
theorem yields_ints {W : Wd} {sh : Ledger} {it : Addr} {vs : List Value} {ns : List Int} {own : Ledger} {og : Gens} (h : IntsAre vs ns) : Yields W sh it vs own og → YieldsR W sh it (fun (i : Int) v => ∃ t, v = .int i t) ns own og := by
  induction h generalizing own og with
  | nil => exact fun H => H
  | cons n t h ih => exact fun H => ⟨H.1, fun A R GR s Q E hA S hQ => H.2 A R GR s Q E hA S fun own' og' s' S' H' => hQ _ own' og' s' ⟨t, rfl⟩ S' (ih H')⟩
inductive TrI (W : Wd) (G : Gens) (scr la st : Addr) (N : Ledger) (rest : List Int) (loc' : Loc) (nw1 : Ledger) (G' : Gens) : Prop
  | mk (z : Zp) (vx vk vm vp : Option Value) (X : Ledger) (hG : G' = G) (hz : z.Ok) (hr : z.raw + 20 * rest.length ≤ 3000) (hloc : loc' = locTr scr la st vx vk vm vp) (hnw : nw1 = (st, IsLst z.refs) :: (la, IsTxts laid12) :: (z.led ++ (X ++ N))) : TrI W G scr la st N rest loc' nw1 G'
theorem Sta.addLB {W : Wd} {G : Gens} {env : Env} {loc : Loc} {nw : Ledger} {s : Shared} {A : Around} {E : Value → Shared → Prop} {l b : Addr} {xs ys : List Value} {Q : Value → Shared → Prop} (S : Sta W G env loc nw s) (m1 : (l, IsLst xs) ∈ nw) (m2 : W.B.IsList b ys.toArray) (hz : xs.length + ys.length ≤ sizeLine) (h : ∀ a s', Sta W G env loc ((a, IsLst (xs ++ ys)) :: nw) s' → Q (.ref a) s') :
    wpAny (model W.prog W.w) A (binaryOp .Add (.ref l) (.ref b)) Q E s := by
  obtain ⟨n1, h1⟩ := S.isL m1
  obtain ⟨⟨c2, d2, t2, sl2⟩, h2, hc2, n2, hd2⟩ := m2
  have h2 := S.led.keep _ _ h2
  simp only at hc2 hd2
  subst hc2 hd2
  have e : xs.toArray ++ ys.toArray = (xs ++ ys).toArray := by simp
  refine concat_meets ⟨_, h1, rfl⟩ ⟨_, h2, rfl⟩ noFill_list_add seq_list_add PySem.F.slot_list_add PySem.F.entry_list_add (PySem.F.args_list_add_2 _ _) (list_addW l b xs.toArray ys.toArray n1 n2 none d2 #[] sl2 (by simpa using hz)) ⟨h1, h2, ?_⟩
  rw [e]
  exact h _ _ (S.new (c := IsLst (xs ++ ys)) rfl ⟨0, rfl⟩ s.toks)
noncomputable def st10 : Stmt := (fnBody st_l_tree).getD 0 (.Pass default)
theorem st10_at : (fnBody st_l_tree)[0]? = some st10 := by kernel_rfl
theorem st10_as : st10 = .Assign [.Name "laid" (asP1 st10)] (.List (strEs laid12 ((lstE st10).map cPos)) (asP2 st10)) (asP3 st10) := by kernel_rfl
theorem st10_len : ((lstE st10).map cPos).length = laid12.length := by kernel_rfl
section
variable {W : Wd} {G : Gens} {env : Env} {loc loc' : Loc} {nw nw' : Ledger} {s : Shared} {A : Around} {E : Value → Shared → Prop} {N : Ledger}
set_option maxHeartbeats 8000000 in
theorem trLoop_ {p : Pos} {L scr la st it lst : Addr} {z : Zp} {vs : List Value} {ns : List Int} {R : Result → Shared → Prop} (I : IsC W) (hA : Aok 20 A) (hi : IntsAre vs ns) (hz : z.Ok) (hr : z.raw + 20 * ns.length ≤ 3000)
    (S : Sta W G (envTr L) (locTr scr la st none none none none) ((it, IsLI lst 0) :: (lst, IsLst vs) :: (st, IsLst z.refs) :: (la, IsTxts laid12) :: (z.led ++ N)) s)
    (k : ∀ (z : Zp) vx vk vm vp X s', z.Ok → z.raw ≤ 3000 → Sta W G (envTr L) (locTr scr la st vx vk vm vp) ((st, IsLst z.refs) :: (la, IsTxts laid12) :: (z.led ++ (X ++ N))) s' → R (.ok .next) s') (body : List Stmt) (hbd : body = forBody1 trFor) :
    codeAny (model W.prog W.w) A (.forLoop (.Name "x" p) (.ref it) body [] (envTr L)) R s := by
  have S2 := S.perm (nw' := ((st, IsLst z.refs) :: (la, IsTxts laid12) :: (z.led ++ ([] ++ N))) ++ ([] ++ [(it, IsLI lst 0), (lst, IsLst vs)])) (by walk_at "perm")
  clear S
  refine for_y (sh := []) (P := fun (i : Int) v => ∃ t, v = .int i t) (hA.le (by decide)) (G := G) (og := []) (own := [(it, IsLI lst 0), (lst, IsLst vs)])
    (fun rest loc' nw1 G' => TrI W G scr la st N rest loc' nw1 G') ?_ ?_ (by rw [List.append_nil]; exact S2) (yields_ints hi (LY.yields (ly_list (sh := []) (xs := vs) (own₀ := [(lst, IsLst vs)]) (.head _) vs 0 rfl))) ⟨z, none, none, none, none, [], rfl, hz, hr, rfl, rfl⟩
  · intro x v rest tl tg loc' nw1 G' s1 hx S1 hJ
    obtain ⟨z, vx, vk, vm, vp, X, rfl, hz, hr, rfl, rfl⟩ := hJ
    obtain ⟨t1, rfl⟩ := hx
    rw [List.length_cons] at hr
    refine wpAny_assign_Name (S1.store (by simp only [locTr]; walk_at "put") fun s' S' => ?_)
    refine turnT (N := X ++ (N ++ ([] ++ tl))) I hA hz (by omega) (S'.perm (by walk_at "perm")) ?_ _ hbd
    intro z' vk vm vp X' s2 h1 h2 S3
    exact ⟨_, (st, IsLst z'.refs) :: (la, IsTxts laid12) :: (z'.led ++ ((X' ++ X) ++ N)), G', S3.perm (by walk_at "perm"), ⟨z', _, vk, vm, vp, X' ++ X, rfl, h1, by omega, rfl, rfl⟩⟩
  · intro loc' nw1 G' s1 S1 hJ
    obtain ⟨z, vx, vk, vm, vp, X, rfl, hz, hr, rfl, rfl⟩ := hJ
    rw [List.append_nil] at S1
    exact k z vx vk vm vp X s1 hz (by omega) S1
set_option maxHeartbeats 8000000 in
theorem tree_ {scr : Addr} {vs : List Value} {ns : List Int} {Q : Value → Shared → Prop} (I : IsC W) (hA : Aok 22 A) (hB : W.B.IsList scr vs.toArray) (hi : IntsAre vs ns) (hn : ns.length ≤ 63) (S : Sta W G env loc N s)
    (k : ∀ a0 (D : AD) X s', WfD true D.dc → dep D.dc ≤ 4 → raw D.dc ≤ 3000 → Sta W G env loc ((a0, IsIts D.its) :: (D.led ++ (X ++ N))) s' → Q (.ref a0) s') :
    wpAny (model W.prog W.w) A (call (.ref 182) [.ref scr]) Q E s := by
  refine S.call_fn (binds := [("script", .ref scr)]) ["laid", "standing", "x", "kind", "more", "piece"] I.f_l_tree hA.room (fun _ _ _ _ _ => BindsTo.of_eq (by kernel_rfl)) (by kernel_rfl) ?_
  intro L s' S'
  have hA' := hA.deeper (env := envTr L)
  simp only [mkLoc, List.map_cons, List.map_nil, List.cons_append, List.nil_append] at S'
  have hcl := I.cl
  refine execs_go ?_
  with_reducible refine execs_at (st := st10) st10_at ?_
  with_reducible refine Sta.assignStrs (y := "laid") (xs := laid12) S' st10_as st10_len (by rw [sizeLine_eq]; decide) ?_
  clear S'; intro la vals s' hv0 S'
  refine Sta.store S' (by walk_at "put") ?_
  clear S'; intro s' S'
  replace S' := S'.tell (c' := IsTxts laid12) .head fun o _ ho => ⟨_, hv0, ho⟩
  repeat walk_at "cw"
  refine wpAny_For ?_ (by intro _; kernel_rfl)
  repeat walk_at "cw"
  rename_i a0 _ st _ _ t6 _ t27 _ _
  obtain ⟨t2, rfl⟩ : ∃ o, o = t' := ⟨t', rfl⟩
  have hvl := Mine.IntsAre.length' hi
  refine Sta.addLB S' (by walk_at "mem") hB (by rw [sizeLine_eq]; simp; omega) ?_
  clear S'; intro lst s' S'
  refine S'.iterList (by walk_at "mem") ?_
  clear S'; intro it s' S'
  have hi2 : IntsAre ([.int 6 t6, .int 27 t27, .int 2 t2] ++ vs) ([6, 27, 2] ++ ns) := .cons _ _ (.cons _ _ (.cons _ _ hi))
  replace S' := S'.tell (a := a0) (c' := IsIts []) (by walk_at "upd") fun o _ ho => ⟨_, .nil, ho⟩
  replace S' := S'.perm (nw' := (it, IsLI lst 0) :: (lst, IsLst ([.int 6 t6, .int 27 t27, .int 2 t2] ++ vs)) :: (st, IsLst (Zp.root a0 .nil).refs) :: (la, IsTxts laid12) :: ((Zp.root a0 .nil).led ++ ((a', IsLst [.int 6 t6, .int 27 t27, .int 2 t2]) :: (env.locals, IsNs loc) :: N))) (by
    show List.Perm _ ((it, IsLI lst 0) :: (lst, IsLst ([.int 6 t6, .int 27 t27, .int 2 t2] ++ vs)) :: (st, IsLst [.ref a0]) :: (la, IsTxts laid12) :: (a0, IsIts []) :: (a', IsLst [.int 6 t6, .int 27 t27, .int 2 t2]) :: (env.locals, IsNs loc) :: N)
    walk_at "perm")
  refine trLoop_ (z := .root a0 .nil) I (hA'.le (by decide)) hi2 ⟨trivial, by show 1 ≤ 4; decide⟩ (by show 0 + 20 * ([6, 27, 2] ++ ns).length ≤ 3000; simp; omega) S' ?_ _ rfl
  clear S'; intro z vx vk vm vp X s' hz hr S'
  obtain ⟨a1, r, D, hrf, h1, h2, h3, S2⟩ := Sta.zroot z.lev rfl hz (S'.perm (nw' := z.led ++ ((st, IsLst z.refs) :: (la, IsTxts laid12) :: (X ++ ((a', IsLst [.int 6 t6, .int 27 t27, .int 2 t2]) :: (env.locals, IsNs loc) :: N)))) (by walk_at "perm"))
  clear S'
  have S' := S2
  clear S2
  have hst : (st, IsLst z.refs) ∈ D.led ++ ((st, IsLst z.refs) :: (la, IsTxts laid12) :: (X ++ ((a', IsLst [.int 6 t6, .int 27 t27, .int 2 t2]) :: (env.locals, IsNs loc) :: N))) := List.mem_append_right _ (.head _)
  simp only [locTr] at S'
  repeat walk_at "cw"
  refine Sta.sub_list S' (by walk_at "mem") (by decide) (by decide) (by rw [hrf]; rfl) ?_
  repeat walk_at "cw"
  exact k a1 D (X ++ [(st, IsLst z.refs), (la, IsTxts laid12), (a', IsLst [.int 6 t6, .int 27 t27, .int 2 t2])]) _ h1 h2 (by omega) (Sta.back (S'.perm (nw' := (env.locals, IsNs loc) :: (a1, IsIts D.its) :: (D.led ++ (X ++ [(st, IsLst z.refs), (la, IsTxts laid12), (a', IsLst [.int 6 t6, .int 27 t27, .int 2 t2])] ++ N))) (by walk_at "perm")) S.eok)
end
end
section
open PySem PySem.W PyProof.Rows PySem.W.X PySem.SeqAt
set_option maxRecDepth 100000
set_option linter.unusedVariables false
/-- a ledger's things stand in the heap -/
noncomputable def Stands (s : Shared) (L : Ledger) : Prop := ∀ p ∈ L, ∃ o, s.heap.get? p.1 = some o ∧ p.2 o
theorem Stands.list {s : Shared} {L : Ledger} {a : Addr} {is : List It} (h : Stands s L) (m : (a, IsIts is) ∈ L) : ∃ vs, ItsAre vs is ∧ s.heap.IsList a vs.toArray := by
  obtain ⟨o, ho, vs, hv, n, rfl⟩ := h _ m
  exact ⟨vs, hv, _, ho, rfl, n, rfl⟩
theorem Stands.tup {s : Shared} {L : Ledger} {p a : Addr} {k : Nat} (h : Stands s L) (m : (p, IsNd k a) ∈ L) : ∃ t, s.heap.IsTuple p #[.int (k : Int) t, .ref a] := by
  obtain ⟨o, ho, t, n, rfl⟩ := h _ m
  exact ⟨t, _, ho, rfl, n, rfl⟩
/-- two trees of one document are equal -/
theorem eqIts {s : Shared} : ∀ (D E : AD), D.dc = E.dc → Stands s D.led → Stands s E.led → ∀ (vs ws : List Value), ItsAre vs D.its → ItsAre ws E.its → ∀ A : Around, A.units + 4 * dep D.dc < cLine → ∀ j (h1 : j < vs.length) (h2 : j < ws.length), EqAt A s vs[j] ws[j] true
  | .nil, E, e, hD, hE, vs, ws, hv, hw, A, hu, j, h1, h2 => by
    cases hv
    exact absurd h1 (by simp)
  | .txt x r, .nil, e, _, _, _, _, _, _, _, _, _, _, _ => by cases e
  | .txt x r, .node q b i d r2, e, _, _, _, _, _, _, _, _, _, _, _ => by cases e
  | .node p a k d r, .nil, e, _, _, _, _, _, _, _, _, _, _, _ => by cases e
  | .node p a k d r, .txt y r2, e, _, _, _, _, _, _, _, _, _, _, _ => by cases e
  | .txt x r, .txt y r2, e, hD, hE, vs, ws, hv, hw, A, hu, j, h1, h2 => by
    have e : Dc.txt x r.dc = Dc.txt y r2.dc := e
    injection e with e1 e2
    subst e1
    cases hv with
    | cons v i hi hv =>
      cases hw with
      | cons w i2 hi2 hw =>
        cases j with
        | zero =>
          obtain ⟨t, rfl⟩ := hi
          obtain ⟨u, rfl⟩ := hi2
          have := eqAt_str (A := A) (s := s) (x := x) (y := x) (t := t) (u := u)
          rwa [decide_eq_true rfl] at this
        | succ j => exact eqIts r r2 e2 hD hE _ _ hv hw A hu j (by simpa using h1) (by simpa using h2)
  | .node p a k d r, .node q b i d2 r2, e, hD, hE, vs, ws, hv, hw, A, hu, j, h1, h2 => by
    have e : Dc.node k d.dc r.dc = Dc.node i d2.dc r2.dc := e
    injection e with e1 e2 e3
    subst e1
    have hu1 : A.units + 4 * (dep d.dc + 1) < cLine := Nat.lt_of_le_of_lt (Nat.add_le_add_left (Nat.mul_le_mul_left _ (Nat.le_max_left _ _)) _) hu
    have hu2 : A.units + 4 * dep r.dc < cLine := Nat.lt_of_le_of_lt (Nat.add_le_add_left (Nat.mul_le_mul_left _ (Nat.le_max_right _ _)) _) hu
    have hD1 : Stands s d.led := fun p hp => hD p (.tail _ (.tail _ (List.mem_append_left _ hp)))
    have hD2 : Stands s r.led := fun p hp => hD p (.tail _ (.tail _ (List.mem_append_right _ hp)))
    have hE1 : Stands s d2.led := fun p hp => hE p (.tail _ (.tail _ (List.mem_append_left _ hp)))
    have hE2 : Stands s r2.led := fun p hp => hE p (.tail _ (.tail _ (List.mem_append_right _ hp)))
    cases hv with
    | cons v i hi hv =>
      cases hw with
      | cons w i2 hi2 hw =>
        cases j with
        | zero =>
          obtain rfl : v = .ref p := hi
          obtain rfl : w = .ref q := hi2
          obtain ⟨t, ht⟩ := hD.tup (.head _)
          obtain ⟨u, hu'⟩ := hE.tup (.head _)
          obtain ⟨va, hva, hla⟩ := hD.list (.tail _ (.head _))
          obtain ⟨vb, hvb, hlb⟩ := hE.list (.tail _ (.head _))
          have hL : RcAt A.in1 s (.ref a) (.ref b) true := eqLists hla hlb (by rw [hva.length, hvb.length, its_cnt, its_cnt, e2]) (by show A.units + 1 < _; omega) fun j h1 h2 =>
            eqIts d d2 e2 hD1 hE1 va vb hva hvb A.in1.in1 (by show A.units + 1 + 1 + 4 * dep d.dc < _; omega) j h1 h2
          have hT := RcAt.tuples (e := fun _ => true) ht hu' (A := A) (by omega) (fun j h1 h2 => by
            match j, h1, h2 with
            | 0, _, _ =>
              have := EqAt.int_int (A := A.in1) (s := s) (k : Int) t (k : Int) u
              simpa using this
            | 1, _, _ => exact eqOf hL)
          exact eqOf (show RcAt A s (.ref p) (.ref q) true from hT)
        | succ j => exact eqIts r r2 e3 hD2 hE2 _ _ hv hw A hu2 j (by simpa using h1) (by simpa using h2)
section
variable {W : Wd} {G : Gens} {env : Env} {loc loc' : Loc} {nw nw' : Ledger} {s : Shared} {A : Around} {E : Value → Shared → Prop} {N : Ledger}
noncomputable abbrev envLw (L : Addr) : Env := envOf "law" (fnScope st_law) L 208 (.ref 207)
set_option maxHeartbeats 8000000 in
theorem law1 {scr : Addr} {vs : List Value} {ns : List Int} (I : IsC W) (C : CodeHd W.B 125 123) (S : St0 W [] (tabLed [(125, 123)]) s) (hB : W.B.IsList scr vs.toArray) (hi : IntsAre vs ns) (hn : ns.length ≤ 63) (hA : Aok 40 A) :
    codeAny (model W.prog W.w) A (.call (.ref 208) ⟨[.ref scr], []⟩) (fun r s' => r = .ok (.ret (.bool true)) ∧ ∃ G nw' c?, St0 W G (nw' ++ Tabs 123 lamP lamQ1 c?) s') s := by
  refine S.code (binds := [("script", .ref scr)]) ["tree"] I.f_law hA.room (fun _ _ _ _ _ => BindsTo.of_eq (by kernel_rfl)) (by kernel_rfl) ?_
  intro L s' S'
  have hA' := hA.deeper (env := envLw L)
  simp only [mkLoc, List.map_cons, List.map_nil, List.cons_append, List.nil_append, tabLed] at S'
  have hcl := I.cl
  refine execs_go ?_
  refine execs_at rfl ?_
  refine Assign_plain ?_ (by kernel_rfl) (by kernel_rfl)
  refine Call_ ?_ (by kernel_rfl)
  refine Sta.global S' I.g_l_tree (by kernel_rfl) ?_
  refine callW_1 (by rw [I.k]; kernel_rfl) ?_ (by kernel_rfl) (by kernel_rfl)
  repeat walk_at "cw"
  refine tree_ I (hA'.le (by decide)) hB hi hn S' ?_
  clear S'; intro a0 D X s' hw hd hr S'
  repeat walk_at "cw"
  refine Sta.global S' I.g_l_read (by kernel_rfl) ?_
  refine callW_1 (by rw [I.k]; kernel_rfl) ?_ (by kernel_rfl) (by kernel_rfl)
  repeat walk_at "cw"
  refine Sta.global S' I.g_l_written (by kernel_rfl) ?_
  refine callW_1 (by rw [I.k]; kernel_rfl) ?_ (by kernel_rfl) (by kernel_rfl)
  repeat walk_at "cw"
  have hWr : WrOk W 4 := @written_ W I C 4 (by decide)
  have hRd : RdOk W 4 := @read_ W I 4 (by decide)
  refine hWr D a0 none hd hw hr (hA'.le (by decide)) (S'.perm (nw' := (a0, IsIts D.its) :: (D.led ++ (Tabs 123 lamP lamQ1 none ++ X))) (by simp only [Tabs]; walk_at "perm")) ?_
  clear S'; intro t1 c? s' S'
  repeat walk_at "cw"
  refine hRd D.dc t1 hd hw hr (hA'.le (by decide)) S' ?_
  clear S'; intro b D2 s' hD2 S'
  repeat walk_at "cw"
  have hS : Stands s' ((b, IsIts D2.its) :: (D2.led ++ ((a0, IsIts D.its) :: (D.led ++ (Tabs 123 lamP lamQ1 c? ++ X))))) := fun p hp => S'.get (a := p.1) (c := p.2) hp
  have hS1 : Stands s' D2.led := fun p hp => hS p (.tail _ (List.mem_append_left _ hp))
  have hS2 : Stands s' D.led := fun p hp => hS p (.tail _ (List.mem_append_right _ (.tail _ (List.mem_append_left _ hp))))
  obtain ⟨va, hva, hla⟩ := hS.list (.head _)
  obtain ⟨vb, hvb, hlb⟩ := hS.list (a := a0) (is := D.its) (.tail _ (List.mem_append_right _ (.head _)))
  have hu := hA'.units
  refine Sta.eqOp S' (eqLists hla hlb (by rw [hva.length, hvb.length, its_cnt, its_cnt, hD2]) (by show (A.deeper (envLw L)).units < cLine; omega) fun j h1 h2 => eqIts D2 D hD2 hS1 hS2 va vb hva hvb _ (by
    rw [hD2]
    show (A.deeper (envLw L)).units + 1 + 4 * dep D.dc < cLine
    omega) j h1 h2) ?_
  repeat walk_at "cw"
  exact ⟨rfl, _, (_, IsNs _) :: ((b, IsIts D2.its) :: (D2.led ++ ((a0, IsIts D.its) :: (D.led ++ X)))), c?, (S'.perm (nw' := ((b, IsIts D2.its) :: (D2.led ++ ((a0, IsIts D.its) :: (D.led ++ X)))) ++ Tabs 123 lamP lamQ1 c?) (by walk_at "perm")).st0 (pre := []) rfl⟩
end
end
end Mine
end
section
open PySem PySem.W PyProof.Rows PySem.W.X PySem.SeqAt
set_option maxRecDepth 100000
namespace Mine
theorem aok_caller : Aok 60 callerA := ⟨rfl, by decide +kernel, by decide +kernel⟩
theorem grown_of {W : Wd} {G : Gens} {nw : Ledger} {s : Shared} {P : Addr} {ps : List Value} (S : St0 W G nw s) (m : (P, IsTab ps) ∈ nw) : GrownAt P s.heap := by
  obtain ⟨_, o, ho, rfl⟩ := S.led.own _ m
  exact ⟨_, ho⟩
end Mine
set_option maxHeartbeats 8000000 in
theorem PySem.Challenge.cw_dn0284_01_holds : PySem.Challenge.rw_dn0284_01.Holds := by
  refine PySem.W.holds_law Mine.ws (Function.const _ (Mine.hd ?_))
  k_fill
  intro w s₀ s₁ mg mb G Y fa o pm cd doc dV kV ho hd hcd hD hmg hg args vals as hpre hlay hrd hwl hlo
  have KX := km_in_of Y
  km_tabs Y
  have X := (Ground.X G).1
  have V := (Ground.X G).2
  refine Ground.open G ?_
  intro T B D TE TW
  try (refine guard_noD D (by decide +kernel) ?_; clear D)
  km_lay T hmg ho hd cd
  wrow_args hpre hlay hrd hwl hlo
  first | refine callC_kw (enter_call ?_) | refine enter_call ?_
  w_top on
  refine Mine.kn_postG hT9 (fun _ => rfl) (by wrow_post) ?_
  have hfa : fa = 208 := by
    have e1 : mg "law" = some (.ref 208) := mg_of KX T.g (by kernel_rfl)
    have e2 : some (Value.ref fa) = some (.ref 208) := hmg.symm.trans e1
    injection e2 with e2
    injection e2
  subst hfa
  let W : Mine.Wd := ⟨PySem.Challenge.rw_dn0284_01.row.prog, w, Mine.KK w.params, ghostOf s₁.heap [(125, 123)], s₁.os⟩
  have S0 : Mine.St0 W [] (Mine.tabLed [(125, 123)]) s₁ := Mine.sta0_of (W := W) hT9 (by decide) KX (by kernel_rfl) T hg rfl rfl
  have C := ghost_code hT9
  rename s₁.heap.IsList _ _ => hL
  rename IntsAre _ _ => hI
  have hL2 := ghost_list hT9 hL
  refine codeAny_mono (Mine.law1 (W := W) ⟨rfl⟩ C.1 S0 hL2 hI (by omega) (Mine.aok_caller.le (by omega))) fun r s' h => ?_
  obtain ⟨rfl, G', nw', c?, S'⟩ := h
  refine ⟨rfl, S'.led.keep, S'.os, S'.bare, ?_, trivial⟩
  cases c? with
  | none => exact Mine.grown_of S' (List.mem_append_right _ (.head _))
  | some c => exact Mine.grown_of S' (List.mem_append_right _ (.head _))
end
