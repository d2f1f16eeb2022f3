import PyProof.Rows.All
import Wide.All
import OpenK.AllK
import Wide.FinOn
import PySem.Challenge.RW_dn0284_07
set_option Elab.async false
section
open PySem PySem.W PyProof.Rows
set_option maxRecDepth 100000
namespace Mine

/-- a thing that may be said of an object -/
abbrev Cell := Obj → Prop
abbrev Ledger := List (Addr × Cell)
abbrev Loc := List (Str × Option Value)

structure Led (B : Heap) (nw : Ledger) (h : Heap) : Prop where
  keep : ∀ b o, B.get? b = some o → h.get? b = some o
  own : ∀ p ∈ nw, B.get? p.1 = none ∧ ∃ o, h.get? p.1 = some o ∧ p.2 o
  nodup : (nw.map Prod.fst).Nodup

def lk (loc : Loc) (x : Str) : Option Value := (loc.lookup x).join
def IsNs (loc : Loc) : Cell := fun o => (loc.map Prod.fst).Nodup ∧ ∃ es ep, o.data = .dict es ep ∧ StrKeys es ∧ ∀ name, nsFind es name = lk loc name
def IsLst (xs : List Value) : Cell := fun o => ∃ n, o = { cls := .type "list", data := .seq xs.toArray n }
def IsTpl (xs : List Value) : Cell := fun o => ∃ n, o = { cls := .type "tuple", data := .seq xs.toArray n }
def IsObj (o₀ : Obj) : Cell := fun o => o = o₀

/-- one entry turned -/
inductive Upd (a : Addr) (c c' : Cell) : Ledger → Ledger → Prop
  | head {r} : Upd a c c' ((a, c) :: r) ((a, c') :: r)
  | tail {p r r'} : Upd a c c' r r' → Upd a c c' (p :: r) (p :: r')
inductive Put (x : Str) (v : Option Value) : Loc → Loc → Prop
  | head {u r} : Put x v ((x, u) :: r) ((x, v) :: r)
  | tail {p r r'} : Put x v r r' → Put x v (p :: r) (p :: r')

theorem Upd.keys {a c c'} : ∀ {l l'}, Upd a c c' l l' → l'.map Prod.fst = l.map Prod.fst
  | _, _, .head => rfl
  | _, _, .tail h => by simp [h.keys]
theorem Upd.mem {a c c'} : ∀ {l l'}, Upd a c c' l l' → (a, c) ∈ l
  | _, _, .head => .head _
  | _, _, .tail h => .tail _ h.mem
theorem Upd.from {a c c'} : ∀ {l l'}, Upd a c c' l l' → (l.map Prod.fst).Nodup → ∀ p ∈ l', p = (a, c') ∨ (p ∈ l ∧ p.1 ≠ a)
  | _, _, .head, nd, p, hp => by
    rw [List.map_cons, List.nodup_cons] at nd
    rcases List.mem_cons.mp hp with rfl | hp
    · exact .inl rfl
    · exact .inr ⟨.tail _ hp, fun e => nd.1 (List.mem_map.mpr ⟨p, hp, e⟩)⟩
  | _, _, .tail h, nd, p, hp => by
    rw [List.map_cons, List.nodup_cons] at nd
    rcases List.mem_cons.mp hp with rfl | hp
    · exact .inr ⟨.head _, fun e => nd.1 (by rw [e]; exact List.mem_map_of_mem h.mem)⟩
    · rcases h.from nd.2 p hp with e | ⟨m, n⟩
      · exact .inl e
      · exact .inr ⟨.tail _ m, n⟩

namespace Led
variable {B h h' : Heap} {nw nw' : Ledger} {a : Addr} {c c' : Cell}

theorem get (D : Led B nw h) (m : (a, c) ∈ nw) : ∃ o, h.get? a = some o ∧ c o := (D.own _ m).2
theorem size_ne (D : Led B nw h) : h.objs.size ∉ nw.map Prod.fst := fun m => by
  obtain ⟨p, hp, e⟩ := List.mem_map.mp m
  obtain ⟨o, ho, _⟩ := (D.own p hp).2
  exact absurd (Heap.lt_size ho) (by rw [e]; exact Nat.lt_irrefl _)
theorem size_new (D : Led B nw h) : B.get? h.objs.size = none := by
  cases q : B.get? h.objs.size with
  | none => rfl
  | some o => exact absurd (Heap.lt_size (D.keep _ _ q)) (Nat.lt_irrefl _)
/-- the heap grown, nothing turned -/
theorem grow (D : Led B nw h) (k : ∀ b o, h.get? b = some o → h'.get? b = some o) : Led B nw h' :=
  ⟨fun b o e => k _ _ (D.keep b o e), fun p hp => let ⟨x, o, ho, hc⟩ := D.own p hp; ⟨x, o, k _ _ ho, hc⟩, D.nodup⟩
theorem sub (D : Led B nw h) (s : List.Sublist nw' nw) : Led B nw' h :=
  ⟨D.keep, fun p hp => D.own p (s.subset hp), D.nodup.sublist (s.map _)⟩
theorem perm (D : Led B nw h) (s : List.Perm nw nw') : Led B nw' h :=
  ⟨D.keep, fun p hp => D.own p (s.mem_iff.mpr hp), (s.map Prod.fst).nodup_iff.mp D.nodup⟩
theorem tail {p : Addr × Cell} (D : Led B (p :: nw) h) : Led B nw h := D.sub (List.sublist_cons_self _ _)
theorem cons_new (D : Led B nw h) {o : Obj} (k : ∀ b o', h.get? b = some o' → h'.get? b = some o') (hs : a ∉ nw.map Prod.fst) (hB : B.get? a = none) (ho : h'.get? a = some o) (hc : c o) : Led B ((a, c) :: nw) h' := by
  have G := D.grow k
  refine ⟨G.keep, fun p hp => ?_, ?_⟩
  · rcases List.mem_cons.mp hp with rfl | hp
    · exact ⟨hB, o, ho, hc⟩
    · exact G.own p hp
  · rw [List.map_cons, List.nodup_cons]; exact ⟨hs, D.nodup⟩
theorem new (D : Led B nw h) {o : Obj} (hf : o.isFreed = false) (hc : c o) : Led B ((h.objs.size, c) :: nw) (h.push o) :=
  D.cons_new (fun _ _ e => Heap.get?_push_of_some _ e) D.size_ne D.size_new (Heap.get?_push_size _ hf) hc
theorem set (D : Led B nw h) (U : Upd a c c' nw nw') (hs : ∀ b o, b ≠ a → h.get? b = some o → h'.get? b = some o) {o : Obj} (ho : h'.get? a = some o) (hc : c' o) : Led B nw' h' := by
  have hB := (D.own _ U.mem).1
  refine ⟨fun b o' e => hs b o' (fun q => by rw [q, hB] at e; cases e) (D.keep b o' e), fun p hp => ?_, by rw [U.keys]; exact D.nodup⟩
  rcases U.from D.nodup p hp with rfl | ⟨m, n⟩
  · exact ⟨hB, o, ho, hc⟩
  · obtain ⟨x, o', ho', hc'⟩ := D.own p m
    exact ⟨x, o', hs _ _ n ho', hc'⟩
theorem ne {b : Addr} {o : Obj} (D : Led B nw h) (m : (a, c) ∈ nw) (e : B.get? b = some o) : a ≠ b := fun q => by
  have := (D.own _ m).1
  rw [q, e] at this; cases this
end Led
end Mine
namespace Mine
theorem Put.keys {x : Str} {v : Option Value} : ∀ {l l' : Loc}, Put x v l l' → l'.map Prod.fst = l.map Prod.fst
  | _, _, .head => rfl
  | _, _, .tail h => by simp [h.keys]
theorem Put.mem {x : Str} {v : Option Value} : ∀ {l l' : Loc}, Put x v l l' → x ∈ l.map Prod.fst
  | _, _, .head => by simp
  | _, _, .tail h => by simp only [List.map_cons]; exact .tail _ h.mem
theorem Put.look {x : Str} {v : Option Value} : ∀ {l l' : Loc}, Put x v l l' → (l.map Prod.fst).Nodup → ∀ y, lk l' y = if y = x then v else lk l y
  | _, _, .head, _, y => by
    unfold lk
    rw [List.lookup_cons, List.lookup_cons]
    by_cases h : y = x
    · subst h; simp
    · rw [beq_eq_false_iff_ne.mpr h, if_neg h]
  | _, _, .tail (p := p) h, nd, y => by
    rw [List.map_cons, List.nodup_cons] at nd
    have ih := h.look nd.2 y
    unfold lk at ih ⊢
    rw [List.lookup_cons, List.lookup_cons]
    by_cases q : y = p.1
    · have hx : ¬ y = x := fun e => nd.1 (by rw [← q, e]; exact h.mem)
      rw [if_neg hx, beq_iff_eq.mpr q]
    · rw [beq_eq_false_iff_ne.mpr q]; exact ih
theorem lk_of_mem {x : Str} {v : Option Value} : ∀ {l : Loc}, (l.map Prod.fst).Nodup → (x, v) ∈ l → lk l x = v
  | p :: l, nd, m => by
    rw [List.map_cons, List.nodup_cons] at nd
    unfold lk
    rw [List.lookup_cons]
    rcases List.mem_cons.mp m with rfl | m
    · simp
    · have : x ≠ p.1 := fun e => nd.1 (by rw [← e]; exact List.mem_map.mpr ⟨_, m, rfl⟩)
      rw [beq_eq_false_iff_ne.mpr this]
      exact lk_of_mem nd.2 m

structure Wd where
  prog : Program
  w : World
  K : Frag
  B : Heap
  os : OsState

structure Wd.Ok (W : Wd) : Prop where
  kin : W.K.In W.B
  top : ∃ loose mean mg mb, Top topProg loose mean mg mb W.B
theorem Wd.Ok.g {W : Wd} (O : W.Ok) : ∃ mg, W.B.Ns mainGlobals mg := let ⟨_, _, _, _, T⟩ := O.top; ⟨_, T.g⟩
theorem Wd.Ok.b {W : Wd} (O : W.Ok) : ∃ mb, W.B.Ns builtinsNs mb ∧ ∀ x : Str, x ≠ "__name__" → mb x = bootBuiltins x := let ⟨_, _, _, _, T⟩ := O.top; ⟨_, T.b, T.builtins⟩
theorem Wd.Ok.nolimit {W : Wd} (O : W.Ok) : W.B.NoLimit := let ⟨_, _, _, _, T⟩ := O.top; T.nolimit
theorem Wd.Ok.bm {W : Wd} (O : W.Ok) : ∃ mg bm ob, W.B.Ns mainGlobals mg ∧ mg "__builtins__" = some (.ref bm) ∧ bm ≠ builtinsNs ∧ bm ≠ mainGlobals ∧ W.B.get? bm = some ob ∧ ob.cls = .type "module" ∧ ob.dict = some builtinsNs ∧ ob.data = .plain := by
  obtain ⟨_, _, mg, _, T⟩ := O.top
  obtain ⟨bm, ob, h1, h2, h3, h4, h5, h6⟩ := T.bmain
  refine ⟨mg, bm, ob, T.g, h1, h2, fun q => ?_, h3, h4, h5, h6⟩
  obtain ⟨o, es, ep, e, hd, _⟩ := T.g
  rw [q, e] at h3
  cases h3
  rw [hd] at h6
  cases h6

structure EnvOk (env : Env) (ks : List Str) : Prop where
  fn : env.scope.kind = .function
  glob : env.globals = mainGlobals
  bi : env.builtins = builtinsNs
  kinds : ∀ x ∈ ks, env.kindOf x = some .local
  nodebug : ∀ x ∈ ks, (x == ("__debug__" : Str)) = false
  nodup : ks.Nodup

abbrev Gens := List (Nat × GenState)
structure Sta (W : Wd) (G : Gens) (env : Env) (loc : Loc) (nw : Ledger) (s : Shared) : Prop where
  ok : W.Ok
  eok : EnvOk env (loc.map Prod.fst)
  led : Led W.B ((env.locals, IsNs loc) :: nw) s.heap
  bare : AllBare s.gens
  os : s.os = W.os
  gens : ∀ p ∈ G, s.gens[p.1]? = some p.2
  gnd : (G.map Prod.fst).Nodup

namespace Sta
variable {W : Wd} {G : Gens} {env : Env} {loc loc' : Loc} {nw nw' : Ledger} {s : Shared} {A : Around} {E : Value → Shared → Prop}
theorem kin (S : Sta W G env loc nw s) : W.K.In s.heap := S.ok.kin.keeps S.led.keep
theorem nolimit (S : Sta W G env loc nw s) : s.heap.NoLimit := S.ok.nolimit.keeps S.led.keep
theorem toks (S : Sta W G env loc nw s) (t : Nat) : Sta W G env loc nw { s with toks := t } := ⟨S.ok, S.eok, S.led, S.bare, S.os, S.gens, S.gnd⟩
theorem ns (S : Sta W G env loc nw s) : s.heap.Ns env.locals (lk loc) := by
  obtain ⟨o, ho, _, es, ep, hd, hk, hf⟩ := S.led.get (.head _)
  exact ⟨o, es, ep, ho, hd, hk, hf⟩
theorem get {a : Addr} {c : Cell} (S : Sta W G env loc nw s) (m : (a, c) ∈ nw) : ∃ o, s.heap.get? a = some o ∧ c o := S.led.get (.tail _ m)
/-- heap grown, nothing turned -/
theorem grow (S : Sta W G env loc nw s) {h' : Heap} (k : ∀ b o, s.heap.get? b = some o → h'.get? b = some o) (t : Nat) : Sta W G env loc nw { s with heap := h', toks := t } :=
  ⟨S.ok, S.eok, S.led.grow k, S.bare, S.os, S.gens, S.gnd⟩
theorem new (S : Sta W G env loc nw s) {o : Obj} {c : Cell} (hf : o.isFreed = false) (hc : c o) (t : Nat) : Sta W G env loc ((s.heap.objs.size, c) :: nw) { s with heap := s.heap.push o, toks := t } :=
  ⟨S.ok, S.eok, (S.led.new hf hc).perm (List.Perm.swap ..), S.bare, S.os, S.gens, S.gnd⟩
theorem set (S : Sta W G env loc nw s) {a : Addr} {c c' : Cell} {o : Obj} {h' : Heap} (U : Upd a c c' nw nw') (hs : ∀ b o, b ≠ a → s.heap.get? b = some o → h'.get? b = some o) (ho : h'.get? a = some o) (hc : c' o) (t : Nat) : Sta W G env loc nw' { s with heap := h', toks := t } :=
  ⟨S.ok, S.eok, S.led.set (.tail U) hs ho hc, S.bare, S.os, S.gens, S.gnd⟩
theorem sub (S : Sta W G env loc nw s) (h : List.Sublist nw' nw) : Sta W G env loc nw' s := ⟨S.ok, S.eok, S.led.sub (h.cons_cons _), S.bare, S.os, S.gens, S.gnd⟩
theorem perm (S : Sta W G env loc nw s) (h : List.Perm nw nw') : Sta W G env loc nw' s := ⟨S.ok, S.eok, S.led.perm (h.cons _), S.bare, S.os, S.gens, S.gnd⟩
theorem put (S : Sta W G env loc nw s) {x : Str} {v : Option Value} {h' : Heap} (P : Put x v loc loc') (hn : h'.Ns env.locals (fun y => if y = x then v else lk loc y)) (hs : Heap.SameBut env.locals s.heap h') (t : Nat) :
    Sta W G env loc' nw { s with heap := h', toks := t } := by
  obtain ⟨o, es, ep, ho, hd, hk, hf⟩ := hn
  have nd : (loc.map Prod.fst).Nodup := S.eok.nodup
  refine ⟨S.ok, by rw [P.keys]; exact S.eok, S.led.set (.head) (fun b o hb e => (hs.2 b hb).trans e) ho ⟨by rw [P.keys]; exact nd, es, ep, hd, hk, fun y => ?_⟩, S.bare, S.os, S.gens, S.gnd⟩
  rw [hf y, P.look nd]

theorem local_ {x : Str} {pos : Pos} {v : Value} {Q : Value → Shared → Prop} {M : Model} (S : Sta W G env loc nw s) (hv : (x, some v) ∈ loc) (h : Q v s) : wpAny M A (eval (.Name x pos) env) Q E s :=
  have hx : x ∈ loc.map Prod.fst := List.mem_map.mpr ⟨_, hv, rfl⟩
  wpAny_Name (wpAny_loadName_local S.eok.fn (S.eok.kinds _ hx) S.ns (lk_of_mem S.eok.nodup hv) h) (S.eok.nodebug _ hx)
theorem local' {x : Str} {v : Value} {Q : Value → Shared → Prop} {M : Model} (S : Sta W G env loc nw s) (hv : (x, some v) ∈ loc) (h : Q v s) : wpAny M A (loadName env x) Q E s :=
  have hx : x ∈ loc.map Prod.fst := List.mem_map.mpr ⟨_, hv, rfl⟩
  wpAny_loadName_local S.eok.fn (S.eok.kinds _ hx) S.ns (lk_of_mem S.eok.nodup hv) h
theorem store {x : Str} {v : Value} {Q : Unit → Shared → Prop} {M : Model} (S : Sta W G env loc nw s) (hp : Put x (some v) loc loc') (h : ∀ s', Sta W G env loc' nw s' → Q () s') : wpAny M A (storeName env x v) Q E s := by
  refine wpAny_storeName_local (S.eok.kinds _ hp.mem) S.ns (fun h' hn hs => h _ (S.put hp hn hs _)) ?_
  rw [S.eok.fn]; rfl
theorem global {x : Str} {pos : Pos} {v : Value} {Q : Value → Shared → Prop} {M : Model} (S : Sta W G env loc nw s) (e : nsIn W.K mainGlobals x = some (some v)) (hx : env.kindOf x = some .globalImplicit) (h : Q v s) (hd : (x == ("__debug__" : Str)) = false := by decide +kernel) :
    wpAny M A (eval (.Name x pos) env) Q E s := by
  obtain ⟨mg, hg⟩ := S.ok.g
  exact Calls.Name_function_global S.eok.fn hx (Calls.loadGlobal_global (by rw [S.eok.glob]; exact hg.keeps S.led.keep) (mg_of S.ok.kin hg e) h) hd
theorem builtin {x : Str} {pos : Pos} {v : Value} {Q : Value → Shared → Prop} {M : Model} (S : Sta W G env loc nw s) (e : nsIn W.K mainGlobals x = some none) (hv : bootBuiltins x = some v) (hx : env.kindOf x = some .globalImplicit) (h : Q v s) (hn : x ≠ "__name__" := by decide +kernel) (hd : (x == ("__debug__" : Str)) = false := by decide +kernel) :
    wpAny M A (eval (.Name x pos) env) Q E s := by
  obtain ⟨mg, hg⟩ := S.ok.g
  obtain ⟨mb, hb, hbb⟩ := S.ok.b
  exact Calls.Name_function_global S.eok.fn hx (Calls.loadGlobal_builtin (by rw [S.eok.glob]; exact hg.keeps S.led.keep) (mg_none_of S.ok.kin hg e) (by rw [S.eok.bi]; exact hb.keeps S.led.keep) ((hbb x hn).trans hv) h) hd
end Sta
end Mine
end

section
open PySem PySem.W PyProof.Rows
set_option maxRecDepth 100000
namespace Mine
theorem IsLst.freed {xs : List Value} {o : Obj} (h : IsLst xs o) : o.isFreed = false := by obtain ⟨n, rfl⟩ := h; rfl
theorem slice_from (xs : List Value) (a : Nat) : (slicePick xs.toArray (some (a : Int)) none none).toList = xs.drop a := by
  rw [slicePick_from']
theorem slice_upto (xs : List Value) (b : Nat) : (slicePick xs.toArray none (some (b : Int)) none).toList = xs.take b := by
  rw [slicePick_upto']
theorem slice_two (xs : List Value) (a b : Nat) (hb : b ≤ xs.length) (hab : a ≤ b) : (slicePick xs.toArray (some (a : Int)) (some (b : Int)) none).toList = (xs.take b).drop a := by
  rw [slicePick_run _ _ _ (by simpa using hb) hab]
  simp only [List.drop_take]

section
variable {W : Wd} {G : Gens} {env : Env} {loc loc' : Loc} {nw nw' : Ledger} {s : Shared} {A : Around} {E : Value → Shared → Prop}

theorem Sta.isList {a : Addr} {xs : List Value} (S : Sta W G env loc nw s) (m : (a, IsLst xs) ∈ nw) : s.heap.IsList a xs.toArray := by
  obtain ⟨o, ho, n, rfl⟩ := S.get m
  exact ⟨_, ho, rfl, n, rfl⟩
theorem Sta.isL {a : Addr} {xs : List Value} (S : Sta W G env loc nw s) (m : (a, IsLst xs) ∈ nw) : ∃ n, IsL s.heap a xs.toArray n := by
  obtain ⟨o, ho, n, rfl⟩ := S.get m
  exact ⟨n, ho⟩

/-- constants -/
theorem Sta.int_ {i : Int} {k : Nat} {pos : Pos} {Q : Value → Shared → Prop} {M : Model} (S : Sta W G env loc nw s) (h : ∀ t s', Sta W G env loc nw s' → Q (.int i t) s') : wpAny M A (eval (.Constant (.int i) k pos) env) Q E s :=
  wpAny_Constant_int (h _ _ (S.toks _))
theorem Sta.str_ {x : Str} {k : Nat} {pos : Pos} {Q : Value → Shared → Prop} {M : Model} (S : Sta W G env loc nw s) (h : ∀ t s', Sta W G env loc nw s' → Q (.str x t) s') : wpAny M A (eval (.Constant (.str x) k pos) env) Q E s :=
  wpAny_Constant_str (h _ _ (S.toks _))
/-- ints -/
theorem Sta.add {a b : Int} {t u : Tok} {Q : Value → Shared → Prop} (S : Sta W G env loc nw s) (h : ∀ t s', Sta W G env loc nw s' → Q (.int (a + b) t) s') : wpAny (model W.prog W.w) A (binaryOp .Add (.int a t) (.int b u)) Q E s :=
  PyProof.Rows.add_int (h _ _ (S.toks _))
theorem Sta.sub_ {a b : Int} {t u : Tok} {Q : Value → Shared → Prop} (S : Sta W G env loc nw s) (h : ∀ t s', Sta W G env loc nw s' → Q (.int (a - b) t) s') : wpAny (model W.prog W.w) A (binaryOp .Sub (.int a t) (.int b u)) Q E s :=
  PyProof.Rows.sub_int (h _ _ (S.toks _))
theorem Sta.mod {a b : Int} {t u : Tok} {Q : Value → Shared → Prop} (S : Sta W G env loc nw s) (hb : b ≠ 0) (h : ∀ t s', Sta W G env loc nw s' → Q (.int (a.fmod b) t) s') : wpAny (model W.prog W.w) A (binaryOp .Mod (.int a t) (.int b u)) Q E s :=
  PyProof.Rows.mod_int hb (h _ _ (S.toks _))
/-- slices of a list -/
def SliceK (W : Wd) (env : Env) (Q : Value → Shared → Prop) (o vl vu : Value) (s : Shared) : Prop :=
  ∃ G loc nw l xs lo hi, Sta W G env loc nw s ∧ o = .ref l ∧ (l, IsLst xs) ∈ nw ∧ xs.length ≤ sizeLine ∧ IsPart vl lo ∧ IsPart vu hi ∧
    ∀ a s', Sta W G env loc ((a, IsLst (slicePick xs.toArray lo hi none).toList) :: nw) s' → Q (.ref a) s'
theorem slice_ {value : Expr} {lower upper : Option Expr} {p pos : Pos} {Q : Value → Shared → Prop}
    (h : wpAny (model W.prog W.w) A (eval value env) (fun o s₁ => wpAny (model W.prog W.w) A (evalPart lower env) (fun vl s₂ => wpAny (model W.prog W.w) A (evalPart upper env) (fun vu s₃ => SliceK W env Q o vl vu s₃) E s₂) E s₁) E s)
    (ht : ∀ o r, letTemporaryGo value o r = pure () := by intro _ _; rfl) :
    wpAny (model W.prog W.w) A (eval (.Subscript value (.Slice lower upper none p) pos) env) Q E s := by
  refine wpAny_Subscript_list_slice (wpAny_mono h (fun o s₁ h₁ => wpAny_mono h₁ (fun vl s₂ h₂ => wpAny_mono h₂ (fun vu s₃ h₃ => ?_) fun _ _ e => e) fun _ _ e => e) fun _ _ e => e) ht
  obtain ⟨G, loc, nw, l, xs, lo, hi, S, rfl, m, hz, pl, pu, q⟩ := h₃
  refine ⟨l, xs.toArray, lo, hi, rfl, S.isList m, by simpa using hz, pl, pu, ?_⟩
  have S1 := S.grow (h' := s₃.heap.push { cls := .type "slice", data := .fields #[vl, vu, .none] }) (fun _ _ e => Heap.get?_push_of_some _ e) s₃.toks
  have S2 := S1.new (o := { cls := .type "list", data := .seq (slicePick xs.toArray lo hi none) }) (c := IsLst (slicePick xs.toArray lo hi none).toList) rfl ⟨0, rfl⟩ s₃.toks
  have e : s₃.heap.objs.size + 1 = (s₃.heap.push { cls := .type "slice", data := .fields #[vl, vu, .none] }).objs.size := by rw [Heap.size_push]
  rw [e]
  exact q _ _ S2
/-- sum of a list of ints -/
theorem Sta.sum {a : Addr} {xs : List Value} {ns : List Int} {Q : Value → Shared → Prop} (S : Sta W G env loc nw s) (hh : A.handled = none) (m : (a, IsLst xs) ∈ nw) (hi : IntsAre xs ns) (h : ∀ t s', Sta W G env loc nw s' → Q (.int ns.sum t) s') :
    wpAny (model W.prog W.w) A (call (.builtin "sum") [.ref a]) Q E s := by
  obtain ⟨xs', e⟩ := hi.allInts.items
  have hl := S.isList m
  rw [e] at hl
  refine sum_intListG hh hl fun h' tk t' hk => ?_
  have q := h t' _ (S.grow hk tk)
  rw [preSum_eq, List.take_of_length_le (by simp)]
  have e2 : (xs'.toList.map (·.1)) = ns := by
    have := hi.numsOf
    rw [show xs = xs.toArray.toList from rfl, e, nums_intItems] at this
    simpa using this
  first | (rw [e2]; exact q) | (simpa [e2] using q)
end
end Mine
end

section
open PySem PySem.W PyProof.Rows
set_option maxRecDepth 100000
namespace Mine
def topStmt (p : Program) (i : Nat) : Stmt := p.main.body.getD i (.Pass default)
def inClass (st : Stmt) (j : Nat) : Stmt := match st with
  | .ClassDef _ _ _ body _ _ _ _ _ _ _ => body.getD j (.Pass default)
  | st => st
def fnArgs : Stmt → Arguments
  | .FunctionDef _ a _ _ _ _ _ _ _ _ => a
  | _ => default
def fnBody : Stmt → List Stmt
  | .FunctionDef _ _ b _ _ _ _ _ _ _ => b
  | _ => []
def fnScope : Stmt → Scope
  | .FunctionDef _ _ _ _ _ _ sc _ _ _ => sc
  | _ => default

def mkLoc (binds : List (Str × Value)) (rest : List Str) : Loc := binds.map (fun p => (p.1, some p.2)) ++ rest.map (fun k => (k, none))
theorem lk_none : ∀ (rest : List Str) (x : Str), lk (rest.map fun k => (k, none)) x = none
  | [], _ => rfl
  | k :: r, x => by
    unfold lk
    rw [List.map_cons, List.lookup_cons]
    cases x == k with
    | true => rfl
    | false => exact lk_none r x
theorem lk_mkLoc : ∀ (binds : List (Str × Value)) (rest : List Str), (binds.map Prod.fst).Nodup → ∀ x, lk (mkLoc binds rest) x = binds.reverse.lookup x
  | [], rest, _, x => lk_none rest x
  | (k, v) :: r, rest, nd, x => by
    rw [List.map_cons, List.nodup_cons] at nd
    have ih := lk_mkLoc r rest nd.2 x
    have key : (r.reverse ++ [(k, v)]).lookup x = (r.reverse.lookup x).or (if x == k then some v else none) := by
      rw [List.lookup_append]
      congr 1
      rw [List.lookup_cons]
      cases x == k <;> rfl
    rw [List.reverse_cons, key]
    unfold lk mkLoc at ih ⊢
    rw [List.map_cons, List.cons_append, List.lookup_cons]
    by_cases h : x = k
    · subst h
      have : r.reverse.lookup x = none := by
        rw [List.lookup_eq_none_iff]
        intro p hp
        rw [bne_iff_ne]
        exact fun e => nd.1 (List.mem_map.mpr ⟨p, List.mem_reverse.mp hp, e.symm⟩)
      rw [this]; simp
    · rw [beq_eq_false_iff_ne.mpr h]
      simp only [Bool.false_eq_true, if_false, Option.or_none]
      exact ih

section
variable {W : Wd} {G : Gens} {env : Env} {loc loc' : Loc} {nw nw' : Ledger} {s : Shared} {A : Around} {E : Value → Shared → Prop}

/-- the kinds of the names of a def, looked at once -/
def kindsOk (sc : Scope) (ks : List Str) : Bool := sc.kind == .function && !sc.isCoroutine && !sc.isGenerator && (sc.names.all fun x => x.2 != .cell) && (ks.all fun x => sc.names.lookup x == some .local && !(x == ("__debug__" : Str))) && decide ks.Nodup

theorem Sta.code_def {R : Result → Shared → Prop} {f : Addr} {name qual : Str} {st : Stmt} {dV kV doc pm cdv ct oc : Value} {an od : Option Addr} {osl : Array (Option Value)} {args : Args} {binds : List (Str × Value)} (rest : List Str)
    (S : Sta W G env loc nw s) (hroom : A.depth < recursionLimit)
    (ho : W.K.lookup f = some ⟨oc, od, .func (fnOf name qual (fnArgs st) (fnBody st) (fnScope st) dV kV doc pm an cdv ct), osl⟩) (hcd : codeIn W.K cdv qual = true)
    (hbind : BindsTo s (fnOf name qual (fnArgs st) (fnBody st) (fnScope st) dV kV doc pm an cdv ct) args binds)
    (hk : kindsOk (fnScope st) (binds.map Prod.fst ++ rest) = true)
    (h : ∀ L s', Sta W G (envOf qual (fnScope st) L f cdv) (mkLoc binds rest) ((env.locals, IsNs loc) :: nw) s' →
      wpAny (model W.prog W.w) (A.deeper (envOf qual (fnScope st) L f cdv)) (execs (fnBody st) (envOf qual (fnScope st) L f cdv)) (fun fl s'' => R (.ok (.ret (match fl with | .ret v => v | _ => .none))) s'') (fun _ _ => False) s') :
    codeAny (model W.prog W.w) A (.call (.ref f) args) R s := by
  simp only [kindsOk, Bool.and_eq_true, beq_iff_eq, Bool.not_eq_true', List.all_eq_true, bne_iff_ne, decide_eq_true_eq] at hk
  obtain ⟨⟨⟨⟨⟨hkind, hco⟩, hgen⟩, hcell⟩, hks⟩, hnd⟩ := hk
  have hks2 : ((mkLoc binds rest).map Prod.fst) = binds.map Prod.fst ++ rest := by
    simp [mkLoc, List.map_map, Function.comp_def]
  refine (codeAny_call_def (fd := fnOf name qual (fnArgs st) (fnBody st) (fnScope st) dV kV doc pm an cdv ct) (body := fnBody st) (binds := binds) hroom (S.kin _ _ ho) rfl S.nolimit (codeRec_of S.kin hcd) rfl hbind hcell
    (fun x hx => (hks x.1 (List.mem_append_left _ (List.mem_map.mpr ⟨x, hx, rfl⟩))).1) (fun h₁ hns hkp => ?_) hco hgen hkind)
  have D : Led W.B ((s.heap.objs.size, IsNs (mkLoc binds rest)) :: (env.locals, IsNs loc) :: nw) h₁ := by
    obtain ⟨o, es, ep, ho', hd, hsk, hf⟩ := hns
    refine S.led.cons_new hkp S.led.size_ne S.led.size_new ho' ⟨by rw [hks2]; exact hnd, es, ep, hd, hsk, fun x => ?_⟩
    rw [hf x, lk_mkLoc _ _ (hnd.sublist (List.sublist_append_left _ _))]
  have S' : Sta W G (envOf qual (fnScope st) s.heap.objs.size f cdv) (mkLoc binds rest) ((env.locals, IsNs loc) :: nw) { s with heap := h₁, toks := s.toks + binds.length } :=
    ⟨S.ok, by rw [hks2]; exact ⟨hkind, rfl, rfl, fun x hx => (hks x hx).1, fun x hx => (hks x hx).2, hnd⟩, D, S.bare, S.os, S.gens, S.gnd⟩
  exact wpAny_mono (h _ _ S') (fun fl s'' q => q) (fun _ _ q => q.elim)
theorem Sta.call_def {Q : Value → Shared → Prop} {f : Addr} {name qual : Str} {st : Stmt} {dV kV doc pm cdv ct oc : Value} {an od : Option Addr} {osl : Array (Option Value)} {args : Args} {binds : List (Str × Value)} (rest : List Str)
    (S : Sta W G env loc nw s) (hroom : A.depth < recursionLimit)
    (ho : W.K.lookup f = some ⟨oc, od, .func (fnOf name qual (fnArgs st) (fnBody st) (fnScope st) dV kV doc pm an cdv ct), osl⟩) (hcd : codeIn W.K cdv qual = true)
    (hbind : BindsTo s (fnOf name qual (fnArgs st) (fnBody st) (fnScope st) dV kV doc pm an cdv ct) args binds)
    (hk : kindsOk (fnScope st) (binds.map Prod.fst ++ rest) = true)
    (h : ∀ L s', Sta W G (envOf qual (fnScope st) L f cdv) (mkLoc binds rest) ((env.locals, IsNs loc) :: nw) s' →
      wpAny (model W.prog W.w) (A.deeper (envOf qual (fnScope st) L f cdv)) (execs (fnBody st) (envOf qual (fnScope st) L f cdv)) (fun fl s'' => Q (match fl with | .ret v => v | _ => .none) s'') (fun _ _ => False) s') :
    wpAny (model W.prog W.w) A (call (.ref f) args.pos args.kw) Q E s := wpAny_call (S.code_def rest hroom ho hcd hbind hk h)
theorem Sta.back {env' : Env} (S : Sta W G env' loc' ((env.locals, IsNs loc) :: nw) s) (S₀ : EnvOk env (loc.map Prod.fst)) : Sta W G env loc nw s :=
  ⟨S.ok, S₀, S.led.tail, S.bare, S.os, S.gens, S.gnd⟩
end
end Mine
end

section
open PySem PySem.W PyProof.Rows
set_option maxRecDepth 100000
namespace Mine
/-- a method looked up -/
def GetM (M : Model) (A : Around) (E : Value → Shared → Prop) (name : Str) (ov : Value) (Q : Value × List Value → Shared → Prop) (s : Shared) : Prop := ∀ pl, wpAny M A (getMethod ov name pl) Q E s
section
variable {M : Model} {env : Env} {s : Shared} {A : Around} {E : Value → Shared → Prop}
theorem Call_m {o : Expr} {name : Str} {apos pos : Pos} {args : List Expr} {kws : List Keyword} {Q : Value → Shared → Prop}
    (h : wpAny M A (eval o env) (fun ov s₁ => GetM M A E name ov (fun p s₂ => wpAny M A (callWith pos p.1 p.2 (backTo pos (starEach args env)) (backToKw pos (keywordEach kws env))) Q E s₂) s₁) E s)
    (hbase : attributeBase o name env (eval o env) = eval o env) (hform : methodCallForm (args.length + kws.length) (backTo pos (starEach args env)) (backToKw pos (keywordEach kws env)) = true) (hline : (apos.endLine == pos.line) = true) :
    wpAny M A (eval (.Call (.Attribute o name apos) args kws pos) env) Q E s := by
  rw [arm_eval_Call, hbase]
  refine wpAny_bind (wpAny_mono h (fun ov s₁ h₁ => wpAny_bind (wpAny_standAt ?_)) fun _ _ e => e)
  have hpos : methodCallPos true o env apos pos = pure pos := by unfold methodCallPos; simp [hline]
  unfold methodCall
  rw [hform]
  exact wpAny_bind (wpAny_holding (wpAny_mono (h₁ _) (fun p s₂ h₂ => wpAny_bind (wpAny_of_eq hpos h₂)) fun _ _ e => e))
theorem getM_builtin {name : Str} {ov : Value} {Q : Value × List Value → Shared → Prop} {T id : String} (pa : PlainAttrs T) (slot : Slot T name id) (hty : typeOf (.builtin id) = pure (.type "method_descriptor")) (hT : s.TypeIs ov T)
    (hd : ∀ a, ov = .ref a → ∃ o, s.heap.get? a = some o ∧ o.dict = none) (h : Q (.builtin id, [ov]) s) : GetM M A E name ov Q s := fun _ => getMethod_builtin hT pa slot hty hd h
theorem getM_str {name : Str} {x : Str} {t : Tok} {Q : Value × List Value → Shared → Prop} {id : String} (slot : Slot "str" name id) (hty : typeOf (.builtin id) = pure (.type "method_descriptor")) (h : Q (.builtin id, [.str x t]) s) : GetM M A E name (.str x t) Q s :=
  getM_builtin F.plainAttrs_str slot hty (typeIs_str _ _ _) (fun _ e => nomatch e) h
theorem callWith_bi0 {pos : Pos} {id : String} {first : List Value} {Q : Value → Shared → Prop}
    (h : wpAny M A (call (.builtin id) first) Q E s) : wpAny M A (callWith pos (.builtin id) first (backTo pos (starEach [] env)) (backToKw pos (keywordEach [] env))) Q E s :=
  Calls.callWith_builtin rfl (PySem.evalArgs_none (by rw [List.append_nil]; exact h))
theorem callWith_bi {pos : Pos} {id : String} {first : List Value} {e : Expr} {rest : List Expr} {Q : Value → Shared → Prop}
    (h : wpAny M A (spliced (backTo pos (starEach (e :: rest) env))) (fun vs s₁ => wpAny M A (call (.builtin id) (first ++ vs)) Q E s₁) E s)
    (he : starEach (e :: rest) env = (false, eval e env) :: starEach rest env)
    (hplain : (backTo pos (starEach rest env)).any (·.1) = false) :
    wpAny M A (callWith pos (.builtin id) first (backTo pos (starEach (e :: rest) env)) (backToKw pos (keywordEach [] env))) Q E s := by
  rw [he] at h ⊢
  exact Calls.callWith_builtin (by show (false || (backTo pos (starEach rest env)).any (·.1)) = false; rw [hplain]; rfl) (Calls.evalArgs_plain h)
end

section
variable {W : Wd} {G : Gens} {env : Env} {loc loc' : Loc} {nw nw' : Ledger} {s : Shared} {A : Around} {E : Value → Shared → Prop}
theorem Sta.getM_list {name : Str} {a : Addr} {xs : List Value} {Q : Value × List Value → Shared → Prop} {id : String} (S : Sta W G env loc nw s) (m : (a, IsLst xs) ∈ nw) (slot : Slot "list" name id) (hty : typeOf (.builtin id) = pure (.type "method_descriptor")) (h : Q (.builtin id, [.ref a]) s) :
    GetM (model W.prog W.w) A E name (.ref a) Q s := by
  obtain ⟨n, hl⟩ := S.isL m
  exact getM_builtin F.plainAttrs_list slot hty ⟨_, hl, rfl⟩ (fun b e => by cases e; exact ⟨_, hl, rfl⟩) h
theorem IsL_set {h : Heap} {a : Addr} {xs ys : List Value} {n : Nat} (hl : IsL h a xs.toArray n) (f : Array Value → Array Value) (e : f xs.toArray = ys.toArray) : ∃ o, (h.update a (Obj.mapSeq f)).get? a = some o ∧ IsLst ys o := by
  refine ⟨_, IsL.update hl f, ?_⟩
  rw [e]; exact ⟨_, rfl⟩
theorem Sta.setL {a : Addr} {xs ys : List Value} {n : Nat} (S : Sta W G env loc nw s) (hl : IsL s.heap a xs.toArray n) (f : Array Value → Array Value) (e : f xs.toArray = ys.toArray) (U : Upd a (IsLst xs) (IsLst ys) nw nw') (t : Nat) :
    Sta W G env loc nw' { s with heap := s.heap.update a (Obj.mapSeq f), toks := t } := by
  obtain ⟨o, ho, hc⟩ := IsL_set hl f e
  exact S.set U (fun b o hb e => ((Heap.SameBut.update s.heap a _).2 b hb).trans e) ho hc t
theorem Sta.append {a : Addr} {xs : List Value} {v : Value} {Q : Value → Shared → Prop} (S : Sta W G env loc nw s) (U : Upd a (IsLst xs) (IsLst (xs ++ [v])) nw nw') (hz : xs.length ≤ sizeLine) (h : ∀ s', Sta W G env loc nw' s' → Q .none s') :
    wpAny (model W.prog W.w) A (call (.builtin "list.append") [.ref a, v]) Q E s := by
  obtain ⟨n, hl⟩ := S.isL U.mem
  exact call_meets F.slot_list_append ⟨_, hl, rfl⟩ F.entry_list_append (F.args_list_append_2 _ _) (list_append a xs.toArray n v (by simpa using hz)) ⟨hl, h _ (S.setL hl _ (by simp) U _)⟩
theorem Sta.pop {a : Addr} {xs : List Value} {v : Value} {Q : Value → Shared → Prop} (S : Sta W G env loc nw s) (U : Upd a (IsLst (xs ++ [v])) (IsLst xs) nw nw') (hz : xs.length < sizeLine) (h : ∀ s', Sta W G env loc nw' s' → Q v s') :
    wpAny (model W.prog W.w) A (call (.builtin "list.pop") [.ref a]) Q E s := by
  obtain ⟨n, hl⟩ := S.isL U.mem
  refine call_meets F.slot_list_pop ⟨_, hl, rfl⟩ F.entry_list_pop (F.args_list_pop_1 _) (MeetsSeq.list_pop_last a (xs ++ [v]).toArray n v (by simp) (by simp; omega)) ⟨hl, h _ (S.setL hl _ ?_ U _)⟩
  simp [Array.eraseIdxIfInBounds, List.eraseIdx_append_of_length_le]
theorem Sta.len {a : Addr} {xs : List Value} {Q : Value → Shared → Prop} (S : Sta W G env loc nw s) (m : (a, IsLst xs) ∈ nw) (hz : xs.length ≤ sizeLine) (h : ∀ t s', Sta W G env loc nw s' → Q (.int xs.length t) s') :
    wpAny (model W.prog W.w) A (call (.builtin "len") [.ref a]) Q E s := by
  have q := h (s.toks + 1) _ (S.toks (s.toks + 1 + 1))
  refine len_list (S.isList m) ?_ ?_
  · rw [sizeLine_eq] at hz; simp; omega
  · simpa using q
theorem Sta.newList {vs : List Value} {Q : Value → Shared → Prop} {M : Model} (S : Sta W G env loc nw s) (hz : vs.length ≤ sizeLine) (h : ∀ a s', Sta W G env loc ((a, IsLst vs) :: nw) s' → Q (.ref a) s') : wpAny M A (newList vs) Q E s :=
  wpAny_newObj_type (h _ _ (S.new (c := IsLst vs) rfl ⟨0, rfl⟩ s.toks)) (by show vs.toArray.size ≤ sizeLine; rw [List.size_toArray]; exact hz)
theorem Sta.newTuple {vs : List Value} {Q : Value → Shared → Prop} {M : Model} (S : Sta W G env loc nw s) (hz : vs.length ≤ sizeLine) (h : ∀ a s', Sta W G env loc ((a, IsTpl vs) :: nw) s' → Q (.ref a) s') : wpAny M A (newTuple vs) Q E s :=
  wpAny_newObj_type (h _ _ (S.new (c := IsTpl vs) rfl ⟨0, rfl⟩ s.toks)) (by show vs.toArray.size ≤ sizeLine; rw [List.size_toArray]; exact hz)
end
end Mine
end

section
open PySem PySem.W PyProof.Rows
set_option maxRecDepth 100000
namespace Mine
def cnt (vals : Loc) : Nat := (vals.filter fun p => p.2.isSome).length
/-- a dict of str keys: an instance's own -/
def IsAttrs (vals : Loc) : Cell := fun o => (vals.map Prod.fst).Nodup ∧ o.cls = .type "dict" ∧ ∃ es ep, o.data = .dict es ep ∧ StrKeys es ∧ (∀ name, nsFind es name = lk vals name) ∧ es.size = cnt vals
def IsInst (C d : Addr) : Cell := fun o => o = instObj C d

theorem lookIn_of {name : Str} {o : Obj} {es ep} {r : Option Value} (hd : o.data = .dict es ep) (hk : StrKeys es) (hf : nsFind es name = r) : lookIn name o = some r := by
  unfold lookIn
  rw [hd]
  dsimp only
  unfold nsFind findBy at hf
  rw [← Array.find?_toList] at hf
  cases q : es.toList.find? (fun e => e.key.isStr name) with
  | some e => rw [q] at hf; rw [← hf]; rfl
  | none =>
    rw [q] at hf
    rw [← hf]
    have : es.toList.any (·.refKey) = false := by
      rw [List.any_eq_false]
      intro e he
      obtain ⟨n, t, h⟩ := hk e (Array.mem_toList_iff.mp he)
      simp [DictEntry.refKey, h]
    simp [this]

/-- what is asked of a class of the text -/
structure Cl (K : Frag) (C : Addr) (names : List Str) : Prop where
  ga : findIn K (.ref C) "__getattribute__" = some (some (.builtin "object.__getattribute__"))
  gh : findIn K (.ref C) "__getattr__" = some none
  sa : findIn K (.ref C) "__setattr__" = some (some (.builtin "object.__setattr__"))
  plain : plainOver K C = true
  dict : hasDictIn K C = true
  own : ∀ n ∈ names, findIn K (.ref C) n = some none

section
variable {W : Wd} {G : Gens} {env : Env} {loc loc' : Loc} {nw nw' : Ledger} {s : Shared} {A : Around} {E : Value → Shared → Prop} {C x d : Addr} {names : List Str} {vals vals' : Loc}
theorem Sta.inst (S : Sta W G env loc nw s) (mx : (x, IsInst C d) ∈ nw) (md : (d, IsAttrs vals) ∈ nw) : ∃ od, InstAt s.heap x (instObj C d) C (some od) ∧ IsAttrs vals od := by
  obtain ⟨o, ho, rfl⟩ := S.get mx
  obtain ⟨od, hod, hc⟩ := S.get md
  exact ⟨od, ⟨ho, rfl, rfl, hod⟩, hc⟩
theorem Sta.getattr {name : Str} {v : Value} {expr : Bool} {Q : Value → Shared → Prop} (S : Sta W G env loc nw s) (c : Cl W.K C names) (mx : (x, IsInst C d) ∈ nw) (md : (d, IsAttrs vals) ∈ nw) (hk : vals.map Prod.fst = names) (hv : (name, some v) ∈ vals) (hh : handedIn v = true)
    (h : ∀ s', Sta W G env loc nw s' → Q v s') : wpAny (model W.prog W.w) A (getAttr (.ref x) name expr) Q E s := by
  obtain ⟨od, I, nd, _, es, ep, hd, hsk, hf, _⟩ := S.inst mx md
  have hn : findIn W.K (.ref C) name = some none := c.own _ (by rw [← hk]; exact List.mem_map.mpr ⟨_, hv, rfl⟩)
  exact get_value S.kin I c.ga (findObj_own c.dict hn rfl (lookIn_of hd hsk ((hf name).trans (lk_of_mem nd hv)))) hh (h _ (S.toks _))
theorem Sta.getM_inst {name : Str} {f : Addr} {Q : Value × List Value → Shared → Prop} (S : Sta W G env loc nw s) (c : Cl W.K C names) (mx : (x, IsInst C d) ∈ nw) (md : (d, IsAttrs vals) ∈ nw) (hk : vals.map Prod.fst = names) (hn : name ∉ names)
    (hf : findIn W.K (.ref C) name = some (some (.ref f))) (ht : typeIn W.K (.ref f) = some (.type "function")) (h : Q (.ref f, [.ref x]) s) : GetM (model W.prog W.w) A E name (.ref x) Q s := fun pl => by
  obtain ⟨od, I, nd, _, es, ep, hd, hsk, hl, _⟩ := S.inst mx md
  have hno : lk vals name = none := by
    unfold lk
    rw [List.lookup_eq_none_iff.mpr]
    · rfl
    · intro p hp
      rw [bne_iff_ne]
      exact fun e => hn (by rw [← hk, e]; exact List.mem_map.mpr ⟨p, hp, rfl⟩)
  exact method_fn S.kin I c.ga c.gh hf ht (by show (lookIn name od).map _ = _; rw [lookIn_of hd hsk ((hl name).trans hno)]; rfl) h
theorem Put.cnt {y : Str} {v : Value} : ∀ {l l' : Loc}, Put y (some v) l l' → (l.map Prod.fst).Nodup → cnt l' = if (lk l y).isSome then cnt l else cnt l + 1
  | _, _, .head (u := u) (r := r), _ => by
    unfold Mine.cnt lk
    rw [List.lookup_cons]
    cases u <;> simp
  | _, _, .tail (p := p) (r := r) (r' := r') h, nd => by
    rw [List.map_cons, List.nodup_cons] at nd
    have ih := h.cnt nd.2
    have hne : y ≠ p.1 := fun e => nd.1 (e ▸ h.mem)
    have e1 : lk (p :: r) y = lk r y := by unfold lk; rw [List.lookup_cons, beq_eq_false_iff_ne.mpr hne]
    rw [e1]
    unfold Mine.cnt at ih ⊢
    cases q : p.2.isSome <;> simp only [List.filter_cons, q, if_true, Bool.false_eq_true, if_false, List.length_cons] <;> rw [ih] <;> split <;> rfl
theorem putName_attrs {name : Str} {hsh : Int} {t : Tok} {v : Value} {o : Obj} (h : IsAttrs vals o) (P : Put name (some v) vals vals') :
    IsAttrs vals' (Obj.putName name hsh (.str name t) v o) ∧ (Obj.putName name hsh (.str name t) v o).isFreed = false ∧ ∃ es ep, (Obj.putName name hsh (.str name t) v o).data = .dict es ep ∧ es.size ≤ vals.length := by
  obtain ⟨nd, hcl, es, ep, hd, hk, hf, hz⟩ := h
  obtain ⟨c, di, dt, sl⟩ := o
  dsimp only at hd hcl
  subst hd hcl
  have cz : cnt vals' ≤ vals.length := by
    have : vals'.length = vals.length := by have := congrArg List.length P.keys; simpa using this
    rw [← this]; exact List.length_filter_le _ _
  have hc := P.cnt nd
  rw [Obj.putName_eq]
  unfold Obj.putNameByArray
  dsimp only
  cases hi : es.findIdx? (·.key.isStr name) with
  | some i =>
    have hs : (lk vals name).isSome = true := by
      rw [← hf]; unfold nsFind; rw [findBy_of_findIdx?, hi]
      have := Array.findIdx?_eq_some_iff_getElem.mp hi
      obtain ⟨hlt, _⟩ := this
      simp [hlt]
    rw [if_pos hs] at hc
    refine ⟨⟨by rw [P.keys]; exact nd, rfl, _, _, rfl, hk.modify _ _, fun y => ?_, by simp [hz, hc]⟩, rfl, _, _, rfl, by simp [hz, ← hc]; exact cz⟩
    rw [P.look nd, ← hf]; exact findBy_modify (fun n v => v.isStr n) Value.isStr_inj es name y v i hi
  | none =>
    have hs : (lk vals name).isSome = false := by
      rw [← hf]; unfold nsFind; rw [findBy_of_findIdx?, hi]; rfl
    rw [if_neg (by rw [hs]; decide)] at hc
    refine ⟨⟨by rw [P.keys]; exact nd, rfl, _, _, rfl, hk.push _ _ _ _, fun y => ?_, by simp [hz, hc]⟩, rfl, _, _, rfl, by simp [hz, ← hc]; exact cz⟩
    rw [P.look nd, ← hf]
    exact findBy_push (fun n v => v.isStr n) es name y _ _ v (fun y => by
      show (name == y) = decide (y = name)
      by_cases h : y = name
      · subst h; simp
      · have : ¬ name = y := fun e => h e.symm
        simp [h, this]) hi
theorem Sta.setattr {name : Str} {v : Value} {Q : Unit → Shared → Prop} (S : Sta W G env loc nw s) (c : Cl W.K C names) (mx : (x, IsInst C d) ∈ nw) (U : Upd d (IsAttrs vals) (IsAttrs vals') nw nw') (hk : vals.map Prod.fst = names) (P : Put name (some v) vals vals') (hz : names.length ≤ 1000)
    (h : ∀ s', Sta W G env loc nw' s' → Q () s') : wpAny (model W.prog W.w) A (setAttr (.ref x) name v) Q E s := by
  obtain ⟨od, I, ha⟩ := S.inst mx U.mem
  have hn : findIn W.K (.ref C) name = some none := c.own _ (by rw [← hk]; exact P.mem)
  have ht : takerIn W.K C name = some none := by unfold takerIn; rw [hn]; rfl
  refine set_plain S.kin I c.sa ?_
  have S1 := S.toks (s.toks + 1)
  refine osa_open (s := { s with toks := s.toks + 1 }) S1.kin I c.plain ht fun b => ?_
  obtain ⟨cd, hc, hd'⟩ := any_some c.dict
  obtain ⟨hx, -, -, hdx⟩ := I
  have hdx' : s.heap.get? d = some od := hdx
  obtain ⟨A1, A2, es', ep', A3, A4⟩ := putName_attrs (hsh := PyData.keyHash W.w.params name) (t := s.toks + 1) ha P
  obtain ⟨nd, hcl, es, ep, hd, hsk, hf, hsz⟩ := ha
  refine wpAny_bind (wpAny_pure (wpAny_bind (wpAny_bind (wpAny_loadPart hx (wpAny_bind ((looks_clsIn S1.kin hc).here ?_))))))
  rw [hd']
  refine wpAny_pure (a := some d) (wpAny_bind (wpAny_pure (wpAny_bind ?_)))
  unfold nsSet
  refine wpAny_bind (wpAny_bind (wpAny_askSetting (wpAny_pure (wpAny_bind (wpAny_mkText (wpAny_bind (wpAny_loadPart hdx' ?_)))))))
  rw [hd]
  dsimp only
  have hany : es.any (·.refKey) = false := by
    rw [Array.any_eq_false']; intro e he; obtain ⟨n, t, h⟩ := hsk e he; simp [DictEntry.refKey, h]
  rw [aRefKeyMayBeTheName_at, hany, Bool.and_false]
  refine wpAny_updatePart hdx' ?_
  have D' := Heap.get?_update_self (Obj.putName name (PyData.keyHash W.w.params name) (.str name (s.toks + 1)) v) hdx' A2
  refine wpAny_bind (wpAny_lookBehind D' (by rw [A3]; exact pastItsLine_dict (by rw [sizeLine_eq]; have : vals.length = names.length := by rw [← hk]; simp
                                                                                 omega)) ?_)
  exact wpAny_pure (h _ (S.set U (fun b o hb e => ((Heap.SameBut.update s.heap d _).2 b hb).trans e) D' A1 _))
end
end Mine
end

section
open PySem PySem.W PyProof.Rows PySem.W.X
set_option maxRecDepth 100000
namespace Mine
section
variable {prog : Program} {w : World} {A : Around} {c : Code} {fs : List Frame} {P : End → Shared → Prop} {s : Shared}
theorem sx_wrap {α : Type} {m : Sem α} {K : α → Sem Fin} {H : Value → Sem Fin} {gd lv} (h : wpAny (model prog w) (A.over c fs) m (fun a s' => SegX (model prog w) A c (K a) fs s' P) (fun x s' => SegX (model prog w) A c (H x) fs s' P) s) :
    SegX (model prog w) A c (m.wrap K H gd lv) fs s P := by
  rintro Γ p rfl hΓ
  obtain ⟨e, s', hr, hq⟩ := runs_wrap_of_wp (Φ := fun e s' => e.quiet = true ∧ P e s') K H gd lv m (h (Γ.over fs) p (hΓ.over fs)) (fun a p' s' h' => h' Γ p' rfl hΓ) (fun x p' s' h' => h' Γ p' rfl hΓ)
  exact ⟨e, s', hr, hq⟩
theorem wrap_bind {α β : Type} (m : Sem α) (f : α → Sem β) {K : β → Sem Fin} {H : Value → Sem Fin} {gd lv} : (m >>= f).wrap K H gd lv = m.wrap (fun a => (f a).wrap K H gd lv) H gd lv := by
  rw [Sem.bind_eq_wrap', Sem.wrap_wrap]; rfl
theorem wrap_onRaise {α : Type} (m : Sem α) (h : Value → Sem Unit) {K : α → Sem Fin} {H : Value → Sem Fin} {gd lv} : (m.onRaise h).wrap K H gd lv = m.wrap K (fun e => ((h e).bind fun _ => (.raise e : Sem α)).wrap K H gd lv) gd lv := by
  rw [Sem.onRaise_eq_wrap, Sem.wrap_wrap]; rfl
theorem wrap_keep {α : Type} (m : Sem α) (vs : List Value) {K : α → Sem Fin} {H : Value → Sem Fin} {gd lv} : (m.keep vs).wrap K H gd lv = m.wrap K H gd (fun l => lv (vs ++ l)) := by
  rw [Sem.keep_eq_wrap, Sem.wrap_wrap]; rfl
theorem sx_bind {α β : Type} {m : Sem α} {f : α → Sem β} {K : β → Sem Fin} {H : Value → Sem Fin} {gd lv} (h : SegX (model prog w) A c (m.wrap (fun a => (f a).wrap K H gd lv) H gd lv) fs s P) : SegX (model prog w) A c ((m >>= f).wrap K H gd lv) fs s P := by
  rw [wrap_bind]; exact h
theorem sx_then {α β : Type} {m : Sem α} {f : α → Sem β} {K : β → Sem Fin} {H : Value → Sem Fin} {gd lv} (h : wpAny (model prog w) (A.over c fs) m (fun a s' => SegX (model prog w) A c ((f a).wrap K H gd lv) fs s' P) (fun x s' => SegX (model prog w) A c (H x) fs s' P) s) : SegX (model prog w) A c ((m >>= f).wrap K H gd lv) fs s P :=
  sx_bind (sx_wrap h)
theorem sx_onRaise {α : Type} {m : Sem α} {h : Value → Sem Unit} {K : α → Sem Fin} {H : Value → Sem Fin} {gd lv} (x : SegX (model prog w) A c (m.wrap K (fun e => ((h e).bind fun _ => (.raise e : Sem α)).wrap K H gd lv) gd lv) fs s P) : SegX (model prog w) A c ((m.onRaise h).wrap K H gd lv) fs s P := by
  rw [wrap_onRaise]; exact x
theorem sx_keep {α : Type} {m : Sem α} {vs : List Value} {K : α → Sem Fin} {H : Value → Sem Fin} {gd lv} (x : SegX (model prog w) A c (m.wrap K H gd (fun l => lv (vs ++ l))) fs s P) : SegX (model prog w) A c ((m.keep vs).wrap K H gd lv) fs s P := by
  rw [wrap_keep]; exact x
theorem sx_holding {α : Type} {m : Sem α} {vs : List Value} {K : α → Sem Fin} {H : Value → Sem Fin} {gd lv} (x : ∀ lv', SegX (model prog w) A c (m.wrap K H gd lv') fs s P) : SegX (model prog w) A c ((holding vs m).wrap K H gd lv) fs s P := by
  unfold holding
  split
  · exact x _
  · exact sx_keep (x _)
theorem sx_top {t : Sem Fin} (h : SegX (model prog w) A c (t.wrap .pure .raise id id) fs s P) : SegX (model prog w) A c t fs s P := by
  have : ∀ t : Sem Fin, t.wrap .pure .raise id id = t := fun t => by induction t <;> simp only [Sem.wrap, id, *]
  rw [this] at h; exact h
theorem sx_topOn {t : Sem Fin} {h : Value → Sem Unit} (x : SegX (model prog w) A c (t.wrap .pure (fun e => (h e).bind fun _ => .raise e) id id) fs s P) : SegX (model prog w) A c (t.onRaise h) fs s P := by
  rw [Sem.onRaise_eq_wrap]; exact x
theorem sx_call {α : Type} {c' : Code} {hd : Option Value} {g : Bool} {l : List Value} {k : Result → Sem α} {K : α → Sem Fin} {H : Value → Sem Fin} {gd lv}
    (x : ∀ p, SegX (model prog w) A c' (denote table c') (.ret (fun r => (k r).wrap K H gd lv) hd (gd g) (lv l) c p [] :: fs) s P) : SegX (model prog w) A c ((Sem.call c' hd g l k).wrap K H gd lv) fs s P :=
  s_call prog w A c fs P s c' hd (gd g) (lv l) _ x
theorem den_builtin {id : String} {args : Args} {b : Builtin} (h : entryFor table id = some b) : denote table (.builtin id args) = b args := by simp only [denote, h]
end
theorem entry_yf : entryFor table "proto.yield_from" = some Builtin.«proto.yield_from» := entryFor_of_tree (by kernel_rfl)
theorem li_no_close : typeLookup (.type "list_iterator") "close" = pure none := by rw [typeLookup_type, builtinLookup_eq_fast]; kernel_rfl
abbrev yfCode (it : Addr) : Code := .builtin "proto.yield_from" ⟨[.ref it, .bool false, .none], []⟩
section
variable {prog : Program} {w : World} {A : Around} {fs : List Frame} {P : End → Shared → Prop} {s : Shared}
theorem yf_item {it l : Addr} {i : Nat} {xs : Array Value} {v : Value} (hit : s.heap.IsListIter it l i) (hl : s.heap.IsList l xs) (hx : xs[i]? = some v) (hfs : splitAtGen fs = none) (hfg : fs.any Frame.guarded = false)
    (h : ∀ k lv p h', h'.IsListIter it l (i + 1) → Heap.SameBut it s.heap h' →
      (∀ A' fs' s' P', s'.TypeIs (.ref it) "list_iterator" → SegX (model prog w) A' (yfCode it) (denote table (yfCode it)) fs' s' P' → SegX (model prog w) A' (yfCode it) (k (.send .none)) fs' s' P') →
      P (.susp v false lv k (yfCode it) p fs) { s with heap := h' }) :
    SegX (model prog w) A (yfCode it) (denote table (yfCode it)) fs s P := by
  rw [den_builtin entry_yf]
  unfold Builtin.«proto.yield_from»
  refine sx_top ?_
  refine sx_then (wpAny_pure ?_)
  obtain ⟨o, ho, hc, hd⟩ := id hit
  obtain ⟨ol, hol, _, nl, hdl⟩ := hl
  refine sx_then (wpAny_attempt (wpAny_holding ?_))
  simp only [Bool.false_eq_true, if_false, beq_self_eq_true, if_true]
  refine wpAny_bind (wpAny_rule (wpAny_bind (wpAny_callSpecial?_slot (name := Str.ofString "__next__") hit.typeIs slot_listiter_next
    (wpAny_call_entry slot_listiter_next hit.typeIs entry_listiter_next ?_ (args_listiter_next _)))))
  show wpAny _ _ (field (.ref it) 0 >>= _) _ _ s
  refine wpAny_bind (wpAny_field ho hd (x := .ref l) rfl ?_)
  show wpAny _ _ (if (Value.ref l == Value.none) = true then _ else _) _ _ s
  rw [if_neg (show ¬ ((Value.ref l == Value.none) = true) from Bool.false_ne_true)]
  show wpAny _ _ (field (.ref it) 1 >>= _) _ _ s
  refine wpAny_bind (wpAny_field ho hd (x := .int i 0) rfl ?_)
  show wpAny _ _ (seqItems? (.ref l) >>= _) _ _ s
  refine wpAny_bind (wpAny_seqItems hol hdl ?_)
  simp only [Int.toNat_natCast, hx]
  refine wpAny_bind (wpAny_setField ho hd (by simp) (wpAny_pure ⟨v, rfl, wpAny_pure ?_⟩))
  have hs' := Heap.SameBut.update s.heap it (Obj.mapFields fun vs => vs.setIfInBounds 1 (rawInt ((i : Int) + 1)))
  have hit' : (s.heap.update it (Obj.mapFields fun vs => vs.setIfInBounds 1 (rawInt ((i : Int) + 1)))).IsListIter it l (i + 1) :=
    ⟨_, Heap.get?_update_self _ ho (Obj.isFreed_of_fields (Obj.data_mapFields hd _)), (Obj.cls_mapFields ..).trans hc, by rw [Obj.data_mapFields hd]; simp [rawInt]⟩
  generalize (s.heap.update it (Obj.mapFields fun vs => vs.setIfInBounds 1 (rawInt ((i : Int) + 1)))) = h' at hs' hit' ⊢
  have hT' : ({ s with heap := h' } : Shared).TypeIs (.ref it) "list_iterator" := hit'.typeIs (s := { s with heap := h' })
  obtain ⟨o', ho', hc', hd'⟩ := id hit'
  refine sx_then (wpAny_typeOf hT' ?_)
  refine sx_then (wpAny_of_eq li_no_close ?_)
  refine sx_then (wpAny_pure ?_)
  have slept : ∀ b (s' : Shared), s'.TypeIs (.ref it) "list_iterator" → ∀ (A' : Around) (Q : Unit → Shared → Prop) (E : Value → Shared → Prop), Q () s' → wpAny (model prog w) A' (Builtin.Generator.sleptOver (.ref it) b) Q E s' := fun b s' hT A' Q E hq => by
    obtain ⟨o₁, ho₁, hc₁⟩ := hT
    unfold Builtin.Generator.sleptOver
    refine wpAny_bind (wpAny_load ho₁ ?_)
    rw [hc₁]
    exact wpAny_pure hq
  refine sx_then (slept _ _ hT' _ _ _ ?_)
  refine s_yield _ _ _ _ _ _ _ _ _ _ hfs hfg fun p => ?_
  refine h _ _ p h' hit' hs' fun A' fs' s' P' hT hseg => ?_
  refine sx_then (wpAny_pure ?_)
  refine sx_then (slept _ _ hT _ _ _ ?_)
  refine sx_then (wpAny_of_eq (a := Value.none) rfl ?_)
  exact s_again _ _ _ _ _ _ _ _ (Code.quiet_builtin _ (by decide +kernel)) hseg
theorem yf_end {it l : Addr} {i : Nat} {xs : Array Value} (hA : (A.over (yfCode it) fs).handled = none) (hit : s.heap.IsListIter it l i) (hl : s.heap.IsList l xs) (hx : xs[i]? = none)
    (h : ∀ h', Heap.ExtBut it s.heap h' → SegX (model prog w) A (yfCode it) (leafOf (.ok (.ret .none))) fs { s with heap := h' } P) :
    SegX (model prog w) A (yfCode it) (denote table (yfCode it)) fs s P := by
  rw [den_builtin entry_yf]
  unfold Builtin.«proto.yield_from»
  refine sx_top ?_
  refine sx_then (wpAny_pure ?_)
  obtain ⟨o, ho, hc, hd⟩ := id hit
  obtain ⟨ol, hol, _, nl, hdl⟩ := hl
  refine sx_then (wpAny_attempt (wpAny_holding ?_))
  simp only [Bool.false_eq_true, if_false, beq_self_eq_true, if_true]
  refine wpAny_bind (wpAny_rule (wpAny_bind (wpAny_callSpecial?_slot (name := Str.ofString "__next__") hit.typeIs slot_listiter_next
    (wpAny_call_entry slot_listiter_next hit.typeIs entry_listiter_next ?_ (args_listiter_next _)))))
  show wpAny _ _ (field (.ref it) 0 >>= _) _ _ s
  refine wpAny_bind (wpAny_field ho hd (x := .ref l) rfl ?_)
  show wpAny _ _ (if (Value.ref l == Value.none) = true then _ else _) _ _ s
  rw [if_neg (show ¬ ((Value.ref l == Value.none) = true) from Bool.false_ne_true)]
  show wpAny _ _ (field (.ref it) 1 >>= _) _ _ s
  refine wpAny_bind (wpAny_field ho hd (x := .int i 0) rfl ?_)
  show wpAny _ _ (seqItems? (.ref l) >>= _) _ _ s
  refine wpAny_bind (wpAny_seqItems hol hdl ?_)
  simp only [Int.toNat_natCast, hx]
  refine wpAny_bind (wpAny_rule (wpAny_bind (wpAny_setField ho hd (by simp) ?_)))
  show wpAny _ _ (newExc (.type "StopIteration") [] >>= _) _ _ _
  refine wpAny_bind ?_
  simp only [newExc, newTuple]
  refine wpAny_bind (wpAny_newObj_type ?_ (by size_fits))
  refine wpAny_bind (m := firstArgMember _ _) (wpAny_of_eq (a := Value.none) (by first | rfl | (simp only [firstArgMember]; rfl)) ?_)
  refine wpAny_newObj_type ?_ (by size_fits)
  simp only [raiseNew]
  refine wpAny_bind (wpAny_handled ?_)
  rw [show (A.over (yfCode it) fs).in1.handled = none from hA]
  refine wpAny_bind (wpAny_pure (wpAny_throw ?_))
  have hs' := (((Heap.SameBut.update s.heap it (Obj.mapFields fun vs => vs.setIfInBounds 0 Value.none)).extBut.push { cls := .type "tuple", data := .seq #[] }).push
    { cls := .type "StopIteration", data := .fields (#[.ref (s.heap.update it (Obj.mapFields fun vs => vs.setIfInBounds 0 Value.none)).objs.size, .none, .none, .none, .bool false, .none] ++ ownMembersOf (.type "StopIteration") []) })
  have he := Heap.get?_push_size ((s.heap.update it (Obj.mapFields fun vs => vs.setIfInBounds 0 Value.none)).push { cls := .type "tuple", data := .seq #[] })
    (o := { cls := .type "StopIteration", data := .fields (#[.ref (s.heap.update it (Obj.mapFields fun vs => vs.setIfInBounds 0 Value.none)).objs.size, .none, .none, .none, .bool false, .none] ++ ownMembersOf (.type "StopIteration") []) }) rfl
  generalize (((s.heap.update it (Obj.mapFields fun vs => vs.setIfInBounds 0 Value.none)).push { cls := .type "tuple", data := .seq #[] }).push
    { cls := .type "StopIteration", data := .fields (#[.ref (s.heap.update it (Obj.mapFields fun vs => vs.setIfInBounds 0 Value.none)).objs.size, .none, .none, .none, .bool false, .none] ++ ownMembersOf (.type "StopIteration") []) }) = h' at hs' he ⊢
  generalize ((s.heap.update it (Obj.mapFields fun vs => vs.setIfInBounds 0 Value.none)).push { cls := .type "tuple", data := .seq #[] }).objs.size = e at he ⊢
  have hT : ({ s with heap := h' } : Shared).TypeIs (.ref e) "StopIteration" := ⟨_, he, rfl⟩
  refine sx_then ?_
  unfold Builtin.Generator.endsTheTurnAsAValue Builtin.Generator.isStopAndMetaclass
  refine wpAny_bind (wpAny_bind (wpAny_typeOf hT (wpAny_bind (wpAny_of_eq isSubtype_stop (wpAny_bind (wpAny_of_eq (a := .type "type") (by kernel_rfl) (wpAny_pure (wpAny_pure ?_))))))))
  refine sx_then (wpAny_rule (sx_then (wpAny_field he rfl (x := .none) (by kernel_rfl) ?_)))
  exact h _ hs'
end
end Mine
end

section
open PySem PySem.W PyProof.Rows PySem.W.X
set_option maxRecDepth 100000
namespace Mine
structure Aok (k : Nat) (A : Around) : Prop where
  handled : A.handled = none
  depth : A.depth + k < recursionLimit
  units : A.units + 8 * k < cLine
theorem Aok.le {k j : Nat} {A : Around} (h : Aok k A) (e : j ≤ k) : Aok j A := ⟨h.handled, by have := h.depth; omega, by have := h.units; omega⟩
theorem Aok.in1 {k : Nat} {A : Around} (h : Aok (k + 1) A) : Aok k A.in1 := ⟨h.handled, by have := h.depth; show A.depth + k < _; omega, by have := h.units; show A.units + 1 + 8 * k < _; omega⟩
theorem Aok.deeper {k : Nat} {A : Around} {env : Env} (h : Aok (k + 1) A) : Aok k (A.deeper env) := ⟨h.handled, by have := h.depth; show A.depth + 1 + k < _; omega, by have := h.units; show A.units + 3 + 8 * k < _; omega⟩
theorem Aok.room {k : Nat} {A : Around} (h : Aok k A) : A.depth < recursionLimit := by have := h.depth; omega

/-- a state without a frame -/
structure St0 (W : Wd) (G : Gens) (nw : Ledger) (s : Shared) : Prop where
  ok : W.Ok
  led : Led W.B nw s.heap
  bare : AllBare s.gens
  os : s.os = W.os
  gens : ∀ p ∈ G, s.gens[p.1]? = some p.2
  gnd : (G.map Prod.fst).Nodup

def Wake (W : Wd) (A : Around) (gs : GenState) (s : Shared) (P : End → Shared → Prop) : Prop := match gs with
  | .fresh c => SegX (model W.prog W.w) A c (denote table c) [] s P
  | .suspended k _ c _ fs _ => SegX (model W.prog W.w) A c (k (.send .none)) fs s P
  | _ => False

/-- a generator that will hand out vs, then end; own: its private things, sh: what it reads -/
def GoodGen (W : Wd) (sh : Ledger) : List Value → GenState → Ledger → Prop
  | [], gs, own => ∀ A R GR s, Aok 6 A → St0 W GR (R ++ (sh ++ own)) s → Wake W A gs s (fun e s' => e = .ret (.ok (.ret .none)) ∧ St0 W GR (R ++ sh) s')
  | v :: vs, gs, own => ∀ A R GR s, Aok 6 A → St0 W GR (R ++ (sh ++ own)) s → Wake W A gs s (fun e s' => ∃ own', e.result = .yielded v ∧ St0 W GR (R ++ (sh ++ own')) s' ∧ GoodGen W sh vs e.genState own')

def plainIt (o : Obj) : Bool := match o.cls with
  | .type n => !(["enumerate", "zip", "dict_itemiterator", "dict_reverseitemiterator", "odict_iterator", "itertools.zip_longest", "itertools.pairwise"].contains n)
  | _ => true
def Typ (sh : Ledger) (it : Addr) (own : Ledger) : Prop := ∃ c, (it, c) ∈ sh ++ own ∧ ∀ o, c o → plainIt o = true
/-- an iterator that will hand out vs, then end -/
def Yields (W : Wd) (sh : Ledger) (it : Addr) : List Value → Ledger → Gens → Prop
  | [], own, og => Typ sh it own ∧ (∀ A R GR s (Q : Option Value → Shared → Prop) E, Aok 7 A → St0 W (GR ++ og) (R ++ (sh ++ own)) s → (∀ s', St0 W GR (R ++ sh) s' → Q none s') → wpAny (model W.prog W.w) A (pyNext (.ref it)) Q E s)
  | v :: vs, own, og => Typ sh it own ∧ (∀ A R GR s (Q : Option Value → Shared → Prop) E, Aok 7 A → St0 W (GR ++ og) (R ++ (sh ++ own)) s → (∀ own' og' s', St0 W (GR ++ og') (R ++ (sh ++ own')) s' → Yields W sh it vs own' og' → Q (some v) s') →
      wpAny (model W.prog W.w) A (pyNext (.ref it)) Q E s)

def IsGenO (g : Nat) : Cell := fun o => ∃ nm qn, o = { cls := .type "generator", data := .fields #[.int g 0, nm, qn] }
def IsLI (l : Addr) (i : Nat) : Cell := fun o => o.cls = .type "list_iterator" ∧ o.data = .fields #[.ref l, .int i 0]
def IsRI (l : Addr) (i : Int) : Cell := fun o => o.cls = .type "list_reverseiterator" ∧ o.data = .fields #[.ref l, rawInt i]

theorem SegX.withQuiet {M : Model} {A : Around} {c : Code} {t : Sem Fin} {fs : List Frame} {s : Shared} {P : End → Shared → Prop} (x : SegX M A c t fs s P) : SegX M A c t fs s (fun e s' => e.quiet = true ∧ P e s') := fun Γ p hc hΓ => by
  obtain ⟨e, s', hr, hq, hp⟩ := x Γ p hc hΓ
  exact ⟨e, s', hr, hq, hq, hp⟩
theorem Wake.mono {W : Wd} {A : Around} {gs : GenState} {s : Shared} {P P' : End → Shared → Prop} (x : Wake W A gs s P) (h : ∀ e s', e.quiet = true → P e s' → P' e s') : Wake W A gs s P' := by
  cases gs with
  | fresh c => exact SegX.mono (SegX.withQuiet x) fun e s' q => h e s' q.1 q.2
  | suspended k l c p fs cl => exact SegX.mono (SegX.withQuiet x) fun e s' q => h e s' q.1 q.2
  | running => exact x.elim
  | finished => exact x.elim

section
variable {W : Wd} {A : Around} {E : Value → Shared → Prop} {s : Shared}
theorem wake_resume {g : Nat} {gs : GenState} {l : List Value} {α : Type} {k : GenResult → Sem α} {Q : α → Shared → Prop} (hg : s.gens[g]? = some gs)
    (x : Wake W A gs (s.setGen g .running) (fun e s₁ => wpAny (model W.prog W.w) A (k e.result) Q E (s₁.setGen g e.genState))) :
    wpAny (model W.prog W.w) A (.resume g (.send .none) l k) Q E s := by
  intro Γ p hΓ
  cases gs with
  | fresh c => exact wake_any α W.prog W.w hg (.inl ⟨rfl, rfl, rfl, rfl⟩) (fun Γ => Γ.In A) (fun _ h => h) (SegX.mono x fun e s₁ h Γ p hC => h Γ p hC) Γ p hΓ
  | suspended k₀ l₀ c₀ p₀ fs₀ cl => exact wake_any α W.prog W.w hg (.inr ⟨k₀, l₀, p₀, cl, rfl, rfl⟩) (fun Γ => Γ.In A) (fun _ h => h) (SegX.mono x fun e s₁ h Γ p hC => h Γ p hC) Γ p hΓ
  | running => exact x.elim
  | finished => exact x.elim

theorem next_gen {a : Addr} {g : Nat} {gs : GenState} {Q : Option Value → Shared → Prop} (hA : Aok 7 A) (hl : s.heap.NoLimit) (hg : s.heap.IsGen a g) (hgs : s.gens[g]? = some gs)
    (x : Wake W A.in1 gs (s.setGen g .running) (fun e s₁ => (e = .ret (.ok (.ret .none)) ∧ ∀ h', (∀ b o, s₁.heap.get? b = some o → h'.get? b = some o) → Q none { s₁.setGen g .finished with heap := h' }) ∨ (∃ v, e.result = .yielded v ∧ Q (some v) (s₁.setGen g e.genState)))) :
    wpAny (model W.prog W.w) A (pyNext (.ref a)) Q E s := by
  unfold pyNext
  refine wpAny_bind (wpAny_attempt (wpAny_callSpecial?_slot (name := Str.ofString "__next__") hg.typeIs slot_gen_next
    (wpAny_call_entry slot_gen_next hg.typeIs entry_gen_next ?_ (args_gen_next _))))
  show wpAny _ _ (Builtin.Generator.genWake (.ref a) (.send .none)) _ _ s
  unfold Builtin.Generator.genWake
  refine wpAny_bind (wpAny_holding (wpAny_genNumber hg (wpAny_bind (wpAny_genState hgs ?_))))
  have hd : A.in1.depth < recursionLimit := by have := hA.depth; show A.depth < recursionLimit; omega
  cases gs with
  | running => exact x.elim
  | finished => exact x.elim
  | _ =>
    refine wpAny_bind (wpAny_roomToWake hl hd ?_)
    show wpAny _ _ (.resume g (.send .none) [] _) _ _ s
    refine wake_resume (W := W) hgs (Wake.mono x fun e s₁ hq he => ?_)
    rcases he with ⟨rfl, hQ⟩ | ⟨v, hv, hQ⟩
    · show wpAny _ _ (newExc (.type "StopIteration") [] >>= _) _ _ _
      refine wpAny_bind ?_
      simp only [newExc, newTuple]
      refine wpAny_bind (wpAny_newObj_type ?_ (by size_fits))
      refine wpAny_bind (m := firstArgMember _ _) (wpAny_of_eq (a := Value.none) (by first | rfl | (simp only [firstArgMember]; rfl)) ?_)
      refine wpAny_newObj_type ?_ (by size_fits)
      simp only [raiseNew]
      refine wpAny_bind (wpAny_bind (wpAny_handled ?_))
      rw [show A.in1.handled = none from hA.handled]
      refine wpAny_throw ?_
      refine wpAny_bind (wpAny_isInstance (T := "StopIteration") (b := true) ⟨_, Heap.get?_push_size _ rfl, rfl⟩ isSubtype_stop ?_)
      exact wpAny_pure (hQ _ fun b o hb => Heap.get?_push_of_some _ (Heap.get?_push_of_some _ hb))
    · rw [hv]
      exact wpAny_pure ⟨v, rfl, wpAny_pure hQ⟩

theorem Led.fold {B h : Heap} {nw nw' : Ledger} (D : Led B nw h) (e : ∀ p, p ∈ nw' → p ∈ nw) (nd : (nw'.map Prod.fst).Nodup) : Led B nw' h := ⟨D.keep, fun p hp => D.own p (e p hp), nd⟩

theorem setGen_heap (s : Shared) (g : Nat) (x : GenState) : (s.setGen g x).heap = s.heap := rfl
theorem setGen_os (s : Shared) (g : Nat) (x : GenState) : (s.setGen g x).os = s.os := rfl
theorem setGen_gens (s : Shared) (g : Nat) (x : GenState) : (s.setGen g x).gens = s.gens.setIfInBounds g x := rfl
theorem bare_set {gens : Array GenState} {g : Nat} {x : GenState} (h : AllBare gens) (hx : x.bare = true) : AllBare (gens.setIfInBounds g x) := fun y hy => by
  rcases Array.mem_or_eq_of_mem_setIfInBounds hy with h1 | h1
  · exact h y h1
  · rw [h1]; exact hx

theorem run_state {GR : Gens} {nw nw' : Ledger} {g : Nat} {gs : GenState} (S : St0 W (GR ++ [(g, gs)]) nw s) (D : Led W.B nw' s.heap) : St0 W (GR ++ [(g, .running)]) nw' (s.setGen g .running) := by
  have hgs : s.gens[g]? = some gs := S.gens (g, gs) (by simp)
  refine ⟨S.ok, D, bare_set S.bare rfl, S.os, fun p hp => ?_, by have := S.gnd; rw [List.map_append] at this ⊢; exact this⟩
  rw [setGen_gens]
  rcases List.mem_append.mp hp with hp | hp
  · have hne : p.1 ≠ g := fun e => by
      have nd := S.gnd
      rw [List.map_append, List.nodup_append] at nd
      exact nd.2.2 p.1 (List.mem_map_of_mem hp) g (by simp) e
    rw [Array.getElem?_setIfInBounds_ne (Ne.symm hne)]
    exact S.gens p (by simp [hp])
  · have : p = (g, .running) := by simpa using hp
    subst this
    have hlt : g < s.gens.size := (Array.getElem?_eq_some_iff.mp hgs).1
    simp [hlt]
theorem put_state {GR : Gens} {nw nw' : Ledger} {g : Nat} {gs gs' : GenState} {h' : Heap} (S : St0 W (GR ++ [(g, gs)]) nw s) (D : Led W.B nw' h') (hb : gs'.bare = true) : St0 W (GR ++ [(g, gs')]) nw' { s.setGen g gs' with heap := h' } := by
  have hgs : s.gens[g]? = some gs := S.gens (g, gs) (by simp)
  refine ⟨S.ok, D, bare_set S.bare hb, S.os, fun p hp => ?_, by have := S.gnd; rw [List.map_append] at this ⊢; exact this⟩
  show (s.gens.setIfInBounds g gs')[p.1]? = _
  rcases List.mem_append.mp hp with hp | hp
  · have hne : p.1 ≠ g := fun e => by
      have nd := S.gnd
      rw [List.map_append, List.nodup_append] at nd
      exact nd.2.2 p.1 (List.mem_map_of_mem hp) g (by simp) e
    rw [Array.getElem?_setIfInBounds_ne (Ne.symm hne)]
    exact S.gens p (by simp [hp])
  · have : p = (g, gs') := by simpa using hp
    subst this
    have hlt : g < s.gens.size := (Array.getElem?_eq_some_iff.mp hgs).1
    simp [hlt]
theorem St0.fewer {G G' : Gens} {nw : Ledger} (S : St0 W (G ++ G') nw s) : St0 W G nw s :=
  ⟨S.ok, S.led, S.bare, S.os, fun p hp => S.gens p (by simp [hp]), by have := S.gnd; rw [List.map_append] at this; exact (List.nodup_append.mp this).1⟩
theorem yields_gen {sh : Ledger} {a : Addr} {g : Nat} : ∀ {vs : List Value} {gs : GenState} {own : Ledger}, GoodGen W sh vs gs own → Yields W sh a vs (own ++ [(a, IsGenO g)]) [(g, gs)]
  | [], gs, own, H => ⟨⟨IsGenO g, by simp, fun o ⟨_, _, e⟩ => by subst e; unfold plainIt; show (!(["enumerate", "zip", "dict_itemiterator", "dict_reverseitemiterator", "odict_iterator", "itertools.zip_longest", "itertools.pairwise"].contains "generator")) = true; decide⟩, fun A R GR s Q E hA S hQ => by
    have D := S.led
    obtain ⟨o, ho, nm, qn, rfl⟩ := D.get (a := a) (c := IsGenO g) (by simp)
    have hgs : s.gens[g]? = some gs := S.gens (g, gs) (by simp)
    have D' : Led W.B ((R ++ [(a, IsGenO g)]) ++ (sh ++ own)) s.heap := D.perm (by
      rw [List.append_assoc]
      refine List.Perm.append_left _ ?_
      rw [← List.append_assoc]
      exact List.perm_append_comm)
    refine next_gen (W := W) hA (S.ok.nolimit.keeps D.keep) ⟨_, nm, qn, ho, rfl, rfl, rfl⟩ hgs (Wake.mono (H A.in1 (R ++ [(a, IsGenO g)]) _ (s.setGen g .running) hA.in1 (run_state S D')) fun e s₁ hq he => ?_)
    obtain ⟨he, S1⟩ := he
    refine .inl ⟨he, fun h' hk => hQ _ ?_⟩
    exact (put_state S1 ((S1.led.grow hk).sub (List.Sublist.append (List.sublist_append_left _ _) (List.Sublist.refl _))) rfl).fewer⟩
  | v :: vs, gs, own, H => ⟨⟨IsGenO g, by simp, fun o ⟨_, _, e⟩ => by subst e; unfold plainIt; show (!(["enumerate", "zip", "dict_itemiterator", "dict_reverseitemiterator", "odict_iterator", "itertools.zip_longest", "itertools.pairwise"].contains "generator")) = true; decide⟩, fun A R GR s Q E hA S hQ => by
    have D := S.led
    obtain ⟨o, ho, nm, qn, rfl⟩ := D.get (a := a) (c := IsGenO g) (by simp)
    have hgs : s.gens[g]? = some gs := S.gens (g, gs) (by simp)
    have D' : Led W.B ((R ++ [(a, IsGenO g)]) ++ (sh ++ own)) s.heap := D.perm (by
      rw [List.append_assoc]
      refine List.Perm.append_left _ ?_
      rw [← List.append_assoc]
      exact List.perm_append_comm)
    refine next_gen (W := W) hA (S.ok.nolimit.keeps D.keep) ⟨_, nm, qn, ho, rfl, rfl, rfl⟩ hgs (Wake.mono (H A.in1 (R ++ [(a, IsGenO g)]) _ (s.setGen g .running) hA.in1 (run_state S D')) fun e s₁ hq he => ?_)
    obtain ⟨own', he, S1, H'⟩ := he
    have D2 : Led W.B (R ++ (sh ++ (own' ++ [(a, IsGenO g)]))) s₁.heap := S1.led.perm (by
      rw [List.append_assoc]
      refine List.Perm.append_left _ ?_
      rw [← List.append_assoc sh]
      exact List.perm_append_comm)
    exact .inr ⟨v, he, hQ (own' ++ [(a, IsGenO g)]) [(g, e.genState)] _ (put_state S1 D2 (End.bare_of_quiet hq)) (yields_gen H')⟩⟩
end
end Mine
end

section
open PySem PySem.W PyProof.Rows PySem.W.X
set_option maxRecDepth 100000
namespace Mine
/-- an iterator that touches no generator -/
def LY (W : Wd) (sh : Ledger) (it : Addr) : List Value → Ledger → Prop
  | [], own => Typ sh it own ∧ ∀ A R s (Q : Option Value → Shared → Prop) E, A.handled = none → Led W.B (R ++ (sh ++ own)) s.heap → (∀ h', Led W.B (R ++ sh) h' → Q none { s with heap := h' }) → wpAny (model W.prog W.w) A (pyNext (.ref it)) Q E s
  | v :: vs, own => Typ sh it own ∧ ∀ A R s (Q : Option Value → Shared → Prop) E, A.handled = none → Led W.B (R ++ (sh ++ own)) s.heap → (∀ own' h', Led W.B (R ++ (sh ++ own')) h' → LY W sh it vs own' → Q (some v) { s with heap := h' }) → wpAny (model W.prog W.w) A (pyNext (.ref it)) Q E s

theorem LY.yields {W : Wd} {sh : Ledger} {it : Addr} : ∀ {vs : List Value} {own : Ledger}, LY W sh it vs own → Yields W sh it vs own []
  | [], own, H => ⟨H.1, fun A R GR s Q E hA S hQ => H.2 A R s Q E hA.handled S.led fun h' D => hQ _ ⟨S.ok, D, S.bare, S.os, fun p hp => S.gens p (by simpa using hp), by have := S.gnd; simpa using this⟩⟩
  | v :: vs, own, H => ⟨H.1, fun A R GR s Q E hA S hQ => H.2 A R s Q E hA.handled S.led fun own' h' D H' => hQ own' [] _ ⟨S.ok, D, S.bare, S.os, S.gens, S.gnd⟩ H'.yields⟩

/-- the same with what is handed out known by a relation -/
def YieldsR (W : Wd) (sh : Ledger) (it : Addr) {α : Type} (P : α → Value → Prop) : List α → Ledger → Gens → Prop
  | [], own, og => Typ sh it own ∧ (∀ A R GR s (Q : Option Value → Shared → Prop) E, Aok 7 A → St0 W (GR ++ og) (R ++ (sh ++ own)) s → (∀ s', St0 W GR (R ++ sh) s' → Q none s') → wpAny (model W.prog W.w) A (pyNext (.ref it)) Q E s)
  | x :: xs, own, og => Typ sh it own ∧ (∀ A R GR s (Q : Option Value → Shared → Prop) E, Aok 7 A → St0 W (GR ++ og) (R ++ (sh ++ own)) s → (∀ v own' og' s', P x v → St0 W (GR ++ og') (R ++ (sh ++ own')) s' → YieldsR W sh it P xs own' og' → Q (some v) s') →
      wpAny (model W.prog W.w) A (pyNext (.ref it)) Q E s)
theorem Yields.rel {W : Wd} {sh : Ledger} {it : Addr} : ∀ {vs : List Value} {own : Ledger} {og : Gens}, Yields W sh it vs own og → YieldsR W sh it (fun x v => v = x) vs own og
  | [], _, _, H => H
  | _ :: _, _, _, H => ⟨H.1, fun A R GR s Q E hA S hQ => H.2 A R GR s Q E hA S fun own' og' s' S' H' => hQ _ own' og' s' rfl S' H'.rel⟩
theorem YieldsR.map {W : Wd} {sh : Ledger} {it : Addr} {α β : Type} {P : α → Value → Prop} {P' : β → Value → Prop} (f : α → β) (h : ∀ x v, P x v → P' (f x) v) : ∀ {xs : List α} {own : Ledger} {og : Gens}, YieldsR W sh it P xs own og → YieldsR W sh it P' (xs.map f) own og
  | [], _, _, H => H
  | _ :: _, _, _, H => ⟨H.1, fun A R GR s Q E hA S hQ => H.2 A R GR s Q E hA S fun v own' og' s' p S' H' => hQ v own' og' s' (h _ _ p) S' (YieldsR.map f h H')⟩

theorem Led.isLst {B h : Heap} {nw : Ledger} {a : Addr} {xs : List Value} (D : Led B nw h) (m : (a, IsLst xs) ∈ nw) : h.IsList a xs.toArray := by
  obtain ⟨o, ho, n, rfl⟩ := D.get m
  exact ⟨_, ho, rfl, n, rfl⟩

/-- one entry at the back turned -/
theorem Led.back {B h h' : Heap} {nw : Ledger} {a : Addr} {c c' : Cell} {post : Ledger} (D : Led B (nw ++ ((a, c) :: post)) h) (hs : ∀ b o, b ≠ a → h.get? b = some o → h'.get? b = some o) {o : Obj} (ho : h'.get? a = some o) (hc : c' o) : Led B (nw ++ ((a, c') :: post)) h' := by
  have D1 : Led B ((a, c) :: (nw ++ post)) h := D.perm List.perm_middle
  exact (D1.set .head hs ho hc).perm List.perm_middle.symm
theorem Led.dropBack {B h h' : Heap} {nw : Ledger} {a : Addr} {c : Cell} {post : Ledger} (D : Led B (nw ++ ((a, c) :: post)) h) (hs : ∀ b o, b ≠ a → h.get? b = some o → h'.get? b = some o) : Led B (nw ++ post) h' := by
  have D1 : Led B ((a, c) :: (nw ++ post)) h := D.perm List.perm_middle
  have hB := (D1.own _ (.head _)).1
  have nd := D1.nodup
  rw [List.map_cons, List.nodup_cons] at nd
  refine ⟨fun b o e => hs b o (fun q => by rw [q] at e; rw [hB] at e; cases e) (D1.keep b o e), fun p hp => ?_, nd.2⟩
  obtain ⟨x, o, ho, hc⟩ := D1.own p (.tail _ hp)
  exact ⟨x, o, hs _ _ (fun q => nd.1 (List.mem_map.mpr ⟨p, hp, q⟩)) ho, hc⟩

theorem ly_list {W : Wd} {sh : Ledger} {it l : Addr} {xs : List Value} {own₀ : Ledger} (m : (l, IsLst xs) ∈ sh ++ own₀) : ∀ (vs : List Value) (i : Nat), xs.drop i = vs → LY W sh it vs ((it, IsLI l i) :: own₀)
  | [], i, e => ⟨⟨IsLI l i, by simp, fun o h => by unfold plainIt; rw [h.1]; decide⟩, fun A R s Q E hA D hQ => by
    have D0 : Led W.B ((R ++ sh) ++ ((it, IsLI l i) :: own₀)) s.heap := by rw [List.append_assoc]; exact D
    obtain ⟨o, ho, hcl, hda⟩ := D0.get (a := it) (c := IsLI l i) (by simp)
    have hl := D0.isLst (a := l) (xs := xs) (by
      rcases List.mem_append.mp m with m | m
      · simp [m]
      · simp [m])
    refine wpAny_pyNext_list_end hA ⟨_, ho, hcl, hda⟩ hl (by simpa [List.drop_eq_nil_iff] using e) fun h' hx => hQ h' ?_
    exact (D0.dropBack fun b o hb e => hx b o hb e).sub (List.sublist_append_left _ _)⟩
  | v :: vs, i, e => ⟨⟨IsLI l i, by simp, fun o h => by unfold plainIt; rw [h.1]; decide⟩, fun A R s Q E hA D hQ => by
    have D0 : Led W.B ((R ++ sh) ++ ((it, IsLI l i) :: own₀)) s.heap := by rw [List.append_assoc]; exact D
    obtain ⟨o, ho, hcl, hda⟩ := D0.get (a := it) (c := IsLI l i) (by simp)
    have hl := D0.isLst (a := l) (xs := xs) (by
      rcases List.mem_append.mp m with m | m
      · simp [m]
      · simp [m])
    have hx : xs[i]? = some v := by
      have := congrArg List.head? e
      simpa [List.head?_drop] using this
    have e' : xs.drop (i + 1) = vs := by
      have := congrArg List.tail e
      simpa [List.tail_drop] using this
    refine wpAny_pyNext_list_item ⟨_, ho, hcl, hda⟩ hl (by simpa using hx) fun h' hit hs => ?_
    obtain ⟨o', ho', hc', hd'⟩ := hit
    have D1 := D0.back (c' := IsLI l (i + 1)) (fun b o hb e => (hs.2 b hb).trans e) ho' ⟨hc', hd'⟩
    exact hQ ((it, IsLI l (i + 1)) :: own₀) h' (by rw [← List.append_assoc]; exact D1) (ly_list m vs (i + 1) e')⟩

theorem ly_base {W : Wd} {sh : Ledger} {it l : Addr} {xs : List Value} (m : W.B.IsList l xs.toArray) : ∀ (vs : List Value) (i : Nat), xs.drop i = vs → LY W sh it vs [(it, IsLI l i)]
  | [], i, e => ⟨⟨IsLI l i, by simp, fun o h => by unfold plainIt; rw [h.1]; decide⟩, fun A R s Q E hA D hQ => by
    have D0 : Led W.B ((R ++ sh) ++ ((it, IsLI l i) :: [])) s.heap := by rw [List.append_assoc]; exact D
    obtain ⟨o, ho, hcl, hda⟩ := D0.get (a := it) (c := IsLI l i) (by simp)
    have hl : s.heap.IsList l xs.toArray := let ⟨o, e, r⟩ := m; ⟨o, D0.keep _ _ e, r⟩
    refine wpAny_pyNext_list_end hA ⟨_, ho, hcl, hda⟩ hl (by simpa [List.drop_eq_nil_iff] using e) fun h' hx => hQ h' ?_
    exact (D0.dropBack fun b o hb e => hx b o hb e).sub (List.sublist_append_left _ _)⟩
  | v :: vs, i, e => ⟨⟨IsLI l i, by simp, fun o h => by unfold plainIt; rw [h.1]; decide⟩, fun A R s Q E hA D hQ => by
    have D0 : Led W.B ((R ++ sh) ++ ((it, IsLI l i) :: [])) s.heap := by rw [List.append_assoc]; exact D
    obtain ⟨o, ho, hcl, hda⟩ := D0.get (a := it) (c := IsLI l i) (by simp)
    have hl : s.heap.IsList l xs.toArray := let ⟨o, e, r⟩ := m; ⟨o, D0.keep _ _ e, r⟩
    have hx : xs[i]? = some v := by
      have := congrArg List.head? e
      simpa [List.head?_drop] using this
    have e' : xs.drop (i + 1) = vs := by
      have := congrArg List.tail e
      simpa [List.tail_drop] using this
    refine wpAny_pyNext_list_item ⟨_, ho, hcl, hda⟩ hl (by simpa using hx) fun h' hit hs => ?_
    obtain ⟨o', ho', hc', hd'⟩ := hit
    have D1 := D0.back (c' := IsLI l (i + 1)) (fun b o hb e => (hs.2 b hb).trans e) ho' ⟨hc', hd'⟩
    exact hQ [(it, IsLI l (i + 1))] h' (by rw [← List.append_assoc]; exact D1) (ly_base m vs (i + 1) e')⟩

theorem ly_rev {W : Wd} {sh : Ledger} {it l : Addr} {xs : List Value} (m : (l, IsLst xs) ∈ sh) : ∀ (n : Nat), n ≤ xs.length → LY W sh it (xs.take n).reverse [(it, IsRI l ((n : Int) - 1))]
  | 0, _ => ⟨⟨IsRI l (((0 : Nat) : Int) - 1), List.mem_append_right _ (.head _), fun o h => by unfold plainIt; rw [h.1]; decide⟩, fun A R s Q E hA D hQ => by
    have D0 : Led W.B ((R ++ sh) ++ [(it, IsRI l ((0 : Nat) - 1))]) s.heap := by rw [List.append_assoc]; exact D
    obtain ⟨o, ho, hcl, hda⟩ := D0.get (a := it) (c := IsRI l ((0 : Nat) - 1)) (by simp)
    refine wpAny_pyNext_rev_end hA ⟨o, ho, hcl, hda⟩ fun h' hx => hQ h' ?_
    have := D0.dropBack (h' := h') fun b o hb e => hx b o hb e
    simpa using this⟩
  | n + 1, hn => by
    have hlt : n < xs.length := by omega
    have e : (xs.take (n + 1)).reverse = xs[n] :: (xs.take n).reverse := by
      rw [List.take_succ, List.getElem?_eq_getElem hlt]; simp
    rw [e]
    refine ⟨⟨IsRI l (((n + 1 : Nat) : Int) - 1), List.mem_append_right _ (.head _), fun o h => by unfold plainIt; rw [h.1]; decide⟩, ?_⟩
    intro A R s Q E hA D hQ
    have D0 : Led W.B ((R ++ sh) ++ [(it, IsRI l ((n + 1 : Nat) - 1))]) s.heap := by rw [List.append_assoc]; exact D
    obtain ⟨o, ho, hcl, hda⟩ := D0.get (a := it) (c := IsRI l ((n + 1 : Nat) - 1)) (by simp)
    have hl := D0.isLst (a := l) (xs := xs) (by simp [m])
    have e1 : ((n + 1 : Nat) : Int) - 1 = (n : Int) := by omega
    rw [e1] at hda
    refine wpAny_pyNext_rev_item ⟨o, ho, hcl, hda⟩ hl (x := xs[n]) (by simp [hlt]) fun h' hit hs => ?_
    obtain ⟨o', ho', hc', hd'⟩ := hit
    have D1 := D0.back (c' := IsRI l ((n : Int) - 1)) (fun b o hb e => (hs.2 b hb).trans e) ho' ⟨hc', hd'⟩
    exact hQ [(it, IsRI l ((n : Int) - 1))] h' (by rw [← List.append_assoc]; exact D1) (ly_rev m n (by omega))
end Mine
end

section
open PySem PySem.W PyProof.Rows PySem.W.X
set_option maxRecDepth 100000
namespace Mine
def GenEnd (W : Wd) (sh R : Ledger) (GR : Gens) (vs : List Value) (e : End) (s' : Shared) : Prop := match vs with
  | [] => e = .ret (.ok (.ret .none)) ∧ St0 W GR (R ++ sh) s'
  | v :: vs => ∃ own', e.result = .yielded v ∧ St0 W GR (R ++ (sh ++ own')) s' ∧ GoodGen W sh vs e.genState own'
theorem goodGen_iff {W : Wd} {sh : Ledger} {vs : List Value} {gs : GenState} {own : Ledger} : GoodGen W sh vs gs own ↔ ∀ A R GR s, Aok 6 A → St0 W GR (R ++ (sh ++ own)) s → Wake W A gs s (GenEnd W sh R GR vs) := by
  cases vs <;> exact Iff.rfl

/-- a frame below a loop of a generator -/
structure FrOk (W : Wd) (fr : Frame) : Prop where
  split : splitAtGen [fr] = none
  guarded : fr.guarded = false
  marks : ∀ x, fr.marks x = x
  weight : fr.where_.1.weight ≤ 1
  units : fr.where_.1.cUnits ≤ 3
  back : ∀ A c s P, P (.ret (.ok (.ret .none))) s → SegX (model W.prog W.w) A c (leafOf (.ok .next)) [fr] s P

theorem St0.sta {W : Wd} {G : Gens} {nw pre post : Ledger} {s : Shared} {env : Env} {loc : Loc} (S : St0 W G nw s) (e : nw = pre ++ ((env.locals, IsNs loc) :: post)) (ok : EnvOk env (loc.map Prod.fst)) : Sta W G env loc (pre ++ post) s := by
  subst e
  exact ⟨S.ok, ok, S.led.perm List.perm_middle, S.bare, S.os, S.gens, S.gnd⟩
theorem Sta.st0 {W : Wd} {G : Gens} {nw pre post : Ledger} {s : Shared} {env : Env} {loc : Loc} (S : Sta W G env loc (pre ++ post) s) (e : nw = pre ++ ((env.locals, IsNs loc) :: post)) : St0 W G nw s := by
  subst e
  exact ⟨S.ok, S.led.perm List.perm_middle.symm, S.bare, S.os, S.gens, S.gnd⟩

section
variable {W : Wd} {sh : Ledger} {env : Env} {nm : Str} {p1 p5 p6 p7 p8 p9 : Pos} {rit : Addr} {ks : List Str}
abbrev itBody (nm : Str) (p5 p6 p7 p8 p9 : Pos) : List Stmt := [.If (.Name nm p5) [.Expr (.YieldFrom (.Name nm p6) p7) p8] [] p9]
abbrev itLoop (env : Env) (nm : Str) (p1 p5 p6 p7 p8 p9 : Pos) (rit : Addr) : Code := .forLoop (.Name nm p1) (.ref rit) (itBody nm p5 p6 p7 p8 p9) [] env

theorem over1 {k : Nat} {A : Around} {c' : Code} {fr : Frame} (hA : Aok (k + 2) A) (hf : FrOk W fr) (hw : c'.weight = 0) (hu : c'.cUnits ≤ 1) : Aok k (A.over c' [fr]) := by
  refine ⟨?_, ?_, ?_⟩
  · show (marksOver [fr] (A.handled, A.handled)).1 = none
    simp only [marksOver, List.foldr, hf.marks]; exact hA.handled
  · have := hA.depth; have := hf.weight
    show A.depth + frameCount ([fr].map Frame.where_) + c'.weight + k < recursionLimit
    simp only [List.map_cons, List.map_nil, frameCount, List.sum_cons, List.sum_nil, hw]; omega
  · have := hA.units; have := hf.units
    show A.units + unitsOf ([fr].map Frame.where_) + c'.cUnits + 8 * k < cLine
    simp only [List.map_cons, List.map_nil, unitsOf, List.sum_cons, List.sum_nil]; omega

/-- the delegation to one list, within any two frames -/
theorem iter_inner {l it : Addr} {xs : List Value} {fr fr2 : Frame} (hf : FrOk W fr) (h2 : splitAtGen [fr2, fr] = none) (g2 : [fr2, fr].any Frame.guarded = false)
    (hov : ∀ A, Aok 6 A → (A.over (yfCode it) [fr2, fr]).handled = none) (m : (l, IsLst xs) ∈ sh) (own₀ : Ledger) (ws : List Value)
    (rest : ∀ A R GR s, Aok 6 A → St0 W GR (R ++ (sh ++ own₀)) s → SegX (model W.prog W.w) A (yfCode it) (leafOf (.ok (.ret .none))) [fr2, fr] s (GenEnd W sh R GR ws)) :
    ∀ (vs : List Value) (i : Nat), xs.drop i = vs → ∀ A R GR s, Aok 6 A → St0 W GR (R ++ (sh ++ ((it, IsLI l i) :: own₀))) s →
      SegX (model W.prog W.w) A (yfCode it) (denote table (yfCode it)) [fr2, fr] s (GenEnd W sh R GR (vs ++ ws))
  | [], i, e => fun A R GR s hA S => by
    have D0 : Led W.B ((R ++ sh) ++ ((it, IsLI l i) :: own₀)) s.heap := by rw [List.append_assoc]; exact S.led
    obtain ⟨o, ho, hcl, hda⟩ := D0.get (a := it) (c := IsLI l i) (by simp)
    have hl := D0.isLst (a := l) (xs := xs) (by simp [m])
    refine yf_end (hov A hA) ⟨o, ho, hcl, hda⟩ hl (by simpa [List.drop_eq_nil_iff] using e) fun h' hx => ?_
    have D1 := D0.dropBack (h' := h') fun b o hb e => hx b o hb e
    exact rest A R GR { s with heap := h' } hA ⟨S.ok, by rw [← List.append_assoc]; exact D1, S.bare, S.os, S.gens, S.gnd⟩
  | v :: vs, i, e => fun A R GR s hA S => by
    have D0 : Led W.B ((R ++ sh) ++ ((it, IsLI l i) :: own₀)) s.heap := by rw [List.append_assoc]; exact S.led
    obtain ⟨o, ho, hcl, hda⟩ := D0.get (a := it) (c := IsLI l i) (by simp)
    have hl := D0.isLst (a := l) (xs := xs) (by simp [m])
    have hx : xs[i]? = some v := by
      have := congrArg List.head? e
      simpa [List.head?_drop] using this
    have e' : xs.drop (i + 1) = vs := by
      have := congrArg List.tail e
      simpa [List.tail_drop] using this
    refine yf_item ⟨o, ho, hcl, hda⟩ hl (by simpa using hx) h2 g2 fun k lv p h' hit hs hk => ?_
    obtain ⟨o', ho', hc', hd'⟩ := hit
    have D1 := D0.back (c' := IsLI l (i + 1)) (fun b o hb e => (hs.2 b hb).trans e) ho' ⟨hc', hd'⟩
    refine ⟨(it, IsLI l (i + 1)) :: own₀, rfl, ⟨S.ok, by rw [← List.append_assoc]; exact D1, S.bare, S.os, S.gens, S.gnd⟩, goodGen_iff.mpr fun A' R' GR' s' hA' S' => ?_⟩
    have D2 : Led W.B ((R' ++ sh) ++ ((it, IsLI l (i + 1)) :: own₀)) s'.heap := by rw [List.append_assoc]; exact S'.led
    obtain ⟨o2, ho2, hcl2, hda2⟩ := D2.get (a := it) (c := IsLI l (i + 1)) (by simp)
    exact hk A' _ s' _ ⟨o2, ho2, hcl2⟩ (iter_inner hf h2 g2 hov m own₀ ws rest vs (i + 1) e' A' R' GR' s' hA' S')

theorem put_of_mem {x : Str} {v : Option Value} : ∀ {l : Loc}, x ∈ l.map Prod.fst → ∃ l', Put x v l l'
  | p :: l, h => by
    rcases List.mem_cons.mp h with e | h
    · obtain ⟨k, u⟩ := p
      dsimp only at e
      subst e
      exact ⟨_, .head⟩
    · obtain ⟨l', h'⟩ := put_of_mem (v := v) h
      exact ⟨_, .tail h'⟩
theorem Put.mem' {x : Str} {v : Option Value} : ∀ {l l' : Loc}, Put x v l l' → (x, v) ∈ l'
  | _, _, .head => .head _
  | _, _, .tail h => .tail _ h.mem'
theorem Sta.truthyL {G : Gens} {loc : Loc} {nw : Ledger} {s : Shared} {A : Around} {E : Value → Shared → Prop} {a : Addr} {xs : List Value} {Q : Bool → Shared → Prop} (S : Sta W G env loc nw s) (m : (a, IsLst xs) ∈ nw) (hz : xs.length ≤ sizeLine) (h : ∀ s', Sta W G env loc nw s' → Q (!xs.isEmpty) s') :
    wpAny (model W.prog W.w) A (truthy (.ref a)) Q E s := by
  refine wpAny_truthy_list (S.isList m) ?_ ?_
  · rw [sizeLine_eq] at hz; simp; omega
  · have := h _ (S.toks (s.toks + 1 + 1))
    simpa using this
theorem Sta.iterL {G : Gens} {loc : Loc} {nw : Ledger} {s : Shared} {A : Around} {E : Value → Shared → Prop} {a : Addr} {xs : List Value} {Q : Value → Shared → Prop} (S : Sta W G env loc nw s) (m : (a, IsLst xs) ∈ nw) (h : ∀ it s', Sta W G env loc ((it, IsLI a 0) :: nw) s' → Q (.ref it) s') :
    wpAny (model W.prog W.w) A (pyIter (.ref a)) Q E s :=
  wpAny_pyIter_list (S.isList m) (h _ _ (S.new (c := IsLI a 0) rfl ⟨rfl, rfl⟩ s.toks))

theorem iter_outer {fr : Frame} (hf : FrOk W fr) (hi : interactive env = false) (hnm : nm ∈ ks) :
    ∀ (ls : List (Addr × List Value)), (∀ p ∈ ls, (p.1, IsLst p.2) ∈ sh ∧ p.2.length ≤ sizeLine) → ∀ (ownO : Ledger) (loc : Loc) A R GR s, Aok 6 A → loc.map Prod.fst = ks → EnvOk env ks →
      St0 W GR (R ++ (sh ++ ((env.locals, IsNs loc) :: ownO))) s → LY W sh rit (ls.map fun p => .ref p.1) ownO →
      SegX (model W.prog W.w) A (itLoop env nm p1 p5 p6 p7 p8 p9 rit) (denote table (itLoop env nm p1 p5 p6 p7 p8 p9 rit)) [fr] s (GenEnd W sh R GR (ls.flatMap (·.2)))
  | [], _, ownO, loc, A, R, GR, s, hA, hk, he, S, hy => by
    refine sx_topOn ?_
    unfold forTurn
    refine sx_then (wpAny_standAt ?_)
    have hA' : Aok 4 (A.over (itLoop env nm p1 p5 p6 p7 p8 p9 rit) [fr]) := over1 hA hf rfl (Nat.zero_le _)
    have D : Led W.B ((R ++ [(env.locals, IsNs loc)]) ++ (sh ++ ownO)) s.heap := S.led.perm (by
      rw [List.append_assoc]; refine List.Perm.append_left _ ?_
      exact List.perm_middle)
    refine sx_then (wpAny_onRaise (hy.2 _ _ s _ _ hA'.handled D fun h' D' => ?_))
    refine s_again _ _ _ _ _ _ _ _ rfl ?_
    refine hf.back _ _ _ _ ⟨rfl, S.ok, ?_, S.bare, S.os, S.gens, S.gnd⟩
    exact D'.sub (List.Sublist.append (List.sublist_append_left _ _) (List.Sublist.refl _))
  | (l, xs) :: ls, hls, ownO, loc, A, R, GR, s, hA, hk, he, S, hy => by
    have hm : (l, IsLst xs) ∈ sh := (hls (l, xs) (.head _)).1
    have hz : xs.length ≤ sizeLine := (hls (l, xs) (.head _)).2
    have hls' : ∀ p ∈ ls, (p.1, IsLst p.2) ∈ sh ∧ p.2.length ≤ sizeLine := fun p hp => hls p (.tail _ hp)
    refine sx_topOn ?_
    unfold forTurn
    refine sx_then (wpAny_standAt ?_)
    have hA' : Aok 4 (A.over (itLoop env nm p1 p5 p6 p7 p8 p9 rit) [fr]) := over1 hA hf rfl (Nat.zero_le _)
    have D : Led W.B ((R ++ [(env.locals, IsNs loc)]) ++ (sh ++ ownO)) s.heap := S.led.perm (by
      rw [List.append_assoc]; refine List.Perm.append_left _ ?_
      exact List.perm_middle)
    refine sx_then (wpAny_onRaise (hy.2 _ _ s _ _ hA'.handled D fun ownO' h' D' hy' => ?_))
    refine sx_then (wpAny_of_eq (a := ()) rfl ?_)
    have S1 : Sta W GR env loc (R ++ (sh ++ ownO')) { s with heap := h' } := by
      refine ⟨S.ok, by rw [hk]; exact he, D'.perm ?_, S.bare, S.os, S.gens, S.gnd⟩
      rw [List.append_assoc]
      exact List.perm_middle
    obtain ⟨loc', hput⟩ := put_of_mem (v := some (.ref l)) (l := loc) (x := nm) (by rw [hk]; exact hnm)
    have hk' : loc'.map Prod.fst = ks := by rw [hput.keys]; exact hk
    refine sx_then (wpAny_assign_Name (S1.store hput fun s2 S2 => ?_))
    rw [execs_cons]
    refine sx_bind (sx_bind ?_)
    rw [exec_If]
    refine sx_then (wpAny_standAt ?_)
    refine sx_then (wpAny_isTrue_value (S2.local_ hput.mem' (S2.truthyL (by simp [hm]) hz fun s3 S3 => ?_)))
    have back : ∀ A R GR s, Aok 6 A → St0 W GR (R ++ (sh ++ ((env.locals, IsNs loc') :: ownO'))) s →
        SegX (model W.prog W.w) A (itLoop env nm p1 p5 p6 p7 p8 p9 rit) (.pure (.again (itLoop env nm p1 p5 p6 p7 p8 p9 rit))) [fr] s (GenEnd W sh R GR (ls.flatMap (·.2))) := fun A R GR s hA S =>
      s_again _ _ _ _ _ _ _ _ rfl (iter_outer hf hi hnm ls hls' ownO' loc' A R GR s hA hk' he S hy')
    cases xs with
    | nil =>
      refine back A R GR s3 hA (Sta.st0 (pre := R ++ sh) (post := ownO') (loc := loc') (env := env) ?_ (by simp))
      rw [List.append_assoc]; exact S3
    | cons v vs =>
      rw [if_pos (show (!(v :: vs).isEmpty) = true from rfl), execs_cons]
      refine sx_bind ?_
      rw [exec_Expr env _ _ hi rfl]
      refine sx_then (wpAny_standAt (sx_bind ?_))
      show SegX _ _ _ (Sem.wrap _ _ _ _ (eval (.Name nm p6) env >>= fun v => standAt p7 >>= fun _ => yieldFrom env v)) _ _ _
      refine sx_then (S3.local_ hput.mem' (sx_then (wpAny_standAt ?_)))
      unfold yieldFrom
      have hT : s3.TypeIs (.ref l) "list" := (S3.isList (a := l) (xs := v :: vs) (by simp [hm])).typeIs
      refine sx_then (wpAny_typeOf hT ?_)
      rw [if_neg (by decide)]
      refine sx_then (wpAny_holding (S3.iterL (xs := v :: vs) (by simp [hm]) fun it s4 S4 => ?_))
      refine s_call W.prog W.w A _ [fr] _ s4 (yfCode it) none false [] _ fun p => ?_
      refine iter_inner (xs := v :: vs) (l := l) hf ?kk2 ?kg2 ?khov hm ((env.locals, IsNs loc') :: ownO') (ls.flatMap (·.2)) ?krest (v :: vs) 0 rfl A R GR s4 hA ?kst
      · simp only [splitAtGen, hf.split, Option.map_none]
      · show (false || (fr.guarded || false)) = false
        rw [hf.guarded]; rfl
      · intro A hA
        show (marksOver _ (A.handled, A.handled)).1 = none
        simp only [marksOver, List.foldr_cons, List.foldr_nil]
        rw [hf.marks]; exact hA.handled
      · intro A R GR s hA S
        exact s_pop _ _ _ _ _ _ _ _ _ rfl _ _ _ _ _ _ _ (back A R GR s hA S)
      · refine ⟨S4.ok, S4.led.perm ?_, S4.bare, S4.os, S4.gens, S.gnd⟩
        refine (List.Perm.swap _ _ _).trans ?_
        rw [← List.append_assoc R sh, ← List.append_assoc R sh]
        exact List.Perm.trans (List.Perm.cons _ List.perm_middle.symm) List.perm_middle.symm
end
end Mine
end

section
open PySem PySem.W PyProof.Rows PySem.W.X
set_option maxRecDepth 100000
namespace Mine
section
variable {W : Wd} {sh : Ledger} {env : Env} {nm rv sk : Str} {p1 p2 p3 p4 p5 p6 p7 p8 p9 p10 : Pos} {ks : List Str}
abbrev itWhole (nm rv sk : Str) (p1 p2 p3 p4 p5 p6 p7 p8 p9 p10 : Pos) : List Stmt := [.For (.Name nm p1) (.Call (.Name rv p2) [.Name sk p3] [] p4) (itBody nm p5 p6 p7 p8 p9) [] p10]
theorem iter_good (hi : interactive env = false) (hnm : nm ∈ ks) (loc : Loc) (hk : loc.map Prod.fst = ks) (he : EnvOk env ks) (ls : List (Addr × List Value)) (hls : ∀ p ∈ ls, (p.1, IsLst p.2) ∈ sh ∧ p.2.length ≤ sizeLine)
    (hrev : ∀ A R GR s, Aok 4 A → Sta W GR env loc (R ++ sh) s → ∀ Q E, (∀ rit own s', Sta W GR env loc (R ++ (sh ++ own)) s' → LY W sh rit (ls.map fun p => .ref p.1) own → Q (.ref rit) s') → wpAny (model W.prog W.w) A (eval (.Call (.Name rv p2) [.Name sk p3] [] p4) env) (fun x s₁ => wpAny (model W.prog W.w) A (pyIter x) Q E s₁) E s) :
    GoodGen W sh (ls.flatMap (·.2)) (.fresh (.func (itWhole nm rv sk p1 p2 p3 p4 p5 p6 p7 p8 p9 p10) env)) [(env.locals, IsNs loc)] := by
  refine goodGen_iff.mpr fun A R GR s hA S => ?_
  show SegX _ A _ (denote table (.func (itWhole nm rv sk p1 p2 p3 p4 p5 p6 p7 p8 p9 p10) env)) [] s _
  refine sx_top ?_
  simp only [denote]
  refine sx_then (wpAny_point ?_)
  refine sx_bind (sx_onRaise ?_)
  rw [execs_cons]
  refine sx_bind ?_
  rw [exec_For]
  have hA' : Aok 4 (A.over (.func (itWhole nm rv sk p1 p2 p3 p4 p5 p6 p7 p8 p9 p10) env) []) := ⟨hA.handled, by
      have := hA.depth
      show A.depth + 0 + 1 + 4 < _
      omega, by
      have := hA.units
      show A.units + 0 + 3 + 8 * 4 < _
      omega⟩
  have S1 : Sta W GR env loc (R ++ sh) s := ⟨S.ok, by rw [hk]; exact he, S.led.perm (by rw [← List.append_assoc]; exact List.perm_append_comm), S.bare, S.os, S.gens, S.gnd⟩
  refine sx_then (wpAny_standAt ?_)
  have main := hrev _ R GR s hA' S1
  refine sx_then (wpAny_mono (main (fun x s₁ => ∃ rit own, x = .ref rit ∧ Sta W GR env loc (R ++ (sh ++ own)) s₁ ∧ LY W sh rit (ls.map fun p => .ref p.1) own) (fun _ _ => False) fun rit own s' S' hy => ⟨rit, own, rfl, S', hy⟩) (fun x s₁ h₁ => ?_) fun _ _ h => h.elim)
  refine sx_then (wpAny_of_eq (a := x) rfl ?_)
  refine sx_then (wpAny_standAt ?_)
  refine sx_then (wpAny_holding (wpAny_mono h₁ (fun y s₂ h₂ => ?_) fun _ _ h => h.elim))
  obtain ⟨rit, own, rfl, S2, hy⟩ := h₂
  refine s_call W.prog W.w A _ [] _ s₂ (itLoop env nm p1 p5 p6 p7 p8 p9 rit) none false [] _ fun p => ?_
  refine iter_outer ?hf hi hnm ls hls own loc A R GR s₂ hA hk he ⟨S2.ok, S2.led.perm ?_, S2.bare, S2.os, S2.gens, S.gnd⟩ hy
  · refine ⟨rfl, rfl, fun x => rfl, Nat.le_refl _, Nat.le_refl _, fun A c s P hP => ?_⟩
    refine s_pop _ _ _ _ _ _ _ _ _ rfl _ _ _ _ _ _ _ ?_
    exact s_end _ _ _ _ _ _ _ _ rfl hP
  · rw [← List.append_assoc R sh, ← List.append_assoc R sh]
    exact List.perm_middle.symm
end
end Mine
end

section
open PySem PySem.W PyProof.Rows PySem.W.X
set_option maxRecDepth 100000
namespace Mine
/-- a def of the text, as the top left it -/
structure Fn (K : Frag) (f : Addr) (st : Stmt) (qual : Str) (dV kV cdv : Value) : Prop where
  at_ : ∃ name doc pm ct oc an od osl, K.lookup f = some ⟨oc, od, .func (fnOf name qual (fnArgs st) (fnBody st) (fnScope st) dV kV doc pm an cdv ct), osl⟩
  code : codeIn K cdv qual = true
/-- what a call binds -/
def Binds (s : Shared) (st : Stmt) (qual : Str) (dV kV cdv : Value) (args : Args) (binds : List (Str × Value)) : Prop :=
  ∀ name doc pm ct an, BindsTo s (fnOf name qual (fnArgs st) (fnBody st) (fnScope st) dV kV doc pm an cdv ct) args binds
def kindsGen (sc : Scope) (ks : List Str) : Bool := sc.kind == .function && !sc.isCoroutine && sc.isGenerator && (sc.names.all fun x => x.2 != .cell) && (ks.all fun x => sc.names.lookup x == some .local && !(x == ("__debug__" : Str))) && decide ks.Nodup

section
variable {W : Wd} {G : Gens} {env : Env} {loc loc' : Loc} {nw nw' : Ledger} {s : Shared} {A : Around} {E : Value → Shared → Prop}
theorem Sta.call_fn {Q : Value → Shared → Prop} {f : Addr} {qual : Str} {st : Stmt} {dV kV cdv : Value} {pos : List Value} {kw : List (Str × Value)} {binds : List (Str × Value)} (rest : List Str)
    (S : Sta W G env loc nw s) (hf : Fn W.K f st qual dV kV cdv) (hroom : A.depth < recursionLimit) (hbind : Binds s st qual dV kV cdv ⟨pos, kw⟩ binds) (hk : kindsOk (fnScope st) (binds.map Prod.fst ++ rest) = true)
    (h : ∀ L s', Sta W G (envOf qual (fnScope st) L f cdv) (mkLoc binds rest) ((env.locals, IsNs loc) :: nw) s' →
      wpAny (model W.prog W.w) (A.deeper (envOf qual (fnScope st) L f cdv)) (execs (fnBody st) (envOf qual (fnScope st) L f cdv)) (fun fl s'' => Q (match fl with | .ret v => v | _ => .none) s'') (fun _ _ => False) s') :
    wpAny (model W.prog W.w) A (call (.ref f) pos kw) Q E s := by
  obtain ⟨name, doc, pm, ct, oc, an, od, osl, ho⟩ := hf.at_
  exact S.call_def (args := ⟨pos, kw⟩) rest hroom ho hf.code (hbind _ _ _ _ _) hk h
theorem Sta.code_fn {R : Result → Shared → Prop} {f : Addr} {qual : Str} {st : Stmt} {dV kV cdv : Value} {pos : List Value} {kw : List (Str × Value)} {binds : List (Str × Value)} (rest : List Str)
    (S : Sta W G env loc nw s) (hf : Fn W.K f st qual dV kV cdv) (hroom : A.depth < recursionLimit) (hbind : Binds s st qual dV kV cdv ⟨pos, kw⟩ binds) (hk : kindsOk (fnScope st) (binds.map Prod.fst ++ rest) = true)
    (h : ∀ L s', Sta W G (envOf qual (fnScope st) L f cdv) (mkLoc binds rest) ((env.locals, IsNs loc) :: nw) s' →
      wpAny (model W.prog W.w) (A.deeper (envOf qual (fnScope st) L f cdv)) (execs (fnBody st) (envOf qual (fnScope st) L f cdv)) (fun fl s'' => R (.ok (.ret (match fl with | .ret v => v | _ => .none))) s'') (fun _ _ => False) s') :
    codeAny (model W.prog W.w) A (.call (.ref f) ⟨pos, kw⟩) R s := by
  obtain ⟨name, doc, pm, ct, oc, an, od, osl, ho⟩ := hf.at_
  exact S.code_def (args := ⟨pos, kw⟩) rest hroom ho hf.code (hbind _ _ _ _ _) hk h
theorem Sta.call_gen {Q : Value → Shared → Prop} {f : Addr} {qual : Str} {st : Stmt} {dV kV cdv : Value} {pos : List Value} {kw : List (Str × Value)} {binds : List (Str × Value)} (rest : List Str)
    (S : Sta W G env loc nw s) (hf : Fn W.K f st qual dV kV cdv) (hroom : A.depth < recursionLimit) (hbind : Binds s st qual dV kV cdv ⟨pos, kw⟩ binds) (hk : kindsGen (fnScope st) (binds.map Prod.fst ++ rest) = true)
    (h : ∀ a g L s', EnvOk (envOf qual (fnScope st) L f cdv) (binds.map Prod.fst ++ rest) →
      Sta W (G ++ [(g, .fresh (.func (fnBody st) (envOf qual (fnScope st) L f cdv)))]) env loc ((a, IsGenO g) :: (L, IsNs (mkLoc binds rest)) :: nw) s' → Q (.ref a) s') :
    wpAny (model W.prog W.w) A (call (.ref f) pos kw) Q E s := by
  obtain ⟨name, doc, pm, ct, oc, an, od, osl, ho⟩ := hf.at_
  simp only [kindsGen, Bool.and_eq_true, beq_iff_eq, Bool.not_eq_true', List.all_eq_true, bne_iff_ne, decide_eq_true_eq] at hk
  obtain ⟨⟨⟨⟨⟨hkind, hco⟩, hgen⟩, hcell⟩, hks⟩, hnd⟩ := hk
  have hks2 : ((mkLoc binds rest).map Prod.fst) = binds.map Prod.fst ++ rest := by
    simp [mkLoc, List.map_map, Function.comp_def]
  refine wpAny_call (codeAny_call_generator (fd := fnOf name qual (fnArgs st) (fnBody st) (fnScope st) dV kV doc pm an cdv ct) (body := fnBody st) hroom (S.kin _ _ ho) rfl hco hgen rfl (codeRec_of S.kin hf.code) (hbind _ _ _ _ _ _ _ _ _ ?_))
  refine wpAny_newFunctionEnv hcell (fun x hx => (hks x.1 (List.mem_append_left _ (List.mem_map.mpr ⟨x, hx, rfl⟩))).1) (fun h₁ hns hsb => ?_) hkind
  have hkp : ∀ b o, s.heap.get? b = some o → h₁.get? b = some o := fun b o e => hsb.extBut b o (Nat.ne_of_lt (Heap.lt_size e)) (Heap.get?_push_of_some _ e)
  refine ⟨S.nolimit.keeps hkp, ?_⟩
  have D : Led W.B ((s.heap.objs.size, IsNs (mkLoc binds rest)) :: (env.locals, IsNs loc) :: nw) h₁ := by
    obtain ⟨o, es, ep, ho', hd, hsk, hf⟩ := hns
    refine S.led.cons_new hkp S.led.size_ne S.led.size_new ho' ⟨by rw [hks2]; exact hnd, es, ep, hd, hsk, fun x => ?_⟩
    rw [hf x, lk_mkLoc _ _ (hnd.sublist (List.sublist_append_left _ _))]
  refine h h₁.objs.size s.gens.size s.heap.objs.size _ ⟨hkind, rfl, rfl, fun x hx => (hks x hx).1, fun x hx => (hks x hx).2, hnd⟩ ⟨S.ok, S.eok, ?_, ?_, S.os, ?_, ?_⟩
  case refine_4 =>
    rw [List.map_append, List.nodup_append]
    refine ⟨S.gnd, by simp, fun a ha b hb e => ?_⟩
    have : b = s.gens.size := by simpa using hb
    subst this
    obtain ⟨p, hp, q⟩ := List.mem_map.mp ha
    have := (Array.getElem?_eq_some_iff.mp (S.gens p hp)).1
    rw [q, e] at this
    exact Nat.lt_irrefl _ this
  · refine ((D.new (c := IsGenO s.gens.size) (o := { cls := .type "generator", data := .fields #[.int s.gens.size 0, .str name (s.toks + binds.length), .str qual (s.toks + binds.length + 1)] }) rfl ⟨_, _, rfl⟩).perm ?_)
    exact (List.Perm.cons _ (List.Perm.swap ..)).trans (List.Perm.swap ..)
  · exact S.bare.push rfl
  · intro p hp
    show (s.gens.push _)[p.1]? = _
    rcases List.mem_append.mp hp with hp | hp
    · have hlt := (Array.getElem?_eq_some_iff.mp (S.gens p hp)).1
      rw [Array.getElem?_push_lt hlt]
      have := S.gens p hp
      rw [Array.getElem?_eq_getElem hlt] at this
      exact this
    · have : p = (s.gens.size, .fresh (.func (fnBody st) (envOf qual (fnScope st) s.heap.objs.size f cdv))) := by simpa using hp
      subst this
      simp; rfl
end
end Mine
end

section
open PySem PySem.W PyProof.Rows PySem.W.X
set_option maxRecDepth 100000
namespace Mine
theorem St0.setL {W : Wd} {G : Gens} {R : Ledger} {s : Shared} {a : Addr} {xs ys : List Value} {n : Nat} (S : St0 W G ((a, IsLst xs) :: R) s) (hl : IsL s.heap a xs.toArray n) (f : Array Value → Array Value) (e : f xs.toArray = ys.toArray) :
    St0 W G ((a, IsLst ys) :: R) { s with heap := s.heap.update a (Obj.mapSeq f) } := by
  obtain ⟨o, ho, hc⟩ := IsL_set hl f e
  exact ⟨S.ok, S.led.set .head (fun b o hb e => ((Heap.SameBut.update s.heap a _).2 b hb).trans e) ho hc, S.bare, S.os, S.gens, S.gnd⟩
theorem St0.isL {W : Wd} {G : Gens} {R : Ledger} {s : Shared} {a : Addr} {xs : List Value} (S : St0 W G R s) (m : (a, IsLst xs) ∈ R) : ∃ n, IsL s.heap a xs.toArray n := by
  obtain ⟨o, ho, n, rfl⟩ := S.led.get m
  exact ⟨n, ho⟩
section
variable {W : Wd} {sh : Ledger} {I : Addr} {E : Value → Shared → Prop}
theorem extend_loop_y {T : Addr} {res : Value} {Rr : Result → Shared → Prop} {R : Ledger} {GR : Gens} : ∀ (vs : List Value) (own : Ledger) (og : Gens) (acc : List Value) (A : Around) (s : Shared), Aok 8 A → Yields W sh I vs own og → acc.length + vs.length ≤ sizeLine →
    St0 W (GR ++ og) (((T, IsLst acc) :: R) ++ (sh ++ own)) s → (∀ s', St0 W GR (((T, IsLst (acc ++ vs)) :: R) ++ sh) s' → Rr (.ok (.ret res)) s') → codeAny (model W.prog W.w) A (.builtin "list.extend.loop" ⟨[.ref T, .ref I, res], []⟩) Rr s
  | [], own, og, acc, A, s, hA, hy, hz, S, hR => by
    refine codeAny_builtin F.entry_extend_loop ?_
    rw [Around.under_plainId F.plain_extend_loop _]
    show wpAny _ A.in1 (pyNext (.ref I) >>= _) _ _ s
    refine wpAny_bind (hy.2 A.in1 _ GR s _ _ (Aok.in1 hA) S fun s' S' => wpAny_pure (hR s' ?_))
    rw [List.append_nil]; exact S'
  | v :: vs, own, og, acc, A, s, hA, hy, hz, S, hR => by
    refine codeAny_builtin F.entry_extend_loop ?_
    rw [Around.under_plainId F.plain_extend_loop _]
    show wpAny _ A.in1 (pyNext (.ref I) >>= _) _ _ s
    refine wpAny_bind (hy.2 A.in1 _ GR s _ _ (Aok.in1 hA) S fun own' og' s' S' hy' => ?_)
    show wpAny _ A.in1 (updateSeq T (·.push v) >>= _) _ _ _
    have S'' : St0 W (GR ++ og') ((T, IsLst acc) :: (R ++ (sh ++ own'))) s' := S'
    obtain ⟨n, hl⟩ := S''.isL (.head _)
    rw [List.length_cons] at hz
    refine wpAny_bind ?_
    refine wpAny_updateSeq hl rfl (wpAny_pure ⟨plainId_quiet F.plain_extend_loop _, extend_loop_y vs own' og' (acc ++ [v]) A _ hA hy' (by simp; omega) (S''.setL hl _ (by simp)) fun s'' S3 => hR s'' ?_⟩)
      (by simp; omega) (by show (acc.toArray.push v).size ≤ sizeLine + 1; simp; omega)
    rw [List.append_assoc] at S3; exact S3

theorem extend_y {T : Addr} {res : Value} {Rr : Result → Shared → Prop} {R : Ledger} {GR : Gens} {vs : List Value} {own : Ledger} {og : Gens} {A : Around} {s : Shared} (hA : Aok 8 A) (hT : s.TypeIs (.ref I) "generator") (hne : T ≠ I) (hg : ∃ g, s.heap.IsGen I g) (hy : Yields W sh I vs own og) (hz : vs.length ≤ sizeLine)
    (S : St0 W (GR ++ og) (((T, IsLst []) :: R) ++ (sh ++ own)) s) (hR : ∀ s', St0 W GR (((T, IsLst vs) :: R) ++ sh) s' → Rr (.ok (.ret res)) s') :
    wpAny (model W.prog W.w) A.in1 (Builtin.List.listExtendWith (.ref T) (.ref I) res)
      (fun fin s' => match fin with | .done f => Rr (.ok f) s' | .again c' => c'.quiet = true ∧ codeAny (model W.prog W.w) A c' Rr s') (fun e s' => Rr (.error e) s') s := by
  unfold Builtin.List.listExtendWith
  refine wpAny_bind (wpAny_typeOf hT ?_)
  have h1 : Builtin.List.listSameRef (.ref T) (.ref I) = false := by simp [Builtin.List.listSameRef, hne]
  have h2 : (Value.type "generator" == Value.type "list") = false := by decide
  have h3 : (Value.type "generator" == Value.type "tuple") = false := by decide
  simp only [h1, h2, h3, Bool.or_false, Bool.false_eq_true, if_false]
  obtain ⟨g, hg⟩ := hg
  refine wpAny_bind (wpAny_pyIter_gen hg ?_)
  refine wpAny_bind (wpAny_holding ?_)
  unfold Builtin.List.listLengthHint
  refine wpAny_bind (wpAny_specialOf hT F.gen_no_len ?_)
  show wpAny _ A.in1 (specialOf (Value.ref I) (Str.ofString "__length_hint__") >>= _) _ _ _
  refine wpAny_bind (wpAny_specialOf hT F.gen_no_hint ?_)
  refine wpAny_pure ?_
  show wpAny _ A.in1 (rule "list.extend.makes-room" >>= fun _ => Builtin.List.listTouch (.ref T) >>= fun _ =>
    again (.builtin "list.extend.loop" ⟨[.ref T, .ref I, res], []⟩)) _ _ _
  refine wpAny_bind (wpAny_rule ?_)
  refine wpAny_bind ?_
  show wpAny _ A.in1 (updateSeq T (·.push .none) >>= fun _ => updateSeq T (·.pop)) _ _ _
  have S0 : St0 W (GR ++ og) ((T, IsLst []) :: (R ++ (sh ++ own))) s := S
  obtain ⟨n, hl⟩ := S0.isL (.head _)
  refine wpAny_bind (wpAny_updateSeq hl rfl ?_ (by simp) (by simp))
  have S1 := S0.setL (ys := [.none]) hl (·.push Value.none) (by simp)
  obtain ⟨n1, hl1⟩ := S1.isL (.head _)
  refine wpAny_updateSeq hl1 rfl ?_ (by simp [sizeLine_eq]) (by simp)
  have S2 := S1.setL (ys := []) hl1 (·.pop) (by simp)
  refine wpAny_pure ⟨plainId_quiet F.plain_extend_loop _, extend_loop_y vs own og [] A _ hA hy (by simpa using hz) S2 fun s' S' => hR s' ?_⟩
  simpa using S'

theorem list_y {Q : Value → Shared → Prop} {R : Ledger} {GR : Gens} {vs : List Value} {own : Ledger} {og : Gens} {A : Around} {s : Shared} (hA : Aok 9 A) (g : Nat) (hm : (I, IsGenO g) ∈ own) (hy : Yields W sh I vs own og) (hz : vs.length ≤ sizeLine)
    (S : St0 W (GR ++ og) (R ++ (sh ++ own)) s) (hQ : ∀ a s', St0 W GR ((a, IsLst vs) :: (R ++ sh)) s' → Q (.ref a) s') :
    wpAny (model W.prog W.w) A (call (.type "list") [.ref I]) Q E s := by
  have hI : (I, IsGenO g) ∈ R ++ (sh ++ own) := by simp [hm]
  obtain ⟨oI, hoI, nm, qn, rfl⟩ := S.led.get hI
  have hne : s.heap.objs.size ≠ I := Nat.ne_of_gt (Heap.lt_size hoI)
  refine callType_codes (Q₁ := fun obj s₁ => obj = .ref s.heap.objs.size ∧ s₁ = { s with heap := s.heap.push { cls := .type "list", data := .seq #[] } }) F.called_list (F.typeCall_list_1 _) F.entry_list_init
    (code_list_new _ ⟨rfl, rfl⟩) fun obj s₁ h₁ => ?_
  obtain ⟨rfl, rfl⟩ := h₁
  have S1 : St0 W (GR ++ og) ((s.heap.objs.size, IsLst []) :: (R ++ (sh ++ own))) { s with heap := s.heap.push { cls := .type "list", data := .seq #[] } } :=
    ⟨S.ok, S.led.new (c := IsLst []) rfl ⟨0, rfl⟩, S.bare, S.os, S.gens, S.gnd⟩
  obtain ⟨n, hl⟩ := S1.isL (.head _)
  refine ⟨⟨_, hl, rfl⟩, F.args_list_init_2 _ _, ?_⟩
  show wpAny _ A.in1.in1 (do let old ← Builtin.List.listItems (.ref s.heap.objs.size); Builtin.List.listUpdate (.ref s.heap.objs.size) (fun _ => #[]); letGo old.toList.reverse; Builtin.List.listExtendWith (.ref s.heap.objs.size) (.ref I) .none) _ _ _
  refine wpAny_bind ?_
  unfold Builtin.List.listItems
  refine wpAny_bind (wpAny_seqItems hl rfl (wpAny_pure ?_))
  show wpAny _ A.in1.in1 (updateSeq s.heap.objs.size (fun _ => #[]) >>= fun _ => letGo (#[] : Array Value).toList.reverse >>= fun _ => Builtin.List.listExtendWith (.ref s.heap.objs.size) (.ref I) .none) _ _ _
  refine wpAny_bind (wpAny_updateSeq hl rfl ?_ (by simp) (by simp))
  have S2 := S1.setL (ys := []) hl (fun _ => #[]) (by simp)
  refine wpAny_bind (wpAny_letGo ?_)
  obtain ⟨oI2, hoI2, nm2, qn2, e2⟩ := S2.led.get (a := I) (c := IsGenO g) (.tail _ hI)
  subst e2
  refine extend_y (A := A.in1) (R := R) (GR := GR) (Aok.in1 hA) ⟨_, hoI2, rfl⟩ hne ⟨g, _, nm2, qn2, hoI2, rfl, rfl, rfl⟩ hy hz S2 fun s' S' => ?_
  exact ⟨rfl, hQ _ s' S'⟩
end
end Mine
end

section
open PySem PySem.W PyProof.Rows PySem.W.X
set_option maxRecDepth 100000
namespace Mine
theorem Sta.to0 {W : Wd} {G : Gens} {env : Env} {loc : Loc} {nw : Ledger} {s : Shared} (S : Sta W G env loc nw s) : St0 W G ((env.locals, IsNs loc) :: nw) s := ⟨S.ok, S.led, S.bare, S.os, S.gens, S.gnd⟩
theorem St0.toSta {W : Wd} {G : Gens} {env : Env} {loc : Loc} {nw : Ledger} {s : Shared} (S : St0 W G ((env.locals, IsNs loc) :: nw) s) (e : EnvOk env (loc.map Prod.fst)) : Sta W G env loc nw s := ⟨S.ok, e, S.led, S.bare, S.os, S.gens, S.gnd⟩
theorem Sta.fewer {W : Wd} {G G' : Gens} {env : Env} {loc : Loc} {nw : Ledger} {s : Shared} (S : Sta W (G ++ G') env loc nw s) : Sta W G env loc nw s := (S.to0.fewer).toSta S.eok
theorem codeAny_for {prog : Program} {w : World} {A : Around} {s : Shared} {R : Result → Shared → Prop} {target : Expr} {it : Value} {body orelse : List Stmt} {env : Env} (I : Nat → Shared → Prop)
    (turn : ∀ n s, I n s → wpAny (model prog w) A (pyNext it) (fun r s₁ => match r with
      | none => wpAny (model prog w) A (execs orelse env) (fun f s₃ => R (.ok f) s₃) (fun _ _ => False) s₁
      | some v => wpAny (model prog w) A (letOwnedTupleGo target it v) (fun _ s₁ => wpAny (model prog w) A (assign target env v) (fun _ s₂ => wpAny (model prog w) A (execs body env) (fun f s₃ => match f with
          | .next | .cont => ∃ m, m < n ∧ I m s₃
          | .brk => R (.ok .next) s₃
          | .ret v => R (.ok (.ret v)) s₃) (fun _ _ => False) s₂) (fun _ _ => False) s₁) (fun _ _ => False) s₁) (fun _ _ => False) s)
    (n : Nat) (h : I n s) : codeAny (model prog w) A (.forLoop target it body orelse env) R s := by
  refine codeAny_loop' rfl I (fun n s hI => ?_) n h
  show wpAny _ _ ((forTurn target it body orelse env).onRaise (fun x => do noteFrame x env; theTreesLotGoes x)) _ _ s
  refine wpAny_noted ?_
  simp only [forTurn]
  refine wpAny_bind (wpAny_standAt (wpAny_bind (wpAny_onRaise (wpAny_mono (turn n s hI) (fun r s₁ h₁ => ?_) fun _ _ h' => h'.elim))))
  cases r with
  | none => exact wpAny_pure (.inr ⟨rfl, codeAny_block (wpAny_mono h₁ (fun _ _ h => h) fun _ _ h => h.elim)⟩)
  | some v =>
    refine wpAny_bind (wpAny_mono h₁ (fun _ s₁' h₁' => ?_) fun _ _ h' => h'.elim)
    refine wpAny_bind (wpAny_mono h₁' (fun _ s₂ h₂ => wpAny_bind (wpAny_mono h₂ (fun f s₃ h₃ => ?_) fun _ _ h' => h'.elim)) fun _ _ h' => h'.elim)
    cases f with
    | next => exact wpAny_pure (.inl ⟨rfl, h₃⟩)
    | cont => exact wpAny_pure (.inl ⟨rfl, h₃⟩)
    | brk => exact wpAny_pure h₃
    | ret v => exact wpAny_pure h₃

theorem tupGo {prog : Program} {w : World} {A : Around} {E : Value → Shared → Prop} {s : Shared} {target : Expr} {it : Addr} {v : Value} {o : Obj} {Q : Unit → Shared → Prop} (ho : s.heap.get? it = some o) (hp : plainIt o = true) (h : Q () s) : wpAny (model prog w) A (letOwnedTupleGo target (.ref it) v) Q E s := by
  have key : wpAny (model prog w) A (letOwnedTupleGo (.Tuple [] 0 default) (.ref it) v) Q E s := by
    unfold letOwnedTupleGo
    cases v with
    | ref a =>
      refine wpAny_bind (m := load it) (wpAny_load ho ?_)
      unfold plainIt at hp
      split
      · rename_i n vs hc hd
        rw [hc] at hp
        dsimp only at hp
        rw [Bool.not_eq_true'] at hp
        rw [hp]
        exact wpAny_pure h
      · exact wpAny_pure h
    | _ => exact wpAny_pure h
  cases target with
  | Tuple => exact key
  | List => exact key
  | _ => exact wpAny_pure h

section
variable {W : Wd} {sh : Ledger} {env : Env} {A : Around} {R : Result → Shared → Prop} {it : Addr} {target : Expr} {body : List Stmt}
/-- a for, by an invariant J of what is yet to come, the frame's names, the ledger -/
theorem for_y {α : Type} {P : α → Value → Prop} (hA : Aok 7 A) (J : List α → Loc → Ledger → Gens → Prop)
    (turn : ∀ x v rest tl tg loc nw G s, P x v → Sta W (G ++ tg) env loc (nw ++ (sh ++ tl)) s → J (x :: rest) loc nw G →
      wpAny (model W.prog W.w) A (assign target env v) (fun _ s₂ => wpAny (model W.prog W.w) A (execs body env) (fun f s₃ => match f with
          | .next | .cont => ∃ loc' nw' G', Sta W (G' ++ tg) env loc' (nw' ++ (sh ++ tl)) s₃ ∧ J rest loc' nw' G'
          | .brk => R (.ok .next) s₃
          | .ret v => R (.ok (.ret v)) s₃) (fun _ _ => False) s₂) (fun _ _ => False) s)
    (fin : ∀ loc nw G s, Sta W G env loc (nw ++ sh) s → J [] loc nw G → R (.ok .next) s)
    {xs : List α} {own : Ledger} {og G : Gens} {loc : Loc} {nw : Ledger} {s : Shared} (S : Sta W (G ++ og) env loc (nw ++ (sh ++ own)) s) (hy : YieldsR W sh it P xs own og) (hJ : J xs loc nw G) :
    codeAny (model W.prog W.w) A (.forLoop target (.ref it) body [] env) R s := by
  refine codeAny_for (fun n s => ∃ xs own og G loc nw, xs.length = n ∧ Sta W (G ++ og) env loc (nw ++ (sh ++ own)) s ∧ YieldsR W sh it P xs own og ∧ J xs loc nw G) (fun n s hI => ?_) xs.length ⟨xs, own, og, G, loc, nw, rfl, S, hy, hJ⟩
  obtain ⟨vs, own, og, G, loc, nw, hn, S, hy, hJ⟩ := hI
  cases vs with
  | nil =>
    refine hy.2 A ((env.locals, IsNs loc) :: nw) G s _ _ hA S.to0 fun s' S' => ?_
    exact wpAny_execs_nil (fin loc nw G s' (St0.toSta S' S.eok) hJ)
  | cons x rest =>
    refine hy.2 A ((env.locals, IsNs loc) :: nw) G s _ _ hA S.to0 fun v own' og' s' hp S' hy' => ?_
    have S1 : Sta W (G ++ og') env loc (nw ++ (sh ++ own')) s' := St0.toSta S' S.eok
    have ht : Typ sh it own' := by cases rest <;> exact hy'.1
    obtain ⟨c, hc, hpl⟩ := ht
    obtain ⟨o, ho, hco⟩ := S1.get (a := it) (c := c) (List.mem_append_right _ hc)
    refine tupGo ho (hpl o hco) ?_
    refine wpAny_mono (turn x v rest own' og' loc nw G s' hp S1 hJ) (fun _ s₂ h₂ => wpAny_mono h₂ (fun f s₃ h₃ => ?_) fun _ _ h => h) fun _ _ h => h
    cases f with
    | next => obtain ⟨loc', nw', G', S3, hJ'⟩ := h₃; exact ⟨rest.length, by rw [← hn]; simp, rest, own', og', G', loc', nw', rfl, S3, hy', hJ'⟩
    | cont => obtain ⟨loc', nw', G', S3, hJ'⟩ := h₃; exact ⟨rest.length, by rw [← hn]; simp, rest, own', og', G', loc', nw', rfl, S3, hy', hJ'⟩
    | brk => exact h₃
    | ret v => exact h₃
theorem Sta.listGen {Q : Value → Shared → Prop} {E : Value → Shared → Prop} {nw : Ledger} {G : Gens} {loc : Loc} {vs : List Value} {own : Ledger} {og : Gens} {s : Shared} (hA : Aok 9 A) (g : Nat) (hm : (it, IsGenO g) ∈ own) (hy : Yields W sh it vs own og) (hz : vs.length ≤ sizeLine)
    (S : Sta W (G ++ og) env loc (nw ++ (sh ++ own)) s) (hQ : ∀ a s', Sta W G env loc ((a, IsLst vs) :: (nw ++ sh)) s' → Q (.ref a) s') :
    wpAny (model W.prog W.w) A (call (.type "list") [.ref it]) Q E s :=
  list_y (R := (env.locals, IsNs loc) :: nw) hA g hm hy hz S.to0 fun a s' S' => hQ a s' (St0.toSta ⟨S'.ok, S'.led.perm (List.Perm.swap ..), S'.bare, S'.os, S'.gens, S'.gnd⟩ S.eok)
end
end Mine
end

section
open PySem PySem.W PyProof.Rows PySem.W.X
set_option maxRecDepth 100000
namespace Mine
def IsCel (v : Option Value) : Cell := fun o => o.data = .cell v
structure CellOk (env : Env) (k : NameKind) (x : Str) (c : Addr) : Prop where
  kind : env.kindOf x = some k
  at_ : env.cells.lookup x = some c
  nodebug : (x == ("__debug__" : Str)) = false
  noclass : (x == ("__classdict__" : Str)) = false
section
variable {W : Wd} {G : Gens} {env : Env} {loc loc' : Loc} {nw nw' : Ledger} {s : Shared} {A : Around} {E : Value → Shared → Prop}
theorem Sta.isCell {c : Addr} {v : Option Value} (S : Sta W G env loc nw s) (m : (c, IsCel v) ∈ nw) : s.heap.IsCell c v := S.get m
theorem Sta.cell {x : Str} {pos : Pos} {c : Addr} {v : Value} {Q : Value → Shared → Prop} {M : Model} (S : Sta W G env loc nw s) (hc : CellOk env .cell x c) (m : (c, IsCel (some v)) ∈ nw) (h : Q v s) : wpAny M A (eval (.Name x pos) env) Q E s :=
  wpAny_Name (wpAny_loadName_cell S.eok.fn hc.kind hc.at_ (S.isCell m) h) hc.nodebug
theorem Sta.cell' {x : Str} {c : Addr} {v : Value} {Q : Value → Shared → Prop} {M : Model} (S : Sta W G env loc nw s) (hc : CellOk env .cell x c) (m : (c, IsCel (some v)) ∈ nw) (h : Q v s) : wpAny M A (loadName env x) Q E s :=
  wpAny_loadName_cell S.eok.fn hc.kind hc.at_ (S.isCell m) h
theorem Sta.free {x : Str} {pos : Pos} {c : Addr} {v : Value} {Q : Value → Shared → Prop} {M : Model} (S : Sta W G env loc nw s) (hc : CellOk env .free x c) (m : (c, IsCel (some v)) ∈ nw) (h : Q v s) : wpAny M A (eval (.Name x pos) env) Q E s :=
  wpAny_Name (wpAny_loadName_free S.eok.fn hc.kind hc.at_ (S.isCell m) h hc.noclass) hc.nodebug
theorem Sta.storeC {x : Str} {c : Addr} {v : Value} {v₀ : Option Value} {Q : Unit → Shared → Prop} {M : Model} (S : Sta W G env loc nw s) (hc : CellOk env .cell x c) (U : Upd c (IsCel v₀) (IsCel (some v)) nw nw') (h : ∀ s', Sta W G env loc nw' s' → Q () s') : wpAny M A (storeName env x v) Q E s := by
  refine wpAny_storeName_cell S.eok.fn hc.kind hc.at_ (S.isCell U.mem) fun h' hc' hs => ?_
  obtain ⟨o, ho, hd⟩ := hc'
  exact h _ (S.set U (fun b o hb e => (hs.2 b hb).trans e) ho hd s.toks)
end

def cellNames (names : List (Str × NameKind)) : List Str := (names.filter fun p => p.2 == .cell).map Prod.fst
theorem cellsFrom_eq : ∀ (names : List (Str × NameKind)) (n : Nat) (acc : List (Str × Addr)), cellsFrom n names acc = ((cellNames names).zip (List.range' n (cellNames names).length)).reverse ++ acc
  | [], n, acc => rfl
  | (x, k) :: r, n, acc => by
    unfold cellsFrom
    cases hk : k == .cell with
    | true =>
      rw [if_pos rfl, cellsFrom_eq r (n + 1) ((x, n) :: acc)]
      simp [cellNames, hk, List.range'_succ]
    | false =>
      rw [if_neg (by decide), cellsFrom_eq r n acc]
      simp [cellNames, hk]
theorem lookup_rev_zip : ∀ (ks : List Str) (n : Nat), ks.Nodup → ∀ i (h : i < ks.length), ((ks.zip (List.range' n ks.length)).reverse ++ []).lookup ks[i] = some (n + i)
  | [], _, _, i, h => by simp at h
  | k :: r, n, nd, i, h => by
    rw [List.nodup_cons] at nd
    rw [List.append_nil]
    simp only [List.length_cons, List.range'_succ, List.zip_cons_cons, List.reverse_cons, List.lookup_append]
    cases i with
    | zero =>
      have : ((r.zip (List.range' (n + 1) r.length)).reverse).lookup k = none := by
        rw [List.lookup_eq_none_iff]
        intro p hp
        rw [bne_iff_ne]
        intro e
        exact nd.1 (by rw [e]; exact (List.of_mem_zip (List.mem_reverse.mp hp)).1)
      simp [this]
    | succ j =>
      have hj : j < r.length := by simpa using h
      have := lookup_rev_zip r (n + 1) nd.2 j hj
      rw [List.append_nil] at this
      simp only [List.getElem_cons_succ, this]
      simp; omega

def mapL (sc : Scope) (binds : List (Str × Value)) : List (Str × Value) := binds.filter fun p => sc.names.lookup p.1 == some .local
theorem bindL_eq (k : Str → Option NameKind) : ∀ (binds : List (Str × Value)) (m : Str → Option Value) (x : Str), (binds.map Prod.fst).Nodup → bindL k binds m x = ((binds.filter fun p => k p.1 == some .local).lookup x).or (m x)
  | [], m, x, _ => by simp [bindL]
  | (n, v) :: r, m, x, nd => by
    rw [List.map_cons, List.nodup_cons] at nd
    unfold bindL
    rw [bindL_eq k r _ x nd.2]
    by_cases hk : k n = some .local
    · rw [if_pos hk]
      rw [List.filter_cons_of_pos (by simp [hk]), List.lookup_cons]
      by_cases hx : x = n
      · subst hx
        have : (r.filter fun p => k p.1 == some .local).lookup x = none := by
          rw [List.lookup_eq_none_iff]
          intro p hp
          rw [bne_iff_ne]
          exact fun e => nd.1 (List.mem_map.mpr ⟨p, (List.mem_filter.mp hp).1, e.symm⟩)
        simp [this]
      · simp [beq_eq_false_iff_ne.mpr hx, hx]
    · rw [if_neg hk, List.filter_cons_of_neg (by simp [hk])]
theorem bindC_eq (k : Str → Option NameKind) : ∀ (binds : List (Str × Value)) (m : Str → Option Value) (x : Str), (binds.map Prod.fst).Nodup → k x ≠ some .local → bindC k binds m x = (binds.lookup x).or (m x)
  | [], m, x, _, _ => by simp [bindC]
  | (n, v) :: r, m, x, nd, hx => by
    rw [List.map_cons, List.nodup_cons] at nd
    unfold bindC
    rw [bindC_eq k r _ x nd.2 hx, List.lookup_cons]
    by_cases e : x = n
    · subst e
      rw [if_neg hx]
      have : r.lookup x = none := by
        rw [List.lookup_eq_none_iff]
        intro p hp
        rw [bne_iff_ne]
        exact fun e => nd.1 (List.mem_map.mpr ⟨p, hp, e.symm⟩)
      simp [this]
    · rw [beq_eq_false_iff_ne.mpr e]
      by_cases hk : k n = some .local
      · rw [if_pos hk]
      · rw [if_neg hk]; simp [e]

def kindsC (sc : Scope) (binds : List (Str × Value)) (ks : List Str) : Bool := sc.kind == .function && !sc.isCoroutine && !sc.isGenerator && (binds.all fun x => sc.names.lookup x.1 == some .local || sc.names.lookup x.1 == some .cell) &&
  (ks.all fun x => sc.names.lookup x == some .local && !(x == ("__debug__" : Str))) && decide ks.Nodup && decide (binds.map Prod.fst).Nodup && decide (cellNames sc.names).Nodup &&
  ((cellNames sc.names).all fun x => sc.names.lookup x == some .cell && !(x == ("__debug__" : Str)) && !(x == ("__classdict__" : Str)))
def CellsAt (env : Env) : List Str → List Addr → Prop
  | x :: xs, c :: cs => CellOk env .cell x c ∧ CellsAt env xs cs
  | [], [] => True
  | _, _ => False
def cellLed : List (Option Value) → List Addr → Ledger
  | v :: vs, c :: cs => (c, IsCel v) :: cellLed vs cs
  | _, _ => []
theorem cellsAt_of {env : Env} : ∀ (ks : List Str) (n : Nat), (∀ i (h : i < ks.length), CellOk env .cell ks[i] (n + i)) → CellsAt env ks (List.range' n ks.length)
  | [], _, _ => trivial
  | k :: r, n, h => ⟨h 0 (by simp), cellsAt_of r (n + 1) fun i hi => by have := h (i + 1) (by simpa using hi); simp only [List.getElem_cons_succ] at this; rwa [show n + 1 + i = n + (i + 1) by omega]⟩
theorem cellLed_mem : ∀ (vs : List (Option Value)) (n : Nat) (p : Addr × Cell), p ∈ cellLed vs (List.range' n vs.length) → ∃ i, ∃ h : i < vs.length, p = (n + i, IsCel vs[i])
  | [], _, _, h => by simp [cellLed] at h
  | v :: vs, n, p, h => by
    simp only [List.length_cons, List.range'_succ, cellLed] at h
    rcases List.mem_cons.mp h with rfl | h
    · exact ⟨0, by simp, rfl⟩
    · obtain ⟨i, hi, e⟩ := cellLed_mem vs (n + 1) p h
      exact ⟨i + 1, by simpa using hi, by rw [e]; simp; omega⟩
theorem cellLed_keys : ∀ (vs : List (Option Value)) (n : Nat), (cellLed vs (List.range' n vs.length)).map Prod.fst = List.range' n vs.length
  | [], _ => rfl
  | v :: vs, n => by simp only [List.length_cons, List.range'_succ, cellLed, List.map_cons, cellLed_keys vs (n + 1)]

section
variable {W : Wd} {G : Gens} {env : Env} {loc loc' : Loc} {nw nw' : Ledger} {s : Shared} {A : Around} {E : Value → Shared → Prop}
theorem Sta.call_fnC {Q : Value → Shared → Prop} {f : Addr} {qual : Str} {st : Stmt} {dV kV cdv : Value} {pos : List Value} {kw : List (Str × Value)} {binds : List (Str × Value)} (bl : List (Str × Value)) (rest : List Str) (cv : List (Option Value))
    (S : Sta W G env loc nw s) (hf : Fn W.K f st qual dV kV cdv) (hroom : A.depth < recursionLimit) (hbind : Binds s st qual dV kV cdv ⟨pos, kw⟩ binds)
    (hbl : mapL (fnScope st) binds = bl) (hcv : (cellNames (fnScope st).names).map (fun n => binds.lookup n) = cv) (hk : kindsC (fnScope st) binds (bl.map Prod.fst ++ rest) = true)
    (h : ∀ L cs s', CellsAt (envOfC qual (fnScope st) L f cdv) (cellNames (fnScope st).names) cs → Sta W G (envOfC qual (fnScope st) L f cdv) (mkLoc bl rest) (cellLed cv cs ++ ((env.locals, IsNs loc) :: nw)) s' →
      wpAny (model W.prog W.w) (A.deeper (envOfC qual (fnScope st) L f cdv)) (execs (fnBody st) (envOfC qual (fnScope st) L f cdv)) (fun fl s'' => Q (match fl with | .ret v => v | _ => .none) s'') (fun _ _ => False) s') :
    wpAny (model W.prog W.w) A (call (.ref f) pos kw) Q E s := by
  obtain ⟨name, doc, pm, ct, oc, an, od, osl, ho⟩ := hf.at_
  simp only [kindsC, Bool.and_eq_true, beq_iff_eq, Bool.not_eq_true', List.all_eq_true, bne_iff_ne, decide_eq_true_eq, Bool.or_eq_true] at hk
  obtain ⟨⟨⟨⟨⟨⟨⟨⟨hkind, hco⟩, hgen⟩, hbk⟩, hks⟩, hnd⟩, hbnd⟩, hcnd⟩, hcs⟩ := hk
  have hks2 : ((mkLoc bl rest).map Prod.fst) = bl.map Prod.fst ++ rest := by
    simp [mkLoc, List.map_map, Function.comp_def]
  have hcf : cellsFrom (s.heap.objs.size + 1) (fnScope st).names [] = ((cellNames (fnScope st).names).zip (List.range' (s.heap.objs.size + 1) (cellNames (fnScope st).names).length)).reverse ++ [] := cellsFrom_eq _ _ _
  have hlk : ∀ i (hi : i < (cellNames (fnScope st).names).length), (cellsFrom (s.heap.objs.size + 1) (fnScope st).names []).lookup (cellNames (fnScope st).names)[i] = some (s.heap.objs.size + 1 + i) := fun i hi => by
    rw [hcf]; exact lookup_rev_zip _ _ hcnd i hi
  refine wpAny_call (codeAny_call_function (fd := fnOf name qual (fnArgs st) (fnBody st) (fnScope st) dV kV doc pm an cdv ct) hroom (S.kin _ _ ho) rfl hco hgen rfl (codeRec_of S.kin hf.code) (hbind _ _ _ _ _ _ _ _ _ ?_))
  refine wpAny_newFunctionEnv_cells hkind (fun x hx => ?_) fun env' he s' X => ?_
  · rcases hbk x hx with q | q
    · exact .inl q
    · refine .inr ⟨q, ?_⟩
      have : x.1 ∈ cellNames (fnScope st).names := by
        refine List.mem_map.mpr ⟨(x.1, .cell), List.mem_filter.mpr ⟨mem_of_lookup q, rfl⟩, rfl⟩
      obtain ⟨i, hi, e⟩ := List.getElem_of_mem this
      rw [← e, hlk i hi]; rfl
  · subst he
    have hkp := X.toInCall.keep
    obtain ⟨h₁, tk, e⟩ := X.toInCall.same
    refine ⟨S.nolimit.keeps hkp, codeAny_func ?_⟩
    have hlen : cv.length = (cellNames (fnScope st).names).length := by rw [← hcv]; simp
    have hE : newEnv (fnScope st) s.heap.objs.size mainGlobals (cellsFrom (s.heap.objs.size + 1) (fnScope st).names []) (qual ++ ".<locals>.") (some f) cdv none builtinsNs = envOfC qual (fnScope st) s.heap.objs.size f cdv := rfl
    have D : Led W.B (cellLed cv (List.range' (s.heap.objs.size + 1) cv.length) ++ ((s.heap.objs.size, IsNs (mkLoc bl rest)) :: (env.locals, IsNs loc) :: nw)) s'.heap := by
      have D0 : Led W.B ((s.heap.objs.size, IsNs (mkLoc bl rest)) :: (env.locals, IsNs loc) :: nw) s'.heap := by
        obtain ⟨o, es, ep, ho', hd, hsk, hf⟩ := X.toInCall.ns
        refine S.led.cons_new hkp S.led.size_ne S.led.size_new ho' ⟨by rw [hks2]; exact hnd, es, ep, hd, hsk, fun x => ?_⟩
        have hnd2 : (bl.map Prod.fst).Nodup := hnd.sublist (List.sublist_append_left _ _)
        rw [hf x, bindL_eq _ _ _ _ hbnd, Option.or_none, lk_mkLoc _ _ hnd2]
        show (mapL (fnScope st) binds).lookup x = _
        rw [hbl]
        have hrev : ∀ (l : List (Str × Value)), (l.map Prod.fst).Nodup → l.lookup x = l.reverse.lookup x := by
          intro l hl
          induction l with
          | nil => rfl
          | cons p r ih =>
            rw [List.map_cons, List.nodup_cons] at hl
            rw [List.reverse_cons, List.lookup_append, ← ih hl.2, List.lookup_cons, List.lookup_cons]
            by_cases q : x = p.1
            · subst q
              have : r.lookup p.1 = none := by
                rw [List.lookup_eq_none_iff]
                intro z hz
                rw [bne_iff_ne]
                exact fun e => hl.1 (List.mem_map.mpr ⟨z, hz, e.symm⟩)
              simp [this]
            · rw [beq_eq_false_iff_ne.mpr q]; simp
        exact hrev bl hnd2
      have hcell : ∀ i (hi : i < cv.length), s'.heap.IsCell (s.heap.objs.size + 1 + i) cv[i] := fun i hi => by
        have hi' : i < (cellNames (fnScope st).names).length := by rw [← hlen]; exact hi
        have := X.cell _ _ (hlk i hi')
        have hkc : (fnScope st).names.lookup (cellNames (fnScope st).names)[i] = some .cell := (hcs _ (List.getElem_mem hi')).1.1
        have e2 : bindC (newEnv (fnScope st) s.heap.objs.size mainGlobals (cellsFrom (s.heap.objs.size + 1) (fnScope st).names []) (qual ++ ".<locals>.") (some f) cdv none builtinsNs).kindOf binds (fun _ => none) (cellNames (fnScope st).names)[i] = cv[i] := by
          rw [bindC_eq _ _ _ _ hbnd (by show (fnScope st).names.lookup _ ≠ _; rw [hkc]; decide), Option.or_none]
          simp only [← hcv, List.getElem_map]
        rw [← e2]; exact this
      refine ⟨D0.keep, fun p hp => ?_, ?_⟩
      · rcases List.mem_append.mp hp with hp | hp
        · obtain ⟨i, hi, rfl⟩ := cellLed_mem _ _ _ hp
          obtain ⟨o, ho2, hd2⟩ := hcell i hi
          refine ⟨?_, o, ho2, hd2⟩
          cases q : W.B.get? (s.heap.objs.size + 1 + i) with
          | none => rfl
          | some o2 => exact absurd (Heap.lt_size (S.led.keep _ _ q)) (fun hh => by
              have hh' : s.heap.objs.size + 1 + i < s.heap.objs.size := hh
              omega)
        · exact D0.own p hp
      · rw [List.map_append, List.nodup_append, cellLed_keys]
        refine ⟨List.nodup_range', D0.nodup, fun a ha b hb e => ?_⟩
        subst e
        have hge : s.heap.objs.size + 1 ≤ a := by
          have := List.mem_range'_1.mp ha
          exact this.1
        rw [List.map_cons] at hb
        rcases List.mem_cons.mp hb with q | hb
        · exact absurd q (Nat.ne_of_gt hge)
        · obtain ⟨p, hp, q⟩ := List.mem_map.mp hb
          obtain ⟨o, ho2, _⟩ := (S.led.own p hp).2
          have hl : p.1 < s.heap.objs.size := Heap.lt_size ho2
          exact absurd q (Nat.ne_of_lt (Nat.lt_trans hl hge))
    have S' : Sta W G (envOfC qual (fnScope st) s.heap.objs.size f cdv) (mkLoc bl rest) (cellLed cv (List.range' (s.heap.objs.size + 1) cv.length) ++ ((env.locals, IsNs loc) :: nw)) s' := by
      subst e
      refine ⟨S.ok, by rw [hks2]; exact ⟨hkind, rfl, rfl, fun x hx => (hks x hx).1, fun x hx => (hks x hx).2, hnd⟩, D.perm List.perm_middle, S.bare, S.os, S.gens, S.gnd⟩
    refine wpAny_mono (h _ _ _ ?_ S') (fun fl s'' q => q) (fun _ _ q => q.elim)
    rw [hlen]
    refine cellsAt_of _ _ fun i hi => ⟨(hcs _ (List.getElem_mem hi)).1.1, hlk i hi, (hcs _ (List.getElem_mem hi)).1.2, (hcs _ (List.getElem_mem hi)).2⟩
end
end Mine
end

section
open PySem PySem.W PyProof.Rows PySem.W.X
set_option maxRecDepth 100000
namespace Mine
/-- a thing that is its own iterator -/
def SelfIt (W : Wd) (it : Addr) (c : Cell) : Prop := ∀ A s (Q : Value → Shared → Prop) E o, s.heap.get? it = some o → c o → Q (.ref it) s → wpAny (model W.prog W.w) A (pyIter (.ref it)) Q E s

theorem codeAny_compLoop {prog : Program} {w : World} {A : Around} {s : Shared} {R : Result → Shared → Prop} {elt : Expr} {gens : List Comprehension} {scope : Scope} {pos p : Pos} {d : Nat} {target : Expr} {it acc : Value} {env : Env} {body : Sem Unit}
    (hT : compTurn (.ListComp elt gens scope pos) d it acc env = (standAt p >>= fun _ => pyNext it >>= fun r => match r with
      | none => pure (.done .next)
      | some v => letOwnedTupleGo target it v >>= fun _ => assign target env v >>= fun _ => body >>= fun _ => again (.compLoop (.ListComp elt gens scope pos) d it acc env)))
    (I : Nat → Shared → Prop)
    (turn : ∀ n s, I n s → wpAny (model prog w) A (pyNext it) (fun r s₁ => match r with
      | none => R (.ok .next) s₁
      | some v => wpAny (model prog w) A (letOwnedTupleGo target it v) (fun _ s₁ => wpAny (model prog w) A (assign target env v) (fun _ s₂ => wpAny (model prog w) A body (fun _ s₃ => ∃ m, m < n ∧ I m s₃)
          (fun _ _ => False) s₂) (fun _ _ => False) s₁) (fun _ _ => False) s₁) (fun _ _ => False) s)
    (n : Nat) (h : I n s) : codeAny (model prog w) A (.compLoop (.ListComp elt gens scope pos) d it acc env) R s := by
  refine codeAny_loop rfl I (fun n s hI => ?_) n h
  show wpAny _ _ ((compTurn (.ListComp elt gens scope pos) d it acc env).onRaise (fun x => do noteFrame x env; theTreesLotGoes x)) _ _ s
  refine wpAny_noted ?_
  rw [hT]
  refine wpAny_bind (wpAny_standAt (wpAny_bind (wpAny_mono (turn n s hI) (fun r s₁ h₁ => ?_) fun _ _ h' => h'.elim)))
  cases r with
  | none => exact wpAny_pure h₁
  | some v =>
    refine wpAny_bind (wpAny_mono h₁ (fun _ s₁' h₁' => ?_) fun _ _ h' => h'.elim)
    refine wpAny_bind (wpAny_mono h₁' (fun _ s₂ h₂ => wpAny_bind (wpAny_mono h₂ (fun _ s₃ h₃ => ?_) fun _ _ h' => h'.elim)) fun _ _ h' => h'.elim)
    exact wpAny_pure ⟨rfl, h₃⟩

section
variable {W : Wd} {sh : Ledger} {env : Env} {A : Around} {R : Result → Shared → Prop} {it : Addr} {target : Expr} {elt : Expr} {gens : List Comprehension} {scope : Scope} {pos p : Pos} {d : Nat} {acc : Value} {body : Sem Unit}
theorem comp_y {α : Type} {P : α → Value → Prop} (hA : Aok 7 A)
    (hT : compTurn (.ListComp elt gens scope pos) d (.ref it) acc env = (standAt p >>= fun _ => pyNext (.ref it) >>= fun r => match r with
      | none => pure (.done .next)
      | some v => letOwnedTupleGo target (.ref it) v >>= fun _ => assign target env v >>= fun _ => body >>= fun _ => again (.compLoop (.ListComp elt gens scope pos) d (.ref it) acc env)))
    (J : List α → Loc → Ledger → Gens → Prop)
    (turn : ∀ x v rest tl tg loc nw G s, P x v → Sta W (G ++ tg) env loc (nw ++ (sh ++ tl)) s → J (x :: rest) loc nw G →
      wpAny (model W.prog W.w) A (assign target env v) (fun _ s₂ => wpAny (model W.prog W.w) A body (fun _ s₃ => ∃ loc' nw' G', Sta W (G' ++ tg) env loc' (nw' ++ (sh ++ tl)) s₃ ∧ J rest loc' nw' G') (fun _ _ => False) s₂) (fun _ _ => False) s)
    (fin : ∀ loc nw G s, Sta W G env loc (nw ++ sh) s → J [] loc nw G → R (.ok .next) s)
    {vs : List α} {own : Ledger} {og G : Gens} {loc : Loc} {nw : Ledger} {s : Shared} (S : Sta W (G ++ og) env loc (nw ++ (sh ++ own)) s) (hy : YieldsR W sh it P vs own og) (hJ : J vs loc nw G) :
    codeAny (model W.prog W.w) A (.compLoop (.ListComp elt gens scope pos) d (.ref it) acc env) R s := by
  refine codeAny_compLoop hT (fun n s => ∃ vs own og G loc nw, vs.length = n ∧ Sta W (G ++ og) env loc (nw ++ (sh ++ own)) s ∧ YieldsR W sh it P vs own og ∧ J vs loc nw G) (fun n s hI => ?_) vs.length ⟨vs, own, og, G, loc, nw, rfl, S, hy, hJ⟩
  obtain ⟨vs, own, og, G, loc, nw, hn, S, hy, hJ⟩ := hI
  cases vs with
  | nil => exact hy.2 A ((env.locals, IsNs loc) :: nw) G s _ _ hA S.to0 fun s' S' => fin loc nw G s' (St0.toSta S' S.eok) hJ
  | cons x rest =>
    refine hy.2 A ((env.locals, IsNs loc) :: nw) G s _ _ hA S.to0 fun v own' og' s' hpv S' hy' => ?_
    have S1 : Sta W (G ++ og') env loc (nw ++ (sh ++ own')) s' := St0.toSta S' S.eok
    have ht : Typ sh it own' := by cases rest <;> exact hy'.1
    obtain ⟨c, hc, hp⟩ := ht
    obtain ⟨o, ho, hco⟩ := S1.get (a := it) (c := c) (List.mem_append_right _ hc)
    refine tupGo ho (hp o hco) ?_
    refine wpAny_mono (turn x v rest own' og' loc nw G s' hpv S1 hJ) (fun _ s₂ h₂ => wpAny_mono h₂ (fun f s₃ h₃ => ?_) fun _ _ h => h) fun _ _ h => h
    obtain ⟨loc', nw', G', S3, hJ'⟩ := h₃
    exact ⟨rest.length, by rw [← hn]; simp, rest, own', og', G', loc', nw', rfl, S3, hy', hJ'⟩
/-- the start of a comprehension's loop -/
theorem comp_start {c : Cell} {s : Shared} {g : Comprehension} (hg : gens[d]? = some g) (ha : g.is_async = 0) (hs : SelfIt W it c) (m : ∃ o, s.heap.get? it = some o ∧ c o)
    (h : codeAny (model W.prog W.w) A (.compLoop (.ListComp elt gens scope pos) d (.ref it) acc env) R s) :
    codeAny (model W.prog W.w) A (.compStart (.ListComp elt gens scope pos) d (.ref it) acc env) R s := by
  obtain ⟨o, ho, hc⟩ := m
  refine codeAny_of_tree ?_
  show wpAny _ _ ((compStart (.ListComp elt gens scope pos) d (.ref it) acc env).onRaise (fun x => do noteFrame x env; standAt theWindowsPlace)) _ _ s
  refine wpAny_notedAt ?_
  have e : (clausesOf (.ListComp elt gens scope pos))[d]? = some g := hg
  unfold compStart
  rw [e]
  simp only [Option.elim_some, ha]
  show wpAny _ _ (ask >>= _) _ _ s
  refine wpAny_bind (wpAny_askSetting (wpAny_ite ?_))
  split
  · exact wpAny_pure (And.intro rfl h)
  · exact wpAny_bind (wpAny_rule (wpAny_bind (wpAny_standAt (wpAny_bind (hs A _ _ _ o ho hc (wpAny_pure (And.intro rfl h)))))))
end

section
variable {W : Wd} {G : Gens} {env : Env} {loc loc' : Loc} {nw nw' : Ledger} {s : Shared} {A : Around} {E : Value → Shared → Prop}
def kindsComp (sc : Scope) (ks : List Str) : Bool := sc.kind == .function && (sc.names.all fun x => x.2 != .cell) && (sc.names.all fun x => x.2 != .local || sc.names.lookup x.1 == some .local) && (ks.all fun x => sc.names.lookup x == some .local && !(x == ("__debug__" : Str))) && decide ks.Nodup
/-- what a comprehension does once its first iterator stands -/
def CompK (W : Wd) (A : Around) (env : Env) (e : Expr) (scope : Scope) (cl : List (Str × Addr)) (ks : List Str) (Q : Value → Shared → Prop) (it : Value) (s : Shared) : Prop :=
  ∃ G loc nw, Sta W G env loc nw s ∧ ∀ acc C s', EnvOk (compEnvC scope cl C env) ks → Sta W G (compEnvC scope cl C env) (ks.map fun k => (k, none)) ((acc, IsLst []) :: (env.locals, IsNs loc) :: nw) s' →
    codeAny (model W.prog W.w) A (.compStart e 0 it (.ref acc) (compEnvC scope cl C env)) (fun r s'' => ∃ f loc' nw' G', r = .ok f ∧ Sta W G' (compEnvC scope cl C env) loc' ((env.locals, IsNs loc) :: nw') s'' ∧ ∀ s₃, Sta W G' env loc nw' s₃ → Q (.ref acc) s₃) s'
theorem listComp {elt target iter : Expr} {gens : List Comprehension} {scope : Scope} {pos : Pos} {cl : List (Str × Addr)} {Q : Value → Shared → Prop} (ks : List Str)
    (hclos : closureFor scope env = pure cl) (hk : kindsComp scope ks = true) (he : env.globals = mainGlobals) (hb : env.builtins = builtinsNs)
    (h : wpAny (model W.prog W.w) A (eval iter env) (fun x s₁ => wpAny (model W.prog W.w) A (pyIter x) (fun it s₂ => CompK W A env (.ListComp elt (⟨target, iter, [], 0⟩ :: gens) scope pos) scope cl ks Q it s₂) E s₁) E s)
    (hs : ∀ x, foldedSetIterable iter env x = pure x := by intro _; rfl) :
    wpAny (model W.prog W.w) A (eval (.ListComp elt (⟨target, iter, [], 0⟩ :: gens) scope pos) env) Q E s := by
  simp only [kindsComp, Bool.and_eq_true, beq_iff_eq, Bool.not_eq_true', List.all_eq_true, bne_iff_ne, decide_eq_true_eq, Bool.or_eq_true] at hk
  obtain ⟨⟨⟨⟨hkind, hcell⟩, hnames⟩, hks⟩, hnd⟩ := hk
  rw [eval_ListComp]
  refine wpAny_comprehension_free (use := none) (cl := cl) rfl hs hclos hkind (fun x hx hl => (hnames x hx).resolve_left fun q => q hl) (wpAny_mono h (fun xv s₁ h₁ => wpAny_mono h₁ (fun it s₂ h₂ => ?_) fun _ _ e => e) fun _ _ e => e)
  obtain ⟨G, loc, nw, S, kk⟩ := h₂
  refine S.newList (by simp) fun acc s₃ S₃ => ?_
  refine wpAny_newFunctionEnv hcell (by intro y hy; simp at hy) (fun h₁ hns hsb => ?_) hkind
  have hkp : ∀ b o, s₃.heap.get? b = some o → h₁.get? b = some o := fun b o e => hsb.extBut b o (Nat.ne_of_lt (Heap.lt_size e)) (Heap.get?_push_of_some _ e)
  have D : Led W.B ((s₃.heap.objs.size, IsNs (ks.map fun k => (k, none))) :: (env.locals, IsNs loc) :: (acc, IsLst []) :: nw) h₁ := by
    obtain ⟨o, es, ep, ho', hd, hsk, hf⟩ := hns
    refine S₃.led.cons_new hkp S₃.led.size_ne S₃.led.size_new ho' ⟨by rw [List.map_map]; simpa [Function.comp_def] using hnd, es, ep, hd, hsk, fun x => ?_⟩
    rw [hf x, lk_none]; rfl
  have ek : (ks.map fun k => ((k, none) : Str × Option Value)).map Prod.fst = ks := by rw [List.map_map]; simp [Function.comp_def]
  have eok : EnvOk (compEnvC scope cl s₃.heap.objs.size env) ks := ⟨hkind, he, hb, fun x hx => lookup_relabel_local (hks x hx).1, fun x hx => (hks x hx).2, hnd⟩
  refine codeAny_mono (kk acc s₃.heap.objs.size { s₃ with heap := h₁, toks := s₃.toks + 0 } eok ⟨S₃.ok, by rw [ek]; exact eok, D.perm (List.Perm.cons _ (List.Perm.swap ..)), S₃.bare, S₃.os, S₃.gens, S₃.gnd⟩) fun r s'' h'' => ?_
  obtain ⟨f, loc', nw', G', rfl, S', hQ⟩ := h''
  refine ⟨_, S'.ns, fun h' hs' => hQ _ ⟨S'.ok, S.eok, ?_, S'.bare, S'.os, S'.gens, S'.gnd⟩⟩
  have := Led.dropBack (nw := []) (h' := h') S'.led fun b o hb e => (hs'.2 b hb).trans e
  exact this
end
end Mine
end

section
open PySem PySem.W PyProof.Rows PySem.W.X
set_option maxRecDepth 100000
namespace Mine
def IsCodeQ (qual : Str) : Cell := fun o => ∃ vs t, o.data = .fields vs ∧ vs[1]? = some (.str qual t)
def IsTab (ps : List Value) : Cell := fun o => o = tabObj ps.toArray
def IsLam (qual : Str) (params : Arguments) (body : Expr) (scope : Scope) (clos : List (Str × Addr)) (c' : Addr) : Cell := fun o => ∃ pm ctv, o = kla_obj "<lambda>" qual params body scope clos pm c' ctv
/-- the table of the law's own inner codes: none, or that of its one lambda -/
def Tabs (P : Addr) (pos : Pos) (qual : Str) (c? : Option Addr) : Ledger := match c? with
  | none => [(P, IsTab [])]
  | some c' => [(P, IsTab [rawInt pos.line, rawInt pos.col, .ref c']), (c', IsCodeQ qual)]
def frees (names : List (Str × NameKind)) : List Str := (names.filter fun p => p.2 == .free).map Prod.fst
theorem closure_go {env : Env} (ca : Str → Addr) (f : Str × NameKind → List (Str × Addr) → Sem (ForInStep (List (Str × Addr))))
    (hf : ∀ x cs, f x cs = if x.2 == .free then (cellOf env x.1 >>= fun c => pure (.yield ((x.1, c) :: cs))) else pure (.yield cs)) :
    ∀ (names : List (Str × NameKind)) (acc : List (Str × Addr)), (∀ x ∈ frees names, env.cells.lookup x = some (ca x)) →
    forIn names acc f = (pure (((frees names).map fun x => (x, ca x)).reverse ++ acc) : Sem _)
  | [], acc, _ => rfl
  | (n, k) :: r, acc, h => by
    rw [List.forIn_cons, hf]
    cases hk : k == .free with
    | true =>
      have e : frees ((n, k) :: r) = n :: frees r := by simp [frees, hk]
      have hc : cellOf env n = pure (ca n) := by unfold cellOf; rw [h n (by rw [e]; exact .head _)]
      simp only [if_true, hc, pure_bind]
      rw [closure_go ca f hf r _ fun x hx => h x (by rw [e]; exact .tail _ hx), e]
      simp
    | false =>
      have e : frees ((n, k) :: r) = frees r := by simp [frees, hk]
      simp only [Bool.false_eq_true, if_false, pure_bind]
      rw [closure_go ca f hf r _ fun x hx => h x (by rw [e]; exact hx), e]
theorem closure_eq {scope : Scope} {env : Env} (ca : Str → Addr) (h : ∀ x ∈ frees scope.names, env.cells.lookup x = some (ca x)) : closureFor scope env = pure (((frees scope.names).map fun x => (x, ca x)).reverse) := by
  simp only [closureFor]
  rw [closure_go ca _ (fun x cs => by obtain ⟨n, k⟩ := x; cases hk : k == NameKind.free <;> simp) _ _ h]
  simp
theorem closure_one {scope : Scope} {env : Env} {x : Str} {c : Addr} (h : frees scope.names = [x]) (hc : CellOk env .cell x c) : closureFor scope env = pure [(x, c)] := by
  rw [closure_eq (fun _ => c) (by rw [h]; intro y hy; rw [List.mem_singleton.mp hy]; exact hc.at_), h]; rfl
theorem closure_two {scope : Scope} {env : Env} {x y : Str} {c d : Addr} (h : frees scope.names = [x, y]) (hn : (y == x) = false) (hc : CellOk env .cell x c) (hd : CellOk env .cell y d) : closureFor scope env = pure [(y, d), (x, c)] := by
  rw [closure_eq (fun z => if z == x then c else d) (by
    rw [h]; intro z hz
    rcases List.mem_cons.mp hz with rfl | hz
    · simp [hc.at_]
    · rw [List.mem_singleton.mp hz, hn]; exact hd.at_), h]
  simp [beq_eq_false_iff_ne.mp hn]
section
variable {W : Wd} {G : Gens} {env : Env} {loc loc' : Loc} {nw nw' : Ledger} {s : Shared} {A : Around} {E : Value → Shared → Prop}
theorem Sta.bmAt (S : Sta W G env loc nw s) {P : Addr} {c : Cell} (m : (P, c) ∈ nw) : ∃ mg, s.heap.Ns mainGlobals mg ∧ mainGlobals ≠ P ∧ s.heap.BuiltinsAt mg P := by
  obtain ⟨mg, bm, ob, hg, h1, h2, h3, h4, h5, h6, h7⟩ := S.ok.bm
  have hB := (S.led.own _ (.tail _ m)).1
  refine ⟨mg, hg.keeps S.led.keep, fun q => ?_, bm, ob, h1, h2, h3, fun q => ?_, S.led.keep _ _ h4, h5, h6, h7⟩
  · obtain ⟨o, es, ep, e, _⟩ := hg
    rw [q] at e; rw [hB] at e; cases e
  · rw [q] at h4; rw [hB] at h4; cases h4
theorem Sta.lambda {params : Arguments} {body : Expr} {scope : Scope} {pos : Pos} {clos : List (Str × Addr)} {P c : Addr} {c? : Option Addr} {Q : Value → Shared → Prop}
    (S : Sta W G env loc (Tabs P pos (env.qual ++ "<lambda>") c? ++ nw) s) (hdef : defaultsOf params env = ([], [])) (hcl : closureFor scope env = pure clos) (hcode : env.code = .ref c) (C : CodeHd W.B c P)
    (h : ∀ f c' s', Sta W G env loc ((f, IsLam (env.qual ++ "<lambda>") params body scope clos c') :: (Tabs P pos (env.qual ++ "<lambda>") (some c') ++ nw)) s' → Q (.ref f) s') :
    wpAny (model W.prog W.w) A (eval (.Lambda params body scope pos) env) Q E s := by
  refine kla_eval hdef ?_
  cases c? with
  | none =>
    have m : (P, IsTab []) ∈ Tabs P pos (env.qual ++ "<lambda>") none ++ nw := .head _
    obtain ⟨mg, hg, hgP, hb⟩ := S.bmAt m
    obtain ⟨o, hP, rfl⟩ := S.get m
    refine kla_makeFunction hcl S.eok.glob hg hcode (C.keeps S.led.keep) hP trivial rfl hgP hb fun c' ctv h' tk hx hge hlt hrec hP' => ?_
    obtain ⟨c2, oc, vs, t, e, hc, hd, hv⟩ := hrec
    cases e
    refine h _ c' _ ?_
    have D := S.led
    have hne : ∀ p ∈ ((env.locals, IsNs loc) :: (Tabs P pos (env.qual ++ "<lambda>") none ++ nw)), p.1 ≠ c' := fun p hp q => by
      obtain ⟨o2, ho2, _⟩ := (D.own p hp).2
      have := Heap.lt_size ho2
      rw [q] at this
      exact absurd hge (Nat.not_le.mpr this)
    have D1 : Led W.B ((env.locals, IsNs loc) :: (P, IsTab [rawInt pos.line, rawInt pos.col, .ref c']) :: nw) h' := by
      refine D.set (a := P) (c := IsTab []) (.tail .head) (fun b o hb e => hx b o hb e) hP' ?_
      show tabObj _ = tabObj _
      simp
    have D2 : Led W.B ((c', IsCodeQ (env.qual ++ "<lambda>")) :: (env.locals, IsNs loc) :: (P, IsTab [rawInt pos.line, rawInt pos.col, .ref c']) :: nw) h' := by
      refine D1.cons_new (fun _ _ e => e) (fun q => ?_) ?_ hc ⟨vs, t, hd, hv⟩
      · obtain ⟨p, hp, e⟩ := List.mem_map.mp q
        rcases List.mem_cons.mp hp with rfl | hp
        · exact hne _ (.head _) e
        rcases List.mem_cons.mp hp with rfl | hp
        · exact hne (P, IsTab []) (.tail _ (.head _)) e
        · exact hne p (.tail _ (.tail _ hp)) e
      · cases q : W.B.get? c' with
        | none => rfl
        | some o2 => exact absurd (Heap.lt_size (D.keep _ _ q)) (Nat.not_lt.mpr hge)
    have D3 := D2.new (c := IsLam (env.qual ++ "<lambda>") params body scope clos c') (o := kla_obj "<lambda>" (env.qual ++ "<lambda>") params body scope clos ((mg "__name__").getD .none) c' ctv) rfl ⟨_, _, rfl⟩
    refine ⟨S.ok, S.eok, D3.perm ?_, S.bare, S.os, S.gens, S.gnd⟩
    show List.Perm (_ :: (c', _) :: (env.locals, _) :: (P, _) :: nw) ((env.locals, _) :: _ :: (P, _) :: (c', _) :: nw)
    refine (List.Perm.cons _ (List.Perm.swap ..)).trans ((List.Perm.swap ..).trans (List.Perm.cons _ (List.Perm.cons _ (List.Perm.swap ..))))
  | some c' =>
    have m : (P, IsTab [rawInt pos.line, rawInt pos.col, .ref c']) ∈ Tabs P pos (env.qual ++ "<lambda>") (some c') ++ nw := .head _
    obtain ⟨mg, hg, hgP, hb⟩ := S.bmAt m
    obtain ⟨o, hP, rfl⟩ := S.get m
    refine kla_makeFunctionHit (cv := .ref c') hcl S.eok.glob hg hcode (C.keeps S.led.keep) hP ⟨⟩ (by simp [codeAmong, rawInt]) hb fun ctv h' tk hk _ => ?_
    refine h _ c' _ ?_
    exact (S.grow hk tk).new (c := IsLam (env.qual ++ "<lambda>") params body scope clos c') rfl ⟨_, _, rfl⟩ tk
theorem Sta.call_lam {qual : Str} {params : Arguments} {body : Expr} {scope : Scope} {clos : List (Str × Addr)} {f c' : Addr} {Q : Value → Shared → Prop} {pos : List Value} {binds : List (Str × Value)}
    (S : Sta W G env loc nw s) (m : (f, IsLam qual params body scope clos c') ∈ nw) (mc : (c', IsCodeQ qual) ∈ nw) (hroom : A.depth < recursionLimit)
    (hbind : ∀ pm ctv, bindArgs (kla_fn "<lambda>" qual params body scope clos pm (.ref c') ctv) ⟨pos, []⟩ = pure binds) (hk : kindsOk scope (binds.map Prod.fst) = true)
    (h : ∀ L s', Sta W G (envX qual scope L f (.ref c') clos) (mkLoc binds []) ((env.locals, IsNs loc) :: nw) s' →
      wpAny (model W.prog W.w) (A.deeper (envX qual scope L f (.ref c') clos)) (eval body (envX qual scope L f (.ref c') clos)) Q (fun _ _ => False) s') :
    wpAny (model W.prog W.w) A (call (.ref f) pos) Q E s := by
  simp only [kindsOk, Bool.and_eq_true, beq_iff_eq, Bool.not_eq_true', List.all_eq_true, bne_iff_ne, decide_eq_true_eq] at hk
  obtain ⟨⟨⟨⟨⟨hkind, hco⟩, hgen⟩, hcell⟩, hks⟩, hnd⟩ := hk
  have hks2 : ((mkLoc binds []).map Prod.fst) = binds.map Prod.fst := by
    simp [mkLoc, List.map_map, Function.comp_def]
  obtain ⟨o, ho, pm, ctv, rfl⟩ := S.get m
  obtain ⟨oc, hoc, vs, t, hd, hv⟩ := S.get mc
  refine wpAny_call (kla_callFunE hroom ho rfl hco hgen rfl ⟨c', oc, vs, t, rfl, hoc, hd, hv⟩ ?_)
  rw [hbind]
  refine wpAny_pure (wpAny_newFunctionEnv hcell (fun x hx => (hks x.1 (List.mem_map.mpr ⟨x, hx, rfl⟩)).1) (fun h₁ hns hsb => ?_) hkind)
  have hkp : ∀ b o, s.heap.get? b = some o → h₁.get? b = some o := fun b o e => hsb.extBut b o (Nat.ne_of_lt (Heap.lt_size e)) (Heap.get?_push_of_some _ e)
  refine ⟨S.nolimit.keeps hkp, kla_codeExpr ?_⟩
  have D : Led W.B ((s.heap.objs.size, IsNs (mkLoc binds [])) :: (env.locals, IsNs loc) :: nw) h₁ := by
    obtain ⟨o, es, ep, ho', hd, hsk, hf⟩ := hns
    refine S.led.cons_new hkp S.led.size_ne S.led.size_new ho' ⟨by rw [hks2]; exact hnd, es, ep, hd, hsk, fun x => ?_⟩
    rw [hf x, lk_mkLoc _ _ hnd]
  have S' : Sta W G (envX qual scope s.heap.objs.size f (.ref c') clos) (mkLoc binds []) ((env.locals, IsNs loc) :: nw) { s with heap := h₁, toks := s.toks + binds.length } :=
    ⟨S.ok, by rw [hks2]; exact ⟨hkind, rfl, rfl, fun x hx => (hks x hx).1, fun x hx => (hks x hx).2, hnd⟩, D, S.bare, S.os, S.gens, S.gnd⟩
  exact wpAny_mono (h _ _ S') (fun fl s'' q => q) (fun _ _ q => q.elim)
end
end Mine
end

section
open PySem PySem.W PyProof.Rows PySem.W.X
set_option maxRecDepth 100000
namespace Mine
def IsRng (a b : Int) : Cell := fun o => ∃ t u v, o = { cls := .type "range", dict := none, data := .fields #[.int a t, .int b u, .int 1 v], slots := #[] }
def IsRngIt (x left : Int) : Cell := fun o => o = { cls := .type "range_iterator", dict := none, data := .fields #[rawInt x, rawInt left, rawInt 1], slots := #[] }
theorem plain_rng {d : Option Addr} {dt : Data} {sl : Array (Option Value)} : plainIt { cls := .type "range_iterator", dict := d, data := dt, slots := sl } = true := by unfold plainIt; dsimp only; decide
theorem toks_grow {W : Wd} {G : Gens} {nw : Ledger} {s : Shared} (S : St0 W G nw s) (t : Nat) : St0 W G nw { s with toks := t } := ⟨S.ok, S.led, S.bare, S.os, S.gens, S.gnd⟩
theorem yields_range {W : Wd} {sh : Ledger} {it : Addr} : ∀ (n a : Nat), YieldsR W sh it (fun (k : Nat) v => ∃ t, v = .int (k : Int) t) (List.range' a n) [(it, IsRngIt (a : Int) (n : Int))] []
  | 0, a => ⟨⟨IsRngIt (a : Int) ((0 : Nat) : Int), by simp, fun o h => by rw [h]; exact plain_rng⟩, fun A R GR s Q E hA S hQ => by
    have D0 : Led W.B ((R ++ sh) ++ ((it, IsRngIt (a : Int) ((0 : Nat) : Int)) :: [])) s.heap := by rw [List.append_assoc]; exact S.led
    obtain ⟨o, ho, rfl⟩ := D0.get (a := it) (c := IsRngIt (a : Int) ((0 : Nat) : Int)) (by simp)
    refine wpAny_pyNext_range_end hA.handled ho (by simp) fun h' hx => hQ _ ?_
    refine ⟨S.ok, ?_, S.bare, S.os, fun p hp => S.gens p (by simpa using hp), by simpa using S.gnd⟩
    exact (D0.dropBack fun b o hb e => hx b o hb e).sub (List.sublist_append_left _ _)⟩
  | n + 1, a => by
    rw [List.range'_succ]
    refine ⟨⟨IsRngIt (a : Int) ((n + 1 : Nat) : Int), by simp, fun o h => by rw [h]; exact plain_rng⟩, ?_⟩
    intro A R GR s Q E hA S hQ
    have D0 : Led W.B ((R ++ sh) ++ ((it, IsRngIt (a : Int) ((n + 1 : Nat) : Int)) :: [])) s.heap := by rw [List.append_assoc]; exact S.led
    obtain ⟨o, ho, rfl⟩ := D0.get (a := it) (c := IsRngIt (a : Int) ((n + 1 : Nat) : Int)) (by simp)
    refine wpAny_pyNext_range_item ho (by omega) fun h' hit hs => ?_
    have D1 := D0.back (c' := IsRngIt ((a + 1 : Nat) : Int) (n : Int)) (h' := h') (fun b o hb e => (hs.2 b hb).trans e) hit (by
      have e1 : ((a : Int) + 1) = ((a + 1 : Nat) : Int) := by omega
      have e2 : (((n + 1 : Nat) : Int) - 1) = (n : Int) := by omega
      rw [e1, e2]; rfl)
    rw [List.append_assoc] at D1
    exact hQ _ _ [] _ ⟨_, rfl⟩ ⟨S.ok, D1, S.bare, S.os, S.gens, S.gnd⟩ (yields_range n (a + 1))

theorem self_rng {W : Wd} {it : Addr} {x left : Int} : SelfIt W it (IsRngIt x left) := fun A s Q E o ho hc h => by
  subst hc
  have hT : s.TypeIs (.ref it) "range_iterator" := ⟨_, ho, rfl⟩
  refine wpAny_pyIter_slot hT F.slot_range_iterator_iter (wpAny_call_entry F.slot_range_iterator_iter hT F.entry_range_iterator_iter ?_ (F.args_range_iterator_iter_1 _))
  exact wpAny_pure ⟨_, rfl, "range_iterator", _, hT, F.slot_range_iterator_next.lookup, h⟩
theorem self_li {W : Wd} {it l : Addr} {i : Nat} : SelfIt W it (IsLI l i) := fun A s Q E o ho hc h => wpAny_pyIter_listiter ⟨o, ho, hc.1, hc.2⟩ h

section
variable {W : Wd} {G : Gens} {env : Env} {loc loc' : Loc} {nw nw' : Ledger} {s : Shared} {A : Around} {E : Value → Shared → Prop}
theorem Sta.range1 {n : Int} {t : Tok} {Q : Value → Shared → Prop} (S : Sta W G env loc nw s) (h : ∀ r s', Sta W G env loc ((r, IsRng 0 n) :: nw) s' → Q (.ref r) s') : wpAny (model W.prog W.w) A (call (.type "range") [.int n t]) Q E s :=
  call_range_1 (h _ _ (S.new (c := IsRng 0 n) rfl ⟨_, _, _, rfl⟩ _))
theorem Sta.range2 {a n : Int} {t u : Tok} {Q : Value → Shared → Prop} (S : Sta W G env loc nw s) (h : ∀ r s', Sta W G env loc ((r, IsRng a n) :: nw) s' → Q (.ref r) s') : wpAny (model W.prog W.w) A (call (.type "range") [.int a t, .int n u]) Q E s :=
  call_range_2 (h _ _ (S.new (c := IsRng a n) rfl ⟨_, _, _, rfl⟩ _))
theorem Sta.iterRange {r : Addr} {a b : Nat} {Q : Value → Shared → Prop} (S : Sta W G env loc nw s) (m : (r, IsRng (a : Int) (b : Int)) ∈ nw) (ha : a ≤ 1000000) (hb : b ≤ 1000000) (h : ∀ it s', Sta W G env loc ((it, IsRngIt (a : Int) ((b - a : Nat) : Int)) :: nw) s' → Q (.ref it) s') :
    wpAny (model W.prog W.w) A (pyIter (.ref r)) Q E s := by
  obtain ⟨o, ho, t, u, v, rfl⟩ := S.get m
  refine wpAny_pyIter_range ho (small_one (by omega) (by omega) (by omega) (by omega)) (h _ _ (S.new (c := IsRngIt (a : Int) ((b - a : Nat) : Int)) rfl ?_ s.toks))
  rw [rangeSize_one]
  have : (if (a : Int) < (b : Int) then (b : Int) - (a : Int) else 0) = ((b - a : Nat) : Int) := by split <;> omega
  rw [this]; rfl
theorem Sta.iterList {l : Addr} {xs : List Value} {Q : Value → Shared → Prop} (S : Sta W G env loc nw s) (m : (l, IsLst xs) ∈ nw) (h : ∀ it s', Sta W G env loc ((it, IsLI l 0) :: nw) s' → Q (.ref it) s') :
    wpAny (model W.prog W.w) A (pyIter (.ref l)) Q E s :=
  wpAny_pyIter_list (S.isList m) (h _ _ (S.new (c := IsLI l 0) rfl ⟨rfl, rfl⟩ s.toks))
theorem Sta.iterBase {l : Addr} {xs : List Value} {Q : Value → Shared → Prop} (S : Sta W G env loc nw s) (m : W.B.IsList l xs.toArray) (h : ∀ it s', Sta W G env loc ((it, IsLI l 0) :: nw) s' → Q (.ref it) s') :
    wpAny (model W.prog W.w) A (pyIter (.ref l)) Q E s :=
  wpAny_pyIter_list (let ⟨o, e, r⟩ := m; ⟨o, S.led.keep _ _ e, r⟩) (h _ _ (S.new (c := IsLI l 0) rfl ⟨rfl, rfl⟩ s.toks))
theorem Sta.reversed {l : Addr} {xs : List Value} {Q : Value → Shared → Prop} (S : Sta W G env loc nw s) (m : (l, IsLst xs) ∈ nw) (h : ∀ it s', Sta W G env loc ((it, IsRI l ((xs.length : Int) - 1)) :: nw) s' → Q (.ref it) s') :
    wpAny (model W.prog W.w) A (call (.type "reversed") [.ref l]) Q E s :=
  call_reversed_list (S.isList m) (h _ _ (S.new (c := IsRI l ((xs.length : Int) - 1)) rfl ⟨rfl, by simp [revObj]⟩ s.toks))
theorem Sta.iterRev {it l : Addr} {i : Int} {Q : Value → Shared → Prop} (S : Sta W G env loc nw s) (m : (it, IsRI l i) ∈ nw) (h : Q (.ref it) s) : wpAny (model W.prog W.w) A (pyIter (.ref it)) Q E s := by
  obtain ⟨o, ho, hc, hd⟩ := S.get m
  exact wpAny_pyIter_revIter ⟨o, ho, hc, hd⟩ h
/-- items -/
theorem Sta.item {l : Addr} {xs : List Value} {k : Int} {t : Tok} {v : Value} {Q : Value → Shared → Prop} (S : Sta W G env loc nw s) (m : (l, IsLst xs) ∈ nw) (h0 : 0 ≤ k) (h1 : k < 1000000) (hx : xs[k.toNat]? = some v) (h : Q v s) :
    wpAny (model W.prog W.w) A (getItem (.ref l) (.int k t)) Q E s := wpAny_getItem_list (S.isList m) h0 (by omega) (by simpa using hx) h
theorem Sta.setItem {l : Addr} {xs : List Value} {k : Int} {t : Tok} {v : Value} {Q : Unit → Shared → Prop} (S : Sta W G env loc nw s) (U : Upd l (IsLst xs) (IsLst (xs.set k.toNat v)) nw nw') (h0 : 0 ≤ k) (h1 : k < 1000000) (hx : k.toNat < xs.length) (h : ∀ s', Sta W G env loc nw' s' → Q () s') :
    wpAny (model W.prog W.w) A (PySem.setItem (.ref l) (.int k t) v) Q E s := by
  obtain ⟨n, hl⟩ := S.isL U.mem
  have hT : s.TypeIs (.ref l) "list" := ⟨_, hl, rfl⟩
  have hj : k.toNat < xs.toArray.size := by simpa using hx
  have hS := h _ (S.setL hl (·.setIfInBounds k.toNat v) (by simp) U s.toks)
  have hfit := fitsIndex_of h0 (by omega)
  clear h1 h hx
  unfold PySem.setItem
  refine wpAny_holding (wpAny_bind (wpAny_sequenceKey hT (by decide) ?_))
  refine wpAny_bind (wpAny_callSpecial?_slot (name := Str.ofString "__setitem__") hT F.slot_list_setitem (wpAny_call_entry F.slot_list_setitem hT F.entry_list_setitem ?_ (F.args_list_setitem_3 _ _ _)))
  show wpAny _ _ (Builtin.List.listSubscript? (.int k t) >>= _) _ _ s
  refine wpAny_bind (wpAny_listSubscript_int hfit ?_)
  clear hfit
  obtain ⟨j, rfl⟩ := Int.eq_ofNat_of_zero_le h0
  have hj : j < xs.toArray.size := hj
  show wpAny _ _ ((seqItemAt l j >>= fun r => pure (r.map (j, ·))) >>= _) _ _ s
  refine wpAny_bind (wpAny_bind (wpAny_seqItemAt hl rfl (wpAny_pure ?_)))
  rw [Array.getElem?_eq_getElem hj]
  show wpAny _ _ (setSeqItemAt l j v >>= _) _ _ s
  refine wpAny_bind (wpAny_setSeqItemAt hl rfl ?_)
  exact wpAny_pure ⟨.none, rfl, wpAny_pure hS⟩
def SubK (M : Model) (A : Around) (E : Value → Shared → Prop) (o i : Value) (Q : Value → Shared → Prop) (s : Shared) : Prop := SubscriptOn M A o i Q E s
theorem Sta.sub_list {l : Addr} {xs : List Value} {k : Int} {t : Tok} {v : Value} {Q : Value → Shared → Prop} (S : Sta W G env loc nw s) (m : (l, IsLst xs) ∈ nw) (h0 : 0 ≤ k) (h1 : k < 1000000) (hx : xs[k.toNat]? = some v) (h : Q v s) :
    SubscriptOn (model W.prog W.w) A (.ref l) (.int k t) Q E s := ⟨"list", _, F.slot_list_getitem.lookup, (S.isList m).typeIs, S.item m h0 h1 hx h⟩
/-- any subscript by an index, whatever stands ahead of it -/
theorem Subscript_any {value slice : Expr} {pos : Pos} {Q : Value → Shared → Prop}
    (h : wpAny (model W.prog W.w) A (eval value env) (fun o s₁ => wpAny (model W.prog W.w) A (eval slice env) (fun i s₂ => SubscriptOn (model W.prog W.w) A o i Q E s₂) E s₁) E s)
    (he : ∀ o i, subscripted slice false o i = operate [o, i] (getItem o i)) :
    wpAny (model W.prog W.w) A (eval (.Subscript value slice pos) env) Q E s := by
  rw [eval_Subscript]
  refine wpAny_bind (wpAny_mono h (fun o s₁ h₁ => wpAny_bind (wpAny_holding (wpAny_mono h₁ (fun i s₂ h₂ => wpAny_bind (wpAny_standAt ?_)) fun _ _ x => x))) fun _ _ x => x)
  obtain ⟨T, id, hl, hT, hg⟩ := h₂
  refine wpAny_bind ?_
  rw [getitemInPython_of_ne hT.not_modules]
  refine wpAny_bind (wpAny_specialOf hT hl ?_)
  have fin : wpAny (model W.prog W.w) A (subscripted slice false o i) (fun r s₃ => wpAny (model W.prog W.w) A (letTemporaryGo value o r >>= fun _ => pure r) Q E s₃) E s₂ := by
    rw [he]
    exact wpAny_operating (wpAny_mono hg (fun r s₃ h₃ => wpAny_bind (wpAny_letTemporaryGo (wpAny_pure h₃))) fun _ _ x => x)
  first
    | exact wpAny_pure (wpAny_bind fin)
    | exact wpAny_bind (wpAny_pure (wpAny_bind fin))
    | exact wpAny_bind fin
theorem Sta.insert {l : Addr} {xs : List Value} {k : Nat} {t : Tok} {v : Value} {Q : Value → Shared → Prop} (S : Sta W G env loc nw s) (U : Upd l (IsLst xs) (IsLst (xs.take k ++ v :: xs.drop k)) nw nw') (hk : k ≤ xs.length) (hz : xs.length ≤ sizeLine) (h : ∀ s', Sta W G env loc nw' s' → Q .none s') :
    wpAny (model W.prog W.w) A (call (.builtin "list.insert") [.ref l, .int (k : Int) t, v]) Q E s := by
  obtain ⟨n, hl⟩ := S.isL U.mem
  have hz' := hz
  rw [sizeLine_eq] at hz'
  have hfit : Builtin.List.listFitsIndex (k : Int) = true := fitsIndex_of (by omega) (by omega)
  have e : (if (k : Int) < 0 then ((k : Int) + (xs.toArray.size : Int)).toNat else min (k : Int).toNat xs.toArray.size) = k := by
    rw [if_neg (by omega)]; simp; omega
  generalize (k : Int) = x at hfit e
  refine call_meets F.slot_list_insert ⟨_, hl, rfl⟩ F.entry_list_insert (F.args_list_insert_3 _ _ _) (AutoSeq1.list_insert_list_int_val_1 l xs.toArray n x t v (by rw [hfit]; decide) (by simpa using hz)) ⟨hl, h _ (S.setL hl _ ?_ U _)⟩
  dsimp only
  rw [e]
  apply Array.ext'
  simp
  exact List.take_of_length_le (by simp)
theorem Sta.copy {l : Addr} {xs : List Value} {Q : Value → Shared → Prop} (S : Sta W G env loc nw s) (m : (l, IsLst xs) ∈ nw) (hz : xs.length ≤ sizeLine) (h : ∀ a s', Sta W G env loc ((a, IsLst xs) :: nw) s' → Q (.ref a) s') :
    wpAny (model W.prog W.w) A (call (.type "list") [.ref l]) Q E s := by
  obtain ⟨o, ho, hc, n, hd⟩ := S.isList m
  refine call_list_seq (hsz := by simpa using hz) l (.inl rfl) ho hc hd fun h' c' hk hD => h _ _ ⟨S.ok, S.eok, ?_, S.bare, S.os, S.gens, S.gnd⟩
  exact (S.led.cons_new hk S.led.size_ne S.led.size_new hD ⟨c', rfl⟩).perm (List.Perm.swap ..)
theorem Sta.strInt {a : Int} {t : Tok} {Q : Value → Shared → Prop} (S : Sta W G env loc nw s) (ha : a.natAbs.log2 < 1920) (h : ∀ x t' s', Sta W G env loc nw s' → Q (.str x t') s') : wpAny (model W.prog W.w) A (call (.type "str") [.int a t]) Q E s :=
  PySem.P.str_of_int ha (h _ _ _ (S.toks _))
theorem Sta.fdiv {a b : Int} {t u : Tok} {Q : Value → Shared → Prop} (S : Sta W G env loc nw s) (hb : b ≠ 0) (hp : b.natAbs < 1073741824) (h : ∀ t s', Sta W G env loc nw s' → Q (.int (a.fdiv b) t) s') : wpAny (model W.prog W.w) A (binaryOp .FloorDiv (.int a t) (.int b u)) Q E s :=
  floordiv_int hb (h _ _ (S.toks _)) (.inl (PyProof.noPylong_small hp))
theorem Sta.iadd {a b : Int} {t u : Tok} {Q : Value → Shared → Prop} (S : Sta W G env loc nw s) (h : ∀ t s', Sta W G env loc nw s' → Q (.int (a + b) t) s') : wpAny (model W.prog W.w) A (inplaceOp .Add (.int a t) (.int b u)) Q E s :=
  PyProof.Rows.iadd_int (h _ _ (S.toks _))
/-- a tuple unpacked -/
theorem Sta.isTup {a : Addr} {xs : List Value} (S : Sta W G env loc nw s) (m : (a, IsTpl xs) ∈ nw) : IsTup s.heap a xs.toArray := by
  obtain ⟨o, ho, n, rfl⟩ := S.get m
  exact ⟨_, ho, rfl, n, rfl⟩
theorem Sta.unpackI {a : Addr} {xs : List Value} {n : Nat} {Q : List Value → Shared → Prop} (S : Sta W G env loc nw s) (hh : A.handled = none) (m : (a, IsTpl xs) ∈ nw) (hn : n = xs.length) (h : ∀ s', Sta W G env loc nw s' → Q xs s') : wpAny (model W.prog W.w) A (unpackItems (.ref a) n none) Q E s := by
  subst hn
  have e : xs.length = xs.toArray.size := by simp
  rw [e]
  exact unpackItems_tuple hh (S.isTup m) fun h' he => h _ (S.grow (fun b o e => he b o (Nat.ne_of_lt (Heap.lt_size e)) e) s.toks)
theorem Sta.unpackT {elts : List Expr} {x1} {pos : Pos} {a : Addr} {xs : List Value} {Q : Unit → Shared → Prop} (S : Sta W G env loc nw s) (hh : A.handled = none) (m : (a, IsTpl xs) ∈ nw)
    (hn : (assignEach elts env).length = xs.length) (hstar : (assignEach elts env).findIdx? (·.1) = none) (h : ∀ s', Sta W G env loc nw s' → wpAny (model W.prog W.w) A (assignInOrder ((assignEach elts env).map (·.2)) xs) Q E s') :
    wpAny (model W.prog W.w) A (assign (.Tuple elts x1 pos) env (.ref a)) Q E s :=
  assign_Tuple_tuple hh (S.isTup m) (by simpa using hn) hstar fun h' he => h _ (S.grow (fun b o e => he b o (Nat.ne_of_lt (Heap.lt_size e)) e) s.toks)
/-- a call of a def or class of the text -/
theorem callW {pos : Pos} {f : Addr} {first : List Value} {e : Expr} {rest : List Expr} {Q : Value → Shared → Prop} (hk : keepIn W.K (.ref f) = true)
    (h : wpAny (model W.prog W.w) A (spliced (backTo pos (starEach (e :: rest) env))) (fun vs s₁ => W.K.In s₁.heap ∧ wpAny (model W.prog W.w) A (call (.ref f) (first ++ vs)) Q E s₁) E s)
    (he : starEach (e :: rest) env = (false, eval e env) :: starEach rest env) (hplain : (backTo pos (starEach rest env)).any (·.1) = false) :
    wpAny (model W.prog W.w) A (callWith pos (.ref f) first (backTo pos (starEach (e :: rest) env)) []) Q E s := by
  rw [he] at h ⊢
  refine callWith_of (P := fun h => W.K.In h) (by show (false || (backTo pos (starEach rest env)).any (·.1) || false) = false; rw [hplain]; rfl) (fun h X => keeps_K hk h X) (Calls.evalArgs_plain h)
theorem callW0 {pos : Pos} {f : Addr} {first : List Value} {Q : Value → Shared → Prop} (hk : keepIn W.K (.ref f) = true) (X : W.K.In s.heap)
    (h : wpAny (model W.prog W.w) A (call (.ref f) first) Q E s) :
    wpAny (model W.prog W.w) A (callWith pos (.ref f) first (backTo pos (starEach [] env)) []) Q E s :=
  callWith_of (P := fun h => W.K.In h) rfl (fun h X => keeps_K hk h X) (PySem.evalArgs_none ⟨X, by rw [List.append_nil]; exact h⟩)
end
end Mine
end

section
open PySem PySem.W PyProof.Rows PySem.W.X
set_option maxRecDepth 100000
namespace Mine
theorem lk_list_append : typeLookup (.type "list") "append" = pure (some (.builtin "list.append")) := by rw [typeLookup_type, builtinLookup_eq_fast]; kernel_rfl
theorem lk_md_get : typeLookup (.type "method_descriptor") "__get__" = pure (some (.builtin "method_descriptor.__get__")) := by rw [typeLookup_type, builtinLookup_eq_fast]; kernel_rfl
theorem lk_md_set : typeLookup (.type "method_descriptor") "__set__" = pure none := by rw [typeLookup_type, builtinLookup_eq_fast]; kernel_rfl
theorem lk_md_del : typeLookup (.type "method_descriptor") "__delete__" = pure none := by rw [typeLookup_type, builtinLookup_eq_fast]; kernel_rfl
theorem ty_append : typeOf (.builtin "list.append") = pure (.type "method_descriptor") := by show builtinType _ = _; rw [builtinType_eq_fast]; kernel_rfl
theorem slot_md_get : Slot "method_descriptor" "__get__" "method_descriptor.__get__" :=
  Slot.of lk_md_get (owner := "method_descriptor") (n := "__get__") (by decide +kernel) (by decide +kernel) (by decide +kernel) (.inl (by decide +kernel)) (by rw [isSubtype_type]; kernel_rfl)
theorem entry_md_get : entryFor table "method_descriptor.__get__" = some Builtin.«method_descriptor.__get__» := entryFor_of_tree (by kernel_rfl)
theorem args_md_get (a b c : Value) : argsOk "method_descriptor.__get__" ⟨[a, b, c], []⟩ := by unfold argsOk; kernel_rfl
theorem told_append : Manifest.toldItsClass.contains "list.append" = false := by decide +kernel
theorem ty_ga : typeOf (.builtin "list.__getattribute__") = pure (.type "wrapper_descriptor") := by show builtinType _ = _; rw [builtinType_eq_fast]; kernel_rfl
theorem sub_ll : isSubtype (.type "list") (.type "list") = pure true := by rw [isSubtype_type]; kernel_rfl
def IsBound (id : String) (self : Value) : Cell := fun o => o = { cls := .type "builtin_function_or_method", data := .fields #[.builtin id, self] }
theorem md_get_run {prog : Program} {w : World} {A : Around} {E : Value → Shared → Prop}  {h : Heap} {g : Array GenState} {d : Drawn} {t : Nat} {os : OsState} {a : Addr} {xs : List Value} {n : Nat} {Q : Fin → Shared → Prop}
   (hx : h.get? a = some { cls := .type "list", data := .seq xs.toArray n }) (hq : Q (.done (.ret (.ref h.objs.size))) ⟨h.push { cls := .type "builtin_function_or_method", data := .fields #[.builtin "list.append", .ref a] }, g, d, t, os⟩) :
   wpAny (model prog w) A (Builtin.«method_descriptor.__get__» ⟨[.builtin "list.append", .ref a, .type "list"], []⟩) Q E ⟨h, g, d, t, os⟩ := by
  have hT : (⟨h, g, d, t, os⟩ : Shared).TypeIs (.ref a) "list" := ⟨_, hx, rfl⟩
  have f1 := told_append
  unfold Builtin.«method_descriptor.__get__»
  repeat lk
  exact hq
theorem getattr_append {prog : Program} {w : World} {A : Around} {E : Value → Shared → Prop}  {h : Heap} {g : Array GenState} {d : Drawn} {t : Nat} {os : OsState} {a : Addr} {xs : List Value} {n : Nat} {Q : Value → Shared → Prop}
   (hx : h.get? a = some { cls := .type "list", data := .seq xs.toArray n }) (hq : ∀ t, Q (.ref h.objs.size) ⟨h.push { cls := .type "builtin_function_or_method", data := .fields #[.builtin "list.append", .ref a] }, g, d, t, os⟩) :
   wpAny (model prog w) A (getAttr (.ref a) "append" true) Q E ⟨h, g, d, t, os⟩ := by
  have hT : ∀ t, (⟨h, g, d, t, os⟩ : Shared).TypeIs (.ref a) "list" := fun _ => ⟨_, hx, rfl⟩
  unfold getAttr
  refine wpAny_bind (wpAny_mkText ?_)
  unfold getAttrBy
  refine wpAny_holding (wpAny_bind (wpAny_typeOf (hT _) ?_))
  refine wpAny_bind (wpAny_of_eq F.slot_list_getattribute.lookup ?_)
  show wpAny _ _ (getAttrByItsOwn _ _ _ _ _ _) _ _ _
  unfold getAttrByItsOwn
  refine wpAny_bind (wpAny_of_eq (a := none) rfl ?_)
  refine wpAny_bind (wpAny_attempt (wpAny_holding ?_))
  show wpAny _ _ (boundAndCalled _ _ _) _ _ _
  unfold boundAndCalled
  refine wpAny_bind (wpAny_of_eq (a := (.builtin "list.__getattribute__", [.ref a])) (by unfold bindSpecial; rw [ty_ga]; rfl) ?_)
  refine wpAny_call_entry F.slot_list_getattribute (hT _) F.entry_list_ga ?_ (F.args_list_getattribute_2 _ _)
  have L1 : Looks (model prog w) h (typeOf (.ref a)) (.type "list") := (Looks.ld hx).andThen .now
  have L2 : Looks (model prog w) h (typeLookup (.type "list") "append") (some (.builtin "list.append")) := Looks.of_pure lk_list_append
  have L3 : Looks (model prog w) h (specialOf (.builtin "list.append") "__get__") (some (.builtin "method_descriptor.__get__")) := (Looks.of_pure ty_append).andThen (Looks.of_pure lk_md_get)
  have L4 : Looks (model prog w) h (specialOf (.builtin "list.append") "__set__") none := (Looks.of_pure ty_append).andThen (Looks.of_pure lk_md_set)
  have L5 : Looks (model prog w) h (specialOf (.builtin "list.append") "__delete__") none := (Looks.of_pure ty_append).andThen (Looks.of_pure lk_md_del)
  dsimp only
  unfold Builtin.«object.__getattribute__»
  have hB : ∀ t, (⟨h, g, d, t, os⟩ : Shared).TypeIs (.builtin "list.append") "method_descriptor" := fun _ => ty_append
  repeat (first | (with_reducible refine wpAny_call_entry slot_md_get (hB _) entry_md_get ?_ (args_md_get _ _ _)) | lk)
  refine ⟨_, rfl, wpAny_pure ⟨_, rfl, ?_⟩⟩
  rw [handedOut_of rfl]; exact wpAny_pure (hq _)

section
variable {W : Wd} {G : Gens} {env : Env} {loc loc' : Loc} {nw nw' : Ledger} {s : Shared} {A : Around} {E : Value → Shared → Prop}
theorem Sta.getAppend {a : Addr} {xs : List Value} {Q : Value → Shared → Prop} (S : Sta W G env loc nw s) (m : (a, IsLst xs) ∈ nw) (h : ∀ q s', Sta W G env loc ((q, IsBound "list.append" (.ref a)) :: nw) s' → Q (.ref q) s') :
    wpAny (model W.prog W.w) A (getAttr (.ref a) "append" true) Q E s := by
  obtain ⟨n, hl⟩ := S.isL m
  exact getattr_append hl fun t => h _ _ (S.new (c := IsBound "list.append" (.ref a)) rfl rfl t)
theorem Attribute_ {value : Expr} {attr : Str} {pos : Pos} {Q : Value → Shared → Prop} (h : wpAny (model W.prog W.w) A (eval value env) (fun o s₁ => wpAny (model W.prog W.w) A (getAttr o attr true) Q E s₁) E s)
    (hb : attributeBase value attr env (eval value env) = eval value env) : wpAny (model W.prog W.w) A (eval (.Attribute value attr pos) env) Q E s := by
  rw [arm_eval_Attribute, hb]
  exact wpAny_bind (wpAny_mono h (fun o s₁ h₁ => wpAny_bind (wpAny_standAt (wpAny_bind (wpAny_holding (wpAny_mono h₁ (fun r s₂ h₂ => wpAny_bind (wpAny_letTemporaryGo (wpAny_pure h₂))) fun _ _ x => x))))) fun _ _ x => x)
theorem lk_nones (names : List Str) (x : Str) : lk (names.map fun k => (k, none)) x = none := lk_none names x
theorem attrs_empty (names : List Str) (hn : names.Nodup) : IsAttrs (names.map fun k => (k, none)) emptyDict := by
  refine ⟨by rw [List.map_map]; simpa [Function.comp_def] using hn, rfl, #[], 0, rfl, fun e he => by simp at he, fun x => by rw [lk_none]; rfl, ?_⟩
  unfold cnt
  induction names with
  | nil => rfl
  | cons k r ih => simpa using ih (by simp at hn; exact hn.2)
/-- an instance made -/
theorem Sta.make {C fI : Addr} (names : List Str) {rest : List Value} {kw : List (Str × Value)} {Q : Value → Shared → Prop} (S : Sta W G env loc nw s) (hn : names.Nodup) (hm : makesIn W.K C = true) (hi : findIn W.K (.ref C) "__init__" = some (some (.ref fI))) (hf : typeIn W.K (.ref fI) = some (.type "function"))
    (h : ∀ x dx s', Sta W G env loc ((x, IsInst C dx) :: (dx, IsAttrs (names.map fun k => (k, none))) :: nw) s' →
      codeAny (model W.prog W.w) (A.under (.builtin "type.__call__" ⟨.ref C :: rest, kw⟩)) (.call (.ref fI) ⟨.ref x :: rest, kw⟩) (fun r s'' => r = .ok (.ret .none) ∧ Q (.ref x) s'') s') :
    wpAny (model W.prog W.w) A (call (.ref C) rest kw) Q E s := by
  have K0 := S.kin
  have S1 := S.new (c := IsAttrs (names.map fun k => (k, none))) (o := emptyDict) rfl (attrs_empty names hn) s.toks
  have S2 := S1.new (c := IsInst C s.heap.objs.size) (o := instObj C s.heap.objs.size) rfl rfl s.toks
  refine wpAny_call ?_
  obtain ⟨hh, g, d, t, os⟩ := s
  refine make_core (makes_of K0 hm) (looks_findIn K0 hi) (fun self => bind_fn K0 self hf) (.inl rfl) ?_
  have e : (hh.push emptyDict).objs.size = hh.objs.size + 1 := Heap.size_push ..
  have := h _ _ _ S2
  dsimp only at this
  rw [e] at this
  refine codeAny_mono this fun r s'' q => ?_
  obtain ⟨rfl, q⟩ := q
  exact ⟨rfl, q⟩
theorem aok_make {k : Nat} {C : Addr} {rest : List Value} {kw : List (Str × Value)} (hA : Aok (k + 1) A) : Aok k (A.under (.builtin "type.__call__" ⟨.ref C :: rest, kw⟩)) := by
  have hw : (Code.builtin "type.__call__" ⟨.ref C :: rest, kw⟩).weight = 1 := by rfl
  have hu : (Code.builtin "type.__call__" ⟨.ref C :: rest, kw⟩).cUnits = 1 := by rfl
  refine ⟨hA.handled, ?_, ?_⟩
  · have := hA.depth
    unfold Around.under
    rw [hw]
    show A.depth + 1 + k < _
    omega
  · have := hA.units
    unfold Around.under
    rw [hu]
    show A.units + 1 + 8 * k < _
    omega
end
end Mine
end

section
open PySem PySem.W PyProof.Rows PySem.W.X PySem.SeqAt
set_option maxRecDepth 100000
namespace Mine
theorem eqLists {A : Around} {s : Shared} {l b : Addr} {xs ys : List Value} (hl : s.heap.IsList l xs.toArray) (hb : s.heap.IsList b ys.toArray) (hz : xs.length = ys.length) (hu : A.units < cLine)
    (he : ∀ j (h1 : j < xs.length) (h2 : j < ys.length), EqAt A.in1 s xs[j] ys[j] true) : RcAt A s (.ref l) (.ref b) true := by
  have := RcAt.lists (e := fun _ => true) hl hb (by simpa using hz) hu (fun j h1 h2 => by simpa using he j (by simpa using h1) (by simpa using h2))
  have e : (List.range xs.toArray.size).all (fun _ => true) = true := by simp
  rwa [e] at this
theorem eqOf {A : Around} {s : Shared} {l b : Addr} (h : RcAt A s (.ref l) (.ref b) true) : EqAt A s (.ref l) (.ref b) true := by
  by_cases e : l = b
  · subst e; exact EqAt.same _
  · exact EqAt.of_refs e h
/-- two lists of the very same things -/
theorem eqSame {A : Around} {s : Shared} {l b : Addr} {xs : List Value} (hl : s.heap.IsList l xs.toArray) (hb : s.heap.IsList b xs.toArray) (hu : A.units < cLine) : EqAt A s (.ref l) (.ref b) true :=
  eqOf (eqLists hl hb rfl hu fun _ _ _ => EqAt.same _)
def IsView (d : Addr) : Cell := fun o => o = { cls := .type "dict_items", data := .fields #[.ref d] }
section
variable {W : Wd} {G : Gens} {env : Env} {loc loc' : Loc} {nw nw' : Ledger} {s : Shared} {A : Around} {E : Value → Shared → Prop}
theorem Sta.eqOp {l b : Addr} {Q : Value → Shared → Prop} (_S : Sta W G env loc nw s) (h : RcAt A s (.ref l) (.ref b) true) (hq : Q (.bool true) s) : wpAny (model W.prog W.w) A (compareOp .Eq (.ref l) (.ref b)) Q E s := h _ _ _ _ hq
theorem dictAt_keeps {P : Program} {w : World} {h h' : Heap} {d : Addr} {kvs : List (Str × Value)} {ep : Nat} (x : h.DictAt (PySem.strKind P w) d kvs ep) (k : ∀ b o, h.get? b = some o → h'.get? b = some o) : h'.DictAt (PySem.strKind P w) d kvs ep :=
  let ⟨o, es, e, r⟩ := x; ⟨o, es, k _ _ e, r⟩
theorem Sta.items {d : Addr} {kvs : List (Str × Value)} {ep : Nat} {Q : Value → Shared → Prop} (S : Sta W G env loc nw s) (hm : W.B.DictAt (PySem.strKind W.prog W.w) d kvs ep) (hd : (d == sysModules) = false) (h : ∀ r s', Sta W G env loc ((r, IsView d) :: nw) s' → Q (.ref r) s') :
    wpAny (model W.prog W.w) A (call (.builtin "dict.items") [.ref d]) Q E s := by
  have hD := dictAt_keeps hm S.led.keep
  have hO : s.heap.DictOf (PySem.strKind W.prog W.w) d kvs := by
    obtain ⟨o, es, e, a, b, c⟩ := hD
    exact ⟨o, es, ep, e, a, b, c⟩
  exact call_meetsIn PySem.F.slot_dict_items hO.typeIs PySem.F.entry_dict_items (PySem.F.args_dict_items_1 _) (meets_dict_items (PySem.strKind W.prog W.w) d hd) ⟨⟨kvs, hO⟩, h _ _ (S.new (c := IsView d) rfl rfl s.toks)⟩
theorem Sta.listItems {r d : Addr} {kvs : List (Str × Value)} {ep : Nat} {Q : Value → Shared → Prop} (S : Sta W G env loc nw s) (hh : A.handled = none) (hm : W.B.DictAt (PySem.strKind W.prog W.w) d kvs ep) (mv : (r, IsView d) ∈ nw) (hn : kvs.length ≤ sizeLine)
    (h : ∀ (l : Addr) (as : List Addr) s', as.length = kvs.length → Sta W G env loc ((l, IsLst (as.map Value.ref)) :: nw) s' → Q (.ref l) s') : wpAny (model W.prog W.w) A (call (.type "list") [.ref r]) Q E s := by
  obtain ⟨o, ho, rfl⟩ := S.get mv
  refine kdx_call (knd := PySem.strKind W.prog W.w) hh ⟨_, ho, rfl, rfl⟩ (dictAt_keeps hm S.led.keep) hn fun h' tk acc c as hk hS hl hG hacc => h _ as _ hl ⟨S.ok, S.eok, ?_, S.bare, S.os, S.gens, S.gnd⟩
  refine (S.led.cons_new hk S.led.size_ne S.led.size_new hS ⟨c, ?_⟩).perm (List.Perm.swap ..)
  rw [← hacc]
/-- the dict's own getM -/
theorem Sta.getM_dict {name : Str} {d : Addr} {kvs : List (Str × Value)} {ep : Nat} {Q : Value × List Value → Shared → Prop} {id : String} (S : Sta W G env loc nw s) (hm : W.B.DictAt (PySem.strKind W.prog W.w) d kvs ep) (slot : Slot "dict" name id) (hty : typeOf (.builtin id) = pure (.type "method_descriptor")) (h : Q (.builtin id, [.ref d]) s) :
    GetM (model W.prog W.w) A E name (.ref d) Q s := by
  obtain ⟨o, es, e, a, b, c⟩ := dictAt_keeps hm S.led.keep
  exact getM_builtin F.plainAttrs_dict slot hty ⟨_, e, a.1⟩ (fun b e' => by cases e'; exact ⟨_, e, a.2.1⟩) h
theorem Assign_attr {o : Expr} {attr : Str} {pos' : Pos} {value : Expr} {pos : Pos} {Q : Flow → Shared → Prop}
    (h : wpAny (model W.prog W.w) A (eval value env) (fun v s₁ => wpAny (model W.prog W.w) A (eval o env) (fun ov s₂ => wpAny (model W.prog W.w) A (setAttr ov attr v) (fun _ => Q .next) E s₂) E s₁) E s)
    (hs : swapsWith value (some (.Attribute o attr pos')) pos.line env = pure false) : wpAny (model W.prog W.w) A (exec (.Assign [.Attribute o attr pos'] value pos) env) Q E s := plainObj_wpAny_Assign_Attribute h hs
end
end Mine
end

section
open PySem PySem.W PyProof.Rows PySem.W.X PySem.SeqAt
set_option maxRecDepth 100000
namespace Mine
theorem ite_t {P R : Prop} (h : P) : (if true = true then P else R) := by rw [if_pos rfl]; exact h
theorem ite_f {P R : Prop} (h : R) : (if false = true then P else R) := by rw [if_neg (by decide)]; exact h
theorem ite_nf {P R : Prop} (h : P) : (if (!false) = true then P else R) := by rw [if_pos (by decide)]; exact h
theorem ite_nt {P R : Prop} (h : R) : (if (!true) = true then P else R) := by rw [if_neg (by decide)]; exact h
section
variable {W : Wd} {G : Gens} {env : Env} {loc loc' : Loc} {nw nw' : Ledger} {s : Shared} {A : Around} {E : Value → Shared → Prop}
theorem Sta.dict0 {pos : Pos} {Q : Value → Shared → Prop} {M : Model} (S : Sta W G env loc nw s) (h : ∀ a s', Sta W G env loc ((a, IsObj { cls := .type "dict", data := .dict #[] }) :: nw) s' → Q (.ref a) s') : wpAny M A (eval (.Dict [] [] pos) env) Q E s :=
  wpAny_Dict_empty (h _ _ (S.new (c := IsObj { cls := .type "dict", data := .dict #[] }) rfl rfl s.toks))
theorem callWith_m1 {M : Model} {pos : Pos} {id : String} {self : Value} {e : Expr} {rest : List Expr} {Q : Value → Shared → Prop}
    (h : wpAny M A (spliced (backTo pos (starEach (e :: rest) env))) (fun vs s₁ => wpAny M A (call (.builtin id) (self :: vs)) Q E s₁) E s)
    (he : starEach (e :: rest) env = (false, eval e env) :: starEach rest env)
    (hplain : (backTo pos (starEach rest env)).any (·.1) = false) :
    wpAny M A (callWith pos (.builtin id) [self] (backTo pos (starEach (e :: rest) env)) (backToKw pos (keywordEach [] env))) Q E s := callWith_bi h he hplain
theorem callW_1 {pos : Pos} {f : Addr} {e : Expr} {rest : List Expr} {Q : Value → Shared → Prop} (hk : keepIn W.K (.ref f) = true)
    (h : wpAny (model W.prog W.w) A (spliced (backTo pos (starEach (e :: rest) env))) (fun vs s₁ => W.K.In s₁.heap ∧ wpAny (model W.prog W.w) A (call (.ref f) vs) Q E s₁) E s)
    (he : starEach (e :: rest) env = (false, eval e env) :: starEach rest env) (hplain : (backTo pos (starEach rest env)).any (·.1) = false) :
    wpAny (model W.prog W.w) A (callWith pos (.ref f) [] (backTo pos (starEach (e :: rest) env)) []) Q E s := callW (first := []) hk h he hplain
theorem callW_m {pos : Pos} {f : Addr} {self : Value} {e : Expr} {rest : List Expr} {Q : Value → Shared → Prop} (hk : keepIn W.K (.ref f) = true)
    (h : wpAny (model W.prog W.w) A (spliced (backTo pos (starEach (e :: rest) env))) (fun vs s₁ => W.K.In s₁.heap ∧ wpAny (model W.prog W.w) A (call (.ref f) (self :: vs)) Q E s₁) E s)
    (he : starEach (e :: rest) env = (false, eval e env) :: starEach rest env) (hplain : (backTo pos (starEach rest env)).any (·.1) = false) :
    wpAny (model W.prog W.w) A (callWith pos (.ref f) [self] (backTo pos (starEach (e :: rest) env)) (backToKw pos (keywordEach [] env))) Q E s := callW (first := [self]) hk h he hplain
theorem Sta.ret1 {env' : Env} {p : Addr × Cell} (S : Sta W G env' loc' (p :: (env.locals, IsNs loc) :: nw) s) (S₀ : EnvOk env (loc.map Prod.fst)) : Sta W G env loc (p :: nw) s :=
  Sta.back (S.perm (List.Perm.swap ..)) S₀
theorem Sta.fnAt {f c' : Addr} {qual : Str} {params : Arguments} {body : Expr} {scope : Scope} {clos : List (Str × Addr)} (S : Sta W G env loc nw s) (m : (f, IsLam qual params body scope clos c') ∈ nw) : FnAt f s.heap := by
  obtain ⟨o, ho, pm, ctv, rfl⟩ := S.get m
  exact ⟨_, _, _, _, ho⟩
theorem callWF_1 {pos : Pos} {f : Addr} {e : Expr} {rest : List Expr} {Q : Value → Shared → Prop}
    (h : wpAny (model W.prog W.w) A (spliced (backTo pos (starEach (e :: rest) env))) (fun vs s₁ => FnAt f s₁.heap ∧ wpAny (model W.prog W.w) A (call (.ref f) vs) Q E s₁) E s)
    (he : starEach (e :: rest) env = (false, eval e env) :: starEach rest env) (hplain : (backTo pos (starEach rest env)).any (·.1) = false) :
    wpAny (model W.prog W.w) A (callWith pos (.ref f) [] (backTo pos (starEach (e :: rest) env)) []) Q E s := by
  rw [he] at h ⊢
  exact callWith_of (P := fun h => FnAt f h) (first := []) (by show (false || (backTo pos (starEach rest env)).any (·.1) || false) = false; rw [hplain]; rfl) (fun h X => keeps_F h X) (Calls.evalArgs_plain h)
end
end Mine
end

section
open PySem PySem.W PyProof.Rows
set_option maxRecDepth 100000
set_option maxHeartbeats 8000000
namespace Mine
open_top hd for PySem.Challenge.rw_dn0284_07
end Mine
end

section
open PySem PySem.W PyProof.Rows PySem.W.X PySem.SeqAt
set_option maxRecDepth 100000
namespace Mine
abbrev p7 : Program := PySem.Challenge.pw_dn0284_07
def stCls : Stmt := topStmt p7 3
def stInit : Stmt := inClass stCls 0
def stIter : Stmt := inClass stCls 1
def stSlice : Stmt := topStmt p7 5
def stLaw : Stmt := topStmt p7 6
noncomputable abbrev K7 (P : Params) : Frag := hd.heap_39 P
def fdAt (K : Frag) (f : Addr) : FuncData := match K.lookup f with
  | some ⟨_, _, .func fd, _⟩ => fd
  | _ => default
def obAt (K : Frag) (f : Addr) : Obj := (K.lookup f).getD default
theorem fn_init (P : Params) : Fn (K7 P) 37 stInit "C14NWriterTarget.__init__" .none (.ref 30) (.ref 36) :=
  ⟨⟨(fdAt (K7 P) 37).name, (fdAt (K7 P) 37).doc, (fdAt (K7 P) 37).pyModule, (fdAt (K7 P) 37).closureTuple, (obAt (K7 P) 37).cls, (fdAt (K7 P) 37).annotations, (obAt (K7 P) 37).dict, (obAt (K7 P) 37).slots, by kernel_rfl⟩, by kernel_rfl⟩
theorem fn_iter (P : Params) : Fn (K7 P) 45 stIter "C14NWriterTarget._iter_namespaces" (.ref 38) .none (.ref 44) :=
  ⟨⟨(fdAt (K7 P) 45).name, (fdAt (K7 P) 45).doc, (fdAt (K7 P) 45).pyModule, (fdAt (K7 P) 45).closureTuple, (obAt (K7 P) 45).cls, (fdAt (K7 P) 45).annotations, (obAt (K7 P) 45).dict, (obAt (K7 P) 45).slots, by kernel_rfl⟩, by kernel_rfl⟩
theorem fn_slice (P : Params) : Fn (K7 P) 133 stSlice "_law_slice" .none .none (.ref 132) :=
  ⟨⟨(fdAt (K7 P) 133).name, (fdAt (K7 P) 133).doc, (fdAt (K7 P) 133).pyModule, (fdAt (K7 P) 133).closureTuple, (obAt (K7 P) 133).cls, (fdAt (K7 P) 133).annotations, (obAt (K7 P) 133).dict, (obAt (K7 P) 133).slots, by kernel_rfl⟩, by kernel_rfl⟩
theorem fn_law (P : Params) : Fn (K7 P) 138 stLaw "law" .none .none (.ref 137) :=
  ⟨⟨(fdAt (K7 P) 138).name, (fdAt (K7 P) 138).doc, (fdAt (K7 P) 138).pyModule, (fdAt (K7 P) 138).closureTuple, (obAt (K7 P) 138).cls, (fdAt (K7 P) 138).annotations, (obAt (K7 P) 138).dict, (obAt (K7 P) 138).slots, by kernel_rfl⟩, by kernel_rfl⟩
def selfNames : List Str := ["_write", "_data", "_with_comments", "_strip_text", "_exclude_attrs", "_exclude_tags", "_rewrite_prefixes", "_qname_aware_tags", "_find_qname_aware_attrs", "_declared_ns_stack", "_ns_stack", "_prefix_map", "_preserve_space", "_pending_start", "_root_seen", "_root_done", "_ignored_depth"]
theorem cl7 (P : Params) : Cl (K7 P) 122 selfNames where
  ga := by kernel_rfl
  gh := by kernel_rfl
  sa := by kernel_rfl
  plain := by kernel_rfl
  dict := by kernel_rfl
  own := by
    intro n hn
    simp only [selfNames, List.mem_cons, List.not_mem_nil, or_false] at hn
    rcases hn with rfl | rfl | rfl | rfl | rfl | rfl | rfl | rfl | rfl | rfl | rfl | rfl | rfl | rfl | rfl | rfl | rfl <;> kernel_rfl

theorem ns_list (P : Params) : nsIn (K7 P) mainGlobals "list" = some none := by kernel_rfl
theorem ns_len (P : Params) : nsIn (K7 P) mainGlobals "len" = some none := by kernel_rfl
theorem ns_sum (P : Params) : nsIn (K7 P) mainGlobals "sum" = some none := by kernel_rfl
theorem ns_str (P : Params) : nsIn (K7 P) mainGlobals "str" = some none := by kernel_rfl
theorem ns_range (P : Params) : nsIn (K7 P) mainGlobals "range" = some none := by kernel_rfl
theorem ns_map (P : Params) : nsIn (K7 P) mainGlobals "_namespace_map" = some (some (.ref 22)) := by kernel_rfl
theorem ns_slice (P : Params) : nsIn (K7 P) mainGlobals "_law_slice" = some (some (.ref 133)) := by kernel_rfl
theorem ns_cls (P : Params) : nsIn (K7 P) mainGlobals "C14NWriterTarget" = some (some (.ref 122)) := by kernel_rfl
structure Is7 (W : Wd) : Prop where
  k : W.K = K7 W.w.params
section
variable {W : Wd} (I : Is7 W)
include I
theorem Is7.init : Fn W.K 37 stInit "C14NWriterTarget.__init__" .none (.ref 30) (.ref 36) := by rw [I.k]; exact fn_init _
theorem Is7.iter : Fn W.K 45 stIter "C14NWriterTarget._iter_namespaces" (.ref 38) .none (.ref 44) := by rw [I.k]; exact fn_iter _
theorem Is7.slice : Fn W.K 133 stSlice "_law_slice" .none .none (.ref 132) := by rw [I.k]; exact fn_slice _
theorem Is7.cl : Cl W.K 122 selfNames := by rw [I.k]; exact cl7 _
theorem Is7.list : nsIn W.K mainGlobals "list" = some none := by rw [I.k]; exact ns_list _
theorem Is7.len : nsIn W.K mainGlobals "len" = some none := by rw [I.k]; exact ns_len _
theorem Is7.sum : nsIn W.K mainGlobals "sum" = some none := by rw [I.k]; exact ns_sum _
theorem Is7.str : nsIn W.K mainGlobals "str" = some none := by rw [I.k]; exact ns_str _
theorem Is7.range : nsIn W.K mainGlobals "range" = some none := by rw [I.k]; exact ns_range _
theorem Is7.map : nsIn W.K mainGlobals "_namespace_map" = some (some (.ref 22)) := by rw [I.k]; exact ns_map _
theorem Is7.slice_ : nsIn W.K mainGlobals "_law_slice" = some (some (.ref 133)) := by rw [I.k]; exact ns_slice _
theorem Is7.cls : nsIn W.K mainGlobals "C14NWriterTarget" = some (some (.ref 122)) := by rw [I.k]; exact ns_cls _
end
theorem bo_list : bootBuiltins "list" = some (.type "list") := by kernel_rfl
theorem bo_len : bootBuiltins "len" = some (.builtin "len") := by kernel_rfl
theorem bo_sum : bootBuiltins "sum" = some (.builtin "sum") := by kernel_rfl
theorem bo_str : bootBuiltins "str" = some (.type "str") := by kernel_rfl
theorem bo_range : bootBuiltins "range" = some (.type "range") := by kernel_rfl
end Mine
end

section
open PySem PySem.W PyProof.Rows PySem.W.X PySem.SeqAt
set_option maxRecDepth 100000
namespace Mine
def esAt (K : Frag) (d : Addr) : Array DictEntry := match (obAt K d).data with
  | .dict es _ => es
  | _ => #[]
def epAt (K : Frag) (d : Addr) : Nat := match (obAt K d).data with
  | .dict _ ep => ep
  | _ => 0
def mapKeys : List Str := ["http://www.w3.org/XML/1998/namespace", "http://www.w3.org/1999/xhtml", "http://www.w3.org/1999/02/22-rdf-syntax-ns#", "http://schemas.xmlsoap.org/wsdl/", "http://www.w3.org/2001/XMLSchema", "http://www.w3.org/2001/XMLSchema-instance", "http://purl.org/dc/elements/1.1/"]
noncomputable def mapE (P : Params) (i : Nat) : DictEntry := (esAt (K7 P) 22).toList.getD i default
noncomputable def mapKvs (P : Params) : List (Str × Value) := [("http://www.w3.org/XML/1998/namespace", (mapE P 0).val), ("http://www.w3.org/1999/xhtml", (mapE P 1).val), ("http://www.w3.org/1999/02/22-rdf-syntax-ns#", (mapE P 2).val), ("http://schemas.xmlsoap.org/wsdl/", (mapE P 3).val), ("http://www.w3.org/2001/XMLSchema", (mapE P 4).val), ("http://www.w3.org/2001/XMLSchema-instance", (mapE P 5).val), ("http://purl.org/dc/elements/1.1/", (mapE P 6).val)]
theorem map_list (P : Params) : (esAt (K7 P) 22).toList = [mapE P 0, mapE P 1, mapE P 2, mapE P 3, mapE P 4, mapE P 5, mapE P 6] := by kernel_rfl
theorem map_at (prog : Program) (w : World) (h : Heap) (X : (K7 w.params).In h) : h.DictAt (PySem.strKind prog w) 22 (mapKvs w.params) (epAt (K7 w.params) 22) := by
  refine ⟨obAt (K7 w.params) 22, esAt (K7 w.params) 22, X _ _ (by kernel_rfl), ⟨by kernel_rfl, by kernel_rfl, by kernel_rfl⟩, by kernel_rfl, ?_, ?_, ?_⟩
  · intro e he
    have he' := Array.mem_toList_iff.mpr he
    rw [map_list] at he'
    simp only [List.mem_cons, List.not_mem_nil, or_false] at he'
    rcases he' with rfl | rfl | rfl | rfl | rfl | rfl | rfl
    · exact ⟨"http://www.w3.org/XML/1998/namespace", by kernel_rfl, by kernel_rfl⟩
    · exact ⟨"http://www.w3.org/1999/xhtml", by kernel_rfl, by kernel_rfl⟩
    · exact ⟨"http://www.w3.org/1999/02/22-rdf-syntax-ns#", by kernel_rfl, by kernel_rfl⟩
    · exact ⟨"http://schemas.xmlsoap.org/wsdl/", by kernel_rfl, by kernel_rfl⟩
    · exact ⟨"http://www.w3.org/2001/XMLSchema", by kernel_rfl, by kernel_rfl⟩
    · exact ⟨"http://www.w3.org/2001/XMLSchema-instance", by kernel_rfl, by kernel_rfl⟩
    · exact ⟨"http://purl.org/dc/elements/1.1/", by kernel_rfl, by kernel_rfl⟩
  · rw [map_list]
    exact .cons (by kernel_rfl) rfl (.cons (by kernel_rfl) rfl (.cons (by kernel_rfl) rfl (.cons (by kernel_rfl) rfl (.cons (by kernel_rfl) rfl (.cons (by kernel_rfl) rfl (.cons (by kernel_rfl) rfl .nil))))))
  · show mapKeys.Nodup
    decide +kernel
theorem Is7.mapAt {W : Wd} (I : Is7 W) (O : W.Ok) : W.B.DictAt (PySem.strKind W.prog W.w) 22 (mapKvs W.w.params) (epAt (K7 W.w.params) 22) := map_at _ _ _ (by have := O.kin; rwa [I.k] at this)
theorem map_len (P : Params) : (mapKvs P).length = 7 := rfl
end Mine
end

section
open PySem PySem.W PyProof.Rows PySem.W.X PySem.SeqAt
set_option maxRecDepth 100000
namespace Mine
section
local macro_rules | `(tactic| walk_at "subl") => `(tactic| first | with_reducible exact List.Sublist.refl _ | ((with_reducible apply List.Sublist.cons); walk_at "subl"))
local macro_rules | `(tactic| walk_at "mem") => `(tactic| first | assumption | with_reducible exact List.mem_cons_self | ((with_reducible refine List.mem_cons_of_mem _ ?_); walk_at "mem"))
local macro_rules | `(tactic| walk_at "put") => `(tactic| first | with_reducible exact Put.head | ((with_reducible apply Put.tail); walk_at "put"))
local macro_rules | `(tactic| walk_at "upd") => `(tactic| first | with_reducible exact Upd.head | ((with_reducible apply Upd.tail); walk_at "upd"))
set_option hygiene false in
local macro_rules | `(tactic| walk_at "ev") => `(tactic| first
  | (with_reducible refine ite_t ?_)
  | (with_reducible refine ite_nf ?_)
  | (with_reducible refine ite_nt ?_)
  | (with_reducible refine ite_f ?_)
  | (with_reducible refine wpAny_execs_nil ?_)
  | (with_reducible refine wpAny_execs_cons ?_)
  | (with_reducible refine wpAny_Return_some ?_)
  | (with_reducible refine wpAny_Return_none ?_)
  | (with_reducible refine wpAny_If ?_)
  | ((with_reducible refine wpAny_Expr_any ?_ ?ht ?hu); (case ht => kernel_rfl); (case hu => kernel_rfl))
  | ((with_reducible refine wpAny_Assign_Name ?_ ?ht); (case ht => kernel_rfl))
  | ((with_reducible refine Assign_attr ?_ ?ht); (case ht => kernel_rfl))
  | (with_reducible refine Sta.local_ S' (by walk_at "mem") ?_)
  | ((with_reducible refine Sta.store S' (by walk_at "put") ?_); clear S'; intro s' S')
  | ((with_reducible refine Sta.int_ S' ?_); clear S'; intro t' s' S')
  | ((with_reducible refine Sta.str_ S' ?_); clear S'; intro t' s' S')
  | (with_reducible refine wpAny_Constant_none ?_)
  | (with_reducible refine wpAny_Constant_bool ?_)
  | (with_reducible refine IfExp_ ?_)
  | (with_reducible refine isTrue_not ?_)
  | (with_reducible refine isTrue_and ?_)
  | (with_reducible refine isTrue_and_nil ?_)
  | ((with_reducible refine isTrue_plain ?_ ?ht); (case ht => kernel_rfl))
  | (with_reducible refine wpAny_truthy_bool ?_)
  | (with_reducible refine truthy_none ?_)
  | (with_reducible refine wpAny_BinOp ?_)
  | ((with_reducible refine wpAny_Compare1 ?_ ?ht); (case ht => kernel_rfl))
  | ((with_reducible refine Sta.add S' ?_); clear S'; intro t' s' S')
  | ((with_reducible refine Sta.sub_ S' ?_); clear S'; intro t' s' S')
  | (with_reducible refine PyProof.Rows.eq_int ?_)
  | (with_reducible refine PyProof.Rows.gt_int ?_)
  | (with_reducible refine PyProof.Rows.lt_int ?_)
  | (with_reducible refine evalPart_some_step ?_)
  | (with_reducible refine evalPart_none_step ?_)
  | ((with_reducible refine slice_ ?_ ?ht); (case ht => intro _ _; kernel_rfl))
  | ((with_reducible refine Call_m ?_ ?ht ?hu ?hv); (case ht => kernel_rfl); (case hu => kernel_rfl); (case hv => kernel_rfl))
  | ((with_reducible refine Attribute_ ?_ ?ht); (case ht => kernel_rfl))
  | ((with_reducible refine Call_ ?_ ?ht); (case ht => kernel_rfl))
  | ((with_reducible refine callWith_builtin1 ?_ ?ht ?hu); (case ht => kernel_rfl); (case hu => kernel_rfl))
  | ((with_reducible refine PyProof.Rows.callWith_type1 ?_ ?ht ?hu); (case ht => kernel_rfl); (case hu => kernel_rfl))
  | ((with_reducible refine callWith_m1 ?_ ?ht ?hu); (case ht => kernel_rfl); (case hu => kernel_rfl))
  | (with_reducible refine callWith_bi0 ?_)
  | ((with_reducible refine Sta.getM_list S' (by walk_at "mem") F.slot_list_append F.type_list_append ?_))
  | ((with_reducible refine Sta.getM_list S' (by walk_at "mem") F.slot_list_pop F.type_list_pop ?_))
  | ((with_reducible refine Sta.getM_list S' (by walk_at "mem") F.slot_list_insert F.type_list_insert ?_))
  | ((with_reducible refine args_cons ?_ ?ht); (case ht => kernel_rfl))
  | (with_reducible refine args_nil ?_)
  | (with_reducible refine List_ ?_)
  | (with_reducible refine Tuple_ ?_)
  | ((with_reducible refine Sta.newList S' ?ht ?_); (case ht => first | assumption | (simp [sizeLine_eq]; done)); clear S'; intro a' s' S')
  | ((with_reducible refine Sta.newTuple S' ?ht ?_); (case ht => first | assumption | (simp [sizeLine_eq]; done)); clear S'; intro a' s' S')
  | ((with_reducible refine Sta.dict0 S' ?_); clear S'; intro a' s' S')
  | ((with_reducible refine Sta.append S' (by walk_at "upd") ?ht ?_); (case ht => first | assumption | (simp [sizeLine_eq]; done)); clear S'; intro s' S'))

set_option hygiene false in
local macro_rules | `(tactic| walk_at "sv") => `(tactic| first
  | ((with_reducible refine Sta.setattr S' hcl (by walk_at "mem") (by walk_at "upd") ?hk (by walk_at "put") ?hz ?_); (case hk => rfl); (case hz => decide); clear S'; intro s' S')
  | ((with_reducible refine Sta.getattr S' hcl (by walk_at "mem") (by walk_at "mem") ?hk (by walk_at "mem") ?hz ?_); (case hk => rfl); (case hz => rfl); clear S'; intro s' S')
  | ((with_reducible refine Sta.builtin S' I.list bo_list ?hk ?_ ?hn ?hd); (case hk => kernel_rfl); (case hn => decide +kernel); (case hd => decide +kernel))
  | ((with_reducible refine Sta.global S' I.map ?hk ?_ ?hd); (case hk => kernel_rfl); (case hd => decide +kernel))
  | (with_reducible refine Sta.getM_dict S' hmap F.slot_dict_items F.type_dict_items ?_)
  | ((with_reducible refine Sta.items S' hmap ?hk ?_); (case hk => decide +kernel); clear S'; intro a' s' S')
  | ((with_reducible refine Sta.listItems S' hA'.handled hmap (by walk_at "mem") ?hk ?_); (case hk => rw [map_len, sizeLine_eq]; decide); clear S'; intro a' as' s' hl' S')
  | walk_at "ev")
variable {W : Wd} {G : Gens} {env : Env} {loc loc' : Loc} {nw nw' : Ledger} {s : Shared} {A : Around} {E : Value → Shared → Prop}
set_option maxHeartbeats 4000000 in
theorem init7 {x dx q : Addr} {R : Result → Shared → Prop} (I : Is7 W) (S : Sta W G env loc ((x, IsInst 122 dx) :: (dx, IsAttrs (selfNames.map fun k => (k, none))) :: nw) s) (hA : Aok 3 A)
    (h : ∀ vals s', vals.map Prod.fst = selfNames → Sta W G env loc ((x, IsInst 122 dx) :: (dx, IsAttrs vals) :: nw) s' → R (.ok (.ret .none)) s') :
    codeAny (model W.prog W.w) A (.call (.ref 37) ⟨[.ref x, .ref q], []⟩) R s := by
  refine S.code_fn (binds := [("self", .ref x), ("write", .ref q), ("with_comments", .bool false), ("strip_text", .bool false), ("rewrite_prefixes", .bool false), ("qname_aware_tags", .none), ("qname_aware_attrs", .none), ("exclude_attrs", .none), ("exclude_tags", .none)]) [] I.init hA.room ?_ (by kernel_rfl) ?_
  · intro name doc pm ct an
    exact kp_binds S.kin fun S => by rw [I.k]; kernel_rfl
  intro L s' S'
  have hA' := hA.deeper (env := envOf "C14NWriterTarget.__init__" (fnScope stInit) L 37 (.ref 36))
  simp only [mkLoc, List.map_cons, List.map_nil, List.cons_append, List.nil_append, selfNames] at S'
  have hcl := I.cl
  have hmap := I.mapAt S.ok
  refine wpAny_execs_cons ?_
  repeat walk_at "sv"
  refine h _ _ ?hk (Sta.back (S'.sub (nw' := (env.locals, IsNs loc) :: (x, IsInst 122 dx) :: (dx, IsAttrs _) :: nw) (by walk_at "subl")) S.eok)
  rfl
end
end Mine
end

section
open PySem PySem.W PyProof.Rows PySem.W.X PySem.SeqAt
set_option maxRecDepth 100000
namespace Mine
theorem sum_ofNat : ∀ (ns : List Nat), (ns.map Int.ofNat).sum = ((ns.sum : Nat) : Int)
  | [] => rfl
  | n :: r => by simp [sum_ofNat r]
theorem drop_sum_le : ∀ (ns : List Nat) (k : Nat), (ns.drop (k + 1)).sum ≤ (ns.drop k).sum
  | [], _ => by simp
  | n :: r, 0 => by simp
  | n :: r, k + 1 => by simpa using drop_sum_le r k
theorem ints_drop {xs : List Value} {ns : List Nat} (hi : IntsAre xs (ns.map Int.ofNat)) (k : Nat) : IntsAre (slicePick xs.toArray (some (k : Int)) none none).toList ((ns.drop k).map Int.ofNat) := by
  have := slice_ints_fromW hi (x := (k : Int)) (by omega)
  rwa [Int.toNat_natCast, ← List.map_drop] at this
section
local macro_rules | `(tactic| walk_at "subl") => `(tactic| first | with_reducible exact List.Sublist.refl _ | ((with_reducible apply List.Sublist.cons); walk_at "subl"))
local macro_rules | `(tactic| walk_at "mem") => `(tactic| first | assumption | with_reducible exact List.mem_cons_self | ((with_reducible refine List.mem_cons_of_mem _ ?_); walk_at "mem"))
local macro_rules | `(tactic| walk_at "put") => `(tactic| first | with_reducible exact Put.head | ((with_reducible apply Put.tail); walk_at "put"))
local macro_rules | `(tactic| walk_at "upd") => `(tactic| first | with_reducible exact Upd.head | ((with_reducible apply Upd.tail); walk_at "upd"))
set_option hygiene false in
local macro_rules | `(tactic| walk_at "ev") => `(tactic| first
  | (with_reducible refine ite_t ?_)
  | (with_reducible refine ite_nf ?_)
  | (with_reducible refine ite_nt ?_)
  | (with_reducible refine ite_f ?_)
  | (with_reducible refine wpAny_execs_nil ?_)
  | (with_reducible refine wpAny_execs_cons ?_)
  | (with_reducible refine wpAny_Return_some ?_)
  | (with_reducible refine wpAny_Return_none ?_)
  | (with_reducible refine wpAny_If ?_)
  | ((with_reducible refine wpAny_Expr_any ?_ ?ht ?hu); (case ht => kernel_rfl); (case hu => kernel_rfl))
  | ((with_reducible refine wpAny_Assign_Name ?_ ?ht); (case ht => kernel_rfl))
  | ((with_reducible refine Assign_attr ?_ ?ht); (case ht => kernel_rfl))
  | (with_reducible refine Sta.local_ S' (by walk_at "mem") ?_)
  | ((with_reducible refine Sta.store S' (by walk_at "put") ?_); clear S'; intro s' S')
  | ((with_reducible refine Sta.int_ S' ?_); clear S'; intro t' s' S')
  | ((with_reducible refine Sta.str_ S' ?_); clear S'; intro t' s' S')
  | (with_reducible refine wpAny_Constant_none ?_)
  | (with_reducible refine wpAny_Constant_bool ?_)
  | (with_reducible refine IfExp_ ?_)
  | (with_reducible refine isTrue_not ?_)
  | (with_reducible refine isTrue_and ?_)
  | (with_reducible refine isTrue_and_nil ?_)
  | ((with_reducible refine isTrue_plain ?_ ?ht); (case ht => kernel_rfl))
  | (with_reducible refine wpAny_truthy_bool ?_)
  | (with_reducible refine truthy_none ?_)
  | (with_reducible refine wpAny_BinOp ?_)
  | ((with_reducible refine wpAny_Compare1 ?_ ?ht); (case ht => kernel_rfl))
  | ((with_reducible refine Sta.add S' ?_); clear S'; intro t' s' S')
  | ((with_reducible refine Sta.sub_ S' ?_); clear S'; intro t' s' S')
  | (with_reducible refine PyProof.Rows.eq_int ?_)
  | (with_reducible refine PyProof.Rows.gt_int ?_)
  | (with_reducible refine PyProof.Rows.lt_int ?_)
  | (with_reducible refine evalPart_some_step ?_)
  | (with_reducible refine evalPart_none_step ?_)
  | ((with_reducible refine slice_ ?_ ?ht); (case ht => intro _ _; kernel_rfl))
  | ((with_reducible refine Call_m ?_ ?ht ?hu ?hv); (case ht => kernel_rfl); (case hu => kernel_rfl); (case hv => kernel_rfl))
  | ((with_reducible refine Attribute_ ?_ ?ht); (case ht => kernel_rfl))
  | ((with_reducible refine Call_ ?_ ?ht); (case ht => kernel_rfl))
  | ((with_reducible refine callWith_builtin1 ?_ ?ht ?hu); (case ht => kernel_rfl); (case hu => kernel_rfl))
  | ((with_reducible refine PyProof.Rows.callWith_type1 ?_ ?ht ?hu); (case ht => kernel_rfl); (case hu => kernel_rfl))
  | ((with_reducible refine callWith_m1 ?_ ?ht ?hu); (case ht => kernel_rfl); (case hu => kernel_rfl))
  | (with_reducible refine callWith_bi0 ?_)
  | ((with_reducible refine Sta.getM_list S' (by walk_at "mem") F.slot_list_append F.type_list_append ?_))
  | ((with_reducible refine Sta.getM_list S' (by walk_at "mem") F.slot_list_pop F.type_list_pop ?_))
  | ((with_reducible refine Sta.getM_list S' (by walk_at "mem") F.slot_list_insert F.type_list_insert ?_))
  | ((with_reducible refine args_cons ?_ ?ht); (case ht => kernel_rfl))
  | (with_reducible refine args_nil ?_)
  | (with_reducible refine List_ ?_)
  | (with_reducible refine Tuple_ ?_)
  | ((with_reducible refine Sta.newList S' ?ht ?_); (case ht => first | assumption | (simp [sizeLine_eq]; done)); clear S'; intro a' s' S')
  | ((with_reducible refine Sta.newTuple S' ?ht ?_); (case ht => first | assumption | (simp [sizeLine_eq]; done)); clear S'; intro a' s' S')
  | ((with_reducible refine Sta.dict0 S' ?_); clear S'; intro a' s' S')
  | ((with_reducible refine Sta.append S' (by walk_at "upd") ?ht ?_); (case ht => first | assumption | (simp [sizeLine_eq]; done)); clear S'; intro s' S'))

variable {W : Wd} {G : Gens} {env : Env} {loc loc' : Loc} {nw nw' : Ledger} {s : Shared} {A : Around} {E : Value → Shared → Prop}
set_option maxHeartbeats 4000000 in
theorem slice7 {due cnt : Addr} {ds xs : List Value} {ns : List Nat} {k : Nat} {t : Tok} {Q : Value → Shared → Prop} (I : Is7 W) (S : Sta W G env loc nw s) (hA : Aok 3 A)
    (m1 : (due, IsLst ds) ∈ nw) (m2 : (cnt, IsLst xs) ∈ nw) (hi : IntsAre xs (ns.map Int.ofNat)) (hz : ds.length ≤ sizeLine) (hz' : xs.length ≤ sizeLine) (hs : (ns.drop k).sum ≤ ds.length)
    (kk : ∀ a s', Sta W G env loc ((a, IsLst ((ds.take (ns.drop k).sum).drop (ns.drop (k + 1)).sum)) :: nw) s' → Q (.ref a) s') :
    wpAny (model W.prog W.w) A (call (.ref 133) [.ref due, .ref cnt, .int (k : Int) t]) Q E s := by
  refine S.call_fn (binds := [("due", .ref due), ("counts", .ref cnt), ("level", .int (k : Int) t)]) [] I.slice hA.room (fun _ _ _ _ _ => BindsTo.of_eq (by kernel_rfl)) (by kernel_rfl) ?_
  intro L s' S'
  have hA' := hA.deeper (env := envOf "_law_slice" (fnScope stSlice) L 133 (.ref 132))
  simp only [mkLoc, List.map_cons, List.map_nil, List.cons_append, List.nil_append] at S'
  refine wpAny_execs_cons ?_
  repeat walk_at "ev"
  refine Sta.builtin S' I.sum bo_sum (by kernel_rfl) ?_
  repeat walk_at "ev"
  refine ⟨_, _, _, _, _, _, _, S', rfl, by walk_at "mem", hz', .int _ _, .none, ?_⟩
  clear S'; intro a1 s' S'
  repeat walk_at "ev"
  have e1 : ((k : Int) + 1) = ((k + 1 : Nat) : Int) := by omega
  rw [e1] at S'
  refine Sta.sum S' hA'.handled (by walk_at "mem") (ints_drop hi (k + 1)) ?_
  clear S'; intro t1 s' S'
  rw [sum_ofNat]
  repeat walk_at "ev"
  refine Sta.builtin S' I.sum bo_sum (by kernel_rfl) ?_
  repeat walk_at "ev"
  refine ⟨_, _, _, _, _, _, _, S', rfl, by walk_at "mem", hz', .int _ _, .none, ?_⟩
  clear S'; intro a2 s' S'
  repeat walk_at "ev"
  refine Sta.sum S' hA'.handled (by walk_at "mem") (ints_drop hi k) ?_
  clear S'; intro t2 s' S'
  rw [sum_ofNat]
  refine ⟨_, _, _, _, _, _, _, S', rfl, by walk_at "mem", hz, .int _ _, .int _ _, ?_⟩
  clear S'; intro a3 s' S'
  rw [slice_two ds _ _ hs (drop_sum_le ns k)] at S'
  refine kk _ _ (Sta.ret1 (S'.sub ?_) S.eok)
  refine List.Sublist.cons_cons _ ?_
  walk_at "subl"
end
end Mine
end

section
open PySem PySem.W PyProof.Rows PySem.W.X PySem.SeqAt
set_option maxRecDepth 100000
namespace Mine
section
local macro_rules | `(tactic| walk_at "subl") => `(tactic| first | with_reducible exact List.Sublist.refl _ | ((with_reducible apply List.Sublist.cons); walk_at "subl"))
local macro_rules | `(tactic| walk_at "mem") => `(tactic| first | assumption | with_reducible exact List.mem_cons_self | ((with_reducible refine List.mem_cons_of_mem _ ?_); walk_at "mem"))
local macro_rules | `(tactic| walk_at "put") => `(tactic| first | with_reducible exact Put.head | ((with_reducible apply Put.tail); walk_at "put"))
local macro_rules | `(tactic| walk_at "upd") => `(tactic| first | with_reducible exact Upd.head | ((with_reducible apply Upd.tail); walk_at "upd"))
set_option hygiene false in
local macro_rules | `(tactic| walk_at "ev") => `(tactic| first
  | (with_reducible refine ite_t ?_)
  | (with_reducible refine ite_nf ?_)
  | (with_reducible refine ite_nt ?_)
  | (with_reducible refine ite_f ?_)
  | (with_reducible refine wpAny_execs_nil ?_)
  | (with_reducible refine wpAny_execs_cons ?_)
  | (with_reducible refine wpAny_Return_some ?_)
  | (with_reducible refine wpAny_Return_none ?_)
  | (with_reducible refine wpAny_If ?_)
  | ((with_reducible refine wpAny_Expr_any ?_ ?ht ?hu); (case ht => kernel_rfl); (case hu => kernel_rfl))
  | ((with_reducible refine wpAny_Assign_Name ?_ ?ht); (case ht => kernel_rfl))
  | ((with_reducible refine Assign_attr ?_ ?ht); (case ht => kernel_rfl))
  | (with_reducible refine Sta.local_ S' (by walk_at "mem") ?_)
  | ((with_reducible refine Sta.store S' (by walk_at "put") ?_); clear S'; intro s' S')
  | ((with_reducible refine Sta.int_ S' ?_); clear S'; intro t' s' S')
  | ((with_reducible refine Sta.str_ S' ?_); clear S'; intro t' s' S')
  | (with_reducible refine wpAny_Constant_none ?_)
  | (with_reducible refine wpAny_Constant_bool ?_)
  | (with_reducible refine IfExp_ ?_)
  | (with_reducible refine isTrue_not ?_)
  | (with_reducible refine isTrue_and ?_)
  | (with_reducible refine isTrue_and_nil ?_)
  | ((with_reducible refine isTrue_plain ?_ ?ht); (case ht => kernel_rfl))
  | (with_reducible refine wpAny_truthy_bool ?_)
  | (with_reducible refine truthy_none ?_)
  | (with_reducible refine wpAny_BinOp ?_)
  | ((with_reducible refine wpAny_Compare1 ?_ ?ht); (case ht => kernel_rfl))
  | ((with_reducible refine Sta.add S' ?_); clear S'; intro t' s' S')
  | ((with_reducible refine Sta.sub_ S' ?_); clear S'; intro t' s' S')
  | (with_reducible refine PyProof.Rows.eq_int ?_)
  | (with_reducible refine PyProof.Rows.gt_int ?_)
  | (with_reducible refine PyProof.Rows.lt_int ?_)
  | (with_reducible refine evalPart_some_step ?_)
  | (with_reducible refine evalPart_none_step ?_)
  | ((with_reducible refine slice_ ?_ ?ht); (case ht => intro _ _; kernel_rfl))
  | ((with_reducible refine Call_m ?_ ?ht ?hu ?hv); (case ht => kernel_rfl); (case hu => kernel_rfl); (case hv => kernel_rfl))
  | ((with_reducible refine Attribute_ ?_ ?ht); (case ht => kernel_rfl))
  | ((with_reducible refine Call_ ?_ ?ht); (case ht => kernel_rfl))
  | ((with_reducible refine callWith_builtin1 ?_ ?ht ?hu); (case ht => kernel_rfl); (case hu => kernel_rfl))
  | ((with_reducible refine PyProof.Rows.callWith_type1 ?_ ?ht ?hu); (case ht => kernel_rfl); (case hu => kernel_rfl))
  | ((with_reducible refine callWith_m1 ?_ ?ht ?hu); (case ht => kernel_rfl); (case hu => kernel_rfl))
  | (with_reducible refine callWith_bi0 ?_)
  | ((with_reducible refine Sta.getM_list S' (by walk_at "mem") F.slot_list_append F.type_list_append ?_))
  | ((with_reducible refine Sta.getM_list S' (by walk_at "mem") F.slot_list_pop F.type_list_pop ?_))
  | ((with_reducible refine Sta.getM_list S' (by walk_at "mem") F.slot_list_insert F.type_list_insert ?_))
  | ((with_reducible refine args_cons ?_ ?ht); (case ht => kernel_rfl))
  | (with_reducible refine args_nil ?_)
  | (with_reducible refine List_ ?_)
  | (with_reducible refine Tuple_ ?_)
  | ((with_reducible refine Sta.newList S' ?ht ?_); (case ht => first | assumption | (simp [sizeLine_eq]; done)); clear S'; intro a' s' S')
  | ((with_reducible refine Sta.newTuple S' ?ht ?_); (case ht => first | assumption | (simp [sizeLine_eq]; done)); clear S'; intro a' s' S')
  | ((with_reducible refine Sta.dict0 S' ?_); clear S'; intro a' s' S')
  | ((with_reducible refine Sta.append S' (by walk_at "upd") ?ht ?_); (case ht => first | assumption | (simp [sizeLine_eq]; done)); clear S'; intro s' S'))

variable {W : Wd} {G : Gens} {env : Env} {loc loc' : Loc} {nw nw' : Ledger} {s : Shared} {A : Around} {E : Value → Shared → Prop}
theorem perm_end {α : Type} {R sh : List α} {p : α} : List.Perm (p :: (R ++ sh)) (R ++ (sh ++ [p])) := by
  rw [← List.append_assoc]
  exact (List.perm_append_comm (l₁ := [p]) (l₂ := R ++ sh))
theorem mapref_rev (lv : List (Addr × List Value)) : (lv.reverse.map fun p => Value.ref p.1) = ((lv.map fun p => Value.ref p.1).take (lv.map fun p => Value.ref p.1).length).reverse := by
  rw [List.take_length, List.map_reverse]
abbrev itLoc (x st : Addr) (rv : Value) : Loc := mkLoc [("self", .ref x), ("ns_stack", .ref st), ("_reversed", rv)] ["namespaces"]
abbrev itEnv (L : Addr) : Env := envOf "C14NWriterTarget._iter_namespaces" (fnScope stIter) L 45 (.ref 44)
/-- the walk of _iter_namespaces, given what its reverser gives -/
theorem good7 {L x st : Addr} {rv : Value} {sh : Ledger} (he : EnvOk (itEnv L) ["self", "ns_stack", "_reversed", "namespaces"]) (ls : List (Addr × List Value)) (hls : ∀ p ∈ ls, (p.1, IsLst p.2) ∈ sh ∧ p.2.length ≤ sizeLine)
    (hrev : ∀ A R GR s, Aok 4 A → Sta W GR (itEnv L) (itLoc x st rv) (R ++ sh) s → ∀ Q E, (∀ rit own s', Sta W GR (itEnv L) (itLoc x st rv) (R ++ (sh ++ own)) s' → LY W sh rit (ls.map fun p => .ref p.1) own → Q (.ref rit) s') →
      ∀ p2 p3 p4, wpAny (model W.prog W.w) A (eval (.Call (.Name "_reversed" p2) [.Name "ns_stack" p3] [] p4) (itEnv L)) (fun x s₁ => wpAny (model W.prog W.w) A (pyIter x) Q E s₁) E s) :
    GoodGen W sh (ls.flatMap (·.2)) (.fresh (.func (fnBody stIter) (itEnv L))) [(L, IsNs (itLoc x st rv))] := by
  refine iter_good (nm := "namespaces") (rv := "_reversed") (sk := "ns_stack") (ks := ["self", "ns_stack", "_reversed", "namespaces"]) (by kernel_rfl) (by decide +kernel) (itLoc x st rv) rfl he ls hls ?_
  intro A R GR s hA S Q E h
  exact hrev A R GR s hA S Q E h _ _ _
/-- the reverser that stands by itself -/
theorem rev7 {L x st : Addr} {sh : Ledger} {lv : List (Addr × List Value)} (hst : (st, IsLst (lv.map fun p => .ref p.1)) ∈ sh) :
    ∀ A R GR s, Aok 4 A → Sta W GR (itEnv L) (itLoc x st (.type "reversed")) (R ++ sh) s → ∀ Q E, (∀ rit own s', Sta W GR (itEnv L) (itLoc x st (.type "reversed")) (R ++ (sh ++ own)) s' → LY W sh rit (lv.reverse.map fun p => .ref p.1) own → Q (.ref rit) s') →
      ∀ p2 p3 p4, wpAny (model W.prog W.w) A (eval (.Call (.Name "_reversed" p2) [.Name "ns_stack" p3] [] p4) (itEnv L)) (fun x s₁ => wpAny (model W.prog W.w) A (pyIter x) Q E s₁) E s := by
  intro A R GR s hA S' Q E h p2 p3 p4
  have hm : (st, IsLst (lv.map fun p => .ref p.1)) ∈ R ++ sh := List.mem_append_right _ hst
  simp only [itLoc, mkLoc, List.map_cons, List.map_nil, List.cons_append, List.nil_append] at S'
  repeat walk_at "ev"
  refine Sta.reversed S' hm ?_
  clear S'; intro it s' S'
  refine Sta.iterRev S' (by walk_at "mem") ?_
  refine h it [(it, IsRI st (((lv.map fun p => Value.ref p.1).length : Int) - 1))] _ (S'.perm perm_end) ?_
  rw [mapref_rev]
  exact ly_rev hst _ (Nat.le_refl _)
/-- the def called: a generator stands -/
theorem gen7 {x st : Addr} {lv : List (Addr × List Value)} {Q : Value → Shared → Prop} (I : Is7 W) (S : Sta W G env loc nw s) (hA : Aok 1 A) (hst : (st, IsLst (lv.map fun p => .ref p.1)) ∈ nw) (hlv : ∀ p ∈ lv, (p.1, IsLst p.2) ∈ nw ∧ p.2.length ≤ sizeLine)
    (h : ∀ a g own gs s', Sta W (G ++ [(g, gs)]) env loc (nw ++ (own ++ [(a, IsGenO g)])) s' → Yields W nw a (lv.reverse.flatMap (·.2)) (own ++ [(a, IsGenO g)]) [(g, gs)] → Q (.ref a) s') :
    wpAny (model W.prog W.w) A (call (.ref 45) [.ref x, .ref st]) Q E s := by
  refine S.call_gen (binds := [("self", .ref x), ("ns_stack", .ref st), ("_reversed", .type "reversed")]) ["namespaces"] I.iter hA.room ?_ (by kernel_rfl) ?_
  · intro name doc pm ct an
    exact kp_binds S.kin fun S => by rw [I.k]; kernel_rfl
  intro a g L s' he S'
  have H := good7 (W := W) (x := x) (st := st) (rv := .type "reversed") (sh := nw) he lv.reverse (fun p hp => hlv p (List.mem_reverse.mp hp)) (rev7 hst)
  refine h a g [(L, IsNs (itLoc x st (.type "reversed")))] _ s' (S'.perm ?_) (yields_gen H)
  show List.Perm ((a, IsGenO g) :: (L, IsNs _) :: nw) (nw ++ [(L, IsNs _), (a, IsGenO g)])
  exact (List.Perm.swap ..).trans (List.perm_append_comm (l₁ := [_, _]) (l₂ := nw))
/-- what is asked of the law's lambda -/
structure LamOk (params : Arguments) (scope : Scope) : Prop where
  bind : ∀ (qual : Str) (body : Expr) (clos : List (Str × Addr)) (c' : Addr) (pm ctv v : Value), bindArgs (kla_fn "<lambda>" qual params body scope clos pm (.ref c') ctv) ⟨[v], []⟩ = pure ([("levels", v)] : List (Str × Value))
  kinds : kindsOk scope ["levels"] = true
  free : scope.names.lookup ("level" : Str) = some .free
theorem lam7 {L x st f c c' : Addr} {qual : Str} {params : Arguments} {scope : Scope} {q1 q2 q3 q4 : Pos} {t : Tok} {k : Nat} {sh : Ledger} {lv : List (Addr × List Value)} (hst : (st, IsLst (lv.map fun p => .ref p.1)) ∈ sh) (hz : lv.length ≤ sizeLine)
    (hO : LamOk params scope) (hf : (f, IsLam qual params (.Subscript (.Name "levels" q1) (.Slice (some (.Name "level" q2)) none none q3) q4) scope [("level", c)] c') ∈ sh) (hc' : (c', IsCodeQ qual) ∈ sh) (hc : (c, IsCel (some (.int (k : Int) t))) ∈ sh) :
    ∀ A R GR s, Aok 4 A → Sta W GR (itEnv L) (itLoc x st (.ref f)) (R ++ sh) s → ∀ Q E, (∀ rit own s', Sta W GR (itEnv L) (itLoc x st (.ref f)) (R ++ (sh ++ own)) s' → LY W sh rit ((lv.drop k).map fun p => .ref p.1) own → Q (.ref rit) s') →
      ∀ p2 p3 p4, wpAny (model W.prog W.w) A (eval (.Call (.Name "_reversed" p2) [.Name "ns_stack" p3] [] p4) (itEnv L)) (fun x s₁ => wpAny (model W.prog W.w) A (pyIter x) Q E s₁) E s := by
  intro A R GR s hA S' Q E h p2 p3 p4
  have hm : (st, IsLst (lv.map fun p => .ref p.1)) ∈ R ++ sh := List.mem_append_right _ hst
  have hmf := List.mem_append_right R hf
  have hmc' := List.mem_append_right R hc'
  have hmc := List.mem_append_right R hc
  simp only [itLoc, mkLoc, List.map_cons, List.map_nil, List.cons_append, List.nil_append] at S' h
  have S₀ := S'.eok
  repeat walk_at "ev"
  refine callWF_1 ?_ (by kernel_rfl) (by kernel_rfl)
  repeat walk_at "ev"
  refine ⟨S'.fnAt hmf, ?_⟩
  refine Sta.call_lam S' hmf hmc' hA.room (hO.bind _ _ _ _ · · _) hO.kinds ?_
  clear S'; intro L' s' S'
  simp only [mkLoc, List.map_cons, List.map_nil, List.cons_append, List.nil_append] at S'
  repeat walk_at "ev"
  refine Sta.free S' ⟨hO.free, rfl, by decide +kernel, by decide +kernel⟩ (List.mem_cons_of_mem _ hmc) ?_
  repeat walk_at "ev"
  refine ⟨_, _, _, _, _, _, _, S', rfl, List.mem_cons_of_mem _ hm, by simpa using hz, .int _ _, .none, ?_⟩
  clear S'; intro l2 s' S'
  rw [slice_from] at S'
  have S1 := Sta.ret1 (env := itEnv L) S' S₀
  refine Sta.iterList S1 (by walk_at "mem") ?_
  intro it s'' S2
  refine h it [(it, IsLI l2 0), (l2, IsLst ((lv.map fun p => .ref p.1).drop k))] _ (S2.perm ?_) ?_
  · exact (List.perm_append_comm (l₁ := [_, _]) (l₂ := R ++ sh)).trans (by rw [List.append_assoc])
  · rw [List.map_drop]
    exact ly_list (sh := sh) (l := l2) (xs := (lv.map fun p => .ref p.1).drop k) (own₀ := [(l2, IsLst ((lv.map fun p => .ref p.1).drop k))]) (List.mem_append_right _ (.head _)) _ 0 rfl
theorem genL7 {x st f c c' : Addr} {qual : Str} {params : Arguments} {scope : Scope} {q1 q2 q3 q4 : Pos} {t : Tok} {k : Nat} {lv : List (Addr × List Value)} {Q : Value → Shared → Prop} (I : Is7 W) (S : Sta W G env loc nw s) (hA : Aok 1 A) (hst : (st, IsLst (lv.map fun p => .ref p.1)) ∈ nw) (hlv : ∀ p ∈ lv, (p.1, IsLst p.2) ∈ nw ∧ p.2.length ≤ sizeLine) (hz : lv.length ≤ sizeLine)
    (hO : LamOk params scope) (hf : (f, IsLam qual params (.Subscript (.Name "levels" q1) (.Slice (some (.Name "level" q2)) none none q3) q4) scope [("level", c)] c') ∈ nw) (hc' : (c', IsCodeQ qual) ∈ nw) (hc : (c, IsCel (some (.int (k : Int) t))) ∈ nw)
    (h : ∀ a g own gs s', Sta W (G ++ [(g, gs)]) env loc (nw ++ (own ++ [(a, IsGenO g)])) s' → Yields W nw a ((lv.drop k).flatMap (·.2)) (own ++ [(a, IsGenO g)]) [(g, gs)] → Q (.ref a) s') :
    wpAny (model W.prog W.w) A (call (.ref 45) [.ref x, .ref st, .ref f]) Q E s := by
  refine S.call_gen (binds := [("self", .ref x), ("ns_stack", .ref st), ("_reversed", .ref f)]) ["namespaces"] I.iter hA.room ?_ (by kernel_rfl) ?_
  · intro name doc pm ct an
    exact kp_binds S.kin fun S => by rw [I.k]; kernel_rfl
  intro a g L s' he S'
  have H := good7 (W := W) (x := x) (st := st) (rv := .ref f) (sh := nw) he (lv.drop k) (fun p hp => hlv p (List.mem_of_mem_drop hp)) (lam7 hst hz hO hf hc' hc)
  refine h a g [(L, IsNs (itLoc x st (.ref f)))] _ s' (S'.perm ?_) (yields_gen H)
  show List.Perm ((a, IsGenO g) :: (L, IsNs _) :: nw) (nw ++ [(L, IsNs _), (a, IsGenO g)])
  exact (List.Perm.swap ..).trans (List.perm_append_comm (l₁ := [_, _]) (l₂ := nw))
end
end Mine
end

section
open PySem PySem.W PyProof.Rows PySem.W.X PySem.SeqAt
set_option maxRecDepth 100000
namespace Mine
abbrev Lv := List (Addr × List Value)
def flat (lv : Lv) : List Value := lv.reverse.flatMap (·.2)
def lens (lv : Lv) : List Nat := lv.map (·.2.length)
theorem flat_append (a b : Lv) : flat (a ++ b) = flat b ++ flat a := by simp [flat]
theorem flat_one (p : Addr × List Value) : flat [p] = p.2 := by simp [flat]
theorem lens_sum : ∀ lv : Lv, (lens lv).sum = (flat lv).length
  | [] => rfl
  | p :: r => by
    have e : p :: r = [p] ++ r := rfl
    have := lens_sum r
    rw [e, flat_append, flat_one, List.length_append]
    simp only [lens, List.map_append, List.sum_append, List.map_cons, List.map_nil, List.sum_cons, List.sum_nil] at this ⊢
    omega
theorem lens_drop (lv : Lv) (k : Nat) : ((lens lv).drop k).sum = (flat (lv.drop k)).length := by
  rw [← lens_sum]; simp [lens]
theorem flat_split (lv : Lv) (k : Nat) : flat lv = flat (lv.drop k) ++ flat (lv.take k) := by
  rw [← flat_append, List.take_append_drop]
theorem drop_lv (lv : Lv) (k : Nat) : (flat lv).drop ((lens lv).drop k).sum = flat (lv.take k) := by
  rw [lens_drop, flat_split lv k, List.drop_left]
theorem take_lv (lv : Lv) (k : Nat) : (flat lv).take ((lens lv).drop k).sum = flat (lv.drop k) := by
  rw [lens_drop, flat_split lv k, List.take_left]
theorem sum_le (lv : Lv) (k : Nat) : ((lens lv).drop k).sum ≤ (flat lv).length := by
  rw [lens_drop, flat_split lv k, List.length_append]; omega
theorem slice_lv (lv : Lv) (k : Nat) (h : k < lv.length) : ((flat lv).take ((lens lv).drop k).sum).drop ((lens lv).drop (k + 1)).sum = lv[k].2 := by
  rw [take_lv, lens_drop, List.drop_eq_getElem_cons h]
  have e : lv[k] :: lv.drop (k + 1) = [lv[k]] ++ lv.drop (k + 1) := rfl
  rw [e, flat_append, flat_one, List.drop_left]
theorem set_lv (lv : Lv) (k : Nat) (h : k < lv.length) (q : Addr × List Value) : lv.set k q = lv.take k ++ q :: lv.drop (k + 1) := List.set_eq_take_append_cons_drop ▸ by simp [h]
theorem insert_lv (lv : Lv) (k : Nat) (h : k < lv.length) (v : Value) :
    (flat lv).take ((lens lv).drop k).sum ++ v :: (flat lv).drop ((lens lv).drop k).sum = flat (lv.set k (lv[k].1, lv[k].2 ++ [v])) := by
  rw [take_lv, drop_lv, set_lv lv k h, flat_append, List.drop_eq_getElem_cons h]
  have e : ∀ q : Addr × List Value, q :: lv.drop (k + 1) = [q] ++ lv.drop (k + 1) := fun _ => rfl
  rw [e, e, flat_append, flat_append, flat_one, flat_one]
  simp
theorem pop_lv (lv : Lv) (p : Addr × List Value) : (flat (lv ++ [p])).drop p.2.length = flat lv := by
  rw [flat_append, flat_one, List.drop_left]
theorem lens_set (lv : Lv) (k : Nat) (h : k < lv.length) (v : Value) : lens (lv.set k (lv[k].1, lv[k].2 ++ [v])) = (lens lv).set k (lv[k].2.length + 1) := by
  simp [lens, List.map_set]
theorem pick_lv (lv : Lv) : ∀ (n k : Nat), k + n = lv.length → (List.range' k n).flatMap (fun j => ((flat lv).take ((lens lv).drop j).sum).drop ((lens lv).drop (j + 1)).sum) = (lv.drop k).flatMap (·.2)
  | 0, k, h => by simp [List.drop_of_length_le (show lv.length ≤ k by omega)]
  | n + 1, k, h => by
    have hk : k < lv.length := by omega
    rw [List.range'_succ, List.flatMap_cons, slice_lv lv k hk, pick_lv lv n (k + 1) (by omega), List.drop_eq_getElem_cons hk, List.flatMap_cons]
def lvLed (lv : Lv) : Ledger := lv.map fun p => (p.1, IsLst p.2)
abbrev Tl := List (Addr × Addr × List Value)
def tlLed (tl : Tl) : Ledger := tl.flatMap fun p => [(p.1, IsLst p.2.2), (p.2.1, IsLst p.2.2)]
theorem lvLed_mem {lv : Lv} {p : Addr × List Value} (h : p ∈ lv) : (p.1, IsLst p.2) ∈ lvLed lv := List.mem_map.mpr ⟨p, h, rfl⟩
theorem Upd.mid {a : Addr} {c c' : Cell} : ∀ (p : Ledger) {q : Ledger}, Upd a c c' (p ++ (a, c) :: q) (p ++ (a, c') :: q)
  | [], _ => .head
  | _ :: r, _ => .tail (Upd.mid r)
theorem Upd.left {a : Addr} {c c' : Cell} {p p' : Ledger} (h : Upd a c c' p p') (q : Ledger) : Upd a c c' (p ++ q) (p' ++ q) := by
  induction h with
  | head => exact .head
  | tail _ ih => exact .tail ih
theorem Upd.right {a : Addr} {c c' : Cell} {q q' : Ledger} (h : Upd a c c' q q') : ∀ (p : Ledger), Upd a c c' (p ++ q) (p ++ q')
  | [] => h
  | _ :: r => .tail (h.right r)
theorem upd_lv (lv : Lv) (k : Nat) (h : k < lv.length) (v : Value) : Upd lv[k].1 (IsLst lv[k].2) (IsLst (lv[k].2 ++ [v])) (lvLed lv) (lvLed (lv.set k (lv[k].1, lv[k].2 ++ [v]))) := by
  rw [set_lv lv k h]
  have e : lvLed lv = lvLed (lv.take k) ++ (lv[k].1, IsLst lv[k].2) :: lvLed (lv.drop (k + 1)) := by
    conv => lhs; rw [← List.take_append_drop k lv, List.drop_eq_getElem_cons h]
    simp only [lvLed, List.map_append, List.map_cons]
  rw [e]
  simp only [lvLed, List.map_append, List.map_cons]
  exact Upd.mid _
theorem yields_ints {W : Wd} {sh : Ledger} {it : Addr} : ∀ {vs : List Value} {ns : List Int} {own : Ledger} {og : Gens}, IntsAre vs ns → Yields W sh it vs own og → YieldsR W sh it (fun (i : Int) v => ∃ t, v = .int i t) ns own og
  | _, _, _, _, .nil, H => H
  | _, _, _, _, .cons n t h, H => ⟨H.1, fun A R GR s Q E hA S hQ => H.2 A R GR s Q E hA S fun own' og' s' S' H' => hQ _ own' og' s' ⟨t, rfl⟩ S' (yields_ints h H')⟩
end Mine
end

section
open PySem PySem.W PyProof.Rows PySem.W.X PySem.SeqAt
set_option maxRecDepth 100000
namespace Mine
inductive Pull {α : Type} (p : α) : List α → List α → Prop
  | head {r} : Pull p (p :: r) r
  | tail {q r r'} : Pull p r r' → Pull p (q :: r) (q :: r')
theorem Pull.perm {α : Type} {p : α} : ∀ {l l' : List α}, Pull p l l' → l.Perm (p :: l')
  | _, _, .head => List.Perm.refl _
  | _, _, .tail h => (List.Perm.cons _ h.perm).trans (List.Perm.swap ..)
def Sel (L L2 : Ledger) : Prop := ∃ rest, L.Perm (L2 ++ rest)
theorem Sel.refl (L : Ledger) : Sel L L := ⟨[], by rw [List.append_nil]⟩
theorem Sel.drop {q : Addr × Cell} {L L2 : Ledger} (h : Sel L L2) : Sel (q :: L) L2 := by
  obtain ⟨r, h⟩ := h
  exact ⟨q :: r, (List.Perm.cons _ h).trans List.perm_middle.symm⟩
theorem Sel.cons {p : Addr × Cell} {L L' L2 : Ledger} (hp : Pull p L L') (h : Sel L' L2) : Sel L (p :: L2) := by
  obtain ⟨r, h⟩ := h
  exact ⟨r, hp.perm.trans (List.Perm.cons _ h)⟩
theorem Sel.of_perm {L L2 : Ledger} (h : L.Perm L2) : Sel L L2 := ⟨[], by rw [List.append_nil]; exact h⟩
theorem Sel.trans {L L2 L3 : Ledger} (h : Sel L L2) (k : Sel L2 L3) : Sel L L3 := by
  obtain ⟨r, h⟩ := h
  obtain ⟨r', k⟩ := k
  exact ⟨r' ++ r, h.trans ((List.Perm.append_right r k).trans (by rw [List.append_assoc]))⟩
theorem Sta.sel {W : Wd} {G : Gens} {env : Env} {loc : Loc} {nw nw' : Ledger} {s : Shared} (S : Sta W G env loc nw s) (h : Sel nw nw') : Sta W G env loc nw' s := by
  obtain ⟨r, h⟩ := h
  exact (S.perm h).sub (List.sublist_append_left _ _)
theorem perm_in {α : Type} (p : α) (A B T : List α) : List.Perm (p :: (A ++ (B ++ T))) (A ++ (B ++ p :: T)) := by
  rw [← List.append_assoc, ← List.append_assoc]
  exact List.perm_middle.symm
theorem perm_in1 {α : Type} (p : α) (A T : List α) : List.Perm (p :: (A ++ T)) (A ++ p :: T) := List.perm_middle.symm
theorem ite_by {b : Bool} {P R : Prop} (h1 : b = true → P) (h2 : b = false → R) : (if b = true then P else R) := by
  cases b with
  | true => exact h1 rfl
  | false => exact h2 rfl
theorem IntsAre.snoc : ∀ {vs : List Value} {ns : List Int}, IntsAre vs ns → ∀ (n : Int) (t : Tok), IntsAre (vs ++ [.int n t]) (ns ++ [n])
  | _, _, .nil, n, t => .cons n t .nil
  | _, _, .cons m u h, n, t => .cons m u (IntsAre.snoc h n t)
theorem IntsAre.unsnoc : ∀ {vs : List Value} {ns : List Int} {n : Int}, IntsAre vs (ns ++ [n]) → ∃ vs' t, vs = vs' ++ [.int n t] ∧ IntsAre vs' ns
  | _, [], n, .cons _ t .nil => ⟨[], t, rfl, .nil⟩
  | _, m :: r, n, .cons _ u h => by
    obtain ⟨vs', t, e, k⟩ := IntsAre.unsnoc (ns := r) h
    exact ⟨.int m u :: vs', t, by rw [e]; rfl, .cons m u k⟩
theorem IntsAre.length' : ∀ {vs : List Value} {ns : List Int}, IntsAre vs ns → vs.length = ns.length
  | _, _, .nil => rfl
  | _, _, .cons _ _ h => by simp [IntsAre.length' h]
theorem IntsAre.getAt : ∀ {vs : List Value} {ns : List Int}, IntsAre vs ns → ∀ (k : Nat) (h : k < ns.length), ∃ t, vs[k]? = some (.int ns[k] t)
  | _, _, .cons n t h, 0, _ => ⟨t, rfl⟩
  | _, _, .cons n t h, k + 1, hk => by
    obtain ⟨u, e⟩ := IntsAre.getAt h k (by simpa using hk)
    exact ⟨u, by simpa using e⟩
theorem IntsAre.setAt : ∀ {vs : List Value} {ns : List Int}, IntsAre vs ns → ∀ (k : Nat) (n : Int) (t : Tok), IntsAre (vs.set k (.int n t)) (ns.set k n)
  | _, _, .nil, _, _, _ => .nil
  | _, _, .cons m u h, 0, n, t => .cons n t h
  | _, _, .cons m u h, k + 1, n, t => .cons m u (IntsAre.setAt h k n t)
end Mine
end

section
open PySem PySem.W PyProof.Rows PySem.W.X PySem.SeqAt
set_option maxRecDepth 100000
namespace Mine
section
variable {W : Wd} {G : Gens} {env : Env} {loc loc' : Loc} {nw nw' : Ledger} {s : Shared} {A : Around} {E : Value → Shared → Prop}
theorem St0.kin (S : St0 W G nw s) : W.K.In s.heap := S.ok.kin.keeps S.led.keep
theorem St0.nolimit (S : St0 W G nw s) : s.heap.NoLimit := S.ok.nolimit.keeps S.led.keep
theorem St0.code_def {R : Result → Shared → Prop} {f : Addr} {name qual : Str} {st : Stmt} {dV kV doc pm cdv ct oc : Value} {an od : Option Addr} {osl : Array (Option Value)} {args : Args} {binds : List (Str × Value)} (rest : List Str)
    (S : St0 W G nw s) (hroom : A.depth < recursionLimit)
    (ho : W.K.lookup f = some ⟨oc, od, .func (fnOf name qual (fnArgs st) (fnBody st) (fnScope st) dV kV doc pm an cdv ct), osl⟩) (hcd : codeIn W.K cdv qual = true)
    (hbind : BindsTo s (fnOf name qual (fnArgs st) (fnBody st) (fnScope st) dV kV doc pm an cdv ct) args binds)
    (hk : kindsOk (fnScope st) (binds.map Prod.fst ++ rest) = true)
    (h : ∀ L s', Sta W G (envOf qual (fnScope st) L f cdv) (mkLoc binds rest) nw s' →
      wpAny (model W.prog W.w) (A.deeper (envOf qual (fnScope st) L f cdv)) (execs (fnBody st) (envOf qual (fnScope st) L f cdv)) (fun fl s'' => R (.ok (.ret (match fl with | .ret v => v | _ => .none))) s'') (fun _ _ => False) s') :
    codeAny (model W.prog W.w) A (.call (.ref f) args) R s := by
  simp only [kindsOk, Bool.and_eq_true, beq_iff_eq, Bool.not_eq_true', List.all_eq_true, bne_iff_ne, decide_eq_true_eq] at hk
  obtain ⟨⟨⟨⟨⟨hkind, hco⟩, hgen⟩, hcell⟩, hks⟩, hnd⟩ := hk
  have hks2 : ((mkLoc binds rest).map Prod.fst) = binds.map Prod.fst ++ rest := by
    simp [mkLoc, List.map_map, Function.comp_def]
  refine (codeAny_call_def (fd := fnOf name qual (fnArgs st) (fnBody st) (fnScope st) dV kV doc pm an cdv ct) (body := fnBody st) (binds := binds) hroom (S.kin _ _ ho) rfl S.nolimit (codeRec_of S.kin hcd) rfl hbind hcell
    (fun x hx => (hks x.1 (List.mem_append_left _ (List.mem_map.mpr ⟨x, hx, rfl⟩))).1) (fun h₁ hns hkp => ?_) hco hgen hkind)
  have D : Led W.B ((s.heap.objs.size, IsNs (mkLoc binds rest)) :: nw) h₁ := by
    obtain ⟨o, es, ep, ho', hd, hsk, hf⟩ := hns
    refine S.led.cons_new hkp S.led.size_ne S.led.size_new ho' ⟨by rw [hks2]; exact hnd, es, ep, hd, hsk, fun x => ?_⟩
    rw [hf x, lk_mkLoc _ _ (hnd.sublist (List.sublist_append_left _ _))]
  have S' : Sta W G (envOf qual (fnScope st) s.heap.objs.size f cdv) (mkLoc binds rest) nw { s with heap := h₁, toks := s.toks + binds.length } :=
    ⟨S.ok, by rw [hks2]; exact ⟨hkind, rfl, rfl, fun x hx => (hks x hx).1, fun x hx => (hks x hx).2, hnd⟩, D, S.bare, S.os, S.gens, S.gnd⟩
  exact wpAny_mono (h _ _ S') (fun fl s'' q => q) (fun _ _ q => q.elim)
theorem St0.code {R : Result → Shared → Prop} {f : Addr} {qual : Str} {st : Stmt} {dV kV cdv : Value} {pos : List Value} {kw : List (Str × Value)} {binds : List (Str × Value)} (rest : List Str)
    (S : St0 W G nw s) (hf : Fn W.K f st qual dV kV cdv) (hroom : A.depth < recursionLimit) (hbind : Binds s st qual dV kV cdv ⟨pos, kw⟩ binds) (hk : kindsOk (fnScope st) (binds.map Prod.fst ++ rest) = true)
    (h : ∀ L s', Sta W G (envOf qual (fnScope st) L f cdv) (mkLoc binds rest) nw s' →
      wpAny (model W.prog W.w) (A.deeper (envOf qual (fnScope st) L f cdv)) (execs (fnBody st) (envOf qual (fnScope st) L f cdv)) (fun fl s'' => R (.ok (.ret (match fl with | .ret v => v | _ => .none))) s'') (fun _ _ => False) s') :
    codeAny (model W.prog W.w) A (.call (.ref f) ⟨pos, kw⟩) R s := by
  obtain ⟨name, doc, pm, ct, oc, an, od, osl, ho⟩ := hf.at_
  exact S.code_def (args := ⟨pos, kw⟩) rest hroom ho hf.code (hbind _ _ _ _ _) hk h
theorem St0.codeC {R : Result → Shared → Prop} {f : Addr} {qual : Str} {st : Stmt} {dV kV cdv : Value} {pos : List Value} {kw : List (Str × Value)} {binds : List (Str × Value)} (bl : List (Str × Value)) (rest : List Str) (cv : List (Option Value))
    (S : St0 W G nw s) (hf : Fn W.K f st qual dV kV cdv) (hroom : A.depth < recursionLimit) (hbind : Binds s st qual dV kV cdv ⟨pos, kw⟩ binds)
    (hbl : mapL (fnScope st) binds = bl) (hcv : (cellNames (fnScope st).names).map (fun n => binds.lookup n) = cv) (hk : kindsC (fnScope st) binds (bl.map Prod.fst ++ rest) = true)
    (h : ∀ L cs s', CellsAt (envOfC qual (fnScope st) L f cdv) (cellNames (fnScope st).names) cs → Sta W G (envOfC qual (fnScope st) L f cdv) (mkLoc bl rest) (cellLed cv cs ++ nw) s' →
      wpAny (model W.prog W.w) (A.deeper (envOfC qual (fnScope st) L f cdv)) (execs (fnBody st) (envOfC qual (fnScope st) L f cdv)) (fun fl s'' => R (.ok (.ret (match fl with | .ret v => v | _ => .none))) s'') (fun _ _ => False) s') :
    codeAny (model W.prog W.w) A (.call (.ref f) ⟨pos, kw⟩) R s := by
  obtain ⟨name, doc, pm, ct, oc, an, od, osl, ho⟩ := hf.at_
  simp only [kindsC, Bool.and_eq_true, beq_iff_eq, Bool.not_eq_true', List.all_eq_true, bne_iff_ne, decide_eq_true_eq, Bool.or_eq_true] at hk
  obtain ⟨⟨⟨⟨⟨⟨⟨⟨hkind, hco⟩, hgen⟩, hbk⟩, hks⟩, hnd⟩, hbnd⟩, hcnd⟩, hcs⟩ := hk
  have hks2 : ((mkLoc bl rest).map Prod.fst) = bl.map Prod.fst ++ rest := by
    simp [mkLoc, List.map_map, Function.comp_def]
  have hcf : cellsFrom (s.heap.objs.size + 1) (fnScope st).names [] = ((cellNames (fnScope st).names).zip (List.range' (s.heap.objs.size + 1) (cellNames (fnScope st).names).length)).reverse ++ [] := cellsFrom_eq _ _ _
  have hlk : ∀ i (hi : i < (cellNames (fnScope st).names).length), (cellsFrom (s.heap.objs.size + 1) (fnScope st).names []).lookup (cellNames (fnScope st).names)[i] = some (s.heap.objs.size + 1 + i) := fun i hi => by
    rw [hcf]; exact lookup_rev_zip _ _ hcnd i hi
  refine (codeAny_call_function (fd := fnOf name qual (fnArgs st) (fnBody st) (fnScope st) dV kV doc pm an cdv ct) hroom (S.kin _ _ ho) rfl hco hgen rfl (codeRec_of S.kin hf.code) (hbind _ _ _ _ _ _ _ _ _ ?_))
  refine wpAny_newFunctionEnv_cells hkind (fun x hx => ?_) fun env' he s' X => ?_
  · rcases hbk x hx with q | q
    · exact .inl q
    · refine .inr ⟨q, ?_⟩
      have : x.1 ∈ cellNames (fnScope st).names := by
        refine List.mem_map.mpr ⟨(x.1, .cell), List.mem_filter.mpr ⟨mem_of_lookup q, rfl⟩, rfl⟩
      obtain ⟨i, hi, e⟩ := List.getElem_of_mem this
      rw [← e, hlk i hi]; rfl
  · subst he
    have hkp := X.toInCall.keep
    obtain ⟨h₁, tk, e⟩ := X.toInCall.same
    refine ⟨S.nolimit.keeps hkp, codeAny_func ?_⟩
    have hlen : cv.length = (cellNames (fnScope st).names).length := by rw [← hcv]; simp
    have hE : newEnv (fnScope st) s.heap.objs.size mainGlobals (cellsFrom (s.heap.objs.size + 1) (fnScope st).names []) (qual ++ ".<locals>.") (some f) cdv none builtinsNs = envOfC qual (fnScope st) s.heap.objs.size f cdv := rfl
    have D : Led W.B (cellLed cv (List.range' (s.heap.objs.size + 1) cv.length) ++ ((s.heap.objs.size, IsNs (mkLoc bl rest)) :: nw)) s'.heap := by
      have D0 : Led W.B ((s.heap.objs.size, IsNs (mkLoc bl rest)) :: nw) s'.heap := by
        obtain ⟨o, es, ep, ho', hd, hsk, hf⟩ := X.toInCall.ns
        refine S.led.cons_new hkp S.led.size_ne S.led.size_new ho' ⟨by rw [hks2]; exact hnd, es, ep, hd, hsk, fun x => ?_⟩
        have hnd2 : (bl.map Prod.fst).Nodup := hnd.sublist (List.sublist_append_left _ _)
        rw [hf x, bindL_eq _ _ _ _ hbnd, Option.or_none, lk_mkLoc _ _ hnd2]
        show (mapL (fnScope st) binds).lookup x = _
        rw [hbl]
        have hrev : ∀ (l : List (Str × Value)), (l.map Prod.fst).Nodup → l.lookup x = l.reverse.lookup x := by
          intro l hl
          induction l with
          | nil => rfl
          | cons p r ih =>
            rw [List.map_cons, List.nodup_cons] at hl
            rw [List.reverse_cons, List.lookup_append, ← ih hl.2, List.lookup_cons, List.lookup_cons]
            by_cases q : x = p.1
            · subst q
              have : r.lookup p.1 = none := by
                rw [List.lookup_eq_none_iff]
                intro z hz
                rw [bne_iff_ne]
                exact fun e => hl.1 (List.mem_map.mpr ⟨z, hz, e.symm⟩)
              simp [this]
            · rw [beq_eq_false_iff_ne.mpr q]; simp
        exact hrev bl hnd2
      have hcell : ∀ i (hi : i < cv.length), s'.heap.IsCell (s.heap.objs.size + 1 + i) cv[i] := fun i hi => by
        have hi' : i < (cellNames (fnScope st).names).length := by rw [← hlen]; exact hi
        have := X.cell _ _ (hlk i hi')
        have hkc : (fnScope st).names.lookup (cellNames (fnScope st).names)[i] = some .cell := (hcs _ (List.getElem_mem hi')).1.1
        have e2 : bindC (newEnv (fnScope st) s.heap.objs.size mainGlobals (cellsFrom (s.heap.objs.size + 1) (fnScope st).names []) (qual ++ ".<locals>.") (some f) cdv none builtinsNs).kindOf binds (fun _ => none) (cellNames (fnScope st).names)[i] = cv[i] := by
          rw [bindC_eq _ _ _ _ hbnd (by show (fnScope st).names.lookup _ ≠ _; rw [hkc]; decide), Option.or_none]
          simp only [← hcv, List.getElem_map]
        rw [← e2]; exact this
      refine ⟨D0.keep, fun p hp => ?_, ?_⟩
      · rcases List.mem_append.mp hp with hp | hp
        · obtain ⟨i, hi, rfl⟩ := cellLed_mem _ _ _ hp
          obtain ⟨o, ho2, hd2⟩ := hcell i hi
          refine ⟨?_, o, ho2, hd2⟩
          cases q : W.B.get? (s.heap.objs.size + 1 + i) with
          | none => rfl
          | some o2 => exact absurd (Heap.lt_size (S.led.keep _ _ q)) (fun hh => by
              have hh' : s.heap.objs.size + 1 + i < s.heap.objs.size := hh
              omega)
        · exact D0.own p hp
      · rw [List.map_append, List.nodup_append, cellLed_keys]
        refine ⟨List.nodup_range', D0.nodup, fun a ha b hb e => ?_⟩
        subst e
        have hge : s.heap.objs.size + 1 ≤ a := by
          have := List.mem_range'_1.mp ha
          exact this.1
        rw [List.map_cons] at hb
        rcases List.mem_cons.mp hb with q | hb
        · exact absurd q (Nat.ne_of_gt hge)
        · obtain ⟨p, hp, q⟩ := List.mem_map.mp hb
          obtain ⟨o, ho2, _⟩ := (S.led.own p hp).2
          have hl : p.1 < s.heap.objs.size := Heap.lt_size ho2
          exact absurd q (Nat.ne_of_lt (Nat.lt_trans hl hge))
    have S' : Sta W G (envOfC qual (fnScope st) s.heap.objs.size f cdv) (mkLoc bl rest) (cellLed cv (List.range' (s.heap.objs.size + 1) cv.length) ++ nw) s' := by
      subst e
      refine ⟨S.ok, by rw [hks2]; exact ⟨hkind, rfl, rfl, fun x hx => (hks x hx).1, fun x hx => (hks x hx).2, hnd⟩, D.perm List.perm_middle, S.bare, S.os, S.gens, S.gnd⟩
    refine wpAny_mono (h _ _ _ ?_ S') (fun fl s'' q => q) (fun _ _ q => q.elim)
    rw [hlen]
    refine cellsAt_of _ _ fun i hi => ⟨(hcs _ (List.getElem_mem hi)).1.1, hlk i hi, (hcs _ (List.getElem_mem hi)).1.2, (hcs _ (List.getElem_mem hi)).2⟩
end
theorem kn_postG {M : Model} {A : Around} {cd : Code} {s s₁ : Shared} {cw : ClaimW} {cl : Str → Option Addr} {mean : ExcName → Option Value} {args : List WData} {tabs : List (Addr × Addr)} (hT : TabsAt tabs s₁.heap) (hr : ∀ x, cw.raises args x = false) (hp : cw.post args (.bool true) args = true)
    (h : codeAny M A cd (fun r s' => r = .ok (.ret (.bool true)) ∧ (∀ b o, (ghostOf s₁.heap tabs).get? b = some o → s'.heap.get? b = some o) ∧ s'.os = s₁.os ∧ AllBare s'.gens ∧ GrownAll tabs s'.heap) s) : codeAny M A cd (GoodWG cw cl mean args s₁) s :=
  codeAny_mono h fun r s' ⟨hr1, hk, hos, hg, hgr⟩ => by
    have keep : ∀ b o, b ∉ tabs.map (·.2) → s₁.heap.get? b = some o → s'.heap.get? b = some o := fun b o hb e => hk b o (ghost_ne e hb)
    have grown : ∀ b o, b ∈ tabs.map (·.2) → s₁.heap.get? b = some o → isCodeTable s₁.heap b ∧ o = tabObj #[] ∧ ∃ ps, s'.heap.get? b = some (tabObj ps) := fun b o hb e => by
      obtain ⟨q, hq, rfl⟩ := List.mem_map.mp hb
      have e2 := (hT q hq).2
      rw [e] at e2
      exact ⟨((hT q hq).1.tab (hT q hq).2).isCodeTable, Option.some.inj e2, hgr.get q hq⟩
    refine ⟨.inl ⟨_, _, [], hr1, hr, ReadsW.bool true, hp, fun _ => ⟨List.nodup_nil, fun _ hm => (nomatch hm)⟩⟩, ⟨fun b o e => ?_, fun b o e => ?_⟩, hos, hg⟩
    · by_cases hb : b ∈ tabs.map (·.2)
      · obtain ⟨ht, rfl, ps, hP⟩ := grown b o hb e
        exact .inr (.inl ⟨ht, rfl, #[], ps, rfl, by rw [Array.empty_append]; exact hP⟩)
      · exact .inl (keep b o hb e)
    · by_cases hb : b ∈ tabs.map (·.2)
      · obtain ⟨_, _, ps, hP⟩ := grown b o hb e
        exact ⟨_, hP⟩
      · exact ⟨o, keep b o hb e⟩
def tabLed (tabs : List (Addr × Addr)) : Ledger := tabs.map fun q => (q.2, IsTab [])
/-- the world of a law that is called -/
theorem sta0_of {W : Wd} {p : Program} {loose : List Str} {mean : ExcName → Option Value} {mg mb : Str → Option Value} {s₁ : Shared} {tabs : List (Addr × Addr)} (hT : TabsAt tabs s₁.heap) (hn : (tabs.map (·.2)).Nodup) (X : W.K.In s₁.heap) (hK : noTabs W.K = true) (T : Top p loose mean mg mb s₁.heap) (hg : s₁.gens = #[])
    (hB : W.B = ghostOf s₁.heap tabs) (ho : W.os = s₁.os) : St0 W [] (tabLed tabs) s₁ := by
  refine ⟨⟨?_, ?_⟩, ⟨?_, ?_, ?_⟩, .of_eq hg, ho.symm, fun _ h => by simp at h, List.nodup_nil⟩
  · rw [hB]; exact ghost_K hT X hK
  · rw [hB]; exact ⟨_, _, _, _, ghost_top hT T⟩
  · intro b o e; rw [hB] at e; exact of_hideAll _ e
  · intro q hq
    obtain ⟨r, hr, rfl⟩ := List.mem_map.mp hq
    exact ⟨by rw [hB]; exact hideAll_none _ (List.mem_map_of_mem hr), _, (hT r hr).2, rfl⟩
  · simpa [tabLed, List.map_map, Function.comp_def] using hn
end Mine
end

section
open PySem PySem.W PyProof.Rows PySem.W.X PySem.SeqAt
set_option maxRecDepth 100000
namespace Mine
def forBody : Stmt → List Stmt
  | .For _ _ b _ _ => b
  | _ => []
def stFor : Stmt := (fnBody stLaw).getD 3 (.Pass default)
def stFor2 : Stmt := (fnBody stLaw).getD 4 (.Pass default)
abbrev env7 (L : Addr) : Env := envOfC "law" (fnScope stLaw) L 138 (.ref 137)
structure Ad where
  L : Addr
  scr : Addr
  x : Addr
  dx : Addr
  vals : Loc
  st : Addr
  ct : Addr
  td : Addr
  wt : Addr
  c1 : Addr
  c2 : Addr
  c3 : Addr
abbrev loc7 (a : Ad) (vx vk vy vkk vp : Option Value) : Loc := [("script", some (.ref a.scr)), ("target", some (.ref a.x)), ("stack", some (.ref a.st)), ("told", some (.ref a.td)), ("wanted", some (.ref a.wt)), ("x", vx), ("kind", vk), ("y", vy), ("k", vkk), ("pair", vp)]
abbrev lamPos : Pos := { line := 88, col := 60, endLine := 88, endCol := 89 }
abbrev lamQ : Str := "law" ++ ".<locals>." ++ "<lambda>"
abbrev nw7 (a : Ad) (lv : Lv) (cs ds : List Value) (du : Addr) (tl : Tl) (c? : Option Addr) (vl : Option Value) (X : Ledger) : Ledger :=
  (a.c1, IsCel (some (.ref a.ct))) :: (a.c2, IsCel (some (.ref du))) :: (a.c3, IsCel vl) :: (a.x, IsInst 122 a.dx) :: (a.dx, IsAttrs a.vals) :: (a.st, IsLst (lv.map fun p => .ref p.1)) :: (a.ct, IsLst cs) :: (du, IsLst ds) ::
    (a.td, IsLst (tl.map fun p => .ref p.1)) :: (a.wt, IsLst (tl.map fun p => .ref p.2.1)) :: (Tabs 135 lamPos lamQ c? ++ (lvLed lv ++ (tlLed tl ++ X)))
structure P7 (N M : Nat) (lv : Lv) (cs : List Value) (ds : List Value) (tl : Tl) : Prop where
  hcs : IntsAre cs ((lens lv).map Int.ofNat)
  hds : ds = flat lv
  hne : 1 ≤ lv.length
  hl : lv.length ≤ N + 1
  hd : (flat lv).length ≤ N
  ht : tl.length ≤ M
structure Cs (a : Ad) : Prop where
  h1 : CellOk (env7 a.L) .cell "counts" a.c1
  h2 : CellOk (env7 a.L) .cell "due" a.c2
  h3 : CellOk (env7 a.L) .cell "level" a.c3
  hv : a.vals.map Prod.fst = selfNames
theorem List.single_le_sum_nat : ∀ {l : List Nat} {n : Nat}, n ∈ l → n ≤ l.sum
  | m :: r, n, h => by
    rcases List.mem_cons.mp h with rfl | h
    · simp
    · have := List.single_le_sum_nat h; simp; omega
theorem perm_in2 {α : Type} (p q : α) (A B C T : List α) : List.Perm (q :: p :: (A ++ (B ++ (C ++ T)))) (A ++ (B ++ (C ++ p :: q :: T))) := by
  rw [← List.append_assoc, ← List.append_assoc, ← List.append_assoc, ← List.append_assoc]
  exact ((List.Perm.swap ..).trans (List.Perm.cons _ List.perm_middle.symm)).trans List.perm_middle.symm
section
local macro_rules | `(tactic| walk_at "subl") => `(tactic| first | with_reducible exact List.Sublist.refl _ | ((with_reducible apply List.Sublist.cons); walk_at "subl"))
local macro_rules | `(tactic| walk_at "mem") => `(tactic| first | assumption | with_reducible exact List.mem_cons_self | ((with_reducible refine List.mem_cons_of_mem _ ?_); walk_at "mem"))
local macro_rules | `(tactic| walk_at "put") => `(tactic| first | with_reducible exact Put.head | ((with_reducible apply Put.tail); walk_at "put"))
local macro_rules | `(tactic| walk_at "upd") => `(tactic| first | with_reducible exact Upd.head | ((with_reducible apply Upd.tail); walk_at "upd"))
set_option hygiene false in
local macro_rules | `(tactic| walk_at "ev") => `(tactic| first
  | (with_reducible refine ite_t ?_)
  | (with_reducible refine ite_nf ?_)
  | (with_reducible refine ite_nt ?_)
  | (with_reducible refine ite_f ?_)
  | (with_reducible refine wpAny_execs_nil ?_)
  | (with_reducible refine wpAny_execs_cons ?_)
  | (with_reducible refine wpAny_Return_some ?_)
  | (with_reducible refine wpAny_Return_none ?_)
  | (with_reducible refine wpAny_If ?_)
  | ((with_reducible refine wpAny_Expr_any ?_ ?ht ?hu); (case ht => kernel_rfl); (case hu => kernel_rfl))
  | ((with_reducible refine wpAny_Assign_Name ?_ ?ht); (case ht => kernel_rfl))
  | ((with_reducible refine Assign_attr ?_ ?ht); (case ht => kernel_rfl))
  | (with_reducible refine Sta.local_ S' (by walk_at "mem") ?_)
  | ((with_reducible refine Sta.store S' (by walk_at "put") ?_); clear S'; intro s' S')
  | ((with_reducible refine Sta.int_ S' ?_); clear S'; intro t' s' S')
  | ((with_reducible refine Sta.str_ S' ?_); clear S'; intro t' s' S')
  | (with_reducible refine wpAny_Constant_none ?_)
  | (with_reducible refine wpAny_Constant_bool ?_)
  | (with_reducible refine IfExp_ ?_)
  | (with_reducible refine isTrue_not ?_)
  | (with_reducible refine isTrue_and ?_)
  | (with_reducible refine isTrue_and_nil ?_)
  | ((with_reducible refine isTrue_plain ?_ ?ht); (case ht => kernel_rfl))
  | (with_reducible refine wpAny_truthy_bool ?_)
  | (with_reducible refine truthy_none ?_)
  | (with_reducible refine wpAny_BinOp ?_)
  | ((with_reducible refine wpAny_Compare1 ?_ ?ht); (case ht => kernel_rfl))
  | ((with_reducible refine Sta.add S' ?_); clear S'; intro t' s' S')
  | ((with_reducible refine Sta.sub_ S' ?_); clear S'; intro t' s' S')
  | (with_reducible refine PyProof.Rows.eq_int ?_)
  | (with_reducible refine PyProof.Rows.gt_int ?_)
  | (with_reducible refine PyProof.Rows.lt_int ?_)
  | (with_reducible refine evalPart_some_step ?_)
  | (with_reducible refine evalPart_none_step ?_)
  | ((with_reducible refine slice_ ?_ ?ht); (case ht => intro _ _; kernel_rfl))
  | ((with_reducible refine Call_m ?_ ?ht ?hu ?hv); (case ht => kernel_rfl); (case hu => kernel_rfl); (case hv => kernel_rfl))
  | ((with_reducible refine Attribute_ ?_ ?ht); (case ht => kernel_rfl))
  | ((with_reducible refine Call_ ?_ ?ht); (case ht => kernel_rfl))
  | ((with_reducible refine callWith_builtin1 ?_ ?ht ?hu); (case ht => kernel_rfl); (case hu => kernel_rfl))
  | ((with_reducible refine PyProof.Rows.callWith_type1 ?_ ?ht ?hu); (case ht => kernel_rfl); (case hu => kernel_rfl))
  | ((with_reducible refine callWith_m1 ?_ ?ht ?hu); (case ht => kernel_rfl); (case hu => kernel_rfl))
  | (with_reducible refine callWith_bi0 ?_)
  | ((with_reducible refine Sta.getM_list S' (by walk_at "mem") F.slot_list_append F.type_list_append ?_))
  | ((with_reducible refine Sta.getM_list S' (by walk_at "mem") F.slot_list_pop F.type_list_pop ?_))
  | ((with_reducible refine Sta.getM_list S' (by walk_at "mem") F.slot_list_insert F.type_list_insert ?_))
  | ((with_reducible refine args_cons ?_ ?ht); (case ht => kernel_rfl))
  | (with_reducible refine args_nil ?_)
  | (with_reducible refine List_ ?_)
  | (with_reducible refine Tuple_ ?_)
  | ((with_reducible refine Sta.newList S' ?ht ?_); (case ht => first | assumption | (simp [sizeLine_eq]; done)); clear S'; intro a' s' S')
  | ((with_reducible refine Sta.newTuple S' ?ht ?_); (case ht => first | assumption | (simp [sizeLine_eq]; done)); clear S'; intro a' s' S')
  | ((with_reducible refine Sta.dict0 S' ?_); clear S'; intro a' s' S')
  | ((with_reducible refine Sta.append S' (by walk_at "upd") ?ht ?_); (case ht => first | assumption | (simp [sizeLine_eq]; done)); clear S'; intro s' S'))

local macro_rules | `(tactic| walk_at "pull") => `(tactic| first | with_reducible exact Pull.head | ((with_reducible apply Pull.tail); walk_at "pull"))
local macro_rules | `(tactic| walk_at "sel") => `(tactic| first | with_reducible exact Sel.refl _ | ((with_reducible apply Sel.cons (by walk_at "pull")); walk_at "sel") | ((with_reducible apply Sel.drop); walk_at "sel"))
set_option hygiene false in
local macro_rules | `(tactic| walk_at "lw") => `(tactic| first
  | ((with_reducible refine wpAny_isTrue_Compare1 ?_ ?ht); (case ht => kernel_rfl))
  | walk_at "ev"
  | ((with_reducible refine Sta.mod S' ?hb ?_); (case hb => decide); clear S'; intro t' s' S')
  | ((with_reducible refine Sta.fdiv S' ?hb ?hc ?_); (case hb => decide); (case hc => decide); clear S'; intro t' s' S')
  | ((with_reducible refine Sta.cell S' h1 (by walk_at "mem") ?_))
  | ((with_reducible refine Sta.cell S' h2 (by walk_at "mem") ?_))
  | ((with_reducible refine Sta.cell S' h3 (by walk_at "mem") ?_))
  | ((with_reducible refine Sta.storeC S' h1 (by walk_at "upd") ?_); clear S'; intro s' S')
  | ((with_reducible refine Sta.storeC S' h2 (by walk_at "upd") ?_); clear S'; intro s' S')
  | ((with_reducible refine Sta.storeC S' h3 (by walk_at "upd") ?_); clear S'; intro s' S')
  | ((with_reducible refine Sta.builtin S' I.len bo_len ?hk ?_ ?hn ?hd); (case hk => kernel_rfl); (case hn => decide +kernel); (case hd => decide +kernel))
  | ((with_reducible refine Sta.builtin S' I.sum bo_sum ?hk ?_ ?hn ?hd); (case hk => kernel_rfl); (case hn => decide +kernel); (case hd => decide +kernel))
  | ((with_reducible refine Sta.builtin S' I.str bo_str ?hk ?_ ?hn ?hd); (case hk => kernel_rfl); (case hn => decide +kernel); (case hd => decide +kernel))
  | ((with_reducible refine Sta.builtin S' I.range bo_range ?hk ?_ ?hn ?hd); (case hk => kernel_rfl); (case hn => decide +kernel); (case hd => decide +kernel))
  | ((with_reducible refine Sta.builtin S' I.list bo_list ?hk ?_ ?hn ?hd); (case hk => kernel_rfl); (case hn => decide +kernel); (case hd => decide +kernel))
  | ((with_reducible refine Sta.len S' (by walk_at "mem") ?hz ?_); (case hz => first | assumption | (simp [sizeLine_eq]; done) | (simp [sizeLine_eq]; omega)); clear S'; intro t' s' S'))

variable {W : Wd} {G : Gens} {env : Env} {loc loc' : Loc} {nw nw' : Ledger} {s : Shared} {A : Around} {E : Value → Shared → Prop}

theorem P7.cslen {N M : Nat} {lv : Lv} {cs ds : List Value} {tl : Tl} (P : P7 N M lv cs ds tl) : cs.length = lv.length := by
  rw [IntsAre.length' P.hcs]; simp [lens]
def tailOf (st : Stmt) : List Stmt := (forBody st).drop 3
set_option maxHeartbeats 8000000 in
theorem tail7 {a : Ad} {vx vk vy vkk vp vl : Option Value} {N M : Nat} {lv : Lv} {cs ds : List Value} {du : Addr} {tl : Tl} {c? : Option Addr} {X : Ledger} (I : Is7 W) (hC : Cs a) (hA : Aok 12 A) (P : P7 N M lv cs ds tl) (hN : N < 100) (hM : M < 1000)
    (S' : Sta W G (env7 a.L) (loc7 a vx vk vy vkk vp) (nw7 a lv cs ds du tl c? vl X) s) :
    wpAny (model W.prog W.w) A (execs (tailOf stFor) (env7 a.L)) (fun f s' => f = .next ∧ ∃ tl', Sta W G (env7 a.L) (loc7 a vx vk vy vkk vp) (nw7 a lv cs ds du tl' c? vl X) s' ∧ P7 N (M + 1) lv cs ds tl') (fun _ _ => False) s := by
  have h1 := hC.h1
  have h2 := hC.h2
  have h3 := hC.h3
  have hcl := I.cl
  have hlz : lv.length ≤ sizeLine := by have := P.hl; rw [sizeLine_eq]; omega
  have hdz : ds.length ≤ sizeLine := by have := P.hd; rw [P.hds, sizeLine_eq]; omega
  have hfz : (flat lv).length ≤ sizeLine := by have := P.hd; rw [sizeLine_eq]; omega
  have htz : (tl.map fun p => Value.ref p.1).length ≤ sizeLine := by have := P.ht; rw [sizeLine_eq]; simp; omega
  have htz2 : (tl.map fun p => Value.ref p.2.1).length ≤ sizeLine := by have := P.ht; rw [sizeLine_eq]; simp; omega
  simp only [loc7, nw7] at S'
  refine wpAny_execs_cons ?_
  repeat walk_at "lw"
  refine Sta.getM_inst (f := 45) S' hcl (by walk_at "mem") (by walk_at "mem") hC.hv (by decide +kernel) (by rw [I.k]; kernel_rfl) (by rw [I.k]; kernel_rfl) ?_
  refine callW_m (by rw [I.k]; kernel_rfl) ?_ (by kernel_rfl) (by kernel_rfl)
  repeat walk_at "lw"
  refine ⟨S'.kin, ?_⟩
  refine gen7 I S' (hA.le (by omega)) (by walk_at "mem") (lv := lv) ?_ ?_
  · intro p hp
    have hf : p.2.length ≤ sizeLine := by
      have e := lens_sum lv
      have h3 : p.2.length ≤ (lens lv).sum := List.single_le_sum_nat (List.mem_map.mpr ⟨p, hp, rfl⟩)
      omega
    refine ⟨?_, hf⟩
    have hm := lvLed_mem hp
    simp [hm]
  clear S'; intro ga g own gs s' S' hy
  repeat walk_at "lw"
  refine Sta.listGen (nw := []) (G := G) (hA.le (by omega)) g (by simp) hy hfz S' ?_
  clear S' hy; intro la s' S'
  rw [List.nil_append] at S'
  repeat walk_at "lw"
  refine Sta.copy S' (by walk_at "mem") hdz ?_
  clear S'; intro lb s' S'
  repeat walk_at "lw"
  have e1 : lv.reverse.flatMap (fun p => p.2) = ds := P.hds.symm
  have e2 : tlLed (tl ++ [(la, lb, ds)]) ++ X = tlLed tl ++ ((la, IsLst ds) :: (lb, IsLst ds) :: X) := by simp [tlLed]
  rw [e1] at S'
  refine ⟨rfl, tl ++ [(la, lb, ds)], S'.sel ?_, { P with ht := by have := P.ht; simp; omega }⟩
  simp only [nw7, List.map_append, List.map_cons, List.map_nil, e2]
  iterate 10 (apply Sel.cons (by walk_at "pull"))
  exact Sel.of_perm (perm_in2 _ _ _ _ _ _)
end
end Mine
end

section
open PySem PySem.W PyProof.Rows PySem.W.X PySem.SeqAt
set_option maxRecDepth 100000
namespace Mine
section
variable {W : Wd} {G : Gens} {env : Env} {loc loc' : Loc} {nw nw' : Ledger} {s : Shared} {A : Around} {E : Value → Shared → Prop}
theorem Sta.addS {x y : Str} {t u : Tok} {Q : Value → Shared → Prop} (S : Sta W G env loc nw s) (hx : x.length + y.length ≤ sizeLine) (h : ∀ z t' s', Sta W G env loc nw s' → Q (.str z t') s') : wpAny (model W.prog W.w) A (binaryOp .Add (.str x t) (.str y u)) Q E s := by
  refine PySem.P.add_str ?_
  split
  · exact h _ _ _ S
  · split
    · exact h _ _ _ S
    · refine ⟨?_, h _ _ _ (S.toks _)⟩
      rw [Str.length_append]; exact hx
end
def ifBody : Stmt → List Stmt
  | .If _ b _ _ => b
  | _ => []
def ifElse : Stmt → Stmt
  | .If _ _ e _ => e.getD 0 (.Pass default)
  | st => st
def ifElses : Stmt → List Stmt
  | .If _ _ e _ => e
  | _ => []
def stIf : Stmt := (forBody stFor).getD 2 (.Pass default)
theorem flat_snoc (lv : Lv) (l : Addr) : flat (lv ++ [(l, [])]) = flat lv := by rw [flat_append, flat_one]; rfl
theorem lens_snoc (lv : Lv) (p : Addr × List Value) : lens (lv ++ [p]) = lens lv ++ [p.2.length] := by simp [lens]
section
local macro_rules | `(tactic| walk_at "subl") => `(tactic| first | with_reducible exact List.Sublist.refl _ | ((with_reducible apply List.Sublist.cons); walk_at "subl"))
local macro_rules | `(tactic| walk_at "mem") => `(tactic| first | assumption | with_reducible exact List.mem_cons_self | ((with_reducible refine List.mem_cons_of_mem _ ?_); walk_at "mem"))
local macro_rules | `(tactic| walk_at "put") => `(tactic| first | with_reducible exact Put.head | ((with_reducible apply Put.tail); walk_at "put"))
local macro_rules | `(tactic| walk_at "upd") => `(tactic| first | with_reducible exact Upd.head | ((with_reducible apply Upd.tail); walk_at "upd"))
set_option hygiene false in
local macro_rules | `(tactic| walk_at "ev") => `(tactic| first
  | (with_reducible refine ite_t ?_)
  | (with_reducible refine ite_nf ?_)
  | (with_reducible refine ite_nt ?_)
  | (with_reducible refine ite_f ?_)
  | (with_reducible refine wpAny_execs_nil ?_)
  | (with_reducible refine wpAny_execs_cons ?_)
  | (with_reducible refine wpAny_Return_some ?_)
  | (with_reducible refine wpAny_Return_none ?_)
  | (with_reducible refine wpAny_If ?_)
  | ((with_reducible refine wpAny_Expr_any ?_ ?ht ?hu); (case ht => kernel_rfl); (case hu => kernel_rfl))
  | ((with_reducible refine wpAny_Assign_Name ?_ ?ht); (case ht => kernel_rfl))
  | ((with_reducible refine Assign_attr ?_ ?ht); (case ht => kernel_rfl))
  | (with_reducible refine Sta.local_ S' (by walk_at "mem") ?_)
  | ((with_reducible refine Sta.store S' (by walk_at "put") ?_); clear S'; intro s' S')
  | ((with_reducible refine Sta.int_ S' ?_); clear S'; intro t' s' S')
  | ((with_reducible refine Sta.str_ S' ?_); clear S'; intro t' s' S')
  | (with_reducible refine wpAny_Constant_none ?_)
  | (with_reducible refine wpAny_Constant_bool ?_)
  | (with_reducible refine IfExp_ ?_)
  | (with_reducible refine isTrue_not ?_)
  | (with_reducible refine isTrue_and ?_)
  | (with_reducible refine isTrue_and_nil ?_)
  | ((with_reducible refine isTrue_plain ?_ ?ht); (case ht => kernel_rfl))
  | (with_reducible refine wpAny_truthy_bool ?_)
  | (with_reducible refine truthy_none ?_)
  | (with_reducible refine wpAny_BinOp ?_)
  | ((with_reducible refine wpAny_Compare1 ?_ ?ht); (case ht => kernel_rfl))
  | ((with_reducible refine Sta.add S' ?_); clear S'; intro t' s' S')
  | ((with_reducible refine Sta.sub_ S' ?_); clear S'; intro t' s' S')
  | (with_reducible refine PyProof.Rows.eq_int ?_)
  | (with_reducible refine PyProof.Rows.gt_int ?_)
  | (with_reducible refine PyProof.Rows.lt_int ?_)
  | (with_reducible refine evalPart_some_step ?_)
  | (with_reducible refine evalPart_none_step ?_)
  | ((with_reducible refine slice_ ?_ ?ht); (case ht => intro _ _; kernel_rfl))
  | ((with_reducible refine Call_m ?_ ?ht ?hu ?hv); (case ht => kernel_rfl); (case hu => kernel_rfl); (case hv => kernel_rfl))
  | ((with_reducible refine Attribute_ ?_ ?ht); (case ht => kernel_rfl))
  | ((with_reducible refine Call_ ?_ ?ht); (case ht => kernel_rfl))
  | ((with_reducible refine callWith_builtin1 ?_ ?ht ?hu); (case ht => kernel_rfl); (case hu => kernel_rfl))
  | ((with_reducible refine PyProof.Rows.callWith_type1 ?_ ?ht ?hu); (case ht => kernel_rfl); (case hu => kernel_rfl))
  | ((with_reducible refine callWith_m1 ?_ ?ht ?hu); (case ht => kernel_rfl); (case hu => kernel_rfl))
  | (with_reducible refine callWith_bi0 ?_)
  | ((with_reducible refine Sta.getM_list S' (by walk_at "mem") F.slot_list_append F.type_list_append ?_))
  | ((with_reducible refine Sta.getM_list S' (by walk_at "mem") F.slot_list_pop F.type_list_pop ?_))
  | ((with_reducible refine Sta.getM_list S' (by walk_at "mem") F.slot_list_insert F.type_list_insert ?_))
  | ((with_reducible refine args_cons ?_ ?ht); (case ht => kernel_rfl))
  | (with_reducible refine args_nil ?_)
  | (with_reducible refine List_ ?_)
  | (with_reducible refine Tuple_ ?_)
  | ((with_reducible refine Sta.newList S' ?ht ?_); (case ht => first | assumption | (simp [sizeLine_eq]; done)); clear S'; intro a' s' S')
  | ((with_reducible refine Sta.newTuple S' ?ht ?_); (case ht => first | assumption | (simp [sizeLine_eq]; done)); clear S'; intro a' s' S')
  | ((with_reducible refine Sta.dict0 S' ?_); clear S'; intro a' s' S')
  | ((with_reducible refine Sta.append S' (by walk_at "upd") ?ht ?_); (case ht => first | assumption | (simp [sizeLine_eq]; done)); clear S'; intro s' S'))

local macro_rules | `(tactic| walk_at "pull") => `(tactic| first | with_reducible exact Pull.head | ((with_reducible apply Pull.tail); walk_at "pull"))
local macro_rules | `(tactic| walk_at "sel") => `(tactic| first | with_reducible exact Sel.refl _ | ((with_reducible apply Sel.cons (by walk_at "pull")); walk_at "sel") | ((with_reducible apply Sel.drop); walk_at "sel"))
set_option hygiene false in
local macro_rules | `(tactic| walk_at "lw") => `(tactic| first
  | ((with_reducible refine wpAny_isTrue_Compare1 ?_ ?ht); (case ht => kernel_rfl))
  | walk_at "ev"
  | ((with_reducible refine Sta.mod S' ?hb ?_); (case hb => decide); clear S'; intro t' s' S')
  | ((with_reducible refine Sta.fdiv S' ?hb ?hc ?_); (case hb => decide); (case hc => decide); clear S'; intro t' s' S')
  | ((with_reducible refine Sta.cell S' h1 (by walk_at "mem") ?_))
  | ((with_reducible refine Sta.cell S' h2 (by walk_at "mem") ?_))
  | ((with_reducible refine Sta.cell S' h3 (by walk_at "mem") ?_))
  | ((with_reducible refine Sta.storeC S' h1 (by walk_at "upd") ?_); clear S'; intro s' S')
  | ((with_reducible refine Sta.storeC S' h2 (by walk_at "upd") ?_); clear S'; intro s' S')
  | ((with_reducible refine Sta.storeC S' h3 (by walk_at "upd") ?_); clear S'; intro s' S')
  | ((with_reducible refine Sta.builtin S' I.len bo_len ?hk ?_ ?hn ?hd); (case hk => kernel_rfl); (case hn => decide +kernel); (case hd => decide +kernel))
  | ((with_reducible refine Sta.builtin S' I.sum bo_sum ?hk ?_ ?hn ?hd); (case hk => kernel_rfl); (case hn => decide +kernel); (case hd => decide +kernel))
  | ((with_reducible refine Sta.builtin S' I.str bo_str ?hk ?_ ?hn ?hd); (case hk => kernel_rfl); (case hn => decide +kernel); (case hd => decide +kernel))
  | ((with_reducible refine Sta.builtin S' I.range bo_range ?hk ?_ ?hn ?hd); (case hk => kernel_rfl); (case hn => decide +kernel); (case hd => decide +kernel))
  | ((with_reducible refine Sta.builtin S' I.list bo_list ?hk ?_ ?hn ?hd); (case hk => kernel_rfl); (case hn => decide +kernel); (case hd => decide +kernel))
  | ((with_reducible refine Sta.len S' (by walk_at "mem") ?hz ?_); (case hz => first | assumption | (simp [sizeLine_eq]; done) | (simp [sizeLine_eq]; omega)); clear S'; intro t' s' S'))

variable {W : Wd} {G : Gens} {env : Env} {loc loc' : Loc} {nw nw' : Ledger} {s : Shared} {A : Around} {E : Value → Shared → Prop}
def Mid7 (W : Wd) (G : Gens) (a : Ad) (vx vk vy vkk vl : Option Value) (N M : Nat) (X : Ledger) (s : Shared) : Prop :=
  ∃ vp lv cs ds du tl c?, Sta W G (env7 a.L) (loc7 a vx vk vy vkk vp) (nw7 a lv cs ds du tl c? vl X) s ∧ P7 N M lv cs ds tl
set_option maxHeartbeats 8000000 in
theorem brA {a : Ad} {vx vk vy vkk vp vl : Option Value} {N M : Nat} {lv : Lv} {cs ds : List Value} {du : Addr} {tl : Tl} {c? : Option Addr} {X : Ledger} (hC : Cs a) (P : P7 N M lv cs ds tl) (hN : N < 100) (hM : M < 1000)
    (S' : Sta W G (env7 a.L) (loc7 a vx vk vy vkk vp) (nw7 a lv cs ds du tl c? vl X) s) (body : List Stmt) (hb : body = ifBody stIf) :
    wpAny (model W.prog W.w) A (execs body (env7 a.L)) (fun f s' => f = .next ∧ Mid7 W G a vx vk vy vkk vl (N + 1) (M + 1) X s') (fun _ _ => False) s := by
  have h1 := hC.h1
  have h2 := hC.h2
  have h3 := hC.h3
  have hlz : (lv.map fun p => Value.ref p.1).length ≤ sizeLine := by have := P.hl; rw [sizeLine_eq]; simp; omega
  have hcz : cs.length ≤ sizeLine := by have := P.hl; rw [P.cslen, sizeLine_eq]; omega
  simp only [loc7, nw7] at S'
  subst hb
  refine wpAny_execs_cons ?_
  repeat walk_at "lw"
  have e2 : lvLed (lv ++ [(a', [])]) ++ (tlLed tl ++ X) = lvLed lv ++ ((a', IsLst []) :: (tlLed tl ++ X)) := by simp [lvLed]
  refine ⟨rfl, vp, lv ++ [(a', [])], cs ++ [.int 0 t'], ds, du, tl, c?, S'.sel ?_, ⟨?_, ?_, ?_, ?_, ?_, ?_⟩⟩
  · simp only [nw7, List.map_append, List.map_cons, List.map_nil, e2]
    iterate 10 (apply Sel.cons (by walk_at "pull"))
    exact Sel.of_perm (perm_in _ _ _ _)
  · rw [lens_snoc, List.map_append]
    exact IntsAre.snoc P.hcs 0 _
  · rw [flat_snoc]; exact P.hds
  · simp
  · have := P.hl; simp; omega
  · have := P.hd; rw [flat_snoc]; omega
  · have := P.ht; omega
set_option maxHeartbeats 8000000 in
theorem brB {a : Ad} {vx vk vy vkk vp vl : Option Value} {N M : Nat} {lv : Lv} {cs ds : List Value} {du : Addr} {tl : Tl} {c? : Option Addr} {X : Ledger} (hC : Cs a) (P : P7 N M lv cs ds tl) (hN : N < 100) (hM : M < 1000) (hlen : 1 < lv.length)
    (S' : Sta W G (env7 a.L) (loc7 a vx vk vy vkk vp) (nw7 a lv cs ds du tl c? vl X) s) (body : List Stmt) (hb : body = ifBody (ifElse stIf)) :
    wpAny (model W.prog W.w) A (execs body (env7 a.L)) (fun f s' => f = .next ∧ Mid7 W G a vx vk vy vkk vl (N + 1) (M + 1) X s') (fun _ _ => False) s := by
  have h1 := hC.h1
  have h2 := hC.h2
  have h3 := hC.h3
  obtain ⟨pre, p, rfl⟩ : ∃ pre p, lv = pre ++ [p] := by
    rcases List.eq_nil_or_concat lv with h | ⟨pre, p, h⟩
    · rw [h] at hlen; simp at hlen
    · exact ⟨pre, p, by simpa using h⟩
  have hcs := P.hcs
  rw [lens_snoc, List.map_append] at hcs
  obtain ⟨cs', tc, rfl, hcs'⟩ := IntsAre.unsnoc hcs
  have hpz : (pre.map fun p => Value.ref p.1).length < sizeLine := by have := P.hl; rw [sizeLine_eq]; simp at this ⊢; omega
  have hcl' := P.cslen
  have hcz : cs'.length < sizeLine := by have := P.hl; rw [sizeLine_eq]; simp at this hcl' ⊢; omega
  have hdz : ds.length ≤ sizeLine := by have := P.hd; rw [P.hds, sizeLine_eq]; omega
  simp only [loc7, nw7, List.map_append, List.map_cons, List.map_nil] at S'
  subst hb
  refine wpAny_execs_cons ?_
  repeat walk_at "lw"
  refine Sta.pop S' (by walk_at "upd") hpz ?_
  clear S'; intro s' S'
  repeat walk_at "lw"
  refine Sta.pop S' (by walk_at "upd") hcz ?_
  clear S'; intro s' S'
  repeat walk_at "lw"
  refine ⟨_, _, _, _, _, _, _, S', rfl, by walk_at "mem", hdz, .int _ _, .none, ?_⟩
  clear S'; intro a1 s' S'
  rw [show (some (Int.ofNat p.2.length)) = some ((p.2.length : Nat) : Int) from rfl, slice_from, P.hds, pop_lv] at S'
  repeat walk_at "lw"
  have e2 : lvLed (pre ++ [p]) ++ (tlLed tl ++ X) = lvLed pre ++ ((p.1, IsLst p.2) :: (tlLed tl ++ X)) := by simp [lvLed]
  rw [e2] at S'
  refine ⟨rfl, vp, pre, cs', flat pre, a1, tl, c?, S'.sel ?_, ⟨hcs', rfl, ?_, ?_, ?_, ?_⟩⟩
  · simp only [nw7]
    iterate 10 (apply Sel.cons (by walk_at "pull"))
    exact Sel.drop (Sel.trans (Sel.of_perm (perm_in _ _ _ _).symm) (Sel.drop (Sel.refl _)))
  · simp at hlen; omega
  · have := P.hl; simp at this; omega
  · have := P.hd; rw [flat_append] at this; simp at this; omega
  · have := P.ht; omega
end
end Mine
end

section
open PySem PySem.W PyProof.Rows PySem.W.X PySem.SeqAt
set_option maxRecDepth 100000
namespace Mine
theorem Sta.strIntL {W : Wd} {G : Gens} {env : Env} {loc : Loc} {nw : Ledger} {s : Shared} {A : Around} {E : Value → Shared → Prop} {a : Int} {t : Tok} {Q : Value → Shared → Prop} (S : Sta W G env loc nw s) (ha : a.natAbs < 1900) (h : ∀ (x : Str) t' s', x.length ≤ 2000 → Sta W G env loc nw s' → Q (.str x t') s') :
    wpAny (model W.prog W.w) A (call (.type "str") [.int a t]) Q E s :=
  PySem.P.str_of_int (Nat.lt_of_le_of_lt (Nat.log2_le_self _) (by omega)) (h _ _ _ (by have := len_str_of_int a; omega) (S.toks _))
theorem fmod_bd (y : Int) (n : Int) (h : 0 < n) : 0 ≤ y.fmod n ∧ y.fmod n < n := by
  rw [Int.fmod_eq_emod_of_nonneg _ (by omega)]
  exact ⟨Int.emod_nonneg _ (by omega), Int.emod_lt_of_pos _ h⟩
theorem Sta.sub_any {W : Wd} {G : Gens} {env : Env} {loc : Loc} {nw : Ledger} {s : Shared} {A : Around} {E : Value → Shared → Prop} {l : Addr} {xs : List Value} {k : Int} {t : Tok} {Q : Value → Shared → Prop} (S : Sta W G env loc nw s) (m : (l, IsLst xs) ∈ nw) (h0 : 0 ≤ k) (h1 : k < 1000000) (hx : k.toNat < xs.length) (h : ∀ v, Q v s) :
    SubscriptOn (model W.prog W.w) A (.ref l) (.int k t) Q E s := S.sub_list m h0 h1 (List.getElem?_eq_getElem hx) (h _)
section
local macro_rules | `(tactic| walk_at "subl") => `(tactic| first | with_reducible exact List.Sublist.refl _ | ((with_reducible apply List.Sublist.cons); walk_at "subl"))
local macro_rules | `(tactic| walk_at "mem") => `(tactic| first | assumption | with_reducible exact List.mem_cons_self | ((with_reducible refine List.mem_cons_of_mem _ ?_); walk_at "mem"))
local macro_rules | `(tactic| walk_at "put") => `(tactic| first | with_reducible exact Put.head | ((with_reducible apply Put.tail); walk_at "put"))
local macro_rules | `(tactic| walk_at "upd") => `(tactic| first | with_reducible exact Upd.head | ((with_reducible apply Upd.tail); walk_at "upd"))
set_option hygiene false in
local macro_rules | `(tactic| walk_at "ev") => `(tactic| first
  | (with_reducible refine ite_t ?_)
  | (with_reducible refine ite_nf ?_)
  | (with_reducible refine ite_nt ?_)
  | (with_reducible refine ite_f ?_)
  | (with_reducible refine wpAny_execs_nil ?_)
  | (with_reducible refine wpAny_execs_cons ?_)
  | (with_reducible refine wpAny_Return_some ?_)
  | (with_reducible refine wpAny_Return_none ?_)
  | (with_reducible refine wpAny_If ?_)
  | ((with_reducible refine wpAny_Expr_any ?_ ?ht ?hu); (case ht => kernel_rfl); (case hu => kernel_rfl))
  | ((with_reducible refine wpAny_Assign_Name ?_ ?ht); (case ht => kernel_rfl))
  | ((with_reducible refine Assign_attr ?_ ?ht); (case ht => kernel_rfl))
  | (with_reducible refine Sta.local_ S' (by walk_at "mem") ?_)
  | ((with_reducible refine Sta.store S' (by walk_at "put") ?_); clear S'; intro s' S')
  | ((with_reducible refine Sta.int_ S' ?_); clear S'; intro t' s' S')
  | ((with_reducible refine Sta.str_ S' ?_); clear S'; intro t' s' S')
  | (with_reducible refine wpAny_Constant_none ?_)
  | (with_reducible refine wpAny_Constant_bool ?_)
  | (with_reducible refine IfExp_ ?_)
  | (with_reducible refine isTrue_not ?_)
  | (with_reducible refine isTrue_and ?_)
  | (with_reducible refine isTrue_and_nil ?_)
  | ((with_reducible refine isTrue_plain ?_ ?ht); (case ht => kernel_rfl))
  | (with_reducible refine wpAny_truthy_bool ?_)
  | (with_reducible refine truthy_none ?_)
  | (with_reducible refine wpAny_BinOp ?_)
  | ((with_reducible refine wpAny_Compare1 ?_ ?ht); (case ht => kernel_rfl))
  | ((with_reducible refine Sta.add S' ?_); clear S'; intro t' s' S')
  | ((with_reducible refine Sta.sub_ S' ?_); clear S'; intro t' s' S')
  | (with_reducible refine PyProof.Rows.eq_int ?_)
  | (with_reducible refine PyProof.Rows.gt_int ?_)
  | (with_reducible refine PyProof.Rows.lt_int ?_)
  | (with_reducible refine evalPart_some_step ?_)
  | (with_reducible refine evalPart_none_step ?_)
  | ((with_reducible refine slice_ ?_ ?ht); (case ht => intro _ _; kernel_rfl))
  | ((with_reducible refine Call_m ?_ ?ht ?hu ?hv); (case ht => kernel_rfl); (case hu => kernel_rfl); (case hv => kernel_rfl))
  | ((with_reducible refine Attribute_ ?_ ?ht); (case ht => kernel_rfl))
  | ((with_reducible refine Call_ ?_ ?ht); (case ht => kernel_rfl))
  | ((with_reducible refine callWith_builtin1 ?_ ?ht ?hu); (case ht => kernel_rfl); (case hu => kernel_rfl))
  | ((with_reducible refine PyProof.Rows.callWith_type1 ?_ ?ht ?hu); (case ht => kernel_rfl); (case hu => kernel_rfl))
  | ((with_reducible refine callWith_m1 ?_ ?ht ?hu); (case ht => kernel_rfl); (case hu => kernel_rfl))
  | (with_reducible refine callWith_bi0 ?_)
  | ((with_reducible refine Sta.getM_list S' (by walk_at "mem") F.slot_list_append F.type_list_append ?_))
  | ((with_reducible refine Sta.getM_list S' (by walk_at "mem") F.slot_list_pop F.type_list_pop ?_))
  | ((with_reducible refine Sta.getM_list S' (by walk_at "mem") F.slot_list_insert F.type_list_insert ?_))
  | ((with_reducible refine args_cons ?_ ?ht); (case ht => kernel_rfl))
  | (with_reducible refine args_nil ?_)
  | (with_reducible refine List_ ?_)
  | (with_reducible refine Tuple_ ?_)
  | ((with_reducible refine Sta.newList S' ?ht ?_); (case ht => first | assumption | (simp [sizeLine_eq]; done)); clear S'; intro a' s' S')
  | ((with_reducible refine Sta.newTuple S' ?ht ?_); (case ht => first | assumption | (simp [sizeLine_eq]; done)); clear S'; intro a' s' S')
  | ((with_reducible refine Sta.dict0 S' ?_); clear S'; intro a' s' S')
  | ((with_reducible refine Sta.append S' (by walk_at "upd") ?ht ?_); (case ht => first | assumption | (simp [sizeLine_eq]; done)); clear S'; intro s' S'))

local macro_rules | `(tactic| walk_at "pull") => `(tactic| first | with_reducible exact Pull.head | ((with_reducible apply Pull.tail); walk_at "pull"))
local macro_rules | `(tactic| walk_at "sel") => `(tactic| first | with_reducible exact Sel.refl _ | ((with_reducible apply Sel.cons (by walk_at "pull")); walk_at "sel") | ((with_reducible apply Sel.drop); walk_at "sel"))
set_option hygiene false in
local macro_rules | `(tactic| walk_at "lw") => `(tactic| first
  | ((with_reducible refine wpAny_isTrue_Compare1 ?_ ?ht); (case ht => kernel_rfl))
  | walk_at "ev"
  | ((with_reducible refine Sta.mod S' ?hb ?_); (case hb => decide); clear S'; intro t' s' S')
  | ((with_reducible refine Sta.fdiv S' ?hb ?hc ?_); (case hb => decide); (case hc => decide); clear S'; intro t' s' S')
  | ((with_reducible refine Sta.cell S' h1 (by walk_at "mem") ?_))
  | ((with_reducible refine Sta.cell S' h2 (by walk_at "mem") ?_))
  | ((with_reducible refine Sta.cell S' h3 (by walk_at "mem") ?_))
  | ((with_reducible refine Sta.storeC S' h1 (by walk_at "upd") ?_); clear S'; intro s' S')
  | ((with_reducible refine Sta.storeC S' h2 (by walk_at "upd") ?_); clear S'; intro s' S')
  | ((with_reducible refine Sta.storeC S' h3 (by walk_at "upd") ?_); clear S'; intro s' S')
  | ((with_reducible refine Sta.builtin S' I.len bo_len ?hk ?_ ?hn ?hd); (case hk => kernel_rfl); (case hn => decide +kernel); (case hd => decide +kernel))
  | ((with_reducible refine Sta.builtin S' I.sum bo_sum ?hk ?_ ?hn ?hd); (case hk => kernel_rfl); (case hn => decide +kernel); (case hd => decide +kernel))
  | ((with_reducible refine Sta.builtin S' I.str bo_str ?hk ?_ ?hn ?hd); (case hk => kernel_rfl); (case hn => decide +kernel); (case hd => decide +kernel))
  | ((with_reducible refine Sta.builtin S' I.range bo_range ?hk ?_ ?hn ?hd); (case hk => kernel_rfl); (case hn => decide +kernel); (case hd => decide +kernel))
  | ((with_reducible refine Sta.builtin S' I.list bo_list ?hk ?_ ?hn ?hd); (case hk => kernel_rfl); (case hn => decide +kernel); (case hd => decide +kernel))
  | ((with_reducible refine Sta.len S' (by walk_at "mem") ?hz ?_); (case hz => first | assumption | (simp [sizeLine_eq]; done) | (simp [sizeLine_eq]; omega)); clear S'; intro t' s' S'))

variable {W : Wd} {G : Gens} {env : Env} {loc loc' : Loc} {nw nw' : Ledger} {s : Shared} {A : Around} {E : Value → Shared → Prop}
set_option maxHeartbeats 8000000 in
theorem brD {a : Ad} {vx vk vkk vp : Option Value} {y : Int} {ty tv : Tok} {lev : Nat} {N M : Nat} {lv : Lv} {cs ds : List Value} {du : Addr} {tl : Tl} {c? : Option Addr} {X : Ledger} (I : Is7 W) (hC : Cs a) (hA : Aok 12 A) (P : P7 N M lv cs ds tl) (hN : N < 100) (hM : M < 1000) (hlev : lev < lv.length)
    (S' : Sta W G (env7 a.L) (loc7 a vx vk (some (.int y ty)) vkk vp) (nw7 a lv cs ds du tl c? (some (.int (lev : Int) tv)) X) s) (body : List Stmt) (hb : body = ifElses (ifElse (ifElse stIf))) :
    wpAny (model W.prog W.w) A (execs body (env7 a.L)) (fun f s' => f = .next ∧ Mid7 W G a vx vk (some (.int y ty)) vkk (some (.int (lev : Int) tv)) (N + 1) (M + 1) X s') (fun _ _ => False) s := by
  have h1 := hC.h1
  have h2 := hC.h2
  have h3 := hC.h3
  have hlz : (lv.map fun p => Value.ref p.1).length ≤ sizeLine := by have := P.hl; rw [sizeLine_eq]; simp; omega
  have htz : (tl.map fun p => Value.ref p.1).length ≤ sizeLine := by have := P.ht; rw [sizeLine_eq]; simp; omega
  have hcz : cs.length ≤ sizeLine := by have := P.hl; rw [P.cslen, sizeLine_eq]; omega
  have hdz : ds.length ≤ sizeLine := by have := P.hd; rw [P.hds, sizeLine_eq]; omega
  simp only [loc7, nw7] at S'
  subst hb
  refine wpAny_execs_cons ?_
  repeat walk_at "lw"
  refine Sta.strIntL S' (by have := P.ht; simp; omega) ?_
  clear S'; intro sx st' s' hsx S'
  refine Sta.addS S' (by rw [sizeLine_eq]; have : ("u" : Str).length = 1 := (by kernel_rfl); omega) ?_
  clear S'; intro sz st2 s' S'
  repeat walk_at "lw"
  refine Subscript_any ?_ (fun _ _ => rfl)
  repeat walk_at "lw"
  have hb3 := fmod_bd y 3 (by decide)
  refine Sta.sub_any S' (by walk_at "mem") hb3.1 (by omega) (by simp; omega) ?_
  intro v
  repeat walk_at "lw"
  refine Subscript_any ?_ (fun _ _ => rfl)
  repeat walk_at "lw"
  refine Sta.sub_list S' (by walk_at "mem") (by omega) (by have := P.hl; omega) (v := .ref lv[lev].1) (by simp [hlev]) ?_
  have hml : (lv[lev].1, IsLst lv[lev].2) ∈ lvLed lv := lvLed_mem (List.getElem_mem hlev)
  refine Sta.getM_list S' (xs := lv[lev].2) (by simp [hml]) F.slot_list_append F.type_list_append ?_
  repeat walk_at "lw"
  have hmz : lv[lev].2.length ≤ sizeLine := by
    have h3 : lv[lev].2.length ≤ (lens lv).sum := List.single_le_sum_nat (List.mem_map.mpr ⟨lv[lev], List.getElem_mem hlev, rfl⟩)
    have e := lens_sum lv
    have := P.hd
    rw [sizeLine_eq]; omega
  refine Sta.append S' (by repeat (first | exact Upd.right (Upd.left (upd_lv lv lev hlev (.ref a')) _) _ | apply Upd.tail)) hmz ?_
  clear S'; intro s' S'
  generalize hpr : (a' : Addr) = pr at S'
  repeat walk_at "lw"
  refine ⟨_, _, _, _, _, _, _, S', rfl, by walk_at "mem", hcz, .int _ _, .none, ?_⟩
  clear S'; intro a2 s' S'
  repeat walk_at "lw"
  refine Sta.sum S' hA.handled (by walk_at "mem") (ints_drop P.hcs lev) ?_
  clear S'; intro t2 s' S'
  rw [sum_ofNat]
  repeat walk_at "lw"
  refine Sta.insert S' (by walk_at "upd") (by rw [P.hds]; exact sum_le lv lev) hdz ?_
  clear S'; intro s' S'
  repeat walk_at "lw"
  refine wpAny_AugAssign_SubscriptAny ?_ (by intros; kernel_rfl)
  repeat walk_at "lw"
  have hll : lev < ((lens lv).map Int.ofNat).length := by simpa [lens] using hlev
  obtain ⟨tg, hg⟩ := IntsAre.getAt P.hcs lev hll
  have hge : ((lens lv).map Int.ofNat)[lev] = ((lv[lev].2.length : Nat) : Int) := by simp [lens]
  rw [hge] at hg
  refine Sta.item S' (by walk_at "mem") (by omega) (by have := P.hl; omega) (v := .int ((lv[lev].2.length : Nat) : Int) tg) (by simpa using hg) ?_
  repeat walk_at "lw"
  refine Sta.iadd S' ?_
  clear S'; intro t3 s' S'
  refine Sta.setItem S' (by walk_at "upd") (by omega) (by have := P.hl; omega) (by rw [P.cslen]; simpa using hlev) ?_
  clear S'; intro s' S'
  repeat walk_at "lw"
  subst hpr
  rw [Int.toNat_natCast, P.hds, insert_lv lv lev hlev] at S'
  refine ⟨rfl, some (.ref a'), lv.set lev (lv[lev].1, lv[lev].2 ++ [.ref a']), cs.set lev (.int (((lv[lev].2.length : Nat) : Int) + 1) t3), flat (lv.set lev (lv[lev].1, lv[lev].2 ++ [.ref a'])), du, tl, c?, S'.sel ?_, ⟨?_, rfl, ?_, ?_, ?_, ?_⟩⟩
  · have e3 : ((lv.set lev (lv[lev].1, lv[lev].2 ++ [Value.ref a'])).map fun p => Value.ref p.1) = lv.map fun p => Value.ref p.1 := by
      rw [List.map_set]
      apply List.ext_getElem (by simp)
      intro i h1 h2
      rw [List.getElem_set]
      split
      · rename_i h; subst h; simp
      · rfl
    simp only [nw7, e3]
    walk_at "sel"
  · rw [lens_set, List.map_set]
    exact IntsAre.setAt P.hcs lev _ t3
  · have := P.hne; simpa using this
  · have := P.hl; simp; omega
  · have := P.hd
    rw [← insert_lv lv lev hlev, List.length_append, List.length_cons, List.length_take, List.length_drop]; omega
  · have := P.ht; omega
end
end Mine
end

section
open PySem PySem.W PyProof.Rows PySem.W.X PySem.SeqAt
set_option maxRecDepth 100000
namespace Mine
section
local macro_rules | `(tactic| walk_at "subl") => `(tactic| first | with_reducible exact List.Sublist.refl _ | ((with_reducible apply List.Sublist.cons); walk_at "subl"))
local macro_rules | `(tactic| walk_at "mem") => `(tactic| first | assumption | with_reducible exact List.mem_cons_self | ((with_reducible refine List.mem_cons_of_mem _ ?_); walk_at "mem"))
local macro_rules | `(tactic| walk_at "put") => `(tactic| first | with_reducible exact Put.head | ((with_reducible apply Put.tail); walk_at "put"))
local macro_rules | `(tactic| walk_at "upd") => `(tactic| first | with_reducible exact Upd.head | ((with_reducible apply Upd.tail); walk_at "upd"))
set_option hygiene false in
local macro_rules | `(tactic| walk_at "ev") => `(tactic| first
  | (with_reducible refine ite_t ?_)
  | (with_reducible refine ite_nf ?_)
  | (with_reducible refine ite_nt ?_)
  | (with_reducible refine ite_f ?_)
  | (with_reducible refine wpAny_execs_nil ?_)
  | (with_reducible refine wpAny_execs_cons ?_)
  | (with_reducible refine wpAny_Return_some ?_)
  | (with_reducible refine wpAny_Return_none ?_)
  | (with_reducible refine wpAny_If ?_)
  | ((with_reducible refine wpAny_Expr_any ?_ ?ht ?hu); (case ht => kernel_rfl); (case hu => kernel_rfl))
  | ((with_reducible refine wpAny_Assign_Name ?_ ?ht); (case ht => kernel_rfl))
  | ((with_reducible refine Assign_attr ?_ ?ht); (case ht => kernel_rfl))
  | (with_reducible refine Sta.local_ S' (by walk_at "mem") ?_)
  | ((with_reducible refine Sta.store S' (by walk_at "put") ?_); clear S'; intro s' S')
  | ((with_reducible refine Sta.int_ S' ?_); clear S'; intro t' s' S')
  | ((with_reducible refine Sta.str_ S' ?_); clear S'; intro t' s' S')
  | (with_reducible refine wpAny_Constant_none ?_)
  | (with_reducible refine wpAny_Constant_bool ?_)
  | (with_reducible refine IfExp_ ?_)
  | (with_reducible refine isTrue_not ?_)
  | (with_reducible refine isTrue_and ?_)
  | (with_reducible refine isTrue_and_nil ?_)
  | ((with_reducible refine isTrue_plain ?_ ?ht); (case ht => kernel_rfl))
  | (with_reducible refine wpAny_truthy_bool ?_)
  | (with_reducible refine truthy_none ?_)
  | (with_reducible refine wpAny_BinOp ?_)
  | ((with_reducible refine wpAny_Compare1 ?_ ?ht); (case ht => kernel_rfl))
  | ((with_reducible refine Sta.add S' ?_); clear S'; intro t' s' S')
  | ((with_reducible refine Sta.sub_ S' ?_); clear S'; intro t' s' S')
  | (with_reducible refine PyProof.Rows.eq_int ?_)
  | (with_reducible refine PyProof.Rows.gt_int ?_)
  | (with_reducible refine PyProof.Rows.lt_int ?_)
  | (with_reducible refine evalPart_some_step ?_)
  | (with_reducible refine evalPart_none_step ?_)
  | ((with_reducible refine slice_ ?_ ?ht); (case ht => intro _ _; kernel_rfl))
  | ((with_reducible refine Call_m ?_ ?ht ?hu ?hv); (case ht => kernel_rfl); (case hu => kernel_rfl); (case hv => kernel_rfl))
  | ((with_reducible refine Attribute_ ?_ ?ht); (case ht => kernel_rfl))
  | ((with_reducible refine Call_ ?_ ?ht); (case ht => kernel_rfl))
  | ((with_reducible refine callWith_builtin1 ?_ ?ht ?hu); (case ht => kernel_rfl); (case hu => kernel_rfl))
  | ((with_reducible refine PyProof.Rows.callWith_type1 ?_ ?ht ?hu); (case ht => kernel_rfl); (case hu => kernel_rfl))
  | ((with_reducible refine callWith_m1 ?_ ?ht ?hu); (case ht => kernel_rfl); (case hu => kernel_rfl))
  | (with_reducible refine callWith_bi0 ?_)
  | ((with_reducible refine Sta.getM_list S' (by walk_at "mem") F.slot_list_append F.type_list_append ?_))
  | ((with_reducible refine Sta.getM_list S' (by walk_at "mem") F.slot_list_pop F.type_list_pop ?_))
  | ((with_reducible refine Sta.getM_list S' (by walk_at "mem") F.slot_list_insert F.type_list_insert ?_))
  | ((with_reducible refine args_cons ?_ ?ht); (case ht => kernel_rfl))
  | (with_reducible refine args_nil ?_)
  | (with_reducible refine List_ ?_)
  | (with_reducible refine Tuple_ ?_)
  | ((with_reducible refine Sta.newList S' ?ht ?_); (case ht => first | assumption | (simp [sizeLine_eq]; done)); clear S'; intro a' s' S')
  | ((with_reducible refine Sta.newTuple S' ?ht ?_); (case ht => first | assumption | (simp [sizeLine_eq]; done)); clear S'; intro a' s' S')
  | ((with_reducible refine Sta.dict0 S' ?_); clear S'; intro a' s' S')
  | ((with_reducible refine Sta.append S' (by walk_at "upd") ?ht ?_); (case ht => first | assumption | (simp [sizeLine_eq]; done)); clear S'; intro s' S'))

local macro_rules | `(tactic| walk_at "pull") => `(tactic| first | with_reducible exact Pull.head | ((with_reducible apply Pull.tail); walk_at "pull"))
local macro_rules | `(tactic| walk_at "sel") => `(tactic| first | with_reducible exact Sel.refl _ | ((with_reducible apply Sel.cons (by walk_at "pull")); walk_at "sel") | ((with_reducible apply Sel.drop); walk_at "sel"))
set_option hygiene false in
local macro_rules | `(tactic| walk_at "lw") => `(tactic| first
  | ((with_reducible refine wpAny_isTrue_Compare1 ?_ ?ht); (case ht => kernel_rfl))
  | walk_at "ev"
  | ((with_reducible refine Sta.mod S' ?hb ?_); (case hb => decide); clear S'; intro t' s' S')
  | ((with_reducible refine Sta.fdiv S' ?hb ?hc ?_); (case hb => decide); (case hc => decide); clear S'; intro t' s' S')
  | ((with_reducible refine Sta.cell S' h1 (by walk_at "mem") ?_))
  | ((with_reducible refine Sta.cell S' h2 (by walk_at "mem") ?_))
  | ((with_reducible refine Sta.cell S' h3 (by walk_at "mem") ?_))
  | ((with_reducible refine Sta.storeC S' h1 (by walk_at "upd") ?_); clear S'; intro s' S')
  | ((with_reducible refine Sta.storeC S' h2 (by walk_at "upd") ?_); clear S'; intro s' S')
  | ((with_reducible refine Sta.storeC S' h3 (by walk_at "upd") ?_); clear S'; intro s' S')
  | ((with_reducible refine Sta.builtin S' I.len bo_len ?hk ?_ ?hn ?hd); (case hk => kernel_rfl); (case hn => decide +kernel); (case hd => decide +kernel))
  | ((with_reducible refine Sta.builtin S' I.sum bo_sum ?hk ?_ ?hn ?hd); (case hk => kernel_rfl); (case hn => decide +kernel); (case hd => decide +kernel))
  | ((with_reducible refine Sta.builtin S' I.str bo_str ?hk ?_ ?hn ?hd); (case hk => kernel_rfl); (case hn => decide +kernel); (case hd => decide +kernel))
  | ((with_reducible refine Sta.builtin S' I.range bo_range ?hk ?_ ?hn ?hd); (case hk => kernel_rfl); (case hn => decide +kernel); (case hd => decide +kernel))
  | ((with_reducible refine Sta.builtin S' I.list bo_list ?hk ?_ ?hn ?hd); (case hk => kernel_rfl); (case hn => decide +kernel); (case hd => decide +kernel))
  | ((with_reducible refine Sta.len S' (by walk_at "mem") ?hz ?_); (case hz => first | assumption | (simp [sizeLine_eq]; done) | (simp [sizeLine_eq]; omega)); clear S'; intro t' s' S'))

variable {W : Wd} {G : Gens} {env : Env} {loc loc' : Loc} {nw nw' : Ledger} {s : Shared} {A : Around} {E : Value → Shared → Prop}
set_option maxHeartbeats 8000000 in
theorem brC1 {a : Ad} {vx vk vy vkk vp : Option Value} {tv : Tok} {lev : Nat} {N M : Nat} {lv : Lv} {cs ds : List Value} {du : Addr} {tl : Tl} {c? : Option Addr} {X : Ledger} (I : Is7 W) (C : CodeHd W.B 137 135) (hC : Cs a) (hA : Aok 12 A) (P : P7 N M lv cs ds tl) (hN : N < 100) (hM : M < 1000) (hlev : lev < lv.length)
    (S' : Sta W G (env7 a.L) (loc7 a vx vk vy vkk vp) (nw7 a lv cs ds du tl c? (some (.int (lev : Int) tv)) X) s) (st : Stmt) (hb : st = (ifBody (ifElse (ifElse stIf))).getD 0 (.Pass default)) :
    wpAny (model W.prog W.w) A (exec st (env7 a.L)) (fun f s' => f = .next ∧ ∃ la c', Sta W G (env7 a.L) (loc7 a vx vk vy vkk vp) ((a.c1, IsCel (some (.ref a.ct))) :: (a.c2, IsCel (some (.ref du))) :: (a.c3, IsCel (some (.int (lev : Int) tv))) :: (a.x, IsInst 122 a.dx) :: (a.dx, IsAttrs a.vals) :: (a.st, IsLst (lv.map fun p => .ref p.1)) :: (a.ct, IsLst cs) :: (du, IsLst ds) ::
    (a.td, IsLst ((tl.map fun p => .ref p.1) ++ [.ref la])) :: (a.wt, IsLst (tl.map fun p => .ref p.2.1)) :: (la, IsLst ((lv.drop lev).flatMap (·.2))) :: (Tabs 135 lamPos lamQ (some c') ++ (lvLed lv ++ (tlLed tl ++ X)))) s') (fun _ _ => False) s := by
  have h1 := hC.h1
  have h2 := hC.h2
  have h3 := hC.h3
  have hcl := I.cl
  have hlz : lv.length ≤ sizeLine := by have := P.hl; rw [sizeLine_eq]; omega
  have htz : (tl.map fun p => Value.ref p.1).length ≤ sizeLine := by have := P.ht; rw [sizeLine_eq]; simp; omega
  have hfz : ((lv.drop lev).flatMap (·.2)).length ≤ sizeLine := by
    have h4 : ((lv.drop lev).flatMap (·.2)).length = (flat (lv.drop lev)).length := by simp [flat, List.length_flatMap]
    have h5 := congrArg List.length (flat_split lv lev)
    rw [List.length_append] at h5
    have := P.hd
    rw [sizeLine_eq]; omega
  simp only [loc7, nw7] at S'
  subst hb
  refine wpAny_Expr_any ?_ (by kernel_rfl) (by kernel_rfl)
  repeat walk_at "lw"
  refine Sta.getM_inst (f := 45) S' hcl (by walk_at "mem") (by walk_at "mem") hC.hv (by decide +kernel) (by rw [I.k]; kernel_rfl) (by rw [I.k]; kernel_rfl) ?_
  refine callW_m (by rw [I.k]; kernel_rfl) ?_ (by kernel_rfl) (by kernel_rfl)
  repeat walk_at "lw"
  refine Sta.lambda (P := 135) (c := 137) (c? := c?) (clos := [("level", a.c3)]) (S'.perm (List.perm_append_comm_assoc [_, _, _, _, _, _, _, _, _, _] _ _)) (by kernel_rfl) (closure_one (by kernel_rfl) h3) rfl C ?_
  clear S'; intro f c' s' S'
  simp only [Tabs] at S'
  repeat walk_at "lw"
  refine ⟨S'.kin, ?_⟩
  simp only [List.cons_append, List.nil_append] at S'
  refine genL7 I S' (hA.le (by omega)) (lv := lv) (k := lev) (by walk_at "mem") ?_ hlz ⟨fun _ _ _ _ _ _ _ => by kernel_rfl, by kernel_rfl, by kernel_rfl⟩ (by walk_at "mem") (by walk_at "mem") (by walk_at "mem") ?_
  · intro p hp
    have hf : p.2.length ≤ sizeLine := by
      have e := lens_sum lv
      have h3 : p.2.length ≤ (lens lv).sum := List.single_le_sum_nat (List.mem_map.mpr ⟨p, hp, rfl⟩)
      have := P.hd
      rw [sizeLine_eq]; omega
    refine ⟨?_, hf⟩
    have hm := lvLed_mem hp
    simp [hm]
  clear S'; intro ga g own gs s' S' hy
  repeat walk_at "lw"
  refine Sta.listGen (nw := []) (G := G) (hA.le (by omega)) g (by simp) hy hfz S' ?_
  clear S' hy; intro la s' S'
  rw [List.nil_append] at S'
  repeat walk_at "lw"
  refine ⟨rfl, la, c', S'.sel ?_⟩
  simp only [Tabs, List.cons_append, List.nil_append]
  iterate 10 (apply Sel.cons (by walk_at "pull"))
  exact Sel.cons .head (Sel.drop (Sel.refl _))
end
end Mine
end

section
open PySem PySem.W PyProof.Rows PySem.W.X PySem.SeqAt
set_option maxRecDepth 100000
namespace Mine
theorem compTurn_two0 (elt t1 i1 t2 i2 : Expr) (scope : Scope) (pos : Pos) (it acc : Value) (env : Env) :
    compTurn (.ListComp elt [⟨t1, i1, [], 0⟩, ⟨t2, i2, [], 0⟩] scope pos) 0 it acc env = (standAt i1.pos >>= fun _ => pyNext it >>= fun r => match r with
      | none => pure (.done .next)
      | some v => letOwnedTupleGo t1 it v >>= fun _ => assign t1 env v >>= fun _ =>
        (eval i2 env >>= fun x => standAt i2.pos >>= fun _ => foldedSetIterable i2 env x >>= fun x => holding [x] (pyIter x) >>= fun it' => runOwn (.compStart (.ListComp elt [⟨t1, i1, [], 0⟩, ⟨t2, i2, [], 0⟩] scope pos) 1 it' acc env) env >>= fun _ => pure ()) >>= fun _ =>
          again (.compLoop (.ListComp elt [⟨t1, i1, [], 0⟩, ⟨t2, i2, [], 0⟩] scope pos) 0 it acc env)) := by
  simp only [bind_assoc, pure_bind]
  rfl
theorem compTurn_two1 (elt t1 i1 t2 i2 : Expr) (scope : Scope) (pos : Pos) (it acc : Value) (env : Env) :
    compTurn (.ListComp elt [⟨t1, i1, [], 0⟩, ⟨t2, i2, [], 0⟩] scope pos) 1 it acc env = (standAt i2.pos >>= fun _ => pyNext it >>= fun r => match r with
      | none => pure (.done .next)
      | some v => letOwnedTupleGo t2 it v >>= fun _ => assign t2 env v >>= fun _ =>
        (eval elt env >>= fun x => call (.builtin "list.append") [acc, x] >>= fun _ => pure ()) >>= fun _ =>
          again (.compLoop (.ListComp elt [⟨t1, i1, [], 0⟩, ⟨t2, i2, [], 0⟩] scope pos) 1 it acc env)) := by rfl
def sl7 (lv : Lv) (j : Nat) : List Value := ((flat lv).take ((lens lv).drop j).sum).drop ((lens lv).drop (j + 1)).sum
section
local macro_rules | `(tactic| walk_at "subl") => `(tactic| first | with_reducible exact List.Sublist.refl _ | ((with_reducible apply List.Sublist.cons); walk_at "subl"))
local macro_rules | `(tactic| walk_at "mem") => `(tactic| first | assumption | with_reducible exact List.mem_cons_self | ((with_reducible refine List.mem_cons_of_mem _ ?_); walk_at "mem"))
local macro_rules | `(tactic| walk_at "put") => `(tactic| first | with_reducible exact Put.head | ((with_reducible apply Put.tail); walk_at "put"))
local macro_rules | `(tactic| walk_at "upd") => `(tactic| first | with_reducible exact Upd.head | ((with_reducible apply Upd.tail); walk_at "upd"))
set_option hygiene false in
local macro_rules | `(tactic| walk_at "ev") => `(tactic| first
  | (with_reducible refine ite_t ?_)
  | (with_reducible refine ite_nf ?_)
  | (with_reducible refine ite_nt ?_)
  | (with_reducible refine ite_f ?_)
  | (with_reducible refine wpAny_execs_nil ?_)
  | (with_reducible refine wpAny_execs_cons ?_)
  | (with_reducible refine wpAny_Return_some ?_)
  | (with_reducible refine wpAny_Return_none ?_)
  | (with_reducible refine wpAny_If ?_)
  | ((with_reducible refine wpAny_Expr_any ?_ ?ht ?hu); (case ht => kernel_rfl); (case hu => kernel_rfl))
  | ((with_reducible refine wpAny_Assign_Name ?_ ?ht); (case ht => kernel_rfl))
  | ((with_reducible refine Assign_attr ?_ ?ht); (case ht => kernel_rfl))
  | (with_reducible refine Sta.local_ S' (by walk_at "mem") ?_)
  | ((with_reducible refine Sta.store S' (by walk_at "put") ?_); clear S'; intro s' S')
  | ((with_reducible refine Sta.int_ S' ?_); clear S'; intro t' s' S')
  | ((with_reducible refine Sta.str_ S' ?_); clear S'; intro t' s' S')
  | (with_reducible refine wpAny_Constant_none ?_)
  | (with_reducible refine wpAny_Constant_bool ?_)
  | (with_reducible refine IfExp_ ?_)
  | (with_reducible refine isTrue_not ?_)
  | (with_reducible refine isTrue_and ?_)
  | (with_reducible refine isTrue_and_nil ?_)
  | ((with_reducible refine isTrue_plain ?_ ?ht); (case ht => kernel_rfl))
  | (with_reducible refine wpAny_truthy_bool ?_)
  | (with_reducible refine truthy_none ?_)
  | (with_reducible refine wpAny_BinOp ?_)
  | ((with_reducible refine wpAny_Compare1 ?_ ?ht); (case ht => kernel_rfl))
  | ((with_reducible refine Sta.add S' ?_); clear S'; intro t' s' S')
  | ((with_reducible refine Sta.sub_ S' ?_); clear S'; intro t' s' S')
  | (with_reducible refine PyProof.Rows.eq_int ?_)
  | (with_reducible refine PyProof.Rows.gt_int ?_)
  | (with_reducible refine PyProof.Rows.lt_int ?_)
  | (with_reducible refine evalPart_some_step ?_)
  | (with_reducible refine evalPart_none_step ?_)
  | ((with_reducible refine slice_ ?_ ?ht); (case ht => intro _ _; kernel_rfl))
  | ((with_reducible refine Call_m ?_ ?ht ?hu ?hv); (case ht => kernel_rfl); (case hu => kernel_rfl); (case hv => kernel_rfl))
  | ((with_reducible refine Attribute_ ?_ ?ht); (case ht => kernel_rfl))
  | ((with_reducible refine Call_ ?_ ?ht); (case ht => kernel_rfl))
  | ((with_reducible refine callWith_builtin1 ?_ ?ht ?hu); (case ht => kernel_rfl); (case hu => kernel_rfl))
  | ((with_reducible refine PyProof.Rows.callWith_type1 ?_ ?ht ?hu); (case ht => kernel_rfl); (case hu => kernel_rfl))
  | ((with_reducible refine callWith_m1 ?_ ?ht ?hu); (case ht => kernel_rfl); (case hu => kernel_rfl))
  | (with_reducible refine callWith_bi0 ?_)
  | ((with_reducible refine Sta.getM_list S' (by walk_at "mem") F.slot_list_append F.type_list_append ?_))
  | ((with_reducible refine Sta.getM_list S' (by walk_at "mem") F.slot_list_pop F.type_list_pop ?_))
  | ((with_reducible refine Sta.getM_list S' (by walk_at "mem") F.slot_list_insert F.type_list_insert ?_))
  | ((with_reducible refine args_cons ?_ ?ht); (case ht => kernel_rfl))
  | (with_reducible refine args_nil ?_)
  | (with_reducible refine List_ ?_)
  | (with_reducible refine Tuple_ ?_)
  | ((with_reducible refine Sta.newList S' ?ht ?_); (case ht => first | assumption | (simp [sizeLine_eq]; done)); clear S'; intro a' s' S')
  | ((with_reducible refine Sta.newTuple S' ?ht ?_); (case ht => first | assumption | (simp [sizeLine_eq]; done)); clear S'; intro a' s' S')
  | ((with_reducible refine Sta.dict0 S' ?_); clear S'; intro a' s' S')
  | ((with_reducible refine Sta.append S' (by walk_at "upd") ?ht ?_); (case ht => first | assumption | (simp [sizeLine_eq]; done)); clear S'; intro s' S'))

local macro_rules | `(tactic| walk_at "pull") => `(tactic| first | with_reducible exact Pull.head | ((with_reducible apply Pull.tail); walk_at "pull"))
local macro_rules | `(tactic| walk_at "sel") => `(tactic| first | with_reducible exact Sel.refl _ | ((with_reducible apply Sel.cons (by walk_at "pull")); walk_at "sel") | ((with_reducible apply Sel.drop); walk_at "sel"))
set_option hygiene false in
local macro_rules | `(tactic| walk_at "lw") => `(tactic| first
  | ((with_reducible refine wpAny_isTrue_Compare1 ?_ ?ht); (case ht => kernel_rfl))
  | walk_at "ev"
  | ((with_reducible refine Sta.mod S' ?hb ?_); (case hb => decide); clear S'; intro t' s' S')
  | ((with_reducible refine Sta.fdiv S' ?hb ?hc ?_); (case hb => decide); (case hc => decide); clear S'; intro t' s' S')
  | ((with_reducible refine Sta.cell S' h1 (by walk_at "mem") ?_))
  | ((with_reducible refine Sta.cell S' h2 (by walk_at "mem") ?_))
  | ((with_reducible refine Sta.cell S' h3 (by walk_at "mem") ?_))
  | ((with_reducible refine Sta.storeC S' h1 (by walk_at "upd") ?_); clear S'; intro s' S')
  | ((with_reducible refine Sta.storeC S' h2 (by walk_at "upd") ?_); clear S'; intro s' S')
  | ((with_reducible refine Sta.storeC S' h3 (by walk_at "upd") ?_); clear S'; intro s' S')
  | ((with_reducible refine Sta.builtin S' I.len bo_len ?hk ?_ ?hn ?hd); (case hk => kernel_rfl); (case hn => decide +kernel); (case hd => decide +kernel))
  | ((with_reducible refine Sta.builtin S' I.sum bo_sum ?hk ?_ ?hn ?hd); (case hk => kernel_rfl); (case hn => decide +kernel); (case hd => decide +kernel))
  | ((with_reducible refine Sta.builtin S' I.str bo_str ?hk ?_ ?hn ?hd); (case hk => kernel_rfl); (case hn => decide +kernel); (case hd => decide +kernel))
  | ((with_reducible refine Sta.builtin S' I.range bo_range ?hk ?_ ?hn ?hd); (case hk => kernel_rfl); (case hn => decide +kernel); (case hd => decide +kernel))
  | ((with_reducible refine Sta.builtin S' I.list bo_list ?hk ?_ ?hn ?hd); (case hk => kernel_rfl); (case hn => decide +kernel); (case hd => decide +kernel))
  | ((with_reducible refine Sta.len S' (by walk_at "mem") ?hz ?_); (case hz => first | assumption | (simp [sizeLine_eq]; done) | (simp [sizeLine_eq]; omega)); clear S'; intro t' s' S'))

variable {W : Wd} {G : Gens} {env : Env} {loc loc' : Loc} {nw nw' : Ledger} {s : Shared} {A : Around} {E : Value → Shared → Prop}
theorem perm_last {α : Type} (p : α) (L : List α) : List.Perm (p :: L) (L ++ [p]) := (List.perm_append_comm (l₁ := [p]) (l₂ := L))
/-- the inner loop: all of one slice laid at the back -/
theorem inner7 {t1 i1 i2 : Expr} {scope : Scope} {pos p2 pe : Pos} {cenv : Env} {acc it l : Addr} {ys xs : List Value} {vk vp : Option Value} {F : Ledger} {R : Result → Shared → Prop} (hA : Aok 7 A) (hz : ys.length + xs.length ≤ sizeLine)
    (S : Sta W G cenv ([("k", vk), ("pair", vp)] : Loc) ((it, IsLI l 0) :: (l, IsLst xs) :: (acc, IsLst ys) :: F) s)
    (fin : ∀ vp' s', Sta W G cenv ([("k", vk), ("pair", vp')] : Loc) ((acc, IsLst (ys ++ xs)) :: F) s' → R (.ok .next) s') :
    codeAny (model W.prog W.w) A (.compStart (.ListComp (.Name "pair" pe) [⟨t1, i1, [], 0⟩, ⟨.Name "pair" p2, i2, [], 0⟩] scope pos) 1 (.ref it) (.ref acc) cenv) R s := by
  refine comp_start (g := ⟨.Name "pair" p2, i2, [], 0⟩) rfl rfl self_li (S.get (.head _)) ?_
  refine comp_y (sh := []) (P := fun x v => v = x) (og := []) (own := [(it, IsLI l 0), (l, IsLst xs)]) (nw := (acc, IsLst ys) :: F) hA (compTurn_two1 ..) (fun rest loc nw G' => G' = G ∧ ∃ vp' zs, zs ++ rest = ys ++ xs ∧ loc = ([("k", vk), ("pair", vp')] : Loc) ∧ nw = (acc, IsLst zs) :: F) ?_ ?_ (loc := ([("k", vk), ("pair", vp)] : Loc)) (G := G) ?_ (Yields.rel (LY.yields (ly_list (sh := []) (xs := xs) (own₀ := [(l, IsLst xs)]) (.head _) xs 0 rfl))) ⟨rfl, vp, ys, rfl, rfl, rfl⟩
  · intro x v rest tl tg loc nw G' s hv S hJ
    obtain ⟨rfl, vp', zs, hzs, rfl, rfl⟩ := hJ
    subst hv
    have hzl : zs.length ≤ sizeLine := by
      have := congrArg List.length hzs
      simp at this; omega
    refine wpAny_assign_Name (S.store (.tail .head) fun s' S' => ?_)
    refine wpAny_bind (S'.local_ (.tail _ (.head _)) ?_)
    refine wpAny_bind (S'.append (xs := zs) .head hzl fun s' S' => wpAny_pure ?_)
    exact ⟨_, (acc, IsLst (zs ++ [v])) :: F, G', S', rfl, some v, zs ++ [v], by simpa using hzs, rfl, rfl⟩
  · intro loc nw G' s S hJ
    obtain ⟨rfl, vp', zs, hzs, rfl, rfl⟩ := hJ
    rw [List.append_nil] at hzs
    subst hzs
    rw [List.append_nil] at S
    exact fin vp' s S
  · rw [List.append_nil]
    refine S.sel (Sel.of_perm ?_)
    exact (List.perm_append_comm (l₁ := [_, _]) (l₂ := (acc, IsLst ys) :: F))
end
end Mine
end

section
open PySem PySem.W PyProof.Rows PySem.W.X PySem.SeqAt
set_option maxRecDepth 100000
namespace Mine
section
local macro_rules | `(tactic| walk_at "subl") => `(tactic| first | with_reducible exact List.Sublist.refl _ | ((with_reducible apply List.Sublist.cons); walk_at "subl"))
local macro_rules | `(tactic| walk_at "mem") => `(tactic| first | assumption | with_reducible exact List.mem_cons_self | ((with_reducible refine List.mem_cons_of_mem _ ?_); walk_at "mem"))
local macro_rules | `(tactic| walk_at "put") => `(tactic| first | with_reducible exact Put.head | ((with_reducible apply Put.tail); walk_at "put"))
local macro_rules | `(tactic| walk_at "upd") => `(tactic| first | with_reducible exact Upd.head | ((with_reducible apply Upd.tail); walk_at "upd"))
set_option hygiene false in
local macro_rules | `(tactic| walk_at "ev") => `(tactic| first
  | (with_reducible refine ite_t ?_)
  | (with_reducible refine ite_nf ?_)
  | (with_reducible refine ite_nt ?_)
  | (with_reducible refine ite_f ?_)
  | (with_reducible refine wpAny_execs_nil ?_)
  | (with_reducible refine wpAny_execs_cons ?_)
  | (with_reducible refine wpAny_Return_some ?_)
  | (with_reducible refine wpAny_Return_none ?_)
  | (with_reducible refine wpAny_If ?_)
  | ((with_reducible refine wpAny_Expr_any ?_ ?ht ?hu); (case ht => kernel_rfl); (case hu => kernel_rfl))
  | ((with_reducible refine wpAny_Assign_Name ?_ ?ht); (case ht => kernel_rfl))
  | ((with_reducible refine Assign_attr ?_ ?ht); (case ht => kernel_rfl))
  | (with_reducible refine Sta.local_ S' (by walk_at "mem") ?_)
  | ((with_reducible refine Sta.store S' (by walk_at "put") ?_); clear S'; intro s' S')
  | ((with_reducible refine Sta.int_ S' ?_); clear S'; intro t' s' S')
  | ((with_reducible refine Sta.str_ S' ?_); clear S'; intro t' s' S')
  | (with_reducible refine wpAny_Constant_none ?_)
  | (with_reducible refine wpAny_Constant_bool ?_)
  | (with_reducible refine IfExp_ ?_)
  | (with_reducible refine isTrue_not ?_)
  | (with_reducible refine isTrue_and ?_)
  | (with_reducible refine isTrue_and_nil ?_)
  | ((with_reducible refine isTrue_plain ?_ ?ht); (case ht => kernel_rfl))
  | (with_reducible refine wpAny_truthy_bool ?_)
  | (with_reducible refine truthy_none ?_)
  | (with_reducible refine wpAny_BinOp ?_)
  | ((with_reducible refine wpAny_Compare1 ?_ ?ht); (case ht => kernel_rfl))
  | ((with_reducible refine Sta.add S' ?_); clear S'; intro t' s' S')
  | ((with_reducible refine Sta.sub_ S' ?_); clear S'; intro t' s' S')
  | (with_reducible refine PyProof.Rows.eq_int ?_)
  | (with_reducible refine PyProof.Rows.gt_int ?_)
  | (with_reducible refine PyProof.Rows.lt_int ?_)
  | (with_reducible refine evalPart_some_step ?_)
  | (with_reducible refine evalPart_none_step ?_)
  | ((with_reducible refine slice_ ?_ ?ht); (case ht => intro _ _; kernel_rfl))
  | ((with_reducible refine Call_m ?_ ?ht ?hu ?hv); (case ht => kernel_rfl); (case hu => kernel_rfl); (case hv => kernel_rfl))
  | ((with_reducible refine Attribute_ ?_ ?ht); (case ht => kernel_rfl))
  | ((with_reducible refine Call_ ?_ ?ht); (case ht => kernel_rfl))
  | ((with_reducible refine callWith_builtin1 ?_ ?ht ?hu); (case ht => kernel_rfl); (case hu => kernel_rfl))
  | ((with_reducible refine PyProof.Rows.callWith_type1 ?_ ?ht ?hu); (case ht => kernel_rfl); (case hu => kernel_rfl))
  | ((with_reducible refine callWith_m1 ?_ ?ht ?hu); (case ht => kernel_rfl); (case hu => kernel_rfl))
  | (with_reducible refine callWith_bi0 ?_)
  | ((with_reducible refine Sta.getM_list S' (by walk_at "mem") F.slot_list_append F.type_list_append ?_))
  | ((with_reducible refine Sta.getM_list S' (by walk_at "mem") F.slot_list_pop F.type_list_pop ?_))
  | ((with_reducible refine Sta.getM_list S' (by walk_at "mem") F.slot_list_insert F.type_list_insert ?_))
  | ((with_reducible refine args_cons ?_ ?ht); (case ht => kernel_rfl))
  | (with_reducible refine args_nil ?_)
  | (with_reducible refine List_ ?_)
  | (with_reducible refine Tuple_ ?_)
  | ((with_reducible refine Sta.newList S' ?ht ?_); (case ht => first | assumption | (simp [sizeLine_eq]; done)); clear S'; intro a' s' S')
  | ((with_reducible refine Sta.newTuple S' ?ht ?_); (case ht => first | assumption | (simp [sizeLine_eq]; done)); clear S'; intro a' s' S')
  | ((with_reducible refine Sta.dict0 S' ?_); clear S'; intro a' s' S')
  | ((with_reducible refine Sta.append S' (by walk_at "upd") ?ht ?_); (case ht => first | assumption | (simp [sizeLine_eq]; done)); clear S'; intro s' S'))

local macro_rules | `(tactic| walk_at "pull") => `(tactic| first | with_reducible exact Pull.head | ((with_reducible apply Pull.tail); walk_at "pull"))
local macro_rules | `(tactic| walk_at "sel") => `(tactic| first | with_reducible exact Sel.refl _ | ((with_reducible apply Sel.cons (by walk_at "pull")); walk_at "sel") | ((with_reducible apply Sel.drop); walk_at "sel"))
set_option hygiene false in
local macro_rules | `(tactic| walk_at "lw") => `(tactic| first
  | ((with_reducible refine wpAny_isTrue_Compare1 ?_ ?ht); (case ht => kernel_rfl))
  | walk_at "ev"
  | ((with_reducible refine Sta.mod S' ?hb ?_); (case hb => decide); clear S'; intro t' s' S')
  | ((with_reducible refine Sta.fdiv S' ?hb ?hc ?_); (case hb => decide); (case hc => decide); clear S'; intro t' s' S')
  | ((with_reducible refine Sta.cell S' h1 (by walk_at "mem") ?_))
  | ((with_reducible refine Sta.cell S' h2 (by walk_at "mem") ?_))
  | ((with_reducible refine Sta.cell S' h3 (by walk_at "mem") ?_))
  | ((with_reducible refine Sta.storeC S' h1 (by walk_at "upd") ?_); clear S'; intro s' S')
  | ((with_reducible refine Sta.storeC S' h2 (by walk_at "upd") ?_); clear S'; intro s' S')
  | ((with_reducible refine Sta.storeC S' h3 (by walk_at "upd") ?_); clear S'; intro s' S')
  | ((with_reducible refine Sta.builtin S' I.len bo_len ?hk ?_ ?hn ?hd); (case hk => kernel_rfl); (case hn => decide +kernel); (case hd => decide +kernel))
  | ((with_reducible refine Sta.builtin S' I.sum bo_sum ?hk ?_ ?hn ?hd); (case hk => kernel_rfl); (case hn => decide +kernel); (case hd => decide +kernel))
  | ((with_reducible refine Sta.builtin S' I.str bo_str ?hk ?_ ?hn ?hd); (case hk => kernel_rfl); (case hn => decide +kernel); (case hd => decide +kernel))
  | ((with_reducible refine Sta.builtin S' I.range bo_range ?hk ?_ ?hn ?hd); (case hk => kernel_rfl); (case hn => decide +kernel); (case hd => decide +kernel))
  | ((with_reducible refine Sta.builtin S' I.list bo_list ?hk ?_ ?hn ?hd); (case hk => kernel_rfl); (case hn => decide +kernel); (case hd => decide +kernel))
  | ((with_reducible refine Sta.len S' (by walk_at "mem") ?hz ?_); (case hz => first | assumption | (simp [sizeLine_eq]; done) | (simp [sizeLine_eq]; omega)); clear S'; intro t' s' S'))

variable {W : Wd} {G : Gens} {env : Env} {loc loc' : Loc} {nw nw' : Ledger} {s : Shared} {A : Around} {E : Value → Shared → Prop}
set_option maxHeartbeats 8000000 in
theorem brC2 {a : Ad} {vx vk vy vkk vp : Option Value} {tv : Tok} {lev : Nat} {N M : Nat} {lv : Lv} {cs ds ws : List Value} {du : Addr} {tl : Tl} {Fl : Ledger} (I : Is7 W) (hC : Cs a) (hA : Aok 12 A) (P : P7 N M lv cs ds tl) (hN : N < 100) (hM : M < 1000) (hlev : lev < lv.length)
    (hF : (du, IsLst ds) ∈ Fl) (hF1 : (a.c1, IsCel (some (.ref a.ct))) ∈ Fl) (hF2 : (a.c2, IsCel (some (.ref du))) ∈ Fl) (hF3 : (a.c3, IsCel (some (.int (lev : Int) tv))) ∈ Fl) (hF4 : (a.ct, IsLst cs) ∈ Fl) (hws : ws.length ≤ sizeLine)
    (S' : Sta W G (env7 a.L) (loc7 a vx vk vy vkk vp) ((a.wt, IsLst ws) :: Fl) s) (st : Stmt) (hb : st = (ifBody (ifElse (ifElse stIf))).getD 1 (.Pass default)) :
    wpAny (model W.prog W.w) A (exec st (env7 a.L)) (fun f s' => f = .next ∧ ∃ lb, Sta W G (env7 a.L) (loc7 a vx vk vy vkk vp) ((lb, IsLst ((lv.drop lev).flatMap (·.2))) :: (a.wt, IsLst (ws ++ [.ref lb])) :: Fl) s') (fun _ _ => False) s := by
  have h1 := hC.h1
  have h2 := hC.h2
  have h3 := hC.h3
  have hcz : cs.length ≤ sizeLine := by have := P.hl; rw [P.cslen, sizeLine_eq]; omega
  have hdz : ds.length ≤ sizeLine := by have := P.hd; rw [P.hds, sizeLine_eq]; omega
  have hfz : ((lv.drop lev).flatMap (·.2)).length ≤ 100 := by
    have h4 : ((lv.drop lev).flatMap (·.2)).length = (flat (lv.drop lev)).length := by simp [flat, List.length_flatMap]
    have h5 := congrArg List.length (flat_split lv lev)
    rw [List.length_append] at h5
    have := P.hd
    omega
  simp only [loc7] at S'
  subst hb
  refine wpAny_Expr_any ?_ (by kernel_rfl) (by kernel_rfl)
  repeat walk_at "lw"
  refine listComp (cl := [("due", a.c2), ("counts", a.c1)]) ["k", "pair"] (closure_two (x := "counts") (y := "due") (by kernel_rfl) (by decide +kernel) h1 h2) (by kernel_rfl) rfl rfl ?_ (by intro _; kernel_rfl)
  repeat walk_at "lw"
  refine Sta.range2 S' ?_
  clear S'; intro r s' S'
  refine Sta.iterRange (a := lev) (b := cs.length) S' (by walk_at "mem") (by have := P.hl; omega) (by have := P.hl; rw [P.cslen]; omega) ?_
  clear S'; intro it s' S'
  refine ⟨G, _, _, S', ?_⟩
  intro acc Cc s₁ eok S1
  refine comp_start rfl rfl self_rng (S1.get (by walk_at "mem")) ?_
  have hnn : lev + (cs.length - lev) = lv.length := by rw [P.cslen]; omega
  have hT : (List.range' lev (cs.length - lev)).flatMap (sl7 lv) = (lv.drop lev).flatMap (·.2) := pick_lv lv _ _ hnn
  have hlt : ∀ j ∈ List.range' lev (cs.length - lev), j < lv.length := by
    intro j hj
    have := List.mem_range'_1.mp hj
    omega
  generalize hTT : (lv.drop lev).flatMap (·.2) = TT at hT hfz
  generalize hce : compEnvC _ _ Cc (env7 a.L) = cenv at S1 eok ⊢
  have kd : CellOk cenv .cell "due" a.c2 := by subst hce; exact ⟨by kernel_rfl, rfl, by decide +kernel, by decide +kernel⟩
  have kc : CellOk cenv .cell "counts" a.c1 := by subst hce; exact ⟨by kernel_rfl, rfl, by decide +kernel, by decide +kernel⟩
  have kg : cenv.kindOf "_law_slice" = some .globalImplicit := by subst hce; kernel_rfl
  obtain ⟨Fq, hFq⟩ : ∃ Fq : Ledger, Fq = ((env7 a.L).locals, IsNs (loc7 a vx vk vy vkk vp)) :: (r, IsRng (lev : Int) (cs.length : Int)) :: (a.wt, IsLst ws) :: Fl := ⟨_, rfl⟩
  refine comp_y (sh := []) (P := fun (k : Nat) v => ∃ t, v = .int (k : Int) t) (og := []) (own := [(it, IsRngIt (lev : Int) ((cs.length - lev : Nat) : Int))]) (nw := (acc, IsLst []) :: Fq) (hA.le (by omega)) (compTurn_two0 ..)
    (fun rest loc nw G' => G' = G ∧ ∃ vk vp ys, ys ++ rest.flatMap (sl7 lv) = TT ∧ (∀ j ∈ rest, j < lv.length) ∧ loc = ([("k", vk), ("pair", vp)] : Loc) ∧ nw = (acc, IsLst ys) :: Fq) ?_ ?_ (loc := [("k", none), ("pair", none)]) (G := G) ?_ (yields_range _ _) ⟨rfl, none, none, [], hT, hlt, rfl, rfl⟩
  · intro x v rest tl' tg loc nw G' s₂ hv S hJ
    obtain ⟨rfl, vk', vp', ys, hys, hx, rfl, rfl⟩ := hJ
    obtain ⟨t₂, rfl⟩ := hv
    refine wpAny_assign_Name (S.store .head fun s' S' => ?_)
    simp only [List.cons_append] at S'
    have g1 : (du, IsLst ds) ∈ Fq ++ ([] ++ tl') := by rw [hFq]; simp [hF]
    have g2 : (a.c1, IsCel (some (.ref a.ct))) ∈ Fq ++ ([] ++ tl') := by rw [hFq]; simp [hF1]
    have g3 : (a.c2, IsCel (some (.ref du))) ∈ Fq ++ ([] ++ tl') := by rw [hFq]; simp [hF2]
    have g4 : (a.ct, IsLst cs) ∈ Fq ++ ([] ++ tl') := by rw [hFq]; simp [hF4]
    refine wpAny_bind ?_
    repeat walk_at "ev"
    refine Sta.global S' I.slice_ kg ?_
    refine callW_1 (by rw [I.k]; kernel_rfl) ?_ (by kernel_rfl) (by kernel_rfl)
    repeat walk_at "ev"
    refine Sta.cell S' kd (.tail _ g3) ?_
    repeat walk_at "ev"
    refine Sta.cell S' kc (.tail _ g2) ?_
    repeat walk_at "ev"
    refine ⟨S'.kin, ?_⟩
    have hxl : x < lv.length := hx x (.head _)
    refine slice7 I S' (hA.le (by omega)) (.tail _ g1) (.tail _ g4) P.hcs hdz hcz (by rw [P.hds]; exact sum_le lv x) ?_
    clear S'; intro l s' S'
    rw [P.hds] at S'
    refine wpAny_bind (wpAny_standAt (wpAny_bind (wpAny_of_eq rfl (wpAny_bind (wpAny_holding (S'.iterList (.head _) fun it2 s' S' => wpAny_bind (wpAny_runOwn ?_)))))))
    refine inner7 (A := A) (hA.le (by omega)) ?_ S' ?_
    · have := congrArg List.length hys
      rw [List.length_append, List.flatMap_cons, List.length_append] at this
      rw [sizeLine_eq]
      have h7 : (sl7 lv x).length = (List.drop ((lens lv).drop (x + 1)).sum (List.take ((lens lv).drop x).sum (flat lv))).length := rfl
      omega
    · intro vp'' s'' S''
      refine wpAny_pure ⟨_, _, _, S'', rfl, _, vp'', ys ++ sl7 lv x, ?_, fun j hj => hx j (.tail _ hj), rfl, rfl⟩
      rw [List.append_assoc, ← List.flatMap_cons]; exact hys
  · intro loc nw G' s₂ S hJ
    obtain ⟨rfl, vk', vp', ys, hys, hx, rfl, rfl⟩ := hJ
    rw [List.flatMap_nil, List.append_nil] at hys
    subst hys
    rw [List.append_nil, hFq] at S
    refine ⟨.next, _, (acc, IsLst ys) :: (r, IsRng (lev : Int) (cs.length : Int)) :: (a.wt, IsLst ws) :: Fl, _, rfl, S.perm (List.Perm.swap ..), ?_⟩
    intro s₃ S'
    repeat walk_at "lw"
    refine ⟨rfl, acc, ?_⟩
    exact S'.sel (Sel.cons .head (Sel.drop (Sel.refl _)))
  · rw [List.append_nil G]
    refine S1.sel (Sel.of_perm ?_)
    rw [hFq]
    exact (Pull.perm (.tail (.tail .head))).trans (perm_last _ _)
end
end Mine
end

section
open PySem PySem.W PyProof.Rows PySem.W.X PySem.SeqAt
set_option maxRecDepth 100000
namespace Mine
section
local macro_rules | `(tactic| walk_at "subl") => `(tactic| first | with_reducible exact List.Sublist.refl _ | ((with_reducible apply List.Sublist.cons); walk_at "subl"))
local macro_rules | `(tactic| walk_at "mem") => `(tactic| first | assumption | with_reducible exact List.mem_cons_self | ((with_reducible refine List.mem_cons_of_mem _ ?_); walk_at "mem"))
local macro_rules | `(tactic| walk_at "put") => `(tactic| first | with_reducible exact Put.head | ((with_reducible apply Put.tail); walk_at "put"))
local macro_rules | `(tactic| walk_at "upd") => `(tactic| first | with_reducible exact Upd.head | ((with_reducible apply Upd.tail); walk_at "upd"))
set_option hygiene false in
local macro_rules | `(tactic| walk_at "ev") => `(tactic| first
  | (with_reducible refine ite_t ?_)
  | (with_reducible refine ite_nf ?_)
  | (with_reducible refine ite_nt ?_)
  | (with_reducible refine ite_f ?_)
  | (with_reducible refine wpAny_execs_nil ?_)
  | (with_reducible refine wpAny_execs_cons ?_)
  | (with_reducible refine wpAny_Return_some ?_)
  | (with_reducible refine wpAny_Return_none ?_)
  | (with_reducible refine wpAny_If ?_)
  | ((with_reducible refine wpAny_Expr_any ?_ ?ht ?hu); (case ht => kernel_rfl); (case hu => kernel_rfl))
  | ((with_reducible refine wpAny_Assign_Name ?_ ?ht); (case ht => kernel_rfl))
  | ((with_reducible refine Assign_attr ?_ ?ht); (case ht => kernel_rfl))
  | (with_reducible refine Sta.local_ S' (by walk_at "mem") ?_)
  | ((with_reducible refine Sta.store S' (by walk_at "put") ?_); clear S'; intro s' S')
  | ((with_reducible refine Sta.int_ S' ?_); clear S'; intro t' s' S')
  | ((with_reducible refine Sta.str_ S' ?_); clear S'; intro t' s' S')
  | (with_reducible refine wpAny_Constant_none ?_)
  | (with_reducible refine wpAny_Constant_bool ?_)
  | (with_reducible refine IfExp_ ?_)
  | (with_reducible refine isTrue_not ?_)
  | (with_reducible refine isTrue_and ?_)
  | (with_reducible refine isTrue_and_nil ?_)
  | ((with_reducible refine isTrue_plain ?_ ?ht); (case ht => kernel_rfl))
  | (with_reducible refine wpAny_truthy_bool ?_)
  | (with_reducible refine truthy_none ?_)
  | (with_reducible refine wpAny_BinOp ?_)
  | ((with_reducible refine wpAny_Compare1 ?_ ?ht); (case ht => kernel_rfl))
  | ((with_reducible refine Sta.add S' ?_); clear S'; intro t' s' S')
  | ((with_reducible refine Sta.sub_ S' ?_); clear S'; intro t' s' S')
  | (with_reducible refine PyProof.Rows.eq_int ?_)
  | (with_reducible refine PyProof.Rows.gt_int ?_)
  | (with_reducible refine PyProof.Rows.lt_int ?_)
  | (with_reducible refine evalPart_some_step ?_)
  | (with_reducible refine evalPart_none_step ?_)
  | ((with_reducible refine slice_ ?_ ?ht); (case ht => intro _ _; kernel_rfl))
  | ((with_reducible refine Call_m ?_ ?ht ?hu ?hv); (case ht => kernel_rfl); (case hu => kernel_rfl); (case hv => kernel_rfl))
  | ((with_reducible refine Attribute_ ?_ ?ht); (case ht => kernel_rfl))
  | ((with_reducible refine Call_ ?_ ?ht); (case ht => kernel_rfl))
  | ((with_reducible refine callWith_builtin1 ?_ ?ht ?hu); (case ht => kernel_rfl); (case hu => kernel_rfl))
  | ((with_reducible refine PyProof.Rows.callWith_type1 ?_ ?ht ?hu); (case ht => kernel_rfl); (case hu => kernel_rfl))
  | ((with_reducible refine callWith_m1 ?_ ?ht ?hu); (case ht => kernel_rfl); (case hu => kernel_rfl))
  | (with_reducible refine callWith_bi0 ?_)
  | ((with_reducible refine Sta.getM_list S' (by walk_at "mem") F.slot_list_append F.type_list_append ?_))
  | ((with_reducible refine Sta.getM_list S' (by walk_at "mem") F.slot_list_pop F.type_list_pop ?_))
  | ((with_reducible refine Sta.getM_list S' (by walk_at "mem") F.slot_list_insert F.type_list_insert ?_))
  | ((with_reducible refine args_cons ?_ ?ht); (case ht => kernel_rfl))
  | (with_reducible refine args_nil ?_)
  | (with_reducible refine List_ ?_)
  | (with_reducible refine Tuple_ ?_)
  | ((with_reducible refine Sta.newList S' ?ht ?_); (case ht => first | assumption | (simp [sizeLine_eq]; done)); clear S'; intro a' s' S')
  | ((with_reducible refine Sta.newTuple S' ?ht ?_); (case ht => first | assumption | (simp [sizeLine_eq]; done)); clear S'; intro a' s' S')
  | ((with_reducible refine Sta.dict0 S' ?_); clear S'; intro a' s' S')
  | ((with_reducible refine Sta.append S' (by walk_at "upd") ?ht ?_); (case ht => first | assumption | (simp [sizeLine_eq]; done)); clear S'; intro s' S'))

local macro_rules | `(tactic| walk_at "pull") => `(tactic| first | with_reducible exact Pull.head | ((with_reducible apply Pull.tail); walk_at "pull"))
local macro_rules | `(tactic| walk_at "sel") => `(tactic| first | with_reducible exact Sel.refl _ | ((with_reducible apply Sel.cons (by walk_at "pull")); walk_at "sel") | ((with_reducible apply Sel.drop); walk_at "sel"))
set_option hygiene false in
local macro_rules | `(tactic| walk_at "lw") => `(tactic| first
  | ((with_reducible refine wpAny_isTrue_Compare1 ?_ ?ht); (case ht => kernel_rfl))
  | walk_at "ev"
  | ((with_reducible refine Sta.mod S' ?hb ?_); (case hb => decide); clear S'; intro t' s' S')
  | ((with_reducible refine Sta.fdiv S' ?hb ?hc ?_); (case hb => decide); (case hc => decide); clear S'; intro t' s' S')
  | ((with_reducible refine Sta.cell S' h1 (by walk_at "mem") ?_))
  | ((with_reducible refine Sta.cell S' h2 (by walk_at "mem") ?_))
  | ((with_reducible refine Sta.cell S' h3 (by walk_at "mem") ?_))
  | ((with_reducible refine Sta.storeC S' h1 (by walk_at "upd") ?_); clear S'; intro s' S')
  | ((with_reducible refine Sta.storeC S' h2 (by walk_at "upd") ?_); clear S'; intro s' S')
  | ((with_reducible refine Sta.storeC S' h3 (by walk_at "upd") ?_); clear S'; intro s' S')
  | ((with_reducible refine Sta.builtin S' I.len bo_len ?hk ?_ ?hn ?hd); (case hk => kernel_rfl); (case hn => decide +kernel); (case hd => decide +kernel))
  | ((with_reducible refine Sta.builtin S' I.sum bo_sum ?hk ?_ ?hn ?hd); (case hk => kernel_rfl); (case hn => decide +kernel); (case hd => decide +kernel))
  | ((with_reducible refine Sta.builtin S' I.str bo_str ?hk ?_ ?hn ?hd); (case hk => kernel_rfl); (case hn => decide +kernel); (case hd => decide +kernel))
  | ((with_reducible refine Sta.builtin S' I.range bo_range ?hk ?_ ?hn ?hd); (case hk => kernel_rfl); (case hn => decide +kernel); (case hd => decide +kernel))
  | ((with_reducible refine Sta.builtin S' I.list bo_list ?hk ?_ ?hn ?hd); (case hk => kernel_rfl); (case hn => decide +kernel); (case hd => decide +kernel))
  | ((with_reducible refine Sta.len S' (by walk_at "mem") ?hz ?_); (case hz => first | assumption | (simp [sizeLine_eq]; done) | (simp [sizeLine_eq]; omega)); clear S'; intro t' s' S'))

variable {W : Wd} {G : Gens} {env : Env} {loc loc' : Loc} {nw nw' : Ledger} {s : Shared} {A : Around} {E : Value → Shared → Prop}
theorem brC {a : Ad} {vx vk vy vkk vp : Option Value} {tv : Tok} {lev : Nat} {N M : Nat} {lv : Lv} {cs ds : List Value} {du : Addr} {tl : Tl} {c? : Option Addr} {X : Ledger} (I : Is7 W) (C : CodeHd W.B 137 135) (hC : Cs a) (hA : Aok 12 A) (P : P7 N M lv cs ds tl) (hN : N < 100) (hM : M < 1000) (hlev : lev < lv.length)
    (S' : Sta W G (env7 a.L) (loc7 a vx vk vy vkk vp) (nw7 a lv cs ds du tl c? (some (.int (lev : Int) tv)) X) s) (body : List Stmt) (hb : body = ifBody (ifElse (ifElse stIf))) :
    wpAny (model W.prog W.w) A (execs body (env7 a.L)) (fun f s' => f = .next ∧ Mid7 W G a vx vk vy vkk (some (.int (lev : Int) tv)) (N + 1) (M + 1) X s') (fun _ _ => False) s := by
  have e : ifBody (ifElse (ifElse stIf)) = [(ifBody (ifElse (ifElse stIf))).getD 0 (.Pass default), (ifBody (ifElse (ifElse stIf))).getD 1 (.Pass default)] := by kernel_rfl
  rw [hb, e]
  refine wpAny_execs_cons (wpAny_mono (brC1 I C hC hA P hN hM hlev S' _ rfl) (fun f s1 h => ?_) fun _ _ h => h)
  obtain ⟨rfl, la, c', S1⟩ := h
  have htz : (tl.map fun p => Value.ref p.2.1).length ≤ sizeLine := by have := P.ht; rw [sizeLine_eq]; simp; omega
  have S2 := S1.perm (Pull.perm (p := (a.wt, IsLst (tl.map fun p => Value.ref p.2.1))) (.tail (.tail (.tail (.tail (.tail (.tail (.tail (.tail (.tail .head))))))))))
  refine wpAny_execs_cons (wpAny_mono (brC2 I hC hA P hN hM hlev (by walk_at "mem") (by walk_at "mem") (by walk_at "mem") (by walk_at "mem") (by walk_at "mem") htz S2 _ rfl) (fun f s1 h => ?_) fun _ _ h => h)
  obtain ⟨rfl, lb, S3⟩ := h
  refine wpAny_execs_nil ⟨rfl, vp, lv, cs, ds, du, tl ++ [(la, lb, (lv.drop lev).flatMap (·.2))], some c', S3.sel ?_, ⟨P.hcs, P.hds, P.hne, by have := P.hl; omega, by have := P.hd; omega, by have := P.ht; simp; omega⟩⟩
  have e2 : tlLed (tl ++ [(la, lb, (lv.drop lev).flatMap (·.2))]) ++ X = tlLed tl ++ ((la, IsLst ((lv.drop lev).flatMap (·.2))) :: (lb, IsLst ((lv.drop lev).flatMap (·.2))) :: X) := by simp [tlLed]
  simp only [nw7, List.map_append, List.map_cons, List.map_nil, e2]
  iterate 10 (apply Sel.cons (by walk_at "pull"))
  exact Sel.of_perm (perm_in2 _ _ _ _ _ _)
set_option maxHeartbeats 8000000 in
theorem ifs7 {a : Ad} {vx vkk vp : Option Value} {i y : Int} {tk ty tv : Tok} {lev : Nat} {N M : Nat} {lv : Lv} {cs ds : List Value} {du : Addr} {tl : Tl} {c? : Option Addr} {X : Ledger} (I : Is7 W) (C : CodeHd W.B 137 135) (hC : Cs a) (hA : Aok 12 A) (P : P7 N M lv cs ds tl) (hN : N < 100) (hM : M < 1000) (hlev : lev < lv.length)
    (S' : Sta W G (env7 a.L) (loc7 a vx (some (.int i tk)) (some (.int y ty)) vkk vp) (nw7 a lv cs ds du tl c? (some (.int (lev : Int) tv)) X) s) (st : Stmt) (hb : st = stIf) :
    wpAny (model W.prog W.w) A (exec st (env7 a.L)) (fun f s' => f = .next ∧ Mid7 W G a vx (some (.int i tk)) (some (.int y ty)) vkk (some (.int (lev : Int) tv)) (N + 1) (M + 1) X s') (fun _ _ => False) s := by
  have h1 := hC.h1
  have h2 := hC.h2
  have h3 := hC.h3
  have hlz : (lv.map fun p => Value.ref p.1).length ≤ sizeLine := by have := P.hl; rw [sizeLine_eq]; simp; omega
  simp only [loc7, nw7] at S'
  subst hb
  have hrest : ∀ s', Sta W G (env7 a.L) (loc7 a vx (some (.int i tk)) (some (.int y ty)) vkk vp) (nw7 a lv cs ds du tl c? (some (.int (lev : Int) tv)) X) s' →
      wpAny (model W.prog W.w) A (execs (ifElses (ifElse stIf)) (env7 a.L)) (fun f s' => f = .next ∧ Mid7 W G a vx (some (.int i tk)) (some (.int y ty)) vkk (some (.int (lev : Int) tv)) (N + 1) (M + 1) X s') (fun _ _ => False) s' := by
    intro s' S'
    simp only [loc7, nw7] at S'
    refine wpAny_execs_cons ?_
    refine wpAny_If ?_
    repeat walk_at "lw"
    refine ite_by (fun _ => ?_) (fun _ => ?_)
    · refine wpAny_mono (brC I C hC hA P hN hM hlev S' _ rfl) (fun f s1 h => ?_) fun _ _ h => h
      obtain ⟨rfl, h⟩ := h
      exact wpAny_execs_nil ⟨rfl, h⟩
    · refine wpAny_mono (brD I hC hA P hN hM hlev S' _ rfl) (fun f s1 h => ?_) fun _ _ h => h
      obtain ⟨rfl, h⟩ := h
      exact wpAny_execs_nil ⟨rfl, h⟩
  refine wpAny_If ?_
  repeat walk_at "lw"
  refine ite_by (fun _ => ?_) (fun _ => ?_)
  · exact brA hC P hN hM S' _ rfl
  refine wpAny_execs_cons ?_
  refine wpAny_If ?_
  repeat walk_at "lw"
  have hnx : ∀ s', (wpAny (model W.prog W.w) A (execs (ifElses (ifElse stIf)) (env7 a.L)) (fun f s' => f = .next ∧ Mid7 W G a vx (some (.int i tk)) (some (.int y ty)) vkk (some (.int (lev : Int) tv)) (N + 1) (M + 1) X s') (fun _ _ => False) s') →
      wpAny (model W.prog W.w) A (execs (ifElses (ifElse stIf)) (env7 a.L)) (fun f s' => match f with | .next => wpAny (model W.prog W.w) A (execs [] (env7 a.L)) (fun f s' => f = .next ∧ Mid7 W G a vx (some (.int i tk)) (some (.int y ty)) vkk (some (.int (lev : Int) tv)) (N + 1) (M + 1) X s') (fun _ _ => False) s' | f => f = .next ∧ Mid7 W G a vx (some (.int i tk)) (some (.int y ty)) vkk (some (.int (lev : Int) tv)) (N + 1) (M + 1) X s') (fun _ _ => False) s' := by
    intro s' h
    refine wpAny_mono h (fun f s1 h => ?_) fun _ _ h => h
    obtain ⟨rfl, h⟩ := h
    exact wpAny_execs_nil ⟨rfl, h⟩
  refine ite_by (fun _ => ?_) (fun _ => ?_)
  · repeat walk_at "lw"
    refine ite_by (fun hgt => ?_) (fun _ => ?_)
    · refine isTrue_and_nil (ite_t ?_)
      have hgt' : 1 < lv.length := by
        have := of_decide_eq_true hgt
        rw [List.length_map] at this
        omega
      refine wpAny_mono (brB hC P hN hM hgt' S' _ rfl) (fun f s1 h => ?_) fun _ _ h => h
      obtain ⟨rfl, h⟩ := h
      exact wpAny_execs_nil ⟨rfl, h⟩
    · refine ite_f ?_
      exact hnx _ (hrest _ S')
  · refine ite_f ?_
    exact hnx _ (hrest _ S')
set_option maxHeartbeats 8000000 in
theorem turn7 {a : Ad} {i : Int} {t : Tok} {vk vy vkk vp vl : Option Value} {N M : Nat} {lv : Lv} {cs ds : List Value} {du : Addr} {tl : Tl} {c? : Option Addr} {X : Ledger} (I : Is7 W) (C : CodeHd W.B 137 135) (hC : Cs a) (hA : Aok 12 A) (P : P7 N M lv cs ds tl) (hN : N < 99) (hM : M < 900)
    (S' : Sta W G (env7 a.L) (loc7 a (some (.int i t)) vk vy vkk vp) (nw7 a lv cs ds du tl c? vl X) s) (body : List Stmt) (hb : body = forBody stFor) :
    wpAny (model W.prog W.w) A (execs body (env7 a.L)) (fun f s' => f = .next ∧ ∃ vx vk vy vp vl lv' cs' ds' du' tl' c?', Sta W G (env7 a.L) (loc7 a vx vk vy vkk vp) (nw7 a lv' cs' ds' du' tl' c?' vl X) s' ∧ P7 (N + 1) (M + 2) lv' cs' ds' tl') (fun _ _ => False) s := by
  have h1 := hC.h1
  have h2 := hC.h2
  have h3 := hC.h3
  have hlz : (lv.map fun p => Value.ref p.1).length ≤ sizeLine := by have := P.hl; rw [sizeLine_eq]; simp; omega
  simp only [loc7, nw7] at S'
  subst hb
  refine wpAny_execs_cons ?_
  refine Assign_Tuple_swapped (names := ["kind", "y"]) ?_ (by kernel_rfl) (by kernel_rfl)
  repeat walk_at "lw"
  refine Sta.unpackI S' hA.handled (by walk_at "mem") rfl ?_
  clear S'; intro s' S'
  refine assignInOrder_cons ?_
  refine bindName_ ?_
  repeat walk_at "lw"
  refine assignInOrder_cons ?_
  refine bindName_ ?_
  repeat walk_at "lw"
  refine assignInOrder_nil ?_
  repeat walk_at "lw"
  rw [List.length_map]
  have hne := P.hne
  refine Sta.mod S' (by omega) ?_
  clear S'; intro t2 s' S'
  have hbd := fmod_bd (i.fdiv 5) (lv.length : Int) (by omega)
  obtain ⟨lev, hlev⟩ := Int.eq_ofNat_of_zero_le hbd.1
  rw [hlev] at hbd ⊢
  refine Sta.storeC S' h3 (by walk_at "upd") ?_
  clear S'; intro s' S'
  have S'' := S'.sub (List.sublist_cons_self _ _)
  refine wpAny_execs_cons (wpAny_mono (ifs7 I C hC hA P (by omega) (by omega) (lev := lev) (by omega) S'' _ rfl) (fun f s1 h => ?_) fun _ _ h => h)
  obtain ⟨rfl, vp', lv', cs', ds', du', tl', c?', S3, P3⟩ := h
  refine wpAny_mono (tail7 I hC hA P3 (by omega) (by omega) S3) (fun f s1 h => ?_) fun _ _ h => h
  obtain ⟨rfl, tl'', S4, P4⟩ := h
  exact ⟨rfl, _, _, _, vp', _, lv', cs', ds', du', tl'', c?', S4, P4⟩
end
end Mine
end

section
open PySem PySem.W PyProof.Rows PySem.W.X PySem.SeqAt
set_option maxRecDepth 100000
namespace Mine
theorem nw7_app {a : Ad} {lv : Lv} {cs ds : List Value} {du : Addr} {tl : Tl} {c? : Option Addr} {vl : Option Value} {X Y : Ledger} : nw7 a lv cs ds du tl c? vl X ++ Y = nw7 a lv cs ds du tl c? vl (X ++ Y) := by simp [nw7]
section
local macro_rules | `(tactic| walk_at "subl") => `(tactic| first | with_reducible exact List.Sublist.refl _ | ((with_reducible apply List.Sublist.cons); walk_at "subl"))
local macro_rules | `(tactic| walk_at "mem") => `(tactic| first | assumption | with_reducible exact List.mem_cons_self | ((with_reducible refine List.mem_cons_of_mem _ ?_); walk_at "mem"))
local macro_rules | `(tactic| walk_at "put") => `(tactic| first | with_reducible exact Put.head | ((with_reducible apply Put.tail); walk_at "put"))
local macro_rules | `(tactic| walk_at "upd") => `(tactic| first | with_reducible exact Upd.head | ((with_reducible apply Upd.tail); walk_at "upd"))
set_option hygiene false in
local macro_rules | `(tactic| walk_at "ev") => `(tactic| first
  | (with_reducible refine ite_t ?_)
  | (with_reducible refine ite_nf ?_)
  | (with_reducible refine ite_nt ?_)
  | (with_reducible refine ite_f ?_)
  | (with_reducible refine wpAny_execs_nil ?_)
  | (with_reducible refine wpAny_execs_cons ?_)
  | (with_reducible refine wpAny_Return_some ?_)
  | (with_reducible refine wpAny_Return_none ?_)
  | (with_reducible refine wpAny_If ?_)
  | ((with_reducible refine wpAny_Expr_any ?_ ?ht ?hu); (case ht => kernel_rfl); (case hu => kernel_rfl))
  | ((with_reducible refine wpAny_Assign_Name ?_ ?ht); (case ht => kernel_rfl))
  | ((with_reducible refine Assign_attr ?_ ?ht); (case ht => kernel_rfl))
  | (with_reducible refine Sta.local_ S' (by walk_at "mem") ?_)
  | ((with_reducible refine Sta.store S' (by walk_at "put") ?_); clear S'; intro s' S')
  | ((with_reducible refine Sta.int_ S' ?_); clear S'; intro t' s' S')
  | ((with_reducible refine Sta.str_ S' ?_); clear S'; intro t' s' S')
  | (with_reducible refine wpAny_Constant_none ?_)
  | (with_reducible refine wpAny_Constant_bool ?_)
  | (with_reducible refine IfExp_ ?_)
  | (with_reducible refine isTrue_not ?_)
  | (with_reducible refine isTrue_and ?_)
  | (with_reducible refine isTrue_and_nil ?_)
  | ((with_reducible refine isTrue_plain ?_ ?ht); (case ht => kernel_rfl))
  | (with_reducible refine wpAny_truthy_bool ?_)
  | (with_reducible refine truthy_none ?_)
  | (with_reducible refine wpAny_BinOp ?_)
  | ((with_reducible refine wpAny_Compare1 ?_ ?ht); (case ht => kernel_rfl))
  | ((with_reducible refine Sta.add S' ?_); clear S'; intro t' s' S')
  | ((with_reducible refine Sta.sub_ S' ?_); clear S'; intro t' s' S')
  | (with_reducible refine PyProof.Rows.eq_int ?_)
  | (with_reducible refine PyProof.Rows.gt_int ?_)
  | (with_reducible refine PyProof.Rows.lt_int ?_)
  | (with_reducible refine evalPart_some_step ?_)
  | (with_reducible refine evalPart_none_step ?_)
  | ((with_reducible refine slice_ ?_ ?ht); (case ht => intro _ _; kernel_rfl))
  | ((with_reducible refine Call_m ?_ ?ht ?hu ?hv); (case ht => kernel_rfl); (case hu => kernel_rfl); (case hv => kernel_rfl))
  | ((with_reducible refine Attribute_ ?_ ?ht); (case ht => kernel_rfl))
  | ((with_reducible refine Call_ ?_ ?ht); (case ht => kernel_rfl))
  | ((with_reducible refine callWith_builtin1 ?_ ?ht ?hu); (case ht => kernel_rfl); (case hu => kernel_rfl))
  | ((with_reducible refine PyProof.Rows.callWith_type1 ?_ ?ht ?hu); (case ht => kernel_rfl); (case hu => kernel_rfl))
  | ((with_reducible refine callWith_m1 ?_ ?ht ?hu); (case ht => kernel_rfl); (case hu => kernel_rfl))
  | (with_reducible refine callWith_bi0 ?_)
  | ((with_reducible refine Sta.getM_list S' (by walk_at "mem") F.slot_list_append F.type_list_append ?_))
  | ((with_reducible refine Sta.getM_list S' (by walk_at "mem") F.slot_list_pop F.type_list_pop ?_))
  | ((with_reducible refine Sta.getM_list S' (by walk_at "mem") F.slot_list_insert F.type_list_insert ?_))
  | ((with_reducible refine args_cons ?_ ?ht); (case ht => kernel_rfl))
  | (with_reducible refine args_nil ?_)
  | (with_reducible refine List_ ?_)
  | (with_reducible refine Tuple_ ?_)
  | ((with_reducible refine Sta.newList S' ?ht ?_); (case ht => first | assumption | (simp [sizeLine_eq]; done)); clear S'; intro a' s' S')
  | ((with_reducible refine Sta.newTuple S' ?ht ?_); (case ht => first | assumption | (simp [sizeLine_eq]; done)); clear S'; intro a' s' S')
  | ((with_reducible refine Sta.dict0 S' ?_); clear S'; intro a' s' S')
  | ((with_reducible refine Sta.append S' (by walk_at "upd") ?ht ?_); (case ht => first | assumption | (simp [sizeLine_eq]; done)); clear S'; intro s' S'))

local macro_rules | `(tactic| walk_at "pull") => `(tactic| first | with_reducible exact Pull.head | ((with_reducible apply Pull.tail); walk_at "pull"))
local macro_rules | `(tactic| walk_at "sel") => `(tactic| first | with_reducible exact Sel.refl _ | ((with_reducible apply Sel.cons (by walk_at "pull")); walk_at "sel") | ((with_reducible apply Sel.drop); walk_at "sel"))
set_option hygiene false in
local macro_rules | `(tactic| walk_at "lw") => `(tactic| first
  | ((with_reducible refine wpAny_isTrue_Compare1 ?_ ?ht); (case ht => kernel_rfl))
  | walk_at "ev"
  | ((with_reducible refine Sta.mod S' ?hb ?_); (case hb => decide); clear S'; intro t' s' S')
  | ((with_reducible refine Sta.fdiv S' ?hb ?hc ?_); (case hb => decide); (case hc => decide); clear S'; intro t' s' S')
  | ((with_reducible refine Sta.cell S' h1 (by walk_at "mem") ?_))
  | ((with_reducible refine Sta.cell S' h2 (by walk_at "mem") ?_))
  | ((with_reducible refine Sta.cell S' h3 (by walk_at "mem") ?_))
  | ((with_reducible refine Sta.storeC S' h1 (by walk_at "upd") ?_); clear S'; intro s' S')
  | ((with_reducible refine Sta.storeC S' h2 (by walk_at "upd") ?_); clear S'; intro s' S')
  | ((with_reducible refine Sta.storeC S' h3 (by walk_at "upd") ?_); clear S'; intro s' S')
  | ((with_reducible refine Sta.builtin S' I.len bo_len ?hk ?_ ?hn ?hd); (case hk => kernel_rfl); (case hn => decide +kernel); (case hd => decide +kernel))
  | ((with_reducible refine Sta.builtin S' I.sum bo_sum ?hk ?_ ?hn ?hd); (case hk => kernel_rfl); (case hn => decide +kernel); (case hd => decide +kernel))
  | ((with_reducible refine Sta.builtin S' I.str bo_str ?hk ?_ ?hn ?hd); (case hk => kernel_rfl); (case hn => decide +kernel); (case hd => decide +kernel))
  | ((with_reducible refine Sta.builtin S' I.range bo_range ?hk ?_ ?hn ?hd); (case hk => kernel_rfl); (case hn => decide +kernel); (case hd => decide +kernel))
  | ((with_reducible refine Sta.builtin S' I.list bo_list ?hk ?_ ?hn ?hd); (case hk => kernel_rfl); (case hn => decide +kernel); (case hd => decide +kernel))
  | ((with_reducible refine Sta.len S' (by walk_at "mem") ?hz ?_); (case hz => first | assumption | (simp [sizeLine_eq]; done) | (simp [sizeLine_eq]; omega)); clear S'; intro t' s' S'))

variable {W : Wd} {G : Gens} {env : Env} {loc loc' : Loc} {nw nw' : Ledger} {s : Shared} {A : Around} {E : Value → Shared → Prop}

set_option maxHeartbeats 8000000 in
theorem loop7 {a : Ad} {vx vk vy vkk vp vl : Option Value} {lv : Lv} {cs ds vs : List Value} {ns : List Int} {du : Addr} {tl : Tl} {c? : Option Addr} (I : Is7 W) (C : CodeHd W.B 137 135) (hC : Cs a) (hA : Aok 12 A) (P : P7 0 0 lv cs ds tl) (hB : W.B.IsList a.scr vs.toArray) (hi : IntsAre vs ns) (hn : ns.length ≤ 63)
    {X : Ledger} (S' : Sta W [] (env7 a.L) (loc7 a vx vk vy vkk vp) (nw7 a lv cs ds du tl c? vl X) s) (st : Stmt) (hb : st = stFor) :
    wpAny (model W.prog W.w) A (exec st (env7 a.L)) (fun f s' => f = .next ∧ ∃ vx vk vy vp vl lv' cs' ds' du' tl' c?', Sta W [] (env7 a.L) (loc7 a vx vk vy vkk vp) (nw7 a lv' cs' ds' du' tl' c?' vl X) s' ∧ P7 63 126 lv' cs' ds' tl') (fun _ _ => False) s := by
  simp only [loc7] at S'
  subst hb
  refine wpAny_For ?_ (by intro _; kernel_rfl)
  repeat walk_at "ev"
  refine Sta.iterBase S' hB ?_
  clear S'; intro it s' S'
  refine for_y (sh := []) (P := fun (i : Int) v => ∃ t, v = .int i t) (og := []) (own := [(it, IsLI a.scr 0)]) (nw := nw7 a lv cs ds du tl c? vl X) (hA.le (by omega))
    (fun rest loc nw G' => G' = [] ∧ ∃ vx vk vy vp vl lv' cs' ds' du' tl' c?' N, N + rest.length ≤ 63 ∧ loc = loc7 a vx vk vy vkk vp ∧ nw = nw7 a lv' cs' ds' du' tl' c?' vl X ∧ P7 N (2 * N) lv' cs' ds' tl') ?_ ?_ (loc := loc7 a vx vk vy vkk vp) (G := []) ?_ (yields_ints hi (LY.yields (ly_base hB vs 0 rfl))) ⟨rfl, vx, vk, vy, vp, vl, lv, cs, ds, du, tl, c?, 0, by omega, rfl, rfl, P⟩
  · intro x v rest tl' tg loc nw G' s₂ hv S hJ
    obtain ⟨rfl, vx', vk', vy', vp', vl', lv', cs', ds', du', tl', c?', N, hN, rfl, rfl, P'⟩ := hJ
    obtain ⟨t₂, rfl⟩ := hv
    refine wpAny_assign_Name (S.store (.tail (.tail (.tail (.tail (.tail .head))))) fun s' S' => ?_)
    rw [nw7_app] at S'
    refine wpAny_mono (turn7 I C hC hA P' (by simp at hN; omega) (by simp at hN; omega) S' _ rfl) (fun f s1 h => ?_) fun _ _ h => h
    obtain ⟨rfl, vx3, vk3, vy3, vp3, vl3, lv3, cs3, ds3, du3, tl3, c3, S3, P3⟩ := h
    refine ⟨_, nw7 a lv3 cs3 ds3 du3 tl3 c3 vl3 X, [], by rw [nw7_app]; exact S3, rfl, vx3, vk3, vy3, vp3, vl3, lv3, cs3, ds3, du3, tl3, c3, N + 1, ?_, rfl, rfl, P3⟩
    simp at hN; omega
  · intro loc nw G' s₂ S hJ
    obtain ⟨rfl, vx', vk', vy', vp', vl', lv', cs', ds', du', tl', c?', N, hN, rfl, rfl, P'⟩ := hJ
    rw [List.append_nil] at S
    refine ⟨rfl, vx', vk', vy', vp', vl', lv', cs', ds', du', tl', c?', S, ⟨P'.hcs, P'.hds, P'.hne, ?_, ?_, ?_⟩⟩
    · have := P'.hl; simp at hN; omega
    · have := P'.hd; simp at hN; omega
    · have := P'.ht; simp at hN; omega
  · exact S'.perm (perm_last _ _)
end
end Mine
end

section
open PySem PySem.W PyProof.Rows PySem.W.X PySem.SeqAt
set_option maxRecDepth 100000
namespace Mine
section
local macro_rules | `(tactic| walk_at "subl") => `(tactic| first | with_reducible exact List.Sublist.refl _ | ((with_reducible apply List.Sublist.cons); walk_at "subl"))
local macro_rules | `(tactic| walk_at "mem") => `(tactic| first | assumption | with_reducible exact List.mem_cons_self | ((with_reducible refine List.mem_cons_of_mem _ ?_); walk_at "mem"))
local macro_rules | `(tactic| walk_at "put") => `(tactic| first | with_reducible exact Put.head | ((with_reducible apply Put.tail); walk_at "put"))
local macro_rules | `(tactic| walk_at "upd") => `(tactic| first | with_reducible exact Upd.head | ((with_reducible apply Upd.tail); walk_at "upd"))
set_option hygiene false in
local macro_rules | `(tactic| walk_at "ev") => `(tactic| first
  | (with_reducible refine ite_t ?_)
  | (with_reducible refine ite_nf ?_)
  | (with_reducible refine ite_nt ?_)
  | (with_reducible refine ite_f ?_)
  | (with_reducible refine wpAny_execs_nil ?_)
  | (with_reducible refine wpAny_execs_cons ?_)
  | (with_reducible refine wpAny_Return_some ?_)
  | (with_reducible refine wpAny_Return_none ?_)
  | (with_reducible refine wpAny_If ?_)
  | ((with_reducible refine wpAny_Expr_any ?_ ?ht ?hu); (case ht => kernel_rfl); (case hu => kernel_rfl))
  | ((with_reducible refine wpAny_Assign_Name ?_ ?ht); (case ht => kernel_rfl))
  | ((with_reducible refine Assign_attr ?_ ?ht); (case ht => kernel_rfl))
  | (with_reducible refine Sta.local_ S' (by walk_at "mem") ?_)
  | ((with_reducible refine Sta.store S' (by walk_at "put") ?_); clear S'; intro s' S')
  | ((with_reducible refine Sta.int_ S' ?_); clear S'; intro t' s' S')
  | ((with_reducible refine Sta.str_ S' ?_); clear S'; intro t' s' S')
  | (with_reducible refine wpAny_Constant_none ?_)
  | (with_reducible refine wpAny_Constant_bool ?_)
  | (with_reducible refine IfExp_ ?_)
  | (with_reducible refine isTrue_not ?_)
  | (with_reducible refine isTrue_and ?_)
  | (with_reducible refine isTrue_and_nil ?_)
  | ((with_reducible refine isTrue_plain ?_ ?ht); (case ht => kernel_rfl))
  | (with_reducible refine wpAny_truthy_bool ?_)
  | (with_reducible refine truthy_none ?_)
  | (with_reducible refine wpAny_BinOp ?_)
  | ((with_reducible refine wpAny_Compare1 ?_ ?ht); (case ht => kernel_rfl))
  | ((with_reducible refine Sta.add S' ?_); clear S'; intro t' s' S')
  | ((with_reducible refine Sta.sub_ S' ?_); clear S'; intro t' s' S')
  | (with_reducible refine PyProof.Rows.eq_int ?_)
  | (with_reducible refine PyProof.Rows.gt_int ?_)
  | (with_reducible refine PyProof.Rows.lt_int ?_)
  | (with_reducible refine evalPart_some_step ?_)
  | (with_reducible refine evalPart_none_step ?_)
  | ((with_reducible refine slice_ ?_ ?ht); (case ht => intro _ _; kernel_rfl))
  | ((with_reducible refine Call_m ?_ ?ht ?hu ?hv); (case ht => kernel_rfl); (case hu => kernel_rfl); (case hv => kernel_rfl))
  | ((with_reducible refine Attribute_ ?_ ?ht); (case ht => kernel_rfl))
  | ((with_reducible refine Call_ ?_ ?ht); (case ht => kernel_rfl))
  | ((with_reducible refine callWith_builtin1 ?_ ?ht ?hu); (case ht => kernel_rfl); (case hu => kernel_rfl))
  | ((with_reducible refine PyProof.Rows.callWith_type1 ?_ ?ht ?hu); (case ht => kernel_rfl); (case hu => kernel_rfl))
  | ((with_reducible refine callWith_m1 ?_ ?ht ?hu); (case ht => kernel_rfl); (case hu => kernel_rfl))
  | (with_reducible refine callWith_bi0 ?_)
  | ((with_reducible refine Sta.getM_list S' (by walk_at "mem") F.slot_list_append F.type_list_append ?_))
  | ((with_reducible refine Sta.getM_list S' (by walk_at "mem") F.slot_list_pop F.type_list_pop ?_))
  | ((with_reducible refine Sta.getM_list S' (by walk_at "mem") F.slot_list_insert F.type_list_insert ?_))
  | ((with_reducible refine args_cons ?_ ?ht); (case ht => kernel_rfl))
  | (with_reducible refine args_nil ?_)
  | (with_reducible refine List_ ?_)
  | (with_reducible refine Tuple_ ?_)
  | ((with_reducible refine Sta.newList S' ?ht ?_); (case ht => first | assumption | (simp [sizeLine_eq]; done)); clear S'; intro a' s' S')
  | ((with_reducible refine Sta.newTuple S' ?ht ?_); (case ht => first | assumption | (simp [sizeLine_eq]; done)); clear S'; intro a' s' S')
  | ((with_reducible refine Sta.dict0 S' ?_); clear S'; intro a' s' S')
  | ((with_reducible refine Sta.append S' (by walk_at "upd") ?ht ?_); (case ht => first | assumption | (simp [sizeLine_eq]; done)); clear S'; intro s' S'))

local macro_rules | `(tactic| walk_at "pull") => `(tactic| first | with_reducible exact Pull.head | ((with_reducible apply Pull.tail); walk_at "pull"))
local macro_rules | `(tactic| walk_at "sel") => `(tactic| first | with_reducible exact Sel.refl _ | ((with_reducible apply Sel.cons (by walk_at "pull")); walk_at "sel") | ((with_reducible apply Sel.drop); walk_at "sel"))
set_option hygiene false in
local macro_rules | `(tactic| walk_at "lw") => `(tactic| first
  | ((with_reducible refine wpAny_isTrue_Compare1 ?_ ?ht); (case ht => kernel_rfl))
  | walk_at "ev"
  | ((with_reducible refine Sta.mod S' ?hb ?_); (case hb => decide); clear S'; intro t' s' S')
  | ((with_reducible refine Sta.fdiv S' ?hb ?hc ?_); (case hb => decide); (case hc => decide); clear S'; intro t' s' S')
  | ((with_reducible refine Sta.cell S' h1 (by walk_at "mem") ?_))
  | ((with_reducible refine Sta.cell S' h2 (by walk_at "mem") ?_))
  | ((with_reducible refine Sta.cell S' h3 (by walk_at "mem") ?_))
  | ((with_reducible refine Sta.storeC S' h1 (by walk_at "upd") ?_); clear S'; intro s' S')
  | ((with_reducible refine Sta.storeC S' h2 (by walk_at "upd") ?_); clear S'; intro s' S')
  | ((with_reducible refine Sta.storeC S' h3 (by walk_at "upd") ?_); clear S'; intro s' S')
  | ((with_reducible refine Sta.builtin S' I.len bo_len ?hk ?_ ?hn ?hd); (case hk => kernel_rfl); (case hn => decide +kernel); (case hd => decide +kernel))
  | ((with_reducible refine Sta.builtin S' I.sum bo_sum ?hk ?_ ?hn ?hd); (case hk => kernel_rfl); (case hn => decide +kernel); (case hd => decide +kernel))
  | ((with_reducible refine Sta.builtin S' I.str bo_str ?hk ?_ ?hn ?hd); (case hk => kernel_rfl); (case hn => decide +kernel); (case hd => decide +kernel))
  | ((with_reducible refine Sta.builtin S' I.range bo_range ?hk ?_ ?hn ?hd); (case hk => kernel_rfl); (case hn => decide +kernel); (case hd => decide +kernel))
  | ((with_reducible refine Sta.builtin S' I.list bo_list ?hk ?_ ?hn ?hd); (case hk => kernel_rfl); (case hn => decide +kernel); (case hd => decide +kernel))
  | ((with_reducible refine Sta.len S' (by walk_at "mem") ?hz ?_); (case hz => first | assumption | (simp [sizeLine_eq]; done) | (simp [sizeLine_eq]; omega)); clear S'; intro t' s' S'))

variable {W : Wd} {G : Gens} {env : Env} {loc loc' : Loc} {nw nw' : Ledger} {s : Shared} {A : Around} {E : Value → Shared → Prop}
set_option maxHeartbeats 8000000 in
theorem turn2 {a : Ad} {vx vk vy vp vl : Option Value} {k : Nat} {t : Tok} {N M : Nat} {lv : Lv} {cs ds : List Value} {du : Addr} {tl : Tl} {c? : Option Addr} {X : Ledger} (I : Is7 W) (hC : Cs a) (hA : Aok 12 A) (P : P7 N M lv cs ds tl) (hN : N < 100) (hM : M < 900)
    (S' : Sta W G (env7 a.L) (loc7 a vx vk vy (some (.int (k : Int) t)) vp) (nw7 a lv cs ds du tl c? vl X) s) (body : List Stmt) (hb : body = forBody stFor2) :
    wpAny (model W.prog W.w) A (execs body (env7 a.L)) (fun f s' => f = .next ∧ ∃ tl', Sta W G (env7 a.L) (loc7 a vx vk vy (some (.int (k : Int) t)) vp) (nw7 a lv cs ds du tl' c? vl X) s' ∧ P7 N (M + 1) lv cs ds tl') (fun _ _ => False) s := by
  have h1 := hC.h1
  have h2 := hC.h2
  have h3 := hC.h3
  have hcl := I.cl
  have hlz : (lv.map fun p => Value.ref p.1).length ≤ sizeLine := by have := P.hl; rw [sizeLine_eq]; simp; omega
  have htz : (tl.map fun p => Value.ref p.1).length ≤ sizeLine := by have := P.ht; rw [sizeLine_eq]; simp; omega
  have htz2 : (tl.map fun p => Value.ref p.2.1).length ≤ sizeLine := by have := P.ht; rw [sizeLine_eq]; simp; omega
  have hcz : cs.length ≤ sizeLine := by have := P.hl; rw [P.cslen, sizeLine_eq]; omega
  have hdz : ds.length ≤ sizeLine := by have := P.hd; rw [P.hds, sizeLine_eq]; omega
  have hfz : (flat (lv.take k)).length ≤ sizeLine := by
    have h5 := congrArg List.length (flat_split lv k)
    rw [List.length_append] at h5
    have := P.hd
    rw [sizeLine_eq]; omega
  simp only [loc7, nw7] at S'
  subst hb
  refine wpAny_execs_cons ?_
  repeat walk_at "lw"
  refine Sta.getM_inst (f := 45) S' hcl (by walk_at "mem") (by walk_at "mem") hC.hv (by decide +kernel) (by rw [I.k]; kernel_rfl) (by rw [I.k]; kernel_rfl) ?_
  refine callW_m (by rw [I.k]; kernel_rfl) ?_ (by kernel_rfl) (by kernel_rfl)
  repeat walk_at "lw"
  refine ⟨_, _, _, _, _, _, _, S', rfl, by walk_at "mem", hlz, .none, .int _ _, ?_⟩
  clear S'; intro l s' S'
  rw [slice_upto, ← List.map_take] at S'
  repeat walk_at "lw"
  refine ⟨S'.kin, ?_⟩
  refine gen7 I S' (hA.le (by omega)) (by walk_at "mem") (lv := lv.take k) ?_ ?_
  · intro p hp
    have hp' := List.mem_of_mem_take hp
    have hf : p.2.length ≤ sizeLine := by
      have e := lens_sum lv
      have h3 : p.2.length ≤ (lens lv).sum := List.single_le_sum_nat (List.mem_map.mpr ⟨p, hp', rfl⟩)
      have := P.hd
      rw [sizeLine_eq]; omega
    refine ⟨?_, hf⟩
    have hm := lvLed_mem hp'
    simp [hm]
  clear S'; intro ga g own gs s' S' hy
  repeat walk_at "lw"
  refine Sta.listGen (nw := []) (G := G) (hA.le (by omega)) g (by simp) hy hfz S' ?_
  clear S' hy; intro la s' S'
  rw [List.nil_append] at S'
  repeat walk_at "lw"
  refine ⟨_, _, _, _, _, _, _, S', rfl, by walk_at "mem", hcz, .int _ _, .none, ?_⟩
  clear S'; intro a2 s' S'
  repeat walk_at "lw"
  refine Sta.sum S' hA.handled (by walk_at "mem") (ints_drop P.hcs k) ?_
  clear S'; intro t2 s' S'
  rw [sum_ofNat]
  repeat walk_at "lw"
  refine ⟨_, _, _, _, _, _, _, S', rfl, by walk_at "mem", hdz, .int _ _, .none, ?_⟩
  clear S'; intro lb s' S'
  rw [slice_from, P.hds, drop_lv] at S'
  repeat walk_at "lw"
  have e1 : (lv.take k).reverse.flatMap (fun p => p.2) = flat (lv.take k) := rfl
  have e2 : tlLed (tl ++ [(la, lb, flat (lv.take k))]) ++ X = tlLed tl ++ ((la, IsLst (flat (lv.take k))) :: (lb, IsLst (flat (lv.take k))) :: X) := by simp [tlLed]
  rw [e1] at S'
  refine ⟨rfl, tl ++ [(la, lb, flat (lv.take k))], S'.sel ?_, { P with ht := by have := P.ht; simp; omega }⟩
  simp only [nw7, List.map_append, List.map_cons, List.map_nil, e2, P.hds]
  iterate 10 (apply Sel.cons (by walk_at "pull"))
  exact Sel.trans (Sel.cons .head (Sel.drop (Sel.cons .head (Sel.drop (Sel.refl _))))) (Sel.of_perm (perm_in2 _ _ _ _ _ _))
set_option maxHeartbeats 8000000 in
theorem loop2 {a : Ad} {vx vk vy vkk vp vl : Option Value} {N M : Nat} {lv : Lv} {cs ds : List Value} {du : Addr} {tl : Tl} {c? : Option Addr} (I : Is7 W) (hC : Cs a) (hA : Aok 12 A) (P : P7 N M lv cs ds tl) (hN : N < 100) (hM : M < 700)
    {X : Ledger} (S' : Sta W [] (env7 a.L) (loc7 a vx vk vy vkk vp) (nw7 a lv cs ds du tl c? vl X) s) (st : Stmt) (hb : st = stFor2) :
    wpAny (model W.prog W.w) A (exec st (env7 a.L)) (fun f s' => f = .next ∧ ∃ vkk tl', Sta W [] (env7 a.L) (loc7 a vx vk vy vkk vp) (nw7 a lv cs ds du tl' c? vl X) s' ∧ P7 N (M + 102) lv cs ds tl') (fun _ _ => False) s := by
  have h1 := hC.h1
  have h2 := hC.h2
  have h3 := hC.h3
  have hcz : cs.length ≤ sizeLine := by have := P.hl; rw [P.cslen, sizeLine_eq]; omega
  have hcl := P.cslen
  have hl := P.hl
  simp only [loc7, nw7] at S'
  subst hb
  refine wpAny_For ?_ (by intro _; kernel_rfl)
  repeat walk_at "lw"
  refine Sta.range1 S' ?_
  clear S'; intro r s' S'
  have e0 : IsRng 0 ((cs.length : Int) + 1) = IsRng ((0 : Nat) : Int) ((cs.length + 1 : Nat) : Int) := by simp
  rw [e0] at S'
  refine Sta.iterRange (a := 0) (b := cs.length + 1) S' (by walk_at "mem") (by omega) (by omega) ?_
  clear S'; intro it s' S'
  refine for_y (sh := []) (P := fun (i : Nat) v => ∃ t, v = .int (i : Int) t) (og := []) (own := [(it, IsRngIt ((0 : Nat) : Int) ((cs.length + 1 - 0 : Nat) : Int))]) (nw := nw7 a lv cs ds du tl c? vl X) (hA.le (by omega))
    (fun rest loc nw G' => G' = [] ∧ ∃ vkk tl' M', M' + rest.length ≤ M + 101 ∧ loc = loc7 a vx vk vy vkk vp ∧ nw = nw7 a lv cs ds du tl' c? vl X ∧ P7 N M' lv cs ds tl') ?_ ?_ (loc := loc7 a vx vk vy vkk vp) (G := []) ?_ (yields_range _ _) ⟨rfl, vkk, tl, M, by simp; omega, rfl, rfl, P⟩
  · intro x v rest tl' tg loc nw G' s₂ hv S hJ
    obtain ⟨rfl, vkk', tl', M', hM', rfl, rfl, P'⟩ := hJ
    obtain ⟨t₂, rfl⟩ := hv
    simp only [List.length_cons] at hM'
    refine wpAny_assign_Name (S.store (.tail (.tail (.tail (.tail (.tail (.tail (.tail (.tail .head)))))))) fun s' S' => ?_)
    rw [nw7_app] at S'
    refine wpAny_mono (turn2 I hC hA P' hN (by omega) S' _ rfl) (fun f s1 h => ?_) fun _ _ h => h
    obtain ⟨rfl, tl3, S3, P3⟩ := h
    exact ⟨_, nw7 a lv cs ds du tl3 c? vl X, [], by rw [nw7_app]; exact S3, rfl, _, tl3, M' + 1, by omega, rfl, rfl, P3⟩
  · intro loc nw G' s₂ S hJ
    obtain ⟨rfl, vkk', tl', M', hM', rfl, rfl, P'⟩ := hJ
    rw [List.append_nil] at S
    exact ⟨rfl, vkk', tl', S, { P' with ht := by have := P'.ht; simp at hM'; omega }⟩
  · exact S'.sel (Sel.trans (Sel.cons .head (Sel.drop (Sel.refl _))) (Sel.of_perm (perm_last _ _)))
end
end Mine
end

section
open PySem PySem.W PyProof.Rows PySem.W.X PySem.SeqAt
set_option maxRecDepth 100000
namespace Mine
section
local macro_rules | `(tactic| walk_at "subl") => `(tactic| first | with_reducible exact List.Sublist.refl _ | ((with_reducible apply List.Sublist.cons); walk_at "subl"))
local macro_rules | `(tactic| walk_at "mem") => `(tactic| first | assumption | with_reducible exact List.mem_cons_self | ((with_reducible refine List.mem_cons_of_mem _ ?_); walk_at "mem"))
local macro_rules | `(tactic| walk_at "put") => `(tactic| first | with_reducible exact Put.head | ((with_reducible apply Put.tail); walk_at "put"))
local macro_rules | `(tactic| walk_at "upd") => `(tactic| first | with_reducible exact Upd.head | ((with_reducible apply Upd.tail); walk_at "upd"))
set_option hygiene false in
local macro_rules | `(tactic| walk_at "ev") => `(tactic| first
  | (with_reducible refine ite_t ?_)
  | (with_reducible refine ite_nf ?_)
  | (with_reducible refine ite_nt ?_)
  | (with_reducible refine ite_f ?_)
  | (with_reducible refine wpAny_execs_nil ?_)
  | (with_reducible refine wpAny_execs_cons ?_)
  | (with_reducible refine wpAny_Return_some ?_)
  | (with_reducible refine wpAny_Return_none ?_)
  | (with_reducible refine wpAny_If ?_)
  | ((with_reducible refine wpAny_Expr_any ?_ ?ht ?hu); (case ht => kernel_rfl); (case hu => kernel_rfl))
  | ((with_reducible refine wpAny_Assign_Name ?_ ?ht); (case ht => kernel_rfl))
  | ((with_reducible refine Assign_attr ?_ ?ht); (case ht => kernel_rfl))
  | (with_reducible refine Sta.local_ S' (by walk_at "mem") ?_)
  | ((with_reducible refine Sta.store S' (by walk_at "put") ?_); clear S'; intro s' S')
  | ((with_reducible refine Sta.int_ S' ?_); clear S'; intro t' s' S')
  | ((with_reducible refine Sta.str_ S' ?_); clear S'; intro t' s' S')
  | (with_reducible refine wpAny_Constant_none ?_)
  | (with_reducible refine wpAny_Constant_bool ?_)
  | (with_reducible refine IfExp_ ?_)
  | (with_reducible refine isTrue_not ?_)
  | (with_reducible refine isTrue_and ?_)
  | (with_reducible refine isTrue_and_nil ?_)
  | ((with_reducible refine isTrue_plain ?_ ?ht); (case ht => kernel_rfl))
  | (with_reducible refine wpAny_truthy_bool ?_)
  | (with_reducible refine truthy_none ?_)
  | (with_reducible refine wpAny_BinOp ?_)
  | ((with_reducible refine wpAny_Compare1 ?_ ?ht); (case ht => kernel_rfl))
  | ((with_reducible refine Sta.add S' ?_); clear S'; intro t' s' S')
  | ((with_reducible refine Sta.sub_ S' ?_); clear S'; intro t' s' S')
  | (with_reducible refine PyProof.Rows.eq_int ?_)
  | (with_reducible refine PyProof.Rows.gt_int ?_)
  | (with_reducible refine PyProof.Rows.lt_int ?_)
  | (with_reducible refine evalPart_some_step ?_)
  | (with_reducible refine evalPart_none_step ?_)
  | ((with_reducible refine slice_ ?_ ?ht); (case ht => intro _ _; kernel_rfl))
  | ((with_reducible refine Call_m ?_ ?ht ?hu ?hv); (case ht => kernel_rfl); (case hu => kernel_rfl); (case hv => kernel_rfl))
  | ((with_reducible refine Attribute_ ?_ ?ht); (case ht => kernel_rfl))
  | ((with_reducible refine Call_ ?_ ?ht); (case ht => kernel_rfl))
  | ((with_reducible refine callWith_builtin1 ?_ ?ht ?hu); (case ht => kernel_rfl); (case hu => kernel_rfl))
  | ((with_reducible refine PyProof.Rows.callWith_type1 ?_ ?ht ?hu); (case ht => kernel_rfl); (case hu => kernel_rfl))
  | ((with_reducible refine callWith_m1 ?_ ?ht ?hu); (case ht => kernel_rfl); (case hu => kernel_rfl))
  | (with_reducible refine callWith_bi0 ?_)
  | ((with_reducible refine Sta.getM_list S' (by walk_at "mem") F.slot_list_append F.type_list_append ?_))
  | ((with_reducible refine Sta.getM_list S' (by walk_at "mem") F.slot_list_pop F.type_list_pop ?_))
  | ((with_reducible refine Sta.getM_list S' (by walk_at "mem") F.slot_list_insert F.type_list_insert ?_))
  | ((with_reducible refine args_cons ?_ ?ht); (case ht => kernel_rfl))
  | (with_reducible refine args_nil ?_)
  | (with_reducible refine List_ ?_)
  | (with_reducible refine Tuple_ ?_)
  | ((with_reducible refine Sta.newList S' ?ht ?_); (case ht => first | assumption | (simp [sizeLine_eq]; done)); clear S'; intro a' s' S')
  | ((with_reducible refine Sta.newTuple S' ?ht ?_); (case ht => first | assumption | (simp [sizeLine_eq]; done)); clear S'; intro a' s' S')
  | ((with_reducible refine Sta.dict0 S' ?_); clear S'; intro a' s' S')
  | ((with_reducible refine Sta.append S' (by walk_at "upd") ?ht ?_); (case ht => first | assumption | (simp [sizeLine_eq]; done)); clear S'; intro s' S'))

local macro_rules | `(tactic| walk_at "pull") => `(tactic| first | with_reducible exact Pull.head | ((with_reducible apply Pull.tail); walk_at "pull"))
local macro_rules | `(tactic| walk_at "sel") => `(tactic| first | with_reducible exact Sel.refl _ | ((with_reducible apply Sel.cons (by walk_at "pull")); walk_at "sel") | ((with_reducible apply Sel.drop); walk_at "sel"))
set_option hygiene false in
local macro_rules | `(tactic| walk_at "lw") => `(tactic| first
  | ((with_reducible refine wpAny_isTrue_Compare1 ?_ ?ht); (case ht => kernel_rfl))
  | walk_at "ev"
  | ((with_reducible refine Sta.mod S' ?hb ?_); (case hb => decide); clear S'; intro t' s' S')
  | ((with_reducible refine Sta.fdiv S' ?hb ?hc ?_); (case hb => decide); (case hc => decide); clear S'; intro t' s' S')
  | ((with_reducible refine Sta.cell S' h1 (by walk_at "mem") ?_))
  | ((with_reducible refine Sta.cell S' h2 (by walk_at "mem") ?_))
  | ((with_reducible refine Sta.cell S' h3 (by walk_at "mem") ?_))
  | ((with_reducible refine Sta.storeC S' h1 (by walk_at "upd") ?_); clear S'; intro s' S')
  | ((with_reducible refine Sta.storeC S' h2 (by walk_at "upd") ?_); clear S'; intro s' S')
  | ((with_reducible refine Sta.storeC S' h3 (by walk_at "upd") ?_); clear S'; intro s' S')
  | ((with_reducible refine Sta.builtin S' I.len bo_len ?hk ?_ ?hn ?hd); (case hk => kernel_rfl); (case hn => decide +kernel); (case hd => decide +kernel))
  | ((with_reducible refine Sta.builtin S' I.sum bo_sum ?hk ?_ ?hn ?hd); (case hk => kernel_rfl); (case hn => decide +kernel); (case hd => decide +kernel))
  | ((with_reducible refine Sta.builtin S' I.str bo_str ?hk ?_ ?hn ?hd); (case hk => kernel_rfl); (case hn => decide +kernel); (case hd => decide +kernel))
  | ((with_reducible refine Sta.builtin S' I.range bo_range ?hk ?_ ?hn ?hd); (case hk => kernel_rfl); (case hn => decide +kernel); (case hd => decide +kernel))
  | ((with_reducible refine Sta.builtin S' I.list bo_list ?hk ?_ ?hn ?hd); (case hk => kernel_rfl); (case hn => decide +kernel); (case hd => decide +kernel))
  | ((with_reducible refine Sta.len S' (by walk_at "mem") ?hz ?_); (case hz => first | assumption | (simp [sizeLine_eq]; done) | (simp [sizeLine_eq]; omega)); clear S'; intro t' s' S'))

variable {W : Wd} {G : Gens} {env : Env} {loc loc' : Loc} {nw nw' : Ledger} {s : Shared} {A : Around} {E : Value → Shared → Prop}
theorem perm_out {α : Type} (p q : α) (L T : List α) : List.Perm (q :: (L ++ p :: T)) (p :: q :: (L ++ T)) := (List.Perm.cons q List.perm_middle).trans (List.Perm.swap ..)
theorem tlLed_mem {tl : Tl} {p : Addr × Addr × List Value} (h : p ∈ tl) : (p.1, IsLst p.2.2) ∈ tlLed tl ∧ (p.2.1, IsLst p.2.2) ∈ tlLed tl := by
  unfold tlLed
  exact ⟨List.mem_flatMap.mpr ⟨p, h, .head _⟩, List.mem_flatMap.mpr ⟨p, h, .tail _ (.head _)⟩⟩
set_option maxHeartbeats 8000000 in
theorem slices7 {a : Ad} {N M : Nat} {lv : Lv} {cs ds : List Value} {du acc it : Addr} {tl : Tl} {Fq : Ledger} {cenv : Env} {pk q1 q2 q3 q4 q5 pos : Pos} {iter : Expr} {scope : Scope} {R : Result → Shared → Prop} (I : Is7 W) (hA : Aok 12 A) (P : P7 N M lv cs ds tl) (hN : N < 100)
    (kd : CellOk cenv .cell "due" a.c2) (kc : CellOk cenv .cell "counts" a.c1) (kg : cenv.kindOf "_law_slice" = some .globalImplicit)
    (hF : (du, IsLst ds) ∈ Fq) (hF1 : (a.c1, IsCel (some (.ref a.ct))) ∈ Fq) (hF2 : (a.c2, IsCel (some (.ref du))) ∈ Fq) (hF4 : (a.ct, IsLst cs) ∈ Fq)
    (S : Sta W G cenv ([("k", none)] : Loc) ((it, IsRngIt ((0 : Nat) : Int) ((cs.length - 0 : Nat) : Int)) :: (acc, IsLst []) :: Fq) s)
    (fin : ∀ (dn : Lv) vk s', dn.map (·.2) = lv.map (·.2) → Sta W G cenv ([("k", vk)] : Loc) ((acc, IsLst (dn.map fun p => .ref p.1)) :: (lvLed dn ++ Fq)) s' → R (.ok .next) s') :
    codeAny (model W.prog W.w) A (.compLoop (.ListComp (.Call (.Name "_law_slice" q1) [.Name "due" q2, .Name "counts" q3, .Name "k" q4] [] q5) [⟨.Name "k" pk, iter, [], 0⟩] scope pos) 0 (.ref it) (.ref acc) cenv) R s := by
  have hcz : cs.length ≤ sizeLine := by have := P.hl; rw [P.cslen, sizeLine_eq]; omega
  have hdz : ds.length ≤ sizeLine := by have := P.hd; rw [P.hds, sizeLine_eq]; omega
  have hcl := P.cslen
  have hl := P.hl
  refine comp_y (sh := []) (P := fun (k : Nat) v => ∃ t, v = .int (k : Int) t) (og := []) (own := [(it, IsRngIt ((0 : Nat) : Int) ((cs.length - 0 : Nat) : Int))]) (nw := (acc, IsLst []) :: Fq) (hA.le (by omega)) (compTurn_list1 ..)
    (fun rest loc nw G' => G' = G ∧ ∃ vk, ∃ dn : Lv, ∃ j, dn.map (·.2) = (lv.take j).map (·.2) ∧ j + rest.length = lv.length ∧ rest = List.range' j rest.length ∧ loc = ([("k", vk)] : Loc) ∧ nw = (acc, IsLst (dn.map fun p => .ref p.1)) :: (lvLed dn ++ Fq)) ?_ ?_ (loc := [("k", none)]) (G := G) ?_ (yields_range _ _) ⟨rfl, none, [], 0, rfl, by simp; omega, by simp, rfl, rfl⟩
  · intro x v rest tl' tg loc nw G' s₂ hv S hJ
    obtain ⟨rfl, vk', dn, j, hdn, hj, hr, rfl, rfl⟩ := hJ
    obtain ⟨t₂, rfl⟩ := hv
    simp only [List.length_cons] at hj hr
    rw [List.range'_succ] at hr
    injection hr with hr1 hr2
    subst hr1
    have hxl : x < lv.length := by omega
    refine wpAny_assign_Name (S.store .head fun s' S' => ?_)
    simp only [List.cons_append, List.append_assoc] at S'
    have g1 : (du, IsLst ds) ∈ lvLed dn ++ (Fq ++ ([] ++ tl')) := by simp [hF]
    have g2 : (a.c1, IsCel (some (.ref a.ct))) ∈ lvLed dn ++ (Fq ++ ([] ++ tl')) := by simp [hF1]
    have g3 : (a.c2, IsCel (some (.ref du))) ∈ lvLed dn ++ (Fq ++ ([] ++ tl')) := by simp [hF2]
    have g4 : (a.ct, IsLst cs) ∈ lvLed dn ++ (Fq ++ ([] ++ tl')) := by simp [hF4]
    refine wpAny_bind ?_
    repeat walk_at "ev"
    refine Sta.global S' I.slice_ kg ?_
    refine callW_1 (by rw [I.k]; kernel_rfl) ?_ (by kernel_rfl) (by kernel_rfl)
    repeat walk_at "ev"
    refine Sta.cell S' kd (.tail _ g3) ?_
    repeat walk_at "ev"
    refine Sta.cell S' kc (.tail _ g2) ?_
    repeat walk_at "ev"
    refine ⟨S'.kin, ?_⟩
    refine slice7 I S' (hA.le (by omega)) (.tail _ g1) (.tail _ g4) P.hcs hdz hcz (by rw [P.hds]; exact sum_le lv x) ?_
    clear S'; intro l s' S'
    rw [P.hds, slice_lv lv x hxl] at S'
    have hdl : dn.length = x := by
      have := congrArg List.length hdn
      simp at this; omega
    refine wpAny_bind (S'.append (.tail .head) (by rw [sizeLine_eq]; simp; omega) fun s' S' => wpAny_pure ?_)
    refine ⟨_, (acc, IsLst ((dn ++ [(l, lv[x].2)]).map fun p => .ref p.1)) :: (lvLed (dn ++ [(l, lv[x].2)]) ++ Fq), _, S'.sel ?_, rfl, _, dn ++ [(l, lv[x].2)], x + 1, ?_, by omega, by simpa using hr2, rfl, rfl⟩
    · simp only [List.map_append, List.map_cons, List.map_nil, lvLed, List.cons_append, List.append_assoc, List.nil_append]
      exact Sel.cons (.tail .head) (Sel.of_perm (perm_in1 _ _ _))
    · rw [List.map_append, hdn, List.take_succ, List.getElem?_eq_getElem hxl, List.map_append]
      rfl
  · intro loc nw G' s₂ S hJ
    obtain ⟨rfl, vk', dn, j, hdn, hj, hr, rfl, rfl⟩ := hJ
    rw [List.append_nil] at S
    refine fin dn vk' _ ?_ S
    simp at hj
    rw [hdn, List.take_of_length_le (by omega)]
  · rw [List.append_nil G]
    exact S.perm (perm_last _ _)
set_option maxHeartbeats 8000000 in
theorem fin7 {a : Ad} {vx vk vy vkk vp vl : Option Value} {N M : Nat} {lv : Lv} {cs ds : List Value} {du : Addr} {tl : Tl} {c? : Option Addr} {X : Ledger} (I : Is7 W) (hC : Cs a) (hA : Aok 12 A) (P : P7 N M lv cs ds tl) (hN : N < 100) (hM : M < 900)
    (S' : Sta W G (env7 a.L) (loc7 a vx vk vy vkk vp) (nw7 a lv cs ds du tl c? vl X) s) (body : List Stmt) (hb : body = (fnBody stLaw).drop 5) :
    wpAny (model W.prog W.w) A (execs body (env7 a.L)) (fun f s' => f = .ret (.bool true) ∧ ∃ nw', Sta W G (env7 a.L) (loc7 a vx vk vy vkk vp) (nw' ++ Tabs 135 lamPos lamQ c?) s') (fun _ _ => False) s := by
  have h1 := hC.h1
  have h2 := hC.h2
  have h3 := hC.h3
  have hcz : cs.length ≤ sizeLine := by have := P.hl; rw [P.cslen, sizeLine_eq]; omega
  have hdz : ds.length ≤ sizeLine := by have := P.hd; rw [P.hds, sizeLine_eq]; omega
  have htz : (tl.map fun p => Value.ref p.1).length ≤ sizeLine := by have := P.ht; rw [sizeLine_eq]; simp; omega
  have htz2 : (tl.map fun p => Value.ref p.2.1).length ≤ sizeLine := by have := P.ht; rw [sizeLine_eq]; simp; omega
  have hcl := P.cslen
  have hl := P.hl
  simp only [loc7, nw7] at S'
  subst hb
  refine wpAny_execs_cons ?_
  repeat walk_at "lw"
  refine listComp (cl := [("due", a.c2), ("counts", a.c1)]) ["k"] (closure_two (x := "counts") (y := "due") (by kernel_rfl) (by decide +kernel) h1 h2) (by kernel_rfl) rfl rfl ?_ (by intro _; kernel_rfl)
  repeat walk_at "lw"
  refine Sta.range1 S' ?_
  clear S'; intro r s' S'
  have e0 : IsRng 0 (cs.length : Int) = IsRng ((0 : Nat) : Int) (cs.length : Int) := by simp
  rw [e0] at S'
  refine Sta.iterRange (a := 0) (b := cs.length) S' (by walk_at "mem") (by omega) (by omega) ?_
  clear S'; intro it s' S'
  refine ⟨G, _, _, S', ?_⟩
  intro acc Cc s₁ eok S1
  refine comp_start rfl rfl self_rng (S1.get (by walk_at "mem")) ?_
  have S2 := S1.perm (Pull.perm (.tail (.tail .head)))
  refine slices7 I hA P hN ⟨by kernel_rfl, rfl, by decide +kernel, by decide +kernel⟩ ⟨by kernel_rfl, rfl, by decide +kernel, by decide +kernel⟩ (by kernel_rfl) (du := du) (by walk_at "mem") (by walk_at "mem") (by walk_at "mem") (by walk_at "mem") S2 ?_
  intro dn vk' s₂ hdn S3
  refine ⟨.next, _, _, _, rfl, S3.perm (perm_out _ _ _ _), ?_⟩
  clear S'; intro s' S'
  repeat walk_at "lw"
  replace S' := S'.perm (List.perm_append_comm (l₁ := _ :: lvLed dn) (l₂ := _))
  simp only [List.cons_append, List.append_assoc] at S'
  repeat walk_at "lw"
  have hmt : ∀ p ∈ tl, s'.heap.IsList p.1 p.2.2.toArray ∧ s'.heap.IsList p.2.1 p.2.2.toArray := fun p hp => ⟨S'.isList (by simp [(tlLed_mem hp).1]), S'.isList (by simp [(tlLed_mem hp).2])⟩
  have hml : ∀ p ∈ lv, s'.heap.IsList p.1 p.2.toArray := fun p hp => S'.isList (by simp [lvLed_mem hp])
  have hmd : ∀ p ∈ dn, s'.heap.IsList p.1 p.2.toArray := fun p hp => S'.isList (by simp [lvLed_mem hp])
  have hu1 := hA.units
  have hld : lv.length = dn.length := by simpa using (congrArg List.length hdn).symm
  have hst : EqAt A.in1 s' (.ref a.st) (.ref acc) true := by
    refine eqOf (eqLists (xs := lv.map fun p => .ref p.1) (ys := dn.map fun p => .ref p.1) (S'.isList (by walk_at "mem")) (S'.isList (by simp)) (by simpa using hld) (by show A.units + 1 < _; omega) ?_)
    intro j h1 h2
    simp only [List.length_map] at h1 h2
    simp only [List.getElem_map]
    have ec : lv[j].2 = dn[j].2 := by
      have := congrArg (fun l : List (List Value) => l[j]?) hdn
      simp [h1, h2] at this
      exact this.symm
    refine eqSame (xs := lv[j].2) (hml _ (List.getElem_mem h1)) ?_ (by show A.units + 1 + 1 < _; omega)
    rw [ec]; exact hmd _ (List.getElem_mem h2)
  refine Sta.eqOp S' (eqLists (xs := (tl.map fun p => .ref p.1) ++ [.ref a.st]) (ys := (tl.map fun p => .ref p.2.1) ++ [.ref acc]) (S'.isList (by walk_at "mem")) (S'.isList (by walk_at "mem")) (by simp) (by omega) ?_) ?_
  · intro j h1 h2
    simp only [List.length_append, List.length_map, List.length_cons, List.length_nil] at h1 h2
    by_cases hj : j < tl.length
    · rw [List.getElem_append_left (by simpa using hj), List.getElem_append_left (by simpa using hj)]
      simp only [List.getElem_map]
      exact eqSame (hmt _ (List.getElem_mem hj)).1 (hmt _ (List.getElem_mem hj)).2 (by show A.units + 1 < _; omega)
    · have : j = tl.length := by omega
      subst this
      rw [List.getElem_append_right (by simp), List.getElem_append_right (by simp)]
      simpa using hst
  · refine ⟨rfl, [], S'.sel ?_⟩
    iterate 11 (apply Sel.drop)
    exact ⟨_, List.Perm.refl _⟩
end
end Mine
end

section
open PySem PySem.W PyProof.Rows PySem.W.X PySem.SeqAt
set_option maxRecDepth 100000
namespace Mine
theorem St0.tail {W : Wd} {G : Gens} {p : Addr × Cell} {nw : Ledger} {s : Shared} (S : St0 W G (p :: nw) s) : St0 W G nw s := ⟨S.ok, S.led.tail, S.bare, S.os, S.gens, S.gnd⟩
theorem Is7.law {W : Wd} (I : Is7 W) : Fn W.K 138 stLaw "law" .none .none (.ref 137) := by rw [I.k]; exact fn_law _
section
local macro_rules | `(tactic| walk_at "subl") => `(tactic| first | with_reducible exact List.Sublist.refl _ | ((with_reducible apply List.Sublist.cons); walk_at "subl"))
local macro_rules | `(tactic| walk_at "mem") => `(tactic| first | assumption | with_reducible exact List.mem_cons_self | ((with_reducible refine List.mem_cons_of_mem _ ?_); walk_at "mem"))
local macro_rules | `(tactic| walk_at "put") => `(tactic| first | with_reducible exact Put.head | ((with_reducible apply Put.tail); walk_at "put"))
local macro_rules | `(tactic| walk_at "upd") => `(tactic| first | with_reducible exact Upd.head | ((with_reducible apply Upd.tail); walk_at "upd"))
set_option hygiene false in
local macro_rules | `(tactic| walk_at "ev") => `(tactic| first
  | (with_reducible refine ite_t ?_)
  | (with_reducible refine ite_nf ?_)
  | (with_reducible refine ite_nt ?_)
  | (with_reducible refine ite_f ?_)
  | (with_reducible refine wpAny_execs_nil ?_)
  | (with_reducible refine wpAny_execs_cons ?_)
  | (with_reducible refine wpAny_Return_some ?_)
  | (with_reducible refine wpAny_Return_none ?_)
  | (with_reducible refine wpAny_If ?_)
  | ((with_reducible refine wpAny_Expr_any ?_ ?ht ?hu); (case ht => kernel_rfl); (case hu => kernel_rfl))
  | ((with_reducible refine wpAny_Assign_Name ?_ ?ht); (case ht => kernel_rfl))
  | ((with_reducible refine Assign_attr ?_ ?ht); (case ht => kernel_rfl))
  | (with_reducible refine Sta.local_ S' (by walk_at "mem") ?_)
  | ((with_reducible refine Sta.store S' (by walk_at "put") ?_); clear S'; intro s' S')
  | ((with_reducible refine Sta.int_ S' ?_); clear S'; intro t' s' S')
  | ((with_reducible refine Sta.str_ S' ?_); clear S'; intro t' s' S')
  | (with_reducible refine wpAny_Constant_none ?_)
  | (with_reducible refine wpAny_Constant_bool ?_)
  | (with_reducible refine IfExp_ ?_)
  | (with_reducible refine isTrue_not ?_)
  | (with_reducible refine isTrue_and ?_)
  | (with_reducible refine isTrue_and_nil ?_)
  | ((with_reducible refine isTrue_plain ?_ ?ht); (case ht => kernel_rfl))
  | (with_reducible refine wpAny_truthy_bool ?_)
  | (with_reducible refine truthy_none ?_)
  | (with_reducible refine wpAny_BinOp ?_)
  | ((with_reducible refine wpAny_Compare1 ?_ ?ht); (case ht => kernel_rfl))
  | ((with_reducible refine Sta.add S' ?_); clear S'; intro t' s' S')
  | ((with_reducible refine Sta.sub_ S' ?_); clear S'; intro t' s' S')
  | (with_reducible refine PyProof.Rows.eq_int ?_)
  | (with_reducible refine PyProof.Rows.gt_int ?_)
  | (with_reducible refine PyProof.Rows.lt_int ?_)
  | (with_reducible refine evalPart_some_step ?_)
  | (with_reducible refine evalPart_none_step ?_)
  | ((with_reducible refine slice_ ?_ ?ht); (case ht => intro _ _; kernel_rfl))
  | ((with_reducible refine Call_m ?_ ?ht ?hu ?hv); (case ht => kernel_rfl); (case hu => kernel_rfl); (case hv => kernel_rfl))
  | ((with_reducible refine Attribute_ ?_ ?ht); (case ht => kernel_rfl))
  | ((with_reducible refine Call_ ?_ ?ht); (case ht => kernel_rfl))
  | ((with_reducible refine callWith_builtin1 ?_ ?ht ?hu); (case ht => kernel_rfl); (case hu => kernel_rfl))
  | ((with_reducible refine PyProof.Rows.callWith_type1 ?_ ?ht ?hu); (case ht => kernel_rfl); (case hu => kernel_rfl))
  | ((with_reducible refine callWith_m1 ?_ ?ht ?hu); (case ht => kernel_rfl); (case hu => kernel_rfl))
  | (with_reducible refine callWith_bi0 ?_)
  | ((with_reducible refine Sta.getM_list S' (by walk_at "mem") F.slot_list_append F.type_list_append ?_))
  | ((with_reducible refine Sta.getM_list S' (by walk_at "mem") F.slot_list_pop F.type_list_pop ?_))
  | ((with_reducible refine Sta.getM_list S' (by walk_at "mem") F.slot_list_insert F.type_list_insert ?_))
  | ((with_reducible refine args_cons ?_ ?ht); (case ht => kernel_rfl))
  | (with_reducible refine args_nil ?_)
  | (with_reducible refine List_ ?_)
  | (with_reducible refine Tuple_ ?_)
  | ((with_reducible refine Sta.newList S' ?ht ?_); (case ht => first | assumption | (simp [sizeLine_eq]; done)); clear S'; intro a' s' S')
  | ((with_reducible refine Sta.newTuple S' ?ht ?_); (case ht => first | assumption | (simp [sizeLine_eq]; done)); clear S'; intro a' s' S')
  | ((with_reducible refine Sta.dict0 S' ?_); clear S'; intro a' s' S')
  | ((with_reducible refine Sta.append S' (by walk_at "upd") ?ht ?_); (case ht => first | assumption | (simp [sizeLine_eq]; done)); clear S'; intro s' S'))

local macro_rules | `(tactic| walk_at "pull") => `(tactic| first | with_reducible exact Pull.head | ((with_reducible apply Pull.tail); walk_at "pull"))
local macro_rules | `(tactic| walk_at "sel") => `(tactic| first | with_reducible exact Sel.refl _ | ((with_reducible apply Sel.cons (by walk_at "pull")); walk_at "sel") | ((with_reducible apply Sel.drop); walk_at "sel"))
set_option hygiene false in
local macro_rules | `(tactic| walk_at "lw") => `(tactic| first
  | ((with_reducible refine wpAny_isTrue_Compare1 ?_ ?ht); (case ht => kernel_rfl))
  | walk_at "ev"
  | ((with_reducible refine Sta.mod S' ?hb ?_); (case hb => decide); clear S'; intro t' s' S')
  | ((with_reducible refine Sta.fdiv S' ?hb ?hc ?_); (case hb => decide); (case hc => decide); clear S'; intro t' s' S')
  | ((with_reducible refine Sta.cell S' h1 (by walk_at "mem") ?_))
  | ((with_reducible refine Sta.cell S' h2 (by walk_at "mem") ?_))
  | ((with_reducible refine Sta.cell S' h3 (by walk_at "mem") ?_))
  | ((with_reducible refine Sta.storeC S' h1 (by walk_at "upd") ?_); clear S'; intro s' S')
  | ((with_reducible refine Sta.storeC S' h2 (by walk_at "upd") ?_); clear S'; intro s' S')
  | ((with_reducible refine Sta.storeC S' h3 (by walk_at "upd") ?_); clear S'; intro s' S')
  | ((with_reducible refine Sta.builtin S' I.len bo_len ?hk ?_ ?hn ?hd); (case hk => kernel_rfl); (case hn => decide +kernel); (case hd => decide +kernel))
  | ((with_reducible refine Sta.builtin S' I.sum bo_sum ?hk ?_ ?hn ?hd); (case hk => kernel_rfl); (case hn => decide +kernel); (case hd => decide +kernel))
  | ((with_reducible refine Sta.builtin S' I.str bo_str ?hk ?_ ?hn ?hd); (case hk => kernel_rfl); (case hn => decide +kernel); (case hd => decide +kernel))
  | ((with_reducible refine Sta.builtin S' I.range bo_range ?hk ?_ ?hn ?hd); (case hk => kernel_rfl); (case hn => decide +kernel); (case hd => decide +kernel))
  | ((with_reducible refine Sta.builtin S' I.list bo_list ?hk ?_ ?hn ?hd); (case hk => kernel_rfl); (case hn => decide +kernel); (case hd => decide +kernel))
  | ((with_reducible refine Sta.len S' (by walk_at "mem") ?hz ?_); (case hz => first | assumption | (simp [sizeLine_eq]; done) | (simp [sizeLine_eq]; omega)); clear S'; intro t' s' S'))

variable {W : Wd} {G : Gens} {env : Env} {loc loc' : Loc} {nw nw' : Ledger} {s : Shared} {A : Around} {E : Value → Shared → Prop}
set_option maxHeartbeats 8000000 in
theorem law7 {scr : Addr} {vs : List Value} {ns : List Int} (I : Is7 W) (C : CodeHd W.B 137 135) (S : St0 W [] (tabLed [(137, 135)]) s) (hB : W.B.IsList scr vs.toArray) (hi : IntsAre vs ns) (hn : ns.length ≤ 63) (hA : Aok 20 A) :
    codeAny (model W.prog W.w) A (.call (.ref 138) ⟨[.ref scr], []⟩) (fun r s' => r = .ok (.ret (.bool true)) ∧ ∃ G nw' c?, St0 W G (nw' ++ Tabs 135 lamPos lamQ c?) s') s := by
  refine S.codeC (binds := [("script", .ref scr)]) [("script", .ref scr)] ["target", "stack", "told", "wanted", "x", "kind", "y", "k", "pair"] [none, none, none] I.law hA.room (fun _ _ _ _ _ => BindsTo.of_eq (by kernel_rfl)) (by kernel_rfl) (by kernel_rfl) (by kernel_rfl) ?_
  intro L cs s' hcs S'
  have hnm : cellNames (fnScope stLaw).names = (["counts", "due", "level"] : List Str) := by kernel_rfl
  rw [hnm] at hcs
  match cs, hcs with
  | [c1, c2, c3], ⟨h1, h2, h3, _⟩ =>
  have hA' := hA.deeper (env := envOfC "law" (fnScope stLaw) L 138 (.ref 137))
  simp only [mkLoc, List.map_cons, List.map_nil, List.cons_append, List.nil_append, cellLed, tabLed] at S'
  refine wpAny_execs_cons ?_
  repeat walk_at "lw"
  refine Sta.global S' I.cls (by kernel_rfl) ?_
  refine callW_1 (by rw [I.k]; kernel_rfl) ?_ (by kernel_rfl) (by kernel_rfl)
  repeat walk_at "lw"
  refine Sta.getAppend S' (by walk_at "mem") ?_
  clear S'; intro q s' S'
  repeat walk_at "lw"
  refine ⟨S'.kin, ?_⟩
  refine Sta.make (fI := 37) selfNames S' (by decide +kernel) (by rw [I.k]; kernel_rfl) (by rw [I.k]; kernel_rfl) (by rw [I.k]; kernel_rfl) ?_
  clear S'; intro x dx s' S'
  refine init7 I S' (aok_make (hA'.le (by omega))) ?_
  clear S'; intro vals s' hv S'
  refine ⟨rfl, ?_⟩
  repeat walk_at "lw"
  refine Assign_Tuple ?_ (by kernel_rfl) (by kernel_rfl)
  repeat walk_at "lw"
  refine Sta.unpackT S' hA'.handled (by walk_at "mem") (by kernel_rfl) (by kernel_rfl) ?_
  clear S'; intro s' S'
  refine assignInOrder_cons ?_
  refine assign_Name ?_
  repeat walk_at "lw"
  refine assignInOrder_cons ?_
  refine assign_Name ?_
  repeat walk_at "lw"
  refine assignInOrder_cons ?_
  refine assign_Name ?_
  repeat walk_at "lw"
  refine assignInOrder_nil ?_
  repeat walk_at "lw"
  refine Assign_Tuple_swapped (names := ["told", "wanted"]) ?_ (by kernel_rfl) (by kernel_rfl)
  repeat walk_at "lw"
  refine Sta.unpackI S' hA'.handled (by walk_at "mem") rfl ?_
  clear S'; intro s' S'
  refine assignInOrder_cons ?_
  refine bindName_ ?_
  repeat walk_at "lw"
  refine assignInOrder_cons ?_
  refine bindName_ ?_
  repeat walk_at "lw"
  refine assignInOrder_nil ?_
  rename_i b0 _ _ _ _ _ b1 _ b2 _ _ b3 _ b4 _ b5 _ _ _ _ _ b6 _ b7 _ _ _ _
  let a : Ad := ⟨L, scr, x, dx, vals, b2, b3, b6, b7, c1, c2, c3⟩
  have S1 : Sta W [] (env7 a.L) (loc7 a none none none none none) (nw7 a [(b1, [])] [.int 0 t'] [] b4 [] none none []) s' := by
    refine S'.sel ?_
    simp only [nw7, Tabs, lvLed, tlLed, List.map_cons, List.map_nil, List.cons_append, List.nil_append, List.flatMap_nil]
    iterate 12 (apply Sel.cons (by walk_at "pull"))
    exact ⟨_, List.Perm.refl _⟩
  have hC : Cs a := ⟨h1, h2, h3, hv⟩
  have P0 : P7 0 0 [(b1, [])] [.int 0 t'] [] [] := ⟨.cons 0 t' .nil, rfl, by simp, by simp, by simp [flat], by simp⟩
  clear S'
  refine wpAny_execs_cons ?_
  refine wpAny_mono (loop7 I C hC (hA'.le (by omega)) P0 hB hi hn S1 _ rfl) (fun f s1 h => ?_) fun _ _ h => h
  obtain ⟨rfl, vx, vk, vy, vp, vl, lv, cs, ds, du, tl, c?, S2, P2⟩ := h
  refine wpAny_execs_cons ?_
  refine wpAny_mono (loop2 I hC (hA'.le (by omega)) P2 (by omega) (by omega) S2 _ rfl) (fun f s1 h => ?_) fun _ _ h => h
  obtain ⟨rfl, vkk, tl2, S3, P3⟩ := h
  refine wpAny_mono (fin7 I hC (hA'.le (by omega)) P3 (by omega) (by omega) S3 _ rfl) (fun f s1 h => ?_) fun _ _ h => h
  obtain ⟨rfl, nw', S4⟩ := h
  exact ⟨rfl, _, _, _, S4.to0.tail⟩
end
end Mine
end

section
open PySem PySem.W PyProof.Rows PySem.W.X PySem.SeqAt
set_option maxRecDepth 100000
namespace Mine
theorem aok_caller : Aok 60 callerA := ⟨rfl, by decide +kernel, by decide +kernel⟩
theorem grown_of {W : Wd} {G : Gens} {nw : Ledger} {s : Shared} {P : Addr} {ps : List Value} (S : St0 W G nw s) (m : (P, IsTab ps) ∈ nw) : GrownAt P s.heap := by
  obtain ⟨_, o, ho, rfl⟩ := S.led.own _ m
  exact ⟨_, ho⟩
end Mine
set_option maxHeartbeats 8000000 in
theorem PySem.Challenge.cw_dn0284_07_holds : PySem.Challenge.rw_dn0284_07.Holds := by
  refine Mine.hd ?_
  k_fill
  intro w s₀ s₁ mg mb G Y fa o pm cd doc dV kV ho hd hcd hD hmg hg args vals as hpre hlay hrd hwl hlo
  have KX := km_in_of Y
  km_tabs Y
  have X := (Ground.X G).1
  have V := (Ground.X G).2
  refine Ground.open G ?_
  intro T B D TE TW
  try (refine guard_noD D (by decide +kernel) ?_; clear D)
  km_lay T hmg ho hd cd
  wrow_args hpre hlay hrd hwl hlo
  first | refine callC_kw (enter_call ?_) | refine enter_call ?_
  w_top on
  refine Mine.kn_postG hT9 (fun _ => rfl) (by wrow_post) ?_
  have hfa : fa = 138 := by
    have e1 : mg "law" = some (.ref 138) := mg_of KX T.g (by kernel_rfl)
    have e2 : some (Value.ref fa) = some (.ref 138) := hmg.symm.trans e1
    injection e2 with e2
    injection e2
  subst hfa
  let W : Mine.Wd := ⟨PySem.Challenge.rw_dn0284_07.row.prog, w, Mine.K7 w.params, ghostOf s₁.heap [(137, 135)], s₁.os⟩
  have S0 : Mine.St0 W [] (Mine.tabLed [(137, 135)]) s₁ := Mine.sta0_of (W := W) hT9 (by decide) KX (by kernel_rfl) T hg rfl rfl
  have C := ghost_code hT9
  rename s₁.heap.IsList _ _ => hL
  rename IntsAre _ _ => hI
  have hL2 := ghost_list hT9 hL
  refine codeAny_mono (Mine.law7 (W := W) ⟨rfl⟩ C.1 S0 hL2 hI (by omega) (Mine.aok_caller.le (by omega))) fun r s' h => ?_
  obtain ⟨rfl, G', nw', c?, S'⟩ := h
  refine ⟨rfl, S'.led.keep, S'.os, S'.bare, ?_, trivial⟩
  cases c? with
  | none => exact Mine.grown_of S' (List.mem_append_right _ (.head _))
  | some c => exact Mine.grown_of S' (List.mem_append_right _ (.head _))
end
