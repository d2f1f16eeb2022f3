import PyProof.Rows.All
import Wide.All
import OpenK.AllK
import Wide.FinOn
import PySem.Challenge.RW_dn0284_08
set_option Elab.async false
set_option compiler.extract_closed false
set_option genInjectivity false
set_option genSizeOf false
set_option linter.all false
set_option maxRecDepth 100000
open PySem PySem.W PyProof.Rows PySem.W.X PySem.SeqAt
section
set_option compiler.extract_closed false
namespace Mine
theorem le_c {a m c : Nat} (h : a <= m) (e : Nat.ble m c = true) : a <= c := Nat.le_trans h (Nat.le_of_ble_eq_true e)
theorem lt_c {a m c : Nat} (h : a <= m) (e : Nat.ble (m + 1) c = true) : a < c := Nat.lt_of_le_of_lt h (Nat.le_of_ble_eq_true e)
theorem ub_n {n : Nat} {i : OfNat Nat n} : (@OfNat.ofNat Nat n i) <= @OfNat.ofNat Nat n i := Nat.le_refl _
theorem ub_l {a n : Nat} {i : OfNat Nat n} (h : a <= @OfNat.ofNat Nat n i) : a <= @OfNat.ofNat Nat n i := h
theorem ub_e {a n : Nat} {i : OfNat Nat n} (h : a = @OfNat.ofNat Nat n i) : a <= @OfNat.ofNat Nat n i := Nat.le_of_eq h
theorem ub_t {a n : Nat} {i : OfNat Nat n} (h : a < @OfNat.ofNat Nat n i) : a <= @OfNat.ofNat Nat n i := Nat.le_of_lt h
theorem ub_app {a b : Str} {m n : Nat} (h : a.length <= m) (k : b.length <= n) : (a ++ b).length <= m + n := by rw [Str.length_append]; exact Nat.add_le_add h k
theorem ub_lapp {α : Type} {a b : List α} {m n : Nat} (h : a.length <= m) (k : b.length <= n) : (a ++ b).length <= m + n := by rw [List.length_append]; exact Nat.add_le_add h k
theorem ub_cons {α : Type} {x : α} {b : List α} {n : Nat} (k : b.length <= n) : (x :: b).length <= n + 1 := Nat.succ_le_succ k
theorem ub_nil {α : Type} : ([] : List α).length <= 0 := Nat.le_refl 0
theorem ub_map {α β : Type} {f : α -> β} {b : List α} {n : Nat} (k : b.length <= n) : (b.map f).length <= n := by rw [List.length_map]; exact k
theorem ub_mul {k m n : Nat} (h : m <= n) : k * m <= k * n := Nat.mul_le_mul_left k h
theorem ub_sub {a b m : Nat} (h : a <= m) : a - b <= m := Nat.le_trans (Nat.sub_le a b) h
theorem ub_eq {a b m : Nat} (e : a = b) (h : b <= m) : a <= m := e ▸ h
theorem ub_ltc {a b m : Nat} (e : a < b) (h : b <= m) : a <= m := Nat.le_trans (Nat.le_of_lt e) h
theorem ub_mt : Str.empty.length <= 0 := by decide +kernel
theorem ob02 {A0 A1 : Prop} {P : Prop} (h : A0 /\ A1) (f : A0 -> A1 -> P) : P := f h.1 h.2
theorem ob03 {A0 A1 A2 : Prop} {P : Prop} (h : A0 /\ A1 /\ A2) (f : A0 -> A1 -> A2 -> P) : P := f h.1 h.2.1 h.2.2
theorem ob04 {A0 A1 A2 A3 : Prop} {P : Prop} (h : A0 /\ A1 /\ A2 /\ A3) (f : A0 -> A1 -> A2 -> A3 -> P) : P := f h.1 h.2.1 h.2.2.1 h.2.2.2
theorem ob05 {A0 A1 A2 A3 A4 : Prop} {P : Prop} (h : A0 /\ A1 /\ A2 /\ A3 /\ A4) (f : A0 -> A1 -> A2 -> A3 -> A4 -> P) : P := f h.1 h.2.1 h.2.2.1 h.2.2.2.1 h.2.2.2.2
theorem ob11.{u0} {α : Sort u0} {A0 : α -> Prop} {P : Prop} (h : ∃ x, A0 x) (f : ∀ x, A0 x -> P) : P := Exists.elim h λ x h => f x h
theorem ob12.{u0} {α : Sort u0} {A0 A1 : α -> Prop} {P : Prop} (h : ∃ x, A0 x /\ A1 x) (f : ∀ x, A0 x -> A1 x -> P) : P := Exists.elim h λ x h => f x h.1 h.2
theorem ob13.{u0} {α : Sort u0} {A0 A1 A2 : α -> Prop} {P : Prop} (h : ∃ x, A0 x /\ A1 x /\ A2 x) (f : ∀ x, A0 x -> A1 x -> A2 x -> P) : P := Exists.elim h λ x h => f x h.1 h.2.1 h.2.2
theorem ob14.{u0} {α : Sort u0} {A0 A1 A2 A3 : α -> Prop} {P : Prop} (h : ∃ x, A0 x /\ A1 x /\ A2 x /\ A3 x) (f : ∀ x, A0 x -> A1 x -> A2 x -> A3 x -> P) : P := Exists.elim h λ x h => f x h.1 h.2.1 h.2.2.1 h.2.2.2
theorem ob15.{u0} {α : Sort u0} {A0 A1 A2 A3 A4 : α -> Prop} {P : Prop} (h : ∃ x, A0 x /\ A1 x /\ A2 x /\ A3 x /\ A4 x) (f : ∀ x, A0 x -> A1 x -> A2 x -> A3 x -> A4 x -> P) : P := Exists.elim h λ x h => f x h.1 h.2.1 h.2.2.1 h.2.2.2.1 h.2.2.2.2
theorem ob16.{u0} {α : Sort u0} {A0 A1 A2 A3 A4 A5 : α -> Prop} {P : Prop} (h : ∃ x, A0 x /\ A1 x /\ A2 x /\ A3 x /\ A4 x /\ A5 x) (f : ∀ x, A0 x -> A1 x -> A2 x -> A3 x -> A4 x -> A5 x -> P) : P := Exists.elim h λ x h => f x h.1 h.2.1 h.2.2.1 h.2.2.2.1 h.2.2.2.2.1 h.2.2.2.2.2
theorem ob17.{u0} {α : Sort u0} {A0 A1 A2 A3 A4 A5 A6 : α -> Prop} {P : Prop} (h : ∃ x, A0 x /\ A1 x /\ A2 x /\ A3 x /\ A4 x /\ A5 x /\ A6 x) (f : ∀ x, A0 x -> A1 x -> A2 x -> A3 x -> A4 x -> A5 x -> A6 x -> P) : P := Exists.elim h λ x h => f x h.1 h.2.1 h.2.2.1 h.2.2.2.1 h.2.2.2.2.1 h.2.2.2.2.2.1 h.2.2.2.2.2.2
theorem ob21.{u0, u1} {α : Sort u0} {β : Sort u1} {A0 : α -> β -> Prop} {P : Prop} (h : ∃ x y, A0 x y) (f : ∀ x y, A0 x y -> P) : P := Exists.elim h λ x h => Exists.elim h λ y h => f x y h
theorem ob22.{u0, u1} {α : Sort u0} {β : Sort u1} {A0 A1 : α -> β -> Prop} {P : Prop} (h : ∃ x y, A0 x y /\ A1 x y) (f : ∀ x y, A0 x y -> A1 x y -> P) : P := Exists.elim h λ x h => Exists.elim h λ y h => f x y h.1 h.2
theorem ob23.{u0, u1} {α : Sort u0} {β : Sort u1} {A0 A1 A2 : α -> β -> Prop} {P : Prop} (h : ∃ x y, A0 x y /\ A1 x y /\ A2 x y) (f : ∀ x y, A0 x y -> A1 x y -> A2 x y -> P) : P := Exists.elim h λ x h => Exists.elim h λ y h => f x y h.1 h.2.1 h.2.2
theorem ob24.{u0, u1} {α : Sort u0} {β : Sort u1} {A0 A1 A2 A3 : α -> β -> Prop} {P : Prop} (h : ∃ x y, A0 x y /\ A1 x y /\ A2 x y /\ A3 x y) (f : ∀ x y, A0 x y -> A1 x y -> A2 x y -> A3 x y -> P) : P := Exists.elim h λ x h => Exists.elim h λ y h => f x y h.1 h.2.1 h.2.2.1 h.2.2.2
theorem ob25.{u0, u1} {α : Sort u0} {β : Sort u1} {A0 A1 A2 A3 A4 : α -> β -> Prop} {P : Prop} (h : ∃ x y, A0 x y /\ A1 x y /\ A2 x y /\ A3 x y /\ A4 x y) (f : ∀ x y, A0 x y -> A1 x y -> A2 x y -> A3 x y -> A4 x y -> P) : P := Exists.elim h λ x h => Exists.elim h λ y h => f x y h.1 h.2.1 h.2.2.1 h.2.2.2.1 h.2.2.2.2
theorem ob26.{u0, u1} {α : Sort u0} {β : Sort u1} {A0 A1 A2 A3 A4 A5 : α -> β -> Prop} {P : Prop} (h : ∃ x y, A0 x y /\ A1 x y /\ A2 x y /\ A3 x y /\ A4 x y /\ A5 x y) (f : ∀ x y, A0 x y -> A1 x y -> A2 x y -> A3 x y -> A4 x y -> A5 x y -> P) : P := Exists.elim h λ x h => Exists.elim h λ y h => f x y h.1 h.2.1 h.2.2.1 h.2.2.2.1 h.2.2.2.2.1 h.2.2.2.2.2
theorem ob31.{u0, u1, u2} {α : Sort u0} {β : Sort u1} {γ : Sort u2} {A0 : α -> β -> γ -> Prop} {P : Prop} (h : ∃ x y z, A0 x y z) (f : ∀ x y z, A0 x y z -> P) : P := Exists.elim h λ x h => Exists.elim h λ y h => Exists.elim h λ z h => f x y z h
theorem ob32.{u0, u1, u2} {α : Sort u0} {β : Sort u1} {γ : Sort u2} {A0 A1 : α -> β -> γ -> Prop} {P : Prop} (h : ∃ x y z, A0 x y z /\ A1 x y z) (f : ∀ x y z, A0 x y z -> A1 x y z -> P) : P := Exists.elim h λ x h => Exists.elim h λ y h => Exists.elim h λ z h => f x y z h.1 h.2
theorem ob33.{u0, u1, u2} {α : Sort u0} {β : Sort u1} {γ : Sort u2} {A0 A1 A2 : α -> β -> γ -> Prop} {P : Prop} (h : ∃ x y z, A0 x y z /\ A1 x y z /\ A2 x y z) (f : ∀ x y z, A0 x y z -> A1 x y z -> A2 x y z -> P) : P := Exists.elim h λ x h => Exists.elim h λ y h => Exists.elim h λ z h => f x y z h.1 h.2.1 h.2.2
theorem ob34.{u0, u1, u2} {α : Sort u0} {β : Sort u1} {γ : Sort u2} {A0 A1 A2 A3 : α -> β -> γ -> Prop} {P : Prop} (h : ∃ x y z, A0 x y z /\ A1 x y z /\ A2 x y z /\ A3 x y z) (f : ∀ x y z, A0 x y z -> A1 x y z -> A2 x y z -> A3 x y z -> P) : P := Exists.elim h λ x h => Exists.elim h λ y h => Exists.elim h λ z h => f x y z h.1 h.2.1 h.2.2.1 h.2.2.2
theorem ob35.{u0, u1, u2} {α : Sort u0} {β : Sort u1} {γ : Sort u2} {A0 A1 A2 A3 A4 : α -> β -> γ -> Prop} {P : Prop} (h : ∃ x y z, A0 x y z /\ A1 x y z /\ A2 x y z /\ A3 x y z /\ A4 x y z) (f : ∀ x y z, A0 x y z -> A1 x y z -> A2 x y z -> A3 x y z -> A4 x y z -> P) : P := Exists.elim h λ x h => Exists.elim h λ y h => Exists.elim h λ z h => f x y z h.1 h.2.1 h.2.2.1 h.2.2.2.1 h.2.2.2.2
theorem ob41.{u0, u1, u2, u3} {α : Sort u0} {β : Sort u1} {γ : Sort u2} {δ : Sort u3} {A0 : α -> β -> γ -> δ -> Prop} {P : Prop} (h : ∃ x y z u, A0 x y z u) (f : ∀ x y z u, A0 x y z u -> P) : P := Exists.elim h λ x h => Exists.elim h λ y h => Exists.elim h λ z h => Exists.elim h λ u h => f x y z u h
theorem ob42.{u0, u1, u2, u3} {α : Sort u0} {β : Sort u1} {γ : Sort u2} {δ : Sort u3} {A0 A1 : α -> β -> γ -> δ -> Prop} {P : Prop} (h : ∃ x y z u, A0 x y z u /\ A1 x y z u) (f : ∀ x y z u, A0 x y z u -> A1 x y z u -> P) : P := Exists.elim h λ x h => Exists.elim h λ y h => Exists.elim h λ z h => Exists.elim h λ u h => f x y z u h.1 h.2
theorem ob43.{u0, u1, u2, u3} {α : Sort u0} {β : Sort u1} {γ : Sort u2} {δ : Sort u3} {A0 A1 A2 : α -> β -> γ -> δ -> Prop} {P : Prop} (h : ∃ x y z u, A0 x y z u /\ A1 x y z u /\ A2 x y z u) (f : ∀ x y z u, A0 x y z u -> A1 x y z u -> A2 x y z u -> P) : P := Exists.elim h λ x h => Exists.elim h λ y h => Exists.elim h λ z h => Exists.elim h λ u h => f x y z u h.1 h.2.1 h.2.2
theorem ob44.{u0, u1, u2, u3} {α : Sort u0} {β : Sort u1} {γ : Sort u2} {δ : Sort u3} {A0 A1 A2 A3 : α -> β -> γ -> δ -> Prop} {P : Prop} (h : ∃ x y z u, A0 x y z u /\ A1 x y z u /\ A2 x y z u /\ A3 x y z u) (f : ∀ x y z u, A0 x y z u -> A1 x y z u -> A2 x y z u -> A3 x y z u -> P) : P := Exists.elim h λ x h => Exists.elim h λ y h => Exists.elim h λ z h => Exists.elim h λ u h => f x y z u h.1 h.2.1 h.2.2.1 h.2.2.2
theorem ob51.{u0, u1, u2, u3, u4} {α : Sort u0} {β : Sort u1} {γ : Sort u2} {δ : Sort u3} {ε : Sort u4} {A0 : α -> β -> γ -> δ -> ε -> Prop} {P : Prop} (h : ∃ x y z u v, A0 x y z u v) (f : ∀ x y z u v, A0 x y z u v -> P) : P := Exists.elim h λ x h => Exists.elim h λ y h => Exists.elim h λ z h => Exists.elim h λ u h => Exists.elim h λ v h => f x y z u v h
theorem ob52.{u0, u1, u2, u3, u4} {α : Sort u0} {β : Sort u1} {γ : Sort u2} {δ : Sort u3} {ε : Sort u4} {A0 A1 : α -> β -> γ -> δ -> ε -> Prop} {P : Prop} (h : ∃ x y z u v, A0 x y z u v /\ A1 x y z u v) (f : ∀ x y z u v, A0 x y z u v -> A1 x y z u v -> P) : P := Exists.elim h λ x h => Exists.elim h λ y h => Exists.elim h λ z h => Exists.elim h λ u h => Exists.elim h λ v h => f x y z u v h.1 h.2
theorem ob53.{u0, u1, u2, u3, u4} {α : Sort u0} {β : Sort u1} {γ : Sort u2} {δ : Sort u3} {ε : Sort u4} {A0 A1 A2 : α -> β -> γ -> δ -> ε -> Prop} {P : Prop} (h : ∃ x y z u v, A0 x y z u v /\ A1 x y z u v /\ A2 x y z u v) (f : ∀ x y z u v, A0 x y z u v -> A1 x y z u v -> A2 x y z u v -> P) : P := Exists.elim h λ x h => Exists.elim h λ y h => Exists.elim h λ z h => Exists.elim h λ u h => Exists.elim h λ v h => f x y z u v h.1 h.2.1 h.2.2
def aED (w : String) : Lean.Name := (w.splitOn ".").foldl Lean.Name.mkStr Lean.Name.anonymous
abbrev Sx := Lean.Syntax
def nd (k : String) (as : Array Sx) : Sx := .node .none (if k == "" then `null else if k.startsWith "t:" then .str `Lean.Parser.Tactic (String.ofList (k.toList.drop 2)) else if k.startsWith "T:" then .str `Lean.Parser.Term (String.ofList (k.toList.drop 2)) else aED k) as
def atm (w : String) : Sx := .atom .none w
def idn (n : Lean.Name) : Sx := Lean.mkIdent n
def sqs (ts : Array Sx) : Sx := nd "t:tacticSeq" #[nd "t:tacticSeq1Indented" #[nd "" (ts.foldl (λ a t => if a.isEmpty then #[t] else (a.push (atm ";")).push t) #[])]]
def prs (ts : Array Sx) : Sx := nd "t:paren" #[atm "(", sqs ts, atm ")"]
def fst (ts : Array Sx) : Sx := nd "t:first" #[atm "first", nd "" (ts.map λ t => nd "group" #[atm "|", sqs #[t]])]
def apx (f : Sx) (as : Array Sx) : Sx := nd "T:app" #[f, nd "" as]
def wrp (k w : String) (ts : Array Sx) : Sx := nd k #[atm w, sqs ts]
def wlk (w : String) : Sx := nd "PyProof.Rows.tacticWalk_at_" #[atm "walk_at", Lean.Syntax.mkStrLit w]
def clos (k : String) (as : Array Sx) : Sx :=
 if k == "&" then prs as else if k == "}" then sqs as else if k == "|" then fst as
 else if k == "e" then nd "t:exact" #[atm "exact", apx (as.getD 0 .missing) (as.extract 1 as.size)]
 else if k == "$" then apx (as.getD 0 .missing) (as.extract 1 as.size)
 else if k == "!" then wrp "t:withReducible" "with_reducible" as else if k == "^" then wrp "t:failIfSuccess" "fail_if_success" as
 else if k == "*" then wrp "t:tacticRepeat_" "repeat" as else if k == "?" then wrp "t:tacticTry_" "try" as
 else nd k as
def word (fr : Lean.Name -> Lean.Name) (p : Array Sx × Array Sx) (w : String) : Array Sx × Array Sx :=
 let c := w.toList.headD ' '
 let b := String.ofList (w.toList.drop 1)
 let up := λ (x : Sx) => (p.1.push x, p.2)
 if c == '(' then up .missing
 else if c == ')' then
  let r := p.1.toList.reverse
  ((((r.dropWhile λ x => !x.isMissing).drop 1).reverse.toArray).push (clos b (r.takeWhile λ x => !x.isMissing).reverse.toArray), p.2)
 else if c == '\'' then up (atm b)
 else if c == '"' then up (Lean.Syntax.mkStrLit b)
 else if c == '#' then up (Lean.Syntax.mkNumLit b)
 else if w == "_" then up (nd "T:syntheticHole" #[atm "?", atm "_"])
 else if w == "~" then up (nd "T:hole" #[atm "_"])
 else if w == "S" then up (idn `S')
 else if c == '=' then up (wlk b)
 else if c == '/' then
  let n := idn (fr (.str .anonymous ("hh" ++ toString p.2.size)))
  (p.1.push (nd "T:syntheticHole" #[atm "?", n]), p.2.push (nd "t:case" #[atm "case", nd "" #[nd "t:caseArg" #[nd "Lean.binderIdent" #[n], nd "" #[]]], atm "=>", sqs #[wlk b]]))
 else if c == '@' then
  let x := b.splitOn "="
  let v := x.getD 1 ""
  let y : Sx := if v.startsWith "\"" then Lean.Syntax.mkStrLit (String.ofList (v.toList.drop 1)) else if v.startsWith "#" then Lean.Syntax.mkNumLit (String.ofList (v.toList.drop 1)) else Lean.mkIdent (aED v)
  up (nd "T:namedArgument" #[atm "(", idn (aED (x.headD "")), atm ":=", y, atm ")"])
 else up (idn (aED w))
def words (fr : Lean.Name -> Lean.Name) (r : String) : Array Sx × Array Sx := (r.splitOn " ").foldl (word fr) (#[], #[])
def rowOf (fr : Lean.Name -> Lean.Name) (r : String) : Sx :=
 let b := String.ofList (r.toList.drop 1)
 if r.startsWith ":" then (words fr (String.ofList (b.toList.drop 1))).1.getD 0 .missing
 else if r.startsWith "@" then wrp "t:withReducible" "with_reducible" #[nd "t:apply" #[atm "apply", idn (aED b)]]
 else
  let rs := r.splitOn " | "
  let p := words fr (rs.headD "")
  let f := p.1.getD 0 .missing
  let t := if p.1.size <= 1 then f else apx f (p.1.extract 1 p.1.size)
  let hd := if p.2.isEmpty then nd "t:refine" #[atm "refine", t] else nd "t:refine'" #[atm "refine'", t]
  prs (#[wrp "t:withReducible" "with_reducible" #[hd]] ++ p.2 ++ ((rs.drop 1).map wlk).toArray)
def goAt (tab : List (String × String)) (w : Lean.TSyntax `str) : Lean.MacroM (Lean.TSyntax `tactic) := do
 match tab.lookup w.getString with
 | none => Lean.Macro.throwUnsupported
 | some r =>
  let c ← read
  let fr := λ n => Lean.addMacroScope c.quotContext n c.currMacroScope
  let rs := (r.splitOn "; ").map (rowOf fr)
  return ⟨if rs.length == 1 then rs.headD .missing else fst rs.toArray⟩
def obNm (p : Sx) : Option Sx :=
 if p[0][0].getNumArgs == 1 && p[1].getNumArgs == 0 then
  let q := p[0][0][0]
  if q.getNumArgs == 1 then some q[0] else none
 else none
def obTac (ps : Array Sx) (e : Sx) : Lean.MacroM (Lean.TSyntax `tactic) := do
 let n := ps.size
 let some ns := ps.mapM obNm | Lean.Macro.throwUnsupported
 if n < 2 || n > 8 || ns.any (λ x => !x.isIdent && !x.isAtom) then Lean.Macro.throwUnsupported
 let p := ns.foldl (λ (p : Array Sx × Array Sx) x => if x.isAtom then (p.1.push (nd "T:hole" #[atm "_"]), p.2) else if x.getId == `rfl then
  let h := idn (.str .anonymous ("hrfl" ++ toString p.2.size)); (p.1.push h, p.2.push (nd "t:subst" #[atm "subst", nd "" #[h]])) else (p.1.push x, p.2)) (#[], #[])
 let clr := if e.isIdent then #[wrp "t:tacticTry_" "try" #[nd "t:clear" #[atm "clear", nd "" #[e]]]] else #[]
 let al := ([1, 2, 0, 3, 4, 5].filter λ k => k < n && n - k <= 7).map λ k =>
  prs (#[nd "t:refine" #[atm "refine", apx (idn (.str `Mine ("ob" ++ toString k ++ toString (n - k)))) #[e, nd "T:syntheticHole" #[atm "?", atm "_"]]]] ++ clr ++ #[nd "t:intro" #[atm "intro", nd "" p.1]] ++ p.2)
 return ⟨fst al.toArray⟩
def tab0 : List (String × String) := [("ub0", "Mine.ub_n; Mine.ub_l /asm; Mine.ub_e /asm; Mine.ub_t /asm; Mine.ub_nil; Mine.ub_mt; Nat.add_le_add /ub0 /ub0; Mine.ub_app /ub0 /ub0; Mine.ub_lapp /ub0 /ub0; Mine.ub_cons /ub0; Mine.ub_map /ub0; Mine.ub_mul /ub0; Mine.ub_sub /ub0; : ( ( 'assumption )t:assumption )!"),
 ("ub1", "Mine.ub_n; Mine.ub_l /asm; Mine.ub_e /asm; Mine.ub_t /asm; Mine.ub_nil; Mine.ub_mt; Nat.add_le_add /ub1 /ub1; Mine.ub_app /ub1 /ub1; Mine.ub_lapp /ub1 /ub1; Mine.ub_cons /ub1; Mine.ub_map /ub1; Mine.ub_mul /ub1; Mine.ub_sub /ub1; Nat.le_trans /asm /ub0; Mine.ub_eq /asm /ub0; Mine.ub_ltc /asm /ub0"),
 ("ub2", "Mine.ub_n; Mine.ub_l /asm; Mine.ub_e /asm; Mine.ub_t /asm; Mine.ub_nil; Mine.ub_mt; Nat.add_le_add /ub2 /ub2; Mine.ub_app /ub2 /ub2; Mine.ub_lapp /ub2 /ub2; Mine.ub_cons /ub2; Mine.ub_map /ub2; Mine.ub_mul /ub2; Mine.ub_sub /ub2; Nat.le_trans /asm /ub1; Mine.ub_eq /asm /ub1; Mine.ub_ltc /asm /ub1"),
 ("ub3", "Mine.ub_n; Mine.ub_l /asm; Mine.ub_e /asm; Mine.ub_t /asm; Mine.ub_nil; Mine.ub_mt; Nat.add_le_add /ub3 /ub3; Mine.ub_app /ub3 /ub3; Mine.ub_lapp /ub3 /ub3; Mine.ub_cons /ub3; Mine.ub_map /ub3; Mine.ub_mul /ub3; Mine.ub_sub /ub3; Nat.le_trans /asm /ub2; Mine.ub_eq /asm /ub2; Mine.ub_ltc /asm /ub2"),
 ("om", "Mine.le_c /ub3 /tt; Mine.lt_c /ub3 /tt"),
 ("omega", ": ( =om ( 'lia ( ( ) )t:optConfig )t:lia ( 'omega ( ( ( ( '( splitDisjunctions ':= true ') )t:valConfigItem )t:configItem ) )t:optConfig )t:omega )|"),
 ("osz", ": ( =om ( ( 'rw ( ( ) )t:optConfig ( '[ ( ( ( ) sizeLine_eq )t:rwRule ) '] )t:rwRuleSeq ( ) )t:rwSeq ( ( 'lia ( ( ) )t:optConfig )t:lia ( 'omega ( ( ( ( '( splitDisjunctions ':= true ') )t:valConfigItem )t:configItem ) )t:optConfig )t:omega )| )& ( ( 'rw ( ( ) )t:optConfig ( '[ ( ( ( ) List.length_map )t:rwRule ', ( ( ) sizeLine_eq )t:rwRule ) '] )t:rwRuleSeq ( ) )t:rwSeq ( ( 'lia ( ( ) )t:optConfig )t:lia ( 'omega ( ( ( ( '( splitDisjunctions ':= true ') )t:valConfigItem )t:configItem ) )t:optConfig )t:omega )| )& )|"),
 ("asm", ": ( ( 'assumption )t:assumption )!"),
 ("tt", ": ( 'exact ( Eq.refl true )$ )t:exact")]
def tab10 : List (String × String) := [("kr", ": ( 'kernel_rfl )tacticKernel_rfl"),
 ("rfl", ": ( 'rfl )t:tacticRfl"),
 ("ff", ": ( 'exact ( Eq.refl false )$ )t:exact"),
 ("simp", ": ( 'simp ( ( ) )t:optConfig ( ) ( ) ( ) ( ) )t:simp"),
 ("deck", ": ( 'decide ( ( ( ( '+ kernel )t:posConfigItem )t:configItem ) )t:optConfig )t:decide"),
 ("dec", ": ( 'decide ( ( ) )t:optConfig )t:decide"),
 ("le", ": ( 'exact ( Nat.le_of_ble_eq_true rfl )$ )t:exact"),
 ("ik", ": ( ( 'rw ( ( ) )t:optConfig ( '[ ( ( ( ) I.k )t:rwRule ) '] )t:rwRuleSeq ( ) )t:rwSeq ( 'kernel_rfl )tacticKernel_rfl )&"),
 ("ml", ": ( ( 'rw ( ( ) )t:optConfig ( '[ ( ( ( ) map_len )t:rwRule ', ( ( ) sizeLine_eq )t:rwRule ) '] )t:rwRuleSeq ( ) )t:rwSeq ( 'decide ( ( ) )t:optConfig )t:decide )&"),
 ("ia", ": ( ( 'clear ( S ) )t:clear ( 'intro ( a' as' s' hl' S ) )t:intro )&"),
 ("hnd", ": ( ( 'exact hA'.handled )t:exact ( 'exact hA.handled )t:exact )|"),
 ("perm0", ": ( ( 'classical ( ( ( 'refine ( List.perm_iff_count.mpr ( 'λ ( ( xx ) ( ) '=> _ )T:basicFun )T:fun )$ )t:refine )& ( ( 'simp ( ( ) )t:optConfig ( ) ( 'only ) ( '[ ( ( ( ) ( ) List.count_append )t:simpLemma ', ( ( ) ( ) List.count_cons )t:simpLemma ', ( ( ) ( ) List.count_nil )t:simpLemma ', ( ( ) ( ) Nat.add_zero )t:simpLemma ', ( ( ) ( ) Nat.zero_add )t:simpLemma ', ( ( ) ( ) List.cons_append )t:simpLemma ', ( ( ) ( ) List.nil_append )t:simpLemma ', ( ( ) ( ) List.append_assoc )t:simpLemma ', ( ( ) ( ) List.append_nil )t:simpLemma ) '] ) ( ) )t:simp )& ( ( 'done )t:done ( 'omega ( ( ) )t:optConfig )t:omega ( 'ac_rfl )t:acRfl )| )} )t:classical )&"),
 ("perm", ": ( ( ( ( 'dsimp ( ( ( ( '( config ':= ( '{ ( ) ( ( ( ( zetaDelta ( ) )T:structInstLVal ( ( ) ( ) ( ':= ( ) true )T:structInstFieldDef ) )T:structInstField ) )T:structInstFields ( ( ) )T:optEllipsis ( ) '} )T:structInst ') )t:valConfigItem )t:configItem ) )t:optConfig ( ) ( 'only ) ( '[ ( ) '] ) ( ) )t:dsimp )? )& ( =pm =perm0 )| )&"),
 ("mem", ": ( =mem0 ( ( ( ( 'refine ( List.mem_cons_of_mem ~ _ )$ )t:refine )! )& =mem )& ( ( ( ( ( 'refine ( List.mem_cons_of_mem ~ _ )$ )t:refine )! )^ )& ( ( 'assumption )t:assumption )! )& )|"),
 ("len", ": ( ( ( 'assumption )t:assumption )! =om ( ( 'simp ( ( ) )t:optConfig ( ) ( 'only ) ( '[ ( ( ( ) ( ) Str.length_append )t:simpLemma ', ( ( ) ( ) aEI )t:simpLemma ', ( ( ) ( ) sizeLine_eq )t:simpLemma ) '] ) ( ) )t:simp ( 'omega ( ( ) )t:optConfig )t:omega )& )|"),
 ("sz", ": ( ( ( 'assumption )t:assumption )! ( 'exact ( Nat.le_of_ble_eq_true rfl )$ )t:exact =om ( 'decide ( ( ) )t:optConfig )t:decide ( ( 'simp ( ( ) )t:optConfig ( ) ( ) ( '[ ( ( ( ) ( ) sizeLine_eq )t:simpLemma ) '] ) ( ) )t:simp ( 'done )t:done )& )|"),
 ("ns", ": ( ( 'clear ( S ) )t:clear ( 'intro ( s' S ) )t:intro )&"),
 ("nt", ": ( ( 'clear ( S ) )t:clear ( 'intro ( t' s' S ) )t:intro )&"),
 ("na", ": ( ( 'clear ( S ) )t:clear ( 'intro ( a' s' S ) )t:intro )&"),
 ("kn", ": ( ( ( ( ( ( 'refine ( hKn ~ _ )$ )t:refine )! )& ( 'clear ( hKn hKr Kq ) )t:clear )& ( ( 'refine ( wpAny_execs_nil _ )$ )t:refine )! )| )*"),
 ("st", ": ( ( ( ( ( 'show ( wpAny ~ ~ ( execs ( List.drop ~ ~ )$ ~ )$ ~ ~ ~ )$ )t:show )! )^ )& =cw )*"),
 ("kv", ": ( ( ( ( 'refine ( hKr ~ ~ _ )$ )t:refine )! )& ( 'clear ( hKn hKr Kq ) )t:clear )*"),
 ("ke", ": ( ( ( ( ( ( 'refine ( hKn ~ _ )$ )t:refine )! )& ( 'clear ( hKn hKr Kq ) )t:clear )& ( ( ( ( 'refine ( hKr ~ ~ _ )$ )t:refine )! )& ( 'clear ( hKn hKr Kq ) )t:clear )& ( ( 'refine ( wpAny_execs_nil _ )$ )t:refine )! )| )*"),
 ("zd", ": ( ( 'dsimp ( ( ( ( '( config ':= ( '{ ( ) ( ( ( ( zetaDelta ( ) )T:structInstLVal ( ( ) ( ) ( ':= ( ) true )T:structInstFieldDef ) )T:structInstField ) )T:structInstFields ( ( ) )T:optEllipsis ( ) '} )T:structInst ') )t:valConfigItem )t:configItem ) )t:optConfig ( ) ( 'only ) ( '[ ( ) '] ) ( ( 'at ( ( S ) )t:locationHyp )t:location ) )t:dsimp )?"),
 ("zg", ": ( ( 'dsimp ( ( ( ( '( config ':= ( '{ ( ) ( ( ( ( zetaDelta ( ) )T:structInstLVal ( ( ) ( ) ( ':= ( ) true )T:structInstFieldDef ) )T:structInstField ) )T:structInstFields ( ( ) )T:optEllipsis ( ) '} )T:structInst ') )t:valConfigItem )t:configItem ) )t:optConfig ( ) ( 'only ) ( '[ ( ) '] ) ( ) )t:dsimp )?"),
 ("iK", ": ( ( 'intro ( Kq hKn hKr ) )t:intro ( 'refine ( letIn S _ )$ )t:refine ( 'clear ( S ) )t:clear ( 'intro ( lq Mq S ) )t:intro )&"),
 ("cK", ": ( 'clear ( hKn hKr Kq ) )t:clear"),
 ("pl", "pl_h; pl1; pl2; pl3; pl4; pl5; pl6; pl7; : ( =plR =pl )&"),
 ("plR", "@plS; @pl_c; @pl_n; @pl_s; @pl_t; @pl_a"),
 ("ps", "ps_h; ps_e; : ( =psR =ps )&"),
 ("psR", "@ps_c; @ps_n; @ps_s; @ps_t; @ps_a"),
 ("pm", "List.Perm.refl ~; : ( =pmR =pm )&"),
 ("pmR", "pm_cr _; pm_nr _; pm_sr _; pm_er _; pm_cl _; pm_nl _; pm_sl _; pm_el _; pm_k _; pm_a _; pm_p /pl _; pm_s /ps _"),
 ("put", "Put.head; put1; put2; put3; put4; put5; put6; put7; : ( =putR =put )&"),
 ("putR", "@putS; @Put.tail"),
 ("upd", "Upd.head; upd1; upd2; upd3; upd4; upd5; upd6; upd7; : ( =updR =upd )&"),
 ("updR", "@updS; @Upd.tail"),
 ("pull", "Pull.head; pull1; pull2; pull3; pull4; pull5; pull6; pull7; : ( =pullR =pull )&"),
 ("pullR", "@pullS; @Pull.tail"),
 ("mid", "Mid.head; : ( =midR =mid )&"),
 ("midR", "@midS; @Mid.tail; @Mid.app"),
 ("mem0", ": ( ( ( ( ( ( 'exact List.mem_cons_self )t:exact )! )^ )^ )& ( List.mem_of_getElem? @i=#0 rfl )e )&; : ( ( ( ( ( ( 'exact mem1 )t:exact )! )^ )^ )& ( List.mem_of_getElem? @i=#1 rfl )e )&; : ( ( ( ( ( ( 'exact mem2 )t:exact )! )^ )^ )& ( List.mem_of_getElem? @i=#2 rfl )e )&; : ( ( ( ( ( ( 'exact mem3 )t:exact )! )^ )^ )& ( List.mem_of_getElem? @i=#3 rfl )e )&; : ( ( ( ( ( ( 'exact mem4 )t:exact )! )^ )^ )& ( List.mem_of_getElem? @i=#4 rfl )e )&; : ( ( ( ( ( ( 'exact mem5 )t:exact )! )^ )^ )& ( List.mem_of_getElem? @i=#5 rfl )e )&; : ( ( ( ( ( ( 'exact mem6 )t:exact )! )^ )^ )& ( List.mem_of_getElem? @i=#6 rfl )e )&; : ( ( ( ( ( ( 'exact mem7 )t:exact )! )^ )^ )& ( List.mem_of_getElem? @i=#7 rfl )e )&; : ( ( ( ( ( ( 'exact mem8 )t:exact )! )^ )^ )& ( List.mem_of_getElem? @i=#8 rfl )e )&; : ( ( ( ( ( ( 'exact mem9 )t:exact )! )^ )^ )& ( List.mem_of_getElem? @i=#9 rfl )e )&; : ( ( ( ( ( ( 'exact mem10 )t:exact )! )^ )^ )& ( List.mem_of_getElem? @i=#10 rfl )e )&; : ( ( ( ( ( ( 'exact mem11 )t:exact )! )^ )^ )& ( List.mem_of_getElem? @i=#11 rfl )e )&; : ( ( ( ( ( ( 'exact mem12 )t:exact )! )^ )^ )& ( List.mem_of_getElem? @i=#12 rfl )e )&; : ( ( ( ( ( ( 'exact mem13 )t:exact )! )^ )^ )& ( List.mem_of_getElem? @i=#13 rfl )e )&; : ( ( ( ( ( ( 'exact mem14 )t:exact )! )^ )^ )& ( List.mem_of_getElem? @i=#14 rfl )e )&; : ( ( ( ( ( ( 'exact mem15 )t:exact )! )^ )^ )& ( List.mem_of_getElem? @i=#15 rfl )e )&; : ( ( ( ( ( ( 'exact mem16 )t:exact )! )^ )^ )& ( List.mem_of_getElem? @i=#16 rfl )e )&; : ( ( ( ( ( ( 'exact mem17 )t:exact )! )^ )^ )& ( List.mem_of_getElem? @i=#17 rfl )e )&; : ( ( ( ( ( ( 'exact mem18 )t:exact )! )^ )^ )& ( List.mem_of_getElem? @i=#18 rfl )e )&"),
 ("fld", ": ( ( 'exact aJf )t:exact )!; : ( ( 'exact m_data )t:exact )!; : ( ( 'exact aC8 )t:exact )!; : ( ( 'exact aEE )t:exact )!; : ( ( 'exact aDb )t:exact )!; : ( ( 'exact aDp )t:exact )!; : ( ( 'exact aCg )t:exact )!; : ( ( 'exact aCh )t:exact )!; : ( ( 'exact aBy )t:exact )!; : ( ( 'exact aB1 )t:exact )!; : ( ( 'exact aGl )t:exact )!; : ( ( 'exact aEF )t:exact )!; : ( ( 'exact aCP )t:exact )!; : ( ( 'exact aC9 )t:exact )!; : ( ( 'exact aFi )t:exact )!; : ( ( 'exact aFj )t:exact )!; : ( ( 'exact aDa )t:exact )!"),
 ("pfld", ": ( ( 'exact aI5 )t:exact )!; : ( ( 'exact p_data )t:exact )!; : ( ( 'exact aC2 )t:exact )!; : ( ( 'exact aEA )t:exact )!; : ( ( 'exact aC5 )t:exact )!; : ( ( 'exact aDo )t:exact )!; : ( ( 'exact aCe )t:exact )!; : ( ( 'exact aCf )t:exact )!; : ( ( 'exact aBw )t:exact )!; : ( ( 'exact aBZ )t:exact )!; : ( ( 'exact aGi )t:exact )!; : ( ( 'exact aEB )t:exact )!; : ( ( 'exact aCO )t:exact )!; : ( ( 'exact aC3 )t:exact )!; : ( ( 'exact aFd )t:exact )!; : ( ( 'exact aFe )t:exact )!; : ( ( 'exact aC4 )t:exact )!"),
 ("cw", "hKn ~ _ | cK; hKr ~ ~ _ | cK; aB3 _; ite_nf _; ite_nt _; aBt _; wpAny_execs_nil _; aFs _ | iK; wpAny_Return_some _; wpAny_Return_none _; wpAny_If _; wpAny_Constant_none _; wpAny_Constant_bool _; IfExp_ _; isTrue_not _; isTrue_and _; isTrue_and_nil _; isTrue_or _; isTrue_or_nil _; wpAny_truthy_bool _; truthy_none _; q_BinL S /mem _; wpAny_BinOp _; PyProof.Rows.eq_int _; PyProof.Rows.gt_int _; PyProof.Rows.lt_int _; evalPart_some_step _; evalPart_none_step _; aCM _; args_nil _; List_ _; Tuple_ _; joined _; joinP _; FormattedValue_plain _; wpAny_AugAssign_AttributeAny _; wpAny_AugAssign_Name _; UnaryOp_ _; callWith_type0 _; aIb _; aIa _; aH9 _; is_nn _; is_sn _; PyProof.Rows.truthy_int _; aGZ S /mem _ /tt; aFN _ /tt /tt; aBD _ /kr /kr /kr; aEy S /mem _ /ff; wpAny_isTrue_Compare1 _ /ff; aGX S /mem _; aFM _ /tt; q_CmpL S /mem _ /ff; wpAny_Compare1 _ /ff; q_AttL S /mem _; q_AttC S /asm /mem _; aI3 _ /tt; aCG _ /kr; Call_ _ /kr; aD1 _ /tt; aI2 S /mem _; aGY _ /tt; Sta.int_ S _ | nt; Sta.str_ S _ | nt; Sta.add S _ | nt; Sta.sub_ S _ | nt; Sta.iadd S _ | nt; Sta.isub S _ | nt; Sta.neg S _ | nt; Sta.local_ S /mem _; Sta.local' S /mem _; Sta.getM_list S /mem F.slot_list_append F.type_list_append _; Sta.getM_list S /mem F.slot_list_pop F.type_list_pop _; Sta.getM_list S /mem F.slot_list_insert F.type_list_insert _; Sta.cell S /asm /mem _; Sta.store S /put _ | ns; q_Expr _ /kr /tt; q_bi _ /tt; q_ty _ /tt; q_m1 _ /tt; aCS _ /tt; Sta.newList S /sz _ | na; Sta.newTuple S /sz _ | na; Sta.dict0 S _ | na; Sta.newSet S _ | na; JP.mk /len _; Sta.joinEnd S /len _ | nt; Sta.fmtS S /len _ | nt; Sta.addS S /len _ | nt; Sta.append S /upd /sz _ | ns; Sta.appendT S /upd /sz _ | ns; Sta.setAdd S /upd /sz _ | ns; Sta.truthyD S /mem /sz _ | ns; Sta.truthyL S /mem /sz _ | ns; Sta.truthyT S /mem /sz _ | ns; Sta.notInSet S /mem /sz _ | ns; Sta.getM_txts S /mem F.slot_list_append F.type_list_append _; Sta.getM_add S /mem /sz _; aHw /rfl _ | iK; aBS /le _; Sta.getF S /asm /mem /mem VV.keys /fld /rfl _ | ns; Sta.setattr S /asm /mem /upd VV.keys /pfld /dec _ | ns; Sta.getM_val S /asm /mem /mem VV.keys /fld /rfl _ | ns; q_K1 @K=K _ /tt; q_Kn @K=K _ /tt"),
 ("ev", ": =cw"),
 ("c", ": ( =cw )*")]
def tabD : List (String × String) := [("nd", ": ( ( 'clear ( S ) )t:clear ( 'intro ( d' s' S ) )t:intro )&"),
 ("cw", ": ( ( 'refine ( And.intro ( Sta.kin S )$ _ )$ )t:refine )!; aGh _; aG2 _; q_Wm /ik _ /tt; Sta.dictD0 S _ | na; Sta.mod S /dec _ | nt; Sta.fdiv S /dec /dec _ | nt; Sta.getM_inst @name=\"end @f=#133 S /asm /mem /mem VV.keys /deck /ik /ik _; Sta.getM_inst @name=\"pi @f=#147 S /asm /mem /mem VV.keys /deck /ik /ik _; Sta.getM_inst @name=\"comment @f=#140 S /asm /mem /mem VV.keys /deck /ik /ik _; Sta.getM_inst @name=\"data @f=#97 S /asm /mem /mem VV.keys /deck /ik /ik _; Sta.getM_inst @name=\"start @f=#120 S /asm /mem /mem VV.keys /deck /ik /ik _; Sta.dictLit /rfl /rfl /simp /le S _ | nd")]
def tabF : List (String × String) := [("cw", "assignInOrder_cons _; assignInOrder_nil _; : ( ( ( ( 'show ( wpAny ~ ~ ( assign ~ ~ ~ )$ ~ ~ ~ )$ )t:show )! )& ( ( ( 'refine ( assign_Name _ )$ )t:refine )! )& )&; q_W1 /ik _ /tt; Assign_Tuple _ /kr /kr; Sta.getM_txts S /mem F.slot_list_pop F.type_list_pop _; Sta.unpackT S /hnd /mem /kr /kr _ | ns; : ( ( ( ( ( 'show ( wpAny ~ ~ ( eval ( PySem.Expr.Subscript ~ ( PySem.Expr.Slice ~ ~ ~ ~ )$ ~ )$ ~ )$ ~ ~ ~ )$ )t:show )! )^ )& ( ( ( 'refine' ( aAf _ ( '? ht )T:syntheticHole )$ )t:refine' )! )& ( ( 'case ( ( ( ht )Lean.binderIdent ( ) )t:caseArg ) '=> ( ( 'intro ( ~ ~ ) )t:intro ( 'kernel_rfl )tacticKernel_rfl )} )t:case )& )&")]
def tabG : List (String × String) := [("cw", "Sta.txtList S /rfl /sz _ | na; Sta.txtTup S /rfl /sz _ | na")]
end Mine
end
set_option maxHeartbeats 8000000
local macro_rules | `(tactic| walk_at $s:str) => Mine.goAt Mine.tab0 s
local macro_rules | `(tactic| omega) => Mine.goAt Mine.tab0 (Lean.Syntax.mkStrLit "omega")
local macro_rules | `(tactic| obtain ⟨$ps,*⟩ := $e:term) => Mine.obTac (ps.getElems.map λ p => p.raw) e
section
namespace Mine
noncomputable abbrev Cell := Obj -> Prop
noncomputable abbrev Ledger := List (Addr × Cell)
noncomputable abbrev Loc := List (Str × Option Value)
structure Led (B : Heap) (nw : Ledger) (h : Heap) : Prop where
 keep : ∀ b o, B.get? b = some o -> h.get? b = some o
 own : ∀ p ∈ nw, B.get? p.1 = none /\ ∃ o, h.get? p.1 = some o /\ p.2 o
 nodup : (nw.map Prod.fst).Nodup
noncomputable def lk (loc : Loc) (x : Str) : Option Value := (loc.lookup x).join
noncomputable def IsNs (loc : Loc) : Cell := λ o => (loc.map Prod.fst).Nodup /\ ∃ es ep, o.data = .dict es ep /\ StrKeys es /\ ∀ name, nsFind es name = lk loc name
noncomputable def aAa (xs : List Value) : Cell := λ o => ∃ n, o = { cls := .type "list", data := .seq xs.toArray n }
noncomputable def aAo (xs : List Value) : Cell := λ o => ∃ n, o = { cls := .type "tuple", data := .seq xs.toArray n }
noncomputable def aAX (o₀ : Obj) : Cell := λ o => o = o₀
inductive Upd (a : Addr) (c c' : Cell) : Ledger -> Ledger -> Prop
 | head {r} : Upd a c c' ((a, c) :: r) ((a, c') :: r)
 | tail {p r r'} : Upd a c c' r r' -> Upd a c c' (p :: r) (p :: r')
inductive Put (x : Str) (v : Option Value) : Loc -> Loc -> Prop
 | head {u r} : Put x v ((x, u) :: r) ((x, v) :: r)
 | tail {p r r'} : Put x v r r' -> Put x v (p :: r) (p :: r')
theorem Upd.keys {a c c' l l'} (h : Upd a c c' l l') : l'.map Prod.fst = l.map Prod.fst := by
 induction h with
 | head => rfl
 | tail h ih => rw [List.map_cons, List.map_cons, ih]
theorem Upd.mem {a c c' l l'} (h : Upd a c c' l l') : (a, c) ∈ l := by
 induction h with
 | head => exact .head _
 | tail h ih => exact .tail _ ih
theorem Upd.from {a c c' l l'} (h : Upd a c c' l l') : (l.map Prod.fst).Nodup -> ∀ p ∈ l', p = (a, c') \/ (p ∈ l /\ p.1 ≠ a) := by
 induction h with
 | head =>
  intro nd p hp
  rw [List.map_cons, List.nodup_cons] at nd
  rcases List.mem_cons.mp hp with rfl | hp
  ·exact .inl rfl
  ·exact .inr ⟨.tail _ hp, λ e => nd.1 (List.mem_map.mpr ⟨p, hp, e⟩)⟩
 | tail h ih =>
  intro nd p hp
  rw [List.map_cons, List.nodup_cons] at nd
  rcases List.mem_cons.mp hp with rfl | hp
  ·exact .inr ⟨.head _, λ e => nd.1 (by rw [e]; exact List.mem_map_of_mem h.mem)⟩
  ·rcases ih nd.2 p hp with e | ⟨m, n⟩
   ·exact .inl e
   ·exact .inr ⟨.tail _ m, n⟩
namespace Led
variable {B h h' : Heap} {nw nw' : Ledger} {a : Addr} {c c' : Cell}
theorem get (D : Led B nw h) (m : (a, c) ∈ nw) : ∃ o, h.get? a = some o /\ c o := (D.own _ m).2
theorem size_ne (D : Led B nw h) : h.objs.size ∉ nw.map Prod.fst := λ m => by
 obtain ⟨p, hp, e⟩ := List.mem_map.mp m
 obtain ⟨o, ho, _⟩ := (D.own p hp).2
 exact absurd (Heap.lt_size ho) (by rw [e]; exact Nat.lt_irrefl _)
theorem size_new (D : Led B nw h) : B.get? h.objs.size = none := by
 cases q : B.get? h.objs.size with
 | none => rfl
 | some o => exact absurd (Heap.lt_size (D.keep _ _ q)) (Nat.lt_irrefl _)
theorem grow (D : Led B nw h) (k : ∀ b o, h.get? b = some o -> h'.get? b = some o) : Led B nw h' :=
 ⟨λ b o e => k _ _ (D.keep b o e), λ p hp => let ⟨x, o, ho, hc⟩ := D.own p hp; ⟨x, o, k _ _ ho, hc⟩, D.nodup⟩
theorem sub (D : Led B nw h) (s : List.Sublist nw' nw) : Led B nw' h :=
 ⟨D.keep, λ p hp => D.own p (s.subset hp), D.nodup.sublist (s.map _)⟩
theorem perm (D : Led B nw h) (s : List.Perm nw nw') : Led B nw' h :=
 ⟨D.keep, λ p hp => D.own p (s.mem_iff.mpr hp), (s.map Prod.fst).nodup_iff.mp D.nodup⟩
theorem tail {p : Addr × Cell} (D : Led B (p :: nw) h) : Led B nw h := D.sub (List.sublist_cons_self _ _)
theorem cons_new (D : Led B nw h) {o : Obj} (k : ∀ b o', h.get? b = some o' -> h'.get? b = some o') (hs : a ∉ nw.map Prod.fst) (hB : B.get? a = none) (ho : h'.get? a = some o) (hc : c o) : Led B ((a, c) :: nw) h' := by
 have G := D.grow k
 refine ⟨G.keep, λ p hp => ?_, ?_⟩
 ·rcases List.mem_cons.mp hp with rfl | hp
  ·exact ⟨hB, o, ho, hc⟩
  ·exact G.own p hp
 ·rw [List.map_cons, List.nodup_cons]; exact ⟨hs, D.nodup⟩
theorem new (D : Led B nw h) {o : Obj} (hf : o.isFreed = false) (hc : c o) : Led B ((h.objs.size, c) :: nw) (h.push o) :=
 D.cons_new (λ _ _ e => Heap.get?_push_of_some _ e) D.size_ne D.size_new (Heap.get?_push_size _ hf) hc
theorem set (D : Led B nw h) (U : Upd a c c' nw nw') (hs : ∀ b o, b ≠ a -> h.get? b = some o -> h'.get? b = some o) {o : Obj} (ho : h'.get? a = some o) (hc : c' o) : Led B nw' h' := by
 have hB := (D.own _ U.mem).1
 refine ⟨λ b o' e => hs b o' (λ q => by rw [q, hB] at e; cases e) (D.keep b o' e), λ p hp => ?_, by rw [U.keys]; exact D.nodup⟩
 rcases U.from D.nodup p hp with rfl | ⟨m, n⟩
 ·exact ⟨hB, o, ho, hc⟩
 ·obtain ⟨x, o', ho', hc'⟩ := D.own p m
  exact ⟨x, o', hs _ _ n ho', hc'⟩
theorem ne {b : Addr} {o : Obj} (D : Led B nw h) (m : (a, c) ∈ nw) (e : B.get? b = some o) : a ≠ b := λ q => by
 have := (D.own _ m).1
 rw [q, e] at this; cases this
end Led
end Mine
namespace Mine
theorem Put.keys {x : Str} {v : Option Value} {l l' : Loc} (h : Put x v l l') : l'.map Prod.fst = l.map Prod.fst := by
 induction h with
 | head => rfl
 | tail h ih => rw [List.map_cons, List.map_cons, ih]
theorem Put.mem {x : Str} {v : Option Value} {l l' : Loc} (h : Put x v l l') : x ∈ l.map Prod.fst := by
 induction h with
 | head => exact .head _
 | tail h ih => exact .tail _ ih
theorem Put.look {x : Str} {v : Option Value} {l l' : Loc} (h : Put x v l l') : (l.map Prod.fst).Nodup -> ∀ y, lk l' y = if y = x then v else lk l y := by
 induction h with
 | head =>
  intro _ y
  unfold lk
  rw [List.lookup_cons, List.lookup_cons]
  by_cases h : y = x
  ·subst h; simp
  ·rw [beq_eq_false_iff_ne.mpr h, if_neg h]
 | @tail p r r' h ih =>
  intro nd y
  rw [List.map_cons, List.nodup_cons] at nd
  have ih := ih nd.2 y
  unfold lk at ih ⊢
  rw [List.lookup_cons, List.lookup_cons]
  by_cases q : y = p.1
  ·have hx : ¬ y = x := λ e => nd.1 (by rw [← q, e]; exact h.mem)
   rw [if_neg hx, beq_iff_eq.mpr q]
  ·rw [beq_eq_false_iff_ne.mpr q]; exact ih
theorem aCi {x : Str} {v : Option Value} : ∀ {l : Loc}, (l.map Prod.fst).Nodup -> (x, v) ∈ l -> lk l x = v
 | p :: l, nd, m => by
  rw [List.map_cons, List.nodup_cons] at nd
  unfold lk
  rw [List.lookup_cons]
  rcases List.mem_cons.mp m with rfl | m
  ·simp
  ·have : x ≠ p.1 := λ e => nd.1 (by rw [← e]; exact List.mem_map.mpr ⟨_, m, rfl⟩)
   rw [beq_eq_false_iff_ne.mpr this]
   exact aCi nd.2 m
structure Wd where
 prog : Program
 w : World
 K : Frag
 B : Heap
 os : OsState
structure Wd.Ok (W : Wd) : Prop where
 kin : W.K.In W.B
 top : ∃ loose mean mg mb, Top topProg loose mean mg mb W.B
theorem Wd.Ok.g {W : Wd} (O : W.Ok) : ∃ mg, W.B.Ns mainGlobals mg := let ⟨_, _, _, _, T⟩ := O.top; ⟨_, T.g⟩
theorem Wd.Ok.b {W : Wd} (O : W.Ok) : ∃ mb, W.B.Ns builtinsNs mb /\ ∀ x : Str, x ≠ "__name__" -> mb x = bootBuiltins x := let ⟨_, _, _, _, T⟩ := O.top; ⟨_, T.b, T.builtins⟩
theorem Wd.Ok.nolimit {W : Wd} (O : W.Ok) : W.B.NoLimit := let ⟨_, _, _, _, T⟩ := O.top; T.nolimit
theorem Wd.Ok.bm {W : Wd} (O : W.Ok) : ∃ mg bm ob, W.B.Ns mainGlobals mg /\ mg "__builtins__" = some (.ref bm) /\ bm ≠ builtinsNs /\ bm ≠ mainGlobals /\ W.B.get? bm = some ob /\ ob.cls = .type "module" /\ ob.dict = some builtinsNs /\ ob.data = .plain := by
 obtain ⟨_, _, mg, _, T⟩ := O.top
 obtain ⟨bm, ob, h1, h2, h3, h4, h5, h6⟩ := T.bmain
 refine ⟨mg, bm, ob, T.g, h1, h2, λ q => ?_, h3, h4, h5, h6⟩
 obtain ⟨o, es, ep, e, hd, _⟩ := T.g
 rw [q, e] at h3
 cases h3
 rw [hd] at h6
 cases h6
structure EnvOk (env : Env) (ks : List Str) : Prop where
 fn : env.scope.kind = .function
 glob : env.globals = mainGlobals
 bi : env.builtins = builtinsNs
 kinds : ∀ x ∈ ks, env.kindOf x = some .local
 nodebug : ∀ x ∈ ks, (x == ("__debug__" : Str)) = false
 nodup : ks.Nodup
noncomputable abbrev Gens := List (Nat × GenState)
structure Sta (W : Wd) (G : Gens) (env : Env) (loc : Loc) (nw : Ledger) (s : Shared) : Prop where
 ok : W.Ok
 eok : EnvOk env (loc.map Prod.fst)
 led : Led W.B ((env.locals, IsNs loc) :: nw) s.heap
 bare : AllBare s.gens
 os : s.os = W.os
 gens : ∀ p ∈ G, s.gens[p.1]? = some p.2
 gnd : (G.map Prod.fst).Nodup
namespace Sta
variable {W : Wd} {G : Gens} {env : Env} {loc loc' : Loc} {nw nw' : Ledger} {s : Shared} {A : Around} {E : Value -> Shared -> Prop}
theorem kin (S : Sta W G env loc nw s) : W.K.In s.heap := S.ok.kin.keeps S.led.keep
theorem nolimit (S : Sta W G env loc nw s) : s.heap.NoLimit := S.ok.nolimit.keeps S.led.keep
theorem toks (S : Sta W G env loc nw s) (t : Nat) : Sta W G env loc nw { s with toks := t } := ⟨S.ok, S.eok, S.led, S.bare, S.os, S.gens, S.gnd⟩
theorem ns (S : Sta W G env loc nw s) : s.heap.Ns env.locals (lk loc) := by
 obtain ⟨o, ho, _, es, ep, hd, hk, hf⟩ := S.led.get (.head _)
 exact ⟨o, es, ep, ho, hd, hk, hf⟩
theorem get {a : Addr} {c : Cell} (S : Sta W G env loc nw s) (m : (a, c) ∈ nw) : ∃ o, s.heap.get? a = some o /\ c o := S.led.get (.tail _ m)
theorem grow (S : Sta W G env loc nw s) {h' : Heap} (k : ∀ b o, s.heap.get? b = some o -> h'.get? b = some o) (t : Nat) : Sta W G env loc nw { s with heap := h', toks := t } :=
 ⟨S.ok, S.eok, S.led.grow k, S.bare, S.os, S.gens, S.gnd⟩
theorem new (S : Sta W G env loc nw s) {o : Obj} {c : Cell} (hf : o.isFreed = false) (hc : c o) (t : Nat) : Sta W G env loc ((s.heap.objs.size, c) :: nw) { s with heap := s.heap.push o, toks := t } :=
 ⟨S.ok, S.eok, (S.led.new hf hc).perm (List.Perm.swap ..), S.bare, S.os, S.gens, S.gnd⟩
theorem set (S : Sta W G env loc nw s) {a : Addr} {c c' : Cell} {o : Obj} {h' : Heap} (U : Upd a c c' nw nw') (hs : ∀ b o, b ≠ a -> s.heap.get? b = some o -> h'.get? b = some o) (ho : h'.get? a = some o) (hc : c' o) (t : Nat) : Sta W G env loc nw' { s with heap := h', toks := t } :=
 ⟨S.ok, S.eok, S.led.set (.tail U) hs ho hc, S.bare, S.os, S.gens, S.gnd⟩
theorem sub (S : Sta W G env loc nw s) (h : List.Sublist nw' nw) : Sta W G env loc nw' s := ⟨S.ok, S.eok, S.led.sub (h.cons_cons _), S.bare, S.os, S.gens, S.gnd⟩
theorem perm (S : Sta W G env loc nw s) (h : List.Perm nw nw') : Sta W G env loc nw' s := ⟨S.ok, S.eok, S.led.perm (h.cons _), S.bare, S.os, S.gens, S.gnd⟩
theorem put (S : Sta W G env loc nw s) {x : Str} {v : Option Value} {h' : Heap} (P : Put x v loc loc') (hn : h'.Ns env.locals (λ y => if y = x then v else lk loc y)) (hs : Heap.SameBut env.locals s.heap h') (t : Nat) :
  Sta W G env loc' nw { s with heap := h', toks := t } := by
 obtain ⟨o, es, ep, ho, hd, hk, hf⟩ := hn
 have nd : (loc.map Prod.fst).Nodup := S.eok.nodup
 refine ⟨S.ok, by rw [P.keys]; exact S.eok, S.led.set (.head) (λ b o hb e => (hs.2 b hb).trans e) ho ⟨by rw [P.keys]; exact nd, es, ep, hd, hk, λ y => ?_⟩, S.bare, S.os, S.gens, S.gnd⟩
 rw [hf y, P.look nd]
theorem local_ {x : Str} {pos : Pos} {v : Value} {Q : Value -> Shared -> Prop} {M : Model} (S : Sta W G env loc nw s) (hv : (x, some v) ∈ loc) (h : Q v s) : wpAny M A (eval (.Name x pos) env) Q E s :=
 have hx : x ∈ loc.map Prod.fst := List.mem_map.mpr ⟨_, hv, rfl⟩
 wpAny_Name (wpAny_loadName_local S.eok.fn (S.eok.kinds _ hx) S.ns (aCi S.eok.nodup hv) h) (S.eok.nodebug _ hx)
theorem local' {x : Str} {v : Value} {Q : Value -> Shared -> Prop} {M : Model} (S : Sta W G env loc nw s) (hv : (x, some v) ∈ loc) (h : Q v s) : wpAny M A (loadName env x) Q E s :=
 have hx : x ∈ loc.map Prod.fst := List.mem_map.mpr ⟨_, hv, rfl⟩
 wpAny_loadName_local S.eok.fn (S.eok.kinds _ hx) S.ns (aCi S.eok.nodup hv) h
theorem store {x : Str} {v : Value} {Q : Unit -> Shared -> Prop} {M : Model} (S : Sta W G env loc nw s) (hp : Put x (some v) loc loc') (h : ∀ s', Sta W G env loc' nw s' -> Q () s') : wpAny M A (storeName env x v) Q E s := by
 refine wpAny_storeName_local (S.eok.kinds _ hp.mem) S.ns (λ h' hn hs => h _ (S.put hp hn hs _)) ?_
 rw [S.eok.fn]; rfl
theorem global {x : Str} {pos : Pos} {v : Value} {Q : Value -> Shared -> Prop} {M : Model} (S : Sta W G env loc nw s) (e : nsIn W.K mainGlobals x = some (some v)) (hx : env.kindOf x = some .globalImplicit) (h : Q v s) (hd : (x == ("__debug__" : Str)) = false := by decide +kernel) :
  wpAny M A (eval (.Name x pos) env) Q E s := by
 obtain ⟨mg, hg⟩ := S.ok.g
 exact Calls.Name_function_global S.eok.fn hx (Calls.loadGlobal_global (by rw [S.eok.glob]; exact hg.keeps S.led.keep) (mg_of S.ok.kin hg e) h) hd
theorem builtin {x : Str} {pos : Pos} {v : Value} {Q : Value -> Shared -> Prop} {M : Model} (S : Sta W G env loc nw s) (e : nsIn W.K mainGlobals x = some none) (hv : bootBuiltins x = some v) (hx : env.kindOf x = some .globalImplicit) (h : Q v s) (hn : x ≠ "__name__" := by decide +kernel) (hd : (x == ("__debug__" : Str)) = false := by decide +kernel) :
  wpAny M A (eval (.Name x pos) env) Q E s := by
 obtain ⟨mg, hg⟩ := S.ok.g
 obtain ⟨mb, hb, hbb⟩ := S.ok.b
 exact Calls.Name_function_global S.eok.fn hx (Calls.loadGlobal_builtin (by rw [S.eok.glob]; exact hg.keeps S.led.keep) (mg_none_of S.ok.kin hg e) (by rw [S.eok.bi]; exact hb.keeps S.led.keep) ((hbb x hn).trans hv) h) hd
end Sta
end Mine
end
section
namespace Mine
theorem aGd (xs : List Value) (a : Nat) : (slicePick xs.toArray (some (a : Int)) none none).toList = xs.drop a := by
 rw [slicePick_from']
theorem aGc (xs : List Value) (b : Nat) : (slicePick xs.toArray none (some (b : Int)) none).toList = xs.take b := by
 rw [slicePick_upto']
section
variable {W : Wd} {G : Gens} {env : Env} {loc loc' : Loc} {nw nw' : Ledger} {s : Shared} {A : Around} {E : Value -> Shared -> Prop}
theorem Sta.isList {a : Addr} {xs : List Value} (S : Sta W G env loc nw s) (m : (a, aAa xs) ∈ nw) : s.heap.IsList a xs.toArray := by
 obtain ⟨o, ho, n, rfl⟩ := S.get m
 exact ⟨_, ho, rfl, n, rfl⟩
theorem Sta.isL {a : Addr} {xs : List Value} (S : Sta W G env loc nw s) (m : (a, aAa xs) ∈ nw) : ∃ n, IsL s.heap a xs.toArray n := by
 obtain ⟨o, ho, n, rfl⟩ := S.get m
 exact ⟨n, ho⟩
theorem Sta.int_ {i : Int} {k : Nat} {pos : Pos} {Q : Value -> Shared -> Prop} {M : Model} (S : Sta W G env loc nw s) (h : ∀ t s', Sta W G env loc nw s' -> Q (.int i t) s') : wpAny M A (eval (.Constant (.int i) k pos) env) Q E s :=
 wpAny_Constant_int (h _ _ (S.toks _))
theorem Sta.str_ {x : Str} {k : Nat} {pos : Pos} {Q : Value -> Shared -> Prop} {M : Model} (S : Sta W G env loc nw s) (h : ∀ t s', Sta W G env loc nw s' -> Q (.str x t) s') : wpAny M A (eval (.Constant (.str x) k pos) env) Q E s :=
 wpAny_Constant_str (h _ _ (S.toks _))
theorem Sta.add {a b : Int} {t u : Tok} {Q : Value -> Shared -> Prop} (S : Sta W G env loc nw s) (h : ∀ t s', Sta W G env loc nw s' -> Q (.int (a + b) t) s') : wpAny (model W.prog W.w) A (binaryOp .Add (.int a t) (.int b u)) Q E s :=
 PyProof.Rows.add_int (h _ _ (S.toks _))
theorem Sta.sub_ {a b : Int} {t u : Tok} {Q : Value -> Shared -> Prop} (S : Sta W G env loc nw s) (h : ∀ t s', Sta W G env loc nw s' -> Q (.int (a - b) t) s') : wpAny (model W.prog W.w) A (binaryOp .Sub (.int a t) (.int b u)) Q E s :=
 PyProof.Rows.sub_int (h _ _ (S.toks _))
theorem Sta.mod {a b : Int} {t u : Tok} {Q : Value -> Shared -> Prop} (S : Sta W G env loc nw s) (hb : b ≠ 0) (h : ∀ t s', Sta W G env loc nw s' -> Q (.int (a.fmod b) t) s') : wpAny (model W.prog W.w) A (binaryOp .Mod (.int a t) (.int b u)) Q E s :=
 PyProof.Rows.mod_int hb (h _ _ (S.toks _))
noncomputable def aEU (W : Wd) (env : Env) (Q : Value -> Shared -> Prop) (o vl vu : Value) (s : Shared) : Prop :=
 ∃ G loc nw l xs lo hi, Sta W G env loc nw s /\ o = .ref l /\ (l, aAa xs) ∈ nw /\ xs.length <= sizeLine /\ IsPart vl lo /\ IsPart vu hi ∧
  ∀ a s', Sta W G env loc ((a, aAa (slicePick xs.toArray lo hi none).toList) :: nw) s' -> Q (.ref a) s'
theorem aFK {value : Expr} {lower upper : Option Expr} {p pos : Pos} {Q : Value -> Shared -> Prop}
  (h : wpAny (model W.prog W.w) A (eval value env) (λ o s₁ => wpAny (model W.prog W.w) A (evalPart lower env) (λ vl s₂ => wpAny (model W.prog W.w) A (evalPart upper env) (λ vu s₃ => aEU W env Q o vl vu s₃) E s₂) E s₁) E s)
  (ht : ∀ o r, letTemporaryGo value o r = pure () := by intro _ _; rfl) :
  wpAny (model W.prog W.w) A (eval (.Subscript value (.Slice lower upper none p) pos) env) Q E s := by
 refine wpAny_Subscript_list_slice (wpAny_mono h (λ o s₁ h₁ => wpAny_mono h₁ (λ vl s₂ h₂ => wpAny_mono h₂ (λ vu s₃ h₃ => ?_) λ _ _ e => e) λ _ _ e => e) λ _ _ e => e) ht
 obtain ⟨G, loc, nw, l, xs, lo, hi, S, rfl, m, hz, pl, pu, q⟩ := h₃
 refine ⟨l, xs.toArray, lo, hi, rfl, S.isList m, by simpa using hz, pl, pu, ?_⟩
 have S1 := S.grow (h' := s₃.heap.push { cls := .type "slice", data := .fields #[vl, vu, .none] }) (λ _ _ e => Heap.get?_push_of_some _ e) s₃.toks
 have S2 := S1.new (o := { cls := .type "list", data := .seq (slicePick xs.toArray lo hi none) }) (c := aAa (slicePick xs.toArray lo hi none).toList) rfl ⟨0, rfl⟩ s₃.toks
 have e : s₃.heap.objs.size + 1 = (s₃.heap.push { cls := .type "slice", data := .fields #[vl, vu, .none] }).objs.size := by rw [Heap.size_push]
 rw [e]
 exact q _ _ S2
theorem Sta.sum {a : Addr} {xs : List Value} {ns : List Int} {Q : Value -> Shared -> Prop} (S : Sta W G env loc nw s) (hh : A.handled = none) (m : (a, aAa xs) ∈ nw) (hi : IntsAre xs ns) (h : ∀ t s', Sta W G env loc nw s' -> Q (.int ns.sum t) s') :
  wpAny (model W.prog W.w) A (call (.builtin "sum") [.ref a]) Q E s := by
 obtain ⟨xs', e⟩ := hi.allInts.items
 have hl := S.isList m
 rw [e] at hl
 refine sum_intListG hh hl λ h' tk t' hk => ?_
 have q := h t' _ (S.grow hk tk)
 rw [preSum_eq, List.take_of_length_le (by simp)]
 have e2 : (xs'.toList.map (·.1)) = ns := by
  have := hi.numsOf
  rw [show xs = xs.toArray.toList from rfl, e, nums_intItems] at this
  simpa using this
 first | (rw [e2]; exact q) | (simpa [e2] using q)
end
end Mine
end
section
namespace Mine
noncomputable def aBM (p : Program) (i : Nat) : Stmt := p.main.body.getD i (.Pass default)
noncomputable def aBu (st : Stmt) (j : Nat) : Stmt := match st with
 | .ClassDef _ _ _ body _ _ _ _ _ _ _ => body.getD j (.Pass default)
 | st => st
noncomputable def aBB : Stmt -> Arguments
 | .FunctionDef _ a _ _ _ _ _ _ _ _ => a
 | _ => default
noncomputable def aE4 : Stmt -> List Stmt × List Stmt × Expr
 | .FunctionDef _ _ b _ _ _ _ _ _ _ => (b, [], .Name "" default)
 | .For t _ b _ _ => (b, [], t)
 | .If t b o _ => (b, o, t)
 | .While t b _ _ => (b, [], t)
 | .Expr e _ => ([], [], e)
 | _ => ([], [], .Name "" default)
noncomputable def aAm (st : Stmt) : List Stmt := (aE4 st).1
noncomputable def ifOr (st : Stmt) : List Stmt := (aE4 st).2.1
noncomputable def stE (st : Stmt) : Expr := (aE4 st).2.2
noncomputable def aAc : Stmt -> Scope
 | .FunctionDef _ _ _ _ _ _ sc _ _ _ => sc
 | _ => default
noncomputable def aAv (binds : List (Str × Value)) (rest : List Str) : Loc := binds.map (λ p => (p.1, some p.2)) ++ rest.map (λ k => (k, none))
theorem aB2 : ∀ (rest : List Str) (x : Str), lk (rest.map λ k => (k, none)) x = none
 | [], _ => rfl
 | k :: r, x => by
  unfold lk
  rw [List.map_cons, List.lookup_cons]
  cases x == k with
  | true => rfl
  | false => exact aB2 r x
theorem aBG : ∀ (binds : List (Str × Value)) (rest : List Str), (binds.map Prod.fst).Nodup -> ∀ x, lk (aAv binds rest) x = binds.reverse.lookup x
 | [], rest, _, x => aB2 rest x
 | (k, v) :: r, rest, nd, x => by
  rw [List.map_cons, List.nodup_cons] at nd
  have ih := aBG r rest nd.2 x
  have key : (r.reverse ++ [(k, v)]).lookup x = (r.reverse.lookup x).or (if x == k then some v else none) := by
   rw [List.lookup_append]
   congr 1
   rw [List.lookup_cons]
   cases x == k <;> rfl
  rw [List.reverse_cons, key]
  unfold lk aAv at ih ⊢
  rw [List.map_cons, List.cons_append, List.lookup_cons]
  by_cases h : x = k
  ·subst h
   have : r.reverse.lookup x = none := by
    rw [List.lookup_eq_none_iff]
    intro p hp
    rw [bne_iff_ne]
    exact λ e => nd.1 (List.mem_map.mpr ⟨p, List.mem_reverse.mp hp, e.symm⟩)
   rw [this]; simp
  ·rw [beq_eq_false_iff_ne.mpr h]
   simp only [Bool.false_eq_true, if_false, Option.or_none]
   exact ih
section
variable {W : Wd} {G : Gens} {env : Env} {loc loc' : Loc} {nw nw' : Ledger} {s : Shared} {A : Around} {E : Value -> Shared -> Prop}
noncomputable def aBs (sc : Scope) (ks : List Str) : Bool := sc.kind == .function && !sc.isCoroutine && !sc.isGenerator && (sc.names.all λ x => x.2 != .cell) && (ks.all λ x => sc.names.lookup x == some .local && !(x == ("__debug__" : Str))) && decide ks.Nodup
theorem Sta.code_def {R : Result -> Shared -> Prop} {f : Addr} {name qual : Str} {st : Stmt} {dV kV doc pm cdv ct oc : Value} {an od : Option Addr} {osl : Array (Option Value)} {args : Args} {binds : List (Str × Value)} (rest : List Str)
  (S : Sta W G env loc nw s) (hroom : A.depth < recursionLimit)
  (ho : W.K.lookup f = some ⟨oc, od, .func (fnOf name qual (aBB st) (aAm st) (aAc st) dV kV doc pm an cdv ct), osl⟩) (hcd : codeIn W.K cdv qual = true)
  (hbind : BindsTo s (fnOf name qual (aBB st) (aAm st) (aAc st) dV kV doc pm an cdv ct) args binds)
  (hk : aBs (aAc st) (binds.map Prod.fst ++ rest) = true)
  (h : ∀ L s', Sta W G (envOf qual (aAc st) L f cdv) (aAv binds rest) ((env.locals, IsNs loc) :: nw) s' ->
   wpAny (model W.prog W.w) (A.deeper (envOf qual (aAc st) L f cdv)) (execs (aAm st) (envOf qual (aAc st) L f cdv)) (λ fl s'' => R (.ok (.ret (match fl with | .ret v => v | _ => .none))) s'') (λ _ _ => False) s') :
  codeAny (model W.prog W.w) A (.call (.ref f) args) R s := by
 simp only [aBs, Bool.and_eq_true, beq_iff_eq, Bool.not_eq_true', List.all_eq_true, bne_iff_ne, decide_eq_true_eq] at hk
 obtain ⟨⟨⟨⟨⟨hkind, hco⟩, hgen⟩, hcell⟩, hks⟩, hnd⟩ := hk
 have hks2 : ((aAv binds rest).map Prod.fst) = binds.map Prod.fst ++ rest := by
  simp [aAv, List.map_map, Function.comp_def]
 refine (codeAny_call_def (fd := fnOf name qual (aBB st) (aAm st) (aAc st) dV kV doc pm an cdv ct) (body := aAm st) (binds := binds) hroom (S.kin _ _ ho) rfl S.nolimit (codeRec_of S.kin hcd) rfl hbind hcell
  (λ x hx => (hks x.1 (List.mem_append_left _ (List.mem_map.mpr ⟨x, hx, rfl⟩))).1) (λ h₁ hns hkp => ?_) hco hgen hkind)
 have D : Led W.B ((s.heap.objs.size, IsNs (aAv binds rest)) :: (env.locals, IsNs loc) :: nw) h₁ := by
  obtain ⟨o, es, ep, ho', hd, hsk, hf⟩ := hns
  refine S.led.cons_new hkp S.led.size_ne S.led.size_new ho' ⟨by rw [hks2]; exact hnd, es, ep, hd, hsk, λ x => ?_⟩
  rw [hf x, aBG _ _ (hnd.sublist (List.sublist_append_left _ _))]
 have S' : Sta W G (envOf qual (aAc st) s.heap.objs.size f cdv) (aAv binds rest) ((env.locals, IsNs loc) :: nw) { s with heap := h₁, toks := s.toks + binds.length } :=
  ⟨S.ok, by rw [hks2]; exact ⟨hkind, rfl, rfl, λ x hx => (hks x hx).1, λ x hx => (hks x hx).2, hnd⟩, D, S.bare, S.os, S.gens, S.gnd⟩
 exact wpAny_mono (h _ _ S') (λ fl s'' q => q) (λ _ _ q => q.elim)
theorem Sta.call_def {Q : Value -> Shared -> Prop} {f : Addr} {name qual : Str} {st : Stmt} {dV kV doc pm cdv ct oc : Value} {an od : Option Addr} {osl : Array (Option Value)} {args : Args} {binds : List (Str × Value)} (rest : List Str)
  (S : Sta W G env loc nw s) (hroom : A.depth < recursionLimit)
  (ho : W.K.lookup f = some ⟨oc, od, .func (fnOf name qual (aBB st) (aAm st) (aAc st) dV kV doc pm an cdv ct), osl⟩) (hcd : codeIn W.K cdv qual = true)
  (hbind : BindsTo s (fnOf name qual (aBB st) (aAm st) (aAc st) dV kV doc pm an cdv ct) args binds)
  (hk : aBs (aAc st) (binds.map Prod.fst ++ rest) = true)
  (h : ∀ L s', Sta W G (envOf qual (aAc st) L f cdv) (aAv binds rest) ((env.locals, IsNs loc) :: nw) s' ->
   wpAny (model W.prog W.w) (A.deeper (envOf qual (aAc st) L f cdv)) (execs (aAm st) (envOf qual (aAc st) L f cdv)) (λ fl s'' => Q (match fl with | .ret v => v | _ => .none) s'') (λ _ _ => False) s') :
  wpAny (model W.prog W.w) A (call (.ref f) args.pos args.kw) Q E s := wpAny_call (S.code_def rest hroom ho hcd hbind hk h)
theorem Sta.back {env' : Env} (S : Sta W G env' loc' ((env.locals, IsNs loc) :: nw) s) (S₀ : EnvOk env (loc.map Prod.fst)) : Sta W G env loc nw s :=
 ⟨S.ok, S₀, S.led.tail, S.bare, S.os, S.gens, S.gnd⟩
end
end Mine
end
section
namespace Mine
noncomputable def GetM (M : Model) (A : Around) (E : Value -> Shared -> Prop) (name : Str) (ov : Value) (Q : Value × List Value -> Shared -> Prop) (s : Shared) : Prop := ∀ pl, wpAny M A (getMethod ov name pl) Q E s
section
variable {M : Model} {env : Env} {s : Shared} {A : Around} {E : Value -> Shared -> Prop}
theorem aBD {o : Expr} {name : Str} {apos pos : Pos} {args : List Expr} {kws : List Keyword} {Q : Value -> Shared -> Prop}
  (h : wpAny M A (eval o env) (λ ov s₁ => GetM M A E name ov (λ p s₂ => wpAny M A (callWith pos p.1 p.2 (backTo pos (starEach args env)) (backToKw pos (keywordEach kws env))) Q E s₂) s₁) E s)
  (hbase : attributeBase o name env (eval o env) = eval o env) (hform : methodCallForm (args.length + kws.length) (backTo pos (starEach args env)) (backToKw pos (keywordEach kws env)) = true) (hline : (apos.endLine == pos.line) = true) :
  wpAny M A (eval (.Call (.Attribute o name apos) args kws pos) env) Q E s := by
 rw [arm_eval_Call, hbase]
 refine wpAny_bind (wpAny_mono h (λ ov s₁ h₁ => wpAny_bind (wpAny_standAt ?_)) λ _ _ e => e)
 have hpos : methodCallPos true o env apos pos = pure pos := by unfold methodCallPos; simp [hline]
 unfold methodCall
 rw [hform]
 exact wpAny_bind (wpAny_holding (wpAny_mono (h₁ _) (λ p s₂ h₂ => wpAny_bind (wpAny_of_eq hpos h₂)) λ _ _ e => e))
theorem aBa {name : Str} {ov : Value} {Q : Value × List Value -> Shared -> Prop} {T id : String} (pa : PlainAttrs T) (slot : Slot T name id) (hty : typeOf (.builtin id) = pure (.type "method_descriptor")) (hT : s.TypeIs ov T)
  (hd : ∀ a, ov = .ref a -> ∃ o, s.heap.get? a = some o /\ o.dict = none) (h : Q (.builtin id, [ov]) s) : GetM M A E name ov Q s := λ _ => getMethod_builtin hT pa slot hty hd h
theorem aCk {name : Str} {x : Str} {t : Tok} {Q : Value × List Value -> Shared -> Prop} {id : String} (slot : Slot "str" name id) (hty : typeOf (.builtin id) = pure (.type "method_descriptor")) (h : Q (.builtin id, [.str x t]) s) : GetM M A E name (.str x t) Q s :=
 aBa F.plainAttrs_str slot hty (typeIs_str _ _ _) (λ _ e => nomatch e) h
theorem aCM {pos : Pos} {id : String} {first : List Value} {Q : Value -> Shared -> Prop}
  (h : wpAny M A (call (.builtin id) first) Q E s) : wpAny M A (callWith pos (.builtin id) first (backTo pos (starEach [] env)) (backToKw pos (keywordEach [] env))) Q E s :=
 Calls.callWith_builtin rfl (PySem.evalArgs_none (by rw [List.append_nil]; exact h))
theorem aFw {pos : Pos} {id : String} {first : List Value} {e : Expr} {rest : List Expr} {Q : Value -> Shared -> Prop}
  (h : wpAny M A (spliced (backTo pos (starEach (e :: rest) env))) (λ vs s₁ => wpAny M A (call (.builtin id) (first ++ vs)) Q E s₁) E s)
  (he : starEach (e :: rest) env = (false, eval e env) :: starEach rest env)
  (hplain : (backTo pos (starEach rest env)).any (·.1) = false) :
  wpAny M A (callWith pos (.builtin id) first (backTo pos (starEach (e :: rest) env)) (backToKw pos (keywordEach [] env))) Q E s := by
 rw [he] at h ⊢
 exact Calls.callWith_builtin (by show (false || (backTo pos (starEach rest env)).any (·.1)) = false; rw [hplain]; rfl) (Calls.evalArgs_plain h)
end
section
variable {W : Wd} {G : Gens} {env : Env} {loc loc' : Loc} {nw nw' : Ledger} {s : Shared} {A : Around} {E : Value -> Shared -> Prop}
theorem Sta.getM_list {name : Str} {a : Addr} {xs : List Value} {Q : Value × List Value -> Shared -> Prop} {id : String} (S : Sta W G env loc nw s) (m : (a, aAa xs) ∈ nw) (slot : Slot "list" name id) (hty : typeOf (.builtin id) = pure (.type "method_descriptor")) (h : Q (.builtin id, [.ref a]) s) :
  GetM (model W.prog W.w) A E name (.ref a) Q s := by
 obtain ⟨n, hl⟩ := S.isL m
 exact aBa F.plainAttrs_list slot hty ⟨_, hl, rfl⟩ (λ b e => by cases e; exact ⟨_, hl, rfl⟩) h
theorem aHP {h : Heap} {a : Addr} {xs ys : List Value} {n : Nat} (hl : IsL h a xs.toArray n) (f : Array Value -> Array Value) (e : f xs.toArray = ys.toArray) : ∃ o, (h.update a (Obj.mapSeq f)).get? a = some o /\ aAa ys o := by
 refine ⟨_, IsL.update hl f, ?_⟩
 rw [e]; exact ⟨_, rfl⟩
theorem Sta.setL {a : Addr} {xs ys : List Value} {n : Nat} (S : Sta W G env loc nw s) (hl : IsL s.heap a xs.toArray n) (f : Array Value -> Array Value) (e : f xs.toArray = ys.toArray) (U : Upd a (aAa xs) (aAa ys) nw nw') (t : Nat) :
  Sta W G env loc nw' { s with heap := s.heap.update a (Obj.mapSeq f), toks := t } := by
 obtain ⟨o, ho, hc⟩ := aHP hl f e
 exact S.set U (λ b o hb e => ((Heap.SameBut.update s.heap a _).2 b hb).trans e) ho hc t
theorem Sta.append {a : Addr} {xs : List Value} {v : Value} {Q : Value -> Shared -> Prop} (S : Sta W G env loc nw s) (U : Upd a (aAa xs) (aAa (xs ++ [v])) nw nw') (hz : xs.length <= sizeLine) (h : ∀ s', Sta W G env loc nw' s' -> Q .none s') :
  wpAny (model W.prog W.w) A (call (.builtin "list.append") [.ref a, v]) Q E s := by
 obtain ⟨n, hl⟩ := S.isL U.mem
 exact call_meets F.slot_list_append ⟨_, hl, rfl⟩ F.entry_list_append (F.args_list_append_2 _ _) (list_append a xs.toArray n v (by simpa using hz)) ⟨hl, h _ (S.setL hl _ (by simp) U _)⟩
theorem Sta.pop {a : Addr} {xs : List Value} {v : Value} {Q : Value -> Shared -> Prop} (S : Sta W G env loc nw s) (U : Upd a (aAa (xs ++ [v])) (aAa xs) nw nw') (hz : xs.length < sizeLine) (h : ∀ s', Sta W G env loc nw' s' -> Q v s') :
  wpAny (model W.prog W.w) A (call (.builtin "list.pop") [.ref a]) Q E s := by
 obtain ⟨n, hl⟩ := S.isL U.mem
 refine call_meets F.slot_list_pop ⟨_, hl, rfl⟩ F.entry_list_pop (F.args_list_pop_1 _) (MeetsSeq.list_pop_last a (xs ++ [v]).toArray n v (by simp) (by simp; omega)) ⟨hl, h _ (S.setL hl _ ?_ U _)⟩
 simp [Array.eraseIdxIfInBounds, List.eraseIdx_append_of_length_le]
theorem Sta.len {a : Addr} {xs : List Value} {Q : Value -> Shared -> Prop} (S : Sta W G env loc nw s) (m : (a, aAa xs) ∈ nw) (hz : xs.length <= sizeLine) (h : ∀ t s', Sta W G env loc nw s' -> Q (.int xs.length t) s') :
  wpAny (model W.prog W.w) A (call (.builtin "len") [.ref a]) Q E s := by
 have q := h (s.toks + 1) _ (S.toks (s.toks + 1 + 1))
 refine len_list (S.isList m) ?_ ?_
 ·rw [sizeLine_eq] at hz; simp; omega
 ·simpa using q
theorem Sta.newList {vs : List Value} {Q : Value -> Shared -> Prop} {M : Model} (S : Sta W G env loc nw s) (hz : vs.length <= sizeLine) (h : ∀ a s', Sta W G env loc ((a, aAa vs) :: nw) s' -> Q (.ref a) s') : wpAny M A (newList vs) Q E s :=
 wpAny_newObj_type (h _ _ (S.new (c := aAa vs) rfl ⟨0, rfl⟩ s.toks)) (by show vs.toArray.size <= sizeLine; rw [List.size_toArray]; exact hz)
theorem Sta.newTuple {vs : List Value} {Q : Value -> Shared -> Prop} {M : Model} (S : Sta W G env loc nw s) (hz : vs.length <= sizeLine) (h : ∀ a s', Sta W G env loc ((a, aAo vs) :: nw) s' -> Q (.ref a) s') : wpAny M A (newTuple vs) Q E s :=
 wpAny_newObj_type (h _ _ (S.new (c := aAo vs) rfl ⟨0, rfl⟩ s.toks)) (by show vs.toArray.size <= sizeLine; rw [List.size_toArray]; exact hz)
end
end Mine
end
section
namespace Mine
noncomputable def cnt (vals : Loc) : Nat := (vals.filter λ p => p.2.isSome).length
noncomputable def aAl (vals : Loc) : Cell := λ o => (vals.map Prod.fst).Nodup /\ o.cls = .type "dict" /\ ∃ es ep, o.data = .dict es ep /\ StrKeys es /\ (∀ name, nsFind es name = lk vals name) /\ es.size = cnt vals
noncomputable def aAu (C d : Addr) : Cell := λ o => o = instObj C d
theorem aDe {name : Str} {o : Obj} {es ep} {r : Option Value} (hd : o.data = .dict es ep) (hk : StrKeys es) (hf : nsFind es name = r) : lookIn name o = some r := by
 unfold lookIn
 rw [hd]
 dsimp only
 unfold nsFind findBy at hf
 rw [← Array.find?_toList] at hf
 cases q : es.toList.find? (λ e => e.key.isStr name) with
 | some e => rw [q] at hf; rw [← hf]; rfl
 | none =>
  rw [q] at hf
  rw [← hf]
  have : es.toList.any (·.refKey) = false := by
   rw [List.any_eq_false]
   intro e he
   obtain ⟨n, t, h⟩ := hk e (Array.mem_toList_iff.mp he)
   simp [DictEntry.refKey, h]
  simp [this]
structure Cl (K : Frag) (C : Addr) (names : List Str) : Prop where
 ga : findIn K (.ref C) "__getattribute__" = some (some (.builtin "object.__getattribute__"))
 gh : findIn K (.ref C) "__getattr__" = some none
 sa : findIn K (.ref C) "__setattr__" = some (some (.builtin "object.__setattr__"))
 plain : plainOver K C = true
 dict : hasDictIn K C = true
 own : ∀ n ∈ names, findIn K (.ref C) n = some none
section
variable {W : Wd} {G : Gens} {env : Env} {loc loc' : Loc} {nw nw' : Ledger} {s : Shared} {A : Around} {E : Value -> Shared -> Prop} {C x d : Addr} {names : List Str} {vals vals' : Loc}
theorem Sta.inst (S : Sta W G env loc nw s) (mx : (x, aAu C d) ∈ nw) (md : (d, aAl vals) ∈ nw) : ∃ od, InstAt s.heap x (instObj C d) C (some od) /\ aAl vals od := by
 obtain ⟨o, ho, rfl⟩ := S.get mx
 obtain ⟨od, hod, hc⟩ := S.get md
 exact ⟨od, ⟨ho, rfl, rfl, hod⟩, hc⟩
theorem Sta.getattr {name : Str} {v : Value} {expr : Bool} {Q : Value -> Shared -> Prop} (S : Sta W G env loc nw s) (c : Cl W.K C names) (mx : (x, aAu C d) ∈ nw) (md : (d, aAl vals) ∈ nw) (hk : vals.map Prod.fst = names) (hv : (name, some v) ∈ vals) (hh : handedIn v = true)
  (h : ∀ s', Sta W G env loc nw s' -> Q v s') : wpAny (model W.prog W.w) A (getAttr (.ref x) name expr) Q E s := by
 obtain ⟨od, I, nd, _, es, ep, hd, hsk, hf, _⟩ := S.inst mx md
 have hn : findIn W.K (.ref C) name = some none := c.own _ (by rw [← hk]; exact List.mem_map.mpr ⟨_, hv, rfl⟩)
 exact get_value S.kin I c.ga (findObj_own c.dict hn rfl (aDe hd hsk ((hf name).trans (aCi nd hv)))) hh (h _ (S.toks _))
theorem Sta.getM_inst {name : Str} {f : Addr} {Q : Value × List Value -> Shared -> Prop} (S : Sta W G env loc nw s) (c : Cl W.K C names) (mx : (x, aAu C d) ∈ nw) (md : (d, aAl vals) ∈ nw) (hk : vals.map Prod.fst = names) (hn : name ∉ names)
  (hf : findIn W.K (.ref C) name = some (some (.ref f))) (ht : typeIn W.K (.ref f) = some (.type "function")) (h : Q (.ref f, [.ref x]) s) : GetM (model W.prog W.w) A E name (.ref x) Q s := λ pl => by
 obtain ⟨od, I, nd, _, es, ep, hd, hsk, hl, _⟩ := S.inst mx md
 have hno : lk vals name = none := by
  unfold lk
  rw [List.lookup_eq_none_iff.mpr]
  ·rfl
  ·intro p hp
   rw [bne_iff_ne]
   exact λ e => hn (by rw [← hk, e]; exact List.mem_map.mpr ⟨p, hp, rfl⟩)
 exact method_fn S.kin I c.ga c.gh hf ht (by show (lookIn name od).map _ = _; rw [aDe hd hsk ((hl name).trans hno)]; rfl) h
theorem Put.cnt {y : Str} {v : Value} {l l' : Loc} (h : Put y (some v) l l') : (l.map Prod.fst).Nodup -> cnt l' = if (lk l y).isSome then cnt l else cnt l + 1 := by
 induction h with
 | @head u r =>
  intro _
  unfold Mine.cnt lk
  cases u <;> simp
 | @tail p r r' h ih =>
  intro nd
  rw [List.map_cons, List.nodup_cons] at nd
  have ih := ih nd.2
  have hne : y ≠ p.1 := λ e => nd.1 (e ▸ h.mem)
  have e1 : lk (p :: r) y = lk r y := by unfold lk; rw [List.lookup_cons, beq_eq_false_iff_ne.mpr hne]
  rw [e1]
  unfold Mine.cnt at ih ⊢
  cases q : p.2.isSome <;> simp only [List.filter_cons, q, if_true, Bool.false_eq_true, if_false, List.length_cons] <;> rw [ih] <;> split <;> rfl
theorem aD2 {name : Str} {hsh : Int} {t : Tok} {v : Value} {o : Obj} (h : aAl vals o) (P : Put name (some v) vals vals') :
  aAl vals' (Obj.putName name hsh (.str name t) v o) /\ (Obj.putName name hsh (.str name t) v o).isFreed = false /\ ∃ es ep, (Obj.putName name hsh (.str name t) v o).data = .dict es ep /\ es.size <= vals.length := by
 obtain ⟨nd, hcl, es, ep, hd, hk, hf, hz⟩ := h
 obtain ⟨c, di, dt, sl⟩ := o
 dsimp only at hd hcl
 subst hd hcl
 have cz : cnt vals' <= vals.length := by
  have : vals'.length = vals.length := by have := congrArg List.length P.keys; simpa using this
  rw [← this]; exact List.length_filter_le _ _
 have hc := P.cnt nd
 rw [Obj.putName_eq]
 unfold Obj.putNameByArray
 dsimp only
 cases hi : es.findIdx? (·.key.isStr name) with
 | some i =>
  have hs : (lk vals name).isSome = true := by
   rw [← hf]; unfold nsFind; rw [findBy_of_findIdx?, hi]
   have := Array.findIdx?_eq_some_iff_getElem.mp hi
   obtain ⟨hlt, _⟩ := this
   simp [hlt]
  rw [if_pos hs] at hc
  refine ⟨⟨by rw [P.keys]; exact nd, rfl, _, _, rfl, hk.modify _ _, λ y => ?_, by simp [hz, hc]⟩, rfl, _, _, rfl, by simp [hz, ← hc]; exact cz⟩
  rw [P.look nd, ← hf]; exact findBy_modify (λ n v => v.isStr n) Value.isStr_inj es name y v i hi
 | none =>
  have hs : (lk vals name).isSome = false := by
   rw [← hf]; unfold nsFind; rw [findBy_of_findIdx?, hi]; rfl
  rw [if_neg (by rw [hs]; decide)] at hc
  refine ⟨⟨by rw [P.keys]; exact nd, rfl, _, _, rfl, hk.push _ _ _ _, λ y => ?_, by simp [hz, hc]⟩, rfl, _, _, rfl, by simp [hz, ← hc]; exact cz⟩
  rw [P.look nd, ← hf]
  exact findBy_push (λ n v => v.isStr n) es name y _ _ v (λ y => by
   show (name == y) = decide (y = name)
   by_cases h : y = name
   ·subst h; simp
   ·have : ¬ name = y := λ e => h e.symm
    simp [h, this]) hi
theorem Sta.setattr {name : Str} {v : Value} {Q : Unit -> Shared -> Prop} (S : Sta W G env loc nw s) (c : Cl W.K C names) (mx : (x, aAu C d) ∈ nw) (U : Upd d (aAl vals) (aAl vals') nw nw') (hk : vals.map Prod.fst = names) (P : Put name (some v) vals vals') (hz : names.length <= 1000)
  (h : ∀ s', Sta W G env loc nw' s' -> Q () s') : wpAny (model W.prog W.w) A (setAttr (.ref x) name v) Q E s := by
 obtain ⟨od, I, ha⟩ := S.inst mx U.mem
 have hn : findIn W.K (.ref C) name = some none := c.own _ (by rw [← hk]; exact P.mem)
 have ht : takerIn W.K C name = some none := by unfold takerIn; rw [hn]; rfl
 refine set_plain S.kin I c.sa ?_
 have S1 := S.toks (s.toks + 1)
 refine osa_open (s := { s with toks := s.toks + 1 }) S1.kin I c.plain ht λ b => ?_
 obtain ⟨cd, hc, hd'⟩ := any_some c.dict
 obtain ⟨hx, -, -, hdx⟩ := I
 have hdx' : s.heap.get? d = some od := hdx
 obtain ⟨A1, A2, es', ep', A3, A4⟩ := aD2 (hsh := PyData.keyHash W.w.params name) (t := s.toks + 1) ha P
 obtain ⟨nd, hcl, es, ep, hd, hsk, hf, hsz⟩ := ha
 refine wpAny_bind (wpAny_pure (wpAny_bind (wpAny_bind (wpAny_loadPart hx (wpAny_bind ((looks_clsIn S1.kin hc).here ?_))))))
 rw [hd']
 refine wpAny_pure (a := some d) (wpAny_bind (wpAny_pure (wpAny_bind ?_)))
 refine wpAny_bind (wpAny_bind (wpAny_askSetting (wpAny_pure (wpAny_bind (wpAny_mkText (wpAny_bind (wpAny_loadPart hdx' ?_)))))))
 rw [hd]
 dsimp only
 have hany : es.any (·.refKey) = false := by
  rw [Array.any_eq_false']; intro e he; obtain ⟨n, t, h⟩ := hsk e he; simp [DictEntry.refKey, h]
 rw [aRefKeyMayBeTheName_at, hany, Bool.and_false]
 refine wpAny_updatePart hdx' ?_
 have D' := Heap.get?_update_self (Obj.putName name (PyData.keyHash W.w.params name) (.str name (s.toks + 1)) v) hdx' A2
 refine wpAny_bind (wpAny_lookBehind D' (by rw [A3]; exact pastItsLine_dict (by rw [sizeLine_eq]; have : vals.length = names.length := (by rw [← hk]; simp); omega)) ?_)
 exact wpAny_pure (h _ (S.set U (λ b o hb e => ((Heap.SameBut.update s.heap d _).2 b hb).trans e) D' A1 _))
end
end Mine
end
section
namespace Mine
section
variable {prog : Program} {w : World} {A : Around} {c : Code} {fs : List Frame} {P : End -> Shared -> Prop} {s : Shared}
theorem aIQ {α : Type} {m : Sem α} {K : α -> Sem Fin} {H : Value -> Sem Fin} {gd lv} (h : wpAny (model prog w) (A.over c fs) m (λ a s' => SegX (model prog w) A c (K a) fs s' P) (λ x s' => SegX (model prog w) A c (H x) fs s' P) s) :
  SegX (model prog w) A c (m.wrap K H gd lv) fs s P := by
 rintro Γ p rfl hΓ
 obtain ⟨e, s', hr, hq⟩ := runs_wrap_of_wp (Φ := λ e s' => e.quiet = true /\ P e s') K H gd lv m (h (Γ.over fs) p (hΓ.over fs)) (λ a p' s' h' => h' Γ p' rfl hΓ) (λ x p' s' h' => h' Γ p' rfl hΓ)
 exact ⟨e, s', hr, hq⟩
theorem aGA {α β : Type} (m : Sem α) (f : α -> Sem β) {K : β -> Sem Fin} {H : Value -> Sem Fin} {gd lv} : (m >>= f).wrap K H gd lv = m.wrap (λ a => (f a).wrap K H gd lv) H gd lv := by
 rw [Sem.bind_eq_wrap', Sem.wrap_wrap]; rfl
theorem aEo {α : Type} (m : Sem α) (h : Value -> Sem Unit) {K : α -> Sem Fin} {H : Value -> Sem Fin} {gd lv} : (m.onRaise h).wrap K H gd lv = m.wrap K (λ e => ((h e).bind λ _ => (.raise e : Sem α)).wrap K H gd lv) gd lv := by
 rw [Sem.onRaise_eq_wrap, Sem.wrap_wrap]; rfl
theorem aBY {α β : Type} {m : Sem α} {f : α -> Sem β} {K : β -> Sem Fin} {H : Value -> Sem Fin} {gd lv} (h : SegX (model prog w) A c (m.wrap (λ a => (f a).wrap K H gd lv) H gd lv) fs s P) : SegX (model prog w) A c ((m >>= f).wrap K H gd lv) fs s P := by
 rw [aGA]; exact h
theorem aAt {α β : Type} {m : Sem α} {f : α -> Sem β} {K : β -> Sem Fin} {H : Value -> Sem Fin} {gd lv} (h : wpAny (model prog w) (A.over c fs) m (λ a s' => SegX (model prog w) A c ((f a).wrap K H gd lv) fs s' P) (λ x s' => SegX (model prog w) A c (H x) fs s' P) s) : SegX (model prog w) A c ((m >>= f).wrap K H gd lv) fs s P :=
 aBY (aIQ h)
theorem aF9 {α : Type} {m : Sem α} {h : Value -> Sem Unit} {K : α -> Sem Fin} {H : Value -> Sem Fin} {gd lv} (x : SegX (model prog w) A c (m.wrap K (λ e => ((h e).bind λ _ => (.raise e : Sem α)).wrap K H gd lv) gd lv) fs s P) : SegX (model prog w) A c ((m.onRaise h).wrap K H gd lv) fs s P := by
 rw [aEo]; exact x
theorem aGF {t : Sem Fin} (h : SegX (model prog w) A c (t.wrap .pure .raise id id) fs s P) : SegX (model prog w) A c t fs s P := by
 have : ∀ t : Sem Fin, t.wrap .pure .raise id id = t := λ t => by induction t <;> simp only [Sem.wrap, id, *]
 rw [this] at h; exact h
theorem aFE {t : Sem Fin} {h : Value -> Sem Unit} (x : SegX (model prog w) A c (t.wrap .pure (λ e => (h e).bind λ _ => .raise e) id id) fs s P) : SegX (model prog w) A c (t.onRaise h) fs s P := by
 rw [Sem.onRaise_eq_wrap]; exact x
theorem aDk {id : String} {args : Args} {b : Builtin} (h : entryFor table id = some b) : denote table (.builtin id args) = b args := by
 show (match entryFor table id with | some b => b args | none => _) = _
 rw [h]
end
theorem aF1 : entryFor table "proto.yield_from" = some Builtin.«proto.yield_from» := entryFor_of_tree (by kernel_rfl)
theorem aFm : typeLookup (.type "list_iterator") "close" = pure none := by rw [typeLookup_type, builtinLookup_eq_fast]; kernel_rfl
noncomputable abbrev aBc (it : Addr) : Code := .builtin "proto.yield_from" ⟨[.ref it, .bool false, .none], []⟩
section
variable {prog : Program} {w : World} {A : Around} {fs : List Frame} {P : End -> Shared -> Prop} {s : Shared}
theorem aII {it l : Addr} {i : Nat} {xs : Array Value} {v : Value} (hit : s.heap.IsListIter it l i) (hl : s.heap.IsList l xs) (hx : xs[i]? = some v) (hfs : splitAtGen fs = none) (hfg : fs.any Frame.guarded = false)
  (h : ∀ k lv p h', h'.IsListIter it l (i + 1) -> Heap.SameBut it s.heap h' ->
   (∀ A' fs' s' P', s'.TypeIs (.ref it) "list_iterator" -> SegX (model prog w) A' (aBc it) (denote table (aBc it)) fs' s' P' -> SegX (model prog w) A' (aBc it) (k (.send .none)) fs' s' P') ->
   P (.susp v false lv k (aBc it) p fs) { s with heap := h' }) :
  SegX (model prog w) A (aBc it) (denote table (aBc it)) fs s P := by
 rw [aDk aF1]
 refine aGF ?_
 refine aAt (wpAny_pure ?_)
 obtain ⟨o, ho, hc, hd⟩ := id hit
 obtain ⟨ol, hol, _, nl, hdl⟩ := hl
 refine aAt (wpAny_attempt (wpAny_holding ?_))
 refine wpAny_bind (wpAny_rule (wpAny_bind (wpAny_callSpecial?_slot (name := Str.ofString "__next__") hit.typeIs slot_listiter_next
  (wpAny_call_entry slot_listiter_next hit.typeIs entry_listiter_next ?_ (args_listiter_next _)))))
 show wpAny _ _ (field (.ref it) 0 >>= _) _ _ s
 refine wpAny_bind (wpAny_field ho hd (x := .ref l) rfl ?_)
 refine wpAny_bind (wpAny_field ho hd (x := .int i 0) rfl ?_)
 refine wpAny_bind (wpAny_seqItems hol hdl ?_)
 simp only [Int.toNat_natCast, hx]
 refine wpAny_bind (wpAny_setField ho hd (by simp) (wpAny_pure ⟨v, rfl, wpAny_pure ?_⟩))
 have hs' := Heap.SameBut.update s.heap it (Obj.mapFields λ vs => vs.setIfInBounds 1 (rawInt ((i : Int) + 1)))
 have hit' : (s.heap.update it (Obj.mapFields λ vs => vs.setIfInBounds 1 (rawInt ((i : Int) + 1)))).IsListIter it l (i + 1) :=
  ⟨_, Heap.get?_update_self _ ho (Obj.isFreed_of_fields (Obj.data_mapFields hd _)), (Obj.cls_mapFields ..).trans hc, by rw [Obj.data_mapFields hd]; simp [rawInt]⟩
 generalize (s.heap.update it (Obj.mapFields λ vs => vs.setIfInBounds 1 (rawInt ((i : Int) + 1)))) = h' at hs' hit' ⊢
 have hT' : ({ s with heap := h' } : Shared).TypeIs (.ref it) "list_iterator" := hit'.typeIs (s := { s with heap := h' })
 obtain ⟨o', ho', hc', hd'⟩ := id hit'
 refine aAt (wpAny_typeOf hT' ?_)
 refine aAt (wpAny_of_eq aFm ?_)
 refine aAt (wpAny_pure ?_)
 have slept : ∀ b (s' : Shared), s'.TypeIs (.ref it) "list_iterator" -> ∀ (A' : Around) (Q : Unit -> Shared -> Prop) (E : Value -> Shared -> Prop), Q () s' -> wpAny (model prog w) A' (Builtin.Generator.sleptOver (.ref it) b) Q E s' := λ b s' hT A' Q E hq => by
  obtain ⟨o₁, ho₁, hc₁⟩ := hT
  refine wpAny_bind (wpAny_load ho₁ ?_)
  rw [hc₁]
  exact wpAny_pure hq
 refine aAt (slept _ _ hT' _ _ _ ?_)
 refine s_yield _ _ _ _ _ _ _ _ _ _ hfs hfg λ p => ?_
 refine h _ _ p h' hit' hs' λ A' fs' s' P' hT hseg => ?_
 refine aAt (wpAny_pure ?_)
 refine aAt (slept _ _ hT _ _ _ ?_)
 refine aAt (wpAny_of_eq (a := Value.none) rfl ?_)
 exact s_again _ _ _ _ _ _ _ _ (Code.quiet_builtin _ (by decide +kernel)) hseg
theorem yf_end {it l : Addr} {i : Nat} {xs : Array Value} (hA : (A.over (aBc it) fs).handled = none) (hit : s.heap.IsListIter it l i) (hl : s.heap.IsList l xs) (hx : xs[i]? = none)
  (h : ∀ h', Heap.ExtBut it s.heap h' -> SegX (model prog w) A (aBc it) (leafOf (.ok (.ret .none))) fs { s with heap := h' } P) :
  SegX (model prog w) A (aBc it) (denote table (aBc it)) fs s P := by
 rw [aDk aF1]
 refine aGF ?_
 refine aAt (wpAny_pure ?_)
 obtain ⟨o, ho, hc, hd⟩ := id hit
 obtain ⟨ol, hol, _, nl, hdl⟩ := hl
 refine aAt (wpAny_attempt (wpAny_holding ?_))
 refine wpAny_bind (wpAny_rule (wpAny_bind (wpAny_callSpecial?_slot (name := Str.ofString "__next__") hit.typeIs slot_listiter_next
  (wpAny_call_entry slot_listiter_next hit.typeIs entry_listiter_next ?_ (args_listiter_next _)))))
 show wpAny _ _ (field (.ref it) 0 >>= _) _ _ s
 refine wpAny_bind (wpAny_field ho hd (x := .ref l) rfl ?_)
 refine wpAny_bind (wpAny_field ho hd (x := .int i 0) rfl ?_)
 refine wpAny_bind (wpAny_seqItems hol hdl ?_)
 simp only [Int.toNat_natCast, hx]
 refine wpAny_bind (wpAny_rule (wpAny_bind (wpAny_setField ho hd (by simp) ?_)))
 refine wpAny_bind ?_
 refine wpAny_bind (wpAny_newObj_type ?_ (by size_fits))
 refine wpAny_bind (m := firstArgMember _ _) (wpAny_of_eq (a := Value.none) (by first | rfl | (simp only [firstArgMember]; rfl)) ?_)
 refine wpAny_newObj_type ?_ (by size_fits)
 refine wpAny_raiseNew_none (A := (A.over (aBc it) fs).in1) hA ?_
 have hs' := (((Heap.SameBut.update s.heap it (Obj.mapFields λ vs => vs.setIfInBounds 0 Value.none)).extBut.push { cls := .type "tuple", data := .seq #[] }).push
  { cls := .type "StopIteration", data := .fields (#[.ref (s.heap.update it (Obj.mapFields λ vs => vs.setIfInBounds 0 Value.none)).objs.size, .none, .none, .none, .bool false, .none] ++ ownMembersOf (.type "StopIteration") []) })
 have he := Heap.get?_push_size ((s.heap.update it (Obj.mapFields λ vs => vs.setIfInBounds 0 Value.none)).push { cls := .type "tuple", data := .seq #[] })
  (o := { cls := .type "StopIteration", data := .fields (#[.ref (s.heap.update it (Obj.mapFields λ vs => vs.setIfInBounds 0 Value.none)).objs.size, .none, .none, .none, .bool false, .none] ++ ownMembersOf (.type "StopIteration") []) }) rfl
 generalize (((s.heap.update it (Obj.mapFields λ vs => vs.setIfInBounds 0 Value.none)).push { cls := .type "tuple", data := .seq #[] }).push
  { cls := .type "StopIteration", data := .fields (#[.ref (s.heap.update it (Obj.mapFields λ vs => vs.setIfInBounds 0 Value.none)).objs.size, .none, .none, .none, .bool false, .none] ++ ownMembersOf (.type "StopIteration") []) }) = h' at hs' he ⊢
 generalize ((s.heap.update it (Obj.mapFields λ vs => vs.setIfInBounds 0 Value.none)).push { cls := .type "tuple", data := .seq #[] }).objs.size = e at he ⊢
 have hT : ({ s with heap := h' } : Shared).TypeIs (.ref e) "StopIteration" := ⟨_, he, rfl⟩
 refine aAt ?_
 refine wpAny_bind (wpAny_bind (wpAny_typeOf hT (wpAny_bind (wpAny_of_eq isSubtype_stop (wpAny_bind (wpAny_of_eq (a := .type "type") (by kernel_rfl) (wpAny_pure (wpAny_pure ?_))))))))
 refine aAt (wpAny_rule (aAt (wpAny_field he rfl (x := .none) (by kernel_rfl) ?_)))
 exact h _ hs'
end
end Mine
end
section
namespace Mine
structure Aok (k : Nat) (A : Around) : Prop where
 handled : A.handled = none
 depth : A.depth + k < recursionLimit
 units : A.units + 8 * k < cLine
theorem Aok.le {k j : Nat} {A : Around} (h : Aok k A) (e : j <= k) : Aok j A := ⟨h.handled, by have := h.depth; omega, by have := h.units; omega⟩
theorem Aok.in1 {k : Nat} {A : Around} (h : Aok (k + 1) A) : Aok k A.in1 := ⟨h.handled, by have := h.depth; show A.depth + k < _; omega, by have := h.units; show A.units + 1 + 8 * k < _; omega⟩
theorem Aok.deeper {k : Nat} {A : Around} {env : Env} (h : Aok (k + 1) A) : Aok k (A.deeper env) := ⟨h.handled, by have := h.depth; show A.depth + 1 + k < _; omega, by have := h.units; show A.units + 3 + 8 * k < _; omega⟩
theorem Aok.room {k : Nat} {A : Around} (h : Aok k A) : A.depth < recursionLimit := by have := h.depth; omega
structure St0 (W : Wd) (G : Gens) (nw : Ledger) (s : Shared) : Prop where
 ok : W.Ok
 led : Led W.B nw s.heap
 bare : AllBare s.gens
 os : s.os = W.os
 gens : ∀ p ∈ G, s.gens[p.1]? = some p.2
 gnd : (G.map Prod.fst).Nodup
noncomputable def Wake (W : Wd) (A : Around) (gs : GenState) (s : Shared) (P : End -> Shared -> Prop) : Prop := match gs with
 | .fresh c => SegX (model W.prog W.w) A c (denote table c) [] s P
 | .suspended k _ c _ fs _ => SegX (model W.prog W.w) A c (k (.send .none)) fs s P
 | _ => False
noncomputable def aCF (W : Wd) (sh : Ledger) : List Value -> GenState -> Ledger -> Prop
 | [], gs, own => ∀ A R GR s, Aok 6 A -> St0 W GR (R ++ (sh ++ own)) s -> Wake W A gs s (λ e s' => e = .ret (.ok (.ret .none)) /\ St0 W GR (R ++ sh) s')
 | v :: vs, gs, own => ∀ A R GR s, Aok 6 A -> St0 W GR (R ++ (sh ++ own)) s -> Wake W A gs s (λ e s' => ∃ own', e.result = .yielded v /\ St0 W GR (R ++ (sh ++ own')) s' /\ aCF W sh vs e.genState own')
noncomputable def aAZ (o : Obj) : Bool := match o.cls with
 | .type n => !(["enumerate", "zip", "dict_itemiterator", "dict_reverseitemiterator", "odict_iterator", "itertools.zip_longest", "itertools.pairwise"].contains n)
 | _ => true
noncomputable def Typ (sh : Ledger) (it : Addr) (own : Ledger) : Prop := ∃ c, (it, c) ∈ sh ++ own /\ ∀ o, c o -> aAZ o = true
noncomputable def aAW (W : Wd) (sh : Ledger) (it : Addr) : List Value -> Ledger -> Gens -> Prop
 | [], own, og => Typ sh it own /\ (∀ A R GR s (Q : Option Value -> Shared -> Prop) E, Aok 7 A -> St0 W (GR ++ og) (R ++ (sh ++ own)) s -> (∀ s', St0 W GR (R ++ sh) s' -> Q none s') -> wpAny (model W.prog W.w) A (pyNext (.ref it)) Q E s)
 | v :: vs, own, og => Typ sh it own /\ (∀ A R GR s (Q : Option Value -> Shared -> Prop) E, Aok 7 A -> St0 W (GR ++ og) (R ++ (sh ++ own)) s -> (∀ own' og' s', St0 W (GR ++ og') (R ++ (sh ++ own')) s' -> aAW W sh it vs own' og' -> Q (some v) s') ->
   wpAny (model W.prog W.w) A (pyNext (.ref it)) Q E s)
noncomputable def aAL (g : Nat) : Cell := λ o => ∃ nm qn, o = { cls := .type "generator", data := .fields #[.int g 0, nm, qn] }
noncomputable def IsLI (l : Addr) (i : Nat) : Cell := λ o => o.cls = .type "list_iterator" /\ o.data = .fields #[.ref l, .int i 0]
noncomputable def IsRI (l : Addr) (i : Int) : Cell := λ o => o.cls = .type "list_reverseiterator" /\ o.data = .fields #[.ref l, rawInt i]
theorem SegX.withQuiet {M : Model} {A : Around} {c : Code} {t : Sem Fin} {fs : List Frame} {s : Shared} {P : End -> Shared -> Prop} (x : SegX M A c t fs s P) : SegX M A c t fs s (λ e s' => e.quiet = true /\ P e s') := λ Γ p hc hΓ => by
 obtain ⟨e, s', hr, hq, hp⟩ := x Γ p hc hΓ
 exact ⟨e, s', hr, hq, hq, hp⟩
theorem Wake.mono {W : Wd} {A : Around} {gs : GenState} {s : Shared} {P P' : End -> Shared -> Prop} (x : Wake W A gs s P) (h : ∀ e s', e.quiet = true -> P e s' -> P' e s') : Wake W A gs s P' := by
 cases gs with
 | fresh c => exact SegX.mono (SegX.withQuiet x) λ e s' q => h e s' q.1 q.2
 | suspended k l c p fs cl => exact SegX.mono (SegX.withQuiet x) λ e s' q => h e s' q.1 q.2
 | running => exact x.elim
 | finished => exact x.elim
section
variable {W : Wd} {A : Around} {E : Value -> Shared -> Prop} {s : Shared}
theorem aEX {g : Nat} {gs : GenState} {l : List Value} {α : Type} {k : GenResult -> Sem α} {Q : α -> Shared -> Prop} (hg : s.gens[g]? = some gs)
  (x : Wake W A gs (s.setGen g .running) (λ e s₁ => wpAny (model W.prog W.w) A (k e.result) Q E (s₁.setGen g e.genState))) :
  wpAny (model W.prog W.w) A (.resume g (.send .none) l k) Q E s := by
 intro Γ p hΓ
 cases gs with
 | fresh c => exact wake_any α W.prog W.w hg (.inl ⟨rfl, rfl, rfl, rfl⟩) (λ Γ => Γ.In A) (λ _ h => h) (SegX.mono x λ e s₁ h Γ p hC => h Γ p hC) Γ p hΓ
 | suspended k₀ l₀ c₀ p₀ fs₀ cl => exact wake_any α W.prog W.w hg (.inr ⟨k₀, l₀, p₀, cl, rfl, rfl⟩) (λ Γ => Γ.In A) (λ _ h => h) (SegX.mono x λ e s₁ h Γ p hC => h Γ p hC) Γ p hΓ
 | running => exact x.elim
 | finished => exact x.elim
theorem aFO {a : Addr} {g : Nat} {gs : GenState} {Q : Option Value -> Shared -> Prop} (hA : Aok 7 A) (hl : s.heap.NoLimit) (hg : s.heap.IsGen a g) (hgs : s.gens[g]? = some gs)
  (x : Wake W A.in1 gs (s.setGen g .running) (λ e s₁ => (e = .ret (.ok (.ret .none)) /\ ∀ h', (∀ b o, s₁.heap.get? b = some o -> h'.get? b = some o) -> Q none { s₁.setGen g .finished with heap := h' }) \/ (∃ v, e.result = .yielded v /\ Q (some v) (s₁.setGen g e.genState)))) :
  wpAny (model W.prog W.w) A (pyNext (.ref a)) Q E s := by
 unfold pyNext
 refine wpAny_bind (wpAny_attempt (wpAny_callSpecial?_slot (name := Str.ofString "__next__") hg.typeIs slot_gen_next
  (wpAny_call_entry slot_gen_next hg.typeIs entry_gen_next ?_ (args_gen_next _))))
 show wpAny _ _ (Builtin.Generator.genWake (.ref a) (.send .none)) _ _ s
 refine wpAny_bind (wpAny_holding (wpAny_genNumber hg (wpAny_bind (wpAny_genState hgs ?_))))
 have hd : A.in1.depth < recursionLimit := by have := hA.depth; show A.depth < recursionLimit; omega
 cases gs with
 | running => exact x.elim
 | finished => exact x.elim
 | _ =>
  refine wpAny_bind (wpAny_roomToWake hl hd ?_)
  refine aEX (W := W) hgs (Wake.mono x λ e s₁ hq he => ?_)
  rcases he with ⟨rfl, hQ⟩ | ⟨v, hv, hQ⟩
  ·show wpAny _ _ (newExc (.type "StopIteration") [] >>= _) _ _ _
   refine wpAny_bind ?_
   refine wpAny_bind (wpAny_newObj_type ?_ (by size_fits))
   refine wpAny_bind (m := firstArgMember _ _) (wpAny_of_eq (a := Value.none) (by first | rfl | (simp only [firstArgMember]; rfl)) ?_)
   refine wpAny_newObj_type ?_ (by size_fits)
   refine wpAny_bind (wpAny_bind (wpAny_handled ?_))
   rw [show A.in1.handled = none from hA.handled]
   refine wpAny_throw ?_
   refine wpAny_bind (wpAny_isInstance (T := "StopIteration") (b := true) ⟨_, Heap.get?_push_size _ rfl, rfl⟩ isSubtype_stop ?_)
   exact wpAny_pure (hQ _ λ b o hb => Heap.get?_push_of_some _ (Heap.get?_push_of_some _ hb))
  ·rw [hv]
   exact wpAny_pure ⟨v, rfl, wpAny_pure hQ⟩
theorem aFa (s : Shared) (g : Nat) (x : GenState) : (s.setGen g x).gens = s.gens.setIfInBounds g x := rfl
theorem aF6 {gens : Array GenState} {g : Nat} {x : GenState} (h : AllBare gens) (hx : x.bare = true) : AllBare (gens.setIfInBounds g x) := λ y hy => by
 rcases Array.mem_or_eq_of_mem_setIfInBounds hy with h1 | h1
 ·exact h y h1
 ·rw [h1]; exact hx
theorem aEv {GR : Gens} {nw nw' : Ledger} {g : Nat} {gs : GenState} (S : St0 W (GR ++ [(g, gs)]) nw s) (D : Led W.B nw' s.heap) : St0 W (GR ++ [(g, .running)]) nw' (s.setGen g .running) := by
 have hgs : s.gens[g]? = some gs := S.gens (g, gs) (by simp)
 refine ⟨S.ok, D, aF6 S.bare rfl, S.os, λ p hp => ?_, by have := S.gnd; rw [List.map_append] at this ⊢; exact this⟩
 rw [aFa]
 rcases List.mem_append.mp hp with hp | hp
 ·have hne : p.1 ≠ g := λ e => by
   have nd := S.gnd
   rw [List.map_append, List.nodup_append] at nd
   exact nd.2.2 p.1 (List.mem_map_of_mem hp) g (by simp) e
  rw [Array.getElem?_setIfInBounds_ne (Ne.symm hne)]
  exact S.gens p (by simp [hp])
 ·have : p = (g, .running) := by simpa using hp
  subst this
  have hlt : g < s.gens.size := (Array.getElem?_eq_some_iff.mp hgs).1
  simp [hlt]
theorem aEz {GR : Gens} {nw nw' : Ledger} {g : Nat} {gs gs' : GenState} {h' : Heap} (S : St0 W (GR ++ [(g, gs)]) nw s) (D : Led W.B nw' h') (hb : gs'.bare = true) : St0 W (GR ++ [(g, gs')]) nw' { s.setGen g gs' with heap := h' } := by
 have hgs : s.gens[g]? = some gs := S.gens (g, gs) (by simp)
 refine ⟨S.ok, D, aF6 S.bare hb, S.os, λ p hp => ?_, by have := S.gnd; rw [List.map_append] at this ⊢; exact this⟩
 show (s.gens.setIfInBounds g gs')[p.1]? = _
 rcases List.mem_append.mp hp with hp | hp
 ·have hne : p.1 ≠ g := λ e => by
   have nd := S.gnd
   rw [List.map_append, List.nodup_append] at nd
   exact nd.2.2 p.1 (List.mem_map_of_mem hp) g (by simp) e
  rw [Array.getElem?_setIfInBounds_ne (Ne.symm hne)]
  exact S.gens p (by simp [hp])
 ·have : p = (g, gs') := by simpa using hp
  subst this
  have hlt : g < s.gens.size := (Array.getElem?_eq_some_iff.mp hgs).1
  simp [hlt]
theorem St0.fewer {G G' : Gens} {nw : Ledger} (S : St0 W (G ++ G') nw s) : St0 W G nw s :=
 ⟨S.ok, S.led, S.bare, S.os, λ p hp => S.gens p (by simp [hp]), by have := S.gnd; rw [List.map_append] at this; exact (List.nodup_append.mp this).1⟩
theorem aDw {sh : Ledger} {a : Addr} {g : Nat} : ∀ {vs : List Value} {gs : GenState} {own : Ledger}, aCF W sh vs gs own -> aAW W sh a vs (own ++ [(a, aAL g)]) [(g, gs)]
 | [], gs, own, H => ⟨⟨aAL g, by simp, λ o ⟨_, _, e⟩ => by subst e; unfold aAZ; show (!(["enumerate", "zip", "dict_itemiterator", "dict_reverseitemiterator", "odict_iterator", "itertools.zip_longest", "itertools.pairwise"].contains "generator")) = true; decide⟩, λ A R GR s Q E hA S hQ => by
  have D := S.led
  obtain ⟨o, ho, nm, qn, rfl⟩ := D.get (a := a) (c := aAL g) (by simp)
  have hgs : s.gens[g]? = some gs := S.gens (g, gs) (by simp)
  have D' : Led W.B ((R ++ [(a, aAL g)]) ++ (sh ++ own)) s.heap := D.perm (by
   rw [List.append_assoc]
   refine List.Perm.append_left _ ?_
   rw [← List.append_assoc]
   exact List.perm_append_comm)
  refine aFO (W := W) hA (S.ok.nolimit.keeps D.keep) ⟨_, nm, qn, ho, rfl, rfl, rfl⟩ hgs (Wake.mono (H A.in1 (R ++ [(a, aAL g)]) _ (s.setGen g .running) hA.in1 (aEv S D')) λ e s₁ hq he => ?_)
  obtain ⟨he, S1⟩ := he
  refine .inl ⟨he, λ h' hk => hQ _ ?_⟩
  exact (aEz S1 ((S1.led.grow hk).sub (List.Sublist.append (List.sublist_append_left _ _) (List.Sublist.refl _))) rfl).fewer⟩
 | v :: vs, gs, own, H => ⟨⟨aAL g, by simp, λ o ⟨_, _, e⟩ => by subst e; unfold aAZ; show (!(["enumerate", "zip", "dict_itemiterator", "dict_reverseitemiterator", "odict_iterator", "itertools.zip_longest", "itertools.pairwise"].contains "generator")) = true; decide⟩, λ A R GR s Q E hA S hQ => by
  have D := S.led
  obtain ⟨o, ho, nm, qn, rfl⟩ := D.get (a := a) (c := aAL g) (by simp)
  have hgs : s.gens[g]? = some gs := S.gens (g, gs) (by simp)
  have D' : Led W.B ((R ++ [(a, aAL g)]) ++ (sh ++ own)) s.heap := D.perm (by
   rw [List.append_assoc]
   refine List.Perm.append_left _ ?_
   rw [← List.append_assoc]
   exact List.perm_append_comm)
  refine aFO (W := W) hA (S.ok.nolimit.keeps D.keep) ⟨_, nm, qn, ho, rfl, rfl, rfl⟩ hgs (Wake.mono (H A.in1 (R ++ [(a, aAL g)]) _ (s.setGen g .running) hA.in1 (aEv S D')) λ e s₁ hq he => ?_)
  obtain ⟨own', he, S1, H'⟩ := he
  have D2 : Led W.B (R ++ (sh ++ (own' ++ [(a, aAL g)]))) s₁.heap := S1.led.perm (by
   rw [List.append_assoc]
   refine List.Perm.append_left _ ?_
   rw [← List.append_assoc sh]
   exact List.perm_append_comm)
  exact .inr ⟨v, he, hQ (own' ++ [(a, aAL g)]) [(g, e.genState)] _ (aEz S1 D2 (End.bare_of_quiet hq)) (aDw H')⟩⟩
end
end Mine
end
section
namespace Mine
noncomputable def LY (W : Wd) (sh : Ledger) (it : Addr) : List Value -> Ledger -> Prop
 | [], own => Typ sh it own /\ ∀ A R s (Q : Option Value -> Shared -> Prop) E, A.handled = none -> Led W.B (R ++ (sh ++ own)) s.heap -> (∀ h', Led W.B (R ++ sh) h' -> Q none { s with heap := h' }) -> wpAny (model W.prog W.w) A (pyNext (.ref it)) Q E s
 | v :: vs, own => Typ sh it own /\ ∀ A R s (Q : Option Value -> Shared -> Prop) E, A.handled = none -> Led W.B (R ++ (sh ++ own)) s.heap -> (∀ own' h', Led W.B (R ++ (sh ++ own')) h' -> LY W sh it vs own' -> Q (some v) { s with heap := h' }) -> wpAny (model W.prog W.w) A (pyNext (.ref it)) Q E s
theorem LY.yields {W : Wd} {sh : Ledger} {it : Addr} : ∀ {vs : List Value} {own : Ledger}, LY W sh it vs own -> aAW W sh it vs own []
 | [], own, H => ⟨H.1, λ A R GR s Q E hA S hQ => H.2 A R s Q E hA.handled S.led λ h' D => hQ _ ⟨S.ok, D, S.bare, S.os, λ p hp => S.gens p (by simpa using hp), by have := S.gnd; simpa using this⟩⟩
 | v :: vs, own, H => ⟨H.1, λ A R GR s Q E hA S hQ => H.2 A R s Q E hA.handled S.led λ own' h' D H' => hQ own' [] _ ⟨S.ok, D, S.bare, S.os, S.gens, S.gnd⟩ H'.yields⟩
noncomputable def YieldsR (W : Wd) (sh : Ledger) (it : Addr) {α : Type} (P : α -> Value -> Prop) : List α -> Ledger -> Gens -> Prop
 | [], own, og => Typ sh it own /\ (∀ A R GR s (Q : Option Value -> Shared -> Prop) E, Aok 7 A -> St0 W (GR ++ og) (R ++ (sh ++ own)) s -> (∀ s', St0 W GR (R ++ sh) s' -> Q none s') -> wpAny (model W.prog W.w) A (pyNext (.ref it)) Q E s)
 | x :: xs, own, og => Typ sh it own /\ (∀ A R GR s (Q : Option Value -> Shared -> Prop) E, Aok 7 A -> St0 W (GR ++ og) (R ++ (sh ++ own)) s -> (∀ v own' og' s', P x v -> St0 W (GR ++ og') (R ++ (sh ++ own')) s' -> YieldsR W sh it P xs own' og' -> Q (some v) s') ->
   wpAny (model W.prog W.w) A (pyNext (.ref it)) Q E s)
theorem YieldsR.map {W : Wd} {sh : Ledger} {it : Addr} {α β : Type} {P : α -> Value -> Prop} {P' : β -> Value -> Prop} (f : α -> β) (h : ∀ x v, P x v -> P' (f x) v) : ∀ {xs : List α} {own : Ledger} {og : Gens}, YieldsR W sh it P xs own og -> YieldsR W sh it P' (xs.map f) own og
 | [], _, _, H => H
 | _ :: _, _, _, H => ⟨H.1, λ A R GR s Q E hA S hQ => H.2 A R GR s Q E hA S λ v own' og' s' p S' H' => hQ v own' og' s' (h _ _ p) S' (YieldsR.map f h H')⟩
theorem Led.isLst {B h : Heap} {nw : Ledger} {a : Addr} {xs : List Value} (D : Led B nw h) (m : (a, aAa xs) ∈ nw) : h.IsList a xs.toArray := by
 obtain ⟨o, ho, n, rfl⟩ := D.get m
 exact ⟨_, ho, rfl, n, rfl⟩
theorem Led.back {B h h' : Heap} {nw : Ledger} {a : Addr} {c c' : Cell} {post : Ledger} (D : Led B (nw ++ ((a, c) :: post)) h) (hs : ∀ b o, b ≠ a -> h.get? b = some o -> h'.get? b = some o) {o : Obj} (ho : h'.get? a = some o) (hc : c' o) : Led B (nw ++ ((a, c') :: post)) h' := by
 have D1 : Led B ((a, c) :: (nw ++ post)) h := D.perm List.perm_middle
 exact (D1.set .head hs ho hc).perm List.perm_middle.symm
theorem Led.dropBack {B h h' : Heap} {nw : Ledger} {a : Addr} {c : Cell} {post : Ledger} (D : Led B (nw ++ ((a, c) :: post)) h) (hs : ∀ b o, b ≠ a -> h.get? b = some o -> h'.get? b = some o) : Led B (nw ++ post) h' := by
 have D1 : Led B ((a, c) :: (nw ++ post)) h := D.perm List.perm_middle
 have hB := (D1.own _ (.head _)).1
 have nd := D1.nodup
 rw [List.map_cons, List.nodup_cons] at nd
 refine ⟨λ b o e => hs b o (λ q => by rw [q] at e; rw [hB] at e; cases e) (D1.keep b o e), λ p hp => ?_, nd.2⟩
 obtain ⟨x, o, ho, hc⟩ := D1.own p (.tail _ hp)
 exact ⟨x, o, hs _ _ (λ q => nd.1 (List.mem_map.mpr ⟨p, hp, q⟩)) ho, hc⟩
theorem aAU {W : Wd} {sh : Ledger} {it l : Addr} {xs : List Value} {own₀ : Ledger} (m : (l, aAa xs) ∈ sh ++ own₀) : ∀ (vs : List Value) (i : Nat), xs.drop i = vs -> LY W sh it vs ((it, IsLI l i) :: own₀)
 | [], i, e => ⟨⟨IsLI l i, by simp, λ o h => by unfold aAZ; rw [h.1]; decide⟩, λ A R s Q E hA D hQ => by
  have D0 : Led W.B ((R ++ sh) ++ ((it, IsLI l i) :: own₀)) s.heap := by rw [List.append_assoc]; exact D
  obtain ⟨o, ho, hcl, hda⟩ := D0.get (a := it) (c := IsLI l i) (by simp)
  have hl := D0.isLst (a := l) (xs := xs) (by
   rcases List.mem_append.mp m with m | m
   ·simp [m]
   ·simp [m])
  refine wpAny_pyNext_list_end hA ⟨_, ho, hcl, hda⟩ hl (by simpa [List.drop_eq_nil_iff] using e) λ h' hx => hQ h' ?_
  exact (D0.dropBack λ b o hb e => hx b o hb e).sub (List.sublist_append_left _ _)⟩
 | v :: vs, i, e => ⟨⟨IsLI l i, by simp, λ o h => by unfold aAZ; rw [h.1]; decide⟩, λ A R s Q E hA D hQ => by
  have D0 : Led W.B ((R ++ sh) ++ ((it, IsLI l i) :: own₀)) s.heap := by rw [List.append_assoc]; exact D
  obtain ⟨o, ho, hcl, hda⟩ := D0.get (a := it) (c := IsLI l i) (by simp)
  have hl := D0.isLst (a := l) (xs := xs) (by
   rcases List.mem_append.mp m with m | m
   ·simp [m]
   ·simp [m])
  have hx : xs[i]? = some v := by
   have := congrArg List.head? e
   simpa [List.head?_drop] using this
  have e' : xs.drop (i + 1) = vs := by
   have := congrArg List.tail e
   simpa [List.tail_drop] using this
  refine wpAny_pyNext_list_item ⟨_, ho, hcl, hda⟩ hl (by simpa using hx) λ h' hit hs => ?_
  obtain ⟨o', ho', hc', hd'⟩ := hit
  have D1 := D0.back (c' := IsLI l (i + 1)) (λ b o hb e => (hs.2 b hb).trans e) ho' ⟨hc', hd'⟩
  exact hQ ((it, IsLI l (i + 1)) :: own₀) h' (by rw [← List.append_assoc]; exact D1) (aAU m vs (i + 1) e')⟩
theorem aHd {W : Wd} {sh : Ledger} {it l : Addr} {xs : List Value} (m : W.B.IsList l xs.toArray) : ∀ (vs : List Value) (i : Nat), xs.drop i = vs -> LY W sh it vs [(it, IsLI l i)]
 | [], i, e => ⟨⟨IsLI l i, by simp, λ o h => by unfold aAZ; rw [h.1]; decide⟩, λ A R s Q E hA D hQ => by
  have D0 : Led W.B ((R ++ sh) ++ ((it, IsLI l i) :: [])) s.heap := by rw [List.append_assoc]; exact D
  obtain ⟨o, ho, hcl, hda⟩ := D0.get (a := it) (c := IsLI l i) (by simp)
  have hl : s.heap.IsList l xs.toArray := let ⟨o, e, r⟩ := m; ⟨o, D0.keep _ _ e, r⟩
  refine wpAny_pyNext_list_end hA ⟨_, ho, hcl, hda⟩ hl (by simpa [List.drop_eq_nil_iff] using e) λ h' hx => hQ h' ?_
  exact (D0.dropBack λ b o hb e => hx b o hb e).sub (List.sublist_append_left _ _)⟩
 | v :: vs, i, e => ⟨⟨IsLI l i, by simp, λ o h => by unfold aAZ; rw [h.1]; decide⟩, λ A R s Q E hA D hQ => by
  have D0 : Led W.B ((R ++ sh) ++ ((it, IsLI l i) :: [])) s.heap := by rw [List.append_assoc]; exact D
  obtain ⟨o, ho, hcl, hda⟩ := D0.get (a := it) (c := IsLI l i) (by simp)
  have hl : s.heap.IsList l xs.toArray := let ⟨o, e, r⟩ := m; ⟨o, D0.keep _ _ e, r⟩
  have hx : xs[i]? = some v := by
   have := congrArg List.head? e
   simpa [List.head?_drop] using this
  have e' : xs.drop (i + 1) = vs := by
   have := congrArg List.tail e
   simpa [List.tail_drop] using this
  refine wpAny_pyNext_list_item ⟨_, ho, hcl, hda⟩ hl (by simpa using hx) λ h' hit hs => ?_
  obtain ⟨o', ho', hc', hd'⟩ := hit
  have D1 := D0.back (c' := IsLI l (i + 1)) (λ b o hb e => (hs.2 b hb).trans e) ho' ⟨hc', hd'⟩
  exact hQ [(it, IsLI l (i + 1))] h' (by rw [← List.append_assoc]; exact D1) (aHd m vs (i + 1) e')⟩
theorem aHc {W : Wd} {sh : Ledger} {it l : Addr} {xs : List Value} (m : (l, aAa xs) ∈ sh) : ∀ (n : Nat), n <= xs.length -> LY W sh it (xs.take n).reverse [(it, IsRI l ((n : Int) - 1))]
 | 0, _ => ⟨⟨IsRI l (((0 : Nat) : Int) - 1), List.mem_append_right _ (.head _), λ o h => by unfold aAZ; rw [h.1]; decide⟩, λ A R s Q E hA D hQ => by
  have D0 : Led W.B ((R ++ sh) ++ [(it, IsRI l ((0 : Nat) - 1))]) s.heap := by rw [List.append_assoc]; exact D
  obtain ⟨o, ho, hcl, hda⟩ := D0.get (a := it) (c := IsRI l ((0 : Nat) - 1)) (by simp)
  refine wpAny_pyNext_rev_end hA ⟨o, ho, hcl, hda⟩ λ h' hx => hQ h' ?_
  have := D0.dropBack (h' := h') λ b o hb e => hx b o hb e
  simpa using this⟩
 | n + 1, hn => by
  have hlt : n < xs.length := by omega
  have e : (xs.take (n + 1)).reverse = xs[n] :: (xs.take n).reverse := by
   rw [List.take_succ, List.getElem?_eq_getElem hlt]; simp
  rw [e]
  refine ⟨⟨IsRI l (((n + 1 : Nat) : Int) - 1), List.mem_append_right _ (.head _), λ o h => by unfold aAZ; rw [h.1]; decide⟩, ?_⟩
  intro A R s Q E hA D hQ
  have D0 : Led W.B ((R ++ sh) ++ [(it, IsRI l ((n + 1 : Nat) - 1))]) s.heap := by rw [List.append_assoc]; exact D
  obtain ⟨o, ho, hcl, hda⟩ := D0.get (a := it) (c := IsRI l ((n + 1 : Nat) - 1)) (by simp)
  have hl := D0.isLst (a := l) (xs := xs) (by simp [m])
  have e1 : ((n + 1 : Nat) : Int) - 1 = (n : Int) := by omega
  rw [e1] at hda
  refine wpAny_pyNext_rev_item ⟨o, ho, hcl, hda⟩ hl (x := xs[n]) (by simp [hlt]) λ h' hit hs => ?_
  obtain ⟨o', ho', hc', hd'⟩ := hit
  have D1 := D0.back (c' := IsRI l ((n : Int) - 1)) (λ b o hb e => (hs.2 b hb).trans e) ho' ⟨hc', hd'⟩
  exact hQ [(it, IsRI l ((n : Int) - 1))] h' (by rw [← List.append_assoc]; exact D1) (aHc m n (by omega))
end Mine
end
section
namespace Mine
noncomputable def aEV (W : Wd) (sh R : Ledger) (GR : Gens) (vs : List Value) (e : End) (s' : Shared) : Prop := match vs with
 | [] => e = .ret (.ok (.ret .none)) /\ St0 W GR (R ++ sh) s'
 | v :: vs => ∃ own', e.result = .yielded v /\ St0 W GR (R ++ (sh ++ own')) s' /\ aCF W sh vs e.genState own'
theorem goodGen_iff {W : Wd} {sh : Ledger} {vs : List Value} {gs : GenState} {own : Ledger} : aCF W sh vs gs own ↔ ∀ A R GR s, Aok 6 A -> St0 W GR (R ++ (sh ++ own)) s -> Wake W A gs s (aEV W sh R GR vs) := by
 cases vs <;> exact Iff.rfl
structure FrOk (W : Wd) (fr : Frame) : Prop where
 split : splitAtGen [fr] = none
 guarded : fr.guarded = false
 marks : ∀ x, fr.marks x = x
 weight : fr.where_.1.weight <= 1
 units : fr.where_.1.cUnits <= 3
 back : ∀ A c s P, P (.ret (.ok (.ret .none))) s -> SegX (model W.prog W.w) A c (leafOf (.ok .next)) [fr] s P
theorem Sta.st0 {W : Wd} {G : Gens} {nw pre post : Ledger} {s : Shared} {env : Env} {loc : Loc} (S : Sta W G env loc (pre ++ post) s) (e : nw = pre ++ ((env.locals, IsNs loc) :: post)) : St0 W G nw s := by
 subst e
 exact ⟨S.ok, S.led.perm List.perm_middle.symm, S.bare, S.os, S.gens, S.gnd⟩
section
variable {W : Wd} {sh : Ledger} {env : Env} {nm : Str} {p1 p5 p6 p7 p8 p9 : Pos} {rit : Addr} {ks : List Str}
noncomputable abbrev aIu (nm : Str) (p5 p6 p7 p8 p9 : Pos) : List Stmt := [.If (.Name nm p5) [.Expr (.YieldFrom (.Name nm p6) p7) p8] [] p9]
noncomputable abbrev aDf (env : Env) (nm : Str) (p1 p5 p6 p7 p8 p9 : Pos) (rit : Addr) : Code := .forLoop (.Name nm p1) (.ref rit) (aIu nm p5 p6 p7 p8 p9) [] env
theorem over1 {k : Nat} {A : Around} {c' : Code} {fr : Frame} (hA : Aok (k + 2) A) (hf : FrOk W fr) (hw : c'.weight = 0) (hu : c'.cUnits <= 1) : Aok k (A.over c' [fr]) := by
 refine ⟨?_, ?_, ?_⟩
 ·show (marksOver [fr] (A.handled, A.handled)).1 = none
  simp only [marksOver, List.foldr, hf.marks]; exact hA.handled
 ·have := hA.depth; have := hf.weight
  show A.depth + frameCount ([fr].map Frame.where_) + c'.weight + k < recursionLimit
  simp only [List.map_cons, List.map_nil, frameCount, List.sum_cons, List.sum_nil, hw]; omega
 ·have := hA.units; have := hf.units
  show A.units + unitsOf ([fr].map Frame.where_) + c'.cUnits + 8 * k < cLine
  simp only [List.map_cons, List.map_nil, unitsOf, List.sum_cons, List.sum_nil]; omega
theorem aDI {l it : Addr} {xs : List Value} {fr fr2 : Frame} (hf : FrOk W fr) (h2 : splitAtGen [fr2, fr] = none) (g2 : [fr2, fr].any Frame.guarded = false)
  (hov : ∀ A, Aok 6 A -> (A.over (aBc it) [fr2, fr]).handled = none) (m : (l, aAa xs) ∈ sh) (own₀ : Ledger) (ws : List Value)
  (rest : ∀ A R GR s, Aok 6 A -> St0 W GR (R ++ (sh ++ own₀)) s -> SegX (model W.prog W.w) A (aBc it) (leafOf (.ok (.ret .none))) [fr2, fr] s (aEV W sh R GR ws)) :
  ∀ (vs : List Value) (i : Nat), xs.drop i = vs -> ∀ A R GR s, Aok 6 A -> St0 W GR (R ++ (sh ++ ((it, IsLI l i) :: own₀))) s ->
   SegX (model W.prog W.w) A (aBc it) (denote table (aBc it)) [fr2, fr] s (aEV W sh R GR (vs ++ ws))
 | [], i, e => λ A R GR s hA S => by
  have D0 : Led W.B ((R ++ sh) ++ ((it, IsLI l i) :: own₀)) s.heap := by rw [List.append_assoc]; exact S.led
  obtain ⟨o, ho, hcl, hda⟩ := D0.get (a := it) (c := IsLI l i) (by simp)
  have hl := D0.isLst (a := l) (xs := xs) (by simp [m])
  refine yf_end (hov A hA) ⟨o, ho, hcl, hda⟩ hl (by simpa [List.drop_eq_nil_iff] using e) λ h' hx => ?_
  have D1 := D0.dropBack (h' := h') λ b o hb e => hx b o hb e
  exact rest A R GR { s with heap := h' } hA ⟨S.ok, by rw [← List.append_assoc]; exact D1, S.bare, S.os, S.gens, S.gnd⟩
 | v :: vs, i, e => λ A R GR s hA S => by
  have D0 : Led W.B ((R ++ sh) ++ ((it, IsLI l i) :: own₀)) s.heap := by rw [List.append_assoc]; exact S.led
  obtain ⟨o, ho, hcl, hda⟩ := D0.get (a := it) (c := IsLI l i) (by simp)
  have hl := D0.isLst (a := l) (xs := xs) (by simp [m])
  have hx : xs[i]? = some v := by
   have := congrArg List.head? e
   simpa [List.head?_drop] using this
  have e' : xs.drop (i + 1) = vs := by
   have := congrArg List.tail e
   simpa [List.tail_drop] using this
  refine aII ⟨o, ho, hcl, hda⟩ hl (by simpa using hx) h2 g2 λ k lv p h' hit hs hk => ?_
  obtain ⟨o', ho', hc', hd'⟩ := hit
  have D1 := D0.back (c' := IsLI l (i + 1)) (λ b o hb e => (hs.2 b hb).trans e) ho' ⟨hc', hd'⟩
  refine ⟨(it, IsLI l (i + 1)) :: own₀, rfl, ⟨S.ok, by rw [← List.append_assoc]; exact D1, S.bare, S.os, S.gens, S.gnd⟩, goodGen_iff.mpr λ A' R' GR' s' hA' S' => ?_⟩
  have D2 : Led W.B ((R' ++ sh) ++ ((it, IsLI l (i + 1)) :: own₀)) s'.heap := by rw [List.append_assoc]; exact S'.led
  obtain ⟨o2, ho2, hcl2, hda2⟩ := D2.get (a := it) (c := IsLI l (i + 1)) (by simp)
  exact hk A' _ s' _ ⟨o2, ho2, hcl2⟩ (aDI hf h2 g2 hov m own₀ ws rest vs (i + 1) e' A' R' GR' s' hA' S')
theorem aDA {x : Str} {v : Option Value} : ∀ {l : Loc}, x ∈ l.map Prod.fst -> ∃ l', Put x v l l'
 | p :: l, h => by
  rcases List.mem_cons.mp h with e | h
  ·obtain ⟨k, u⟩ := p
   dsimp only at e
   subst e
   exact ⟨_, .head⟩
  ·obtain ⟨l', h'⟩ := aDA (v := v) h
   exact ⟨_, .tail h'⟩
theorem Put.mem' {x : Str} {v : Option Value} {l l' : Loc} (h : Put x v l l') : (x, v) ∈ l' := by
 induction h with
 | head => exact .head _
 | tail h ih => exact .tail _ ih
theorem Sta.truthyL {G : Gens} {loc : Loc} {nw : Ledger} {s : Shared} {A : Around} {E : Value -> Shared -> Prop} {a : Addr} {xs : List Value} {Q : Bool -> Shared -> Prop} (S : Sta W G env loc nw s) (m : (a, aAa xs) ∈ nw) (hz : xs.length <= sizeLine) (h : ∀ s', Sta W G env loc nw s' -> Q (!xs.isEmpty) s') :
  wpAny (model W.prog W.w) A (truthy (.ref a)) Q E s := by
 refine wpAny_truthy_list (S.isList m) ?_ ?_
 ·rw [sizeLine_eq] at hz; simp; omega
 ·have := h _ (S.toks (s.toks + 1 + 1))
  simpa using this
theorem Sta.iterL {G : Gens} {loc : Loc} {nw : Ledger} {s : Shared} {A : Around} {E : Value -> Shared -> Prop} {a : Addr} {xs : List Value} {Q : Value -> Shared -> Prop} (S : Sta W G env loc nw s) (m : (a, aAa xs) ∈ nw) (h : ∀ it s', Sta W G env loc ((it, IsLI a 0) :: nw) s' -> Q (.ref it) s') :
  wpAny (model W.prog W.w) A (pyIter (.ref a)) Q E s :=
 wpAny_pyIter_list (S.isList m) (h _ _ (S.new (c := IsLI a 0) rfl ⟨rfl, rfl⟩ s.toks))
theorem aDH {fr : Frame} (hf : FrOk W fr) (hi : interactive env = false) (hnm : nm ∈ ks) :
  ∀ (ls : List (Addr × List Value)), (∀ p ∈ ls, (p.1, aAa p.2) ∈ sh /\ p.2.length <= sizeLine) -> ∀ (ownO : Ledger) (loc : Loc) A R GR s, Aok 6 A -> loc.map Prod.fst = ks -> EnvOk env ks ->
   St0 W GR (R ++ (sh ++ ((env.locals, IsNs loc) :: ownO))) s -> LY W sh rit (ls.map λ p => .ref p.1) ownO ->
   SegX (model W.prog W.w) A (aDf env nm p1 p5 p6 p7 p8 p9 rit) (denote table (aDf env nm p1 p5 p6 p7 p8 p9 rit)) [fr] s (aEV W sh R GR (ls.flatMap (·.2)))
 | [], _, ownO, loc, A, R, GR, s, hA, hk, he, S, hy => by
  refine aFE ?_
  refine aAt (wpAny_standAt ?_)
  have hA' : Aok 4 (A.over (aDf env nm p1 p5 p6 p7 p8 p9 rit) [fr]) := over1 hA hf rfl (Nat.zero_le _)
  have D : Led W.B ((R ++ [(env.locals, IsNs loc)]) ++ (sh ++ ownO)) s.heap := S.led.perm (by
   rw [List.append_assoc]; refine List.Perm.append_left _ ?_
   exact List.perm_middle)
  refine aAt (wpAny_onRaise (hy.2 _ _ s _ _ hA'.handled D λ h' D' => ?_))
  refine s_again _ _ _ _ _ _ _ _ rfl ?_
  refine hf.back _ _ _ _ ⟨rfl, S.ok, ?_, S.bare, S.os, S.gens, S.gnd⟩
  exact D'.sub (List.Sublist.append (List.sublist_append_left _ _) (List.Sublist.refl _))
 | (l, xs) :: ls, hls, ownO, loc, A, R, GR, s, hA, hk, he, S, hy => by
  have hm : (l, aAa xs) ∈ sh := (hls (l, xs) (.head _)).1
  have hz : xs.length <= sizeLine := (hls (l, xs) (.head _)).2
  have hls' : ∀ p ∈ ls, (p.1, aAa p.2) ∈ sh /\ p.2.length <= sizeLine := λ p hp => hls p (.tail _ hp)
  refine aFE ?_
  refine aAt (wpAny_standAt ?_)
  have hA' : Aok 4 (A.over (aDf env nm p1 p5 p6 p7 p8 p9 rit) [fr]) := over1 hA hf rfl (Nat.zero_le _)
  have D : Led W.B ((R ++ [(env.locals, IsNs loc)]) ++ (sh ++ ownO)) s.heap := S.led.perm (by
   rw [List.append_assoc]; refine List.Perm.append_left _ ?_
   exact List.perm_middle)
  refine aAt (wpAny_onRaise (hy.2 _ _ s _ _ hA'.handled D λ ownO' h' D' hy' => ?_))
  refine aAt (wpAny_of_eq (a := ()) rfl ?_)
  have S1 : Sta W GR env loc (R ++ (sh ++ ownO')) { s with heap := h' } := by
   refine ⟨S.ok, by rw [hk]; exact he, D'.perm ?_, S.bare, S.os, S.gens, S.gnd⟩
   rw [List.append_assoc]
   exact List.perm_middle
  obtain ⟨loc', hput⟩ := aDA (v := some (.ref l)) (l := loc) (x := nm) (by rw [hk]; exact hnm)
  have hk' : loc'.map Prod.fst = ks := by rw [hput.keys]; exact hk
  refine aAt (wpAny_assign_Name (S1.store hput λ s2 S2 => ?_))
  rw [execs_cons]
  refine aBY (aBY ?_)
  refine aAt (wpAny_standAt ?_)
  refine aAt (wpAny_isTrue_value (S2.local_ hput.mem' (S2.truthyL (by simp [hm]) hz λ s3 S3 => ?_)))
  have back : ∀ A R GR s, Aok 6 A -> St0 W GR (R ++ (sh ++ ((env.locals, IsNs loc') :: ownO'))) s ->
    SegX (model W.prog W.w) A (aDf env nm p1 p5 p6 p7 p8 p9 rit) (.pure (.again (aDf env nm p1 p5 p6 p7 p8 p9 rit))) [fr] s (aEV W sh R GR (ls.flatMap (·.2))) := λ A R GR s hA S =>
   s_again _ _ _ _ _ _ _ _ rfl (aDH hf hi hnm ls hls' ownO' loc' A R GR s hA hk' he S hy')
  cases xs with
  | nil =>
   refine back A R GR s3 hA (Sta.st0 (pre := R ++ sh) (post := ownO') (loc := loc') (env := env) ?_ (by simp))
   rw [List.append_assoc]; exact S3
  | cons v vs =>
   rw [if_pos (show (!(v :: vs).isEmpty) = true from rfl), execs_cons]
   refine aBY ?_
   rw [exec_Expr env _ _ hi rfl]
   refine aAt (wpAny_standAt (aBY ?_))
   refine aAt (S3.local_ hput.mem' (aAt (wpAny_standAt ?_)))
   have hT : s3.TypeIs (.ref l) "list" := (S3.isList (a := l) (xs := v :: vs) (by simp [hm])).typeIs
   refine aAt (wpAny_typeOf hT ?_)
   refine aAt (wpAny_holding (S3.iterL (xs := v :: vs) (by simp [hm]) λ it s4 S4 => ?_))
   refine s_call W.prog W.w A _ [fr] _ s4 (aBc it) none false [] _ λ p => ?_
   refine aDI (xs := v :: vs) (l := l) hf ?kk2 ?kg2 ?khov hm ((env.locals, IsNs loc') :: ownO') (ls.flatMap (·.2)) ?krest (v :: vs) 0 rfl A R GR s4 hA ?kst
   ·simp only [splitAtGen, hf.split, Option.map_none]
   ·show (false || (fr.guarded || false)) = false
    rw [hf.guarded]; rfl
   ·intro A hA
    show (marksOver _ (A.handled, A.handled)).1 = none
    simp only [marksOver, List.foldr_cons, List.foldr_nil]
    rw [hf.marks]; exact hA.handled
   ·intro A R GR s hA S
    exact s_pop _ _ _ _ _ _ _ _ _ rfl _ _ _ _ _ _ _ (back A R GR s hA S)
   ·refine ⟨S4.ok, S4.led.perm ?_, S4.bare, S4.os, S4.gens, S.gnd⟩
    refine (List.Perm.swap _ _ _).trans ?_
    rw [← List.append_assoc R sh, ← List.append_assoc R sh]
    exact List.Perm.trans (List.Perm.cons _ List.perm_middle.symm) List.perm_middle.symm
end
end Mine
end
section
namespace Mine
section
variable {W : Wd} {sh : Ledger} {env : Env} {nm rv sk : Str} {p1 p2 p3 p4 p5 p6 p7 p8 p9 p10 : Pos} {ks : List Str}
noncomputable abbrev aFp (nm rv sk : Str) (p1 p2 p3 p4 p5 p6 p7 p8 p9 p10 : Pos) : List Stmt := [.For (.Name nm p1) (.Call (.Name rv p2) [.Name sk p3] [] p4) (aIu nm p5 p6 p7 p8 p9) [] p10]
theorem aHi (hi : interactive env = false) (hnm : nm ∈ ks) (loc : Loc) (hk : loc.map Prod.fst = ks) (he : EnvOk env ks) (ls : List (Addr × List Value)) (hls : ∀ p ∈ ls, (p.1, aAa p.2) ∈ sh /\ p.2.length <= sizeLine)
  (hrev : ∀ A R GR s, Aok 4 A -> Sta W GR env loc (R ++ sh) s -> ∀ Q E, (∀ rit own s', Sta W GR env loc (R ++ (sh ++ own)) s' -> LY W sh rit (ls.map λ p => .ref p.1) own -> Q (.ref rit) s') -> wpAny (model W.prog W.w) A (eval (.Call (.Name rv p2) [.Name sk p3] [] p4) env) (λ x s₁ => wpAny (model W.prog W.w) A (pyIter x) Q E s₁) E s) :
  aCF W sh (ls.flatMap (·.2)) (.fresh (.func (aFp nm rv sk p1 p2 p3 p4 p5 p6 p7 p8 p9 p10) env)) [(env.locals, IsNs loc)] := by
 refine goodGen_iff.mpr λ A R GR s hA S => ?_
 show SegX _ A _ (denote table (.func (aFp nm rv sk p1 p2 p3 p4 p5 p6 p7 p8 p9 p10) env)) [] s _
 refine aGF ?_
 refine aAt (wpAny_point ?_)
 refine aBY (aF9 ?_)
 refine aBY ?_
 have hA' : Aok 4 (A.over (.func (aFp nm rv sk p1 p2 p3 p4 p5 p6 p7 p8 p9 p10) env) []) := ⟨hA.handled, by
   have := hA.depth
   show A.depth + 0 + 1 + 4 < _
   omega, by
   have := hA.units
   show A.units + 0 + 3 + 8 * 4 < _
   omega⟩
 have S1 : Sta W GR env loc (R ++ sh) s := ⟨S.ok, by rw [hk]; exact he, S.led.perm (by rw [← List.append_assoc]; exact List.perm_append_comm), S.bare, S.os, S.gens, S.gnd⟩
 refine aAt (wpAny_standAt ?_)
 have main := hrev _ R GR s hA' S1
 refine aAt (wpAny_mono (main (λ x s₁ => ∃ rit own, x = .ref rit /\ Sta W GR env loc (R ++ (sh ++ own)) s₁ /\ LY W sh rit (ls.map λ p => .ref p.1) own) (λ _ _ => False) λ rit own s' S' hy => ⟨rit, own, rfl, S', hy⟩) (λ x s₁ h₁ => ?_) λ _ _ h => h.elim)
 refine aAt (wpAny_of_eq (a := x) rfl ?_)
 refine aAt (wpAny_standAt ?_)
 refine aAt (wpAny_holding (wpAny_mono h₁ (λ y s₂ h₂ => ?_) λ _ _ h => h.elim))
 obtain ⟨rit, own, rfl, S2, hy⟩ := h₂
 refine s_call W.prog W.w A _ [] _ s₂ (aDf env nm p1 p5 p6 p7 p8 p9 rit) none false [] _ λ p => ?_
 refine aDH ?hf hi hnm ls hls own loc A R GR s₂ hA hk he ⟨S2.ok, S2.led.perm ?_, S2.bare, S2.os, S2.gens, S.gnd⟩ hy
 ·refine ⟨rfl, rfl, λ x => rfl, Nat.le_refl _, Nat.le_refl _, λ A c s P hP => ?_⟩
  refine s_pop _ _ _ _ _ _ _ _ _ rfl _ _ _ _ _ _ _ ?_
  exact s_end _ _ _ _ _ _ _ _ rfl hP
 ·rw [← List.append_assoc R sh, ← List.append_assoc R sh]
  exact List.perm_middle.symm
end
end Mine
end
section
namespace Mine
structure Fn (K : Frag) (f : Addr) (st : Stmt) (qual : Str) (dV kV cdv : Value) : Prop where
 at_ : ∃ name doc pm ct oc an od osl, K.lookup f = some ⟨oc, od, .func (fnOf name qual (aBB st) (aAm st) (aAc st) dV kV doc pm an cdv ct), osl⟩
 code : codeIn K cdv qual = true
noncomputable def aGz (s : Shared) (st : Stmt) (qual : Str) (dV kV cdv : Value) (args : Args) (binds : List (Str × Value)) : Prop :=
 ∀ name doc pm ct an, BindsTo s (fnOf name qual (aBB st) (aAm st) (aAc st) dV kV doc pm an cdv ct) args binds
noncomputable def aFT (sc : Scope) (ks : List Str) : Bool := sc.kind == .function && !sc.isCoroutine && sc.isGenerator && (sc.names.all λ x => x.2 != .cell) && (ks.all λ x => sc.names.lookup x == some .local && !(x == ("__debug__" : Str))) && decide ks.Nodup
section
variable {W : Wd} {G : Gens} {env : Env} {loc loc' : Loc} {nw nw' : Ledger} {s : Shared} {A : Around} {E : Value -> Shared -> Prop}
theorem Sta.call_fn {Q : Value -> Shared -> Prop} {f : Addr} {qual : Str} {st : Stmt} {dV kV cdv : Value} {pos : List Value} {kw : List (Str × Value)} {binds : List (Str × Value)} (rest : List Str)
  (S : Sta W G env loc nw s) (hf : Fn W.K f st qual dV kV cdv) (hroom : A.depth < recursionLimit) (hbind : aGz s st qual dV kV cdv ⟨pos, kw⟩ binds) (hk : aBs (aAc st) (binds.map Prod.fst ++ rest) = true)
  (h : ∀ L s', Sta W G (envOf qual (aAc st) L f cdv) (aAv binds rest) ((env.locals, IsNs loc) :: nw) s' ->
   wpAny (model W.prog W.w) (A.deeper (envOf qual (aAc st) L f cdv)) (execs (aAm st) (envOf qual (aAc st) L f cdv)) (λ fl s'' => Q (match fl with | .ret v => v | _ => .none) s'') (λ _ _ => False) s') :
  wpAny (model W.prog W.w) A (call (.ref f) pos kw) Q E s := by
 obtain ⟨name, doc, pm, ct, oc, an, od, osl, ho⟩ := hf.at_
 exact S.call_def (args := ⟨pos, kw⟩) rest hroom ho hf.code (hbind _ _ _ _ _) hk h
theorem Sta.code_fn {R : Result -> Shared -> Prop} {f : Addr} {qual : Str} {st : Stmt} {dV kV cdv : Value} {pos : List Value} {kw : List (Str × Value)} {binds : List (Str × Value)} (rest : List Str)
  (S : Sta W G env loc nw s) (hf : Fn W.K f st qual dV kV cdv) (hroom : A.depth < recursionLimit) (hbind : aGz s st qual dV kV cdv ⟨pos, kw⟩ binds) (hk : aBs (aAc st) (binds.map Prod.fst ++ rest) = true)
  (h : ∀ L s', Sta W G (envOf qual (aAc st) L f cdv) (aAv binds rest) ((env.locals, IsNs loc) :: nw) s' ->
   wpAny (model W.prog W.w) (A.deeper (envOf qual (aAc st) L f cdv)) (execs (aAm st) (envOf qual (aAc st) L f cdv)) (λ fl s'' => R (.ok (.ret (match fl with | .ret v => v | _ => .none))) s'') (λ _ _ => False) s') :
  codeAny (model W.prog W.w) A (.call (.ref f) ⟨pos, kw⟩) R s := by
 obtain ⟨name, doc, pm, ct, oc, an, od, osl, ho⟩ := hf.at_
 exact S.code_def (args := ⟨pos, kw⟩) rest hroom ho hf.code (hbind _ _ _ _ _) hk h
theorem Sta.call_gen {Q : Value -> Shared -> Prop} {f : Addr} {qual : Str} {st : Stmt} {dV kV cdv : Value} {pos : List Value} {kw : List (Str × Value)} {binds : List (Str × Value)} (rest : List Str)
  (S : Sta W G env loc nw s) (hf : Fn W.K f st qual dV kV cdv) (hroom : A.depth < recursionLimit) (hbind : aGz s st qual dV kV cdv ⟨pos, kw⟩ binds) (hk : aFT (aAc st) (binds.map Prod.fst ++ rest) = true)
  (h : ∀ a g L s', EnvOk (envOf qual (aAc st) L f cdv) (binds.map Prod.fst ++ rest) ->
   Sta W (G ++ [(g, .fresh (.func (aAm st) (envOf qual (aAc st) L f cdv)))]) env loc ((a, aAL g) :: (L, IsNs (aAv binds rest)) :: nw) s' -> Q (.ref a) s') :
  wpAny (model W.prog W.w) A (call (.ref f) pos kw) Q E s := by
 obtain ⟨name, doc, pm, ct, oc, an, od, osl, ho⟩ := hf.at_
 simp only [aFT, Bool.and_eq_true, beq_iff_eq, Bool.not_eq_true', List.all_eq_true, bne_iff_ne, decide_eq_true_eq] at hk
 obtain ⟨⟨⟨⟨⟨hkind, hco⟩, hgen⟩, hcell⟩, hks⟩, hnd⟩ := hk
 have hks2 : ((aAv binds rest).map Prod.fst) = binds.map Prod.fst ++ rest := by
  simp [aAv, List.map_map, Function.comp_def]
 refine wpAny_call (codeAny_call_generator (fd := fnOf name qual (aBB st) (aAm st) (aAc st) dV kV doc pm an cdv ct) (body := aAm st) hroom (S.kin _ _ ho) rfl hco hgen rfl (codeRec_of S.kin hf.code) (hbind _ _ _ _ _ _ _ _ _ ?_))
 refine wpAny_newFunctionEnv hcell (λ x hx => (hks x.1 (List.mem_append_left _ (List.mem_map.mpr ⟨x, hx, rfl⟩))).1) (λ h₁ hns hsb => ?_) hkind
 have hkp : ∀ b o, s.heap.get? b = some o -> h₁.get? b = some o := λ b o e => hsb.extBut b o (Nat.ne_of_lt (Heap.lt_size e)) (Heap.get?_push_of_some _ e)
 refine ⟨S.nolimit.keeps hkp, ?_⟩
 have D : Led W.B ((s.heap.objs.size, IsNs (aAv binds rest)) :: (env.locals, IsNs loc) :: nw) h₁ := by
  obtain ⟨o, es, ep, ho', hd, hsk, hf⟩ := hns
  refine S.led.cons_new hkp S.led.size_ne S.led.size_new ho' ⟨by rw [hks2]; exact hnd, es, ep, hd, hsk, λ x => ?_⟩
  rw [hf x, aBG _ _ (hnd.sublist (List.sublist_append_left _ _))]
 refine h h₁.objs.size s.gens.size s.heap.objs.size _ ⟨hkind, rfl, rfl, λ x hx => (hks x hx).1, λ x hx => (hks x hx).2, hnd⟩ ⟨S.ok, S.eok, ?_, ?_, S.os, ?_, ?_⟩
 case refine_4 =>
  rw [List.map_append, List.nodup_append]
  refine ⟨S.gnd, by simp, λ a ha b hb e => ?_⟩
  have : b = s.gens.size := by simpa using hb
  subst this
  obtain ⟨p, hp, q⟩ := List.mem_map.mp ha
  have := (Array.getElem?_eq_some_iff.mp (S.gens p hp)).1
  rw [q, e] at this
  exact Nat.lt_irrefl _ this
 ·refine ((D.new (c := aAL s.gens.size) (o := { cls := .type "generator", data := .fields #[.int s.gens.size 0, .str name (s.toks + binds.length), .str qual (s.toks + binds.length + 1)] }) rfl ⟨_, _, rfl⟩).perm ?_)
  exact (List.Perm.cons _ (List.Perm.swap ..)).trans (List.Perm.swap ..)
 ·exact S.bare.push rfl
 ·intro p hp
  show (s.gens.push _)[p.1]? = _
  rcases List.mem_append.mp hp with hp | hp
  ·have hlt := (Array.getElem?_eq_some_iff.mp (S.gens p hp)).1
   rw [Array.getElem?_push_lt hlt]
   have := S.gens p hp
   rw [Array.getElem?_eq_getElem hlt] at this
   exact this
  ·have : p = (s.gens.size, .fresh (.func (aAm st) (envOf qual (aAc st) s.heap.objs.size f cdv))) := by simpa using hp
   subst this
   simp; rfl
end
end Mine
end
section
namespace Mine
theorem St0.setL {W : Wd} {G : Gens} {R : Ledger} {s : Shared} {a : Addr} {xs ys : List Value} {n : Nat} (S : St0 W G ((a, aAa xs) :: R) s) (hl : IsL s.heap a xs.toArray n) (f : Array Value -> Array Value) (e : f xs.toArray = ys.toArray) :
  St0 W G ((a, aAa ys) :: R) { s with heap := s.heap.update a (Obj.mapSeq f) } := by
 obtain ⟨o, ho, hc⟩ := aHP hl f e
 exact ⟨S.ok, S.led.set .head (λ b o hb e => ((Heap.SameBut.update s.heap a _).2 b hb).trans e) ho hc, S.bare, S.os, S.gens, S.gnd⟩
theorem St0.isL {W : Wd} {G : Gens} {R : Ledger} {s : Shared} {a : Addr} {xs : List Value} (S : St0 W G R s) (m : (a, aAa xs) ∈ R) : ∃ n, IsL s.heap a xs.toArray n := by
 obtain ⟨o, ho, n, rfl⟩ := S.led.get m
 exact ⟨n, ho⟩
section
variable {W : Wd} {sh : Ledger} {I : Addr} {E : Value -> Shared -> Prop}
theorem aBH {T : Addr} {res : Value} {Rr : Result -> Shared -> Prop} {R : Ledger} {GR : Gens} : ∀ (vs : List Value) (own : Ledger) (og : Gens) (acc : List Value) (A : Around) (s : Shared), Aok 8 A -> aAW W sh I vs own og -> acc.length + vs.length <= sizeLine ->
  St0 W (GR ++ og) (((T, aAa acc) :: R) ++ (sh ++ own)) s -> (∀ s', St0 W GR (((T, aAa (acc ++ vs)) :: R) ++ sh) s' -> Rr (.ok (.ret res)) s') -> codeAny (model W.prog W.w) A (.builtin "list.extend.loop" ⟨[.ref T, .ref I, res], []⟩) Rr s
 | [], own, og, acc, A, s, hA, hy, hz, S, hR => by
  refine codeAny_builtin F.entry_extend_loop ?_
  refine wpAny_bind (hy.2 A.in1 _ GR s _ _ (Aok.in1 hA) S λ s' S' => wpAny_pure (hR s' ?_))
  rw [List.append_nil]; exact S'
 | v :: vs, own, og, acc, A, s, hA, hy, hz, S, hR => by
  refine codeAny_builtin F.entry_extend_loop ?_
  show wpAny _ A.in1 (pyNext (.ref I) >>= _) _ _ s
  refine wpAny_bind (hy.2 A.in1 _ GR s _ _ (Aok.in1 hA) S λ own' og' s' S' hy' => ?_)
  have S'' : St0 W (GR ++ og') ((T, aAa acc) :: (R ++ (sh ++ own'))) s' := S'
  obtain ⟨n, hl⟩ := S''.isL (.head _)
  rw [List.length_cons] at hz
  refine wpAny_bind ?_
  refine wpAny_updateSeq hl rfl (wpAny_pure ⟨plainId_quiet F.plain_extend_loop _, aBH vs own' og' (acc ++ [v]) A _ hA hy' (by simp; omega) (S''.setL hl _ (by simp)) λ s'' S3 => hR s'' ?_⟩)
   (by simp; omega) (by show (acc.toArray.push v).size <= sizeLine + 1; simp; omega)
  rw [List.append_assoc] at S3; exact S3
theorem aIj {T : Addr} {res : Value} {Rr : Result -> Shared -> Prop} {R : Ledger} {GR : Gens} {vs : List Value} {own : Ledger} {og : Gens} {A : Around} {s : Shared} (hA : Aok 8 A) (hT : s.TypeIs (.ref I) "generator") (hne : T ≠ I) (hg : ∃ g, s.heap.IsGen I g) (hy : aAW W sh I vs own og) (hz : vs.length <= sizeLine)
  (S : St0 W (GR ++ og) (((T, aAa []) :: R) ++ (sh ++ own)) s) (hR : ∀ s', St0 W GR (((T, aAa vs) :: R) ++ sh) s' -> Rr (.ok (.ret res)) s') :
  wpAny (model W.prog W.w) A.in1 (Builtin.List.listExtendWith (.ref T) (.ref I) res)
   (λ fin s' => match fin with | .done f => Rr (.ok f) s' | .again c' => c'.quiet = true /\ codeAny (model W.prog W.w) A c' Rr s') (λ e s' => Rr (.error e) s') s := by
 unfold Builtin.List.listExtendWith
 refine wpAny_bind (wpAny_typeOf hT ?_)
 have h1 : Builtin.List.listSameRef (.ref T) (.ref I) = false := by simp [Builtin.List.listSameRef, hne]
 have h2 : (Value.type "generator" == Value.type "list") = false := by decide
 have h3 : (Value.type "generator" == Value.type "tuple") = false := by decide
 simp only [h1, h2, h3, Bool.or_false, Bool.false_eq_true, if_false]
 obtain ⟨g, hg⟩ := hg
 refine wpAny_bind (wpAny_pyIter_gen hg ?_)
 refine wpAny_bind (wpAny_holding ?_)
 refine wpAny_bind (wpAny_specialOf hT F.gen_no_len ?_)
 refine wpAny_bind (wpAny_specialOf hT F.gen_no_hint ?_)
 refine wpAny_pure ?_
 show wpAny _ A.in1 (rule "list.extend.makes-room" >>= λ _ => Builtin.List.listTouch (.ref T) >>= λ _ =>
  again (.builtin "list.extend.loop" ⟨[.ref T, .ref I, res], []⟩)) _ _ _
 refine wpAny_bind (wpAny_rule ?_)
 refine wpAny_bind ?_
 have S0 : St0 W (GR ++ og) ((T, aAa []) :: (R ++ (sh ++ own))) s := S
 obtain ⟨n, hl⟩ := S0.isL (.head _)
 refine wpAny_bind (wpAny_updateSeq hl rfl ?_ (by simp) (by simp))
 have S1 := S0.setL (ys := [.none]) hl (·.push Value.none) rfl
 obtain ⟨n1, hl1⟩ := S1.isL (.head _)
 refine wpAny_updateSeq hl1 rfl ?_ (by simp [sizeLine_eq]) (by simp)
 have S2 := S1.setL (ys := []) hl1 (·.pop) rfl
 refine wpAny_pure ⟨plainId_quiet F.plain_extend_loop _, aBH vs own og [] A _ hA hy (by simpa using hz) S2 λ s' S' => hR s' ?_⟩
 simpa using S'
theorem list_y {Q : Value -> Shared -> Prop} {R : Ledger} {GR : Gens} {vs : List Value} {own : Ledger} {og : Gens} {A : Around} {s : Shared} (hA : Aok 9 A) (g : Nat) (hm : (I, aAL g) ∈ own) (hy : aAW W sh I vs own og) (hz : vs.length <= sizeLine)
  (S : St0 W (GR ++ og) (R ++ (sh ++ own)) s) (hQ : ∀ a s', St0 W GR ((a, aAa vs) :: (R ++ sh)) s' -> Q (.ref a) s') :
  wpAny (model W.prog W.w) A (call (.type "list") [.ref I]) Q E s := by
 have hI : (I, aAL g) ∈ R ++ (sh ++ own) := by simp [hm]
 obtain ⟨oI, hoI, nm, qn, rfl⟩ := S.led.get hI
 have hne : s.heap.objs.size ≠ I := Nat.ne_of_gt (Heap.lt_size hoI)
 refine callType_codes (Q₁ := λ obj s₁ => obj = .ref s.heap.objs.size /\ s₁ = { s with heap := s.heap.push { cls := .type "list", data := .seq #[] } }) F.called_list (F.typeCall_list_1 _) F.entry_list_init
  (code_list_new _ ⟨rfl, rfl⟩) λ obj s₁ h₁ => ?_
 obtain ⟨rfl, rfl⟩ := h₁
 have S1 : St0 W (GR ++ og) ((s.heap.objs.size, aAa []) :: (R ++ (sh ++ own))) { s with heap := s.heap.push { cls := .type "list", data := .seq #[] } } :=
  ⟨S.ok, S.led.new (c := aAa []) rfl ⟨0, rfl⟩, S.bare, S.os, S.gens, S.gnd⟩
 obtain ⟨n, hl⟩ := S1.isL (.head _)
 refine ⟨⟨_, hl, rfl⟩, F.args_list_init_2 _ _, ?_⟩
 show wpAny _ A.in1.in1 (do let old ← Builtin.List.listItems (.ref s.heap.objs.size); Builtin.List.listUpdate (.ref s.heap.objs.size) (λ _ => #[]); letGo old.toList.reverse; Builtin.List.listExtendWith (.ref s.heap.objs.size) (.ref I) .none) _ _ _
 refine wpAny_bind ?_
 refine wpAny_bind (wpAny_seqItems hl rfl (wpAny_pure ?_))
 refine wpAny_bind (wpAny_updateSeq hl rfl ?_ (by simp) (by simp))
 have S2 := S1.setL (ys := []) hl (λ _ => #[]) rfl
 refine wpAny_bind (wpAny_letGo ?_)
 obtain ⟨oI2, hoI2, nm2, qn2, e2⟩ := S2.led.get (a := I) (c := aAL g) (.tail _ hI)
 subst e2
 refine aIj (A := A.in1) (R := R) (GR := GR) (Aok.in1 hA) ⟨_, hoI2, rfl⟩ hne ⟨g, _, nm2, qn2, hoI2, rfl, rfl, rfl⟩ hy hz S2 λ s' S' => ?_
 exact ⟨rfl, hQ _ s' S'⟩
end
end Mine
end
section
namespace Mine
theorem Sta.to0 {W : Wd} {G : Gens} {env : Env} {loc : Loc} {nw : Ledger} {s : Shared} (S : Sta W G env loc nw s) : St0 W G ((env.locals, IsNs loc) :: nw) s := ⟨S.ok, S.led, S.bare, S.os, S.gens, S.gnd⟩
theorem St0.toSta {W : Wd} {G : Gens} {env : Env} {loc : Loc} {nw : Ledger} {s : Shared} (S : St0 W G ((env.locals, IsNs loc) :: nw) s) (e : EnvOk env (loc.map Prod.fst)) : Sta W G env loc nw s := ⟨S.ok, e, S.led, S.bare, S.os, S.gens, S.gnd⟩
theorem Sta.fewer {W : Wd} {G G' : Gens} {env : Env} {loc : Loc} {nw : Ledger} {s : Shared} (S : Sta W (G ++ G') env loc nw s) : Sta W G env loc nw s := (S.to0.fewer).toSta S.eok
theorem aFv {prog : Program} {w : World} {A : Around} {s : Shared} {R : Result -> Shared -> Prop} {target : Expr} {it : Value} {body orelse : List Stmt} {env : Env} (I : Nat -> Shared -> Prop)
  (turn : ∀ n s, I n s -> wpAny (model prog w) A (pyNext it) (λ r s₁ => match r with
   | none => wpAny (model prog w) A (execs orelse env) (λ f s₃ => R (.ok f) s₃) (λ _ _ => False) s₁
   | some v => wpAny (model prog w) A (letOwnedTupleGo target it v) (λ _ s₁ => wpAny (model prog w) A (assign target env v) (λ _ s₂ => wpAny (model prog w) A (execs body env) (λ f s₃ => match f with
     | .next | .cont => ∃ m, m < n /\ I m s₃
     | .brk => R (.ok .next) s₃
     | .ret v => R (.ok (.ret v)) s₃) (λ _ _ => False) s₂) (λ _ _ => False) s₁) (λ _ _ => False) s₁) (λ _ _ => False) s)
  (n : Nat) (h : I n s) : codeAny (model prog w) A (.forLoop target it body orelse env) R s := by
 refine codeAny_loop' rfl I (λ n s hI => ?_) n h
 refine wpAny_noted ?_
 refine wpAny_bind (wpAny_standAt (wpAny_bind (wpAny_onRaise (wpAny_mono (turn n s hI) (λ r s₁ h₁ => ?_) λ _ _ h' => h'.elim))))
 cases r with
 | none => exact wpAny_pure (.inr ⟨rfl, codeAny_block (wpAny_mono h₁ (λ _ _ h => h) λ _ _ h => h.elim)⟩)
 | some v =>
  refine wpAny_bind (wpAny_mono h₁ (λ _ s₁' h₁' => ?_) λ _ _ h' => h'.elim)
  refine wpAny_bind (wpAny_mono h₁' (λ _ s₂ h₂ => wpAny_bind (wpAny_mono h₂ (λ f s₃ h₃ => ?_) λ _ _ h' => h'.elim)) λ _ _ h' => h'.elim)
  cases f with
  | next => exact wpAny_pure (.inl ⟨rfl, h₃⟩)
  | cont => exact wpAny_pure (.inl ⟨rfl, h₃⟩)
  | brk => exact wpAny_pure h₃
  | ret v => exact wpAny_pure h₃
theorem aHU {prog : Program} {w : World} {A : Around} {E : Value -> Shared -> Prop} {s : Shared} {target : Expr} {it : Addr} {v : Value} {o : Obj} {Q : Unit -> Shared -> Prop} (ho : s.heap.get? it = some o) (hp : aAZ o = true) (h : Q () s) : wpAny (model prog w) A (letOwnedTupleGo target (.ref it) v) Q E s := by
 have key : wpAny (model prog w) A (letOwnedTupleGo (.Tuple [] 0 default) (.ref it) v) Q E s := by
  cases v with
  | ref a =>
   refine wpAny_bind (m := load it) (wpAny_load ho ?_)
   unfold aAZ at hp
   split
   ·rename_i n vs hc hd
    rw [hc] at hp
    dsimp only at hp
    rw [Bool.not_eq_true'] at hp
    rw [hp]
    exact wpAny_pure h
   ·exact wpAny_pure h
  | _ => exact wpAny_pure h
 cases target with
 | Tuple => exact key
 | List => exact key
 | _ => exact wpAny_pure h
section
variable {W : Wd} {sh : Ledger} {env : Env} {A : Around} {R : Result -> Shared -> Prop} {it : Addr} {target : Expr} {body : List Stmt}
theorem for_y {α : Type} {P : α -> Value -> Prop} (hA : Aok 7 A) (J : List α -> Loc -> Ledger -> Gens -> Prop)
  (turn : ∀ x v rest tl tg loc nw G s, P x v -> Sta W (G ++ tg) env loc (nw ++ (sh ++ tl)) s -> J (x :: rest) loc nw G ->
   wpAny (model W.prog W.w) A (assign target env v) (λ _ s₂ => wpAny (model W.prog W.w) A (execs body env) (λ f s₃ => match f with
     | .next | .cont => ∃ loc' nw' G', Sta W (G' ++ tg) env loc' (nw' ++ (sh ++ tl)) s₃ /\ J rest loc' nw' G'
     | .brk => R (.ok .next) s₃
     | .ret v => R (.ok (.ret v)) s₃) (λ _ _ => False) s₂) (λ _ _ => False) s)
  (fin : ∀ loc nw G s, Sta W G env loc (nw ++ sh) s -> J [] loc nw G -> R (.ok .next) s)
  {xs : List α} {own : Ledger} {og G : Gens} {loc : Loc} {nw : Ledger} {s : Shared} (S : Sta W (G ++ og) env loc (nw ++ (sh ++ own)) s) (hy : YieldsR W sh it P xs own og) (hJ : J xs loc nw G) :
  codeAny (model W.prog W.w) A (.forLoop target (.ref it) body [] env) R s := by
 refine aFv (λ n s => ∃ xs own og G loc nw, xs.length = n /\ Sta W (G ++ og) env loc (nw ++ (sh ++ own)) s /\ YieldsR W sh it P xs own og /\ J xs loc nw G) (λ n s hI => ?_) xs.length ⟨xs, own, og, G, loc, nw, rfl, S, hy, hJ⟩
 obtain ⟨vs, own, og, G, loc, nw, hn, S, hy, hJ⟩ := hI
 cases vs with
 | nil =>
  refine hy.2 A ((env.locals, IsNs loc) :: nw) G s _ _ hA S.to0 λ s' S' => ?_
  exact wpAny_execs_nil (fin loc nw G s' (St0.toSta S' S.eok) hJ)
 | cons x rest =>
  refine hy.2 A ((env.locals, IsNs loc) :: nw) G s _ _ hA S.to0 λ v own' og' s' hp S' hy' => ?_
  have S1 : Sta W (G ++ og') env loc (nw ++ (sh ++ own')) s' := St0.toSta S' S.eok
  have ht : Typ sh it own' := by cases rest <;> exact hy'.1
  obtain ⟨c, hc, hpl⟩ := ht
  obtain ⟨o, ho, hco⟩ := S1.get (a := it) (c := c) (List.mem_append_right _ hc)
  refine aHU ho (hpl o hco) ?_
  refine wpAny_mono (turn x v rest own' og' loc nw G s' hp S1 hJ) (λ _ s₂ h₂ => wpAny_mono h₂ (λ f s₃ h₃ => ?_) λ _ _ h => h) λ _ _ h => h
  cases f with
  | next => obtain ⟨loc', nw', G', S3, hJ'⟩ := h₃; exact ⟨rest.length, by rw [← hn]; simp, rest, own', og', G', loc', nw', rfl, S3, hy', hJ'⟩
  | cont => obtain ⟨loc', nw', G', S3, hJ'⟩ := h₃; exact ⟨rest.length, by rw [← hn]; simp, rest, own', og', G', loc', nw', rfl, S3, hy', hJ'⟩
  | brk => exact h₃
  | ret v => exact h₃
theorem Sta.listGen {Q : Value -> Shared -> Prop} {E : Value -> Shared -> Prop} {nw : Ledger} {G : Gens} {loc : Loc} {vs : List Value} {own : Ledger} {og : Gens} {s : Shared} (hA : Aok 9 A) (g : Nat) (hm : (it, aAL g) ∈ own) (hy : aAW W sh it vs own og) (hz : vs.length <= sizeLine)
  (S : Sta W (G ++ og) env loc (nw ++ (sh ++ own)) s) (hQ : ∀ a s', Sta W G env loc ((a, aAa vs) :: (nw ++ sh)) s' -> Q (.ref a) s') :
  wpAny (model W.prog W.w) A (call (.type "list") [.ref it]) Q E s :=
 list_y (R := (env.locals, IsNs loc) :: nw) hA g hm hy hz S.to0 λ a s' S' => hQ a s' (St0.toSta ⟨S'.ok, S'.led.perm (List.Perm.swap ..), S'.bare, S'.os, S'.gens, S'.gnd⟩ S.eok)
end
end Mine
end
section
namespace Mine
noncomputable def aAp (v : Option Value) : Cell := λ o => o.data = .cell v
structure CellOk (env : Env) (k : NameKind) (x : Str) (c : Addr) : Prop where
 kind : env.kindOf x = some k
 at_ : env.cells.lookup x = some c
 nodebug : (x == ("__debug__" : Str)) = false
 noclass : (x == ("__classdict__" : Str)) = false
section
variable {W : Wd} {G : Gens} {env : Env} {loc loc' : Loc} {nw nw' : Ledger} {s : Shared} {A : Around} {E : Value -> Shared -> Prop}
theorem Sta.isCell {c : Addr} {v : Option Value} (S : Sta W G env loc nw s) (m : (c, aAp v) ∈ nw) : s.heap.IsCell c v := S.get m
theorem Sta.cell {x : Str} {pos : Pos} {c : Addr} {v : Value} {Q : Value -> Shared -> Prop} {M : Model} (S : Sta W G env loc nw s) (hc : CellOk env .cell x c) (m : (c, aAp (some v)) ∈ nw) (h : Q v s) : wpAny M A (eval (.Name x pos) env) Q E s :=
 wpAny_Name (wpAny_loadName_cell S.eok.fn hc.kind hc.at_ (S.isCell m) h) hc.nodebug
theorem Sta.free {x : Str} {pos : Pos} {c : Addr} {v : Value} {Q : Value -> Shared -> Prop} {M : Model} (S : Sta W G env loc nw s) (hc : CellOk env .free x c) (m : (c, aAp (some v)) ∈ nw) (h : Q v s) : wpAny M A (eval (.Name x pos) env) Q E s :=
 wpAny_Name (wpAny_loadName_free S.eok.fn hc.kind hc.at_ (S.isCell m) h hc.noclass) hc.nodebug
theorem Sta.storeC {x : Str} {c : Addr} {v : Value} {v₀ : Option Value} {Q : Unit -> Shared -> Prop} {M : Model} (S : Sta W G env loc nw s) (hc : CellOk env .cell x c) (U : Upd c (aAp v₀) (aAp (some v)) nw nw') (h : ∀ s', Sta W G env loc nw' s' -> Q () s') : wpAny M A (storeName env x v) Q E s := by
 refine wpAny_storeName_cell S.eok.fn hc.kind hc.at_ (S.isCell U.mem) λ h' hc' hs => ?_
 obtain ⟨o, ho, hd⟩ := hc'
 exact h _ (S.set U (λ b o hb e => (hs.2 b hb).trans e) ho hd s.toks)
end
noncomputable def aAn (names : List (Str × NameKind)) : List Str := (names.filter λ p => p.2 == .cell).map Prod.fst
theorem aBp : ∀ (names : List (Str × NameKind)) (n : Nat) (acc : List (Str × Addr)), cellsFrom n names acc = ((aAn names).zip (List.range' n (aAn names).length)).reverse ++ acc
 | [], n, acc => rfl
 | (x, k) :: r, n, acc => by
  unfold cellsFrom
  cases hk : k == .cell with
  | true =>
   rw [if_pos rfl, aBp r (n + 1) ((x, n) :: acc)]
   simp [aAn, hk, List.range'_succ]
  | false =>
   rw [if_neg (by decide), aBp r n acc]
   simp [aAn, hk]
theorem aBr : ∀ (ks : List Str) (n : Nat), ks.Nodup -> ∀ i (h : i < ks.length), ((ks.zip (List.range' n ks.length)).reverse ++ []).lookup ks[i] = some (n + i)
 | [], _, _, i, h => by simp at h
 | k :: r, n, nd, i, h => by
  rw [List.nodup_cons] at nd
  rw [List.append_nil]
  simp only [List.length_cons, List.range'_succ, List.zip_cons_cons, List.reverse_cons, List.lookup_append]
  cases i with
  | zero =>
   have : ((r.zip (List.range' (n + 1) r.length)).reverse).lookup k = none := by
    rw [List.lookup_eq_none_iff]
    intro p hp
    rw [bne_iff_ne]
    intro e
    exact nd.1 (by rw [e]; exact (List.of_mem_zip (List.mem_reverse.mp hp)).1)
   simp [this]
  | succ j =>
   have hj : j < r.length := by simpa using h
   have := aBr r (n + 1) nd.2 j hj
   rw [List.append_nil] at this
   simp only [List.getElem_cons_succ, this]
   simp; omega
noncomputable def mapL (sc : Scope) (binds : List (Str × Value)) : List (Str × Value) := binds.filter λ p => sc.names.lookup p.1 == some .local
theorem aEj (k : Str -> Option NameKind) : ∀ (binds : List (Str × Value)) (m : Str -> Option Value) (x : Str), (binds.map Prod.fst).Nodup -> bindL k binds m x = ((binds.filter λ p => k p.1 == some .local).lookup x).or (m x)
 | [], m, x, _ => by simp [bindL]
 | (n, v) :: r, m, x, nd => by
  rw [List.map_cons, List.nodup_cons] at nd
  unfold bindL
  rw [aEj k r _ x nd.2]
  by_cases hk : k n = some .local
  ·rw [if_pos hk]
   rw [List.filter_cons_of_pos (by simp [hk]), List.lookup_cons]
   by_cases hx : x = n
   ·subst hx
    have : (r.filter λ p => k p.1 == some .local).lookup x = none := by
     rw [List.lookup_eq_none_iff]
     intro p hp
     rw [bne_iff_ne]
     exact λ e => nd.1 (List.mem_map.mpr ⟨p, (List.mem_filter.mp hp).1, e.symm⟩)
    simp [this]
   ·simp [beq_eq_false_iff_ne.mpr hx, hx]
  ·rw [if_neg hk, List.filter_cons_of_neg (by simp [hk])]
theorem aEk (k : Str -> Option NameKind) : ∀ (binds : List (Str × Value)) (m : Str -> Option Value) (x : Str), (binds.map Prod.fst).Nodup -> k x ≠ some .local -> bindC k binds m x = (binds.lookup x).or (m x)
 | [], m, x, _, _ => by simp [bindC]
 | (n, v) :: r, m, x, nd, hx => by
  rw [List.map_cons, List.nodup_cons] at nd
  unfold bindC
  rw [aEk k r _ x nd.2 hx, List.lookup_cons]
  by_cases e : x = n
  ·subst e
   rw [if_neg hx]
   have : r.lookup x = none := by
    rw [List.lookup_eq_none_iff]
    intro p hp
    rw [bne_iff_ne]
    exact λ e => nd.1 (List.mem_map.mpr ⟨p, hp, e.symm⟩)
   simp [this]
  ·rw [beq_eq_false_iff_ne.mpr e]
   by_cases hk : k n = some .local
   ·rw [if_pos hk]
   ·rw [if_neg hk]; simp [e]
noncomputable def aFU (sc : Scope) (binds : List (Str × Value)) (ks : List Str) : Bool := sc.kind == .function && !sc.isCoroutine && !sc.isGenerator && (binds.all λ x => sc.names.lookup x.1 == some .local || sc.names.lookup x.1 == some .cell) &&
 (ks.all λ x => sc.names.lookup x == some .local && !(x == ("__debug__" : Str))) && decide ks.Nodup && decide (binds.map Prod.fst).Nodup && decide (aAn sc.names).Nodup &&
 ((aAn sc.names).all λ x => sc.names.lookup x == some .cell && !(x == ("__debug__" : Str)) && !(x == ("__classdict__" : Str)))
noncomputable def CellsAt (env : Env) : List Str -> List Addr -> Prop
 | x :: xs, c :: cs => CellOk env .cell x c /\ CellsAt env xs cs
 | [], [] => True
 | _, _ => False
noncomputable def aAV : List (Option Value) -> List Addr -> Ledger
 | v :: vs, c :: cs => (c, aAp v) :: aAV vs cs
 | _, _ => []
theorem aCD {env : Env} : ∀ (ks : List Str) (n : Nat), (∀ i (h : i < ks.length), CellOk env .cell ks[i] (n + i)) -> CellsAt env ks (List.range' n ks.length)
 | [], _, _ => trivial
 | k :: r, n, h => ⟨h 0 (by simp), aCD r (n + 1) λ i hi => by have := h (i + 1) (by simpa using hi); simp only [List.getElem_cons_succ] at this; rwa [show n + 1 + i = n + (i + 1) by omega]⟩
theorem aB6 : ∀ (vs : List (Option Value)) (n : Nat) (p : Addr × Cell), p ∈ aAV vs (List.range' n vs.length) -> ∃ i, ∃ h : i < vs.length, p = (n + i, aAp vs[i])
 | [], _, _, h => by simp [aAV] at h
 | v :: vs, n, p, h => by
  rcases List.mem_cons.mp h with rfl | h
  ·exact ⟨0, by simp, rfl⟩
  ·obtain ⟨i, hi, e⟩ := aB6 vs (n + 1) p h
   exact ⟨i + 1, by simpa using hi, by rw [e]; simp; omega⟩
theorem aBU : ∀ (vs : List (Option Value)) (n : Nat), (aAV vs (List.range' n vs.length)).map Prod.fst = List.range' n vs.length
 | [], _ => rfl
 | v :: vs, n => by simp only [List.length_cons, List.range'_succ, aAV, List.map_cons, aBU vs (n + 1)]
section
variable {W : Wd} {G : Gens} {env : Env} {loc loc' : Loc} {nw nw' : Ledger} {s : Shared} {A : Around} {E : Value -> Shared -> Prop}
theorem Sta.call_fnC {Q : Value -> Shared -> Prop} {f : Addr} {qual : Str} {st : Stmt} {dV kV cdv : Value} {pos : List Value} {kw : List (Str × Value)} {binds : List (Str × Value)} (bl : List (Str × Value)) (rest : List Str) (cv : List (Option Value))
  (S : Sta W G env loc nw s) (hf : Fn W.K f st qual dV kV cdv) (hroom : A.depth < recursionLimit) (hbind : aGz s st qual dV kV cdv ⟨pos, kw⟩ binds)
  (hbl : mapL (aAc st) binds = bl) (hcv : (aAn (aAc st).names).map (λ n => binds.lookup n) = cv) (hk : aFU (aAc st) binds (bl.map Prod.fst ++ rest) = true)
  (h : ∀ L cs s', CellsAt (envOfC qual (aAc st) L f cdv) (aAn (aAc st).names) cs -> Sta W G (envOfC qual (aAc st) L f cdv) (aAv bl rest) (aAV cv cs ++ ((env.locals, IsNs loc) :: nw)) s' ->
   wpAny (model W.prog W.w) (A.deeper (envOfC qual (aAc st) L f cdv)) (execs (aAm st) (envOfC qual (aAc st) L f cdv)) (λ fl s'' => Q (match fl with | .ret v => v | _ => .none) s'') (λ _ _ => False) s') :
  wpAny (model W.prog W.w) A (call (.ref f) pos kw) Q E s := by
 obtain ⟨name, doc, pm, ct, oc, an, od, osl, ho⟩ := hf.at_
 simp only [aFU, Bool.and_eq_true, beq_iff_eq, Bool.not_eq_true', List.all_eq_true, bne_iff_ne, decide_eq_true_eq, Bool.or_eq_true] at hk
 obtain ⟨⟨⟨⟨⟨⟨⟨⟨hkind, hco⟩, hgen⟩, hbk⟩, hks⟩, hnd⟩, hbnd⟩, hcnd⟩, hcs⟩ := hk
 have hks2 : ((aAv bl rest).map Prod.fst) = bl.map Prod.fst ++ rest := by
  simp [aAv, List.map_map, Function.comp_def]
 have hcf : cellsFrom (s.heap.objs.size + 1) (aAc st).names [] = ((aAn (aAc st).names).zip (List.range' (s.heap.objs.size + 1) (aAn (aAc st).names).length)).reverse ++ [] := aBp _ _ _
 have hlk : ∀ i (hi : i < (aAn (aAc st).names).length), (cellsFrom (s.heap.objs.size + 1) (aAc st).names []).lookup (aAn (aAc st).names)[i] = some (s.heap.objs.size + 1 + i) := λ i hi => by
  rw [hcf]; exact aBr _ _ hcnd i hi
 refine wpAny_call (codeAny_call_function (fd := fnOf name qual (aBB st) (aAm st) (aAc st) dV kV doc pm an cdv ct) hroom (S.kin _ _ ho) rfl hco hgen rfl (codeRec_of S.kin hf.code) (hbind _ _ _ _ _ _ _ _ _ ?_))
 refine wpAny_newFunctionEnv_cells hkind (λ x hx => ?_) λ env' he s' X => ?_
 ·rcases hbk x hx with q | q
  ·exact .inl q
  ·refine .inr ⟨q, ?_⟩
   have : x.1 ∈ aAn (aAc st).names := by
    refine List.mem_map.mpr ⟨(x.1, .cell), List.mem_filter.mpr ⟨mem_of_lookup q, rfl⟩, rfl⟩
   obtain ⟨i, hi, e⟩ := List.getElem_of_mem this
   rw [← e, hlk i hi]; rfl
 ·subst he
  have hkp := X.toInCall.keep
  obtain ⟨h₁, tk, e⟩ := X.toInCall.same
  refine ⟨S.nolimit.keeps hkp, codeAny_func ?_⟩
  have hlen : cv.length = (aAn (aAc st).names).length := by rw [← hcv]; simp
  have D : Led W.B (aAV cv (List.range' (s.heap.objs.size + 1) cv.length) ++ ((s.heap.objs.size, IsNs (aAv bl rest)) :: (env.locals, IsNs loc) :: nw)) s'.heap := by
   have D0 : Led W.B ((s.heap.objs.size, IsNs (aAv bl rest)) :: (env.locals, IsNs loc) :: nw) s'.heap := by
    obtain ⟨o, es, ep, ho', hd, hsk, hf⟩ := X.toInCall.ns
    refine S.led.cons_new hkp S.led.size_ne S.led.size_new ho' ⟨by rw [hks2]; exact hnd, es, ep, hd, hsk, λ x => ?_⟩
    have hnd2 : (bl.map Prod.fst).Nodup := hnd.sublist (List.sublist_append_left _ _)
    rw [hf x, aEj _ _ _ _ hbnd, Option.or_none, aBG _ _ hnd2]
    show (mapL (aAc st) binds).lookup x = _
    rw [hbl]
    have hrev : ∀ (l : List (Str × Value)), (l.map Prod.fst).Nodup -> l.lookup x = l.reverse.lookup x := by
     intro l hl
     induction l with
     | nil => rfl
     | cons p r ih =>
      rw [List.map_cons, List.nodup_cons] at hl
      rw [List.reverse_cons, List.lookup_append, ← ih hl.2, List.lookup_cons, List.lookup_cons]
      by_cases q : x = p.1
      ·subst q
       have : r.lookup p.1 = none := by
        rw [List.lookup_eq_none_iff]
        intro z hz
        rw [bne_iff_ne]
        exact λ e => hl.1 (List.mem_map.mpr ⟨z, hz, e.symm⟩)
       simp [this]
      ·rw [beq_eq_false_iff_ne.mpr q]; simp
    exact hrev bl hnd2
   have hcell : ∀ i (hi : i < cv.length), s'.heap.IsCell (s.heap.objs.size + 1 + i) cv[i] := λ i hi => by
    have hi' : i < (aAn (aAc st).names).length := by rw [← hlen]; exact hi
    have := X.cell _ _ (hlk i hi')
    have hkc : (aAc st).names.lookup (aAn (aAc st).names)[i] = some .cell := (hcs _ (List.getElem_mem hi')).1.1
    have e2 : bindC (newEnv (aAc st) s.heap.objs.size mainGlobals (cellsFrom (s.heap.objs.size + 1) (aAc st).names []) (qual ++ ".<locals>.") (some f) cdv none builtinsNs).kindOf binds (λ _ => none) (aAn (aAc st).names)[i] = cv[i] := by
     rw [aEk _ _ _ _ hbnd (by show (aAc st).names.lookup _ ≠ _; rw [hkc]; decide), Option.or_none]
     simp only [← hcv, List.getElem_map]
    rw [← e2]; exact this
   refine ⟨D0.keep, λ p hp => ?_, ?_⟩
   ·rcases List.mem_append.mp hp with hp | hp
    ·obtain ⟨i, hi, rfl⟩ := aB6 _ _ _ hp
     obtain ⟨o, ho2, hd2⟩ := hcell i hi
     refine ⟨?_, o, ho2, hd2⟩
     cases q : W.B.get? (s.heap.objs.size + 1 + i) with
     | none => rfl
     | some o2 => exact absurd (Heap.lt_size (S.led.keep _ _ q)) (λ hh => by
       omega)
    ·exact D0.own p hp
   ·rw [List.map_append, List.nodup_append, aBU]
    refine ⟨List.nodup_range', D0.nodup, λ a ha b hb e => ?_⟩
    subst e
    have hge : s.heap.objs.size + 1 <= a := by
     have := List.mem_range'_1.mp ha
     exact this.1
    rcases List.mem_cons.mp hb with q | hb
    ·exact absurd q (Nat.ne_of_gt hge)
    ·obtain ⟨p, hp, q⟩ := List.mem_map.mp hb
     obtain ⟨o, ho2, _⟩ := (S.led.own p hp).2
     have hl : p.1 < s.heap.objs.size := Heap.lt_size ho2
     exact absurd q (Nat.ne_of_lt (Nat.lt_trans hl hge))
  have S' : Sta W G (envOfC qual (aAc st) s.heap.objs.size f cdv) (aAv bl rest) (aAV cv (List.range' (s.heap.objs.size + 1) cv.length) ++ ((env.locals, IsNs loc) :: nw)) s' := by
   subst e
   refine ⟨S.ok, by rw [hks2]; exact ⟨hkind, rfl, rfl, λ x hx => (hks x hx).1, λ x hx => (hks x hx).2, hnd⟩, D.perm List.perm_middle, S.bare, S.os, S.gens, S.gnd⟩
  refine wpAny_mono (h _ _ _ ?_ S') (λ fl s'' q => q) (λ _ _ q => q.elim)
  rw [hlen]
  refine aCD _ _ λ i hi => ⟨(hcs _ (List.getElem_mem hi)).1.1, hlk i hi, (hcs _ (List.getElem_mem hi)).1.2, (hcs _ (List.getElem_mem hi)).2⟩
end
end Mine
end
section
namespace Mine
noncomputable def aHN (W : Wd) (it : Addr) (c : Cell) : Prop := ∀ A s (Q : Value -> Shared -> Prop) E o, s.heap.get? it = some o -> c o -> Q (.ref it) s -> wpAny (model W.prog W.w) A (pyIter (.ref it)) Q E s
theorem aCR {prog : Program} {w : World} {A : Around} {s : Shared} {R : Result -> Shared -> Prop} {elt : Expr} {gens : List Comprehension} {scope : Scope} {pos p : Pos} {d : Nat} {target : Expr} {it acc : Value} {env : Env} {body : Sem Unit}
  (hT : compTurn (.ListComp elt gens scope pos) d it acc env = (standAt p >>= λ _ => pyNext it >>= λ r => match r with
   | none => pure (.done .next)
   | some v => letOwnedTupleGo target it v >>= λ _ => assign target env v >>= λ _ => body >>= λ _ => again (.compLoop (.ListComp elt gens scope pos) d it acc env)))
  (I : Nat -> Shared -> Prop)
  (turn : ∀ n s, I n s -> wpAny (model prog w) A (pyNext it) (λ r s₁ => match r with
   | none => R (.ok .next) s₁
   | some v => wpAny (model prog w) A (letOwnedTupleGo target it v) (λ _ s₁ => wpAny (model prog w) A (assign target env v) (λ _ s₂ => wpAny (model prog w) A body (λ _ s₃ => ∃ m, m < n /\ I m s₃)
     (λ _ _ => False) s₂) (λ _ _ => False) s₁) (λ _ _ => False) s₁) (λ _ _ => False) s)
  (n : Nat) (h : I n s) : codeAny (model prog w) A (.compLoop (.ListComp elt gens scope pos) d it acc env) R s := by
 refine codeAny_loop rfl I (λ n s hI => ?_) n h
 refine wpAny_noted ?_
 rw [hT]
 refine wpAny_bind (wpAny_standAt (wpAny_bind (wpAny_mono (turn n s hI) (λ r s₁ h₁ => ?_) λ _ _ h' => h'.elim)))
 cases r with
 | none => exact wpAny_pure h₁
 | some v =>
  refine wpAny_bind (wpAny_mono h₁ (λ _ s₁' h₁' => ?_) λ _ _ h' => h'.elim)
  refine wpAny_bind (wpAny_mono h₁' (λ _ s₂ h₂ => wpAny_bind (wpAny_mono h₂ (λ _ s₃ h₃ => ?_) λ _ _ h' => h'.elim)) λ _ _ h' => h'.elim)
  exact wpAny_pure ⟨rfl, h₃⟩
section
variable {W : Wd} {sh : Ledger} {env : Env} {A : Around} {R : Result -> Shared -> Prop} {it : Addr} {target : Expr} {elt : Expr} {gens : List Comprehension} {scope : Scope} {pos p : Pos} {d : Nat} {acc : Value} {body : Sem Unit}
theorem comp_y {α : Type} {P : α -> Value -> Prop} (hA : Aok 7 A)
  (hT : compTurn (.ListComp elt gens scope pos) d (.ref it) acc env = (standAt p >>= λ _ => pyNext (.ref it) >>= λ r => match r with
   | none => pure (.done .next)
   | some v => letOwnedTupleGo target (.ref it) v >>= λ _ => assign target env v >>= λ _ => body >>= λ _ => again (.compLoop (.ListComp elt gens scope pos) d (.ref it) acc env)))
  (J : List α -> Loc -> Ledger -> Gens -> Prop)
  (turn : ∀ x v rest tl tg loc nw G s, P x v -> Sta W (G ++ tg) env loc (nw ++ (sh ++ tl)) s -> J (x :: rest) loc nw G ->
   wpAny (model W.prog W.w) A (assign target env v) (λ _ s₂ => wpAny (model W.prog W.w) A body (λ _ s₃ => ∃ loc' nw' G', Sta W (G' ++ tg) env loc' (nw' ++ (sh ++ tl)) s₃ /\ J rest loc' nw' G') (λ _ _ => False) s₂) (λ _ _ => False) s)
  (fin : ∀ loc nw G s, Sta W G env loc (nw ++ sh) s -> J [] loc nw G -> R (.ok .next) s)
  {vs : List α} {own : Ledger} {og G : Gens} {loc : Loc} {nw : Ledger} {s : Shared} (S : Sta W (G ++ og) env loc (nw ++ (sh ++ own)) s) (hy : YieldsR W sh it P vs own og) (hJ : J vs loc nw G) :
  codeAny (model W.prog W.w) A (.compLoop (.ListComp elt gens scope pos) d (.ref it) acc env) R s := by
 refine aCR hT (λ n s => ∃ vs own og G loc nw, vs.length = n /\ Sta W (G ++ og) env loc (nw ++ (sh ++ own)) s /\ YieldsR W sh it P vs own og /\ J vs loc nw G) (λ n s hI => ?_) vs.length ⟨vs, own, og, G, loc, nw, rfl, S, hy, hJ⟩
 obtain ⟨vs, own, og, G, loc, nw, hn, S, hy, hJ⟩ := hI
 cases vs with
 | nil => exact hy.2 A ((env.locals, IsNs loc) :: nw) G s _ _ hA S.to0 λ s' S' => fin loc nw G s' (St0.toSta S' S.eok) hJ
 | cons x rest =>
  refine hy.2 A ((env.locals, IsNs loc) :: nw) G s _ _ hA S.to0 λ v own' og' s' hpv S' hy' => ?_
  have S1 : Sta W (G ++ og') env loc (nw ++ (sh ++ own')) s' := St0.toSta S' S.eok
  have ht : Typ sh it own' := by cases rest <;> exact hy'.1
  obtain ⟨c, hc, hp⟩ := ht
  obtain ⟨o, ho, hco⟩ := S1.get (a := it) (c := c) (List.mem_append_right _ hc)
  refine aHU ho (hp o hco) ?_
  refine wpAny_mono (turn x v rest own' og' loc nw G s' hpv S1 hJ) (λ _ s₂ h₂ => wpAny_mono h₂ (λ f s₃ h₃ => ?_) λ _ _ h => h) λ _ _ h => h
  obtain ⟨loc', nw', G', S3, hJ'⟩ := h₃
  exact ⟨rest.length, by rw [← hn]; simp, rest, own', og', G', loc', nw', rfl, S3, hy', hJ'⟩
theorem aAQ {c : Cell} {s : Shared} {g : Comprehension} (hg : gens[d]? = some g) (ha : g.is_async = 0) (hs : aHN W it c) (m : ∃ o, s.heap.get? it = some o /\ c o)
  (h : codeAny (model W.prog W.w) A (.compLoop (.ListComp elt gens scope pos) d (.ref it) acc env) R s) :
  codeAny (model W.prog W.w) A (.compStart (.ListComp elt gens scope pos) d (.ref it) acc env) R s := by
 obtain ⟨o, ho, hc⟩ := m
 refine codeAny_of_tree ?_
 refine wpAny_notedAt ?_
 have e : (clausesOf (.ListComp elt gens scope pos))[d]? = some g := hg
 unfold compStart
 rw [e]
 simp only [Option.elim_some, ha]
 show wpAny _ _ (ask >>= _) _ _ s
 refine wpAny_bind (wpAny_askSetting (wpAny_ite ?_))
 split
 ·exact wpAny_pure (And.intro rfl h)
 ·exact wpAny_bind (wpAny_rule (wpAny_bind (wpAny_standAt (wpAny_bind (hs A _ _ _ o ho hc (wpAny_pure (And.intro rfl h)))))))
end
section
variable {W : Wd} {G : Gens} {env : Env} {loc loc' : Loc} {nw nw' : Ledger} {s : Shared} {A : Around} {E : Value -> Shared -> Prop}
noncomputable def aA9 (sc : Scope) (ks : List Str) : Bool := sc.kind == .function && (sc.names.all λ x => x.2 != .cell) && (sc.names.all λ x => x.2 != .local || sc.names.lookup x.1 == some .local) && (ks.all λ x => sc.names.lookup x == some .local && !(x == ("__debug__" : Str))) && decide ks.Nodup
noncomputable def CompK (W : Wd) (A : Around) (env : Env) (e : Expr) (scope : Scope) (cl : List (Str × Addr)) (ks : List Str) (Q : Value -> Shared -> Prop) (it : Value) (s : Shared) : Prop :=
 ∃ G loc nw, Sta W G env loc nw s /\ ∀ acc C s', EnvOk (compEnvC scope cl C env) ks -> Sta W G (compEnvC scope cl C env) (ks.map λ k => (k, none)) ((acc, aAa []) :: (env.locals, IsNs loc) :: nw) s' ->
  codeAny (model W.prog W.w) A (.compStart e 0 it (.ref acc) (compEnvC scope cl C env)) (λ r s'' => ∃ f loc' nw' G', r = .ok f /\ Sta W G' (compEnvC scope cl C env) loc' ((env.locals, IsNs loc) :: nw') s'' /\ ∀ s₃, Sta W G' env loc nw' s₃ -> Q (.ref acc) s₃) s'
theorem aD5 {elt target iter : Expr} {gens : List Comprehension} {scope : Scope} {pos : Pos} {cl : List (Str × Addr)} {Q : Value -> Shared -> Prop} (ks : List Str)
  (hclos : closureFor scope env = pure cl) (hk : aA9 scope ks = true) (he : env.globals = mainGlobals) (hb : env.builtins = builtinsNs)
  (h : wpAny (model W.prog W.w) A (eval iter env) (λ x s₁ => wpAny (model W.prog W.w) A (pyIter x) (λ it s₂ => CompK W A env (.ListComp elt (⟨target, iter, [], 0⟩ :: gens) scope pos) scope cl ks Q it s₂) E s₁) E s)
  (hs : ∀ x, foldedSetIterable iter env x = pure x := by intro _; rfl) :
  wpAny (model W.prog W.w) A (eval (.ListComp elt (⟨target, iter, [], 0⟩ :: gens) scope pos) env) Q E s := by
 simp only [aA9, Bool.and_eq_true, beq_iff_eq, Bool.not_eq_true', List.all_eq_true, bne_iff_ne, decide_eq_true_eq, Bool.or_eq_true] at hk
 obtain ⟨⟨⟨⟨hkind, hcell⟩, hnames⟩, hks⟩, hnd⟩ := hk
 refine wpAny_comprehension_free (use := none) (cl := cl) rfl hs hclos hkind (λ x hx hl => (hnames x hx).resolve_left λ q => q hl) (wpAny_mono h (λ xv s₁ h₁ => wpAny_mono h₁ (λ it s₂ h₂ => ?_) λ _ _ e => e) λ _ _ e => e)
 obtain ⟨G, loc, nw, S, kk⟩ := h₂
 refine S.newList (by simp) λ acc s₃ S₃ => ?_
 refine wpAny_newFunctionEnv hcell (by intro y hy; simp at hy) (λ h₁ hns hsb => ?_) hkind
 have hkp : ∀ b o, s₃.heap.get? b = some o -> h₁.get? b = some o := λ b o e => hsb.extBut b o (Nat.ne_of_lt (Heap.lt_size e)) (Heap.get?_push_of_some _ e)
 have D : Led W.B ((s₃.heap.objs.size, IsNs (ks.map λ k => (k, none))) :: (env.locals, IsNs loc) :: (acc, aAa []) :: nw) h₁ := by
  obtain ⟨o, es, ep, ho', hd, hsk, hf⟩ := hns
  refine S₃.led.cons_new hkp S₃.led.size_ne S₃.led.size_new ho' ⟨by rw [List.map_map]; simpa [Function.comp_def] using hnd, es, ep, hd, hsk, λ x => ?_⟩
  rw [hf x, aB2]; rfl
 have ek : (ks.map λ k => ((k, none) : Str × Option Value)).map Prod.fst = ks := by rw [List.map_map]; simp [Function.comp_def]
 have eok : EnvOk (compEnvC scope cl s₃.heap.objs.size env) ks := ⟨hkind, he, hb, λ x hx => lookup_relabel_local (hks x hx).1, λ x hx => (hks x hx).2, hnd⟩
 refine codeAny_mono (kk acc s₃.heap.objs.size { s₃ with heap := h₁, toks := s₃.toks + 0 } eok ⟨S₃.ok, by rw [ek]; exact eok, D.perm (List.Perm.cons _ (List.Perm.swap ..)), S₃.bare, S₃.os, S₃.gens, S₃.gnd⟩) λ r s'' h'' => ?_
 obtain ⟨f, loc', nw', G', rfl, S', hQ⟩ := h''
 refine ⟨_, S'.ns, λ h' hs' => hQ _ ⟨S'.ok, S.eok, ?_, S'.bare, S'.os, S'.gens, S'.gnd⟩⟩
 have := Led.dropBack (nw := []) (h' := h') S'.led λ b o hb e => (hs'.2 b hb).trans e
 exact this
end
end Mine
end
section
namespace Mine
noncomputable def aEm (qual : Str) : Cell := λ o => ∃ vs t, o.data = .fields vs /\ vs[1]? = some (.str qual t)
noncomputable def aDv (ps : List Value) : Cell := λ o => o = tabObj ps.toArray
noncomputable def aFB (qual : Str) (params : Arguments) (body : Expr) (scope : Scope) (clos : List (Str × Addr)) (c' : Addr) : Cell := λ o => ∃ pm ctv, o = kla_obj "<lambda>" qual params body scope clos pm c' ctv
noncomputable def Tabs (P : Addr) (pos : Pos) (qual : Str) (c? : Option Addr) : Ledger := match c? with
 | none => [(P, aDv [])]
 | some c' => [(P, aDv [rawInt pos.line, rawInt pos.col, .ref c']), (c', aEm qual)]
noncomputable def aDi (names : List (Str × NameKind)) : List Str := (names.filter λ p => p.2 == .free).map Prod.fst
theorem aCC {env : Env} (ca : Str -> Addr) (f : Str × NameKind -> List (Str × Addr) -> Sem (ForInStep (List (Str × Addr))))
  (hf : ∀ x cs, f x cs = if x.2 == .free then (cellOf env x.1 >>= λ c => pure (.yield ((x.1, c) :: cs))) else pure (.yield cs)) :
  ∀ (names : List (Str × NameKind)) (acc : List (Str × Addr)), (∀ x ∈ aDi names, env.cells.lookup x = some (ca x)) ->
  forIn names acc f = (pure (((aDi names).map λ x => (x, ca x)).reverse ++ acc) : Sem _)
 | [], acc, _ => rfl
 | (n, k) :: r, acc, h => by
  rw [List.forIn_cons, hf]
  cases hk : k == .free with
  | true =>
   have e : aDi ((n, k) :: r) = n :: aDi r := by simp [aDi, hk]
   have hc : cellOf env n = pure (ca n) := by unfold cellOf; rw [h n (by rw [e]; exact .head _)]
   simp only [if_true, hc, pure_bind]
   rw [aCC ca f hf r _ λ x hx => h x (by rw [e]; exact .tail _ hx), e]
   simp
  | false =>
   have e : aDi ((n, k) :: r) = aDi r := by simp [aDi, hk]
   simp only [Bool.false_eq_true, if_false, pure_bind]
   rw [aCC ca f hf r _ λ x hx => h x (by rw [e]; exact hx), e]
theorem aGw {scope : Scope} {env : Env} (ca : Str -> Addr) (h : ∀ x ∈ aDi scope.names, env.cells.lookup x = some (ca x)) : closureFor scope env = pure (((aDi scope.names).map λ x => (x, ca x)).reverse) := by
 dsimp only [closureFor]
 rw [aCC ca _ (λ x cs => by obtain ⟨n, k⟩ := x; cases hk : k == NameKind.free <;> simp) _ _ h]
 simp
theorem aB5 {scope : Scope} {env : Env} {x : Str} {c : Addr} (h : aDi scope.names = [x]) (hc : CellOk env .cell x c) : closureFor scope env = pure [(x, c)] := by
 rw [aGw (λ _ => c) (by rw [h]; intro y hy; rw [List.mem_singleton.mp hy]; exact hc.at_), h]; rfl
section
variable {W : Wd} {G : Gens} {env : Env} {loc loc' : Loc} {nw nw' : Ledger} {s : Shared} {A : Around} {E : Value -> Shared -> Prop}
theorem Sta.bmAt (S : Sta W G env loc nw s) {P : Addr} {c : Cell} (m : (P, c) ∈ nw) : ∃ mg, s.heap.Ns mainGlobals mg /\ mainGlobals ≠ P /\ s.heap.BuiltinsAt mg P := by
 obtain ⟨mg, bm, ob, hg, h1, h2, h3, h4, h5, h6, h7⟩ := S.ok.bm
 have hB := (S.led.own _ (.tail _ m)).1
 refine ⟨mg, hg.keeps S.led.keep, λ q => ?_, bm, ob, h1, h2, h3, λ q => ?_, S.led.keep _ _ h4, h5, h6, h7⟩
 ·obtain ⟨o, es, ep, e, _⟩ := hg
  rw [q] at e; rw [hB] at e; cases e
 ·rw [q] at h4; rw [hB] at h4; cases h4
theorem Sta.lambda {params : Arguments} {body : Expr} {scope : Scope} {pos : Pos} {clos : List (Str × Addr)} {P c : Addr} {c? : Option Addr} {Q : Value -> Shared -> Prop}
  (S : Sta W G env loc (Tabs P pos (env.qual ++ "<lambda>") c? ++ nw) s) (hdef : defaultsOf params env = ([], [])) (hcl : closureFor scope env = pure clos) (hcode : env.code = .ref c) (C : CodeHd W.B c P)
  (h : ∀ f c' s', Sta W G env loc ((f, aFB (env.qual ++ "<lambda>") params body scope clos c') :: (Tabs P pos (env.qual ++ "<lambda>") (some c') ++ nw)) s' -> Q (.ref f) s') :
  wpAny (model W.prog W.w) A (eval (.Lambda params body scope pos) env) Q E s := by
 refine kla_eval hdef ?_
 cases c? with
 | none =>
  have m : (P, aDv []) ∈ Tabs P pos (env.qual ++ "<lambda>") none ++ nw := .head _
  obtain ⟨mg, hg, hgP, hb⟩ := S.bmAt m
  obtain ⟨o, hP, rfl⟩ := S.get m
  refine kla_makeFunction hcl S.eok.glob hg hcode (C.keeps S.led.keep) hP trivial rfl hgP hb λ c' ctv h' tk hx hge hlt hrec hP' => ?_
  obtain ⟨c2, oc, vs, t, e, hc, hd, hv⟩ := hrec
  cases e
  refine h _ c' _ ?_
  have D := S.led
  have hne : ∀ p ∈ ((env.locals, IsNs loc) :: (Tabs P pos (env.qual ++ "<lambda>") none ++ nw)), p.1 ≠ c' := λ p hp q => by
   obtain ⟨o2, ho2, _⟩ := (D.own p hp).2
   have := Heap.lt_size ho2
   rw [q] at this
   exact absurd hge (Nat.not_le.mpr this)
  have D1 : Led W.B ((env.locals, IsNs loc) :: (P, aDv [rawInt pos.line, rawInt pos.col, .ref c']) :: nw) h' := by
   refine D.set (a := P) (c := aDv []) (.tail .head) (λ b o hb e => hx b o hb e) hP' ?_
   show tabObj _ = tabObj _
   rfl
  have D2 : Led W.B ((c', aEm (env.qual ++ "<lambda>")) :: (env.locals, IsNs loc) :: (P, aDv [rawInt pos.line, rawInt pos.col, .ref c']) :: nw) h' := by
   refine D1.cons_new (λ _ _ e => e) (λ q => ?_) ?_ hc ⟨vs, t, hd, hv⟩
   ·obtain ⟨p, hp, e⟩ := List.mem_map.mp q
    rcases List.mem_cons.mp hp with rfl | hp
    ·exact hne _ (.head _) e
    rcases List.mem_cons.mp hp with rfl | hp
    ·exact hne (P, aDv []) (.tail _ (.head _)) e
    ·exact hne p (.tail _ (.tail _ hp)) e
   ·cases q : W.B.get? c' with
    | none => rfl
    | some o2 => exact absurd (Heap.lt_size (D.keep _ _ q)) (Nat.not_lt.mpr hge)
  have D3 := D2.new (c := aFB (env.qual ++ "<lambda>") params body scope clos c') (o := kla_obj "<lambda>" (env.qual ++ "<lambda>") params body scope clos ((mg "__name__").getD .none) c' ctv) rfl ⟨_, _, rfl⟩
  refine ⟨S.ok, S.eok, D3.perm ?_, S.bare, S.os, S.gens, S.gnd⟩
  refine (List.Perm.cons _ (List.Perm.swap ..)).trans ((List.Perm.swap ..).trans (List.Perm.cons _ (List.Perm.cons _ (List.Perm.swap ..))))
 | some c' =>
  have m : (P, aDv [rawInt pos.line, rawInt pos.col, .ref c']) ∈ Tabs P pos (env.qual ++ "<lambda>") (some c') ++ nw := .head _
  obtain ⟨mg, hg, hgP, hb⟩ := S.bmAt m
  obtain ⟨o, hP, rfl⟩ := S.get m
  refine kla_makeFunctionHit (cv := .ref c') hcl S.eok.glob hg hcode (C.keeps S.led.keep) hP ⟨⟩ (by simp [codeAmong, rawInt]) hb λ ctv h' tk hk _ => ?_
  refine h _ c' _ ?_
  exact (S.grow hk tk).new (c := aFB (env.qual ++ "<lambda>") params body scope clos c') rfl ⟨_, _, rfl⟩ tk
theorem Sta.call_lam {qual : Str} {params : Arguments} {body : Expr} {scope : Scope} {clos : List (Str × Addr)} {f c' : Addr} {Q : Value -> Shared -> Prop} {pos : List Value} {binds : List (Str × Value)}
  (S : Sta W G env loc nw s) (m : (f, aFB qual params body scope clos c') ∈ nw) (mc : (c', aEm qual) ∈ nw) (hroom : A.depth < recursionLimit)
  (hbind : ∀ pm ctv, bindArgs (kla_fn "<lambda>" qual params body scope clos pm (.ref c') ctv) ⟨pos, []⟩ = pure binds) (hk : aBs scope (binds.map Prod.fst) = true)
  (h : ∀ L s', Sta W G (envX qual scope L f (.ref c') clos) (aAv binds []) ((env.locals, IsNs loc) :: nw) s' ->
   wpAny (model W.prog W.w) (A.deeper (envX qual scope L f (.ref c') clos)) (eval body (envX qual scope L f (.ref c') clos)) Q (λ _ _ => False) s') :
  wpAny (model W.prog W.w) A (call (.ref f) pos) Q E s := by
 simp only [aBs, Bool.and_eq_true, beq_iff_eq, Bool.not_eq_true', List.all_eq_true, bne_iff_ne, decide_eq_true_eq] at hk
 obtain ⟨⟨⟨⟨⟨hkind, hco⟩, hgen⟩, hcell⟩, hks⟩, hnd⟩ := hk
 have hks2 : ((aAv binds []).map Prod.fst) = binds.map Prod.fst := by
  simp [aAv, List.map_map, Function.comp_def]
 obtain ⟨o, ho, pm, ctv, rfl⟩ := S.get m
 obtain ⟨oc, hoc, vs, t, hd, hv⟩ := S.get mc
 refine wpAny_call (kla_callFunE hroom ho rfl hco hgen rfl ⟨c', oc, vs, t, rfl, hoc, hd, hv⟩ ?_)
 rw [hbind]
 refine wpAny_pure (wpAny_newFunctionEnv hcell (λ x hx => (hks x.1 (List.mem_map.mpr ⟨x, hx, rfl⟩)).1) (λ h₁ hns hsb => ?_) hkind)
 have hkp : ∀ b o, s.heap.get? b = some o -> h₁.get? b = some o := λ b o e => hsb.extBut b o (Nat.ne_of_lt (Heap.lt_size e)) (Heap.get?_push_of_some _ e)
 refine ⟨S.nolimit.keeps hkp, kla_codeExpr ?_⟩
 have D : Led W.B ((s.heap.objs.size, IsNs (aAv binds [])) :: (env.locals, IsNs loc) :: nw) h₁ := by
  obtain ⟨o, es, ep, ho', hd, hsk, hf⟩ := hns
  refine S.led.cons_new hkp S.led.size_ne S.led.size_new ho' ⟨by rw [hks2]; exact hnd, es, ep, hd, hsk, λ x => ?_⟩
  rw [hf x, aBG _ _ hnd]
 have S' : Sta W G (envX qual scope s.heap.objs.size f (.ref c') clos) (aAv binds []) ((env.locals, IsNs loc) :: nw) { s with heap := h₁, toks := s.toks + binds.length } :=
  ⟨S.ok, by rw [hks2]; exact ⟨hkind, rfl, rfl, λ x hx => (hks x hx).1, λ x hx => (hks x hx).2, hnd⟩, D, S.bare, S.os, S.gens, S.gnd⟩
 exact wpAny_mono (h _ _ S') (λ fl s'' q => q) (λ _ _ q => q.elim)
end
end Mine
end
section
namespace Mine
theorem aBF {W : Wd} {it l : Addr} {i : Nat} : aHN W it (IsLI l i) := λ A s Q E o ho hc h => wpAny_pyIter_listiter ⟨o, ho, hc.1, hc.2⟩ h
section
variable {W : Wd} {G : Gens} {env : Env} {loc loc' : Loc} {nw nw' : Ledger} {s : Shared} {A : Around} {E : Value -> Shared -> Prop}
theorem Sta.iterList {l : Addr} {xs : List Value} {Q : Value -> Shared -> Prop} (S : Sta W G env loc nw s) (m : (l, aAa xs) ∈ nw) (h : ∀ it s', Sta W G env loc ((it, IsLI l 0) :: nw) s' -> Q (.ref it) s') :
  wpAny (model W.prog W.w) A (pyIter (.ref l)) Q E s :=
 wpAny_pyIter_list (S.isList m) (h _ _ (S.new (c := IsLI l 0) rfl ⟨rfl, rfl⟩ s.toks))
theorem Sta.iterBase {l : Addr} {xs : List Value} {Q : Value -> Shared -> Prop} (S : Sta W G env loc nw s) (m : W.B.IsList l xs.toArray) (h : ∀ it s', Sta W G env loc ((it, IsLI l 0) :: nw) s' -> Q (.ref it) s') :
  wpAny (model W.prog W.w) A (pyIter (.ref l)) Q E s :=
 wpAny_pyIter_list (let ⟨o, e, r⟩ := m; ⟨o, S.led.keep _ _ e, r⟩) (h _ _ (S.new (c := IsLI l 0) rfl ⟨rfl, rfl⟩ s.toks))
theorem Sta.reversed {l : Addr} {xs : List Value} {Q : Value -> Shared -> Prop} (S : Sta W G env loc nw s) (m : (l, aAa xs) ∈ nw) (h : ∀ it s', Sta W G env loc ((it, IsRI l ((xs.length : Int) - 1)) :: nw) s' -> Q (.ref it) s') :
  wpAny (model W.prog W.w) A (call (.type "reversed") [.ref l]) Q E s :=
 call_reversed_list (S.isList m) (h _ _ (S.new (c := IsRI l ((xs.length : Int) - 1)) rfl ⟨rfl, by simp [revObj]⟩ s.toks))
theorem Sta.iterRev {it l : Addr} {i : Int} {Q : Value -> Shared -> Prop} (S : Sta W G env loc nw s) (m : (it, IsRI l i) ∈ nw) (h : Q (.ref it) s) : wpAny (model W.prog W.w) A (pyIter (.ref it)) Q E s := by
 obtain ⟨o, ho, hc, hd⟩ := S.get m
 exact wpAny_pyIter_revIter ⟨o, ho, hc, hd⟩ h
theorem Sta.item {l : Addr} {xs : List Value} {k : Int} {t : Tok} {v : Value} {Q : Value -> Shared -> Prop} (S : Sta W G env loc nw s) (m : (l, aAa xs) ∈ nw) (h0 : 0 <= k) (h1 : k < 1000000) (hx : xs[k.toNat]? = some v) (h : Q v s) :
  wpAny (model W.prog W.w) A (getItem (.ref l) (.int k t)) Q E s := wpAny_getItem_list (S.isList m) h0 (by omega) (by simpa using hx) h
theorem Sta.setItem {l : Addr} {xs : List Value} {k : Int} {t : Tok} {v : Value} {Q : Unit -> Shared -> Prop} (S : Sta W G env loc nw s) (U : Upd l (aAa xs) (aAa (xs.set k.toNat v)) nw nw') (h0 : 0 <= k) (h1 : k < 1000000) (hx : k.toNat < xs.length) (h : ∀ s', Sta W G env loc nw' s' -> Q () s') :
  wpAny (model W.prog W.w) A (PySem.setItem (.ref l) (.int k t) v) Q E s := by
 obtain ⟨n, hl⟩ := S.isL U.mem
 have hT : s.TypeIs (.ref l) "list" := ⟨_, hl, rfl⟩
 have hj : k.toNat < xs.toArray.size := by simpa using hx
 have hS := h _ (S.setL hl (·.setIfInBounds k.toNat v) (by simp) U s.toks)
 have hfit := fitsIndex_of h0 (by omega)
 clear h1 h hx
 refine wpAny_holding (wpAny_bind (wpAny_sequenceKey hT (by decide) ?_))
 refine wpAny_bind (wpAny_callSpecial?_slot (name := Str.ofString "__setitem__") hT F.slot_list_setitem (wpAny_call_entry F.slot_list_setitem hT F.entry_list_setitem ?_ (F.args_list_setitem_3 _ _ _)))
 show wpAny _ _ (Builtin.List.listSubscript? (.int k t) >>= _) _ _ s
 refine wpAny_bind (wpAny_listSubscript_int hfit ?_)
 clear hfit
 obtain ⟨j, rfl⟩ := Int.eq_ofNat_of_zero_le h0
 have hj : j < xs.toArray.size := hj
 refine wpAny_bind (wpAny_bind (wpAny_seqItemAt hl rfl (wpAny_pure ?_)))
 rw [Array.getElem?_eq_getElem hj]
 show wpAny _ _ (setSeqItemAt l j v >>= _) _ _ s
 refine wpAny_bind (wpAny_setSeqItemAt hl rfl ?_)
 exact wpAny_pure ⟨.none, rfl, wpAny_pure hS⟩
theorem Sta.sub_list {l : Addr} {xs : List Value} {k : Int} {t : Tok} {v : Value} {Q : Value -> Shared -> Prop} (S : Sta W G env loc nw s) (m : (l, aAa xs) ∈ nw) (h0 : 0 <= k) (h1 : k < 1000000) (hx : xs[k.toNat]? = some v) (h : Q v s) :
  SubscriptOn (model W.prog W.w) A (.ref l) (.int k t) Q E s := ⟨"list", _, F.slot_list_getitem.lookup, (S.isList m).typeIs, S.item m h0 h1 hx h⟩
theorem aAf {value slice : Expr} {pos : Pos} {Q : Value -> Shared -> Prop}
  (h : wpAny (model W.prog W.w) A (eval value env) (λ o s₁ => wpAny (model W.prog W.w) A (eval slice env) (λ i s₂ => SubscriptOn (model W.prog W.w) A o i Q E s₂) E s₁) E s)
  (he : ∀ o i, subscripted slice false o i = operate [o, i] (getItem o i)) :
  wpAny (model W.prog W.w) A (eval (.Subscript value slice pos) env) Q E s := by
 refine wpAny_bind (wpAny_mono h (λ o s₁ h₁ => wpAny_bind (wpAny_holding (wpAny_mono h₁ (λ i s₂ h₂ => wpAny_bind (wpAny_standAt ?_)) λ _ _ x => x))) λ _ _ x => x)
 obtain ⟨T, id, hl, hT, hg⟩ := h₂
 refine wpAny_bind ?_
 refine wpAny_bind (wpAny_specialOf hT hl ?_)
 have fin : wpAny (model W.prog W.w) A (subscripted slice false o i) (λ r s₃ => wpAny (model W.prog W.w) A (letTemporaryGo value o r >>= λ _ => pure r) Q E s₃) E s₂ := by
  rw [he]
  exact wpAny_operating (wpAny_mono hg (λ r s₃ h₃ => wpAny_bind (wpAny_letTemporaryGo (wpAny_pure h₃))) λ _ _ x => x)
 first
  | exact wpAny_pure (wpAny_bind fin)
  | exact wpAny_bind (wpAny_pure (wpAny_bind fin))
  | exact wpAny_bind fin
theorem Sta.fdiv {a b : Int} {t u : Tok} {Q : Value -> Shared -> Prop} (S : Sta W G env loc nw s) (hb : b ≠ 0) (hp : b.natAbs < 1073741824) (h : ∀ t s', Sta W G env loc nw s' -> Q (.int (a.fdiv b) t) s') : wpAny (model W.prog W.w) A (binaryOp .FloorDiv (.int a t) (.int b u)) Q E s :=
 floordiv_int hb (h _ _ (S.toks _)) (.inl (PyProof.noPylong_small hp))
theorem Sta.iadd {a b : Int} {t u : Tok} {Q : Value -> Shared -> Prop} (S : Sta W G env loc nw s) (h : ∀ t s', Sta W G env loc nw s' -> Q (.int (a + b) t) s') : wpAny (model W.prog W.w) A (inplaceOp .Add (.int a t) (.int b u)) Q E s :=
 PyProof.Rows.iadd_int (h _ _ (S.toks _))
theorem Sta.isTup {a : Addr} {xs : List Value} (S : Sta W G env loc nw s) (m : (a, aAo xs) ∈ nw) : IsTup s.heap a xs.toArray := by
 obtain ⟨o, ho, n, rfl⟩ := S.get m
 exact ⟨_, ho, rfl, n, rfl⟩
theorem Sta.unpackI {a : Addr} {xs : List Value} {n : Nat} {Q : List Value -> Shared -> Prop} (S : Sta W G env loc nw s) (hh : A.handled = none) (m : (a, aAo xs) ∈ nw) (hn : n = xs.length) (h : ∀ s', Sta W G env loc nw s' -> Q xs s') : wpAny (model W.prog W.w) A (unpackItems (.ref a) n none) Q E s := by
 subst hn
 have e : xs.length = xs.toArray.size := rfl
 exact unpackItems_tuple hh (S.isTup m) λ h' he => h _ (S.grow (λ b o e => he b o (Nat.ne_of_lt (Heap.lt_size e)) e) s.toks)
theorem Sta.unpackT {elts : List Expr} {x1} {pos : Pos} {a : Addr} {xs : List Value} {Q : Unit -> Shared -> Prop} (S : Sta W G env loc nw s) (hh : A.handled = none) (m : (a, aAo xs) ∈ nw)
  (hn : (assignEach elts env).length = xs.length) (hstar : (assignEach elts env).findIdx? (·.1) = none) (h : ∀ s', Sta W G env loc nw s' -> wpAny (model W.prog W.w) A (assignInOrder ((assignEach elts env).map (·.2)) xs) Q E s') :
  wpAny (model W.prog W.w) A (assign (.Tuple elts x1 pos) env (.ref a)) Q E s :=
 assign_Tuple_tuple hh (S.isTup m) (by simpa using hn) hstar λ h' he => h _ (S.grow (λ b o e => he b o (Nat.ne_of_lt (Heap.lt_size e)) e) s.toks)
theorem callW {pos : Pos} {f : Addr} {first : List Value} {e : Expr} {rest : List Expr} {Q : Value -> Shared -> Prop} (hk : keepIn W.K (.ref f) = true)
  (h : wpAny (model W.prog W.w) A (spliced (backTo pos (starEach (e :: rest) env))) (λ vs s₁ => W.K.In s₁.heap /\ wpAny (model W.prog W.w) A (call (.ref f) (first ++ vs)) Q E s₁) E s)
  (he : starEach (e :: rest) env = (false, eval e env) :: starEach rest env) (hplain : (backTo pos (starEach rest env)).any (·.1) = false) :
  wpAny (model W.prog W.w) A (callWith pos (.ref f) first (backTo pos (starEach (e :: rest) env)) []) Q E s := by
 rw [he] at h ⊢
 refine callWith_of (P := λ h => W.K.In h) (by show (false || (backTo pos (starEach rest env)).any (·.1) || false) = false; rw [hplain]; rfl) (λ h X => keeps_K hk h X) (Calls.evalArgs_plain h)
theorem callW0 {pos : Pos} {f : Addr} {first : List Value} {Q : Value -> Shared -> Prop} (hk : keepIn W.K (.ref f) = true) (X : W.K.In s.heap)
  (h : wpAny (model W.prog W.w) A (call (.ref f) first) Q E s) :
  wpAny (model W.prog W.w) A (callWith pos (.ref f) first (backTo pos (starEach [] env)) []) Q E s :=
 callWith_of (P := λ h => W.K.In h) rfl (λ h X => keeps_K hk h X) (PySem.evalArgs_none ⟨X, by rw [List.append_nil]; exact h⟩)
end
end Mine
end
section
namespace Mine
theorem aDq : typeLookup (.type "list") "append" = pure (some (.builtin "list.append")) := by rw [typeLookup_type, builtinLookup_eq_fast]; kernel_rfl
theorem aEH : typeLookup (.type "method_descriptor") "__get__" = pure (some (.builtin "method_descriptor.__get__")) := by rw [typeLookup_type, builtinLookup_eq_fast]; kernel_rfl
theorem aHe : typeLookup (.type "method_descriptor") "__set__" = pure none := by rw [typeLookup_type, builtinLookup_eq_fast]; kernel_rfl
theorem aHf : typeLookup (.type "method_descriptor") "__delete__" = pure none := by rw [typeLookup_type, builtinLookup_eq_fast]; kernel_rfl
theorem aB8 : typeOf (.builtin "list.append") = pure (.type "method_descriptor") := by show builtinType _ = _; rw [builtinType_eq_fast]; kernel_rfl
theorem aE8 : Slot "method_descriptor" "__get__" "method_descriptor.__get__" :=
 Slot.of aEH (owner := "method_descriptor") (n := "__get__") (by decide +kernel) (by decide +kernel) (by decide +kernel) (.inl (by decide +kernel)) (by rw [isSubtype_type]; kernel_rfl)
theorem aES : entryFor table "method_descriptor.__get__" = some Builtin.«method_descriptor.__get__» := entryFor_of_tree (by kernel_rfl)
theorem aFA (a b c : Value) : argsOk "method_descriptor.__get__" ⟨[a, b, c], []⟩ := by unfold argsOk; kernel_rfl
theorem ty_ga : typeOf (.builtin "list.__getattribute__") = pure (.type "wrapper_descriptor") := by show builtinType _ = _; rw [builtinType_eq_fast]; kernel_rfl
noncomputable def aAY (id : String) (self : Value) : Cell := λ o => o = { cls := .type "builtin_function_or_method", data := .fields #[.builtin id, self] }
theorem aDr {prog : Program} {w : World} {A : Around} {E : Value -> Shared -> Prop}  {h : Heap} {g : Array GenState} {d : Drawn} {t : Nat} {os : OsState} {a : Addr} {xs : List Value} {n : Nat} {Q : Value -> Shared -> Prop}
  (hx : h.get? a = some { cls := .type "list", data := .seq xs.toArray n }) (hq : ∀ t, Q (.ref h.objs.size) ⟨h.push { cls := .type "builtin_function_or_method", data := .fields #[.builtin "list.append", .ref a] }, g, d, t, os⟩) :
  wpAny (model prog w) A (getAttr (.ref a) "append" true) Q E ⟨h, g, d, t, os⟩ := by
 have hT : ∀ t, (⟨h, g, d, t, os⟩ : Shared).TypeIs (.ref a) "list" := λ _ => ⟨_, hx, rfl⟩
 refine wpAny_bind (wpAny_mkText ?_)
 refine wpAny_holding (wpAny_bind (wpAny_typeOf (hT _) ?_))
 refine wpAny_bind (wpAny_of_eq F.slot_list_getattribute.lookup ?_)
 refine wpAny_bind (wpAny_of_eq (a := none) rfl ?_)
 refine wpAny_bind (wpAny_attempt (wpAny_holding ?_))
 show wpAny _ _ (boundAndCalled _ _ _) _ _ _
 refine wpAny_bind (wpAny_of_eq (a := (.builtin "list.__getattribute__", [.ref a])) (by unfold bindSpecial; rw [ty_ga]; rfl) ?_)
 refine wpAny_call_entry F.slot_list_getattribute (hT _) F.entry_list_ga ?_ (F.args_list_getattribute_2 _ _)
 have L1 : Looks (model prog w) h (typeOf (.ref a)) (.type "list") := (Looks.ld hx).andThen .now
 have L2 : Looks (model prog w) h (typeLookup (.type "list") "append") (some (.builtin "list.append")) := Looks.of_pure aDq
 have L3 : Looks (model prog w) h (specialOf (.builtin "list.append") "__get__") (some (.builtin "method_descriptor.__get__")) := (Looks.of_pure aB8).andThen (Looks.of_pure aEH)
 have L4 : Looks (model prog w) h (specialOf (.builtin "list.append") "__set__") none := (Looks.of_pure aB8).andThen (Looks.of_pure aHe)
 have L5 : Looks (model prog w) h (specialOf (.builtin "list.append") "__delete__") none := (Looks.of_pure aB8).andThen (Looks.of_pure aHf)
 dsimp only
 have hB : ∀ t, (⟨h, g, d, t, os⟩ : Shared).TypeIs (.builtin "list.append") "method_descriptor" := λ _ => aB8
 repeat (first | (with_reducible refine wpAny_call_entry aE8 (hB _) aES ?_ (aFA _ _ _)) | lk)
 refine ⟨_, rfl, wpAny_pure ⟨_, rfl, ?_⟩⟩
 rw [handedOut_of rfl]; exact wpAny_pure (hq _)
section
variable {W : Wd} {G : Gens} {env : Env} {loc loc' : Loc} {nw nw' : Ledger} {s : Shared} {A : Around} {E : Value -> Shared -> Prop}
theorem Sta.getAppend {a : Addr} {xs : List Value} {Q : Value -> Shared -> Prop} (S : Sta W G env loc nw s) (m : (a, aAa xs) ∈ nw) (h : ∀ q s', Sta W G env loc ((q, aAY "list.append" (.ref a)) :: nw) s' -> Q (.ref q) s') :
  wpAny (model W.prog W.w) A (getAttr (.ref a) "append" true) Q E s := by
 obtain ⟨n, hl⟩ := S.isL m
 exact aDr hl λ t => h _ _ (S.new (c := aAY "list.append" (.ref a)) rfl rfl t)
theorem aCG {value : Expr} {attr : Str} {pos : Pos} {Q : Value -> Shared -> Prop} (h : wpAny (model W.prog W.w) A (eval value env) (λ o s₁ => wpAny (model W.prog W.w) A (getAttr o attr true) Q E s₁) E s)
  (hb : attributeBase value attr env (eval value env) = eval value env) : wpAny (model W.prog W.w) A (eval (.Attribute value attr pos) env) Q E s := by
 rw [arm_eval_Attribute, hb]
 exact wpAny_bind (wpAny_mono h (λ o s₁ h₁ => wpAny_bind (wpAny_standAt (wpAny_bind (wpAny_holding (wpAny_mono h₁ (λ r s₂ h₂ => wpAny_bind (wpAny_letTemporaryGo (wpAny_pure h₂))) λ _ _ x => x))))) λ _ _ x => x)
theorem aFy (names : List Str) (hn : names.Nodup) : aAl (names.map λ k => (k, none)) emptyDict := by
 refine ⟨by rw [List.map_map]; simpa [Function.comp_def] using hn, rfl, #[], 0, rfl, λ e he => by simp at he, λ x => by rw [aB2]; rfl, ?_⟩
 unfold cnt
 induction names with
 | nil => rfl
 | cons k r ih => simpa using ih (by simp at hn; exact hn.2)
theorem Sta.make {C fI : Addr} (names : List Str) {rest : List Value} {kw : List (Str × Value)} {Q : Value -> Shared -> Prop} (S : Sta W G env loc nw s) (hn : names.Nodup) (hm : makesIn W.K C = true) (hi : findIn W.K (.ref C) "__init__" = some (some (.ref fI))) (hf : typeIn W.K (.ref fI) = some (.type "function"))
  (h : ∀ x dx s', Sta W G env loc ((x, aAu C dx) :: (dx, aAl (names.map λ k => (k, none))) :: nw) s' ->
   codeAny (model W.prog W.w) (A.under (.builtin "type.__call__" ⟨.ref C :: rest, kw⟩)) (.call (.ref fI) ⟨.ref x :: rest, kw⟩) (λ r s'' => r = .ok (.ret .none) /\ Q (.ref x) s'') s') :
  wpAny (model W.prog W.w) A (call (.ref C) rest kw) Q E s := by
 have K0 := S.kin
 have S1 := S.new (c := aAl (names.map λ k => (k, none))) (o := emptyDict) rfl (aFy names hn) s.toks
 have S2 := S1.new (c := aAu C s.heap.objs.size) (o := instObj C s.heap.objs.size) rfl rfl s.toks
 refine wpAny_call ?_
 obtain ⟨hh, g, d, t, os⟩ := s
 refine make_core (makes_of K0 hm) (looks_findIn K0 hi) (λ self => bind_fn K0 self hf) (.inl rfl) ?_
 have e : (hh.push emptyDict).objs.size = hh.objs.size + 1 := Heap.size_push ..
 have := h _ _ _ S2
 dsimp only at this
 rw [e] at this
 refine codeAny_mono this λ r s'' q => ?_
 obtain ⟨rfl, q⟩ := q
 exact ⟨rfl, q⟩
theorem aIo {k : Nat} {C : Addr} {rest : List Value} {kw : List (Str × Value)} (hA : Aok (k + 1) A) : Aok k (A.under (.builtin "type.__call__" ⟨.ref C :: rest, kw⟩)) := by
 have hw : (Code.builtin "type.__call__" ⟨.ref C :: rest, kw⟩).weight = 1 := by rfl
 have hu : (Code.builtin "type.__call__" ⟨.ref C :: rest, kw⟩).cUnits = 1 := by rfl
 refine ⟨hA.handled, ?_, ?_⟩
 ·have := hA.depth
  unfold Around.under
  show A.depth + 1 + k < _
  omega
 ·have := hA.units
  unfold Around.under
  show A.units + 1 + 8 * k < _
  omega
end
end Mine
end
section
namespace Mine
theorem aHy {A : Around} {s : Shared} {l b : Addr} {xs ys : List Value} (hl : s.heap.IsList l xs.toArray) (hb : s.heap.IsList b ys.toArray) (hz : xs.length = ys.length) (hu : A.units < cLine)
  (he : ∀ j (h1 : j < xs.length) (h2 : j < ys.length), EqAt A.in1 s xs[j] ys[j] true) : RcAt A s (.ref l) (.ref b) true := by
 have := RcAt.lists (e := λ _ => true) hl hb (by simpa using hz) hu (λ j h1 h2 => by simpa using he j (by simpa using h1) (by simpa using h2))
 have e : (List.range xs.toArray.size).all (λ _ => true) = true := by simp
 rwa [e] at this
theorem eqOf {A : Around} {s : Shared} {l b : Addr} (h : RcAt A s (.ref l) (.ref b) true) : EqAt A s (.ref l) (.ref b) true := by
 by_cases e : l = b
 ·subst e; exact EqAt.same _
 ·exact EqAt.of_refs e h
noncomputable def aCN (d : Addr) : Cell := λ o => o = { cls := .type "dict_items", data := .fields #[.ref d] }
section
variable {W : Wd} {G : Gens} {env : Env} {loc loc' : Loc} {nw nw' : Ledger} {s : Shared} {A : Around} {E : Value -> Shared -> Prop}
theorem Sta.eqOp {l b : Addr} {Q : Value -> Shared -> Prop} (_S : Sta W G env loc nw s) (h : RcAt A s (.ref l) (.ref b) true) (hq : Q (.bool true) s) : wpAny (model W.prog W.w) A (compareOp .Eq (.ref l) (.ref b)) Q E s := h _ _ _ _ hq
theorem aBo {P : Program} {w : World} {h h' : Heap} {d : Addr} {kvs : List (Str × Value)} {ep : Nat} (x : h.DictAt (PySem.strKind P w) d kvs ep) (k : ∀ b o, h.get? b = some o -> h'.get? b = some o) : h'.DictAt (PySem.strKind P w) d kvs ep :=
 let ⟨o, es, e, r⟩ := x; ⟨o, es, k _ _ e, r⟩
theorem Sta.items {d : Addr} {kvs : List (Str × Value)} {ep : Nat} {Q : Value -> Shared -> Prop} (S : Sta W G env loc nw s) (hm : W.B.DictAt (PySem.strKind W.prog W.w) d kvs ep) (hd : (d == sysModules) = false) (h : ∀ r s', Sta W G env loc ((r, aCN d) :: nw) s' -> Q (.ref r) s') :
  wpAny (model W.prog W.w) A (call (.builtin "dict.items") [.ref d]) Q E s := by
 have hD := aBo hm S.led.keep
 have hO : s.heap.DictOf (PySem.strKind W.prog W.w) d kvs := by
  obtain ⟨o, es, e, a, b, c⟩ := hD
  exact ⟨o, es, ep, e, a, b, c⟩
 exact call_meetsIn PySem.F.slot_dict_items hO.typeIs PySem.F.entry_dict_items (PySem.F.args_dict_items_1 _) (meets_dict_items (PySem.strKind W.prog W.w) d hd) ⟨⟨kvs, hO⟩, h _ _ (S.new (c := aCN d) rfl rfl s.toks)⟩
theorem Sta.listItems {r d : Addr} {kvs : List (Str × Value)} {ep : Nat} {Q : Value -> Shared -> Prop} (S : Sta W G env loc nw s) (hh : A.handled = none) (hm : W.B.DictAt (PySem.strKind W.prog W.w) d kvs ep) (mv : (r, aCN d) ∈ nw) (hn : kvs.length <= sizeLine)
  (h : ∀ (l : Addr) (as : List Addr) s', as.length = kvs.length -> Sta W G env loc ((l, aAa (as.map Value.ref)) :: nw) s' -> Q (.ref l) s') : wpAny (model W.prog W.w) A (call (.type "list") [.ref r]) Q E s := by
 obtain ⟨o, ho, rfl⟩ := S.get mv
 refine kdx_call (knd := PySem.strKind W.prog W.w) hh ⟨_, ho, rfl, rfl⟩ (aBo hm S.led.keep) hn λ h' tk acc c as hk hS hl hG hacc => h _ as _ hl ⟨S.ok, S.eok, ?_, S.bare, S.os, S.gens, S.gnd⟩
 refine (S.led.cons_new hk S.led.size_ne S.led.size_new hS ⟨c, ?_⟩).perm (List.Perm.swap ..)
 rw [← hacc]
theorem Sta.getM_dict {name : Str} {d : Addr} {kvs : List (Str × Value)} {ep : Nat} {Q : Value × List Value -> Shared -> Prop} {id : String} (S : Sta W G env loc nw s) (hm : W.B.DictAt (PySem.strKind W.prog W.w) d kvs ep) (slot : Slot "dict" name id) (hty : typeOf (.builtin id) = pure (.type "method_descriptor")) (h : Q (.builtin id, [.ref d]) s) :
  GetM (model W.prog W.w) A E name (.ref d) Q s := by
 obtain ⟨o, es, e, a, b, c⟩ := aBo hm S.led.keep
 exact aBa F.plainAttrs_dict slot hty ⟨_, e, a.1⟩ (λ b e' => by cases e'; exact ⟨_, e, a.2.1⟩) h
theorem aBK {o : Expr} {attr : Str} {pos' : Pos} {value : Expr} {pos : Pos} {Q : Flow -> Shared -> Prop}
  (h : wpAny (model W.prog W.w) A (eval value env) (λ v s₁ => wpAny (model W.prog W.w) A (eval o env) (λ ov s₂ => wpAny (model W.prog W.w) A (setAttr ov attr v) (λ _ => Q .next) E s₂) E s₁) E s)
  (hs : swapsWith value (some (.Attribute o attr pos')) pos.line env = pure false) : wpAny (model W.prog W.w) A (exec (.Assign [.Attribute o attr pos'] value pos) env) Q E s := plainObj_wpAny_Assign_Attribute h hs
end
end Mine
end
section
namespace Mine
theorem aB3 {P R : Prop} (h : P) : (if true = true then P else R) := by rw [if_pos rfl]; exact h
theorem aBt {P R : Prop} (h : R) : (if false = true then P else R) := by rw [if_neg (by decide)]; exact h
theorem ite_nf {P R : Prop} (h : P) : (if (!false) = true then P else R) := by rw [if_pos (by decide)]; exact h
theorem ite_nt {P R : Prop} (h : R) : (if (!true) = true then P else R) := by rw [if_neg (by decide)]; exact h
section
variable {W : Wd} {G : Gens} {env : Env} {loc loc' : Loc} {nw nw' : Ledger} {s : Shared} {A : Around} {E : Value -> Shared -> Prop}
theorem Sta.dict0 {pos : Pos} {Q : Value -> Shared -> Prop} {M : Model} (S : Sta W G env loc nw s) (h : ∀ a s', Sta W G env loc ((a, aAX { cls := .type "dict", data := .dict #[] }) :: nw) s' -> Q (.ref a) s') : wpAny M A (eval (.Dict [] [] pos) env) Q E s :=
 wpAny_Dict_empty (h _ _ (S.new (c := aAX { cls := .type "dict", data := .dict #[] }) rfl rfl s.toks))
theorem aA1 {M : Model} {pos : Pos} {id : String} {self : Value} {e : Expr} {rest : List Expr} {Q : Value -> Shared -> Prop}
  (h : wpAny M A (spliced (backTo pos (starEach (e :: rest) env))) (λ vs s₁ => wpAny M A (call (.builtin id) (self :: vs)) Q E s₁) E s)
  (he : starEach (e :: rest) env = (false, eval e env) :: starEach rest env)
  (hplain : (backTo pos (starEach rest env)).any (·.1) = false) :
  wpAny M A (callWith pos (.builtin id) [self] (backTo pos (starEach (e :: rest) env)) (backToKw pos (keywordEach [] env))) Q E s := aFw h he hplain
theorem aBJ {pos : Pos} {f : Addr} {e : Expr} {rest : List Expr} {Q : Value -> Shared -> Prop} (hk : keepIn W.K (.ref f) = true)
  (h : wpAny (model W.prog W.w) A (spliced (backTo pos (starEach (e :: rest) env))) (λ vs s₁ => W.K.In s₁.heap /\ wpAny (model W.prog W.w) A (call (.ref f) vs) Q E s₁) E s)
  (he : starEach (e :: rest) env = (false, eval e env) :: starEach rest env) (hplain : (backTo pos (starEach rest env)).any (·.1) = false) :
  wpAny (model W.prog W.w) A (callWith pos (.ref f) [] (backTo pos (starEach (e :: rest) env)) []) Q E s := callW (first := []) hk h he hplain
theorem aEh {pos : Pos} {f : Addr} {self : Value} {e : Expr} {rest : List Expr} {Q : Value -> Shared -> Prop} (hk : keepIn W.K (.ref f) = true)
  (h : wpAny (model W.prog W.w) A (spliced (backTo pos (starEach (e :: rest) env))) (λ vs s₁ => W.K.In s₁.heap /\ wpAny (model W.prog W.w) A (call (.ref f) (self :: vs)) Q E s₁) E s)
  (he : starEach (e :: rest) env = (false, eval e env) :: starEach rest env) (hplain : (backTo pos (starEach rest env)).any (·.1) = false) :
  wpAny (model W.prog W.w) A (callWith pos (.ref f) [self] (backTo pos (starEach (e :: rest) env)) (backToKw pos (keywordEach [] env))) Q E s := callW (first := [self]) hk h he hplain
end
end Mine
end
section
namespace Mine
inductive Pull {α : Type} (p : α) : List α -> List α -> Prop
 | head {r} : Pull p (p :: r) r
 | tail {q r r'} : Pull p r r' -> Pull p (q :: r) (q :: r')
theorem Pull.perm {α : Type} {p : α} {l l' : List α} (h : Pull p l l') : l.Perm (p :: l') := by
 induction h with
 | head => exact List.Perm.refl _
 | tail h ih => exact (List.Perm.cons _ ih).trans (List.Perm.swap ..)
noncomputable def Sel (L L2 : Ledger) : Prop := ∃ rest, L.Perm (L2 ++ rest)
theorem Sel.refl (L : Ledger) : Sel L L := ⟨[], by rw [List.append_nil]⟩
theorem Sel.drop {q : Addr × Cell} {L L2 : Ledger} (h : Sel L L2) : Sel (q :: L) L2 := by
 obtain ⟨r, h⟩ := h
 exact ⟨q :: r, (List.Perm.cons _ h).trans List.perm_middle.symm⟩
theorem Sel.cons {p : Addr × Cell} {L L' L2 : Ledger} (hp : Pull p L L') (h : Sel L' L2) : Sel L (p :: L2) := by
 obtain ⟨r, h⟩ := h
 exact ⟨r, hp.perm.trans (List.Perm.cons _ h)⟩
theorem Sel.of_perm {L L2 : Ledger} (h : L.Perm L2) : Sel L L2 := ⟨[], by rw [List.append_nil]; exact h⟩
theorem Sel.trans {L L2 L3 : Ledger} (h : Sel L L2) (k : Sel L2 L3) : Sel L L3 := by
 obtain ⟨r, h⟩ := h
 obtain ⟨r', k⟩ := k
 exact ⟨r' ++ r, h.trans ((List.Perm.append_right r k).trans (by rw [List.append_assoc]))⟩
theorem Sta.sel {W : Wd} {G : Gens} {env : Env} {loc : Loc} {nw nw' : Ledger} {s : Shared} (S : Sta W G env loc nw s) (h : Sel nw nw') : Sta W G env loc nw' s := by
 obtain ⟨r, h⟩ := h
 exact (S.perm h).sub (List.sublist_append_left _ _)
theorem aDJ {b : Bool} {P R : Prop} (h1 : b = true -> P) (h2 : b = false -> R) : (if b = true then P else R) := by
 cases b with
 | true => exact h1 rfl
 | false => exact h2 rfl
theorem IntsAre.snoc {vs : List Value} {ns : List Int} (h : IntsAre vs ns) (n : Int) (t : Tok) : IntsAre (vs ++ [.int n t]) (ns ++ [n]) := by
 induction h with
 | nil => exact .cons n t .nil
 | cons m u h ih => exact .cons m u ih
theorem IntsAre.unsnoc {vs : List Value} {ns : List Int} {n : Int} (h : IntsAre vs (ns ++ [n])) : ∃ vs' t, vs = vs' ++ [.int n t] /\ IntsAre vs' ns := by
 induction ns generalizing vs with
 | nil => cases h with | cons n t h => cases h; exact ⟨[], t, rfl, .nil⟩
 | cons m r ih =>
  cases h with
  | cons m u h =>
   obtain ⟨vs', t, e, k⟩ := ih h
   exact ⟨.int m u :: vs', t, by rw [e]; rfl, .cons m u k⟩
theorem IntsAre.getAt {vs : List Value} {ns : List Int} (h : IntsAre vs ns) : ∀ (k : Nat) (h : k < ns.length), ∃ t, vs[k]? = some (.int ns[k] t) := by
 induction h with
 | nil => intro k h; cases h
 | cons n t h ih =>
  intro k hk
  cases k with
  | zero => exact ⟨t, rfl⟩
  | succ k =>
   obtain ⟨u, e⟩ := ih k (by simpa using hk)
   exact ⟨u, by simpa using e⟩
theorem IntsAre.setAt {vs : List Value} {ns : List Int} (h : IntsAre vs ns) : ∀ (k : Nat) (n : Int) (t : Tok), IntsAre (vs.set k (.int n t)) (ns.set k n) := by
 induction h with
 | nil => intro k n t; exact .nil
 | cons m u h ih =>
  intro k n t
  cases k with
  | zero => exact .cons n t h
  | succ k => exact .cons m u (ih k n t)
end Mine
end
section
namespace Mine
section
variable {W : Wd} {G : Gens} {env : Env} {loc loc' : Loc} {nw nw' : Ledger} {s : Shared} {A : Around} {E : Value -> Shared -> Prop}
theorem St0.kin (S : St0 W G nw s) : W.K.In s.heap := S.ok.kin.keeps S.led.keep
theorem St0.nolimit (S : St0 W G nw s) : s.heap.NoLimit := S.ok.nolimit.keeps S.led.keep
theorem St0.code_def {R : Result -> Shared -> Prop} {f : Addr} {name qual : Str} {st : Stmt} {dV kV doc pm cdv ct oc : Value} {an od : Option Addr} {osl : Array (Option Value)} {args : Args} {binds : List (Str × Value)} (rest : List Str)
  (S : St0 W G nw s) (hroom : A.depth < recursionLimit)
  (ho : W.K.lookup f = some ⟨oc, od, .func (fnOf name qual (aBB st) (aAm st) (aAc st) dV kV doc pm an cdv ct), osl⟩) (hcd : codeIn W.K cdv qual = true)
  (hbind : BindsTo s (fnOf name qual (aBB st) (aAm st) (aAc st) dV kV doc pm an cdv ct) args binds)
  (hk : aBs (aAc st) (binds.map Prod.fst ++ rest) = true)
  (h : ∀ L s', Sta W G (envOf qual (aAc st) L f cdv) (aAv binds rest) nw s' ->
   wpAny (model W.prog W.w) (A.deeper (envOf qual (aAc st) L f cdv)) (execs (aAm st) (envOf qual (aAc st) L f cdv)) (λ fl s'' => R (.ok (.ret (match fl with | .ret v => v | _ => .none))) s'') (λ _ _ => False) s') :
  codeAny (model W.prog W.w) A (.call (.ref f) args) R s := by
 simp only [aBs, Bool.and_eq_true, beq_iff_eq, Bool.not_eq_true', List.all_eq_true, bne_iff_ne, decide_eq_true_eq] at hk
 obtain ⟨⟨⟨⟨⟨hkind, hco⟩, hgen⟩, hcell⟩, hks⟩, hnd⟩ := hk
 have hks2 : ((aAv binds rest).map Prod.fst) = binds.map Prod.fst ++ rest := by
  simp [aAv, List.map_map, Function.comp_def]
 refine (codeAny_call_def (fd := fnOf name qual (aBB st) (aAm st) (aAc st) dV kV doc pm an cdv ct) (body := aAm st) (binds := binds) hroom (S.kin _ _ ho) rfl S.nolimit (codeRec_of S.kin hcd) rfl hbind hcell
  (λ x hx => (hks x.1 (List.mem_append_left _ (List.mem_map.mpr ⟨x, hx, rfl⟩))).1) (λ h₁ hns hkp => ?_) hco hgen hkind)
 have D : Led W.B ((s.heap.objs.size, IsNs (aAv binds rest)) :: nw) h₁ := by
  obtain ⟨o, es, ep, ho', hd, hsk, hf⟩ := hns
  refine S.led.cons_new hkp S.led.size_ne S.led.size_new ho' ⟨by rw [hks2]; exact hnd, es, ep, hd, hsk, λ x => ?_⟩
  rw [hf x, aBG _ _ (hnd.sublist (List.sublist_append_left _ _))]
 have S' : Sta W G (envOf qual (aAc st) s.heap.objs.size f cdv) (aAv binds rest) nw { s with heap := h₁, toks := s.toks + binds.length } :=
  ⟨S.ok, by rw [hks2]; exact ⟨hkind, rfl, rfl, λ x hx => (hks x hx).1, λ x hx => (hks x hx).2, hnd⟩, D, S.bare, S.os, S.gens, S.gnd⟩
 exact wpAny_mono (h _ _ S') (λ fl s'' q => q) (λ _ _ q => q.elim)
theorem St0.code {R : Result -> Shared -> Prop} {f : Addr} {qual : Str} {st : Stmt} {dV kV cdv : Value} {pos : List Value} {kw : List (Str × Value)} {binds : List (Str × Value)} (rest : List Str)
  (S : St0 W G nw s) (hf : Fn W.K f st qual dV kV cdv) (hroom : A.depth < recursionLimit) (hbind : aGz s st qual dV kV cdv ⟨pos, kw⟩ binds) (hk : aBs (aAc st) (binds.map Prod.fst ++ rest) = true)
  (h : ∀ L s', Sta W G (envOf qual (aAc st) L f cdv) (aAv binds rest) nw s' ->
   wpAny (model W.prog W.w) (A.deeper (envOf qual (aAc st) L f cdv)) (execs (aAm st) (envOf qual (aAc st) L f cdv)) (λ fl s'' => R (.ok (.ret (match fl with | .ret v => v | _ => .none))) s'') (λ _ _ => False) s') :
  codeAny (model W.prog W.w) A (.call (.ref f) ⟨pos, kw⟩) R s := by
 obtain ⟨name, doc, pm, ct, oc, an, od, osl, ho⟩ := hf.at_
 exact S.code_def (args := ⟨pos, kw⟩) rest hroom ho hf.code (hbind _ _ _ _ _) hk h
theorem St0.codeC {R : Result -> Shared -> Prop} {f : Addr} {qual : Str} {st : Stmt} {dV kV cdv : Value} {pos : List Value} {kw : List (Str × Value)} {binds : List (Str × Value)} (bl : List (Str × Value)) (rest : List Str) (cv : List (Option Value))
  (S : St0 W G nw s) (hf : Fn W.K f st qual dV kV cdv) (hroom : A.depth < recursionLimit) (hbind : aGz s st qual dV kV cdv ⟨pos, kw⟩ binds)
  (hbl : mapL (aAc st) binds = bl) (hcv : (aAn (aAc st).names).map (λ n => binds.lookup n) = cv) (hk : aFU (aAc st) binds (bl.map Prod.fst ++ rest) = true)
  (h : ∀ L cs s', CellsAt (envOfC qual (aAc st) L f cdv) (aAn (aAc st).names) cs -> Sta W G (envOfC qual (aAc st) L f cdv) (aAv bl rest) (aAV cv cs ++ nw) s' ->
   wpAny (model W.prog W.w) (A.deeper (envOfC qual (aAc st) L f cdv)) (execs (aAm st) (envOfC qual (aAc st) L f cdv)) (λ fl s'' => R (.ok (.ret (match fl with | .ret v => v | _ => .none))) s'') (λ _ _ => False) s') :
  codeAny (model W.prog W.w) A (.call (.ref f) ⟨pos, kw⟩) R s := by
 obtain ⟨name, doc, pm, ct, oc, an, od, osl, ho⟩ := hf.at_
 simp only [aFU, Bool.and_eq_true, beq_iff_eq, Bool.not_eq_true', List.all_eq_true, bne_iff_ne, decide_eq_true_eq, Bool.or_eq_true] at hk
 obtain ⟨⟨⟨⟨⟨⟨⟨⟨hkind, hco⟩, hgen⟩, hbk⟩, hks⟩, hnd⟩, hbnd⟩, hcnd⟩, hcs⟩ := hk
 have hks2 : ((aAv bl rest).map Prod.fst) = bl.map Prod.fst ++ rest := by
  simp [aAv, List.map_map, Function.comp_def]
 have hcf : cellsFrom (s.heap.objs.size + 1) (aAc st).names [] = ((aAn (aAc st).names).zip (List.range' (s.heap.objs.size + 1) (aAn (aAc st).names).length)).reverse ++ [] := aBp _ _ _
 have hlk : ∀ i (hi : i < (aAn (aAc st).names).length), (cellsFrom (s.heap.objs.size + 1) (aAc st).names []).lookup (aAn (aAc st).names)[i] = some (s.heap.objs.size + 1 + i) := λ i hi => by
  rw [hcf]; exact aBr _ _ hcnd i hi
 refine (codeAny_call_function (fd := fnOf name qual (aBB st) (aAm st) (aAc st) dV kV doc pm an cdv ct) hroom (S.kin _ _ ho) rfl hco hgen rfl (codeRec_of S.kin hf.code) (hbind _ _ _ _ _ _ _ _ _ ?_))
 refine wpAny_newFunctionEnv_cells hkind (λ x hx => ?_) λ env' he s' X => ?_
 ·rcases hbk x hx with q | q
  ·exact .inl q
  ·refine .inr ⟨q, ?_⟩
   have : x.1 ∈ aAn (aAc st).names := by
    refine List.mem_map.mpr ⟨(x.1, .cell), List.mem_filter.mpr ⟨mem_of_lookup q, rfl⟩, rfl⟩
   obtain ⟨i, hi, e⟩ := List.getElem_of_mem this
   rw [← e, hlk i hi]; rfl
 ·subst he
  have hkp := X.toInCall.keep
  obtain ⟨h₁, tk, e⟩ := X.toInCall.same
  refine ⟨S.nolimit.keeps hkp, codeAny_func ?_⟩
  have hlen : cv.length = (aAn (aAc st).names).length := by rw [← hcv]; simp
  have D : Led W.B (aAV cv (List.range' (s.heap.objs.size + 1) cv.length) ++ ((s.heap.objs.size, IsNs (aAv bl rest)) :: nw)) s'.heap := by
   have D0 : Led W.B ((s.heap.objs.size, IsNs (aAv bl rest)) :: nw) s'.heap := by
    obtain ⟨o, es, ep, ho', hd, hsk, hf⟩ := X.toInCall.ns
    refine S.led.cons_new hkp S.led.size_ne S.led.size_new ho' ⟨by rw [hks2]; exact hnd, es, ep, hd, hsk, λ x => ?_⟩
    have hnd2 : (bl.map Prod.fst).Nodup := hnd.sublist (List.sublist_append_left _ _)
    rw [hf x, aEj _ _ _ _ hbnd, Option.or_none, aBG _ _ hnd2]
    show (mapL (aAc st) binds).lookup x = _
    rw [hbl]
    have hrev : ∀ (l : List (Str × Value)), (l.map Prod.fst).Nodup -> l.lookup x = l.reverse.lookup x := by
     intro l hl
     induction l with
     | nil => rfl
     | cons p r ih =>
      rw [List.map_cons, List.nodup_cons] at hl
      rw [List.reverse_cons, List.lookup_append, ← ih hl.2, List.lookup_cons, List.lookup_cons]
      by_cases q : x = p.1
      ·subst q
       have : r.lookup p.1 = none := by
        rw [List.lookup_eq_none_iff]
        intro z hz
        rw [bne_iff_ne]
        exact λ e => hl.1 (List.mem_map.mpr ⟨z, hz, e.symm⟩)
       simp [this]
      ·rw [beq_eq_false_iff_ne.mpr q]; simp
    exact hrev bl hnd2
   have hcell : ∀ i (hi : i < cv.length), s'.heap.IsCell (s.heap.objs.size + 1 + i) cv[i] := λ i hi => by
    have hi' : i < (aAn (aAc st).names).length := by rw [← hlen]; exact hi
    have := X.cell _ _ (hlk i hi')
    have hkc : (aAc st).names.lookup (aAn (aAc st).names)[i] = some .cell := (hcs _ (List.getElem_mem hi')).1.1
    have e2 : bindC (newEnv (aAc st) s.heap.objs.size mainGlobals (cellsFrom (s.heap.objs.size + 1) (aAc st).names []) (qual ++ ".<locals>.") (some f) cdv none builtinsNs).kindOf binds (λ _ => none) (aAn (aAc st).names)[i] = cv[i] := by
     rw [aEk _ _ _ _ hbnd (by show (aAc st).names.lookup _ ≠ _; rw [hkc]; decide), Option.or_none]
     simp only [← hcv, List.getElem_map]
    rw [← e2]; exact this
   refine ⟨D0.keep, λ p hp => ?_, ?_⟩
   ·rcases List.mem_append.mp hp with hp | hp
    ·obtain ⟨i, hi, rfl⟩ := aB6 _ _ _ hp
     obtain ⟨o, ho2, hd2⟩ := hcell i hi
     refine ⟨?_, o, ho2, hd2⟩
     cases q : W.B.get? (s.heap.objs.size + 1 + i) with
     | none => rfl
     | some o2 => exact absurd (Heap.lt_size (S.led.keep _ _ q)) (λ hh => by
       omega)
    ·exact D0.own p hp
   ·rw [List.map_append, List.nodup_append, aBU]
    refine ⟨List.nodup_range', D0.nodup, λ a ha b hb e => ?_⟩
    subst e
    have hge : s.heap.objs.size + 1 <= a := by
     have := List.mem_range'_1.mp ha
     exact this.1
    rcases List.mem_cons.mp hb with q | hb
    ·exact absurd q (Nat.ne_of_gt hge)
    ·obtain ⟨p, hp, q⟩ := List.mem_map.mp hb
     obtain ⟨o, ho2, _⟩ := (S.led.own p hp).2
     have hl : p.1 < s.heap.objs.size := Heap.lt_size ho2
     exact absurd q (Nat.ne_of_lt (Nat.lt_trans hl hge))
  have S' : Sta W G (envOfC qual (aAc st) s.heap.objs.size f cdv) (aAv bl rest) (aAV cv (List.range' (s.heap.objs.size + 1) cv.length) ++ nw) s' := by
   subst e
   refine ⟨S.ok, by rw [hks2]; exact ⟨hkind, rfl, rfl, λ x hx => (hks x hx).1, λ x hx => (hks x hx).2, hnd⟩, D.perm List.perm_middle, S.bare, S.os, S.gens, S.gnd⟩
  refine wpAny_mono (h _ _ _ ?_ S') (λ fl s'' q => q) (λ _ _ q => q.elim)
  rw [hlen]
  refine aCD _ _ λ i hi => ⟨(hcs _ (List.getElem_mem hi)).1.1, hlk i hi, (hcs _ (List.getElem_mem hi)).1.2, (hcs _ (List.getElem_mem hi)).2⟩
end
theorem kn_postG {M : Model} {A : Around} {cd : Code} {s s₁ : Shared} {cw : ClaimW} {cl : Str -> Option Addr} {mean : ExcName -> Option Value} {args : List WData} {tabs : List (Addr × Addr)} (hT : TabsAt tabs s₁.heap) (hr : ∀ x, cw.raises args x = false) (hp : cw.post args (.bool true) args = true)
  (h : codeAny M A cd (λ r s' => r = .ok (.ret (.bool true)) /\ (∀ b o, (ghostOf s₁.heap tabs).get? b = some o -> s'.heap.get? b = some o) /\ s'.os = s₁.os /\ AllBare s'.gens /\ GrownAll tabs s'.heap) s) : codeAny M A cd (GoodWG cw cl mean args s₁) s :=
 codeAny_mono h λ r s' ⟨hr1, hk, hos, hg, hgr⟩ => by
  have keep : ∀ b o, b ∉ tabs.map (·.2) -> s₁.heap.get? b = some o -> s'.heap.get? b = some o := λ b o hb e => hk b o (ghost_ne e hb)
  have grown : ∀ b o, b ∈ tabs.map (·.2) -> s₁.heap.get? b = some o -> isCodeTable s₁.heap b /\ o = tabObj #[] /\ ∃ ps, s'.heap.get? b = some (tabObj ps) := λ b o hb e => by
   obtain ⟨q, hq, rfl⟩ := List.mem_map.mp hb
   have e2 := (hT q hq).2
   rw [e] at e2
   exact ⟨((hT q hq).1.tab (hT q hq).2).isCodeTable, Option.some.inj e2, hgr.get q hq⟩
  refine ⟨.inl ⟨_, _, [], hr1, hr, ReadsW.bool true, hp, λ _ => ⟨List.nodup_nil, λ _ hm => (nomatch hm)⟩⟩, ⟨λ b o e => ?_, λ b o e => ?_⟩, hos, hg⟩
  ·by_cases hb : b ∈ tabs.map (·.2)
   ·obtain ⟨ht, rfl, ps, hP⟩ := grown b o hb e
    exact .inr (.inl ⟨ht, rfl, #[], ps, rfl, by rw [Array.empty_append]; exact hP⟩)
   ·exact .inl (keep b o hb e)
  ·by_cases hb : b ∈ tabs.map (·.2)
   ·obtain ⟨_, _, ps, hP⟩ := grown b o hb e
    exact ⟨_, hP⟩
   ·exact ⟨o, keep b o hb e⟩
noncomputable def tabLed (tabs : List (Addr × Addr)) : Ledger := tabs.map λ q => (q.2, aDv [])
theorem sta0_of {W : Wd} {p : Program} {loose : List Str} {mean : ExcName -> Option Value} {mg mb : Str -> Option Value} {s₁ : Shared} {tabs : List (Addr × Addr)} (hT : TabsAt tabs s₁.heap) (hn : (tabs.map (·.2)).Nodup) (X : W.K.In s₁.heap) (hK : noTabs W.K = true) (T : Top p loose mean mg mb s₁.heap) (hg : s₁.gens = #[])
  (hB : W.B = ghostOf s₁.heap tabs) (ho : W.os = s₁.os) : St0 W [] (tabLed tabs) s₁ := by
 refine ⟨⟨?_, ?_⟩, ⟨?_, ?_, ?_⟩, .of_eq hg, ho.symm, λ _ h => by simp at h, List.nodup_nil⟩
 ·rw [hB]; exact ghost_K hT X hK
 ·rw [hB]; exact ⟨_, _, _, _, ghost_top hT T⟩
 ·intro b o e; rw [hB] at e; exact of_hideAll _ e
 ·intro q hq
  obtain ⟨r, hr, rfl⟩ := List.mem_map.mp hq
  exact ⟨by rw [hB]; exact hideAll_none _ (List.mem_map_of_mem hr), _, (hT r hr).2, rfl⟩
 ·simpa [tabLed, List.map_map, Function.comp_def] using hn
end Mine
end
section
namespace Mine
noncomputable def fdAt (K : Frag) (f : Addr) : FuncData := match K.lookup f with
 | some ⟨_, _, .func fd, _⟩ => fd
 | _ => default
noncomputable def obAt (K : Frag) (f : Addr) : Obj := (K.lookup f).getD default
noncomputable def selfNames : List Str := ["_write", "_data", "_with_comments", "_strip_text", "_exclude_attrs", "_exclude_tags", "_rewrite_prefixes", "_qname_aware_tags", "_find_qname_aware_attrs", "_declared_ns_stack", "_ns_stack", "_prefix_map", "_preserve_space", "_pending_start", "_root_seen", "_root_done", "_ignored_depth"]
theorem aHI : bootBuiltins "list" = some (.type "list") := by kernel_rfl
theorem aDQ : bootBuiltins "len" = some (.builtin "len") := by kernel_rfl
theorem bo_sum : bootBuiltins "sum" = some (.builtin "sum") := by kernel_rfl
theorem aIG : bootBuiltins "set" = some (.type "set") := by kernel_rfl
theorem aBC : bootBuiltins "sorted" = some (.builtin "sorted") := by kernel_rfl
end Mine
end
section
set_option maxHeartbeats 8000000
namespace Mine
theorem ws : PySem.Challenge.rw_dn0284_08.wellSaid = true := by kernel_rfl
open_top hd for (PySem.W.OpenLaw.row PySem.Challenge.rw_dn0284_08)
end Mine
end
section
namespace Mine
noncomputable abbrev pp : Program := PySem.Challenge.pw_dn0284_08
noncomputable abbrev KK (P : Params) : Frag := hd.heap_1 P
structure IsC (W : Wd) : Prop where
 k : W.K = KK W.w.params
noncomputable def stC : Stmt := aBM pp 7
noncomputable def aGJ : Stmt := aBM pp 8
theorem aJv (P : Params) : Fn (KK P) 161 aGJ "_escape_cdata_c14n" .none .none (.ref 160) :=
 ⟨⟨(fdAt (KK P) 161).name, (fdAt (KK P) 161).doc, (fdAt (KK P) 161).pyModule, (fdAt (KK P) 161).closureTuple, (obAt (KK P) 161).cls, (fdAt (KK P) 161).annotations, (obAt (KK P) 161).dict, (obAt (KK P) 161).slots, by kernel_rfl⟩, by kernel_rfl⟩
theorem IsC.f_escC {W : Wd} (I : IsC W) : Fn W.K 161 aGJ "_escape_cdata_c14n" .none .none (.ref 160) := by rw [I.k]; exact aJv _
theorem IsC.g_escC {W : Wd} (I : IsC W) : nsIn W.K mainGlobals "_escape_cdata_c14n" = some (some (.ref 161)) := by rw [I.k]; kernel_rfl
noncomputable def aGK : Stmt := aBM pp 9
theorem aJw (P : Params) : Fn (KK P) 168 aGK "_escape_attrib_c14n" .none .none (.ref 167) :=
 ⟨⟨(fdAt (KK P) 168).name, (fdAt (KK P) 168).doc, (fdAt (KK P) 168).pyModule, (fdAt (KK P) 168).closureTuple, (obAt (KK P) 168).cls, (fdAt (KK P) 168).annotations, (obAt (KK P) 168).dict, (obAt (KK P) 168).slots, by kernel_rfl⟩, by kernel_rfl⟩
theorem IsC.f_escA {W : Wd} (I : IsC W) : Fn W.K 168 aGK "_escape_attrib_c14n" .none .none (.ref 167) := by rw [I.k]; exact aJw _
theorem IsC.g_escA {W : Wd} (I : IsC W) : nsIn W.K mainGlobals "_escape_attrib_c14n" = some (some (.ref 168)) := by rw [I.k]; kernel_rfl
noncomputable def aEs : Stmt := aBM pp 15
theorem fn_law (P : Params) : Fn (KK P) 199 aEs "law" .none .none (.ref 198) :=
 ⟨⟨(fdAt (KK P) 199).name, (fdAt (KK P) 199).doc, (fdAt (KK P) 199).pyModule, (fdAt (KK P) 199).closureTuple, (obAt (KK P) 199).cls, (fdAt (KK P) 199).annotations, (obAt (KK P) 199).dict, (obAt (KK P) 199).slots, by kernel_rfl⟩, by kernel_rfl⟩
theorem IsC.f_law {W : Wd} (I : IsC W) : Fn W.K 199 aEs "law" .none .none (.ref 198) := by rw [I.k]; exact fn_law _
noncomputable def aAJ : Stmt := aBM pp 11
theorem aGt (P : Params) : Fn (KK P) 175 aAJ "_law_calls" .none .none (.ref 174) :=
 ⟨⟨(fdAt (KK P) 175).name, (fdAt (KK P) 175).doc, (fdAt (KK P) 175).pyModule, (fdAt (KK P) 175).closureTuple, (obAt (KK P) 175).cls, (fdAt (KK P) 175).annotations, (obAt (KK P) 175).dict, (obAt (KK P) 175).slots, by kernel_rfl⟩, by kernel_rfl⟩
theorem IsC.f_l_calls {W : Wd} (I : IsC W) : Fn W.K 175 aAJ "_law_calls" .none .none (.ref 174) := by rw [I.k]; exact aGt _
theorem IsC.g_l_calls {W : Wd} (I : IsC W) : nsIn W.K mainGlobals "_law_calls" = some (some (.ref 175)) := by rw [I.k]; kernel_rfl
noncomputable def aCY : Stmt := aBM pp 12
theorem aHr (P : Params) : Fn (KK P) 182 aCY "_law_tell" .none .none (.ref 181) :=
 ⟨⟨(fdAt (KK P) 182).name, (fdAt (KK P) 182).doc, (fdAt (KK P) 182).pyModule, (fdAt (KK P) 182).closureTuple, (obAt (KK P) 182).cls, (fdAt (KK P) 182).annotations, (obAt (KK P) 182).dict, (obAt (KK P) 182).slots, by kernel_rfl⟩, by kernel_rfl⟩
theorem IsC.f_l_tell {W : Wd} (I : IsC W) : Fn W.K 182 aCY "_law_tell" .none .none (.ref 181) := by rw [I.k]; exact aHr _
theorem IsC.g_l_tell {W : Wd} (I : IsC W) : nsIn W.K mainGlobals "_law_tell" = some (some (.ref 182)) := by rw [I.k]; kernel_rfl
noncomputable def aCb : Stmt := aBM pp 13
theorem aHs (P : Params) : Fn (KK P) 189 aCb "_law_read" .none .none (.ref 188) :=
 ⟨⟨(fdAt (KK P) 189).name, (fdAt (KK P) 189).doc, (fdAt (KK P) 189).pyModule, (fdAt (KK P) 189).closureTuple, (obAt (KK P) 189).cls, (fdAt (KK P) 189).annotations, (obAt (KK P) 189).dict, (obAt (KK P) 189).slots, by kernel_rfl⟩, by kernel_rfl⟩
theorem IsC.f_l_read {W : Wd} (I : IsC W) : Fn W.K 189 aCb "_law_read" .none .none (.ref 188) := by rw [I.k]; exact aHs _
theorem IsC.g_l_read {W : Wd} (I : IsC W) : nsIn W.K mainGlobals "_law_read" = some (some (.ref 189)) := by rw [I.k]; kernel_rfl
noncomputable def aBv : Stmt := aBM pp 14
theorem aGs (P : Params) : Fn (KK P) 194 aBv "_law_means" .none .none (.ref 193) :=
 ⟨⟨(fdAt (KK P) 194).name, (fdAt (KK P) 194).doc, (fdAt (KK P) 194).pyModule, (fdAt (KK P) 194).closureTuple, (obAt (KK P) 194).cls, (fdAt (KK P) 194).annotations, (obAt (KK P) 194).dict, (obAt (KK P) 194).slots, by kernel_rfl⟩, by kernel_rfl⟩
theorem IsC.f_l_means {W : Wd} (I : IsC W) : Fn W.K 194 aBv "_law_means" .none .none (.ref 193) := by rw [I.k]; exact aGs _
theorem IsC.g_l_means {W : Wd} (I : IsC W) : nsIn W.K mainGlobals "_law_means" = some (some (.ref 194)) := by rw [I.k]; kernel_rfl
noncomputable def aDU : Stmt := aBu stC 0
theorem aJu (P : Params) : Fn (KK P) 67 aDU "C14NWriterTarget.__init__" .none (.ref 60) (.ref 66) :=
 ⟨⟨(fdAt (KK P) 67).name, (fdAt (KK P) 67).doc, (fdAt (KK P) 67).pyModule, (fdAt (KK P) 67).closureTuple, (obAt (KK P) 67).cls, (fdAt (KK P) 67).annotations, (obAt (KK P) 67).dict, (obAt (KK P) 67).slots, by kernel_rfl⟩, by kernel_rfl⟩
theorem IsC.f_init {W : Wd} (I : IsC W) : Fn W.K 67 aDU "C14NWriterTarget.__init__" .none (.ref 60) (.ref 66) := by rw [I.k]; exact aJu _
noncomputable def aDT : Stmt := aBu stC 1
theorem aJt (P : Params) : Fn (KK P) 75 aDT "C14NWriterTarget._iter_namespaces" (.ref 68) .none (.ref 74) :=
 ⟨⟨(fdAt (KK P) 75).name, (fdAt (KK P) 75).doc, (fdAt (KK P) 75).pyModule, (fdAt (KK P) 75).closureTuple, (obAt (KK P) 75).cls, (fdAt (KK P) 75).annotations, (obAt (KK P) 75).dict, (obAt (KK P) 75).slots, by kernel_rfl⟩, by kernel_rfl⟩
theorem IsC.f_iter {W : Wd} (I : IsC W) : Fn W.K 75 aDT "C14NWriterTarget._iter_namespaces" (.ref 68) .none (.ref 74) := by rw [I.k]; exact aJt _
noncomputable def aAO : Stmt := aBu stC 3
theorem aIg (P : Params) : Fn (KK P) 90 aAO "C14NWriterTarget._qname" (.ref 83) .none (.ref 89) :=
 ⟨⟨(fdAt (KK P) 90).name, (fdAt (KK P) 90).doc, (fdAt (KK P) 90).pyModule, (fdAt (KK P) 90).closureTuple, (obAt (KK P) 90).cls, (fdAt (KK P) 90).annotations, (obAt (KK P) 90).dict, (obAt (KK P) 90).slots, by kernel_rfl⟩, by kernel_rfl⟩
theorem IsC.f_qname {W : Wd} (I : IsC W) : Fn W.K 90 aAO "C14NWriterTarget._qname" (.ref 83) .none (.ref 89) := by rw [I.k]; exact aIg _
noncomputable def aGL : Stmt := aBu stC 4
theorem aJx (P : Params) : Fn (KK P) 97 aGL "C14NWriterTarget.data" .none .none (.ref 96) :=
 ⟨⟨(fdAt (KK P) 97).name, (fdAt (KK P) 97).doc, (fdAt (KK P) 97).pyModule, (fdAt (KK P) 97).closureTuple, (obAt (KK P) 97).cls, (fdAt (KK P) 97).annotations, (obAt (KK P) 97).dict, (obAt (KK P) 97).slots, by kernel_rfl⟩, by kernel_rfl⟩
theorem IsC.f_data {W : Wd} (I : IsC W) : Fn W.K 97 aGL "C14NWriterTarget.data" .none .none (.ref 96) := by rw [I.k]; exact aJx _
noncomputable def aDV : Stmt := aBu stC 5
theorem aIh (P : Params) : Fn (KK P) 106 aDV "C14NWriterTarget._flush" (.ref 99) .none (.ref 105) :=
 ⟨⟨(fdAt (KK P) 106).name, (fdAt (KK P) 106).doc, (fdAt (KK P) 106).pyModule, (fdAt (KK P) 106).closureTuple, (obAt (KK P) 106).cls, (fdAt (KK P) 106).annotations, (obAt (KK P) 106).dict, (obAt (KK P) 106).slots, by kernel_rfl⟩, by kernel_rfl⟩
theorem IsC.f_flush {W : Wd} (I : IsC W) : Fn W.K 106 aDV "C14NWriterTarget._flush" (.ref 99) .none (.ref 105) := by rw [I.k]; exact aIh _
noncomputable def aBV : Stmt := aBu stC 6
theorem aGr (P : Params) : Fn (KK P) 113 aBV "C14NWriterTarget.start_ns" .none .none (.ref 112) :=
 ⟨⟨(fdAt (KK P) 113).name, (fdAt (KK P) 113).doc, (fdAt (KK P) 113).pyModule, (fdAt (KK P) 113).closureTuple, (obAt (KK P) 113).cls, (fdAt (KK P) 113).annotations, (obAt (KK P) 113).dict, (obAt (KK P) 113).slots, by kernel_rfl⟩, by kernel_rfl⟩
theorem IsC.f_startNs {W : Wd} (I : IsC W) : Fn W.K 113 aBV "C14NWriterTarget.start_ns" .none .none (.ref 112) := by rw [I.k]; exact aGr _
noncomputable def aCa : Stmt := aBu stC 7
theorem aIf (P : Params) : Fn (KK P) 120 aCa "C14NWriterTarget.start" .none .none (.ref 119) :=
 ⟨⟨(fdAt (KK P) 120).name, (fdAt (KK P) 120).doc, (fdAt (KK P) 120).pyModule, (fdAt (KK P) 120).closureTuple, (obAt (KK P) 120).cls, (fdAt (KK P) 120).annotations, (obAt (KK P) 120).dict, (obAt (KK P) 120).slots, by kernel_rfl⟩, by kernel_rfl⟩
theorem IsC.f_start {W : Wd} (I : IsC W) : Fn W.K 120 aCa "C14NWriterTarget.start" .none .none (.ref 119) := by rw [I.k]; exact aIf _
noncomputable def aAz : Stmt := aBu stC 8
theorem aHq (P : Params) : Fn (KK P) 126 aAz "C14NWriterTarget._start" (.ref 121) .none (.ref 125) :=
 ⟨⟨(fdAt (KK P) 126).name, (fdAt (KK P) 126).doc, (fdAt (KK P) 126).pyModule, (fdAt (KK P) 126).closureTuple, (obAt (KK P) 126).cls, (fdAt (KK P) 126).annotations, (obAt (KK P) 126).dict, (obAt (KK P) 126).slots, by kernel_rfl⟩, by kernel_rfl⟩
theorem IsC.f_start1 {W : Wd} (I : IsC W) : Fn W.K 126 aAz "C14NWriterTarget._start" (.ref 121) .none (.ref 125) := by rw [I.k]; exact aHq _
noncomputable def aFF : Stmt := aBu stC 9
theorem fn_end (P : Params) : Fn (KK P) 133 aFF "C14NWriterTarget.end" .none .none (.ref 132) :=
 ⟨⟨(fdAt (KK P) 133).name, (fdAt (KK P) 133).doc, (fdAt (KK P) 133).pyModule, (fdAt (KK P) 133).closureTuple, (obAt (KK P) 133).cls, (fdAt (KK P) 133).annotations, (obAt (KK P) 133).dict, (obAt (KK P) 133).slots, by kernel_rfl⟩, by kernel_rfl⟩
theorem IsC.f_end {W : Wd} (I : IsC W) : Fn W.K 133 aFF "C14NWriterTarget.end" .none .none (.ref 132) := by rw [I.k]; exact fn_end _
noncomputable def aHW : Stmt := aBu stC 11
theorem fn_pi (P : Params) : Fn (KK P) 147 aHW "C14NWriterTarget.pi" .none .none (.ref 146) :=
 ⟨⟨(fdAt (KK P) 147).name, (fdAt (KK P) 147).doc, (fdAt (KK P) 147).pyModule, (fdAt (KK P) 147).closureTuple, (obAt (KK P) 147).cls, (fdAt (KK P) 147).annotations, (obAt (KK P) 147).dict, (obAt (KK P) 147).slots, by kernel_rfl⟩, by kernel_rfl⟩
theorem IsC.f_pi {W : Wd} (I : IsC W) : Fn W.K 147 aHW "C14NWriterTarget.pi" .none .none (.ref 146) := by rw [I.k]; exact fn_pi _
theorem IsC.g_cls {W : Wd} (I : IsC W) : nsIn W.K mainGlobals "C14NWriterTarget" = some (some (.ref 150)) := by rw [I.k]; kernel_rfl
theorem IsC.g_map {W : Wd} (I : IsC W) : nsIn W.K mainGlobals "_namespace_map" = some (some (.ref 44)) := by rw [I.k]; kernel_rfl
theorem IsC.b_list {W : Wd} (I : IsC W) : nsIn W.K mainGlobals "list" = some none := by rw [I.k]; kernel_rfl
theorem IsC.b_len {W : Wd} (I : IsC W) : nsIn W.K mainGlobals "len" = some none := by rw [I.k]; kernel_rfl
theorem IsC.b_sum {W : Wd} (I : IsC W) : nsIn W.K mainGlobals "sum" = some none := by rw [I.k]; kernel_rfl
theorem IsC.b_set {W : Wd} (I : IsC W) : nsIn W.K mainGlobals "set" = some none := by rw [I.k]; kernel_rfl
theorem IsC.b_sorted {W : Wd} (I : IsC W) : nsIn W.K mainGlobals "sorted" = some none := by rw [I.k]; kernel_rfl
theorem IsC.b_reversed {W : Wd} (I : IsC W) : nsIn W.K mainGlobals "reversed" = some none := by rw [I.k]; kernel_rfl
theorem cl_C (P : Params) : Cl (KK P) 150 selfNames where
 ga := by kernel_rfl
 gh := by kernel_rfl
 sa := by kernel_rfl
 plain := by kernel_rfl
 dict := by kernel_rfl
 own := by
  intro n hn
  simp only [selfNames, List.mem_cons, List.not_mem_nil, or_false] at hn
  rcases hn with rfl | rfl | rfl | rfl | rfl | rfl | rfl | rfl | rfl | rfl | rfl | rfl | rfl | rfl | rfl | rfl | rfl <;> kernel_rfl
theorem IsC.cl {W : Wd} (I : IsC W) : Cl W.K 150 selfNames := by rw [I.k]; exact cl_C _
end Mine
end
section
namespace Mine
noncomputable def mapS (f : Nat -> List Nat) (x : Str) : Str := ⟨(x.cps.toList.flatMap f).toArray⟩
theorem Str.ext' {a b : Str} (h : a.cps.toList = b.cps.toList) : a = b := by
 obtain ⟨⟨a⟩⟩ := a; obtain ⟨⟨b⟩⟩ := b; cases h; rfl
theorem aHa (f : Nat -> List Nat) (x : Str) : (mapS f x).cps.toList = x.cps.toList.flatMap f := rfl
theorem aFh (f : Nat -> List Nat) (a b : Str) : mapS f (a ++ b) = mapS f a ++ mapS f b := by
 apply Str.ext'
 simp [mapS, Str.cps_append]
theorem aAT (f g : Nat -> List Nat) (x : Str) : mapS f (mapS g x) = mapS (λ c => (g c).flatMap f) x := by
 apply Str.ext'
 simp [mapS, List.flatMap_assoc]
theorem aJe (x : Str) : mapS (λ c => [c]) x = x := by
 apply Str.ext'
 simp [mapS]
theorem aDL {α β : Type} (f : α -> List β) (k : Nat) (h : ∀ c, (f c).length <= k) : ∀ l : List α, (l.flatMap f).length <= k * l.length
 | [] => by simp
 | c :: r => by
  have h1 := aDL f k h r
  have h2 := h c
  rw [List.flatMap_cons, List.length_append, List.length_cons]
  omega
theorem Str.len_list (x : Str) : x.length = x.cps.toList.length := by simp [Str.length]
theorem aA4 (f : Nat -> List Nat) (k : Nat) (h : ∀ c, (f c).length <= k) (x : Str) : (mapS f x).length <= k * x.length := by
 rw [Str.len_list, Str.len_list, aHa]; exact aDL f k h _
noncomputable def r1 (c : Nat) (z : List Nat) (k : Nat) : List Nat := if k = c then z else [k]
theorem aD0 (c : Nat) (z : List Nat) : ∀ l : List Nat, c ∉ l -> l.flatMap (r1 c z) = l
 | [], _ => rfl
 | k :: r, h => by
  have h1 : ¬ k = c := λ e => h (e ▸ List.mem_cons_self ..)
  have h2 : c ∉ r := λ m => h (List.mem_cons_of_mem _ m)
  rw [List.flatMap_cons, aD0 c z r h2]
  simp [r1, h1]
theorem aGV (c : Nat) (z : Str) : ∀ parts : List Str, (∀ p ∈ parts, c ∉ p.cps.toList) -> (Str.join ⟨#[c]⟩ parts).cps.toList.flatMap (r1 c z.cps.toList) = (Str.join z parts).cps.toList
 | [], _ => rfl
 | [p], h => aD0 c _ _ (h p (List.mem_singleton.mpr rfl))
 | p :: q :: r, h => by
  have ih := aGV c z (q :: r) λ a ha => h a (List.mem_cons_of_mem _ ha)
  show (p ++ ⟨#[c]⟩ ++ Str.join ⟨#[c]⟩ (q :: r)).cps.toList.flatMap _ = (p ++ z ++ Str.join z (q :: r)).cps.toList
  simp only [Str.cps_append, Array.toList_append, List.flatMap_append]
  rw [ih, aD0 c _ _ (h p (List.mem_cons_self ..))]
  simp [r1]
theorem aGf (x z : Str) (c : Nat) : Txt.replace x ⟨#[c]⟩ z = mapS (r1 c z.cps.toList) x := by
 apply Str.ext'
 rw [StrLaws.replace_one, ← aGV c z _ (StrLaws.split_free x c), StrLaws.join_split]
 rfl
theorem aHb {x : Str} {c : Nat} {z : List Nat} (h : c ∉ x.cps.toList) : mapS (r1 c z) x = x := Str.ext' (aD0 c z _ h)
noncomputable def fC (c : Nat) : List Nat := if c = 38 then [38, 97, 109, 112, 59] else if c = 60 then [38, 108, 116, 59] else if c = 62 then [38, 103, 116, 59] else if c = 13 then [38, 35, 120, 68, 59] else [c]
noncomputable def fA (c : Nat) : List Nat := if c = 38 then [38, 97, 109, 112, 59] else if c = 60 then [38, 108, 116, 59] else if c = 34 then [38, 113, 117, 111, 116, 59] else if c = 9 then [38, 35, 120, 57, 59] else if c = 10 then [38, 35, 120, 65, 59] else if c = 13 then [38, 35, 120, 68, 59] else [c]
noncomputable def escC (x : Str) : Str := mapS fC x
noncomputable def escA (x : Str) : Str := mapS fA x
noncomputable def gC1 : Nat -> List Nat := r1 38 [38, 97, 109, 112, 59]
noncomputable def gC2 (c : Nat) : List Nat := (gC1 c).flatMap (r1 60 [38, 108, 116, 59])
noncomputable def gC3 (c : Nat) : List Nat := (gC2 c).flatMap (r1 62 [38, 103, 116, 59])
noncomputable def gC4 (c : Nat) : List Nat := (gC3 c).flatMap (r1 13 [38, 35, 120, 68, 59])
theorem aHp (c : Nat) : (gC1 c).length <= 6 := by unfold gC1 r1; split <;> simp
theorem aHo (c : Nat) : gC2 c = if c = 38 then [38, 97, 109, 112, 59] else if c = 60 then [38, 108, 116, 59] else [c] := by
 unfold gC2 gC1 r1; by_cases h : c = 38 <;> simp [h]
theorem aIv (c : Nat) : gC3 c = if c = 38 then [38, 97, 109, 112, 59] else if c = 60 then [38, 108, 116, 59] else if c = 62 then [38, 103, 116, 59] else [c] := by
 unfold gC3; rw [aHo]; unfold r1; by_cases h : c = 38 <;> by_cases h2 : c = 60 <;> simp [h, h2]
theorem gC4_eq (c : Nat) : gC4 c = fC c := by
 unfold gC4; rw [aIv]; unfold r1 fC; by_cases h : c = 38 <;> by_cases h2 : c = 60 <;> by_cases h3 : c = 62 <;> simp [h, h2, h3]
theorem aHn (c : Nat) : (gC2 c).length <= 6 := by rw [aHo]; (repeat' split) <;> simp
theorem aJo (c : Nat) : (gC3 c).length <= 6 := by rw [aIv]; (repeat' split) <;> simp
theorem fC_len (c : Nat) : (fC c).length <= 6 := by unfold fC; (repeat' split) <;> simp
theorem fA_len (c : Nat) : (fA c).length <= 6 := by unfold fA; (repeat' split) <;> simp
noncomputable def gA3 (c : Nat) : List Nat := (gC2 c).flatMap (r1 34 [38, 113, 117, 111, 116, 59])
noncomputable def gA4 (c : Nat) : List Nat := (gA3 c).flatMap (r1 9 [38, 35, 120, 57, 59])
noncomputable def gA5 (c : Nat) : List Nat := (gA4 c).flatMap (r1 10 [38, 35, 120, 65, 59])
noncomputable def gA6 (c : Nat) : List Nat := (gA5 c).flatMap (r1 13 [38, 35, 120, 68, 59])
theorem aIy (c : Nat) : gA3 c = if c = 38 then [38, 97, 109, 112, 59] else if c = 60 then [38, 108, 116, 59] else if c = 34 then [38, 113, 117, 111, 116, 59] else [c] := by
 unfold gA3; rw [aHo]; unfold r1; by_cases h : c = 38 <;> by_cases h2 : c = 60 <;> simp [h, h2]
theorem aIx (c : Nat) : gA4 c = if c = 38 then [38, 97, 109, 112, 59] else if c = 60 then [38, 108, 116, 59] else if c = 34 then [38, 113, 117, 111, 116, 59] else if c = 9 then [38, 35, 120, 57, 59] else [c] := by
 unfold gA4; rw [aIy]; unfold r1; by_cases h : c = 38 <;> by_cases h2 : c = 60 <;> by_cases h3 : c = 34 <;> simp [h, h2, h3]
theorem aIw (c : Nat) : gA5 c = if c = 38 then [38, 97, 109, 112, 59] else if c = 60 then [38, 108, 116, 59] else if c = 34 then [38, 113, 117, 111, 116, 59] else if c = 9 then [38, 35, 120, 57, 59] else if c = 10 then [38, 35, 120, 65, 59] else [c] := by
 unfold gA5; rw [aIx]; unfold r1; by_cases h : c = 38 <;> by_cases h2 : c = 60 <;> by_cases h3 : c = 34 <;> by_cases h4 : c = 9 <;> simp [h, h2, h3, h4]
theorem gA6_eq (c : Nat) : gA6 c = fA c := by
 unfold gA6; rw [aIw]; unfold r1 fA; by_cases h : c = 38 <;> by_cases h2 : c = 60 <;> by_cases h3 : c = 34 <;> by_cases h4 : c = 9 <;> by_cases h5 : c = 10 <;> simp [h, h2, h3, h4, h5]
theorem aJr (c : Nat) : (gA3 c).length <= 6 := by rw [aIy]; (repeat' split) <;> simp
theorem aJq (c : Nat) : (gA4 c).length <= 6 := by rw [aIx]; (repeat' split) <;> simp
theorem aJp (c : Nat) : (gA5 c).length <= 6 := by rw [aIw]; (repeat' split) <;> simp
noncomputable def txtLine : Nat := 300000
section
variable {W : Wd} {G : Gens} {env : Env} {loc loc' : Loc} {nw nw' : Ledger} {s : Shared} {A : Around} {E : Value -> Shared -> Prop}
theorem Sta.strT {x : Str} {k : Nat} {pos : Pos} {Q : Value -> Shared -> Prop} {M : Model} (S : Sta W G env loc nw s) (h : ∀ s', Sta W G env loc nw s' -> s'.toks = s.toks + 1 -> Q (.str x s.toks) s') : wpAny M A (eval (.Constant (.str x) k pos) env) Q E s :=
 wpAny_Constant_str (h _ (S.toks _) rfl)
theorem Sta.replace_ {x z : Str} {c : Nat} {y : Str} {t u v : Tok} {Q : Value -> Shared -> Prop} (S : Sta W G env loc nw s) (hy : y = ⟨#[c]⟩) (hu : u ≠ 0) (hv : v ≠ 0) (huv : u ≠ v) (hyz : (y == z) = false) (hx : x.length <= 6 * txtLine) (hz : z.length <= 6)
  (h : ∀ t' s', Sta W G env loc nw s' -> Q (.str (mapS (r1 c z.cps.toList) x) t') s') : wpAny (model W.prog W.w) A (call (.builtin "str.replace") [.str x t, .str y u, .str z v]) Q E s := by
 subst hy
 refine SC.replace hu hv huv hyz ?_ λ t' k => ?_
 ·have h1 : (x.length + 1) * z.length <= (x.length + 1) * 6 := Nat.mul_le_mul_left _ hz
  unfold txtLine at hx
  omega
 ·rw [aGf]; exact h _ _ (S.toks k)
theorem Sta.inStr {x y : Str} {c : Nat} {t u : Tok} {Q : Value -> Shared -> Prop} (hy : y = ⟨#[c]⟩) (h1 : c ∈ x.cps.toList -> Q (.bool true) s) (h2 : c ∉ x.cps.toList -> Q (.bool false) s) : wpAny (model W.prog W.w) A (compareOp .In (.str y u) (.str x t)) Q E s := by
 subst hy
 refine PyProof.Rows.in_str ?_
 rw [StrLaws.found_one]
 by_cases h : c ∈ x.cps.toList
 ·rw [decide_eq_true h]; exact h1 h
 ·rw [decide_eq_false h]; exact h2 h
end
end Mine
end
section
namespace Mine
inductive TxtsAre : List Value -> List Str -> Prop
 | nil : TxtsAre [] []
 | cons {vs ss} (x : Str) (t : Tok) : TxtsAre vs ss -> TxtsAre (.str x t :: vs) (x :: ss)
theorem TxtsAre.snoc {vs : List Value} {ss : List Str} (h : TxtsAre vs ss) (x : Str) (t : Tok) : TxtsAre (vs ++ [.str x t]) (ss ++ [x]) := by
 induction h with
 | nil => exact .cons x t .nil
 | cons y u h ih => exact .cons y u ih
theorem TxtsAre.length {vs : List Value} {ss : List Str} (h : TxtsAre vs ss) : vs.length = ss.length := by
 induction h with
 | nil => rfl
 | cons y u h ih => rw [List.length_cons, List.length_cons, ih]
theorem TxtsAre.values {vs : List Value} {ss : List Str} (h : TxtsAre vs ss) : ∃ l : List (Str × Tok), vs = strValues l /\ l.map (·.1) = ss := by
 induction h with
 | nil => exact ⟨[], rfl, rfl⟩
 | cons x t h ih =>
  obtain ⟨l, e1, e2⟩ := ih
  exact ⟨(x, t) :: l, by rw [e1]; rfl, by rw [← e2]; rfl⟩
theorem TxtsAre.drop {vs : List Value} {ss : List Str} (h : TxtsAre vs ss) : ∀ k, TxtsAre (vs.drop k) (ss.drop k) := by
 induction h with
 | nil => intro k; rw [List.drop_nil, List.drop_nil]; exact .nil
 | cons y u h ih =>
  intro k
  cases k with
  | zero => exact .cons y u h
  | succ k => exact ih k
noncomputable def aAb (ss : List Str) : Cell := λ o => ∃ vs, TxtsAre vs ss /\ aAa vs o
noncomputable def cat : List Str -> Str
 | [] => Str.empty
 | x :: r => x ++ cat r
theorem aAR : ∀ a b : List Str, cat (a ++ b) = cat a ++ cat b
 | [], b => (Str.empty_append _).symm
 | x :: r, b => by
  show x ++ cat (r ++ b) = x ++ cat r ++ cat b
  rw [aAR r b, Str.append_assoc]
theorem aEg : ∀ l : List Str, Txt.join Str.empty l = cat l
 | [] => rfl
 | [x] => by
  show x = x ++ Str.empty
  rw [Str.append_empty]
 | x :: y :: r => by
  have ih := aEg (y :: r)
  unfold Txt.join at ih ⊢
  rw [StrLaws.glued_eq_join] at ih ⊢
  show x ++ Str.empty ++ Str.join Str.empty (y :: r) = x ++ cat (y :: r)
  rw [ih, Str.append_empty]
theorem aEf : ∀ l : List Str, (cat l).length = (l.map (·.length)).sum
 | [] => rfl
 | x :: r => by
  show (x ++ cat r).length = _
  rw [Str.length_append, aEf r]; simp
theorem aDG {l : List Str} (h : (cat l).length <= 16777216) : JoinOk Str.empty l = true := by
 unfold JoinOk
 rw [StrLaws.joinTotal, ← aEf]
 have e : Str.empty.length = 0 := rfl
 rw [e, Nat.mul_zero, Nat.add_zero]
 have hh : Builtin.Str.tooLong (cat l).length = false := by
  unfold Builtin.Str.tooLong sizeLine
  exact decide_eq_false (by omega)
 rw [hh]; rfl
theorem Upd.via2 {a : Addr} {c c' : Cell} {l l' : Ledger} (h : Upd a c c' l l') : ∀ c1, ∃ l1, Upd a c c1 l l1 /\ Upd a c1 c' l1 l' := by
 induction h with
 | head => exact λ c1 => ⟨_, .head, .head⟩
 | tail h ih =>
  intro c1
  obtain ⟨l1, h1, h2⟩ := ih c1
  exact ⟨_, .tail h1, .tail h2⟩
section
variable {W : Wd} {G : Gens} {env : Env} {loc loc' : Loc} {nw nw' : Ledger} {s : Shared} {A : Around} {E : Value -> Shared -> Prop}
theorem Sta.tell {a : Addr} {c c' : Cell} (S : Sta W G env loc nw s) (U : Upd a c c' nw nw') (h : ∀ o, s.heap.get? a = some o -> c o -> c' o) : Sta W G env loc nw' s := by
 obtain ⟨o, ho, hc⟩ := S.get U.mem
 exact S.set U (λ b o _ e => e) ho (h o ho hc) s.toks
theorem Sta.openT {a : Addr} {ss : List Str} {c' : Cell} (S : Sta W G env loc nw s) (U : Upd a (aAb ss) c' nw nw') : ∃ vs nw1, TxtsAre vs ss /\ Upd a (aAb ss) (aAa vs) nw nw1 /\ Upd a (aAa vs) c' nw1 nw' /\ Sta W G env loc nw1 s := by
 obtain ⟨o, ho, vs, ht, hl⟩ := S.get U.mem
 obtain ⟨nw1, U1, U2⟩ := U.via2 (aAa vs)
 exact ⟨vs, nw1, ht, U1, U2, S.tell U1 λ o' ho' _ => by rw [ho] at ho'; cases ho'; exact hl⟩
theorem Sta.txts {a : Addr} {ss : List Str} (S : Sta W G env loc nw s) (m : (a, aAb ss) ∈ nw) : ∃ vs, TxtsAre vs ss /\ s.heap.IsList a vs.toArray := by
 obtain ⟨o, ho, vs, ht, n, rfl⟩ := S.get m
 exact ⟨vs, ht, _, ho, rfl, n, rfl⟩
theorem Sta.appendT {a : Addr} {ss : List Str} {x : Str} {t : Tok} {Q : Value -> Shared -> Prop} (S : Sta W G env loc nw s) (U : Upd a (aAb ss) (aAb (ss ++ [x])) nw nw') (hz : ss.length <= sizeLine) (h : ∀ s', Sta W G env loc nw' s' -> Q .none s') :
  wpAny (model W.prog W.w) A (call (.builtin "list.append") [.ref a, .str x t]) Q E s := by
 obtain ⟨vs, nw1, ht, U1, U2, S1⟩ := S.openT U
 obtain ⟨nw2, U3, U4⟩ := U2.via2 (aAa (vs ++ [.str x t]))
 exact S1.append U3 (by rw [ht.length]; exact hz) λ s' S2 => h _ (S2.tell U4 λ o _ ho => ⟨_, ht.snoc x t, ho⟩)
theorem Sta.joinT {a : Addr} {ss : List Str} {x : Str} {t : Tok} {Q : Value -> Shared -> Prop} (S : Sta W G env loc nw s) (m : (a, aAb ss) ∈ nw) (hx : x = Str.empty) (hz : (cat ss).length <= 16777216) (h : ∀ t' s', Sta W G env loc nw s' -> Q (.str (cat ss) t') s') :
  wpAny (model W.prog W.w) A (call (.builtin "str.join") [.str x t, .ref a]) Q E s := by
 subst hx
 obtain ⟨vs, ht, hl⟩ := S.txts m
 obtain ⟨l, e1, e2⟩ := ht.values
 rw [e1] at hl
 refine SC.join hl e2 (aDG hz) λ t' k => ?_
 rw [aEg]; exact h _ _ (S.toks k)
theorem aDP {p : Addr} {id : String} {self : Value} {pos : List Value} {R : Result -> Shared -> Prop} {b : Builtin} (hq : plainId id = true) (hb : entryFor table id = some b) (ho : s.heap.get? p = some { cls := .type "builtin_function_or_method", data := .fields #[.builtin id, self] })
  (hc : ∀ (A' : Around) (Q' : Unit -> Shared -> Prop) (E' : Value -> Shared -> Prop), Q' () s -> wpAny (model W.prog W.w) A' (checkBoundCall id ⟨self :: pos, []⟩) Q' E' s)
  (h : wpAny (model W.prog W.w) A.in1 (b ⟨self :: pos, []⟩)
   (λ fin s' => match fin with | .done f => R (.ok f) s' | .again c' => c'.quiet = true /\ codeAny (model W.prog W.w) A c' R s') (λ e s' => R (.error e) s') s) :
  codeAny (model W.prog W.w) A (.call (.ref p) ⟨pos, []⟩) R s := by
 obtain ⟨hh, g, dr, t, os⟩ := s
 refine codeAny_of_tree ?_
 dsimp only at ho
 refine nd_load ho ?_
 show wpAny _ _ (checkBoundCall id ⟨self :: pos, []⟩ >>= λ _ => again (Code.builtin id ⟨self :: pos, []⟩)) _ _ _
 refine wpAny_bind (hc _ _ _ ?_)
 refine wpAny_pure ⟨plainId_quiet hq _, codeAny_builtin hb ?_⟩
 rw [Around.under_plainId hq]
 exact h
theorem aET {a : Addr} {v : Value} {h : Heap} {g : Array GenState} {d : Drawn} {t : Nat} {os : OsState} {xs : List Value} {n : Nat} (hx : h.get? a = some { cls := .type "list", data := .seq xs.toArray n }) (A' : Around) (Q' : Unit -> Shared -> Prop) (E' : Value -> Shared -> Prop) (hq : Q' () ⟨h, g, d, t, os⟩) : wpAny (model W.prog W.w) A' (checkBoundCall "list.append" ⟨[.ref a, v], []⟩) Q' E' ⟨h, g, d, t, os⟩ := by
 have hT : (⟨h, g, d, t, os⟩ : Shared).TypeIs (.ref a) "list" := ⟨_, hx, rfl⟩
 have f1 : Manifest.signature? "list.append" = some ⟨.oneArg, "list.append", "append", .self, [⟨"object", .posOnly, true⟩]⟩ := by kernel_rfl
 have f2 : builtinKind "list.append" = some .method := by kernel_rfl
 have f3 : isSubtype (.type "list") (.type "module") = pure false := by rw [isSubtype_type]; kernel_rfl
 have f4 : Manifest.varargsMethods.contains "list.append" = false := by decide +kernel
 unfold checkBoundCall
 refine wpAny_bind (wpAny_isInstance hT f3 ?_)
 refine wpAny_bind ?_
 unfold isType
 repeat lk
 exact hq
end
end Mine
end
section
namespace Mine
noncomputable def VV (a1 a2 a3 a4 a5 a6 a7 a8 a9 a10 a11 a12 a13 a14 a15 a16 a17 : Value) : Loc := [("_write", some a1), ("_data", some a2), ("_with_comments", some a3), ("_strip_text", some a4), ("_exclude_attrs", some a5), ("_exclude_tags", some a6), ("_rewrite_prefixes", some a7), ("_qname_aware_tags", some a8), ("_find_qname_aware_attrs", some a9), ("_declared_ns_stack", some a10), ("_ns_stack", some a11), ("_prefix_map", some a12), ("_preserve_space", some a13), ("_pending_start", some a14), ("_root_seen", some a15), ("_root_done", some a16), ("_ignored_depth", some a17)]
theorem VV.keys {a1 a2 a3 a4 a5 a6 a7 a8 a9 a10 a11 a12 a13 a14 a15 a16 a17 : Value} : (VV a1 a2 a3 a4 a5 a6 a7 a8 a9 a10 a11 a12 a13 a14 a15 a16 a17).map Prod.fst = selfNames := rfl
theorem aJf {a1 a2 a3 a4 a5 a6 a7 a8 a9 a10 a11 a12 a13 a14 a15 a16 a17 : Value} : (("_write" : Str), some a1) ∈ VV a1 a2 a3 a4 a5 a6 a7 a8 a9 a10 a11 a12 a13 a14 a15 a16 a17 := (.head _)
theorem m_data {a1 a2 a3 a4 a5 a6 a7 a8 a9 a10 a11 a12 a13 a14 a15 a16 a17 : Value} : (("_data" : Str), some a2) ∈ VV a1 a2 a3 a4 a5 a6 a7 a8 a9 a10 a11 a12 a13 a14 a15 a16 a17 := (.tail _ (.head _))
theorem aC8 {a1 a2 a3 a4 a5 a6 a7 a8 a9 a10 a11 a12 a13 a14 a15 a16 a17 : Value} : (("_with_comments" : Str), some a3) ∈ VV a1 a2 a3 a4 a5 a6 a7 a8 a9 a10 a11 a12 a13 a14 a15 a16 a17 := (.tail _ (.tail _ (.head _)))
theorem aEE {a1 a2 a3 a4 a5 a6 a7 a8 a9 a10 a11 a12 a13 a14 a15 a16 a17 : Value} : (("_strip_text" : Str), some a4) ∈ VV a1 a2 a3 a4 a5 a6 a7 a8 a9 a10 a11 a12 a13 a14 a15 a16 a17 := (.tail _ (.tail _ (.tail _ (.head _))))
theorem aDb {a1 a2 a3 a4 a5 a6 a7 a8 a9 a10 a11 a12 a13 a14 a15 a16 a17 : Value} : (("_exclude_attrs" : Str), some a5) ∈ VV a1 a2 a3 a4 a5 a6 a7 a8 a9 a10 a11 a12 a13 a14 a15 a16 a17 := (.tail _ (.tail _ (.tail _ (.tail _ (.head _)))))
theorem aDp {a1 a2 a3 a4 a5 a6 a7 a8 a9 a10 a11 a12 a13 a14 a15 a16 a17 : Value} : (("_exclude_tags" : Str), some a6) ∈ VV a1 a2 a3 a4 a5 a6 a7 a8 a9 a10 a11 a12 a13 a14 a15 a16 a17 := (.tail _ (.tail _ (.tail _ (.tail _ (.tail _ (.head _))))))
theorem aCg {a1 a2 a3 a4 a5 a6 a7 a8 a9 a10 a11 a12 a13 a14 a15 a16 a17 : Value} : (("_rewrite_prefixes" : Str), some a7) ∈ VV a1 a2 a3 a4 a5 a6 a7 a8 a9 a10 a11 a12 a13 a14 a15 a16 a17 := (.tail _ (.tail _ (.tail _ (.tail _ (.tail _ (.tail _ (.head _)))))))
theorem aCh {a1 a2 a3 a4 a5 a6 a7 a8 a9 a10 a11 a12 a13 a14 a15 a16 a17 : Value} : (("_qname_aware_tags" : Str), some a8) ∈ VV a1 a2 a3 a4 a5 a6 a7 a8 a9 a10 a11 a12 a13 a14 a15 a16 a17 := (.tail _ (.tail _ (.tail _ (.tail _ (.tail _ (.tail _ (.tail _ (.head _))))))))
theorem aBy {a1 a2 a3 a4 a5 a6 a7 a8 a9 a10 a11 a12 a13 a14 a15 a16 a17 : Value} : (("_find_qname_aware_attrs" : Str), some a9) ∈ VV a1 a2 a3 a4 a5 a6 a7 a8 a9 a10 a11 a12 a13 a14 a15 a16 a17 := (.tail _ (.tail _ (.tail _ (.tail _ (.tail _ (.tail _ (.tail _ (.tail _ (.head _)))))))))
theorem aB1 {a1 a2 a3 a4 a5 a6 a7 a8 a9 a10 a11 a12 a13 a14 a15 a16 a17 : Value} : (("_declared_ns_stack" : Str), some a10) ∈ VV a1 a2 a3 a4 a5 a6 a7 a8 a9 a10 a11 a12 a13 a14 a15 a16 a17 := (.tail _ (.tail _ (.tail _ (.tail _ (.tail _ (.tail _ (.tail _ (.tail _ (.tail _ (.head _))))))))))
theorem aGl {a1 a2 a3 a4 a5 a6 a7 a8 a9 a10 a11 a12 a13 a14 a15 a16 a17 : Value} : (("_ns_stack" : Str), some a11) ∈ VV a1 a2 a3 a4 a5 a6 a7 a8 a9 a10 a11 a12 a13 a14 a15 a16 a17 := (.tail _ (.tail _ (.tail _ (.tail _ (.tail _ (.tail _ (.tail _ (.tail _ (.tail _ (.tail _ (.head _)))))))))))
theorem aEF {a1 a2 a3 a4 a5 a6 a7 a8 a9 a10 a11 a12 a13 a14 a15 a16 a17 : Value} : (("_prefix_map" : Str), some a12) ∈ VV a1 a2 a3 a4 a5 a6 a7 a8 a9 a10 a11 a12 a13 a14 a15 a16 a17 := (.tail _ (.tail _ (.tail _ (.tail _ (.tail _ (.tail _ (.tail _ (.tail _ (.tail _ (.tail _ (.tail _ (.head _))))))))))))
theorem aCP {a1 a2 a3 a4 a5 a6 a7 a8 a9 a10 a11 a12 a13 a14 a15 a16 a17 : Value} : (("_preserve_space" : Str), some a13) ∈ VV a1 a2 a3 a4 a5 a6 a7 a8 a9 a10 a11 a12 a13 a14 a15 a16 a17 := (.tail _ (.tail _ (.tail _ (.tail _ (.tail _ (.tail _ (.tail _ (.tail _ (.tail _ (.tail _ (.tail _ (.tail _ (.head _)))))))))))))
theorem aC9 {a1 a2 a3 a4 a5 a6 a7 a8 a9 a10 a11 a12 a13 a14 a15 a16 a17 : Value} : (("_pending_start" : Str), some a14) ∈ VV a1 a2 a3 a4 a5 a6 a7 a8 a9 a10 a11 a12 a13 a14 a15 a16 a17 := (.tail _ (.tail _ (.tail _ (.tail _ (.tail _ (.tail _ (.tail _ (.tail _ (.tail _ (.tail _ (.tail _ (.tail _ (.tail _ (.head _))))))))))))))
theorem aFi {a1 a2 a3 a4 a5 a6 a7 a8 a9 a10 a11 a12 a13 a14 a15 a16 a17 : Value} : (("_root_seen" : Str), some a15) ∈ VV a1 a2 a3 a4 a5 a6 a7 a8 a9 a10 a11 a12 a13 a14 a15 a16 a17 := (.tail _ (.tail _ (.tail _ (.tail _ (.tail _ (.tail _ (.tail _ (.tail _ (.tail _ (.tail _ (.tail _ (.tail _ (.tail _ (.tail _ (.head _)))))))))))))))
theorem aFj {a1 a2 a3 a4 a5 a6 a7 a8 a9 a10 a11 a12 a13 a14 a15 a16 a17 : Value} : (("_root_done" : Str), some a16) ∈ VV a1 a2 a3 a4 a5 a6 a7 a8 a9 a10 a11 a12 a13 a14 a15 a16 a17 := (.tail _ (.tail _ (.tail _ (.tail _ (.tail _ (.tail _ (.tail _ (.tail _ (.tail _ (.tail _ (.tail _ (.tail _ (.tail _ (.tail _ (.tail _ (.head _))))))))))))))))
theorem aDa {a1 a2 a3 a4 a5 a6 a7 a8 a9 a10 a11 a12 a13 a14 a15 a16 a17 : Value} : (("_ignored_depth" : Str), some a17) ∈ VV a1 a2 a3 a4 a5 a6 a7 a8 a9 a10 a11 a12 a13 a14 a15 a16 a17 := (.tail _ (.tail _ (.tail _ (.tail _ (.tail _ (.tail _ (.tail _ (.tail _ (.tail _ (.tail _ (.tail _ (.tail _ (.tail _ (.tail _ (.tail _ (.tail _ (.head _)))))))))))))))))
theorem aI5 {a1 a2 a3 a4 a5 a6 a7 a8 a9 a10 a11 a12 a13 a14 a15 a16 a17 v : Value} : Put "_write" (some v) (VV a1 a2 a3 a4 a5 a6 a7 a8 a9 a10 a11 a12 a13 a14 a15 a16 a17) (VV v a2 a3 a4 a5 a6 a7 a8 a9 a10 a11 a12 a13 a14 a15 a16 a17) := .head
theorem p_data {a1 a2 a3 a4 a5 a6 a7 a8 a9 a10 a11 a12 a13 a14 a15 a16 a17 v : Value} : Put "_data" (some v) (VV a1 a2 a3 a4 a5 a6 a7 a8 a9 a10 a11 a12 a13 a14 a15 a16 a17) (VV a1 v a3 a4 a5 a6 a7 a8 a9 a10 a11 a12 a13 a14 a15 a16 a17) := (.tail .head)
theorem aC2 {a1 a2 a3 a4 a5 a6 a7 a8 a9 a10 a11 a12 a13 a14 a15 a16 a17 v : Value} : Put "_with_comments" (some v) (VV a1 a2 a3 a4 a5 a6 a7 a8 a9 a10 a11 a12 a13 a14 a15 a16 a17) (VV a1 a2 v a4 a5 a6 a7 a8 a9 a10 a11 a12 a13 a14 a15 a16 a17) := (.tail (.tail .head))
theorem aEA {a1 a2 a3 a4 a5 a6 a7 a8 a9 a10 a11 a12 a13 a14 a15 a16 a17 v : Value} : Put "_strip_text" (some v) (VV a1 a2 a3 a4 a5 a6 a7 a8 a9 a10 a11 a12 a13 a14 a15 a16 a17) (VV a1 a2 a3 v a5 a6 a7 a8 a9 a10 a11 a12 a13 a14 a15 a16 a17) := (.tail (.tail (.tail .head)))
theorem aC5 {a1 a2 a3 a4 a5 a6 a7 a8 a9 a10 a11 a12 a13 a14 a15 a16 a17 v : Value} : Put "_exclude_attrs" (some v) (VV a1 a2 a3 a4 a5 a6 a7 a8 a9 a10 a11 a12 a13 a14 a15 a16 a17) (VV a1 a2 a3 a4 v a6 a7 a8 a9 a10 a11 a12 a13 a14 a15 a16 a17) := (.tail (.tail (.tail (.tail .head))))
theorem aDo {a1 a2 a3 a4 a5 a6 a7 a8 a9 a10 a11 a12 a13 a14 a15 a16 a17 v : Value} : Put "_exclude_tags" (some v) (VV a1 a2 a3 a4 a5 a6 a7 a8 a9 a10 a11 a12 a13 a14 a15 a16 a17) (VV a1 a2 a3 a4 a5 v a7 a8 a9 a10 a11 a12 a13 a14 a15 a16 a17) := (.tail (.tail (.tail (.tail (.tail .head)))))
theorem aCe {a1 a2 a3 a4 a5 a6 a7 a8 a9 a10 a11 a12 a13 a14 a15 a16 a17 v : Value} : Put "_rewrite_prefixes" (some v) (VV a1 a2 a3 a4 a5 a6 a7 a8 a9 a10 a11 a12 a13 a14 a15 a16 a17) (VV a1 a2 a3 a4 a5 a6 v a8 a9 a10 a11 a12 a13 a14 a15 a16 a17) := (.tail (.tail (.tail (.tail (.tail (.tail .head))))))
theorem aCf {a1 a2 a3 a4 a5 a6 a7 a8 a9 a10 a11 a12 a13 a14 a15 a16 a17 v : Value} : Put "_qname_aware_tags" (some v) (VV a1 a2 a3 a4 a5 a6 a7 a8 a9 a10 a11 a12 a13 a14 a15 a16 a17) (VV a1 a2 a3 a4 a5 a6 a7 v a9 a10 a11 a12 a13 a14 a15 a16 a17) := (.tail (.tail (.tail (.tail (.tail (.tail (.tail .head)))))))
theorem aBw {a1 a2 a3 a4 a5 a6 a7 a8 a9 a10 a11 a12 a13 a14 a15 a16 a17 v : Value} : Put "_find_qname_aware_attrs" (some v) (VV a1 a2 a3 a4 a5 a6 a7 a8 a9 a10 a11 a12 a13 a14 a15 a16 a17) (VV a1 a2 a3 a4 a5 a6 a7 a8 v a10 a11 a12 a13 a14 a15 a16 a17) := (.tail (.tail (.tail (.tail (.tail (.tail (.tail (.tail .head))))))))
theorem aBZ {a1 a2 a3 a4 a5 a6 a7 a8 a9 a10 a11 a12 a13 a14 a15 a16 a17 v : Value} : Put "_declared_ns_stack" (some v) (VV a1 a2 a3 a4 a5 a6 a7 a8 a9 a10 a11 a12 a13 a14 a15 a16 a17) (VV a1 a2 a3 a4 a5 a6 a7 a8 a9 v a11 a12 a13 a14 a15 a16 a17) := (.tail (.tail (.tail (.tail (.tail (.tail (.tail (.tail (.tail .head)))))))))
theorem aGi {a1 a2 a3 a4 a5 a6 a7 a8 a9 a10 a11 a12 a13 a14 a15 a16 a17 v : Value} : Put "_ns_stack" (some v) (VV a1 a2 a3 a4 a5 a6 a7 a8 a9 a10 a11 a12 a13 a14 a15 a16 a17) (VV a1 a2 a3 a4 a5 a6 a7 a8 a9 a10 v a12 a13 a14 a15 a16 a17) := (.tail (.tail (.tail (.tail (.tail (.tail (.tail (.tail (.tail (.tail .head))))))))))
theorem aEB {a1 a2 a3 a4 a5 a6 a7 a8 a9 a10 a11 a12 a13 a14 a15 a16 a17 v : Value} : Put "_prefix_map" (some v) (VV a1 a2 a3 a4 a5 a6 a7 a8 a9 a10 a11 a12 a13 a14 a15 a16 a17) (VV a1 a2 a3 a4 a5 a6 a7 a8 a9 a10 a11 v a13 a14 a15 a16 a17) := (.tail (.tail (.tail (.tail (.tail (.tail (.tail (.tail (.tail (.tail (.tail .head)))))))))))
theorem aCO {a1 a2 a3 a4 a5 a6 a7 a8 a9 a10 a11 a12 a13 a14 a15 a16 a17 v : Value} : Put "_preserve_space" (some v) (VV a1 a2 a3 a4 a5 a6 a7 a8 a9 a10 a11 a12 a13 a14 a15 a16 a17) (VV a1 a2 a3 a4 a5 a6 a7 a8 a9 a10 a11 a12 v a14 a15 a16 a17) := (.tail (.tail (.tail (.tail (.tail (.tail (.tail (.tail (.tail (.tail (.tail (.tail .head))))))))))))
theorem aC3 {a1 a2 a3 a4 a5 a6 a7 a8 a9 a10 a11 a12 a13 a14 a15 a16 a17 v : Value} : Put "_pending_start" (some v) (VV a1 a2 a3 a4 a5 a6 a7 a8 a9 a10 a11 a12 a13 a14 a15 a16 a17) (VV a1 a2 a3 a4 a5 a6 a7 a8 a9 a10 a11 a12 a13 v a15 a16 a17) := (.tail (.tail (.tail (.tail (.tail (.tail (.tail (.tail (.tail (.tail (.tail (.tail (.tail .head)))))))))))))
theorem aFd {a1 a2 a3 a4 a5 a6 a7 a8 a9 a10 a11 a12 a13 a14 a15 a16 a17 v : Value} : Put "_root_seen" (some v) (VV a1 a2 a3 a4 a5 a6 a7 a8 a9 a10 a11 a12 a13 a14 a15 a16 a17) (VV a1 a2 a3 a4 a5 a6 a7 a8 a9 a10 a11 a12 a13 a14 v a16 a17) := (.tail (.tail (.tail (.tail (.tail (.tail (.tail (.tail (.tail (.tail (.tail (.tail (.tail (.tail .head))))))))))))))
theorem aFe {a1 a2 a3 a4 a5 a6 a7 a8 a9 a10 a11 a12 a13 a14 a15 a16 a17 v : Value} : Put "_root_done" (some v) (VV a1 a2 a3 a4 a5 a6 a7 a8 a9 a10 a11 a12 a13 a14 a15 a16 a17) (VV a1 a2 a3 a4 a5 a6 a7 a8 a9 a10 a11 a12 a13 a14 a15 v a17) := (.tail (.tail (.tail (.tail (.tail (.tail (.tail (.tail (.tail (.tail (.tail (.tail (.tail (.tail (.tail .head)))))))))))))))
theorem aC4 {a1 a2 a3 a4 a5 a6 a7 a8 a9 a10 a11 a12 a13 a14 a15 a16 a17 v : Value} : Put "_ignored_depth" (some v) (VV a1 a2 a3 a4 a5 a6 a7 a8 a9 a10 a11 a12 a13 a14 a15 a16 a17) (VV a1 a2 a3 a4 a5 a6 a7 a8 a9 a10 a11 a12 a13 a14 a15 a16 v) := (.tail (.tail (.tail (.tail (.tail (.tail (.tail (.tail (.tail (.tail (.tail (.tail (.tail (.tail (.tail (.tail .head))))))))))))))))
inductive Mid (L L' : Ledger) : Ledger -> Ledger -> Prop
 | head {N} : Mid L L' (L ++ N) (L' ++ N)
 | tail {p r r'} : Mid L L' r r' -> Mid L L' (p :: r) (p :: r')
 | app {P r r'} : Mid L L' r r' -> Mid L L' (P ++ r) (P ++ r')
theorem Mid.perm {L L' nw nw' : Ledger} (h : Mid L L' nw nw') : ∃ N, nw.Perm (L ++ N) /\ nw'.Perm (L' ++ N) := by
 induction h with
 | @head N => exact ⟨N, .refl _, .refl _⟩
 | @tail p r r' h ih =>
  obtain ⟨N, h1, h2⟩ := ih
  exact ⟨p :: N, (List.Perm.cons _ h1).trans List.perm_middle.symm, (List.Perm.cons _ h2).trans List.perm_middle.symm⟩
 | @app P r r' h ih =>
  obtain ⟨N, h1, h2⟩ := ih
  have e : ∀ L : Ledger, List.Perm (P ++ (L ++ N)) (L ++ (P ++ N)) := λ L => by
   rw [← List.append_assoc, ← List.append_assoc]
   exact List.Perm.append_right _ List.perm_append_comm
  exact ⟨P ++ N, (List.Perm.append_left P h1).trans (e _), (List.Perm.append_left P h2).trans (e _)⟩
structure Sink (W : Wd) where
 σ : Type
 q : Addr
 L : σ -> Ledger
 push : σ -> Str -> σ
 room : σ -> Nat -> Prop
 less : ∀ {st : σ} {n : Nat}, room st (n + 1) -> room st n
 step : ∀ {st : σ} {n : Nat} (x : Str), room st (n + 1) -> room (push st x) n
 call : ∀ {G : Gens} {env : Env} {loc : Loc} {N : Ledger} {s : Shared} {A : Around} {E : Value -> Shared -> Prop} {x : Str} {t : Tok} {st : σ} {Q : Value -> Shared -> Prop}, Aok 3 A -> room st 1 -> Sta W G env loc (L st ++ N) s ->
  (∀ s', Sta W G env loc (L (push st x) ++ N) s' -> Q .none s') -> wpAny (model W.prog W.w) A (PySem.call (.ref q) [.str x t]) Q E s
 keep : ∀ {N : Ledger} {h : Heap} {st : σ}, W.K.In h -> Led W.B (L st ++ N) h -> ∃ k, (k = Keeper.frame \/ k = Keeper.machine \/ k = Keeper.boundFrame) /\ Looks (model W.prog W.w) h (keeperOf (.ref q)) k
noncomputable def Sink.pushes {W : Wd} (K : Sink W) (st : K.σ) (xs : List Str) : K.σ := xs.foldl K.push st
theorem Sink.pushes_append {W : Wd} (K : Sink W) (st : K.σ) (a b : List Str) : K.pushes st (a ++ b) = K.pushes (K.pushes st a) b := List.foldl_append
section
variable {W : Wd} {G : Gens} {env : Env} {loc loc' : Loc} {nw nw' : Ledger} {s : Shared} {A : Around} {E : Value -> Shared -> Prop} {C x dx : Addr} {vals vals' : Loc}
theorem Sta.getF {name : Str} {v : Value} {expr : Bool} {Q : Value -> Shared -> Prop} (S : Sta W G env loc nw s) (c : Cl W.K C selfNames) (mx : (x, aAu C dx) ∈ nw) (md : (dx, aAl vals) ∈ nw) (hk : vals.map Prod.fst = selfNames) (hv : (name, some v) ∈ vals) (hh : handedIn v = true)
  (h : ∀ s', Sta W G env loc nw s' -> Q v s') : wpAny (model W.prog W.w) A (getAttr (.ref x) name expr) Q E s := S.getattr c mx md hk hv hh h
theorem Sta.getM_val {name : Str} {v : Value} {Q : Value × List Value -> Shared -> Prop} (S : Sta W G env loc nw s) (c : Cl W.K C selfNames) (mx : (x, aAu C dx) ∈ nw) (md : (dx, aAl vals) ∈ nw) (hk : vals.map Prod.fst = selfNames) (hv : (name, some v) ∈ vals) (hh : handedIn v = true)
  (h : ∀ s', Sta W G env loc nw s' -> Q (v, []) s') : GetM (model W.prog W.w) A E name (.ref x) Q s := λ pl => by
 obtain ⟨od, I, nd, _, es, ep, hd, hsk, hl, _⟩ := S.inst mx md
 have hn : findIn W.K (.ref C) name = some none := c.own _ (by rw [← hk]; exact List.mem_map.mpr ⟨_, hv, rfl⟩)
 exact method_usual S.kin I c.ga c.gh hn rfl (S.getattr c mx md hk hv hh h)
theorem Sta.sink {K : Sink W} {st : K.σ} {y : Str} {t : Tok} {Q : Value -> Shared -> Prop} (S : Sta W G env loc nw s) (hA : Aok 3 A) (hr : K.room st 1) (M : Mid (K.L st) (K.L (K.push st y)) nw nw') (h : ∀ s', Sta W G env loc nw' s' -> Q .none s') :
  wpAny (model W.prog W.w) A (call (.ref K.q) [.str y t]) Q E s := by
 obtain ⟨N, h1, h2⟩ := M.perm
 exact K.call hA hr (S.perm h1) λ s' S' => h _ (S'.perm h2.symm)
theorem aJL {K : Sink W} {pos : Pos} {e : Expr} {rest : List Expr} {Q : Value -> Shared -> Prop}
  (h : wpAny (model W.prog W.w) A (spliced (backTo pos (starEach (e :: rest) env))) (λ vs s₁ => (∃ N st, W.K.In s₁.heap /\ Led W.B (K.L st ++ N) s₁.heap) /\ wpAny (model W.prog W.w) A (call (.ref K.q) vs) Q E s₁) E s)
  (he : starEach (e :: rest) env = (false, eval e env) :: starEach rest env) (hplain : (backTo pos (starEach rest env)).any (·.1) = false) :
  wpAny (model W.prog W.w) A (callWith pos (.ref K.q) [] (backTo pos (starEach (e :: rest) env)) (backToKw pos (keywordEach [] env))) Q E s := by
 rw [he] at h ⊢
 refine callWith_of (P := λ h => ∃ N st, W.K.In h /\ Led W.B (K.L st ++ N) h) (first := []) (by show (false || (backTo pos (starEach rest env)).any (·.1) || false) = false; rw [hplain]; rfl) (λ h X => ?_) (Calls.evalArgs_plain h)
 obtain ⟨N, st, X, D⟩ := X
 exact K.keep X D
theorem Sta.sinkLed {K : Sink W} {st : K.σ} {L' : Ledger} (S : Sta W G env loc nw s) (M : Mid (K.L st) L' nw nw') : ∃ N st, W.K.In s.heap /\ Led W.B (K.L st ++ N) s.heap := by
 obtain ⟨N, h1, _⟩ := M.perm
 exact ⟨N, st, S.kin, (S.perm h1).led.tail⟩
theorem aDd {M : Model} {h : Heap} {q : Addr} {id : String} {self : Value} (ho : h.get? q = some { cls := .type "builtin_function_or_method", data := .fields #[.builtin id, self] }) : Looks M h (keeperOf (.ref q)) .machine :=
 (Looks.ld (part := none) ho).andThen .now
end
noncomputable def aBe (W : Wd) (q out : Addr) : Sink W where
 σ := List Str
 q := q
 L := λ ss => [(q, aAY "list.append" (.ref out)), (out, aAb ss)]
 push := λ ss x => ss ++ [x]
 room := λ ss n => ss.length + n <= 16000000
 less := λ h => by omega
 step := λ x h => by rw [List.length_append, List.length_singleton]; omega
 call := by
  intro G env loc N s A E x t st Q hA hr S h
  obtain ⟨o, ho, rfl⟩ := S.get (.head _)
  have U : Upd out (aAb st) (aAb (st ++ [x])) ([(q, aAY "list.append" (.ref out)), (out, aAb st)] ++ N) ([(q, aAY "list.append" (.ref out)), (out, aAb (st ++ [x]))] ++ N) := .tail .head
  obtain ⟨vs, nw1, ht, U1, U2, S1⟩ := S.openT U
  obtain ⟨nw2, U3, U4⟩ := U2.via2 (aAa (vs ++ [.str x t]))
  obtain ⟨n, hl⟩ := S1.isL U3.mem
  have hz : vs.length <= sizeLine := by rw [ht.length, sizeLine_eq]; omega
  refine wpAny_call (aDP (W := W) F.slot_list_append.plain F.entry_list_append ho (λ A' Q' E' hq => aET hl A' Q' E' hq) ?_)
  refine list_append out vs.toArray n (.str x t) (by simpa using hz) W.prog W.w A (wants Q E) s ⟨hl, ?_⟩
  exact h _ ((S1.setL hl _ (by simp) U3 _).tell U4 λ o _ ho => ⟨_, ht.snoc x t, ho⟩)
 keep := by
  intro N h st X D
  obtain ⟨o, ho, rfl⟩ := D.get (.head _)
  exact ⟨.machine, .inr (.inl rfl), aDd ho⟩
end Mine
end
section
namespace Mine
theorem aGv {prog : Program} {w : World} {A : Around} {E : Value -> Shared -> Prop} {h : Heap} {g : Array GenState} {d : Drawn} {t : Nat} {os : OsState} {a sl : Addr} {xs : List Value} {n : Nat} {Q : Fin -> Shared -> Prop}
  (hx : h.get? a = some { cls := .type "list", data := .seq xs.toArray n }) (hs : h.get? sl = some { cls := .type "slice", data := .fields #[.none, .none, .none] }) (hz : xs.length <= sizeLine)
  (hq : ∀ f : Array Value -> Array Value, f xs.toArray = #[] -> Q (.done (.ret .none)) ⟨h.update a (Obj.mapSeq f), g, d, t, os⟩) :
  wpAny (model prog w) A (Builtin.«list.__delitem__» ⟨[.ref a, .ref sl], []⟩) Q E ⟨h, g, d, t, os⟩ := by
 unfold Builtin.«list.__delitem__»
 repeat lk
 refine wpAny_update hx ?_
 have hf : ∀ (sel : Nat -> Bool), (∀ k, k < xs.length -> sel k = true) -> (λ ys : Array Value => (ys.toList.zipIdx.filterMap λ x => if sel x.2 = true then none else some x.1).toArray) xs.toArray = #[] := by
  intro sel h
  show (xs.zipIdx.filterMap λ x => if sel x.2 = true then none else some x.1).toArray = #[]
  rw [List.filterMap_eq_nil_iff.mpr]
  intro x hx
  have := (List.mem_zipIdx hx).2.1
  rw [if_pos (h _ (by omega))]
 have hs1 : ∀ k, k < xs.length -> (if (1 : Int) > 0 then decide ((if (1 : Int) > 0 then 0 else (xs.toArray.size : Int) - 1) <= (k : Int)) && decide ((k : Int) < (if (1 : Int) > 0 then (xs.toArray.size : Int) else -1)) && (((k : Int) - (if (1 : Int) > 0 then 0 else (xs.toArray.size : Int) - 1)) % 1 == 0)
   else false) = true := by
  intro k hk
  simp
  omega
 have e := hf _ hs1
 refine wpAny_lookBehind (IsL.update hx _) ?_ ?_
 ·refine pastItsLine_seq ?_
  refine Nat.le_trans (List.length_filterMap_le _ _) ?_
  rw [List.length_zipIdx]
  show xs.length <= sizeLine + 1
  omega
 refine wpAny_bind (wpAny_letGo ?_)
 refine wpAny_pure ?_
 exact hq _ e
section
variable {W : Wd} {G : Gens} {env : Env} {loc loc' : Loc} {nw nw' : Ledger} {s : Shared} {A : Around} {E : Value -> Shared -> Prop}
noncomputable def DelK (W : Wd) (env : Env) (Q : Unit -> Shared -> Prop) (o : Value) (s : Shared) : Prop :=
 ∃ G loc nw nw' l ss, Sta W G env loc nw s /\ o = .ref l /\ Upd l (aAb ss) (aAb []) nw nw' /\ ss.length <= sizeLine /\ ∀ s', Sta W G env loc nw' s' -> Q () s'
theorem aGu {value : Expr} {p pos : Pos} {Q : Unit -> Shared -> Prop}
  (h : wpAny (model W.prog W.w) A (eval value env) (λ o s₁ => DelK W env Q o s₁) E s) :
  wpAny (model W.prog W.w) A (delete (.Subscript value (.Slice none none none p) pos) env) Q E s := by
 show wpAny _ _ (do
  let ov ← eval value env
  let iv ← holding [ov] (eval (.Slice none none none p) env)
  standAt pos
  holding [ov, iv] (delItem ov iv)
  release [ov, iv] []) _ _ _
 refine wpAny_bind (wpAny_mono h (λ o s₁ h₁ => ?_) λ _ _ e => e)
 obtain ⟨G, loc, nw, nw', l, ss, S, rfl, U, hz, q⟩ := h₁
 refine wpAny_bind (wpAny_holding ?_)
 refine wpAny_Slice ?_
 refine wpAny_pure (wpAny_pure (wpAny_pure ?_))
 have S1 := S.new (c := aAX { cls := .type "slice", data := .fields #[.none, .none, .none] }) rfl rfl s₁.toks
 refine wpAny_bind (wpAny_standAt (wpAny_bind (wpAny_holding ?_)))
 obtain ⟨vs, nw1, ht, U1, U2, S2⟩ := S1.openT (.tail U)
 obtain ⟨nw2, U3, U4⟩ := U2.via2 (aAa [])
 obtain ⟨n, hl⟩ := S2.isL U3.mem
 obtain ⟨o, ho, rfl⟩ := S1.get (.head _)
 refine wpAny_delItem_slot ⟨_, hl, rfl⟩ (by decide) F.slot_list_delitem ?_
 refine wpAny_call (codeAny_call_builtin F.slot_list_delitem.plain F.entry_list_delitem (F.slot_list_delitem.check _ _ _ _ _ _ _ _ ⟨_, hl, rfl⟩ (F.args_list_delitem_2 _ _) ?_))
 refine aGv hl ho (by rw [ht.length]; exact hz) λ f hf => ?_
 refine wpAny_release (q _ ?_)
 exact ((S2.setL hl f hf U3 _).tell U4 λ o _ ho => ⟨_, .nil, ho⟩).sub (List.sublist_cons_self _ _)
theorem aGx {x : Str} {t0 : Tok} {v : Value} (A' : Around) (Q' : Unit -> Shared -> Prop) (E' : Value -> Shared -> Prop) (hq : Q' () s) : wpAny (model W.prog W.w) A' (checkBoundCall "str.join" ⟨[.str x t0, v], []⟩) Q' E' s := by
 obtain ⟨h, g, d, t, os⟩ := s
 have hT : (⟨h, g, d, t, os⟩ : Shared).TypeIs (.str x t0) "str" := typeIs_str _ _ _
 have f1 : Manifest.signature? "str.join" = some ⟨.oneArg, "str.join", "join", .self, [⟨"iterable", .posOnly, true⟩]⟩ := by kernel_rfl
 have f2 : builtinKind "str.join" = some .method := by kernel_rfl
 have f3 : isSubtype (.type "str") (.type "module") = pure false := by rw [isSubtype_type]; kernel_rfl
 have f4 : Manifest.varargsMethods.contains "str.join" = false := by decide +kernel
 unfold checkBoundCall
 refine wpAny_bind (wpAny_isInstance hT f3 ?_)
 refine wpAny_bind ?_
 unfold isType
 repeat lk
 first | exact hq | exact wpAny_of_eq (f5 _ rfl) hq
theorem Sta.joinB {p a : Addr} {ss : List Str} {x : Str} {t0 : Tok} {Q : Value -> Shared -> Prop} (S : Sta W G env loc nw s) (ho : W.K.lookup p = some { cls := .type "builtin_function_or_method", data := .fields #[.builtin "str.join", .str x t0] }) (m : (a, aAb ss) ∈ nw) (hx : x = Str.empty) (hz : (cat ss).length <= 16777216) (h : ∀ t' s', Sta W G env loc nw s' -> Q (.str (cat ss) t') s') :
  wpAny (model W.prog W.w) A (call (.ref p) [.ref a]) Q E s := by
 subst hx
 obtain ⟨vs, ht, hl⟩ := S.txts m
 obtain ⟨l, e1, e2⟩ := ht.values
 rw [e1] at hl
 have hok := aDG hz
 rw [← e2] at hok
 unfold JoinOk at hok
 rw [Bool.not_eq_true'] at hok
 refine wpAny_call (aDP (W := W) F.slot_str_join.plain F.entry_str_join (S.kin _ _ ho) (λ A' Q' E' hq => aGx A' Q' E' hq) ?_)
 refine meets_str_join_list Str.empty t0 a l hok W.prog W.w A (wants Q E) s ⟨hl, post_join l ⟨joinFit_length hok, λ t' k => ?_⟩⟩
 rw [e2, aEg]; exact h _ _ (S.toks k)
theorem aJM {pos : Pos} {p : Addr} {id : String} {self : Value} {e : Expr} {rest : List Expr} {Q : Value -> Shared -> Prop} (ho : W.K.lookup p = some { cls := .type "builtin_function_or_method", data := .fields #[.builtin id, self] })
  (h : wpAny (model W.prog W.w) A (spliced (backTo pos (starEach (e :: rest) env))) (λ vs s₁ => W.K.In s₁.heap /\ wpAny (model W.prog W.w) A (call (.ref p) vs) Q E s₁) E s)
  (he : starEach (e :: rest) env = (false, eval e env) :: starEach rest env) (hplain : (backTo pos (starEach rest env)).any (·.1) = false) :
  wpAny (model W.prog W.w) A (callWith pos (.ref p) [] (backTo pos (starEach (e :: rest) env)) []) Q E s := by
 rw [he] at h ⊢
 exact callWith_of (P := λ h => W.K.In h) (first := []) (by show (false || (backTo pos (starEach rest env)).any (·.1) || false) = false; rw [hplain]; rfl) (λ h X => ⟨.machine, .inr (.inl rfl), aDd (X _ _ ho)⟩) (Calls.evalArgs_plain h)
theorem aIb {M : Model} {Q : Value -> Shared -> Prop} (h : Q (.bool false) s) : wpAny M A (compareOp .IsNot .none .none) Q E s := wpAny_isNot_plain rfl h
theorem aIa {M : Model} {a : Addr} {Q : Value -> Shared -> Prop} (h : Q (.bool true) s) : wpAny M A (compareOp .IsNot (.ref a) .none) Q E s := wpAny_isNot_plain rfl h
theorem aH9 {M : Model} {x : Str} {t : Tok} {Q : Value -> Shared -> Prop} (h : Q (.bool true) s) : wpAny M A (compareOp .IsNot (.str x t) .none) Q E s := wpAny_isNot_plain rfl h
theorem is_nn {M : Model} {Q : Value -> Shared -> Prop} (h : Q (.bool true) s) : wpAny M A (compareOp .Is .none .none) Q E s := wpAny_is_plain rfl h
theorem is_sn {M : Model} {x : Str} {t : Tok} {Q : Value -> Shared -> Prop} (h : Q (.bool false) s) : wpAny M A (compareOp .Is (.str x t) .none) Q E s := wpAny_is_plain rfl h
theorem aBd {x : Str} {t : Tok} {Q : Bool -> Shared -> Prop} (S : Sta W G env loc nw s) (hz : x.length <= 16777216) (h1 : x.length = 0 -> ∀ s', Sta W G env loc nw s' -> Q false s') (h2 : x.length ≠ 0 -> ∀ s', Sta W G env loc nw s' -> Q true s') : wpAny (model W.prog W.w) A (truthy (.str x t)) Q E s := by
 refine SBL.truthy (by omega) ?_
 by_cases e : x.length = 0
 ·have e2 : ((x.length : Int) != 0) = false := by rw [e]; rfl
  rw [e2]; exact h1 e _ (S.toks _)
 ·have e2 : ((x.length : Int) != 0) = true := bne_iff_ne.mpr (by omega)
  rw [e2]; exact h2 e _ (S.toks _)
theorem Sta.getM_txts {name : Str} {a : Addr} {ss : List Str} {Q : Value × List Value -> Shared -> Prop} {id : String} (S : Sta W G env loc nw s) (m : (a, aAb ss) ∈ nw) (slot : Slot "list" name id) (hty : typeOf (.builtin id) = pure (.type "method_descriptor")) (h : Q (.builtin id, [.ref a]) s) :
  GetM (model W.prog W.w) A E name (.ref a) Q s := by
 obtain ⟨o, ho, vs, ht, n, rfl⟩ := S.get m
 exact aBa F.plainAttrs_list slot hty ⟨_, ho, rfl⟩ (λ b e => by cases e; exact ⟨_, ho, rfl⟩) h
theorem Sta.truthyT {a : Addr} {ss : List Str} {Q : Bool -> Shared -> Prop} (S : Sta W G env loc nw s) (m : (a, aAb ss) ∈ nw) (hz : ss.length <= sizeLine) (h : ∀ s', Sta W G env loc nw s' -> Q (!ss.isEmpty) s') :
  wpAny (model W.prog W.w) A (truthy (.ref a)) Q E s := by
 obtain ⟨vs, ht, hl⟩ := S.txts m
 have e : vs.isEmpty = ss.isEmpty := by cases ht <;> rfl
 refine wpAny_truthy_list hl ?_ ?_
 ·rw [sizeLine_eq] at hz; rw [List.size_toArray, ht.length]; omega
 ·have := h _ (S.toks (s.toks + 1 + 1))
  rw [← e] at this
  simpa using this
end
end Mine
end
section
namespace Mine
theorem aAi {M : Model} {A : Around} {E : Value -> Shared -> Prop} {s : Shared} {env : Env} {l : List Stmt} {n : Nat} {st : Stmt} {Q : Flow -> Shared -> Prop} (h : l[n]? = some st)
  (k : wpAny M A (exec st env) (λ f s₁ => match f with | .next => wpAny M A (execs (l.drop (n + 1)) env) Q E s₁ | f => Q f s₁) E s) : wpAny M A (execs (l.drop n) env) Q E s := by
 obtain ⟨hn, e⟩ := List.getElem?_eq_some_iff.mp h
 rw [List.drop_eq_getElem_cons hn, e]
 exact wpAny_execs_cons k
theorem aHw {M : Model} {A : Around} {E : Value -> Shared -> Prop} {s : Shared} {env : Env} {l : List Stmt} {n : Nat} {st : Stmt} {Q : Flow -> Shared -> Prop} (h : l[n]? = some st)
  (k : ∀ K : Flow -> Shared -> Prop, (∀ s', wpAny M A (execs (l.drop (n + 1)) env) Q E s' -> K .next s') -> (∀ v s', Q (.ret v) s' -> K (.ret v) s') -> wpAny M A (exec st env) K E s) : wpAny M A (execs (l.drop n) env) Q E s :=
 aAi h (k _ (λ _ h => h) λ _ _ h => h)
theorem aFs {M : Model} {A : Around} {E : Value -> Shared -> Prop} {s : Shared} {env : Env} {l : List Stmt} {st : Stmt} {Q : Flow -> Shared -> Prop}
  (k : ∀ K : Flow -> Shared -> Prop, (∀ s', wpAny M A (execs l env) Q E s' -> K .next s') -> (∀ v s', Q (.ret v) s' -> K (.ret v) s') -> wpAny M A (exec st env) K E s) : wpAny M A (execs (st :: l) env) Q E s :=
 wpAny_execs_cons (k _ (λ _ h => h) λ _ _ h => h)
theorem aBS {M : Model} {A : Around} {E : Value -> Shared -> Prop} {s : Shared} {env : Env} {l : List Stmt} {n : Nat} {Q : Flow -> Shared -> Prop} (h : l.length <= n) (k : Q .next s) : wpAny M A (execs (l.drop n) env) Q E s := by
 rw [List.drop_of_length_le h]
 exact wpAny_execs_nil k
theorem aAs {M : Model} {A : Around} {E : Value -> Shared -> Prop} {s : Shared} {env : Env} {l : List Stmt} {Q : Flow -> Shared -> Prop} (k : wpAny M A (execs (l.drop 0) env) Q E s) : wpAny M A (execs l env) Q E s := k
noncomputable def aJP (W : Wd) (env : Env) (Q : Value -> Shared -> Prop) (o vl vu : Value) (s : Shared) : Prop :=
 ∃ G loc nw x t lo hi, Sta W G env loc nw s /\ o = .str x t /\ x.length <= sizeLine /\ IsPart vl lo /\ IsPart vu hi /\ ∀ t' s', Sta W G env loc nw s' -> Q (.str (Txt.slice x lo hi) t') s'
noncomputable def IsSS (W : Wd) (S : Str -> Bool) (n : Nat) : Cell := λ o => o.SetObjOf (PySem.strKind W.prog W.w) S n
section
variable {W : Wd} {G : Gens} {env : Env} {loc loc' : Loc} {nw nw' : Ledger} {s : Shared} {A : Around} {E : Value -> Shared -> Prop}
theorem aDB {v : Value} {o : Option Int} (h : IsPart v o) : ∃ l : Option (Int × Tok), v = partValue l /\ l.map (·.1) = o := by
 cases h with
 | none => exact ⟨none, rfl, rfl⟩
 | int i t => exact ⟨some (i, t), rfl, rfl⟩
theorem aCt {value : Expr} {lower upper : Option Expr} {p pos : Pos} {Q : Value -> Shared -> Prop}
  (h : wpAny (model W.prog W.w) A (eval value env) (λ o s₁ => wpAny (model W.prog W.w) A (evalPart lower env) (λ vl s₂ => wpAny (model W.prog W.w) A (evalPart upper env) (λ vu s₃ => aJP W env Q o vl vu s₃) E s₂) E s₁) E s)
  (ht : ∀ o r, letTemporaryGo value o r = pure () := by intro _ _; rfl) :
  wpAny (model W.prog W.w) A (eval (.Subscript value (.Slice lower upper none p) pos) env) Q E s := by
 refine wpAny_Subscript_str_slice (wpAny_mono h (λ o s₁ h₁ => wpAny_mono h₁ (λ vl s₂ h₂ => wpAny_mono h₂ (λ vu s₃ h₃ => ?_) λ _ _ e => e) λ _ _ e => e) λ _ _ e => e) ht
 obtain ⟨G, loc, nw, x, t, lo, hi, S, rfl, hz, pl, pu, q⟩ := h₃
 obtain ⟨l, e1, e2⟩ := aDB pl
 obtain ⟨u, e3, e4⟩ := aDB pu
 refine ⟨x, t, l, u, rfl, e1, e3, ?_⟩
 have k : ∀ t' k, Q (.str (Txt.slice x (l.map (·.1)) (u.map (·.1))) t') { s₃ with heap := s₃.heap.push { cls := .type "slice", data := .fields #[vl, vu, .none] }, toks := k } := λ t' k => by
  rw [e2, e4]
  exact q _ _ (S.grow (λ _ _ e => Heap.get?_push_of_some _ e) k)
 exact post_val_or_str ⟨Nat.le_trans (Txt.slice_le x _ _) hz, λ t' j => k t' j⟩
theorem eq_s {x y : Str} {t u : Tok} {Q : Value -> Shared -> Prop} (h1 : x = y -> Q (.bool true) s) (h2 : x ≠ y -> Q (.bool false) s) : wpAny (model W.prog W.w) A (compareOp .Eq (.str x t) (.str y u)) Q E s := by
 refine PyProof.Rows.eq_str ?_
 by_cases e : x = y
 ·have : (x.cps.toList == y.cps.toList) = true := by rw [e]; simp
  first | (rw [this]; exact h1 e) | (have e2 : (x == y) = true := (by rw [e]; simp); rw [e2]; exact h1 e)
 ·have : (x.cps.toList == y.cps.toList) = false := by
   rw [beq_eq_false_iff_ne]; exact λ q => e (Str.ext' q)
  first | (rw [this]; exact h2 e) | (have e2 : (x == y) = false := (by rw [beq_eq_false_iff_ne]; exact e); rw [e2]; exact h2 e)
theorem Sta.newSet {Q : Value -> Shared -> Prop} (S : Sta W G env loc nw s) (h : ∀ a s', Sta W G env loc ((a, IsSS W (λ _ => false) 0) :: nw) s' -> Q (.ref a) s') : wpAny (model W.prog W.w) A (call (.type "set") []) Q E s :=
 call_set_0 λ led => h _ _ (S.new (c := IsSS W (λ _ => false) 0) rfl (setObjOf_fresh led) s.toks)
theorem Sta.setAt {a : Addr} {T : Str -> Bool} {n : Nat} (S : Sta W G env loc nw s) (m : (a, IsSS W T n) ∈ nw) (hn : n < scanBound) : s.heap.SetOf (PySem.strKind W.prog W.w) a T n := by
 obtain ⟨o, ho, hc⟩ := S.get m
 exact hc.setOf ho hn
theorem Sta.getM_add {a : Addr} {T : Str -> Bool} {n : Nat} {Q : Value × List Value -> Shared -> Prop} (S : Sta W G env loc nw s) (m : (a, IsSS W T n) ∈ nw) (hn : n < scanBound) (h : Q (.builtin "set.add", [.ref a]) s) : GetM (model W.prog W.w) A E "add" (.ref a) Q s := λ _ =>
 getMethod_set_add (S.setAt m hn) h
theorem Sta.setAdd {a : Addr} {T : Str -> Bool} {n : Nat} {x : Str} {t : Tok} {Q : Value -> Shared -> Prop} (S : Sta W G env loc nw s) (U : Upd a (IsSS W T n) (IsSS W (λ k => T k || decide (k = x)) (if T x then n else n + 1)) nw nw') (hn : n + 1 < scanBound)
  (h : ∀ s', Sta W G env loc nw' s' -> Q .none s') : wpAny (model W.prog W.w) A (call (.builtin "set.add") [.ref a, .str x t]) Q E s := by
 refine call_set_add (k := x) (by simp [PySem.strKind, Value.isStrOf]) rfl (S.setAt U.mem (by omega)) hn λ h' hsb hS => ?_
 obtain ⟨o, ho, hc⟩ := hS.objOf
 exact h _ (S.set U (λ b o hb e => (hsb.2 b hb).trans e) ho hc _)
theorem Sta.notInSet {a : Addr} {T : Str -> Bool} {n : Nat} {x : Str} {t : Tok} {Q : Value -> Shared -> Prop} (S : Sta W G env loc nw s) (m : (a, IsSS W T n) ∈ nw) (hn : n < scanBound) (h : ∀ s', Sta W G env loc nw s' -> Q (.bool (!T x)) s') :
  wpAny (model W.prog W.w) A (compareOp .NotIn (.str x t) (.ref a)) Q E s :=
 wpAny_notInSet_of (k := x) (by simp [PySem.strKind, Value.isStrOf]) rfl (S.setAt m hn) (h _ (S.toks _))
end
end Mine
end
section
namespace Mine
noncomputable def IsD (W : Wd) (d : Addr) (kvs : List (Str × Value)) : Cell := λ o => d ≠ sysModules /\ o.IsDictOf (PySem.strKind W.prog W.w) kvs
section
variable {W : Wd} {G : Gens} {env : Env} {loc loc' : Loc} {nw nw' : Ledger} {s : Shared} {A : Around} {E : Value -> Shared -> Prop}
theorem Sta.size_mods (S : Sta W G env loc nw s) : s.heap.objs.size ≠ sysModules := by
 obtain ⟨mg, o, es, ep, hg, _⟩ := S.ok.g
 have h1 := Heap.lt_size (S.led.keep _ _ hg)
 have h2 : sysModules < mainGlobals := by decide
 exact λ e => by
  have : mainGlobals < sysModules := e ▸ h1
  exact absurd (Nat.lt_trans h2 this) (Nat.lt_irrefl _)
theorem aDg {d : Addr} (h : d ≠ sysModules) : IsD W d [] { cls := .type "dict", data := .dict #[] } := by
 exact ⟨h, #[], 0, ⟨rfl, rfl, rfl⟩, rfl, λ e he => by simp at he, .nil, List.nodup_nil⟩
theorem Sta.newDict {Q : Value -> Shared -> Prop} {M : Model} (S : Sta W G env loc nw s) (h : ∀ a s', Sta W G env loc ((a, IsD W a []) :: nw) s' -> Q (.ref a) s') : wpAny M A newDict Q E s :=
 wpAny_newObj_type (h _ _ (S.new (c := IsD W s.heap.objs.size []) rfl (aDg S.size_mods) s.toks))
theorem Sta.dictD0 {pos : Pos} {Q : Value -> Shared -> Prop} {M : Model} (S : Sta W G env loc nw s) (h : ∀ a s', Sta W G env loc ((a, IsD W a []) :: nw) s' -> Q (.ref a) s') : wpAny M A (eval (.Dict [] [] pos) env) Q E s :=
 wpAny_Dict_empty (h _ _ (S.new (c := IsD W s.heap.objs.size []) rfl (aDg S.size_mods) s.toks))
theorem Sta.dictAt {d : Addr} {kvs : List (Str × Value)} (S : Sta W G env loc nw s) (m : (d, IsD W d kvs) ∈ nw) : s.heap.DictOf (PySem.strKind W.prog W.w) d kvs /\ (d == sysModules) = false := by
 obtain ⟨o, ho, hne, hd⟩ := S.get m
 exact ⟨Heap.dictOf_iff.mpr ⟨o, ho, hd⟩, by rw [beq_eq_false_iff_ne]; exact hne⟩
theorem Sta.dictSet {d : Addr} {kvs : List (Str × Value)} {x : Str} {t : Tok} {v : Value} {Q : Unit -> Shared -> Prop} (S : Sta W G env loc nw s) (U : Upd d (IsD W d kvs) (IsD W d (stored kvs x v)) nw nw') (hz : kvs.length + 1 <= sizeLine)
  (h : ∀ s', Sta W G env loc nw' s' -> Q () s') : wpAny (model W.prog W.w) A (dictSet d (.str x t) v) Q E s := by
 obtain ⟨hd, hn⟩ := S.dictAt U.mem
 refine wpAny_dictSet_pairs (strKind_is _ _ x t) hd (λ h' hm hs => ?_) ?_
 ·obtain ⟨o, ho, hdo⟩ := Heap.dictOf_iff.mp hm
  exact h _ (S.set U (λ b o hb e => (hs.2 b hb).trans e) ho ⟨by simpa using hn, hdo⟩ _)
 ·omega
end
theorem aCB {prog : Program} {w : World} {A : Around} {s : Shared} {R : Result -> Shared -> Prop} {kx vx : Expr} {gens : List Comprehension} {scope : Scope} {pos p : Pos} {d : Nat} {target : Expr} {it acc : Value} {env : Env} {body : Sem Unit}
  (hT : compTurn (.DictComp kx vx gens scope pos) d it acc env = (standAt p >>= λ _ => pyNext it >>= λ r => match r with
   | none => pure (.done .next)
   | some v => letOwnedTupleGo target it v >>= λ _ => assign target env v >>= λ _ => body >>= λ _ => again (.compLoop (.DictComp kx vx gens scope pos) d it acc env)))
  (I : Nat -> Shared -> Prop)
  (turn : ∀ n s, I n s -> wpAny (model prog w) A (pyNext it) (λ r s₁ => match r with
   | none => R (.ok .next) s₁
   | some v => wpAny (model prog w) A (letOwnedTupleGo target it v) (λ _ s₁ => wpAny (model prog w) A (assign target env v) (λ _ s₂ => wpAny (model prog w) A body (λ _ s₃ => ∃ m, m < n /\ I m s₃)
     (λ _ _ => False) s₂) (λ _ _ => False) s₁) (λ _ _ => False) s₁) (λ _ _ => False) s)
  (n : Nat) (h : I n s) : codeAny (model prog w) A (.compLoop (.DictComp kx vx gens scope pos) d it acc env) R s := by
 refine codeAny_loop rfl I (λ n s hI => ?_) n h
 refine wpAny_noted ?_
 rw [hT]
 refine wpAny_bind (wpAny_standAt (wpAny_bind (wpAny_mono (turn n s hI) (λ r s₁ h₁ => ?_) λ _ _ h' => h'.elim)))
 cases r with
 | none => exact wpAny_pure h₁
 | some v =>
  refine wpAny_bind (wpAny_mono h₁ (λ _ s₁' h₁' => ?_) λ _ _ h' => h'.elim)
  refine wpAny_bind (wpAny_mono h₁' (λ _ s₂ h₂ => wpAny_bind (wpAny_mono h₂ (λ _ s₃ h₃ => ?_) λ _ _ h' => h'.elim)) λ _ _ h' => h'.elim)
  exact wpAny_pure ⟨rfl, h₃⟩
section
variable {W : Wd} {sh : Ledger} {env : Env} {A : Around} {R : Result -> Shared -> Prop} {it : Addr} {target : Expr} {kx vx : Expr} {gens : List Comprehension} {scope : Scope} {pos p : Pos} {d : Nat} {acc : Value} {body : Sem Unit}
theorem aJE {α : Type} {P : α -> Value -> Prop} (hA : Aok 7 A)
  (hT : compTurn (.DictComp kx vx gens scope pos) d (.ref it) acc env = (standAt p >>= λ _ => pyNext (.ref it) >>= λ r => match r with
   | none => pure (.done .next)
   | some v => letOwnedTupleGo target (.ref it) v >>= λ _ => assign target env v >>= λ _ => body >>= λ _ => again (.compLoop (.DictComp kx vx gens scope pos) d (.ref it) acc env)))
  (J : List α -> Loc -> Ledger -> Gens -> Prop)
  (turn : ∀ x v rest tl tg loc nw G s, P x v -> Sta W (G ++ tg) env loc (nw ++ (sh ++ tl)) s -> J (x :: rest) loc nw G ->
   wpAny (model W.prog W.w) A (assign target env v) (λ _ s₂ => wpAny (model W.prog W.w) A body (λ _ s₃ => ∃ loc' nw' G', Sta W (G' ++ tg) env loc' (nw' ++ (sh ++ tl)) s₃ /\ J rest loc' nw' G') (λ _ _ => False) s₂) (λ _ _ => False) s)
  (fin : ∀ loc nw G s, Sta W G env loc (nw ++ sh) s -> J [] loc nw G -> R (.ok .next) s)
  {vs : List α} {own : Ledger} {og G : Gens} {loc : Loc} {nw : Ledger} {s : Shared} (S : Sta W (G ++ og) env loc (nw ++ (sh ++ own)) s) (hy : YieldsR W sh it P vs own og) (hJ : J vs loc nw G) :
  codeAny (model W.prog W.w) A (.compLoop (.DictComp kx vx gens scope pos) d (.ref it) acc env) R s := by
 refine aCB hT (λ n s => ∃ vs own og G loc nw, vs.length = n /\ Sta W (G ++ og) env loc (nw ++ (sh ++ own)) s /\ YieldsR W sh it P vs own og /\ J vs loc nw G) (λ n s hI => ?_) vs.length ⟨vs, own, og, G, loc, nw, rfl, S, hy, hJ⟩
 obtain ⟨vs, own, og, G, loc, nw, hn, S, hy, hJ⟩ := hI
 cases vs with
 | nil => exact hy.2 A ((env.locals, IsNs loc) :: nw) G s _ _ hA S.to0 λ s' S' => fin loc nw G s' (St0.toSta S' S.eok) hJ
 | cons x rest =>
  refine hy.2 A ((env.locals, IsNs loc) :: nw) G s _ _ hA S.to0 λ v own' og' s' hpv S' hy' => ?_
  have S1 : Sta W (G ++ og') env loc (nw ++ (sh ++ own')) s' := St0.toSta S' S.eok
  have ht : Typ sh it own' := by cases rest <;> exact hy'.1
  obtain ⟨c, hc, hp⟩ := ht
  obtain ⟨o, ho, hco⟩ := S1.get (a := it) (c := c) (List.mem_append_right _ hc)
  refine aHU ho (hp o hco) ?_
  refine wpAny_mono (turn x v rest own' og' loc nw G s' hpv S1 hJ) (λ _ s₂ h₂ => wpAny_mono h₂ (λ f s₃ h₃ => ?_) λ _ _ h => h) λ _ _ h => h
  obtain ⟨loc', nw', G', S3, hJ'⟩ := h₃
  exact ⟨rest.length, by rw [← hn]; simp, rest, own', og', G', loc', nw', rfl, S3, hy', hJ'⟩
theorem aFu {c : Cell} {s : Shared} {g : Comprehension} (hg : gens[d]? = some g) (ha : g.is_async = 0) (hs : aHN W it c) (m : ∃ o, s.heap.get? it = some o /\ c o)
  (h : codeAny (model W.prog W.w) A (.compLoop (.DictComp kx vx gens scope pos) d (.ref it) acc env) R s) :
  codeAny (model W.prog W.w) A (.compStart (.DictComp kx vx gens scope pos) d (.ref it) acc env) R s := by
 obtain ⟨o, ho, hc⟩ := m
 refine codeAny_of_tree ?_
 refine wpAny_notedAt ?_
 have e : (clausesOf (.DictComp kx vx gens scope pos))[d]? = some g := hg
 unfold compStart
 rw [e]
 simp only [Option.elim_some, ha]
 show wpAny _ _ (ask >>= _) _ _ s
 refine wpAny_bind (wpAny_askSetting (wpAny_ite ?_))
 split
 ·exact wpAny_pure (And.intro rfl h)
 ·exact wpAny_bind (wpAny_rule (wpAny_bind (wpAny_standAt (wpAny_bind (hs A _ _ _ o ho hc (wpAny_pure (And.intro rfl h)))))))
end
section
variable {W : Wd} {G : Gens} {env : Env} {loc loc' : Loc} {nw nw' : Ledger} {s : Shared} {A : Around} {E : Value -> Shared -> Prop}
end
end Mine
end
section
namespace Mine
noncomputable def SetL (W : Wd) (o : Obj) (ss : List Str) : Prop :=
 o.ExactSet /\ ∃ es ep t, o.data = .set es ep t /\ ElemsOf (PySem.strKind W.prog W.w) es.toList /\ (∃ ss', TxtsAre (es.toList.map (·.2)) ss' /\ ss'.Perm ss) /\ t.fits es.size = true ∧
  (t.led = true \/ W.w.params.followText "set-order" = true) /\ (es.size ≠ 0 -> t.plain = false) /\ (es.size <= 1 -> t.mask = 7 /\ t.dummies = #[])
noncomputable def IsSL (W : Wd) (ss : List Str) : Cell := λ o => SetL W o ss
theorem TxtsAre.perm {vs vs' : List Value} (p : vs'.Perm vs) : ∀ {ss : List Str}, TxtsAre vs ss -> ∃ ss', TxtsAre vs' ss' /\ ss'.Perm ss := by
 induction p with
 | nil => intro ss h; exact ⟨ss, h, .refl _⟩
 | cons x p ih =>
  intro ss h
  cases h with
  | cons y t h =>
   obtain ⟨ss', h1, h2⟩ := ih h
   exact ⟨y :: ss', .cons y t h1, h2.cons _⟩
 | swap x y l =>
  intro ss h
  cases h with
  | cons a t h => cases h with
   | cons b u h => exact ⟨_, .cons _ _ (.cons _ _ h), .swap ..⟩
 | trans p q ih1 ih2 =>
  intro ss h
  obtain ⟨s1, a1, b1⟩ := ih2 h
  obtain ⟨s2, a2, b2⟩ := ih1 a1
  exact ⟨s2, a2, b2.trans b1⟩
theorem aD4 (t : SetTable) (n : Nat) : (t.orStandIn n).led = t.led := by unfold SetTable.orStandIn; split <;> rfl
theorem aGn (t : SetTable) (es : Array (Int × Value)) (h : Int) (x : Value) : (layNew t es h x).2.1.led = t.led := by
 unfold layNew
 split
 ·exact aD4 _ _
 ·rfl
theorem aEw (t : SetTable) (es : Array (Int × Value)) (w : Nat) : (relayAll t es w).2.1.led = t.led := by
 unfold relayAll
 split
 ·rename_i t' order e
  dsimp only
  split
  ·unfold SetTable.relaid SetTable.laid at e
   simp only [bind, Option.bind] at e
   split at e
   ·cases e
   ·injection e with e; injection e with e1 e2; rw [← e1]
  ·rfl
 ·rfl
theorem aDm (t : SetTable) (es : Array (Int × Value)) (w : Nat) (hp : t.plain = false) : (relayAll t es w).2.1.plain = false := by
 unfold relayAll
 split
 ·rename_i t' order e
  dsimp only
  split
  ·unfold SetTable.relaid SetTable.laid at e
   simp only [bind, Option.bind] at e
   split at e
   ·cases e
   ·injection e with e; injection e with e1 e2; rw [← e1]; exact hp
  ·rfl
 ·rfl
theorem aEJ {t : SetTable} (hm : t.mask = 7) (hp : t.place.size = 0) (hd : t.dummies = #[]) (es : Array (Int × Value)) (he : es.size = 0) (h : Int) (x : Value) :
  (layNew t es h x).2.1.mask = 7 /\ (layNew t es h x).2.1.dummies = #[] /\ (layNew t es h x).2.1.place.size = 1 /\ (layNew t es h x).1.size = 1 := by
 have hp0 : t.place = #[] := Array.size_eq_zero_iff.mp hp
 have he0 : es = #[] := Array.size_eq_zero_iff.mp he
 subst he0
 obtain ⟨mask, place, dummies, finger, led, moves, plain⟩ := t
 dsimp only at hm hp0 hd
 subst hm hp0 hd
 have hs : ∀ j, SetTable.slot ⟨7, #[], #[], finger, led, moves, plain⟩ j = .empty := by
  exact λ j => rfl
 have hf : SetTable.freeSlot ⟨7, #[], #[], finger, led, moves, plain⟩ h = some ((SetTable.probeStart ⟨7, #[], #[], finger, led, moves, plain⟩ h).j, false) := by
  have key : ∀ (f : Nat -> Int) (p : SetTable.Probe), SetTable.probe.go ⟨7, #[], #[], finger, led, moves, plain⟩ f h (219 + 1) p = some (.empty p.j p.dummy) := by
   exact λ f p => rfl
  unfold SetTable.freeSlot SetTable.probe
  have e := key (λ _ => h + 1) (SetTable.probeStart ⟨7, #[], #[], finger, led, moves, plain⟩ h)
  have e2 : (10 * SetTable.turns (SetTable.mk 7 #[] #[] finger led moves plain).mask) = 219 + 1 := rfl
  rfl
 unfold layNew
 rw [hf]
 dsimp only
 have hq : (SetTable.put ⟨7, #[], #[], finger, led, moves, plain⟩ (SetTable.probeStart ⟨7, #[], #[], finger, led, moves, plain⟩ h).j) = (⟨7, #[(SetTable.probeStart ⟨7, #[], #[], finger, led, moves, plain⟩ h).j], #[], finger, led, moves, plain⟩, 0) := by
  rfl
 rw [hq]
 dsimp only
 have hi : (SetTable.insertAt (#[] : Array (Int × Value)) 0 (h, x)).size = 1 := by simp [SetTable.insertAt]
 rw [hi]
 have ho : SetTable.orStandIn ⟨7, #[(SetTable.probeStart ⟨7, #[], #[], finger, led, moves, plain⟩ h).j], #[], finger, led, moves, plain⟩ 1 = ⟨7, #[(SetTable.probeStart ⟨7, #[], #[], finger, led, moves, plain⟩ h).j], #[], finger, led, moves, plain⟩ := by
  unfold SetTable.orStandIn
  rw [if_pos]
  rfl
 exact ⟨rfl, rfl, rfl, rfl⟩
section
variable {W : Wd} {G : Gens} {env : Env} {loc loc' : Loc} {nw nw' : Ledger} {s : Shared} {A : Around} {E : Value -> Shared -> Prop}
theorem aJj {x y : Str} {t : Tok} (h : (PySem.strKind W.prog W.w).is x (.str y t) = true) : x = y := by
 have : Value.isStrOf x (.str y t) = true := h
 simp [Value.isStrOf] at this
 first | exact this | exact this.symm
theorem TxtsAre.mem {vs : List Value} {ss : List Str} (h : TxtsAre vs ss) {v : Value} (hv : v ∈ vs) : ∃ x t, v = .str x t /\ x ∈ ss := by
 induction h with
 | nil => cases hv
 | cons x t h ih =>
  rcases List.mem_cons.mp hv with rfl | hv
  ·exact ⟨x, t, rfl, .head _⟩
  ·obtain ⟨y, u, e, m⟩ := ih hv
   exact ⟨y, u, e, .tail _ m⟩
theorem aDz {a : Addr} {o : Obj} {es : Array (Int × Value)} {ep : Nat} {t : SetTable} {h : Heap} (ho : h.get? a = some o) (hex : o.ExactSet) (hd : o.data = .set es ep t) (es' : Array (Int × Value)) (t' : SetTable) :
  ∃ o', (h.update a (Obj.putSet es' t')).get? a = some o' /\ o'.ExactSet /\ o'.data = .set es' (ep + 1) t' := by
 obtain ⟨c, di, dt, sl⟩ := o
 dsimp only at hd
 subst hd
 exact ⟨_, Heap.get?_update_self _ ho rfl, hex, rfl⟩
theorem tailL {g : Bool -> Sem Unit} (hg : ∀ (b : Bool) (s₁ : Shared) (Q' : Unit -> Shared -> Prop), Q' () s₁ -> wpAny (model W.prog W.w) A (g b) Q' E s₁)
  {a : Addr} {o : Obj} {es : Array (Int × Value)} {ep : Nat} {t : SetTable} (ho : s.heap.get? a = some o) (hex : o.ExactSet) (hd : o.data = .set es ep t)
  {es1 : Array (Int × Value)} {t2 : SetTable} (hb1 : es1.size < scanBound) (hf2 : t2.fits es1.size = true) (hp2 : t2.plain = false) {wasDummy : Bool} {R : Option Bool -> Shared -> Prop}
  (h : ∀ h' o' es2 ep2 t3, Heap.SameBut a s.heap h' -> h'.get? a = some o' -> o'.ExactSet -> o'.data = .set es2 ep2 t3 -> es2.toList.Perm es1.toList -> t3.fits es2.size = true -> t3.led = t2.led -> t3.plain = false -> (t2.tooFull = false -> t3 = t2) -> R (some true) { s with heap := h' }) :
  wpAny (model W.prog W.w) A (do
    storeSet a es1 t2
    if (!wasDummy && t2.tooFull) = true then do
      g (relayAll t2 es1 (SetTable.grown es1.size)).2.2
      storeSet a (relayAll t2 es1 (SetTable.grown es1.size)).1 (relayAll t2 es1 (SetTable.grown es1.size)).2.1
      pure (some true)
     else pure (some true)) R E s := by
 refine wpAny_bind (wpAny_storeSet_of ho hd ?_ (fits_of_scanBound hb1))
 obtain ⟨o1, ho1, hex1, hd1⟩ := aDz ho hex hd es1 t2
 have hsb1 := Heap.SameBut.update s.heap a (Obj.putSet es1 t2)
 split
 ·rename_i hfull
  have hp := relayAll_perm t2 es1 (SetTable.grown es1.size)
  have hfr := relayAll_fits t2 es1 (SetTable.grown es1.size)
  have hlr := aEw t2 es1 (SetTable.grown es1.size)
  have hpr := aDm t2 es1 (SetTable.grown es1.size) hp2
  generalize hRl : relayAll t2 es1 (SetTable.grown es1.size) = Rl at hp hfr hlr hpr ⊢
  obtain ⟨es2, t3, gave2⟩ := Rl
  have hsz : es2.size = es1.size := by rw [← Array.length_toList, hp.length_eq, Array.length_toList]
  refine wpAny_bind (hg _ _ _ ?_)
  refine wpAny_bind (wpAny_storeSet_of ho1 hd1 ?_ (fits_of_scanBound (by rw [hsz]; exact hb1)))
  obtain ⟨o2, ho2, hex2, hd2⟩ := aDz ho1 hex1 hd1 es2 t3
  exact wpAny_pure (h _ o2 es2 _ t3 (hsb1.trans (Heap.SameBut.update _ a _)) ho2 hex2 hd2 hp hfr hlr hpr λ q => by rw [q] at hfull; simp at hfull)
 ·exact wpAny_pure (h _ o1 es1 _ t2 hsb1 ho1 hex1 hd1 (.refl _) hf2 rfl hp2 λ _ => rfl)
theorem Sta.addL {a : Addr} {ss : List Str} {x : Str} {t : Tok} {Q : Bool -> Shared -> Prop} (S : Sta W G env loc nw s) (U : Upd a (IsSL W ss) (IsSL W (ss ++ [x])) nw nw') (hx : x ∉ ss) (hn : ss.length + 1 < scanBound) (h : ∀ s', Sta W G env loc nw' s' -> Q true s') :
  wpAny (model W.prog W.w) A (setAddHashed a (.str x t) ((PySem.strKind W.prog W.w).hash x)) Q E s := by
 obtain ⟨o, ho, hex, es, ep, tb, hd, hel, ⟨ss', htx, hpm⟩, hf, hled, hpl, hsm⟩ := S.get U.mem
 have hlen : es.size = ss.length := by
  have := htx.length
  rw [List.length_map, Array.length_toList] at this
  rw [this, hpm.length_eq]
 have hkey := strKind_is W.prog W.w x t
 refine wpAny_holding (wpAny_bind (wpAny_setState_of ho hd hf ?_))
 dsimp only
 rw [byScan_of (knd := PySem.strKind W.prog W.w) rfl (by omega) hel]
 refine wpAny_bind ?_
 refine wpAny_bind (wpAny_rule ?_)
 refine wpAny_bind (wpAny_setScan_of hkey ho hd hf hel ?_)
 have hr : List.findIdx? (λ e => (PySem.strKind W.prog W.w).is x e.2) es.toList = none := by
  rw [List.findIdx?_eq_none_iff]
  intro e he
  cases q : (PySem.strKind W.prog W.w).is x e.2 with
  | false => rfl
  | true =>
   obtain ⟨y, u, e1, m⟩ := htx.mem (List.mem_map.mpr ⟨e, he, rfl⟩)
   rw [e1] at q
   exact absurd (hpm.mem_iff.mp (aJj q ▸ m)) hx
 rw [hr]
 have hgw : ∀ (b : Bool) {s₁ : Shared} {Q' : Unit -> Shared -> Prop}, Q' () s₁ -> wpAny (model W.prog W.w) A (match b with | true => rule "set.scan.the-table-gave-way" | false => pure ()) Q' E s₁ :=
  λ b s₁ Q' hq => by cases b <;> first | exact wpAny_pure hq | exact wpAny_rule hq
 have hperm := layNew_perm tb es ((PySem.strKind W.prog W.w).hash x) (.str x t)
 have hfits := layNew_fits tb es ((PySem.strKind W.prog W.w).hash x) (.str x t)
 have hleds := aGn tb es ((PySem.strKind W.prog W.w).hash x) (.str x t)
 have hfirst : es.size = 0 -> _ := λ q => aEJ (hsm (by omega)).1 (by have := hf; simp only [SetTable.fits, Bool.and_eq_true, beq_iff_eq] at this; omega) (hsm (by omega)).2 es q ((PySem.strKind W.prog W.w).hash x) (.str x t)
 generalize hL : layNew tb es ((PySem.strKind W.prog W.w).hash x) (.str x t) = L at hperm hfits hleds hfirst ⊢
 obtain ⟨es1, t1, wasDummy, gave⟩ := L
 dsimp only at hperm hfits hleds hfirst ⊢
 rw [Array.toList_push] at hperm
 have hel1 : ElemsOf (PySem.strKind W.prog W.w) es1.toList := (hel.push hkey rfl).perm hperm
 have hb1' : es1.size < scanBound := by rw [← Array.length_toList, hperm.length_eq, List.length_append, Array.length_toList]; simpa [hlen] using hn
 refine wpAny_bind (hgw _ ?_)
 have fin : ∀ h' o' es2 ep2 t3, Heap.SameBut a s.heap h' -> h'.get? a = some o' -> o'.ExactSet -> o'.data = .set es2 ep2 t3 -> es2.toList.Perm es1.toList -> t3.fits es2.size = true -> t3.led = t1.led -> t3.plain = false -> (t1.tooFull = false -> t3.mask = t1.mask /\ t3.dummies = t1.dummies) -> Q true { s with heap := h' } := by
  intro h' o' es2 ep2 t3 hsb ho' hex' hd' hp hf' hl' hpl' hsame
  refine h _ (S.set U (λ b o hb e => (hsb.2 b hb).trans e) ho' ⟨hex', es2, ep2, t3, hd', hel1.perm hp, ?_, hf', ?_, λ _ => hpl', λ q => ?_⟩ s.toks)
  ·have h1 : TxtsAre ((es.toList ++ [((PySem.strKind W.prog W.w).hash x, Value.str x t)]).map (·.2)) (ss' ++ [x]) := by
    rw [List.map_append]; exact htx.snoc x t
   obtain ⟨s2, a2, b2⟩ := TxtsAre.perm ((hp.trans hperm).map (·.2)) h1
   exact ⟨s2, a2, b2.trans (hpm.append_right _)⟩
  ·rw [hl', hleds]; exact hled
  ·have e1 : es2.size = es.size + 1 := by rw [← Array.length_toList, hp.length_eq, hperm.length_eq, List.length_append, Array.length_toList]; rfl
   obtain ⟨m1, d1, p1, z1⟩ := hfirst (by omega)
   have hfull : t1.tooFull = false := by
    unfold SetTable.tooFull SetTable.fill
    rw [p1, d1, m1]; rfl
   obtain ⟨q1, q2⟩ := hsame hfull
   exact ⟨q1.trans m1, q2.trans d1⟩
 split
 ·refine wpAny_bind ?_
  refine wpAny_pure ?_
  refine tailL ?_ ho hex hd hb1' ?_ ?_ ?_
  ·intro b s₁ Q' hq; cases b <;> first | exact wpAny_pure hq | exact wpAny_rule hq
  ·split
   ·exact hfits
   ·exact SetTable.fits_plain_off hfits
  ·rfl
  ·intro h' o' es2 ep2 t3 hsb ho' hex' hd' hp hf' hl' hpl' hsame
   exact wpAny_pure (fin h' o' es2 ep2 t3 hsb ho' hex' hd' hp hf' hl' hpl' λ q => by rw [hsame q]; exact ⟨rfl, rfl⟩)
 ·rename_i hpf
  refine wpAny_bind (wpAny_pure ?_)
  refine tailL ?_ ho hex hd hb1' hfits (by simpa using hpf) ?_
  ·intro b s₁ Q' hq; cases b <;> first | exact wpAny_pure hq | exact wpAny_rule hq
  ·intro h' o' es2 ep2 t3 hsb ho' hex' hd' hp hf' hl' hpl' hsame
   exact wpAny_pure (fin h' o' es2 ep2 t3 hsb ho' hex' hd' hp hf' hl' hpl' λ q => by rw [hsame q]; exact ⟨rfl, rfl⟩)
end
end Mine
end
section
namespace Mine
noncomputable def IsDE (W : Wd) (d : Addr) (kvs : List (Str × Value)) (ep : Nat) : Cell := λ o => d ≠ sysModules /\ ∃ es, o.ExactDict /\ o.data = .dict es ep /\ KeysOf (PySem.strKind W.prog W.w) es /\ Pairs (PySem.strKind W.prog W.w) es.toList kvs /\ (kvs.map (·.1)).Nodup
theorem aB9 : isSubtype (.type "dict") (.type "frozenset") = pure false := by rw [isSubtype_type]; kernel_rfl
section
variable {W : Wd} {G : Gens} {env : Env} {loc loc' : Loc} {nw nw' : Ledger} {s : Shared} {A : Around} {E : Value -> Shared -> Prop}
theorem Sta.dictE {d : Addr} {kvs : List (Str × Value)} {ep : Nat} (S : Sta W G env loc nw s) (m : (d, IsDE W d kvs ep) ∈ nw) : s.heap.DictAt (PySem.strKind W.prog W.w) d kvs ep /\ (d == sysModules) = false := by
 obtain ⟨o, ho, hne, es, r⟩ := S.get m
 exact ⟨⟨o, es, ho, r⟩, by rw [beq_eq_false_iff_ne]; exact hne⟩
theorem aIc {d : Addr} {kvs : List (Str × Value)} {ep : Nat} {o : Obj} (h : IsDE W d kvs ep o) : IsD W d kvs o := by
 obtain ⟨hne, es, r⟩ := h
 exact ⟨hne, es, ep, r⟩
theorem Sta.addT {a : Addr} {ss : List Str} {x : Str} {t : Tok} {Q : Bool -> Shared -> Prop} (S : Sta W G env loc nw s) (U : Upd a (IsSL W ss) (IsSL W (ss ++ [x])) nw nw') (hx : x ∉ ss) (hn : ss.length + 1 < scanBound) (h : ∀ s', Sta W G env loc nw' s' -> Q true s') :
  wpAny (model W.prog W.w) A (PySem.setAdd a (.str x t)) Q E s := by
 unfold PySem.setAdd
 refine wpAny_holding (wpAny_bind ((PySem.strKind W.prog W.w).pyHash (strKind_is _ _ x t) ?_))
 exact (S.toks _).addL U hx hn h
theorem Pull.mem' {α : Type} {p : α} {l l' : List α} (h : Pull p l l') : p ∈ l := by
 induction h with
 | head => exact .head _
 | tail h ih => exact .tail _ ih
theorem Sta.lost {it : Addr} {c : Cell} {N : Ledger} {h' : Heap} (S : Sta W G env loc nw s) (p : Pull (it, c) nw N) (hx : Heap.ExtBut it s.heap h') : Sta W G env loc N { s with heap := h' } := by
 have hB := (S.led.own _ (.tail _ p.mem')).1
 have D := S.led.perm ((p.perm.cons _).trans (List.Perm.swap ..))
 have nd := D.nodup
 rw [List.map_cons, List.nodup_cons] at nd
 refine ⟨S.ok, S.eok, ⟨λ b o e => hx b o (λ q => by rw [q, hB] at e; cases e) (S.led.keep b o e), λ q hq => ?_, nd.2⟩, S.bare, S.os, S.gens, S.gnd⟩
 obtain ⟨h1, o, ho, hc⟩ := D.own q (.tail _ hq)
 exact ⟨h1, o, hx _ _ (λ e => nd.1 (List.mem_map.mpr ⟨q, hq, e⟩)) ho, hc⟩
noncomputable def IsKI (d : Addr) (i n ep : Nat) : Cell := λ o => o.cls = .type "dict_keyiterator" /\ o.data = .fields #[.ref d, .int i 0, .int n 0, .int ep 0]
theorem Sta.keysLoop {a d it : Addr} {kvs : List (Str × Value)} {ep : Nat} {R : Result -> Shared -> Prop} (hA : Aok 2 A) : ∀ (m i : Nat), kvs.length - i = m -> i <= kvs.length -> ∀ {ss : List Str} {N : Ledger} {s : Shared},
  Sta W G env loc ((a, IsSL W ss) :: (it, IsKI d i kvs.length ep) :: (d, IsDE W d kvs ep) :: N) s -> (∀ x ∈ (kvs.drop i).map (·.1), x ∉ ss) -> (kvs.map (·.1)).Nodup -> ss.length + (kvs.length - i) + 1 < scanBound ->
  (∀ s', Sta W G env loc ((a, IsSL W (ss ++ (kvs.drop i).map (·.1))) :: (d, IsDE W d kvs ep) :: N) s' -> R (.ok (.ret .none)) s') ->
  codeAny (model W.prog W.w) A (.builtin "set.update.loop" ⟨[.ref a, .ref it], []⟩) R s
 | 0, i, hm, hi, ss, N, s, S, hx, hnd, hb, k => by
  obtain ⟨o, ho, hc⟩ := S.get (.tail _ (.head _))
  have hD := (S.dictE (.tail _ (.tail _ (.head _)))).1
  have e0 : kvs.drop i = [] := List.drop_of_length_le (by omega)
  refine codeAny_builtin F.entry_set_update_loop ?_
  refine wpAny_bind (wpAny_pyNext_dict_end hA.handled ⟨o, ho, hc.1, hc.2⟩ hD (List.getElem?_eq_none (by omega)) λ h' hx' => ?_)
  rw [e0] at k
  simp only [List.map_nil, List.append_nil] at k
  exact wpAny_pure (k _ (S.lost (.tail .head) hx'))
 | m + 1, i, hm, hi, ss, N, s, S, hx, hnd, hb, k => by
  obtain ⟨o, ho, hc⟩ := S.get (.tail _ (.head _))
  have hD := (S.dictE (.tail _ (.tail _ (.head _)))).1
  have hlt : i < kvs.length := by omega
  have e0 : kvs.drop i = kvs[i] :: kvs.drop (i + 1) := List.drop_eq_getElem_cons hlt
  refine codeAny_builtin F.entry_set_update_loop ?_
  show wpAny _ A.in1 (pyNext (.ref it) >>= _) _ _ s
  refine wpAny_bind (wpAny_pyNext_dict_item (k := kvs[i].1) (v := kvs[i].2) ⟨o, ho, hc.1, hc.2⟩ hD (List.getElem?_eq_getElem hlt) λ key h' hkey hit hsb => ?_)
  obtain ⟨tk, rfl⟩ := Value.isStrOf_shape hkey
  obtain ⟨o', ho', hc1, hc2⟩ := hit
  have S1 : Sta W G env loc ((a, IsSL W ss) :: (it, IsKI d (i + 1) kvs.length ep) :: (d, IsDE W d kvs ep) :: N) { s with heap := h' } := S.set (.tail .head) (λ b o hb e => (hsb.2 b hb).trans e) ho' ⟨hc1, hc2⟩ s.toks
  rw [e0, List.map_cons] at hx k
  refine wpAny_bind (wpAny_holding (S1.addT .head (hx _ (.head _)) (by omega) λ s2 S2 => ?_))
  refine wpAny_pure ⟨plainId_quiet F.plain_set_update_loop _, ?_⟩
  refine Sta.keysLoop hA m (i + 1) (by omega) hlt S2 (λ x hx' hm' => ?_) hnd (by rw [List.length_append, List.length_singleton]; omega) λ s3 S3 => ?_
  ·rcases List.mem_append.mp hm' with q | q
   ·exact hx x (.tail _ hx') q
   ·rw [List.mem_singleton] at q
    subst q
    have nd2 : ((kvs.drop i).map (·.1)).Nodup := hnd.sublist ((List.drop_sublist i kvs).map _)
    rw [e0, List.map_cons, List.nodup_cons] at nd2
    exact nd2.1 hx'
  ·refine k _ ?_
   simpa using S3
theorem Pairs.at' {es : List DictEntry} {kvs : List (Str × Value)} (h : Pairs (PySem.strKind W.prog W.w) es kvs) : ∀ (i : Nat) (hi : i < kvs.length), ∃ e, es[i]? = some e /\ (PySem.strKind W.prog W.w).is kvs[i].1 e.key = true /\ e.val = kvs[i].2 := by
 induction h with
 | nil => intro i hi; simp at hi
 | @cons e kv es kvs h1 h2 h3 ih =>
  intro i hi
  cases i with
  | zero => exact ⟨e, rfl, h1, h2⟩
  | succ i => simpa using ih i (by simpa using hi)
theorem aDZ {t : SetTable} {n : Nat} (hm : t.mask = 7) (hd : t.dummies = #[]) (hp : t.place.size + n <= 4) : t.roomFor n = none := by
 unfold SetTable.roomFor SetTable.fill
 rw [hd, if_neg]
 simp
 omega
theorem aCQ {n : Nat} {β : Type} (b : β) (f : Nat -> β -> Sem (ForInStep β)) : (forIn [0:n] b f : Sem β) = forIn (List.range' 0 n) b f := by
 simp
theorem Sta.starGo {a d : Addr} {kvs : List (Str × Value)} {ep : Nat} {Q : Unit -> Shared -> Prop} (f : Nat -> Unit -> Sem (ForInStep Unit))
  (hf : ∀ i u, f i u = (do
   let some e := (← dictEntries d)[i]? | unsupported "dict.changed-during-merge"
   holding [e.key] (do let _ ← setAddHashed a e.key e.hash)
   if (← dictEpoch d) != ep then unsupported "dict.changed-during-merge"
   pure (.yield ()))) : ∀ (m i : Nat), kvs.length - i = m -> i <= kvs.length -> ∀ {ss : List Str} {N : Ledger} {s : Shared},
  Sta W G env loc ((a, IsSL W ss) :: (d, IsDE W d kvs ep) :: N) s -> (∀ x ∈ (kvs.drop i).map (·.1), x ∉ ss) -> (kvs.map (·.1)).Nodup -> ss.length + (kvs.length - i) + 1 < scanBound ->
  (∀ s', Sta W G env loc ((a, IsSL W (ss ++ (kvs.drop i).map (·.1))) :: (d, IsDE W d kvs ep) :: N) s' -> Q () s') ->
  wpAny (model W.prog W.w) A (forIn (List.range' i m) () f) Q E s
 | 0, i, hm, hi, ss, N, s, S, hx, hnd, hb, k => by
  have e0 : kvs.drop i = [] := List.drop_of_length_le (by omega)
  rw [e0] at k
  simp only [List.map_nil, List.append_nil] at k
  exact wpAny_pure (k _ S)
 | m + 1, i, hm, hi, ss, N, s, S, hx, hnd, hb, k => by
  obtain ⟨o, ho, hne, es, hex, hd, hk, hp, hn⟩ := S.get (.tail _ (.head _))
  have hlt : i < kvs.length := by omega
  have hle := hp.length
  rw [Array.length_toList] at hle
  have e0 : kvs.drop i = kvs[i] :: kvs.drop (i + 1) := List.drop_eq_getElem_cons hlt
  rw [List.range'_succ, List.forIn_cons, hf]
  obtain ⟨e, he, hkey, hval⟩ := Pairs.at' hp i hlt
  have he2 : es[i]? = some e := by rw [← Array.getElem?_toList]; exact he
  obtain ⟨k0, hk0, hh0⟩ := hk e (Array.mem_toList_iff.mp (List.mem_of_getElem? he))
  obtain ⟨tk, hkk⟩ := Value.isStrOf_shape hkey
  have hke : k0 = kvs[i].1 := (PySem.strKind W.prog W.w).inj _ _ _ hk0 hkey
  subst hke
  refine wpAny_bind (wpAny_bind (wpAny_dictEntries ho hd ?_))
  rw [he2]
  rw [e0, List.map_cons] at hx k
  refine wpAny_bind (wpAny_holding ?_)
  rw [hkk, hh0]
  refine wpAny_bind (S.addL .head (hx _ (.head _)) (by omega) λ s2 S2 => wpAny_pure ?_)
  obtain ⟨o2, ho2, _, es2, hex2, hd2, _⟩ := S2.get (.tail _ (.head _))
  refine wpAny_bind (wpAny_dictEpoch ho2 hd2 ?_)
  have ee : (ep != ep) = false := by simp
  rw [ee]
  refine wpAny_pure ?_
  refine Sta.starGo f hf m (i + 1) (by omega) hlt S2 (λ x hx' hm' => ?_) hnd (by rw [List.length_append, List.length_singleton]; omega) λ s3 S3 => ?_
  ·rcases List.mem_append.mp hm' with q | q
   ·exact hx x (.tail _ hx') q
   ·rw [List.mem_singleton] at q
    subst q
    have nd2 : ((kvs.drop i).map (·.1)).Nodup := hnd.sublist ((List.drop_sublist i kvs).map _)
    rw [e0, List.map_cons, List.nodup_cons] at nd2
    exact nd2.1 hx'
  ·refine k _ ?_
   simpa using S3
theorem Sta.star {a d : Addr} {kvs : List (Str × Value)} {x : Str} {N : Ledger} {Q : Unit -> Shared -> Prop} (S : Sta W G env loc ((a, IsSL W [x]) :: (d, IsD W d kvs) :: N) s) (hA : Aok 3 A) (hx : x ∉ kvs.map (·.1)) (hz : kvs.length <= 3)
  (k : ∀ s', Sta W G env loc ((a, IsSL W (x :: kvs.map (·.1))) :: (d, IsD W d kvs) :: N) s' -> Q () s') : wpAny (model W.prog W.w) A (setDisplayStar a (.ref d)) Q E s := by
 obtain ⟨o, ho, hne, es0, ep0, hex0, hd0, hk0, hp0, hnd⟩ := S.get (.tail _ (.head _))
 have hT : s.TypeIs (.ref d) "dict" := ⟨o, ho, hex0.1⟩
 have S1 : Sta W G env loc ((a, IsSL W [x]) :: (d, IsDE W d kvs ep0) :: N) s := S.tell (.tail .head) λ o' ho' _ => by rw [ho] at ho'; cases ho'; exact ⟨hne, es0, hex0, hd0, hk0, hp0, hnd⟩
 have back : ∀ s', Sta W G env loc ((a, IsSL W (x :: kvs.map (·.1))) :: (d, IsDE W d kvs ep0) :: N) s' -> Q () s' := λ s' S' => k _ (S'.tell (.tail .head) λ o _ h => aIc h)
 have hxs : ∀ y ∈ (kvs.drop 0).map (·.1), y ∉ [x] := λ y hy q => by
  rw [List.mem_singleton] at q; subst q; exact hx (by simpa using hy)
 have hb : [x].length + (kvs.length - 0) + 1 < scanBound := by
  simp; omega
 refine wpAny_bind (wpAny_isInstance hT F.sub_dict_set ?_)
 refine wpAny_bind (wpAny_isInstance hT aB9 ?_)
 refine wpAny_bind (wpAny_askSetting ?_)
 have hmods : (d == sysModules) = false := by rw [beq_eq_false_iff_ne]; exact hne
 have byIter : wpAny (model W.prog W.w) A (do
   let it ← pyIter (.ref d)
   let _ ← runValue (Code.builtin "set.update.loop" ⟨[.ref a, it], []⟩)
   pure ()) Q E s := by
  have hD := (S1.dictE (.tail _ (.head _))).1
  refine wpAny_bind (wpAny_pyIter_dict hmods hD ?_)
  have S2 := S1.new (c := IsKI d 0 kvs.length ep0) (o := { cls := .type "dict_keyiterator", data := .fields #[.ref d, .int 0 0, .int kvs.length 0, .int ep0 0] }) rfl ⟨rfl, rfl⟩ s.toks
  refine wpAny_bind (wpAny_runValue ?_)
  refine Sta.keysLoop (a := a) (d := d) (it := s.heap.objs.size) (kvs := kvs) (ep := ep0) (hA.le (by first | decide | omega)) kvs.length 0 (by omega) (by omega) (S2.perm (List.Perm.swap ..)) hxs hnd hb λ s' S' => ?_
  exact wpAny_pure (back _ (by simpa using S'))
 cases hby : (Setting.mk (model W.prog W.w).prog (model W.prog W.w).w.params).params.followText "set-display-star-reads-storage" with
 | true =>
  exact byIter
 | false =>
  refine wpAny_bind (wpAny_typeOf hT ?_)
  have e1 : (Value.type "dict" == Value.type "dict") = true := by decide
  refine wpAny_bind (wpAny_rule ?_)
  rw [hmods]
  refine wpAny_bind (wpAny_dictEpoch ho hd0 ?_)
  refine wpAny_bind (wpAny_dictEntries ho hd0 ?_)
  have hle := hp0.length
  rw [Array.length_toList] at hle
  obtain ⟨oa, hoa, hexa, esa, epa, ta, hda, hela, ⟨ssa, htxa, hpma⟩, hfa, _, _, hsma⟩ := S1.get (.head _)
  have hsz : esa.size = 1 := by
   have := htxa.length
   rw [List.length_map, Array.length_toList] at this
   rw [this, hpma.length_eq]; rfl
  have hroom : wpAny (model W.prog W.w) A (setRoomFor a es0.size) (λ _ s' => s' = s) E s := by
   unfold setRoomFor
   refine wpAny_bind (wpAny_setState_of hoa hda hfa ?_)
   have hpl : ta.place.size = 1 := by
    have := hfa; simp only [SetTable.fits, Bool.and_eq_true, beq_iff_eq] at this; omega
   rw [aDZ (hsma (by omega)).1 (hsma (by omega)).2 (by omega)]
   exact wpAny_pure rfl
  refine wpAny_bind (wpAny_mono hroom (λ _ s' e => ?_) λ _ _ e => e)
  subst e
  refine wpAny_bind ?_
  rw [hle]
  rw [aCQ]
  refine Sta.starGo (ep := ep0) _ (λ i u => ?_) kvs.length 0 (by omega) (by omega) S1 hxs hnd hb λ s' S' => wpAny_pure (back _ (by simpa using S'))
  rfl
theorem aGp (led : Bool) (hl : led = true \/ W.w.params.followText "set-order" = true) : IsSL W [] { cls := .type "set", dict := none, data := .set #[] 0 (.fresh 0 0 led) } :=
 ⟨⟨rfl, rfl, rfl⟩, #[], 0, _, rfl, λ e he => by simp at he, ⟨[], .nil, .refl _⟩, by rfl, hl, λ h => absurd rfl h, λ _ => ⟨rfl, rfl⟩⟩
theorem Sta.newSL {Q : Value -> Shared -> Prop} (S : Sta W G env loc nw s) (h : ∀ a s', Sta W G env loc ((a, IsSL W []) :: nw) s' -> Q (.ref a) s') : wpAny (model W.prog W.w) A (PySem.newSet (.type "set")) Q E s := by
 refine wpAny_bind (wpAny_bind (wpAny_askSetting (wpAny_pure ?_)))
 dsimp only
 refine wpAny_bind (wpAny_alloc (wpAny_pure (h _ _ (S.new (c := IsSL W []) rfl (aGp _ ?_) s.toks))))
 cases q : W.w.params.followText "set-order" with
 | true => exact .inr rfl
 | false => exact .inl (by show (!W.w.params.followText "set-order") = true; rw [q]; rfl)
theorem Sta.setDisp {n1 n2 : Str} {p1 p2 p3 pos : Pos} {x : Str} {t : Tok} {d c : Addr} {oc : Obj} {vs : Array Value} {kvs : List (Str × Value)} {Q : Value -> Shared -> Prop} (S : Sta W G env loc nw s) (hA : Aok 3 A) (h1 : (n1, some (.str x t)) ∈ loc) (h2 : (n2, some (.ref d)) ∈ loc)
  (hc : env.code = .ref c) (hoc : W.K.lookup c = some oc) (hdc : oc.data = .fields vs) (hfl : ∃ f tf, vs.getD 18 .none = .str f tf) {N : Ledger} (hd : Pull (d, IsD W d kvs) nw N) (hx : x ∉ kvs.map (·.1)) (hz : kvs.length <= 3)
  (h : ∀ a s', Sta W G env loc ((a, IsSL W (x :: kvs.map (·.1))) :: (d, IsD W d kvs) :: N) s' -> Q (.ref a) s') :
  wpAny (model W.prog W.w) A (eval (.Set [.Name n1 p1, .Starred (.Name n2 p2) p3] 0 pos) env) Q E s := by
 refine wpAny_bind (wpAny_standAt ?_)
 obtain ⟨f, tf, hf⟩ := hfl
 have hcode : (env.code == .none) = false := by rw [hc]; rfl
 unfold inMainModule
 rw [hc]
 refine wpAny_bind (wpAny_bind (wpAny_fieldsOf (S.kin _ _ hoc) hdc ?_))
 rw [hf]
 refine wpAny_bind (wpAny_askSetting (wpAny_pure ?_))
 have e1 : displayRoad 0 [.Name n1 p1, .Starred (.Name n2 p2) p3] = .oneByOne := rfl
 have e2 : starEach [.Name n1 p1, .Starred (.Name n2 p2) p3] env = [(false, eval (.Name n1 p1) env), (true, eval (.Name n2 p2) env)] := rfl
 rw [e1, e2]
 unfold setDisplay
 have e3 : (DisplayRoad.oneByOne == DisplayRoad.constants) = false := rfl
 have e4 : (DisplayRoad.oneByOne == DisplayRoad.unsure) = false := rfl
 refine wpAny_bind (S.newSL λ a s1 S1 => ?_)
 have e5 : (if (List.map (λ x : Bool × Sem Value => (x.1, do let v ← x.2; standAt pos; pure v)) [(false, eval (.Name n1 p1) env), (true, eval (.Name n2 p2) env)]).length > 30 then 0 else
   (List.findIdx? (λ x => x.1) (List.map (λ x : Bool × Sem Value => (x.1, do let v ← x.2; standAt pos; pure v)) [(false, eval (.Name n1 p1) env), (true, eval (.Name n2 p2) env)])).getD
    (List.map (λ x : Bool × Sem Value => (x.1, do let v ← x.2; standAt pos; pure v)) [(false, eval (.Name n1 p1) env), (true, eval (.Name n2 p2) env)]).length) = 1 := rfl
 rw [e5]
 simp only [List.map_cons, List.map_nil, List.take_succ_cons, List.take_zero, List.drop_succ_cons, List.drop_zero]
 refine wpAny_bind (wpAny_holding ?_)
 refine wpAny_bind (wpAny_evalAll_cons ?_)
 refine wpAny_bind (S1.local_ h1 (wpAny_bind (wpAny_standAt (wpAny_pure ?_))))
 refine wpAny_evalAll_nil ?_
 refine wpAny_bind (wpAny_holding ?_)
 rw [List.forIn_cons]
 refine wpAny_bind (wpAny_bind (wpAny_bind (S1.addT (ss := []) .head (by simp) (by decide) λ s2 S2 => wpAny_pure ?_)))
 dsimp only
 refine wpAny_pure ?_
 refine wpAny_pure ?_
 rw [List.forIn_cons]
 refine wpAny_bind (wpAny_bind (wpAny_bind (wpAny_bind (S2.local_ h2 (wpAny_bind (wpAny_standAt (wpAny_pure ?_)))))))
 refine wpAny_bind (wpAny_holding ?_)
 refine Sta.star (a := a) (kvs := kvs) (x := x) (N := N) (S2.perm (hd.perm.cons _)) hA hx hz λ s3 S3 => ?_
 refine wpAny_pure ?_
 dsimp only
 refine wpAny_pure (wpAny_pure (wpAny_pure (h _ _ S3)))
end
end Mine
end
section
namespace Mine
theorem aCz {α : Type} : ∀ {l : List α} {i : Nat} (h : i < l.length), (l[i] :: l.eraseIdx i).Perm l
 | x :: l, 0, _ => by simp
 | x :: l, i + 1, h => by
  have := aCz (l := l) (i := i) (by simpa using h)
  exact (List.Perm.swap ..).trans (this.cons _)
section
variable {W : Wd} {G : Gens} {env : Env} {loc loc' : Loc} {nw nw' : Ledger} {s : Shared} {A : Around} {E : Value -> Shared -> Prop}
theorem aEp {M : Model} {src : Source} {n : Nat} {Q : Nat -> Shared -> Prop} (hn : n ≠ 0) (h : ∀ i d, i < n -> Q i { s with drawn := d }) : wpAny M A (choose src n) Q E s :=
 λ _ _ _ => ⟨hn, h _ _ (Nat.mod_lt _ (by omega))⟩
theorem Sta.drawn (S : Sta W G env loc nw s) (d : Drawn) : Sta W G env loc nw { s with drawn := d } := ⟨S.ok, S.eok, S.led, S.bare, S.os, S.gens, S.gnd⟩
theorem Sta.drawOrder {α : Type} {M : Model} (n : Nat) : ∀ (xs : List α) {Q : List α -> Shared -> Prop} {s : Shared}, xs.length = n -> Sta W G env loc nw s -> (∀ ys s', ys.Perm xs -> Sta W G env loc nw s' -> Q ys s') -> wpAny M A (PySem.drawOrder n xs) Q E s := by
 induction n with
 | zero =>
  intro xs Q s hn S h
  have : xs = [] := List.length_eq_zero_iff.mp hn
  subst this
  exact wpAny_pure (h [] _ (.refl _) S)
 | succ n ih =>
  intro xs Q s hn S h
  cases xs with
  | nil => exact absurd hn (by simp)
  | cons x xs =>
   refine wpAny_bind (aEp (by simp) λ i d hi => ?_)
   rw [List.getElem?_eq_getElem hi]
   dsimp only
   refine wpAny_bind (ih ((x :: xs).eraseIdx i) (by rw [List.length_eraseIdx_of_lt hi, hn]; rfl) (S.drawn d) λ ys s' hp S' => ?_)
   refine wpAny_pure (h _ _ ?_ S')
   exact (hp.cons _).trans (aCz hi)
theorem aG1 {α : Type} (next : Nat -> Nat) : ∀ (fuel k : Nat) (left : List α) (out : Array α), left.length = fuel -> (pickOrder.go next fuel k left out).toList.Perm (out.toList ++ left)
 | 0, k, left, out, h => by
  have : left = [] := List.length_eq_zero_iff.mp h
  subst this
  show out.toList.Perm (out.toList ++ [])
  rw [List.append_nil]
 | fuel + 1, k, left, out, h => by
  have hlt : next k % left.length < left.length := Nat.mod_lt _ (by omega)
  have e : pickOrder.go next (fuel + 1) k left out = pickOrder.go next fuel (k + 1) (left.eraseIdx (next k % left.length)) (out.push left[next k % left.length]) := by
   show (match left[next k % left.length]? with | some x => pickOrder.go next fuel (k + 1) (left.eraseIdx (next k % left.length)) (out.push x) | none => out) = _
   rw [List.getElem?_eq_getElem hlt]
  rw [e]
  refine (aG1 next fuel (k + 1) _ _ (by rw [List.length_eraseIdx_of_lt hlt, h]; rfl)).trans ?_
  rw [Array.toList_push, List.append_assoc]
  exact List.Perm.append_left _ (aCz hlt)
theorem aG0 {α : Type} (next : Nat -> Nat) (xs : Array α) : (pickOrder next xs).toList.Perm xs.toList := by
 unfold pickOrder
 simpa using aG1 next xs.size 0 xs.toList #[] rfl
end
end Mine
end
section
namespace Mine
theorem aFl : typeLookup (.type "set") "__iter__" = pure (some (.builtin "set.__iter__")) := by rw [typeLookup_type, builtinLookup_eq_fast]; kernel_rfl
theorem aCw : typeLookup (.type "set_iterator") "__next__" = pure (some (.builtin "set_iterator.__next__")) := by rw [typeLookup_type, builtinLookup_eq_fast]; kernel_rfl
theorem aCc : Slot "set" "__iter__" "set.__iter__" :=
 Slot.of aFl (owner := "set") (n := "__iter__") (by decide +kernel) (by decide +kernel) (by decide +kernel) (.inl (by decide +kernel)) (by rw [isSubtype_type]; kernel_rfl)
theorem aAG : Slot "set_iterator" "__next__" "set_iterator.__next__" :=
 Slot.of aCw (owner := "set_iterator") (n := "__next__") (by decide +kernel) (by decide +kernel) (by decide +kernel) (.inl (by decide +kernel)) (by rw [isSubtype_type]; kernel_rfl)
theorem aDs : entryFor table "set.__iter__" = some Builtin.«frozenset.__iter__» := entryFor_alias (id' := "frozenset.__iter__") (by kernel_rfl) rfl (by decide +kernel) (by kernel_rfl)
theorem aBf : entryFor table "set_iterator.__next__" = some Builtin.«set_iterator.__next__» := entryFor_of_tree (by kernel_rfl)
theorem aEl (a : Value) : argsOk "set.__iter__" ⟨[a], []⟩ := by unfold argsOk; kernel_rfl
theorem aBq (a : Value) : argsOk "set_iterator.__next__" ⟨[a], []⟩ := by unfold argsOk; kernel_rfl
noncomputable def IsSI (first : Value) (i : Nat) (a : Addr) (n ep : Nat) : Cell := λ o => o.cls = .type "set_iterator" /\ o.data = .fields #[first, .int i 0, .ref a, .int n 0, .int ep 0]
section
variable {W : Wd} {G : Gens} {env : Env} {loc loc' : Loc} {nw nw' : Ledger} {s : Shared} {A : Around} {E : Value -> Shared -> Prop}
theorem aFo {a : Addr} {o : Obj} {es : Array (Int × Value)} {ep : Nat} {tb : SetTable} {Q : PySem.Fin -> Shared -> Prop} (S : Sta W G env loc nw s) (ma : (a, aAX o) ∈ nw) (hex : o.ExactSet) (hd : o.data = .set es ep tb) (hf : tb.fits es.size = true) (hz : es.size <= 4000)
  (h1 : W.w.params.followText "set-order" = true \/ tb.plain = true \/ es.size <= 1 -> ∀ it s', Sta W G env loc ((it, IsSI (rawInt 0) 0 a es.size ep) :: nw) s' -> Q (.done (.ret (.ref it))) s')
  (h2 : W.w.params.followText "set-order" = false -> tb.plain = false -> 1 < es.size -> ∀ (ps : List Nat) it tp s', ps.Perm (List.range es.size) -> Sta W G env loc ((it, IsSI (.ref tp) 0 a es.size ep) :: (tp, aAo (ps.map λ (i : Nat) => rawInt i)) :: nw) s' -> Q (.done (.ret (.ref it))) s') :
  wpAny (model W.prog W.w) A (Builtin.«frozenset.__iter__» ⟨[.ref a], []⟩) Q E s := by
 unfold Builtin.«frozenset.__iter__»
 have ho : s.heap.get? a = some o := by
  obtain ⟨o', ho', rfl⟩ := S.get ma
  exact ho'
 have S0 := S
 obtain ⟨h, g, d, t, os⟩ := s
 repeat lk
 rw [hd]
 dsimp only
 have hcond : (tb.place.size != es.size || decide (tb.fill > tb.mask)) = false := by
  have := hf
  simp only [SetTable.fits, Bool.and_eq_true, beq_iff_eq, decide_eq_true_eq] at this
  rw [this.1]
  simp only [bne_self_eq_false, Bool.false_or]
  exact decide_eq_false (by omega)
 rw [hcond]
 refine wpAny_pure (wpAny_pure (wpAny_pure ?_))
 dsimp only
 have hdr : wpAny (model W.prog W.w) A (setDrawn a) (λ b s' => s' = ⟨h, g, d, t, os⟩ /\ b = (!W.w.params.followText "set-order" && (!tb.plain && decide (es.size > 1)))) E ⟨h, g, d, t, os⟩ := by
  refine wpAny_bind (wpAny_setState_of ho hd hf ?_)
  exact wpAny_bind (wpAny_bind (wpAny_askSetting (wpAny_pure (wpAny_pure ⟨rfl, rfl⟩))))
 refine wpAny_bind (wpAny_mono hdr (λ b s' q => ?_) λ _ _ e => e)
 obtain ⟨rfl, hb⟩ := q
 cases b with
 | true =>
  have hb' := hb.symm
  simp only [Bool.and_eq_true, Bool.not_eq_true', decide_eq_true_eq] at hb'
  refine wpAny_bind (S0.drawOrder es.size (List.range es.size) (by simp) λ ps s1 hp S1 => ?_)
  refine wpAny_bind (S1.newTuple (by rw [List.length_map, hp.length_eq, List.length_range, sizeLine_eq]; omega) λ tp s2 S2 => ?_)
  obtain ⟨o2, ho2, rfl⟩ := S2.get (.tail _ ma)
  refine wpAny_bind (wpAny_setEpoch_of ho2 hd hf ?_)
  refine wpAny_bind (wpAny_newObj_type ?_)
  exact wpAny_pure (h2 hb'.1 hb'.2.1 hb'.2.2 ps _ tp _ hp (S2.new (c := IsSI (.ref tp) 0 a es.size ep) rfl ⟨rfl, rfl⟩ s2.toks))
 | false =>
  refine wpAny_bind (wpAny_pure ?_)
  refine wpAny_bind (wpAny_setEpoch_of ho hd hf ?_)
  refine wpAny_bind (wpAny_newObj_type ?_)
  refine wpAny_pure (h1 ?_ _ _ (S0.new (c := IsSI (rawInt 0) 0 a es.size ep) rfl ⟨rfl, rfl⟩ t))
  have hb' := hb.symm
  rcases q1 : W.w.params.followText "set-order" with _ | _
  ·rw [q1] at hb'
   rcases q2 : tb.plain with _ | _
   ·rw [q2] at hb'
    simp at hb'
    exact .inr (.inr (by omega))
   ·exact .inr (.inl rfl)
  ·exact .inl rfl
theorem St0.get {a : Addr} {c : Cell} (S : St0 W G nw s) (m : (a, c) ∈ nw) : ∃ o, s.heap.get? a = some o /\ c o := S.led.get m
theorem St0.set {a : Addr} {c c' : Cell} {o : Obj} {h' : Heap} (S : St0 W G nw s) (U : Upd a c c' nw nw') (hs : ∀ b o, b ≠ a -> s.heap.get? b = some o -> h'.get? b = some o) (ho : h'.get? a = some o) (hc : c' o) (t : Nat) : St0 W G nw' { s with heap := h', toks := t } :=
 ⟨S.ok, S.led.set U hs ho hc, S.bare, S.os, S.gens, S.gnd⟩
theorem St0.lost {it : Addr} {c : Cell} {N : Ledger} {h' : Heap} (S : St0 W G nw s) (p : Pull (it, c) nw N) (hx : Heap.ExtBut it s.heap h') : St0 W G N { s with heap := h' } := by
 have D := S.led.perm p.perm
 have hB := (D.own _ (.head _)).1
 have nd := D.nodup
 rw [List.map_cons, List.nodup_cons] at nd
 refine ⟨S.ok, ⟨λ b o e => hx b o (λ q => by rw [q, hB] at e; cases e) (S.led.keep b o e), λ q hq => ?_, nd.2⟩, S.bare, S.os, S.gens, S.gnd⟩
 obtain ⟨h1, o, ho, hc⟩ := D.own q (.tail _ hq)
 exact ⟨h1, o, hx _ _ (λ e => nd.1 (List.mem_map.mpr ⟨q, hq, e⟩)) ho, hc⟩
theorem aEr {Q : Option Value -> Shared -> Prop} {h' : Heap} {g : Array GenState} {d : Drawn} {tk : Nat} {os : OsState} (hh : A.handled = none) (hQ : ∀ h2, (∀ b o, h'.get? b = some o -> h2.get? b = some o) -> Q none ⟨h2, g, d, tk, os⟩) {R : PySem.Fin -> Shared -> Prop} :
  wpAny (model W.prog W.w) A.in1 (newExc (.type "StopIteration") [] >>= λ e => (raiseNew e : Sem PySem.Fin)) R
   (λ e s' => wpAny (model W.prog W.w) A (do if ← isInstance e (.type "StopIteration") then pure none else throw e) Q E s') ⟨h', g, d, tk, os⟩ := by
 refine wpAny_bind ?_
 refine wpAny_bind (wpAny_newObj_type ?_ (by size_fits))
 refine wpAny_bind (m := firstArgMember _ _) (wpAny_of_eq (a := Value.none) (by first | rfl | (simp only [firstArgMember]; rfl)) ?_)
 refine wpAny_newObj_type ?_ (by size_fits)
 refine wpAny_bind (wpAny_handled ?_)
 rw [show A.in1.handled = none from hh]
 refine wpAny_bind (wpAny_pure (wpAny_throw ?_))
 refine wpAny_bind (wpAny_isInstance (T := "StopIteration") (b := true) ⟨_, Heap.get?_push_size _ rfl, rfl⟩ isSubtype_stop ?_)
 exact wpAny_pure (hQ _ λ b o e => Heap.get?_push_of_some _ (Heap.get?_push_of_some _ e))
theorem St0.field {it a : Addr} {first first' : Value} {i i' n ep : Nat} {oi : Obj} (S : St0 W G nw s) (U : Upd it (IsSI first i a n ep) (IsSI first' i' a n ep) nw nw') (hoi : s.heap.get? it = some oi) (hc : oi.cls = .type "set_iterator") (hdi : oi.data = .fields #[first, .int i 0, .ref a, .int n 0, .int ep 0])
  (f : Array Value -> Array Value) (hf : f #[first, .int i 0, .ref a, .int n 0, .int ep 0] = #[first', .int i' 0, .ref a, .int n 0, .int ep 0]) : St0 W G nw' { s with heap := s.heap.update it (Obj.mapFields f) } :=
 S.set U (λ b o hb e => ((Heap.SameBut.update s.heap it _).2 b hb).trans e) (Heap.get?_update_self _ hoi (Obj.isFreed_of_fields (Obj.data_mapFields hdi _))) ⟨(Obj.cls_mapFields ..).trans hc, by rw [Obj.data_mapFields hdi, hf]⟩ s.toks
theorem aGj {it a tp : Addr} {i : Nat} {ps : List Nat} {o : Obj} {es : Array (Int × Value)} {ep : Nat} {tb : SetTable} {Q : Option Value -> Shared -> Prop} (S : St0 W G nw s) (U : Upd it (IsSI (.ref tp) i a es.size ep) (IsSI (.ref tp) (i + 1) a es.size ep) nw nw') (mt : (tp, aAo (ps.map λ (i : Nat) => rawInt i)) ∈ nw) (ma : (a, aAX o) ∈ nw)
  (hd : o.data = .set es ep tb) (hf : tb.fits es.size = true) (hi : i < ps.length) (hp : ps[i] < es.size) (h : ∀ s', St0 W G nw' s' -> Q (some es[ps[i]].2) s') : wpAny (model W.prog W.w) A (pyNext (.ref it)) Q E s := by
 obtain ⟨oi, hoi, hc, hdi⟩ := S.get U.mem
 obtain ⟨o', ho', rfl⟩ := S.get ma
 obtain ⟨ot, hot, nt, rfl⟩ := S.get mt
 have hT : s.TypeIs (.ref it) "set_iterator" := ⟨oi, hoi, hc⟩
 unfold pyNext
 refine wpAny_bind (wpAny_attempt (wpAny_callSpecial?_slot (name := Str.ofString "__next__") hT aAG (wpAny_call_entry aAG hT aBf ?_ (aBq _))))
 refine wpAny_bind (wpAny_pure ?_)
 refine wpAny_bind (wpAny_fieldsOf hoi hdi ?_)
 dsimp only
 refine wpAny_bind (wpAny_setEntries_of ho' hd hf ?_)
 have e1 : ((es.size : Int) != (es.size : Int)) = false := by simp
 rw [e1]
 refine wpAny_bind (wpAny_seqItems hot rfl ?_)
 dsimp only
 have e2 : ((ps.map λ (i : Nat) => rawInt i).toArray)[(i : Int).toNat]? = some (.int ps[i] 0) := by
  simp [hi, rawInt]
 rw [e2]
 unfold setNextDrawn
 refine wpAny_bind (wpAny_bind (wpAny_setState_of ho' hd hf ?_))
 have e3 : (ep != (ep : Int).toNat) = false := by simp
 dsimp only
 rw [e3]
 have e4 : es[(ps[i] : Int).toNat]? = some es[ps[i]] := by
  rw [Int.toNat_natCast]; exact Array.getElem?_eq_getElem hp
 rw [e4]
 refine wpAny_pure ?_
 refine wpAny_bind (wpAny_setField hoi hdi (by simp) ?_)
 refine wpAny_pure ⟨_, rfl, wpAny_pure (h _ ?_)⟩
 refine S.field U hoi hc hdi _ ?_
 rfl
theorem aHB {it a tp : Addr} {i : Nat} {ps : List Nat} {o : Obj} {es : Array (Int × Value)} {ep : Nat} {tb : SetTable} {N : Ledger} {Q : Option Value -> Shared -> Prop} (S : St0 W G nw s) (hh : A.handled = none) (P : Pull (it, IsSI (.ref tp) i a es.size ep) nw N) (mt : (tp, aAo (ps.map λ (i : Nat) => rawInt i)) ∈ nw) (ma : (a, aAX o) ∈ nw)
  (hd : o.data = .set es ep tb) (hf : tb.fits es.size = true) (hi : ps.length <= i) (h : ∀ s', St0 W G N s' -> Q none s') : wpAny (model W.prog W.w) A (pyNext (.ref it)) Q E s := by
 obtain ⟨oi, hoi, hc, hdi⟩ := S.get P.mem'
 obtain ⟨o', ho', rfl⟩ := S.get ma
 have hT : s.TypeIs (.ref it) "set_iterator" := ⟨oi, hoi, hc⟩
 unfold pyNext
 refine wpAny_bind (wpAny_attempt (wpAny_callSpecial?_slot (name := Str.ofString "__next__") hT aAG (wpAny_call_entry aAG hT aBf ?_ (aBq _))))
 refine wpAny_bind (wpAny_pure ?_)
 dsimp only
 refine wpAny_bind (wpAny_fieldsOf hoi hdi ?_)
 dsimp only
 refine wpAny_bind (wpAny_setEntries_of ho' hd hf ?_)
 have e1 : ((es.size : Int) != (es.size : Int)) = false := by simp
 rw [e1]
 obtain ⟨ot, hot, nt, rfl⟩ := S.get mt
 refine wpAny_bind (wpAny_seqItems hot rfl ?_)
 dsimp only
 have e2 : ((ps.map λ (i : Nat) => rawInt i).toArray)[(i : Int).toNat]? = none := by
  simp [hi]
 rw [e2]
 dsimp only
 refine wpAny_bind (wpAny_setField hoi hdi (by simp) ?_)
 have h2 := Heap.get?_update_self (Obj.mapFields (·.setIfInBounds 0 (rawInt 0))) hoi (Obj.isFreed_of_fields (Obj.data_mapFields hdi _))
 refine wpAny_bind (wpAny_setField h2 (Obj.data_mapFields hdi _) (by simp) ?_)
 refine aEr hh λ h3 hk => h _ (S.lost P λ b o hb e => hk b o ?_)
 exact ((Heap.SameBut.update _ it _).2 b hb).trans (((Heap.SameBut.update s.heap it _).2 b hb).trans e)
noncomputable def aDR (W : Wd) (a : Addr) (es : Array (Int × Value)) (ep : Nat) (tb : SetTable) (slot given : Nat) (r : Option (Value × Nat)) : Prop := ∀ A (s : Shared) o, s.heap.get? a = some o -> o.data = .set es ep tb -> tb.fits es.size = true -> ∀ (E : Value -> Shared -> Prop),
 wpAny (model W.prog W.w) A (setNext a slot given ep) (λ q s' => s' = s /\ q = r) E s
theorem aJa {it a : Addr} {o : Obj} {es : Array (Int × Value)} {ep : Nat} {tb : SetTable} {Q : Option Value -> Shared -> Prop} {slot slot' i : Nat} {v : Value} (S : St0 W G nw s) (hn : aDR W a es ep tb slot i (some (v, slot'))) (U : Upd it (IsSI (rawInt slot) i a es.size ep) (IsSI (rawInt slot') (i + 1) a es.size ep) nw nw') (ma : (a, aAX o) ∈ nw)
  (hd : o.data = .set es ep tb) (hf : tb.fits es.size = true) (h : ∀ s', St0 W G nw' s' -> Q (some v) s') : wpAny (model W.prog W.w) A (pyNext (.ref it)) Q E s := by
 obtain ⟨oi, hoi, hc, hdi⟩ := S.get U.mem
 obtain ⟨o', ho', rfl⟩ := S.get ma
 have hT : s.TypeIs (.ref it) "set_iterator" := ⟨oi, hoi, hc⟩
 unfold pyNext
 refine wpAny_bind (wpAny_attempt (wpAny_callSpecial?_slot (name := Str.ofString "__next__") hT aAG (wpAny_call_entry aAG hT aBf ?_ (aBq _))))
 refine wpAny_bind (wpAny_pure ?_)
 dsimp only
 refine wpAny_bind (wpAny_fieldsOf hoi hdi ?_)
 refine wpAny_bind (wpAny_setEntries_of ho' hd hf ?_)
 have e1 : ((es.size : Int) != (es.size : Int)) = false := by simp
 rw [e1]
 refine wpAny_bind (wpAny_mono (hn _ s _ ho' hd hf _) (λ q s' e => ?_) λ _ _ e => e)
 obtain ⟨rfl, rfl⟩ := e
 refine wpAny_bind (wpAny_setField hoi hdi (by simp) ?_)
 have h2 := Heap.get?_update_self (Obj.mapFields (·.setIfInBounds 0 (rawInt slot'))) hoi (Obj.isFreed_of_fields (Obj.data_mapFields hdi _))
 refine wpAny_bind (wpAny_setField h2 (Obj.data_mapFields hdi _) (by simp) ?_)
 refine wpAny_pure ⟨_, rfl, wpAny_pure (h _ ?_)⟩
 obtain ⟨nw1, U1, U2⟩ := U.via2 (IsSI (rawInt slot') i a es.size ep)
 have S1 := S.field U1 hoi hc hdi (·.setIfInBounds 0 (rawInt slot')) rfl
 have S2 := S1.field U2 h2 ((Obj.cls_mapFields ..).trans hc) (by rw [Obj.data_mapFields hdi]; simp) (·.setIfInBounds 1 (rawInt ((i : Int) + 1))) rfl
 exact S2
theorem end_is {it a : Addr} {o : Obj} {es : Array (Int × Value)} {ep : Nat} {tb : SetTable} {Q : Option Value -> Shared -> Prop} {slot i : Nat} {N : Ledger} (S : St0 W G nw s) (hh : A.handled = none) (hn : aDR W a es ep tb slot i none) (P : Pull (it, IsSI (rawInt slot) i a es.size ep) nw N) (ma : (a, aAX o) ∈ nw)
  (hd : o.data = .set es ep tb) (hf : tb.fits es.size = true) (h : ∀ s', St0 W G N s' -> Q none s') : wpAny (model W.prog W.w) A (pyNext (.ref it)) Q E s := by
 obtain ⟨oi, hoi, hc, hdi⟩ := S.get P.mem'
 obtain ⟨o', ho', rfl⟩ := S.get ma
 have hT : s.TypeIs (.ref it) "set_iterator" := ⟨oi, hoi, hc⟩
 unfold pyNext
 refine wpAny_bind (wpAny_attempt (wpAny_callSpecial?_slot (name := Str.ofString "__next__") hT aAG (wpAny_call_entry aAG hT aBf ?_ (aBq _))))
 unfold Builtin.«set_iterator.__next__»
 refine wpAny_bind (wpAny_pure ?_)
 dsimp only
 refine wpAny_bind (wpAny_fieldsOf hoi hdi ?_)
 dsimp only
 refine wpAny_bind (wpAny_setEntries_of ho' hd hf ?_)
 have e1 : ((es.size : Int) != (es.size : Int)) = false := by simp
 rw [e1]
 refine wpAny_bind (wpAny_mono (hn _ s _ ho' hd hf _) (λ q s' e => ?_) λ _ _ e => e)
 obtain ⟨rfl, rfl⟩ := e
 dsimp only
 refine wpAny_bind (wpAny_setField hoi hdi (by simp) ?_)
 refine aEr hh λ h3 hk => h _ (S.lost P λ b o hb e => hk b o ?_)
 exact ((Heap.SameBut.update _ it _).2 b hb).trans e
theorem aB0 {a : Addr} {es : Array (Int × Value)} {ep : Nat} {tb : SetTable} {slot given : Nat} (hby : W.w.params.followText "set-order" = false) (hled : tb.led = true) (h1 : es.size <= 1) :
  aDR W a es ep tb slot given (match es[SetTable.below tb.place slot]?, tb.place[SetTable.below tb.place slot]? with | some (_, x), some j => some (x, j + 1) | _, _ => none) := by
 intro A s o ho hd hf E
 unfold setNext setsByText
 refine wpAny_bind (wpAny_setState_of ho hd hf ?_)
 refine wpAny_bind (wpAny_bind (wpAny_askSetting (wpAny_pure ?_)))
 have q : ((Setting.mk (model W.prog W.w).prog (model W.prog W.w).w.params).params.followText "set-order") = false := hby
 rw [q]
 dsimp only
 rw [if_neg Bool.false_ne_true]
 rw [if_neg]
 rotate_left
 ·show ¬ ((!tb.plain && decide (es.size > 1)) = true)
  rw [decide_eq_false (by omega)]; simp
 show wpAny _ _ ((if (!tb.led && !es.isEmpty) = true then (unsupported "set:maker-not-led" : Sem Unit) else pure ()) >>= _) _ _ _
 rw [if_neg (by rw [hled]; simp)]
 exact wpAny_bind (wpAny_pure (wpAny_pure ⟨rfl, rfl⟩))
theorem aC7 {a : Addr} {es : Array (Int × Value)} {ep : Nat} {tb : SetTable} {slot given : Nat} (hby : W.w.params.followText "set-order" = true) :
  aDR W a es ep tb slot given (((pickOrder (W.w.params.setOrder a ep) es)[given]?).map λ e => (e.2, slot)) := by
 intro A s o ho hd hf E
 unfold setNext setsByText
 refine wpAny_bind (wpAny_setState_of ho hd hf ?_)
 refine wpAny_bind (wpAny_bind (wpAny_askSetting (wpAny_pure ?_)))
 have q : ((Setting.mk (model W.prog W.w).prog (model W.prog W.w).w.params).params.followText "set-order") = true := hby
 rw [q]
 dsimp only
 have e1 : (ep != ep) = false := by simp
 rw [e1]
 unfold setWalk setsByText
 refine wpAny_bind (wpAny_bind (wpAny_setState_of ho hd hf ?_))
 refine wpAny_bind (wpAny_bind (wpAny_askSetting (wpAny_pure ?_)))
 rw [q]
 exact wpAny_bind (wpAny_askSetting (wpAny_pure (wpAny_pure ⟨rfl, rfl⟩)))
end
end Mine
end
section
namespace Mine
theorem aD3 {α : Type} (p : α) : ∀ (L R : List α), Pull p (L ++ p :: R) (L ++ R)
 | [], _ => .head
 | _ :: L, R => .tail (aD3 p L R)
theorem aEY {a : Addr} {c c' : Cell} : ∀ (L R : Ledger), Upd a c c' (L ++ (a, c) :: R) (L ++ (a, c') :: R)
 | [], _ => .head
 | _ :: L, R => .tail (aEY L R)
theorem St0.sub {W : Wd} {G : Gens} {nw nw' : Ledger} {s : Shared} (S : St0 W G nw s) (h : List.Sublist nw' nw) : St0 W G nw' s := ⟨S.ok, S.led.sub h, S.bare, S.os, S.gens, S.gnd⟩
theorem aCT {first : Value} {i : Nat} {a : Addr} {n ep : Nat} : ∀ o, IsSI first i a n ep o -> aAZ o = true := λ o h => by unfold aAZ; rw [h.1]; decide
section
variable {W : Wd} {sh : Ledger} {it a tp : Addr} {o : Obj} {es : Array (Int × Value)} {ep : Nat} {tb : SetTable}
theorem aCH {ps : List Nat} (ma : (a, aAX o) ∈ sh) (hd : o.data = .set es ep tb) (hf : tb.fits es.size = true) (hps : ∀ j ∈ ps, j < es.size) : ∀ (m i : Nat), ps.length - i = m -> i <= ps.length ->
  aAW W sh it ((ps.drop i).map λ j => (es.getD j (0, .none)).2) [(it, IsSI (.ref tp) i a es.size ep), (tp, aAo (ps.map λ (i : Nat) => rawInt i))] []
 | 0, i, hm, hi => by
  have e0 : ps.drop i = [] := List.drop_of_length_le (by omega)
  rw [e0]
  refine ⟨⟨_, List.mem_append_right _ (.head _), aCT⟩, λ A R GR s Q E hA S hQ => ?_⟩
  rw [List.append_nil] at S
  rw [← List.append_assoc] at S
  refine aHB S hA.handled (aD3 _ (R ++ sh) _) (ps := ps) (by simp) (by simp [ma]) hd hf (by omega) λ s' S' => hQ _ ?_
  exact S'.sub (List.sublist_append_left _ _)
 | m + 1, i, hm, hi => by
  have hlt : i < ps.length := by omega
  have e0 : ps.drop i = ps[i] :: ps.drop (i + 1) := List.drop_eq_getElem_cons hlt
  have hj := hps _ (List.getElem_mem hlt)
  rw [e0]
  refine ⟨⟨_, List.mem_append_right _ (.head _), aCT⟩, λ A R GR s Q E hA S hQ => ?_⟩
  rw [List.append_nil] at S
  rw [← List.append_assoc] at S
  refine aGj S (aEY (R ++ sh) _) (ps := ps) (by simp) (by simp [ma]) hd hf hlt hj λ s' S' => ?_
  have e1 : es[ps[i]].2 = (es.getD ps[i] (0, .none)).2 := by simp [Array.getD, hj]
  rw [e1]
  refine hQ [(it, IsSI (.ref tp) (i + 1) a es.size ep), (tp, aAo (ps.map λ (i : Nat) => rawInt i))] [] _ ?_ (aCH ma hd hf hps m (i + 1) (by omega) hlt)
  rw [List.append_nil, ← List.append_assoc]; exact S'
theorem aB7 {slots : List Nat} {vs : List Value} (ma : (a, aAX o) ∈ sh) (hd : o.data = .set es ep tb) (hf : tb.fits es.size = true) (hl : slots.length = vs.length + 1)
  (hn : ∀ i (h : i < vs.length), aDR W a es ep tb (slots[i]'(by omega)) i (some (vs[i], slots[i + 1]'(by omega)))) (he : aDR W a es ep tb (slots[vs.length]'(by omega)) vs.length none) : ∀ (m i : Nat) (hm : vs.length - i = m) (hi : i <= vs.length),
  aAW W sh it (vs.drop i) [(it, IsSI (rawInt (slots[i]'(by omega) : Nat)) i a es.size ep)] []
 | 0, i, hm, hi => by
  have hi2 : i = vs.length := by omega
  subst hi2
  rw [List.drop_length]
  refine ⟨⟨_, List.mem_append_right _ (.head _), aCT⟩, λ A R GR s Q E hA S hQ => ?_⟩
  rw [← List.append_assoc] at S
  refine end_is S hA.handled he (aD3 _ (R ++ sh) _) (by simp [ma]) hd hf λ s' S' => hQ _ ?_
  simpa using S'
 | m + 1, i, hm, hi => by
  have hlt : i < vs.length := by omega
  have e0 : vs.drop i = vs[i] :: vs.drop (i + 1) := List.drop_eq_getElem_cons hlt
  rw [e0]
  refine ⟨⟨_, List.mem_append_right _ (.head _), aCT⟩, λ A R GR s Q E hA S hQ => ?_⟩
  rw [List.append_nil] at S
  rw [← List.append_assoc] at S
  refine aJa S (hn i hlt) (aEY (R ++ sh) _) (by simp [ma]) hd hf λ s' S' => ?_
  refine hQ [(it, IsSI (rawInt (slots[i + 1]'(by omega) : Nat)) (i + 1) a es.size ep)] [] _ ?_ (aB7 ma hd hf hl hn he m (i + 1) (by omega) hlt)
  rw [List.append_nil, ← List.append_assoc]; exact S'
theorem TxtsAre.get {vs : List Value} {ss : List Str} (h : TxtsAre vs ss) : ∀ (ps : List Nat), (∀ j ∈ ps, j < vs.length) -> TxtsAre (ps.map λ j => vs.getD j .none) (ps.map λ j => ss.getD j Str.empty)
 | [], _ => .nil
 | j :: ps, hp => by
  have ih := TxtsAre.get h ps λ k hk => hp k (.tail _ hk)
  have hj := hp j (.head _)
  have key : ∀ {vs : List Value} {ss : List Str}, TxtsAre vs ss -> ∀ j, j < vs.length -> ∃ t, vs.getD j .none = .str (ss.getD j Str.empty) t := by
   intro vs ss h
   induction h with
   | nil => intro j hj; simp at hj
   | cons x t h ih =>
    intro j hj
    cases j with
    | zero => exact ⟨t, rfl⟩
    | succ j => simpa using ih j (by simpa using hj)
  obtain ⟨t, e⟩ := key h j hj
  rw [List.map_cons, e]
  exact .cons _ t ih
theorem aDh {α : Type} (d : α) (l : List α) : ((List.range l.length).map λ j => l.getD j d) = l := by
 apply List.ext_getElem
 ·simp
 ·intro i h1 h2
  simp at h1
  simp [h1]
end
section
variable {W : Wd} {G : Gens} {env : Env} {loc loc' : Loc} {nw nw' N : Ledger} {s : Shared} {A : Around} {E : Value -> Shared -> Prop}
theorem Sta.iterSet {a : Addr} {ss : List Str} {Q : Value -> Shared -> Prop} (S : Sta W G env loc ((a, IsSL W ss) :: N) s) (hz : ss.length <= 4000)
  (h : ∀ it vs ss' own o s', TxtsAre vs ss' -> ss'.Perm ss -> IsSL W ss o -> Sta W G env loc (own ++ ((a, aAX o) :: N)) s' -> aAW W [(a, aAX o)] it vs own [] -> Q (.ref it) s') : wpAny (model W.prog W.w) A (pyIter (.ref a)) Q E s := by
 obtain ⟨o, ho, hsl⟩ := S.get (.head _)
 have S1 : Sta W G env loc ((a, aAX o) :: N) s := S.tell .head λ o' ho' _ => by rw [ho] at ho'; cases ho'; rfl
 have hsl0 : IsSL W ss o := hsl
 obtain ⟨hex, es, ep, tb, hd, hel, ⟨ss', htx, hpm⟩, hf, hled, hpl, hsm⟩ := hsl
 have hT : s.TypeIs (.ref a) "set" := ⟨o, ho, hex.1⟩
 have hlen : es.size = ss.length := by
  have := htx.length
  rw [List.length_map, Array.length_toList] at this
  rw [this, hpm.length_eq]
 have hpsz : tb.place.size = es.size := by
  have := hf; simp only [SetTable.fits, Bool.and_eq_true, beq_iff_eq] at this; exact this.1
 refine wpAny_pyIter_slot hT aCc (wpAny_call_entry aCc hT aDs ?_ (aEl _))
 refine aFo S1 (.head _) hex hd hf (by omega) (λ hc it s' S' => ?_) (λ hby hp hgt ps it tp s' hperm S' => ?_)
 ·obtain ⟨oi, hoi, hci, _⟩ := S'.get (.head _)
  refine ⟨_, rfl, "set_iterator", _, ⟨oi, hoi, hci⟩, aCw, ?_⟩
  cases hby : W.w.params.followText "set-order" with
  | true =>
   have hpp := aG0 (W.w.params.setOrder a ep) es
   obtain ⟨s2, a2, b2⟩ := TxtsAre.perm (hpp.map (·.2)) htx
   refine h it _ s2 [(it, IsSI (rawInt 0) 0 a es.size ep)] o s' a2 (b2.trans hpm) hsl0 S' ?_
   have hpz : (pickOrder (W.w.params.setOrder a ep) es).size = es.size := by rw [← Array.length_toList, hpp.length_eq, Array.length_toList]
   have Y := aB7 (W := W) (sh := [(a, aAX o)]) (it := it) (a := a) (o := o) (es := es) (ep := ep) (tb := tb) (slots := List.replicate (es.size + 1) 0) (vs := (pickOrder (W.w.params.setOrder a ep) es).toList.map (·.2)) (.head _) hd hf (by simp [hpz]) ?_ ?_ _ 0 rfl (by omega)
   ·simpa using Y
   ·intro i hi
    simp only [List.length_map, Array.length_toList] at hi
    have := aC7 (W := W) (a := a) (es := es) (ep := ep) (tb := tb) (slot := 0) (given := i) hby
    rw [Array.getElem?_eq_getElem hi] at this
    simpa using this
   ·have := aC7 (W := W) (a := a) (es := es) (ep := ep) (tb := tb) (slot := 0) (given := (pickOrder (W.w.params.setOrder a ep) es).size) hby
    rw [Array.getElem?_eq_none (Nat.le_refl _)] at this
    simpa using this
  | false =>
   have hl2 : tb.led = true := hled.resolve_right (by rw [hby]; decide)
   have hle : es.size <= 1 := by
    rcases hc with q | q | q
    ·rw [hby] at q; cases q
    ·by_cases z : es.size = 0
     ·omega
     ·rw [hpl z] at q; cases q
    ·exact q
   refine h it _ ss' [(it, IsSI (rawInt 0) 0 a es.size ep)] o s' htx hpm hsl0 S' ?_
   by_cases z : es.size = 0
   ·have e1 : es = #[] := Array.size_eq_zero_iff.mp z
    have Y := aB7 (W := W) (sh := [(a, aAX o)]) (it := it) (a := a) (o := o) (es := es) (ep := ep) (tb := tb) (slots := [0]) (vs := []) (.head _) hd hf rfl (λ i hi => by simp at hi) ?_ _ 0 rfl (by omega)
    ·subst e1; simpa using Y
    ·have := aB0 (W := W) (a := a) (es := es) (ep := ep) (tb := tb) (slot := 0) (given := 0) hby hl2 hle
     have e2 : es[SetTable.below tb.place 0]? = none := Array.getElem?_eq_none (by omega)
     rw [e2] at this
     exact this
   ·have hz1 : es.size = 1 := by omega
    obtain ⟨j, hj⟩ : ∃ j, tb.place = #[j] := Array.size_eq_one_iff.mp (by omega)
    obtain ⟨e, he⟩ : ∃ e, es = #[e] := Array.size_eq_one_iff.mp hz1
    have b0 : SetTable.below tb.place 0 = 0 := by rw [hj]; simp [SetTable.below, SetTable.below.go]
    have b1 : SetTable.below tb.place (j + 1) = 1 := by rw [hj]; simp [SetTable.below, SetTable.below.go]
    have Y := aB7 (W := W) (sh := [(a, aAX o)]) (it := it) (a := a) (o := o) (es := es) (ep := ep) (tb := tb) (slots := [0, j + 1]) (vs := [e.2]) (.head _) hd hf rfl (λ i hi => ?_) ?_ _ 0 rfl (by omega)
    ·subst he; simpa using Y
    ·have hi0 : i = 0 := by simpa using hi
     subst hi0
     have := aB0 (W := W) (a := a) (es := es) (ep := ep) (tb := tb) (slot := 0) (given := 0) hby hl2 hle
     rw [b0, hj, he] at this
     rw [he]
     simpa using this
    ·have := aB0 (W := W) (a := a) (es := es) (ep := ep) (tb := tb) (slot := j + 1) (given := 1) hby hl2 hle
     rw [b1] at this
     have e2 : es[1]? = none := Array.getElem?_eq_none (by omega)
     rw [e2] at this
     simpa using this
 ·obtain ⟨oi, hoi, hci, _⟩ := S'.get (.head _)
  refine ⟨_, rfl, "set_iterator", _, ⟨oi, hoi, hci⟩, aCw, ?_⟩
  have hps : ∀ j ∈ ps, j < es.size := λ j hj => by simpa using hperm.mem_iff.mp hj
  have Y := aCH (W := W) (sh := [(a, aAX o)]) (it := it) (a := a) (tp := tp) (o := o) (es := es) (ep := ep) (tb := tb) (ps := ps) (.head _) hd hf hps ps.length 0 (by omega) (by omega)
  have hpl2 : ∀ j ∈ ps, j < (es.toList.map (·.2)).length := λ j hj => by simpa using hps j hj
  have ht := TxtsAre.get htx ps hpl2
  have e1 : (ps.map λ j => (es.toList.map (·.2)).getD j .none) = ps.map λ j => (es.getD j (0, .none)).2 := by
   apply List.map_congr_left
   intro j hj
   have := hps j hj
   simp [Array.getD, this, List.getD]
  rw [e1] at ht
  refine h it _ _ _ o s' ht ?_ hsl0 S' Y
  have hl' : ss'.length = es.size := by
   have := htx.length
   rw [List.length_map, Array.length_toList] at this
   exact this.symm
  have p1 := hperm.map λ j => ss'.getD j Str.empty
  rw [← hl', aDh] at p1
  exact p1.trans hpm
end
end Mine
end
section
namespace Mine
theorem aGm : typeLookup (.type "set") "__len__" = pure (some (.builtin "set.__len__")) := by rw [typeLookup_type, builtinLookup_eq_fast]; kernel_rfl
theorem St0.perm {W : Wd} {G : Gens} {nw nw' : Ledger} {s : Shared} (S : St0 W G nw s) (h : List.Perm nw nw') : St0 W G nw' s := ⟨S.ok, S.led.perm h, S.bare, S.os, S.gens, S.gnd⟩
theorem perm_x {α : Type} (e a t : α) (own N : List α) : List.Perm (e :: (own ++ (a :: t :: N))) (t :: ((e :: N) ++ ([a] ++ own))) := by
 have h1 : List.Perm (e :: (own ++ (a :: t :: N))) (e :: ((a :: t :: N) ++ own)) := List.perm_append_comm.cons _
 have h2 : List.Perm (e :: ((a :: t :: N) ++ own)) (t :: e :: a :: (N ++ own)) := ((List.Perm.swap ..).cons _).trans (List.Perm.swap ..)
 exact h1.trans (h2.trans ((List.perm_middle.symm.cons _).cons _))
section
variable {W : Wd} {G : Gens} {env : Env} {loc loc' : Loc} {nw nw' N : Ledger} {s : Shared} {A : Around} {E : Value -> Shared -> Prop}
theorem aId {a : Addr} {Q : Bool -> Shared -> Prop} (hT : s.TypeIs (.ref a) "set") (h : Q false s) : wpAny (model W.prog W.w) A (Builtin.List.listLengthHint (.ref a)) Q E s := by
 obtain ⟨o, ho, hc⟩ := hT
 obtain ⟨hp, g, d, t, os⟩ := s
 have hT : (⟨hp, g, d, t, os⟩ : Shared).TypeIs (.ref a) "set" := ⟨o, ho, hc⟩
 refine wpAny_bind (wpAny_specialOf hT aGm ?_)
 dsimp only
 rw [show splitId "set.__len__" = some ("set", "__len__") from by decide +kernel]
 dsimp only
 refine wpAny_bind (wpAny_isInstance (b := true) hT (by rw [isSubtype_type]; kernel_rfl) ?_)
 rw [if_neg (by decide)]
 rw [if_pos]
 rotate_left
 ·decide +kernel
 exact wpAny_bind (wpAny_typeOf hT (wpAny_pure h))
theorem Sta.collectSet {a : Addr} {ss : List Str} {Q : List Value -> Shared -> Prop} (S : Sta W G env loc ((a, IsSL W ss) :: N) s) (hA : Aok 9 A) (hz : ss.length <= 4000)
  (h : ∀ vs ss' s', TxtsAre vs ss' -> ss'.Perm ss -> Sta W G env loc ((a, IsSL W ss) :: N) s' -> Q vs s') : wpAny (model W.prog W.w) A (collect (.ref a)) Q E s := by
 unfold collect
 refine wpAny_bind (wpAny_runValue (codeAny_builtin F.entry_proto_collect ?_))
 show wpAny _ A.in1 (PySem.newList [] >>= λ l => again (.builtin "list.__iadd__" ⟨[l, .ref a], []⟩)) _ _ s
 refine wpAny_bind (S.newList (by simp) λ T s1 S1 => ?_)
 refine wpAny_pure ⟨plainId_quiet F.plain_list_iadd _, codeAny_builtin F.entry_list_iadd ?_⟩
 show wpAny _ A.in1 (Builtin.List.listExtendWith (.ref T) (.ref a) (.ref T)) _ _ _
 obtain ⟨oa, hoa, hsl⟩ := S1.get (.tail _ (.head _))
 have hT1 : s1.TypeIs (.ref a) "set" := ⟨oa, hoa, hsl.1.1⟩
 have hne : T ≠ a := λ e => by
  have nd := S1.led.nodup
  simp only [List.map_cons, List.nodup_cons, List.mem_cons] at nd
  exact nd.2.1 (.inl e)
 refine wpAny_bind (wpAny_typeOf hT1 ?_)
 have h1 : Builtin.List.listSameRef (.ref T) (.ref a) = false := by simp [Builtin.List.listSameRef, hne]
 have h2 : (Value.type "set" == Value.type "list") = false := by decide
 have h3 : (Value.type "set" == Value.type "tuple") = false := by decide
 simp only [h1, h2, h3, Bool.or_false, Bool.false_eq_true, if_false]
 refine wpAny_bind ((S1.perm (List.Perm.swap ..)).iterSet hz λ it vs ss' own o s2 ht hpm hslo S2 hy => ?_)
 obtain ⟨o2, ho2, e2⟩ := S2.get (List.mem_append_right _ (.head _))
 rw [e2] at ho2
 refine wpAny_bind (wpAny_holding (aId ⟨_, ho2, hslo.1.1⟩ ?_))
 have hres : ((false || (["set", "frozenset", "dict", "dict_keys", "dict_values", "dict_items"] : List String).any (Value.type "set" == .type ·)) = true) := by decide
 show wpAny _ A.in1 ((if (false || (["set", "frozenset", "dict", "dict_keys", "dict_values", "dict_items"] : List String).any (Value.type "set" == .type ·)) = true then (rule "list.extend.makes-room" >>= λ _ => Builtin.List.listTouch (.ref T) >>= λ _ => again (.builtin "list.extend.loop" ⟨[.ref T, .ref it, .ref T], []⟩)) else again (.builtin "list.extend.loop" ⟨[.ref T, .ref it, .ref T], []⟩))) _ _ _
 refine wpAny_bind (wpAny_rule ?_)
 refine wpAny_bind ?_
 have S0 : St0 W (G ++ []) ((T, aAa []) :: (((env.locals, IsNs loc) :: N) ++ ([(a, aAX o)] ++ own))) s2 := by
  rw [List.append_nil]
  exact S2.to0.perm (perm_x _ _ _ _ _)
 obtain ⟨n, hl⟩ := S0.isL (.head _)
 refine wpAny_bind (wpAny_updateSeq hl rfl ?_ (by simp) (by simp))
 have S3 := S0.setL (ys := [.none]) hl (·.push Value.none) rfl
 obtain ⟨n1, hl1⟩ := S3.isL (.head _)
 refine wpAny_updateSeq hl1 rfl ?_ (by simp [sizeLine_eq]) (by simp)
 have S4 := S3.setL (ys := []) hl1 (·.pop) rfl
 have hvz : vs.length <= sizeLine := by rw [ht.length, hpm.length_eq, sizeLine_eq]; omega
 refine wpAny_pure ⟨plainId_quiet F.plain_extend_loop _, aBH vs own [] [] A _ (hA.le (by first | decide | omega)) hy (by simpa using hvz) S4 λ s5 S5 => ?_⟩
 obtain ⟨n5, hl5⟩ := S5.isL (.head _)
 refine wpAny_bind (wpAny_load hl5 ?_)
 refine wpAny_pure (h vs ss' s5 ht hpm ?_)
 have S6 : St0 W G ((env.locals, IsNs loc) :: (a, aAX o) :: N) s5 := (S5.sub (List.sublist_cons_self _ _)).perm (by
  exact (List.perm_append_comm (l₁ := N) (l₂ := [_])).cons _)
 exact (St0.toSta S6 S.eok).tell .head λ o _ e => by rw [e]; exact hslo
end
end Mine
end
section
namespace Mine
noncomputable def ltLs : List Str -> List Str -> Bool
 | [], [] => false
 | [], _ :: _ => true
 | _ :: _, [] => false
 | x :: xs, y :: ys => if x = y then ltLs xs ys else decide (x.cps.toList < y.cps.toList)
theorem TxtsAre.at' {vs : List Value} {ss : List Str} (h : TxtsAre vs ss) : ∀ (i : Nat) (h : i < ss.length), ∃ t, vs[i]? = some (.str ss[i] t) := by
 induction h with
 | nil => intro k h; cases h
 | cons n t h ih =>
  intro k hk
  cases k with
  | zero => exact ⟨t, rfl⟩
  | succ k =>
   obtain ⟨u, e⟩ := ih k (by simpa using hk)
   exact ⟨u, by simpa using e⟩
theorem aCX {A : Around} {s : Shared} {x y : Str} {t u : Tok} : EqAt A s (.str x t) (.str y u) (decide (x = y)) := by
 have h : EqAt A s (.str x t) (.str y u) _ := EqAt.str_str x t y u
 have e : (x == y) = decide (x = y) := by
  by_cases q : x = y
  ·subst q; simp
  ·rw [decide_eq_false q]; exact beq_eq_false_iff_ne.mpr q
 first | exact e ▸ h | (rw [← e]; exact h) | simpa using h
open PySem.AutoSeq1 (wpAny_loadPart')
open PySem.MeetsSeq PySem.MeetsSeq2 PySem.MeetsSeq3 PySem.SeqRoads2
theorem aGU {prog : Program} {w : World} {A : Around} {E : Value -> Shared -> Prop} {s : Shared} {x y : Str} {t u : Tok} {Q : Value -> Shared -> Prop} (h : Q (.bool (decide (x.cps.toList < y.cps.toList))) s) : wpAny (model prog w) A (richCompare .Lt (.str x t) (.str y u)) Q E s :=
 PyProof.Rows.lt_str h
theorem aJg (l b : Addr) (vs vs2 : List Value) (n n2 : Nat) (ss ss2 : List Str) (h1 : TxtsAre vs ss) (h2 : TxtsAre vs2 ss2) (k : Nat) :
  ∀ i : Nat, ss.length - i = k -> i <= ss.length -> i <= ss2.length -> Meets (Builtin.«list.__eq__.loop» ⟨[.ref l, .ref b, rawInt i, rawInt 0], []⟩)
   (λ _ R s => s.heap.get? l = some { cls := .type "list", data := .seq vs.toArray n } /\ s.heap.get? b = some { cls := .type "list", data := .seq vs2.toArray n2 } ∧
    R (.ok (.ret (.bool (ltLs (ss.drop i) (ss2.drop i))))) s) := by
 induction k with
 | zero =>
  intro i hk hi hi2 prog w A R s h
  obtain ⟨hp, g, d, tk, os⟩ := s; obtain ⟨hl, hb, h⟩ := h
  wp_walk using wpAny_loadPart' hl, wpAny_loadPart' hb
  have e1 : vs.toArray[((i : Nat) : Int).toNat]? = none := by
   simp [h1.length]; omega
  rw [e1]
  wp_walk using wpAny_loadPart' hl, wpAny_loadPart' hb
  show R (.ok (.ret (.bool (decide (vs.toArray.size < vs2.toArray.size))))) _
  rw [List.size_toArray, List.size_toArray, h1.length, h2.length]
  have e2 : ss.drop i = [] := List.drop_of_length_le (by omega)
  rw [e2] at h
  have e3 : ltLs [] (ss2.drop i) = decide (ss.length < ss2.length) := by
   by_cases q : i < ss2.length
   ·rw [List.drop_eq_getElem_cons q]
    have : ss.length < ss2.length := by omega
    simp [ltLs, this]
   ·rw [List.drop_of_length_le (by omega)]
    have : ¬ ss.length < ss2.length := by omega
    simp [ltLs, this]
  rw [← e3]; exact h
 | succ k ih =>
  intro i hk hi hi2 prog w A R s h
  obtain ⟨hp, g, d, tk, os⟩ := s; obtain ⟨hl, hb, h⟩ := h
  have hlt : i < ss.length := by omega
  obtain ⟨t, et⟩ := h1.at' i hlt
  have e1 : vs.toArray[((i : Nat) : Int).toNat]? = some (.str ss[i] t) := by simpa using et
  by_cases hlt2 : i < ss2.length
  ·obtain ⟨u, eu⟩ := h2.at' i hlt2
   have e2 : vs2.toArray[((i : Nat) : Int).toNat]? = some (.str ss2[i] u) := by simpa using eu
   wp_walk using wpAny_loadPart' hl, wpAny_loadPart' hb
   rw [e1, e2]
   refine wpAny_bind (aCX prog w _ _ ?_)
   rw [List.drop_eq_getElem_cons hlt, List.drop_eq_getElem_cons hlt2] at h
   have hc : ((i : Int) + 1) = ((i + 1 : Nat) : Int) := by push_cast; rfl
   by_cases q : ss[i] = ss2[i]
   ·rw [decide_eq_true q]
    wp_walk
    rw [hc]
    refine ⟨plainId_quiet plain_eq_loop _, codeAny_builtin entry_eq_loop ?_⟩
    rw [Around.under_plainId plain_eq_loop _]
    refine ih (i + 1) (by omega) (by omega) (by omega) prog w A R _ ⟨hl, hb, ?_⟩
    rw [ltLs, if_pos q] at h
    exact h
   ·rw [decide_eq_false q]
    wp_walk using wpAny_loadPart' hl, wpAny_loadPart' hb
    rw [e1, e2]
    rw [ltLs, if_neg q] at h
    refine wpAny_bind (aGU ?_)
    exact wpAny_pure h
  ·have e2 : vs2.toArray[((i : Nat) : Int).toNat]? = none := by simp [h2.length]; omega
   wp_walk using wpAny_loadPart' hl, wpAny_loadPart' hb
   rw [e1, e2]
   wp_walk using wpAny_loadPart' hl, wpAny_loadPart' hb
   show R (.ok (.ret (.bool (decide (vs.toArray.size < vs2.toArray.size))))) _
   rw [List.size_toArray, List.size_toArray, h1.length, h2.length]
   rw [List.drop_eq_getElem_cons hlt, List.drop_of_length_le (Nat.le_of_not_lt hlt2)] at h
   have : ¬ ss.length < ss2.length := by omega
   rw [decide_eq_false this]; exact h
theorem aJh (l b : Addr) (vs vs2 : List Value) (n n2 : Nat) (ss ss2 : List Str) (h1 : TxtsAre vs ss) (h2 : TxtsAre vs2 ss2) :
  Meets (Builtin.«list.__lt__» ⟨[.ref l, .ref b], []⟩)
   (λ _ R s => s.heap.get? l = some { cls := .type "list", data := .seq vs.toArray n } /\ s.heap.get? b = some { cls := .type "list", data := .seq vs2.toArray n2 } ∧
    R (.ok (.ret (.bool (ltLs ss ss2)))) s) := by
 intro prog w A R s h
 obtain ⟨hp, g, d, tk, os⟩ := s; obtain ⟨hl, hb, h⟩ := h
 have f3 := AutoSeq1.sub_list_list
 wp_walk using wpAny_loadPart' hl, wpAny_loadPart' hb
 refine ⟨plainId_quiet plain_eq_loop _, codeAny_builtin entry_eq_loop ?_⟩
 rw [Around.under_plainId plain_eq_loop _]
 exact aJg l b vs vs2 n n2 ss ss2 h1 h2 _ 0 rfl (Nat.zero_le _) (Nat.zero_le _) prog w A R _ ⟨hl, hb, by simpa using h⟩
theorem aFJ : Slot "list" "__lt__" "list.__lt__" := F.slot_list_lt
theorem key_lt {prog : Program} {w : World} {A : Around} {E : Value -> Shared -> Prop} {s : Shared} {l b : Addr} {vs vs2 : List Value} {n n2 : Nat} {ss ss2 : List Str} {Q : Bool -> Shared -> Prop} (hu : A.units < cLine) (h1 : TxtsAre vs ss) (h2 : TxtsAre vs2 ss2)
  (hl : s.heap.get? l = some { cls := .type "list", data := .seq vs.toArray n }) (hb : s.heap.get? b = some { cls := .type "list", data := .seq vs2.toArray n2 }) (h : Q (ltLs ss ss2) s) :
  wpAny (model prog w) A (keyLt' oneType' (.ref l) (.ref b)) Q E s := by
 rw [keyLt'_oneType, oneLt'_eq]
 simp only [if_true]
 refine wpAny_bind (wpAny_cRoomFor hu ?_)
 refine wpAny_bind (wpAny_callSpecialIfBound?_slot ⟨_, hl, rfl⟩ aFJ (call_meets aFJ ⟨_, hl, rfl⟩ F.entry_list_lt (F.args_list_lt_2 _ _) (aJh l b vs vs2 n n2 ss ss2 h1 h2) ⟨hl, hb, ?_⟩))
 exact wpAny_truthy_bool h
end Mine
end
section
namespace Mine
noncomputable def KAll (n : Nat) {α : Type} (P : α -> Prop) : KasT α -> Prop
 | .ret a => P a
 | .ask i j k => i < n /\ j < n /\ ∀ b, KAll n P (k b)
theorem KAll.mono {n : Nat} {α : Type} {P P' : α -> Prop} (h : ∀ a, P a -> P' a) : ∀ {t : KasT α}, KAll n P t -> KAll n P' t
 | .ret a, x => h a x
 | .ask _ _ _, x => ⟨x.1, x.2.1, λ b => KAll.mono h (x.2.2 b)⟩
theorem KAll.bind {n : Nat} {α β : Type} {P : α -> Prop} {P' : β -> Prop} {f : α -> KasT β} (h : ∀ a, P a -> KAll n P' (f a)) : ∀ {t : KasT α}, KAll n P t -> KAll n P' (t.bind f)
 | .ret a, x => h a x
 | .ask _ _ _, x => ⟨x.1, x.2.1, λ b => KAll.bind h (x.2.2 b)⟩
theorem KAll.wp {n : Nat} {α : Type} {P : α -> Prop} {cmp : Nat -> Nat -> (Bool -> Shared -> Prop) -> Shared -> Prop} {s : Shared} (hc : ∀ i j, i < n -> j < n -> ∃ b, ∀ C : Bool -> Shared -> Prop, C b s -> cmp i j C s) {Q : α -> Shared -> Prop} (hQ : ∀ a, P a -> Q a s) : ∀ {t : KasT α}, KAll n P t -> t.kasWp cmp Q s
 | .ret a, x => hQ a x
 | .ask i j k, x => by
  obtain ⟨b, hb⟩ := hc i j x.1 x.2.1
  exact hb _ (KAll.wp hc hQ (x.2.2 b))
noncomputable def Ok (n : Nat) (p : Array Nat) : Prop := p.toList.Perm (List.range n)
theorem Ok.lt {n : Nat} {p : Array Nat} (h : Ok n p) (hn : 0 < n) (i : Nat) : p.getD i 0 < n := by
 by_cases q : i < p.size
 ·have e : p.getD i 0 = p[i] := by simp [Array.getD, q]
  have : p[i] ∈ p.toList := Array.mem_toList_iff.mpr (Array.getElem_mem q)
  have := h.mem_iff.mp this
  rw [e]; simpa using this
 ·have e : p.getD i 0 = 0 := by simp [Array.getD, q]
  omega
section
variable {n : Nat} {p : Array Nat}
end
end Mine
end
section
namespace Mine
noncomputable def kLed (kp : Str -> List Str) : List Addr -> List Str -> Ledger
 | k :: ks, x :: xs => (k, aAb (kp x)) :: kLed kp ks xs
 | _, _ => []
theorem aEK (kp : Str -> List Str) (k : Addr) (x : Str) : ∀ (ks : List Addr) (xs : List Str), ks.length = xs.length -> kLed kp (ks ++ [k]) (xs ++ [x]) = kLed kp ks xs ++ [(k, aAb (kp x))]
 | [], [], _ => rfl
 | [], _ :: _, h => by simp at h
 | _ :: _, [], h => by simp at h
 | _ :: ks, _ :: xs, h => by
  show _ :: kLed kp (ks ++ [k]) (xs ++ [x]) = _
  rw [aEK kp k x ks xs (by simpa using h)]; rfl
theorem aD8 (kp : Str -> List Str) : ∀ (ks : List Addr) (xs : List Str) (i : Nat) (h1 : i < ks.length) (h2 : i < xs.length), (ks[i], aAb (kp xs[i])) ∈ kLed kp ks xs
 | k :: ks, x :: xs, 0, _, _ => .head _
 | k :: ks, x :: xs, i + 1, h1, h2 => .tail _ (aD8 kp ks xs i (by simpa using h1) (by simpa using h2))
section
variable {W : Wd} {G : Gens} {env : Env} {loc loc' : Loc} {nw nw' N : Ledger} {s : Shared} {A : Around} {E : Value -> Shared -> Prop}
theorem TxtsAre.pick {vs : List Value} {ss : List Str} (h : TxtsAre vs ss) (p : List Nat) (hp : ∀ i ∈ p, i < ss.length) : TxtsAre (p.map λ i => vs.getD i .none) (p.map λ i => ss.getD i Str.empty) :=
 TxtsAre.get h p λ j hj => by rw [h.length]; exact hp j hj
end
end Mine
end
section
namespace Mine
noncomputable def aBL (f : Addr) (self : Value) : Cell := λ o => o = methodObj (.ref f) self
theorem aA3 : ∀ l : List (Str × Tok), TxtsAre (strValues l) (l.map (·.1))
 | [] => .nil
 | (x, t) :: r => .cons x t (aA3 r)
section
variable {W : Wd} {G : Gens} {env : Env} {loc loc' : Loc} {nw nw' N : Ledger} {s : Shared} {A : Around} {E : Value -> Shared -> Prop}
open PySem.Builtin.Str in
theorem Sta.splitMax {x y : Str} {k : Int} {t u v : Tok} {Q : Value -> Shared -> Prop} (S : Sta W G env loc nw s) (hy : (y.length == 0) = false) (hk : (decide (k < -(2 ^ 63 : Int)) || decide (k ≥ 2 ^ 63)) = false) (hsz : x.length <= 1000000)
  (h : ∀ a s', Sta W G env loc ((a, aAb (Txt.splitMax x y k)) :: nw) s' -> Q (.ref a) s') : wpAny (model W.prog W.w) A (call (.builtin "str.split") [.str x t, .str y u, .int k v]) Q E s := by
 have hn : (partsBetween x (occurrences x y 0 x.length (limitOf x k)) y.length).length <= sizeLine := by
  have e1 := StrLaws.occ_length_le_len x y 0 x.length (limitOf x k)
  rw [length_partsBetween, sizeLine_eq]; omega
 have h' : ∀ (l : List (Str × Tok)) tk, l.map (·.1) = Txt.splitMax x y k -> Q (.ref s.heap.objs.size) { s with heap := s.heap.push { cls := .type "list", data := .seq (strValues l).toArray }, toks := tk } := λ l tk e =>
  h _ _ (S.new (c := aAb (Txt.splitMax x y k)) rfl ⟨strValues l, by rw [← e]; exact aA3 l, 0, rfl⟩ tk)
 cases h1 : (decide (x.length < y.length) || decide (strKind x < strKind y))
 ·cases hf : (occurrences x y 0 x.length (limitOf x k)).isEmpty
  ·refine call_meets F.slot_str_split (typeIs_str _ _ _) F.entry_str_split (F.args_str_split_3 _ _ _) (meets_str_split_sep_max x y k t u v hk h1 hy hf (by walk_at "osz") hn) ?_
   show wants Q E _ { s with toks := _, heap := s.heap.push { cls := .type "list", data := .seq (strsFrom s.toks (partsBetween x (occurrences x y 0 x.length (limitOf x k)) y.length)).toArray } }
   rw [strsFrom_eq]
   exact h' (numbered s.toks _) _ ((numbered_texts _ _).trans ((if_neg (ne_true_of_eq_false h1)).trans (if_neg (ne_true_of_eq_false hf))).symm)
  ·exact call_meets F.slot_str_split (typeIs_str _ _ _) F.entry_str_split (F.args_str_split_3 _ _ _) (meets_str_split_max_not_found x y k t u v hk h1 hy hf) (h' [(x, t)] s.toks ((if_neg (ne_true_of_eq_false h1)).trans (if_pos hf)).symm)
 ·exact call_meets F.slot_str_split (typeIs_str _ _ _) F.entry_str_split (F.args_str_split_3 _ _ _) (meets_str_split_max_cannot_occur x y k t u v hk h1) (h' [(x, t)] s.toks (if_pos h1).symm)
theorem Sta.getBound {name : Str} {C x d f : Addr} {names : List Str} {vals : Loc} {expr : Bool} {Q : Value -> Shared -> Prop} (S : Sta W G env loc nw s) (c : Cl W.K C names) (mx : (x, aAu C d) ∈ nw) (md : (d, aAl vals) ∈ nw) (hk : vals.map Prod.fst = names) (hn : name ∉ names)
  (hf : findIn W.K (.ref C) name = some (some (.ref f))) (ht : typeIn W.K (.ref f) = some (.type "function")) (hg : specialIn W.K (.ref f) "__get__" = some (some (.builtin "function.__get__"))) (htk : takesIn W.K (.ref f) = some false) (hcp : copiedNames.contains name = false)
  (h : ∀ q s', Sta W G env loc ((q, aBL f (.ref x)) :: nw) s' -> Q (.ref q) s') : wpAny (model W.prog W.w) A (getAttr (.ref x) name expr) Q E s := by
 obtain ⟨od, I, nd, _, es, ep, hd, hsk, hl, _⟩ := S.inst mx md
 have hno : lk vals name = none := by
  unfold lk
  rw [List.lookup_eq_none_iff.mpr]
  ·rfl
  ·intro p hp
   rw [bne_iff_ne]
   exact λ e => hn (by rw [← hk, e]; exact List.mem_map.mpr ⟨p, hp, rfl⟩)
 refine get_bind S.kin I c.ga (findObj_fn c.dict hf hg htk hcp (by rw [aDe hd hsk ((hl name).trans hno)])) c.gh ?_
 refine wpAny_call (fn_get (s := { s with toks := s.toks + 1 }) S.kin ht (handed_on rfl ?_))
 exact h _ _ (S.new (c := aBL f (.ref x)) rfl rfl _)
theorem Sta.callMeth {q f : Addr} {self : Value} {pos : List Value} {kw : List (Str × Value)} {Q : Value -> Shared -> Prop} (S : Sta W G env loc nw s) (m : (q, aBL f self) ∈ nw)
  (h : codeAny (model W.prog W.w) A (.call (.ref f) ⟨self :: pos, kw⟩) (λ r s' => match r with | .ok (.ret v) => Q v s' | .ok _ => False | .error e => E e s') s) : wpAny (model W.prog W.w) A (call (.ref q) pos kw) Q E s := by
 obtain ⟨o, ho, rfl⟩ := S.get m
 exact wpAny_call (method_call ho h)
theorem aJK {pos : Pos} {q f : Addr} {self : Value} {e : Expr} {rest : List Expr} {Q : Value -> Shared -> Prop} (hf : fnIn W.K f = true)
  (h : wpAny (model W.prog W.w) A (spliced (backTo pos (starEach (e :: rest) env))) (λ vs s₁ => MethP W.K q f self s₁.heap /\ wpAny (model W.prog W.w) A (call (.ref q) vs) Q E s₁) E s)
  (he : starEach (e :: rest) env = (false, eval e env) :: starEach rest env) (hplain : (backTo pos (starEach rest env)).any (·.1) = false) :
  wpAny (model W.prog W.w) A (callWith pos (.ref q) [] (backTo pos (starEach (e :: rest) env)) []) Q E s := by
 rw [he] at h ⊢
 exact callWith_of (P := λ h => MethP W.K q f self h) (first := []) (by show (false || (backTo pos (starEach rest env)).any (·.1) || false) = false; rw [hplain]; rfl) (keeps_M hf) (Calls.evalArgs_plain h)
theorem Sta.methP {q f : Addr} {self : Value} (S : Sta W G env loc nw s) (m : (q, aBL f self) ∈ nw) : MethP W.K q f self s.heap := by
 obtain ⟨o, ho, rfl⟩ := S.get m
 exact ⟨ho, S.kin⟩
end
end Mine
end
section
namespace Mine
noncomputable def JP (M : Model) (A : Around) (E : Value -> Shared -> Prop) (out : Str) (rest : List (Sem Value)) (Q : Value -> Shared -> Prop) : Value -> Shared -> Prop := λ v s => ∃ y t, v = .str y t /\ (out ++ y).length <= sizeLine /\ wpAny M A (joinParts (out ++ y) rest) Q E s
section
variable {M : Model} {A : Around} {E : Value -> Shared -> Prop} {s : Shared} {env : Env}
theorem JP.mk {out y : Str} {t : Tok} {rest : List (Sem Value)} {Q : Value -> Shared -> Prop} (hz : (out ++ y).length <= sizeLine) (h : wpAny M A (joinParts (out ++ y) rest) Q E s) : JP M A E out rest Q (.str y t) s := ⟨y, t, rfl, hz, h⟩
theorem joinP {out : Str} {v : Expr} {rest : List Expr} {Q : Value -> Shared -> Prop} (h : wpAny M A (eval v env) (JP M A E out (evalEach rest env) Q) E s) : wpAny M A (joinParts out (evalEach (v :: rest) env)) Q E s := by
 refine joinParts_cons (x := eval v env) (rest := evalEach rest env) (wpAny_mono h (λ v s₁ h₁ => ?_) λ _ _ e => e)
 obtain ⟨y, t, rfl, hz, h₁⟩ := h₁
 exact ⟨hz, h₁⟩
theorem joined {v₁ v₂ : Expr} {rest : List Expr} {pos : Pos} {Q : Value -> Shared -> Prop} (h : wpAny M A (joinParts Str.empty (evalEach (v₁ :: v₂ :: rest) env)) Q E s) : wpAny M A (eval (.JoinedStr (v₁ :: v₂ :: rest) pos) env) Q E s := h
end
section
variable {W : Wd} {G : Gens} {env : Env} {loc loc' : Loc} {nw nw' N : Ledger} {s : Shared} {A : Around} {E : Value -> Shared -> Prop}
theorem Sta.joinEnd {M : Model} {out : Str} {Q : Value -> Shared -> Prop} (S : Sta W G env loc nw s) (hz : out.length <= sizeLine) (h : ∀ t s', Sta W G env loc nw s' -> Q (.str out t) s') : wpAny M A (joinParts out (evalEach [] env)) Q E s :=
 joinParts_nil (h _ _ (S.toks _)) hz
theorem Sta.fmtS {M : Model} {x : Str} {t : Tok} {Q : Value -> Shared -> Prop} (S : Sta W G env loc nw s) (hz : x.length <= sizeLine) (h : ∀ t' s', Sta W G env loc nw s' -> Q (.str x t') s') : wpAny M A (formatField (.str x t) Str.empty) Q E s :=
 formatField_str (λ t' tk => h t' _ (S.toks tk)) hz
theorem Sta.truthyD {d : Addr} {kvs : List (Str × Value)} {Q : Bool -> Shared -> Prop} (S : Sta W G env loc nw s) (m : (d, IsD W d kvs) ∈ nw) (hz : kvs.length <= 1000000) (h : ∀ s', Sta W G env loc nw s' -> Q (!kvs.isEmpty) s') : wpAny (model W.prog W.w) A (truthy (.ref d)) Q E s := by
 obtain ⟨hd, hn⟩ := S.dictAt m
 exact wpAny_truthy_dict hn hd (by omega) (h _ (S.toks _))
theorem Sta.getM_D {name : Str} {d : Addr} {kvs : List (Str × Value)} {Q : Value × List Value -> Shared -> Prop} {id : String} (S : Sta W G env loc nw s) (m : (d, IsD W d kvs) ∈ nw) (slot : Slot "dict" name id) (hty : typeOf (.builtin id) = pure (.type "method_descriptor")) (h : Q (.builtin id, [.ref d]) s) :
  GetM (model W.prog W.w) A E name (.ref d) Q s := by
 obtain ⟨hd, hn⟩ := S.dictAt m
 exact aBa F.plainAttrs_dict slot hty hd.typeIs hd.mapOf.noDict h
theorem Sta.dictGet {d : Addr} {kvs : List (Str × Value)} {x : Str} {t : Tok} {Q : Value -> Shared -> Prop} (S : Sta W G env loc nw s) (m : (d, IsD W d kvs) ∈ nw) (h : ∀ s', Sta W G env loc nw s' -> Q ((valueAt kvs x).getD .none) s') : wpAny (model W.prog W.w) A (call (.builtin "dict.get") [.ref d, .str x t]) Q E s := by
 obtain ⟨hd, hn⟩ := S.dictAt m
 exact call_meetsIn F.slot_dict_get hd.typeIs F.entry_dict_get (F.args_dict_get_2 _ _) (meets_dict_get (PySem.strKind W.prog W.w) d (strKind_is _ _ x t) hn) ⟨_, hd.mapOf, h _ (S.toks _)⟩
theorem Sta.subD {d : Addr} {kvs : List (Str × Value)} {x : Str} {t : Tok} {v : Value} {Q : Value -> Shared -> Prop} (S : Sta W G env loc nw s) (m : (d, IsD W d kvs) ∈ nw) (hv : valueAt kvs x = some v) (h : ∀ s', Sta W G env loc nw s' -> Q v s') : SubscriptOn (model W.prog W.w) A (.ref d) (.str x t) Q E s := by
 obtain ⟨hd, hn⟩ := S.dictAt m
 exact ⟨"dict", _, slot_dict_getitem.lookup, hd.typeIs, wpAny_getItem_of (strKind_is _ _ x t) hd.mapOf hv (h _ (S.toks _))⟩
theorem Sta.inD {d : Addr} {kvs : List (Str × Value)} {x : Str} {t : Tok} {Q : Value -> Shared -> Prop} (S : Sta W G env loc nw s) (m : (d, IsD W d kvs) ∈ nw) (h : ∀ s', Sta W G env loc nw s' -> Q (.bool (valueAt kvs x).isSome) s') : wpAny (model W.prog W.w) A (compareOp .In (.str x t) (.ref d)) Q E s := by
 obtain ⟨hd, hn⟩ := S.dictAt m
 exact wpAny_in_of (strKind_is _ _ x t) hn hd.mapOf (h _ (S.toks _))
theorem Sta.itemsD {d : Addr} {kvs : List (Str × Value)} {Q : Value -> Shared -> Prop} (S : Sta W G env loc nw s) (m : (d, IsD W d kvs) ∈ nw) (h : ∀ r s', Sta W G env loc ((r, aCN d) :: nw) s' -> Q (.ref r) s') : wpAny (model W.prog W.w) A (call (.builtin "dict.items") [.ref d]) Q E s := by
 obtain ⟨hd, hn⟩ := S.dictAt m
 exact call_meetsIn PySem.F.slot_dict_items hd.typeIs PySem.F.entry_dict_items (PySem.F.args_dict_items_1 _) (meets_dict_items (PySem.strKind W.prog W.w) d hn) ⟨⟨kvs, hd⟩, h _ _ (S.new (c := aCN d) rfl rfl s.toks)⟩
end
end Mine
end
section
namespace Mine
theorem aDt (kx vx target iter : Expr) (scope : Scope) (pos : Pos) (it : Value) (D : Addr) (env : Env) :
  compTurn (.DictComp kx vx [⟨target, iter, [], 0⟩] scope pos) 0 it (.ref D) env = (standAt iter.pos >>= λ _ => pyNext it >>= λ r => match r with
   | none => pure (.done .next)
   | some v => letOwnedTupleGo target it v >>= λ _ => assign target env v >>= λ _ =>
    (eval kx env >>= λ kv => holding [kv] (eval vx env) >>= λ vv => standAt { kx.pos with endLine := vx.pos.endLine, endCol := vx.pos.endCol } >>= λ _ => holding [kv, vv] (dictSet D kv vv)) >>= λ _ =>
     again (.compLoop (.DictComp kx vx [⟨target, iter, [], 0⟩] scope pos) 0 it (.ref D) env)) := by rfl
theorem aHQ {M : Model} {A : Around} {E : Value -> Shared -> Prop} {s : Shared} {env : Env} {func : Expr} {args : List Expr} {kws : List Keyword} {pos : Pos} {Q : Value -> Shared -> Prop}
  (h : wpAny M A (eval func env) (λ f s₁ => wpAny M A (callWith pos f [] (backTo pos (starEach args env)) (backToKw pos (keywordEach kws env))) Q E s₁) E s)
  (he : eval (.Call func args kws pos) env = (do callWith pos (← eval func env) [] (backTo pos (starEach args env)) (backToKw pos (keywordEach kws env)))) :
  wpAny M A (eval (.Call func args kws pos) env) Q E s := by
 rw [he]; exact wpAny_bind h
section
variable {W : Wd} {G : Gens} {env : Env} {loc loc' : Loc} {nw nw' N : Ledger} {s : Shared} {A : Around} {E : Value -> Shared -> Prop}
theorem Sta.neg {a : Int} {t : Tok} {Q : Value -> Shared -> Prop} (S : Sta W G env loc nw s) (h : ∀ t s', Sta W G env loc nw s' -> Q (.int (-a) t) s') : wpAny (model W.prog W.w) A (unaryOp .USub (.int a t)) Q E s :=
 PyProof.Rows.neg_int (h _ _ (S.toks _))
theorem Sta.addS {x y : Str} {t u : Tok} {Q : Value -> Shared -> Prop} (S : Sta W G env loc nw s) (hz : x.length + y.length <= sizeLine) (h : ∀ t s', Sta W G env loc nw s' -> Q (.str (x ++ y) t) s') : wpAny (model W.prog W.w) A (binaryOp .Add (.str x t) (.str y u)) Q E s :=
 PyProof.Rows.add_str (λ t' tk => h t' _ (S.toks tk)) hz
theorem Sta.sub_last {l : Addr} {xs : List Value} {t : Tok} {v : Value} {Q : Value -> Shared -> Prop} (S : Sta W G env loc nw s) (m : (l, aAa xs) ∈ nw) (hx : xs.getLast? = some v) (h : Q v s) :
  SubscriptOn (model W.prog W.w) A (.ref l) (.int (-1) t) Q E s := by
 have hne : xs ≠ [] := λ e => by subst e; simp at hx
 have hlen : 0 < xs.length := List.length_pos_iff.mpr hne
 refine ⟨"list", _, F.slot_list_getitem.lookup, (S.isList m).typeIs, wpAny_getItem_list_neg (S.isList m) (by omega) (by simp; omega) (by omega) ?_ h⟩
 rw [List.size_toArray]
 have e : ((-1 : Int) + (xs.length : Int)).toNat = xs.length - 1 := by omega
 rw [e, List.getElem?_toArray, ← List.getLast?_eq_getElem?]
 exact hx
theorem Sta.sub_tuple {l : Addr} {xs : List Value} {k : Int} {t : Tok} {j : Nat} {v : Value} {Q : Value -> Shared -> Prop} (S : Sta W G env loc nw s) (m : (l, aAo xs) ∈ nw) (hk : k = (j : Int)) (hj : j < 1000000) (hx : xs[j]? = some v) (h : Q v s) :
  SubscriptOn (model W.prog W.w) A (.ref l) (.int k t) Q E s := by
 subst hk
 have hlt : j < xs.length := (List.getElem?_eq_some_iff.mp hx).1
 refine ⟨"tuple", _, F.slot_tuple_getitem.lookup, (S.isTup m).typeIs, PyProof.Rows.getItem_tuple (j := j) (S.isTup m) (by omega) (by omega) ?_ (by simpa using hx) h⟩
 unfold seqIndex?
 rw [List.size_toArray]
 simp
 omega
theorem Sta.iterT {l : Addr} {ss : List Str} {Q : Value -> Shared -> Prop} (S : Sta W G env loc nw s) {N : Ledger} (P : Pull (l, aAb ss) nw N) (h : ∀ it vs s', TxtsAre vs ss -> Sta W G env loc ((it, IsLI l 0) :: (l, aAa vs) :: N) s' -> Q (.ref it) s') :
  wpAny (model W.prog W.w) A (pyIter (.ref l)) Q E s := by
 have S1 := S.perm P.perm
 obtain ⟨vs, nw1, ht, U1, U2, S2⟩ := S1.openT (c' := aAb ss) .head
 cases U1 with
 | head => exact S2.iterL (.head _) λ it s' S' => h it vs s' ht S'
 | tail U => exact absurd S1.led.nodup (by
   have m := U.mem
   simp only [List.map_cons, List.nodup_cons]
   exact λ q => q.2.1 (List.mem_map.mpr ⟨_, m, rfl⟩))
theorem aCq {kvs : List (Str × Value)} {x : Str} {v : Value} (h : x ∉ kvs.map (·.1)) : stored kvs x v = kvs ++ [(x, v)] := by
 unfold stored
 rw [if_neg]
 intro q
 obtain ⟨p, hp, e⟩ := List.any_eq_true.mp q
 exact h (List.mem_map.mpr ⟨p, hp, of_decide_eq_true e⟩)
theorem aEq {kvs : List (Str × Value)} {x : Str} (h : x ∉ kvs.map (·.1)) : valueAt kvs x = none := by
 unfold valueAt
 rw [List.find?_eq_none.mpr]
 ·rfl
 ·intro p hp q
  exact h (List.mem_map.mpr ⟨p, hp, of_decide_eq_true q⟩)
end
end Mine
end
section
namespace Mine
section
variable {W : Wd} {G : Gens} {env : Env} {loc loc' : Loc} {nw nw' : Ledger} {s : Shared} {A : Around} {E : Value -> Shared -> Prop}
theorem aF4 {G' : Gens} {cenv : Env} {loc2 locC : Loc} {nw' : Ledger} {s'' : Shared} {y : Str} {py : Pos} {acc : Addr} {Q : Flow -> Shared -> Prop} (he : EnvOk env (loc.map Prod.fst)) (S' : Sta W G' cenv locC ((env.locals, IsNs loc) :: nw') s'') (hp : Put y (some (.ref acc)) loc loc2)
  (hQ : ∀ s₃, Sta W G' env loc2 nw' s₃ -> Q .next s₃) :
  wpAny (model W.prog W.w) A (assign (.Name y py) env (.ref acc)) (λ _ s'' => ∃ m, s''.heap.Ns cenv.locals m /\ ∀ h', Heap.SameBut cenv.locals s''.heap h' -> Q .next { s'' with heap := h' }) E s'' := by
 have S1 : Sta W G' env loc ((cenv.locals, IsNs locC) :: nw') s'' := ⟨S'.ok, he, S'.led.perm (List.Perm.swap ..), S'.bare, S'.os, S'.gens, S'.gnd⟩
 refine wpAny_assign_Name (S1.store hp λ s3 S3 => ?_)
 obtain ⟨o, ho, _, es, ep, hd, hk, hf⟩ := S3.get (.head _)
 refine ⟨_, ⟨o, es, ep, ho, hd, hk, hf⟩, λ h' hs' => hQ _ ⟨S3.ok, S3.eok, ?_, S3.bare, S3.os, S3.gens, S3.gnd⟩⟩
 have := Led.dropBack (nw := [(env.locals, IsNs loc2)]) (a := cenv.locals) (post := nw') (h' := h') S3.led λ b o hb e => (hs'.2 b hb).trans e
 exact this
noncomputable def aJQ (W : Wd) (A : Around) (env : Env) (e : Expr) (scope : Scope) (cl : List (Str × Addr)) (ks : List Str) (y : Str) (Q : Flow -> Shared -> Prop) (it : Value) (s : Shared) : Prop :=
 ∃ G loc nw, Sta W G env loc nw s /\ ∀ acc C s', EnvOk (compEnvC scope cl C env) ks -> Sta W G (compEnvC scope cl C env) (ks.map λ k => (k, none)) ((acc, IsD W acc []) :: (env.locals, IsNs loc) :: nw) s' ->
  codeAny (model W.prog W.w) A (.compStart e 0 it (.ref acc) (compEnvC scope cl C env)) (λ r s'' => ∃ f loc' loc2 nw' G', r = .ok f /\ Sta W G' (compEnvC scope cl C env) loc' ((env.locals, IsNs loc) :: nw') s'' /\ Put y (some (.ref acc)) loc loc2 /\ ∀ s₃, Sta W G' env loc2 nw' s₃ -> Q .next s₃) s'
theorem aDu {kx vx target iter : Expr} {gens : List Comprehension} {scope : Scope} {pos py spos : Pos} {y : Str} {cl : List (Str × Addr)} {Q : Flow -> Shared -> Prop} (ks : List Str)
  (hsw : swapsWith (.DictComp kx vx (⟨target, iter, [], 0⟩ :: gens) scope pos) (some (.Name y py)) spos.line env = pure true)
  (hclos : closureFor scope env = pure cl) (hk : aA9 scope ks = true) (he : env.globals = mainGlobals) (hb : env.builtins = builtinsNs)
  (h : wpAny (model W.prog W.w) A (eval iter env) (λ x s₁ => wpAny (model W.prog W.w) A (pyIter x) (λ it s₂ => aJQ W A env (.DictComp kx vx (⟨target, iter, [], 0⟩ :: gens) scope pos) scope cl ks y Q it s₂) E s₁) E s)
  (hs : ∀ x, foldedSetIterable iter env x = pure x := by intro _; rfl) :
  wpAny (model W.prog W.w) A (exec (.Assign [.Name y py] (.DictComp kx vx (⟨target, iter, [], 0⟩ :: gens) scope pos) spos) env) Q E s := by
 simp only [aA9, Bool.and_eq_true, beq_iff_eq, Bool.not_eq_true', List.all_eq_true, bne_iff_ne, decide_eq_true_eq, Bool.or_eq_true] at hk
 obtain ⟨⟨⟨⟨hkind, hcell⟩, hnames⟩, hks⟩, hnd⟩ := hk
 rw [exec_Assign_Name_used _ _ _ _ hsw]
 refine wpAny_bind (wpAny_standAt (wpAny_bind ?_))
 show wpAny _ A (do let _ ← comprehension (.DictComp kx vx (⟨target, iter, [], 0⟩ :: gens) scope pos) scope env _ newDict false (eval iter env) (some (assign (.Name y py) env))) _ _ s
 refine wpAny_bind (wpAny_mono (wpAny_comprehension_free (use := some (assign (.Name y py) env)) (Q := λ _ s' => Q .next s') (cl := cl) rfl hs hclos hkind (λ x hx hl => (hnames x hx).resolve_left λ q => q hl) (wpAny_mono h (λ xv s₁ h₁ => wpAny_mono h₁ (λ it s₂ h₂ => ?_) λ _ _ e => e) λ _ _ e => e)) (λ _ s' hq => wpAny_pure (wpAny_pure hq)) λ _ _ e => e)
 obtain ⟨G, loc, nw, S, kk⟩ := h₂
 refine S.newDict λ acc s₃ S₃ => ?_
 refine wpAny_newFunctionEnv hcell (by intro y hy; simp at hy) (λ h₁ hns hsb => ?_) hkind
 have hkp : ∀ b o, s₃.heap.get? b = some o -> h₁.get? b = some o := λ b o e => hsb.extBut b o (Nat.ne_of_lt (Heap.lt_size e)) (Heap.get?_push_of_some _ e)
 have D : Led W.B ((s₃.heap.objs.size, IsNs (ks.map λ k => (k, none))) :: (env.locals, IsNs loc) :: (acc, IsD W acc []) :: nw) h₁ := by
  obtain ⟨o, es, ep, ho', hd, hsk, hf⟩ := hns
  refine S₃.led.cons_new hkp S₃.led.size_ne S₃.led.size_new ho' ⟨by rw [List.map_map]; simpa [Function.comp_def] using hnd, es, ep, hd, hsk, λ x => ?_⟩
  rw [hf x, aB2]; rfl
 have ek : (ks.map λ k => ((k, none) : Str × Option Value)).map Prod.fst = ks := by rw [List.map_map]; simp [Function.comp_def]
 have eok : EnvOk (compEnvC scope cl s₃.heap.objs.size env) ks := ⟨hkind, he, hb, λ x hx => lookup_relabel_local (hks x hx).1, λ x hx => (hks x hx).2, hnd⟩
 refine codeAny_mono (kk acc s₃.heap.objs.size { s₃ with heap := h₁, toks := s₃.toks + 0 } eok ⟨S₃.ok, by rw [ek]; exact eok, D.perm (List.Perm.cons _ (List.Perm.swap ..)), S₃.bare, S₃.os, S₃.gens, S₃.gnd⟩) λ r s'' h'' => ?_
 obtain ⟨f, loc', loc2, nw', G', rfl, S', hp, hQ⟩ := h''
 exact aF4 (cenv := compEnvC scope cl s₃.heap.objs.size env) S.eok S' hp hQ
noncomputable def CompKA (W : Wd) (A : Around) (env : Env) (e : Expr) (scope : Scope) (cl : List (Str × Addr)) (ks : List Str) (y : Str) (Q : Flow -> Shared -> Prop) (it : Value) (s : Shared) : Prop :=
 ∃ G loc nw, Sta W G env loc nw s /\ ∀ acc C s', EnvOk (compEnvC scope cl C env) ks -> Sta W G (compEnvC scope cl C env) (ks.map λ k => (k, none)) ((acc, aAa []) :: (env.locals, IsNs loc) :: nw) s' ->
  codeAny (model W.prog W.w) A (.compStart e 0 it (.ref acc) (compEnvC scope cl C env)) (λ r s'' => ∃ f loc' loc2 nw' G', r = .ok f /\ Sta W G' (compEnvC scope cl C env) loc' ((env.locals, IsNs loc) :: nw') s'' /\ Put y (some (.ref acc)) loc loc2 /\ ∀ s₃, Sta W G' env loc2 nw' s₃ -> Q .next s₃) s'
theorem aA6 {elt target iter : Expr} {gens : List Comprehension} {scope : Scope} {pos py spos : Pos} {y : Str} {cl : List (Str × Addr)} {ifs : List Expr} {Q : Flow -> Shared -> Prop} (ks : List Str)
  (hsw : swapsWith (.ListComp elt (⟨target, iter, ifs, 0⟩ :: gens) scope pos) (some (.Name y py)) spos.line env = pure true)
  (hclos : closureFor scope env = pure cl) (hk : aA9 scope ks = true) (he : env.globals = mainGlobals) (hb : env.builtins = builtinsNs)
  (h : wpAny (model W.prog W.w) A (eval iter env) (λ x s₁ => wpAny (model W.prog W.w) A (pyIter x) (λ it s₂ => CompKA W A env (.ListComp elt (⟨target, iter, ifs, 0⟩ :: gens) scope pos) scope cl ks y Q it s₂) E s₁) E s)
  (hs : ∀ x, foldedSetIterable iter env x = pure x := by intro _; rfl) :
  wpAny (model W.prog W.w) A (exec (.Assign [.Name y py] (.ListComp elt (⟨target, iter, ifs, 0⟩ :: gens) scope pos) spos) env) Q E s := by
 simp only [aA9, Bool.and_eq_true, beq_iff_eq, Bool.not_eq_true', List.all_eq_true, bne_iff_ne, decide_eq_true_eq, Bool.or_eq_true] at hk
 obtain ⟨⟨⟨⟨hkind, hcell⟩, hnames⟩, hks⟩, hnd⟩ := hk
 rw [exec_Assign_Name_used _ _ _ _ hsw]
 refine wpAny_bind (wpAny_standAt (wpAny_bind ?_))
 show wpAny _ A (do let _ ← comprehension (.ListComp elt (⟨target, iter, ifs, 0⟩ :: gens) scope pos) scope env _ (newList []) false (eval iter env) (some (assign (.Name y py) env))) _ _ s
 refine wpAny_bind (wpAny_mono (wpAny_comprehension_free (use := some (assign (.Name y py) env)) (Q := λ _ s' => Q .next s') (cl := cl) rfl hs hclos hkind (λ x hx hl => (hnames x hx).resolve_left λ q => q hl) (wpAny_mono h (λ xv s₁ h₁ => wpAny_mono h₁ (λ it s₂ h₂ => ?_) λ _ _ e => e) λ _ _ e => e)) (λ _ s' hq => wpAny_pure (wpAny_pure hq)) λ _ _ e => e)
 obtain ⟨G, loc, nw, S, kk⟩ := h₂
 refine S.newList (by simp) λ acc s₃ S₃ => ?_
 refine wpAny_newFunctionEnv hcell (by intro y hy; simp at hy) (λ h₁ hns hsb => ?_) hkind
 have hkp : ∀ b o, s₃.heap.get? b = some o -> h₁.get? b = some o := λ b o e => hsb.extBut b o (Nat.ne_of_lt (Heap.lt_size e)) (Heap.get?_push_of_some _ e)
 have D : Led W.B ((s₃.heap.objs.size, IsNs (ks.map λ k => (k, none))) :: (env.locals, IsNs loc) :: (acc, aAa []) :: nw) h₁ := by
  obtain ⟨o, es, ep, ho', hd, hsk, hf⟩ := hns
  refine S₃.led.cons_new hkp S₃.led.size_ne S₃.led.size_new ho' ⟨by rw [List.map_map]; simpa [Function.comp_def] using hnd, es, ep, hd, hsk, λ x => ?_⟩
  rw [hf x, aB2]; rfl
 have ek : (ks.map λ k => ((k, none) : Str × Option Value)).map Prod.fst = ks := by rw [List.map_map]; simp [Function.comp_def]
 have eok : EnvOk (compEnvC scope cl s₃.heap.objs.size env) ks := ⟨hkind, he, hb, λ x hx => lookup_relabel_local (hks x hx).1, λ x hx => (hks x hx).2, hnd⟩
 refine codeAny_mono (kk acc s₃.heap.objs.size { s₃ with heap := h₁, toks := s₃.toks + 0 } eok ⟨S₃.ok, by rw [ek]; exact eok, D.perm (List.Perm.cons _ (List.Perm.swap ..)), S₃.bare, S₃.os, S₃.gens, S₃.gnd⟩) λ r s'' h'' => ?_
 obtain ⟨f, loc', loc2, nw', G', rfl, S', hp, hQ⟩ := h''
 exact aF4 (cenv := compEnvC scope cl s₃.heap.objs.size env) S.eok S' hp hQ
theorem Sta.isub {a b : Int} {t u : Tok} {Q : Value -> Shared -> Prop} (S : Sta W G env loc nw s) (h : ∀ t s', Sta W G env loc nw s' -> Q (.int (a - b) t) s') : wpAny (model W.prog W.w) A (inplaceOp .Sub (.int a t) (.int b u)) Q E s :=
 PyProof.Rows.isub_int (h _ _ (S.toks _))
end
end Mine
end
section
namespace Mine
theorem aCA {prog : Program} {w : World} {A : Around} {s : Shared} {R : Result -> Shared -> Prop} {elt target iter c : Expr} {scope : Scope} {pos : Pos} {it acc : Value} {env : Env}
  (I : Nat -> Shared -> Prop)
  (turn : ∀ n s, I n s -> wpAny (model prog w) A (pyNext it) (λ r s₁ => match r with
   | none => R (.ok .next) s₁
   | some v => wpAny (model prog w) A (letOwnedTupleGo target it v) (λ _ s₁ => wpAny (model prog w) A (assign target env v) (λ _ s₂ => wpAny (model prog w) A (isTrue c env (eval c env)) (λ b s₃ => if b = true then
     wpAny (model prog w) A (eval elt env) (λ y s₄ => wpAny (model prog w) A (call (.builtin "list.append") [acc, y]) (λ _ s₅ => ∃ m, m < n /\ I m s₅) (λ _ _ => False) s₄) (λ _ _ => False) s₃ else ∃ m, m < n /\ I m s₃)
     (λ _ _ => False) s₂) (λ _ _ => False) s₁) (λ _ _ => False) s₁) (λ _ _ => False) s)
  (n : Nat) (h : I n s) : codeAny (model prog w) A (.compLoop (.ListComp elt [⟨target, iter, [c], 0⟩] scope pos) 0 it acc env) R s := by
 refine codeAny_loop rfl I (λ n s hI => ?_) n h
 refine wpAny_noted ?_
 rw [compTurn_list]
 refine wpAny_bind (wpAny_standAt (wpAny_bind (wpAny_mono (turn n s hI) (λ r s₁ h₁ => ?_) λ _ _ h' => h'.elim)))
 cases r with
 | none => exact wpAny_pure h₁
 | some v =>
  refine wpAny_bind (wpAny_mono h₁ (λ _ s₁' h₁' => ?_) λ _ _ h' => h'.elim)
  refine wpAny_bind (wpAny_mono h₁' (λ _ s₂ h₂ => ?_) λ _ _ h' => h'.elim)
  refine wpAny_bind (wpAny_tests_one (wpAny_mono h₂ (λ b s₃ h₃ => ?_) λ _ _ h' => h'.elim))
  cases b with
  | true =>
   refine wpAny_bind (wpAny_bind (wpAny_mono h₃ (λ y s₄ h₄ => wpAny_bind (wpAny_mono h₄ (λ _ s₅ h₅ => wpAny_pure (wpAny_pure ⟨rfl, h₅⟩)) λ _ _ h' => h'.elim)) λ _ _ h' => h'.elim))
  | false =>
   exact wpAny_pure ⟨rfl, h₃⟩
section
variable {W : Wd} {sh : Ledger} {env : Env} {A : Around} {R : Result -> Shared -> Prop} {it : Addr} {elt target iter c : Expr} {scope : Scope} {pos : Pos} {acc : Value}
theorem aJD {α : Type} {P : α -> Value -> Prop} (hA : Aok 7 A)
  (J : List α -> Loc -> Ledger -> Gens -> Prop)
  (turn : ∀ x v rest tl tg loc nw G s, P x v -> Sta W (G ++ tg) env loc (nw ++ (sh ++ tl)) s -> J (x :: rest) loc nw G ->
   wpAny (model W.prog W.w) A (assign target env v) (λ _ s₂ => wpAny (model W.prog W.w) A (isTrue c env (eval c env)) (λ b s₃ => if b = true then
    wpAny (model W.prog W.w) A (eval elt env) (λ y s₄ => wpAny (model W.prog W.w) A (call (.builtin "list.append") [acc, y]) (λ _ s₅ => ∃ loc' nw' G', Sta W (G' ++ tg) env loc' (nw' ++ (sh ++ tl)) s₅ /\ J rest loc' nw' G') (λ _ _ => False) s₄) (λ _ _ => False) s₃
    else ∃ loc' nw' G', Sta W (G' ++ tg) env loc' (nw' ++ (sh ++ tl)) s₃ /\ J rest loc' nw' G') (λ _ _ => False) s₂) (λ _ _ => False) s)
  (fin : ∀ loc nw G s, Sta W G env loc (nw ++ sh) s -> J [] loc nw G -> R (.ok .next) s)
  {vs : List α} {own : Ledger} {og G : Gens} {loc : Loc} {nw : Ledger} {s : Shared} (S : Sta W (G ++ og) env loc (nw ++ (sh ++ own)) s) (hy : YieldsR W sh it P vs own og) (hJ : J vs loc nw G) :
  codeAny (model W.prog W.w) A (.compLoop (.ListComp elt [⟨target, iter, [c], 0⟩] scope pos) 0 (.ref it) acc env) R s := by
 refine aCA (λ n s => ∃ vs own og G loc nw, vs.length = n /\ Sta W (G ++ og) env loc (nw ++ (sh ++ own)) s /\ YieldsR W sh it P vs own og /\ J vs loc nw G) (λ n s hI => ?_) vs.length ⟨vs, own, og, G, loc, nw, rfl, S, hy, hJ⟩
 obtain ⟨vs, own, og, G, loc, nw, hn, S, hy, hJ⟩ := hI
 cases vs with
 | nil => exact hy.2 A ((env.locals, IsNs loc) :: nw) G s _ _ hA S.to0 λ s' S' => fin loc nw G s' (St0.toSta S' S.eok) hJ
 | cons x rest =>
  refine hy.2 A ((env.locals, IsNs loc) :: nw) G s _ _ hA S.to0 λ v own' og' s' hpv S' hy' => ?_
  have S1 : Sta W (G ++ og') env loc (nw ++ (sh ++ own')) s' := St0.toSta S' S.eok
  have ht : Typ sh it own' := by cases rest <;> exact hy'.1
  obtain ⟨c, hc, hp⟩ := ht
  obtain ⟨o, ho, hco⟩ := S1.get (a := it) (c := c) (List.mem_append_right _ hc)
  refine aHU ho (hp o hco) ?_
  have nx : ∀ s₃, (∃ loc' nw' G', Sta W (G' ++ og') env loc' (nw' ++ (sh ++ own')) s₃ /\ J rest loc' nw' G') -> ∃ m, m < n /\ ∃ vs own og G loc nw, vs.length = m /\ Sta W (G ++ og) env loc (nw ++ (sh ++ own)) s₃ /\ YieldsR W sh it P vs own og /\ J vs loc nw G := by
   intro s₃ h₃
   obtain ⟨loc', nw', G', S3, hJ'⟩ := h₃
   exact ⟨rest.length, by rw [← hn]; simp, rest, own', og', G', loc', nw', rfl, S3, hy', hJ'⟩
  refine wpAny_mono (turn x v rest own' og' loc nw G s' hpv S1 hJ) (λ _ s₂ h₂ => wpAny_mono h₂ (λ b s₃ h₃ => ?_) λ _ _ h => h) λ _ _ h => h
  cases b with
  | true =>
   exact wpAny_mono h₃ (λ y s₄ h₄ => wpAny_mono h₄ (λ _ s₅ h₅ => nx s₅ h₅) λ _ _ h => h) λ _ _ h => h
  | false =>
   exact nx s₃ h₃
end
section
variable {W : Wd} {G : Gens} {env : Env} {loc loc' : Loc} {nw nw' : Ledger} {s : Shared} {A : Around} {E : Value -> Shared -> Prop}
theorem Sta.sub_str {x : Str} {t u : Tok} {k : Int} {j c : Nat} {Q : Value -> Shared -> Prop} (S : Sta W G env loc nw s) (hk : k = (j : Int)) (hj : j < 1000000) (hx : x.cps.toList[j]? = some c) (h : ∀ t s', Sta W G env loc nw s' -> Q (.str ⟨#[c]⟩ t) s') :
  SubscriptOn (model W.prog W.w) A (.str x t) (.int k u) Q E s := by
 subst hk
 have hlt : j < x.cps.toList.length := (List.getElem?_eq_some_iff.mp hx).1
 refine ⟨"str", _, F.slot_str_getitem.lookup, typeIs_str _ _ _, P.getItem_str (i := (j : Int)) (c := c) ?_ ?_ (h _ _ (S.toks _))⟩
 ·simp; omega
 ·have e : seqIndex? (j : Int) x.length = some j := by
   unfold seqIndex?
   have hl : j < x.length := by rw [Str.len_list]; exact hlt
   simp; omega
  rw [e]
  simpa using hx
theorem Sta.addLL {l b : Addr} {xs ys : List Value} {Q : Value -> Shared -> Prop} (S : Sta W G env loc nw s) (m1 : (l, aAa xs) ∈ nw) (m2 : (b, aAa ys) ∈ nw) (hz : xs.length + ys.length <= sizeLine) (h : ∀ a s', Sta W G env loc ((a, aAa (xs ++ ys)) :: nw) s' -> Q (.ref a) s') :
  wpAny (model W.prog W.w) A (binaryOp .Add (.ref l) (.ref b)) Q E s := by
 obtain ⟨n1, h1⟩ := S.isL m1
 obtain ⟨n2, h2⟩ := S.isL m2
 have e : xs.toArray ++ ys.toArray = (xs ++ ys).toArray := by simp
 refine concat_meets ⟨_, h1, rfl⟩ ⟨_, h2, rfl⟩ noFill_list_add seq_list_add PySem.F.slot_list_add PySem.F.entry_list_add (PySem.F.args_list_add_2 _ _) (list_addW l b xs.toArray ys.toArray n1 n2 none none #[] #[] (by simpa using hz)) ⟨h1, h2, ?_⟩
 rw [e]
 exact h _ _ (S.new (c := aAa (xs ++ ys)) rfl ⟨0, rfl⟩ s.toks)
theorem aHg {elt target iter : Expr} {ifs : List Expr} {gens : List Comprehension} {scope : Scope} {pos : Pos} {cl : List (Str × Addr)} {Q : Value -> Shared -> Prop} (ks : List Str)
  (hclos : closureFor scope env = pure cl) (hk : aA9 scope ks = true) (he : env.globals = mainGlobals) (hb : env.builtins = builtinsNs)
  (h : wpAny (model W.prog W.w) A (eval iter env) (λ x s₁ => wpAny (model W.prog W.w) A (pyIter x) (λ it s₂ => CompK W A env (.ListComp elt (⟨target, iter, ifs, 0⟩ :: gens) scope pos) scope cl ks Q it s₂) E s₁) E s)
  (hs : ∀ x, foldedSetIterable iter env x = pure x := by intro _; rfl) :
  wpAny (model W.prog W.w) A (eval (.ListComp elt (⟨target, iter, ifs, 0⟩ :: gens) scope pos) env) Q E s := by
 simp only [aA9, Bool.and_eq_true, beq_iff_eq, Bool.not_eq_true', List.all_eq_true, bne_iff_ne, decide_eq_true_eq, Bool.or_eq_true] at hk
 obtain ⟨⟨⟨⟨hkind, hcell⟩, hnames⟩, hks⟩, hnd⟩ := hk
 refine wpAny_comprehension_free (use := none) (cl := cl) rfl hs hclos hkind (λ x hx hl => (hnames x hx).resolve_left λ q => q hl) (wpAny_mono h (λ xv s₁ h₁ => wpAny_mono h₁ (λ it s₂ h₂ => ?_) λ _ _ e => e) λ _ _ e => e)
 obtain ⟨G, loc, nw, S, kk⟩ := h₂
 refine S.newList (by simp) λ acc s₃ S₃ => ?_
 refine wpAny_newFunctionEnv hcell (by intro y hy; simp at hy) (λ h₁ hns hsb => ?_) hkind
 have hkp : ∀ b o, s₃.heap.get? b = some o -> h₁.get? b = some o := λ b o e => hsb.extBut b o (Nat.ne_of_lt (Heap.lt_size e)) (Heap.get?_push_of_some _ e)
 have D : Led W.B ((s₃.heap.objs.size, IsNs (ks.map λ k => (k, none))) :: (env.locals, IsNs loc) :: (acc, aAa []) :: nw) h₁ := by
  obtain ⟨o, es, ep, ho', hd, hsk, hf⟩ := hns
  refine S₃.led.cons_new hkp S₃.led.size_ne S₃.led.size_new ho' ⟨by rw [List.map_map]; simpa [Function.comp_def] using hnd, es, ep, hd, hsk, λ x => ?_⟩
  rw [hf x, aB2]; rfl
 have ek : (ks.map λ k => ((k, none) : Str × Option Value)).map Prod.fst = ks := by rw [List.map_map]; simp [Function.comp_def]
 have eok : EnvOk (compEnvC scope cl s₃.heap.objs.size env) ks := ⟨hkind, he, hb, λ x hx => lookup_relabel_local (hks x hx).1, λ x hx => (hks x hx).2, hnd⟩
 refine codeAny_mono (kk acc s₃.heap.objs.size { s₃ with heap := h₁, toks := s₃.toks + 0 } eok ⟨S₃.ok, by rw [ek]; exact eok, D.perm (List.Perm.cons _ (List.Perm.swap ..)), S₃.bare, S₃.os, S₃.gens, S₃.gnd⟩) λ r s'' h'' => ?_
 obtain ⟨f, loc', nw', G', rfl, S', hQ⟩ := h''
 refine ⟨_, S'.ns, λ h' hs' => hQ _ ⟨S'.ok, S.eok, ?_, S'.bare, S'.os, S'.gens, S'.gnd⟩⟩
 have := Led.dropBack (nw := []) (h' := h') S'.led λ b o hb e => (hs'.2 b hb).trans e
 exact this
end
end Mine
end
section
namespace Mine
theorem aDC : ∀ (kvs acc : List (Str × Value)), ((acc ++ kvs).map (·.1)).Nodup -> merged acc kvs = acc ++ kvs
 | [], acc, _ => by simp [merged]
 | (x, v) :: r, acc, h => by
  have hx : x ∉ acc.map (·.1) := by
   rw [List.map_append, List.nodup_append] at h
   intro m
   exact h.2.2 x m x (by simp) rfl
  have e : merged acc ((x, v) :: r) = merged (stored acc x v) r := by simp [merged]
  rw [e, aCq hx, aDC r (acc ++ [(x, v)]) (by simpa using h)]
  simp
section
variable {M : Model} {A : Around} {E : Value -> Shared -> Prop} {s : Shared} {env : Env} {prog : Program} {w : World}
theorem aG2 {pos : Pos} {Q : List (Value × Value) -> Shared -> Prop} (h : Q [] s) : wpAny (model prog w) A (evalPairs (pairTrees [] [] env pos)) Q E s := evalPairs_nil h
theorem aGh {k v : Expr} {ks : List (Option Expr)} {vs : List Expr} {pos : Pos} {Q : List (Value × Value) -> Shared -> Prop}
  (h : wpAny (model prog w) A (eval k env) (λ kv s₁ => wpAny (model prog w) A (eval v env) (λ vv s₂ => wpAny (model prog w) A (evalPairs (pairTrees ks vs env pos)) (λ r s₃ => Q ((kv, vv) :: r) s₃) E s₂) E s₁) E s) :
  wpAny (model prog w) A (evalPairs (pairTrees (some k :: ks) (v :: vs) env pos)) Q E s := by
 show wpAny _ _ (evalPairs ((eval k env, do let x ← eval v env; standAt pos; pure x) :: pairTrees ks vs env pos)) _ _ _
 refine evalPairs_cons (wpAny_mono h (λ kv s₁ h₁ => ?_) λ _ _ e => e)
 exact wpAny_bind (wpAny_mono h₁ (λ vv s₂ h₂ => wpAny_bind (wpAny_standAt (wpAny_pure h₂))) λ _ _ e => e)
end
section
variable {W : Wd} {G : Gens} {env : Env} {loc loc' : Loc} {nw nw' : Ledger} {s : Shared} {A : Around} {E : Value -> Shared -> Prop}
noncomputable def DLit (W : Wd) (env : Env) (Q : Value -> Shared -> Prop) (d : Addr) (vs : List (Value × Value)) (s : Shared) : Prop :=
 ∃ G loc nw nw' kvs, Sta W G env loc nw s /\ Carries (PySem.strKind W.prog W.w) vs kvs /\ (kvs.map (·.1)).Nodup /\ kvs.length <= 100 /\ Upd d (IsD W d []) (IsD W d kvs) nw nw' /\ ∀ s', Sta W G env loc nw' s' -> Q (.ref d) s'
theorem Sta.dictLit {keys : List (Option Expr)} {values : List Expr} {pos : Pos} {Q : Value -> Shared -> Prop} (hall : keys.all (·.isSome) = true) (hl : keys.length = values.length) (h0 : keys ≠ []) (hlen : keys.length <= 15) (S : Sta W G env loc nw s)
  (h : ∀ d s', Sta W G env loc ((d, IsD W d []) :: nw) s' -> wpAny (model W.prog W.w) A (evalPairs (pairTrees keys values env pos)) (λ vs s₁ => DLit W env Q d vs s₁) E s') :
  wpAny (model W.prog W.w) A (eval (.Dict keys values pos) env) Q E s := by
 refine wpAny_Dict_any hall hl h0 hlen ?_
 refine wpAny_mono (h _ _ (S.new (c := IsD W s.heap.objs.size []) rfl (aDg S.size_mods) s.toks)) (λ vs s₁ h₁ => ?_) λ _ _ e => e
 obtain ⟨G', loc', nw1, nw2, kvs, S1, hc, hnd, hk, U, k⟩ := h₁
 obtain ⟨hd, hn⟩ := S1.dictAt U.mem
 refine wpAny_storeAll vs kvs [] s₁ _ hc hd (by rw [sizeLine_eq]; simp; omega) λ h' hm hs => ?_
 rw [aDC kvs [] (by simpa using hnd)] at hm
 obtain ⟨o, ho, hdo⟩ := Heap.dictOf_iff.mp hm
 exact k _ (S1.set U (λ b o hb e => (hs.2 b hb).trans e) ho ⟨by simpa using hn, by simpa using hdo⟩ _)
theorem DLit.mk {d : Addr} {vs : List (Value × Value)} {Q : Value -> Shared -> Prop} (kvs : List (Str × Value)) (S : Sta W G env loc nw s) (hc : Carries (PySem.strKind W.prog W.w) vs kvs) (hnd : (kvs.map (·.1)).Nodup) (hk : kvs.length <= 100) (U : Upd d (IsD W d []) (IsD W d kvs) nw nw')
  (h : ∀ s', Sta W G env loc nw' s' -> Q (.ref d) s') : DLit W env Q d vs s := ⟨_, _, _, _, kvs, S, hc, hnd, hk, U, h⟩
end
end Mine
end
section
namespace Mine
section
variable {W : Wd} {G : Gens} {env : Env} {loc loc' : Loc} {nw nw' : Ledger} {s : Shared} {A : Around} {E : Value -> Shared -> Prop}
end
end Mine
end
section
namespace Mine
theorem aEI : Str.empty.length = 0 := rfl
section
variable {M : Model} {s : Shared} {A : Around} {E : Value -> Shared -> Prop} {x : Str} {t : Tok} {Q : Value × List Value -> Shared -> Prop}
theorem aDK (h : Q (.builtin "str.join", [.str x t]) s) : GetM M A E "join" (.str x t) Q s := aCk (name := "join") (id := "str.join") F.slot_str_join F.type_str_join h
theorem aBj (h : Q (.builtin "str.split", [.str x t]) s) : GetM M A E "split" (.str x t) Q s := aCk (name := "split") (id := "str.split") F.slot_str_split F.type_str_split h
theorem aEc (h : Q (.builtin "str.replace", [.str x t]) s) : GetM M A E "replace" (.str x t) Q s := aCk (name := "replace") (id := "str.replace") F.slot_str_replace F.type_str_replace h
end
end Mine
end
section
namespace Mine
theorem aBk {a : Addr} {c : Cell} : ∀ {l : Ledger}, (a, c) ∈ l -> Upd a c c l l
 | p :: l, h => by
  by_cases e : p = (a, c)
  ·subst e; exact .head
  ·rcases List.mem_cons.mp h with h | h
   ·exact absurd h.symm e
   ·exact .tail (aBk h)
theorem Upd.app {a : Addr} {c c' : Cell} {l l' : Ledger} (h : Upd a c c' l l') (R : Ledger) : Upd a c c' (l ++ R) (l' ++ R) := by
 induction h with
 | head => exact .head
 | tail h ih => exact .tail ih
theorem TxtsAre.unsnoc {vs : List Value} {ss : List Str} {x : Str} (h : TxtsAre vs (ss ++ [x])) : ∃ vs' t, vs = vs' ++ [.str x t] /\ TxtsAre vs' ss := by
 induction ss generalizing vs with
 | nil => cases h with | cons n t h => cases h; exact ⟨[], t, rfl, .nil⟩
 | cons m r ih =>
  cases h with
  | cons m u h =>
   obtain ⟨vs', t, e, k⟩ := ih h
   exact ⟨.str m u :: vs', t, by rw [e]; rfl, .cons m u k⟩
theorem TxtsAre.at? {vs : List Value} {ss : List Str} (h : TxtsAre vs ss) {j : Nat} {x : Str} (hx : ss[j]? = some x) : ∃ t, vs[j]? = some (.str x t) := by
 obtain ⟨hj, rfl⟩ := List.getElem?_eq_some_iff.mp hx
 exact h.at' j hj
theorem TxtsAre.set {vs : List Value} {ss : List Str} (h : TxtsAre vs ss) : ∀ (j : Nat) (x : Str) (t : Tok), TxtsAre (vs.set j (.str x t)) (ss.set j x) := by
 induction h with
 | nil => intro k n t; exact .nil
 | cons m u h ih =>
  intro k n t
  cases k with
  | zero => exact .cons n t h
  | succ k => exact .cons m u (ih k n t)
section
variable {W : Wd} {G : Gens} {env : Env} {loc loc' : Loc} {nw nw' N : Ledger} {s : Shared} {A : Around} {E : Value -> Shared -> Prop}
theorem Sta.lenT {a : Addr} {ss : List Str} {Q : Value -> Shared -> Prop} (S : Sta W G env loc nw s) (m : (a, aAb ss) ∈ nw) (hz : ss.length <= sizeLine) (h : ∀ t s', Sta W G env loc nw s' -> Q (.int ss.length t) s') :
  wpAny (model W.prog W.w) A (call (.builtin "len") [.ref a]) Q E s := by
 obtain ⟨vs, ht, hl⟩ := S.txts m
 have hlen := ht.length
 have q := h (s.toks + 1) _ (S.toks (s.toks + 1 + 1))
 refine len_list hl ?_ ?_
 ·rw [sizeLine_eq] at hz; simp [hlen]; omega
 ·simpa [hlen] using q
theorem Sta.popT {a : Addr} {ss : List Str} {x : Str} {Q : Value -> Shared -> Prop} (S : Sta W G env loc nw s) (U : Upd a (aAb (ss ++ [x])) (aAb ss) nw nw') (hz : ss.length < sizeLine) (h : ∀ t s', Sta W G env loc nw' s' -> Q (.str x t) s') :
  wpAny (model W.prog W.w) A (call (.builtin "list.pop") [.ref a]) Q E s := by
 obtain ⟨vs, nw1, ht, U1, U2, S1⟩ := S.openT U
 obtain ⟨vs', t, rfl, ht'⟩ := ht.unsnoc
 obtain ⟨nw2, U3, U4⟩ := U2.via2 (aAa vs')
 exact S1.pop U3 (by rw [ht'.length]; exact hz) λ s' S2 => h t _ (S2.tell U4 λ o _ ho => ⟨_, ht', ho⟩)
theorem Sta.subT {a : Addr} {ss : List Str} {k : Int} {j : Nat} {t : Tok} {x : Str} {Q : Value -> Shared -> Prop} (S : Sta W G env loc nw s) (m : (a, aAb ss) ∈ nw) (hk : k = (j : Int)) (hj : j < 1000000) (hx : ss[j]? = some x) (h : ∀ t, Q (.str x t) s) :
  SubscriptOn (model W.prog W.w) A (.ref a) (.int k t) Q E s := by
 obtain ⟨vs, nw1, ht, U1, U2, S1⟩ := S.openT (aBk m)
 obtain ⟨u, hu⟩ := ht.at? hx
 exact S1.sub_list U2.mem (by omega) (by omega) (by rw [hk]; simpa using hu) (h u)
theorem Sta.subT_last {a : Addr} {ss : List Str} {t : Tok} {x : Str} {Q : Value -> Shared -> Prop} (S : Sta W G env loc nw s) (m : (a, aAb (ss ++ [x])) ∈ nw) (h : ∀ t, Q (.str x t) s) :
  SubscriptOn (model W.prog W.w) A (.ref a) (.int (-1) t) Q E s := by
 obtain ⟨vs, nw1, ht, U1, U2, S1⟩ := S.openT (aBk m)
 obtain ⟨vs', u, rfl, ht'⟩ := ht.unsnoc
 exact S1.sub_last U2.mem (by simp) (h u)
theorem aBh {l : Addr} {ss : List Str} {k : Int} {j : Nat} {t : Tok} {Q : Value -> Shared -> Prop} (S : Sta W G env loc nw s) (m : (l, aAb ss) ∈ nw) (hz : ss.length <= sizeLine) (hk : k = (j : Int)) (h : ∀ a s', Sta W G env loc ((a, aAb (ss.drop j)) :: nw) s' -> Q (.ref a) s') :
  aEU W env Q (.ref l) (.int k t) .none s := by
 obtain ⟨vs, nw1, ht, U1, U2, S1⟩ := S.openT (aBk m)
 refine ⟨G, loc, nw1, l, vs, some k, none, S1, rfl, U2.mem, by rw [ht.length]; exact hz, .int _ _, .none, λ a s' S2 => ?_⟩
 rw [hk, aGd] at S2
 have S3 := S2.tell (.tail U2) λ o _ ho => ⟨_, ht, ho⟩
 exact h a s' (S3.tell .head λ o _ ho => ⟨_, ht.drop j, ho⟩)
end
end Mine
end
section
namespace Mine
noncomputable def Pl {α : Type} (p : α) (L L' : List α) : Prop := L.Perm (p :: L')
noncomputable def Ps {α : Type} (A L L' : List α) : Prop := L.Perm (A ++ L')
section
variable {α : Type} {p q x : α} {A B C L L' L2 R r r' : List α}
theorem pl_h : Pl p (p :: r) r := List.Perm.refl _
theorem pl_t (h : Pl p r r') : Pl p (q :: r) (q :: r') := (List.Perm.cons q h).trans (List.Perm.swap ..)
theorem pl_a (h : Pl p r r') : Pl p (A ++ r) (A ++ r') := (List.Perm.append_left A h).trans List.perm_middle
theorem pl_c (h : Pl p (x :: (A ++ B)) L') : Pl p ((x :: A) ++ B) L' := h
theorem pl_n (h : Pl p B L') : Pl p ([] ++ B) L' := h
theorem pl_s (h : Pl p (A ++ (B ++ C)) L') : Pl p ((A ++ B) ++ C) L' := by unfold Pl at h ⊢; rw [List.append_assoc]; exact h
theorem ps_h : Ps A (A ++ r) r := List.Perm.refl _
theorem ps_e : Ps A A [] := by unfold Ps; rw [List.append_nil]
theorem ps_t (h : Ps A r r') : Ps A (q :: r) (q :: r') := (List.Perm.cons q h).trans List.perm_middle.symm
theorem ps_a (h : Ps A r r') : Ps A (B ++ r) (B ++ r') := by
 unfold Ps at h ⊢
 refine (List.Perm.append_left B h).trans ?_
 rw [← List.append_assoc, ← List.append_assoc]
 exact List.Perm.append_right r' List.perm_append_comm
theorem ps_c (h : Ps A (x :: (C ++ B)) L') : Ps A ((x :: C) ++ B) L' := h
theorem ps_n (h : Ps A B L') : Ps A ([] ++ B) L' := h
theorem ps_s (h : Ps L (A ++ (B ++ C)) L') : Ps L ((A ++ B) ++ C) L' := by unfold Ps at h ⊢; rw [List.append_assoc]; exact h
theorem pm_p (h : Pl p L L') (k : L'.Perm R) : L.Perm (p :: R) := h.trans (List.Perm.cons p k)
theorem pm_s (h : Ps A L L') (k : L'.Perm R) : L.Perm (A ++ R) := h.trans (List.Perm.append_left A k)
theorem pm_k (k : L.Perm R) : (p :: L).Perm (p :: R) := List.Perm.cons p k
theorem pm_a (k : L.Perm R) : (A ++ L).Perm (A ++ R) := List.Perm.append_left A k
theorem pm_cl (k : (x :: (A ++ B)).Perm R) : ((x :: A) ++ B).Perm R := k
theorem pm_cr (k : L.Perm (x :: (A ++ B))) : L.Perm ((x :: A) ++ B) := k
theorem pm_nl (k : B.Perm R) : ([] ++ B).Perm R := k
theorem pm_nr (k : L.Perm B) : L.Perm ([] ++ B) := k
theorem pm_sl (k : (A ++ (B ++ C)).Perm R) : ((A ++ B) ++ C).Perm R := by rw [List.append_assoc]; exact k
theorem pm_sr (k : L.Perm (A ++ (B ++ C))) : L.Perm ((A ++ B) ++ C) := by rw [List.append_assoc]; exact k
theorem pm_el (k : A.Perm R) : (A ++ []).Perm R := by rw [List.append_nil]; exact k
theorem pm_er (k : L.Perm A) : L.Perm (A ++ []) := by rw [List.append_nil]; exact k
end
end Mine
end
section
namespace Mine
section
variable {W : Wd} {G : Gens} {env : Env} {loc loc' : Loc} {nw nw' N : Ledger} {s : Shared} {A : Around} {E : Value -> Shared -> Prop}
theorem IntsAre.at? {vs : List Value} {ns : List Int} (h : IntsAre vs ns) {j : Nat} {x : Int} (hx : ns[j]? = some x) : ∃ t, vs[j]? = some (.int x t) := by
 obtain ⟨hj, rfl⟩ := List.getElem?_eq_some_iff.mp hx
 exact Mine.IntsAre.getAt h j hj
end
end Mine
end
section
set_option compiler.extract_closed false
namespace Mine
theorem Sta.pl {W : Wd} {G : Gens} {env : Env} {loc : Loc} {nw nw' : Ledger} {s : Shared} {p : Addr × Cell} (S : Sta W G env loc nw s) (h : Pl p nw nw') : Sta W G env loc (p :: nw') s := S.perm h
theorem CellsAt.cons' {env : Env} {x : Str} {xs : List Str} : ∀ {cs : List Addr}, CellsAt env (x :: xs) cs -> ∃ c r, cs = c :: r /\ CellOk env .cell x c /\ CellsAt env xs r := by
 intro cs h
 cases cs with
 | nil => exact h.elim
 | cons c r => exact ⟨c, r, rfl, h.1, h.2⟩
theorem CellsAt.nil' {env : Env} {cs : List Addr} (h : CellsAt env [] cs) : cs = [] := by
 cases cs with
 | nil => rfl
 | cons c r => exact h.elim
theorem CellsAt.one {env : Env} {x : Str} {cs : List Addr} (h : CellsAt env [x] cs) : ∃ c, cs = [c] /\ CellOk env .cell x c := by
 obtain ⟨c, r, rfl, h1, h2⟩ := h.cons'
 rw [h2.nil']
 exact ⟨c, rfl, h1⟩
theorem CellsAt.two {env : Env} {x y : Str} {cs : List Addr} (h : CellsAt env [x, y] cs) : ∃ c d, cs = [c, d] /\ CellOk env .cell x c /\ CellOk env .cell y d := by
 obtain ⟨c, r, rfl, h1, h2⟩ := h.cons'
 obtain ⟨d, rfl, h3⟩ := h2.one
 exact ⟨c, d, rfl, h1, h3⟩
theorem CellsAt.three {env : Env} {x y z : Str} {cs : List Addr} (h : CellsAt env [x, y, z] cs) : ∃ c d e, cs = [c, d, e] /\ CellOk env .cell x c /\ CellOk env .cell y d /\ CellOk env .cell z e := by
 obtain ⟨c, r, rfl, h1, h2⟩ := h.cons'
 obtain ⟨d, e, rfl, h3, h4⟩ := h2.two
 exact ⟨c, d, e, rfl, h1, h3, h4⟩
section
variable {α : Type}
theorem mem1 {a x0 : α} {l : List α} : a ∈ x0 :: a :: l := (.tail _ (.head _))
theorem mem2 {a x0 x1 : α} {l : List α} : a ∈ x0 :: x1 :: a :: l := (.tail _ (.tail _ (.head _)))
theorem mem3 {a x0 x1 x2 : α} {l : List α} : a ∈ x0 :: x1 :: x2 :: a :: l := (.tail _ (.tail _ (.tail _ (.head _))))
theorem mem4 {a x0 x1 x2 x3 : α} {l : List α} : a ∈ x0 :: x1 :: x2 :: x3 :: a :: l := (.tail _ (.tail _ (.tail _ (.tail _ (.head _)))))
theorem mem5 {a x0 x1 x2 x3 x4 : α} {l : List α} : a ∈ x0 :: x1 :: x2 :: x3 :: x4 :: a :: l := (.tail _ (.tail _ (.tail _ (.tail _ (.tail _ (.head _))))))
theorem mem6 {a x0 x1 x2 x3 x4 x5 : α} {l : List α} : a ∈ x0 :: x1 :: x2 :: x3 :: x4 :: x5 :: a :: l := (.tail _ (.tail _ (.tail _ (.tail _ (.tail _ (.tail _ (.head _)))))))
theorem mem7 {a x0 x1 x2 x3 x4 x5 x6 : α} {l : List α} : a ∈ x0 :: x1 :: x2 :: x3 :: x4 :: x5 :: x6 :: a :: l := (.tail _ (.tail _ (.tail _ (.tail _ (.tail _ (.tail _ (.tail _ (.head _))))))))
theorem memS {a x0 x1 x2 x3 x4 x5 x6 x7 : α} {l : List α} (h : a ∈ l) : a ∈ x0 :: x1 :: x2 :: x3 :: x4 :: x5 :: x6 :: x7 :: l := (.tail _ (.tail _ (.tail _ (.tail _ (.tail _ (.tail _ (.tail _ (.tail _ h))))))))
theorem pull1 {p x0 : α} {r : List α} : Pull p (x0 :: p :: r) (x0 :: r) := (.tail .head)
theorem pull2 {p x0 x1 : α} {r : List α} : Pull p (x0 :: x1 :: p :: r) (x0 :: x1 :: r) := (.tail (.tail .head))
theorem pull3 {p x0 x1 x2 : α} {r : List α} : Pull p (x0 :: x1 :: x2 :: p :: r) (x0 :: x1 :: x2 :: r) := (.tail (.tail (.tail .head)))
theorem pull4 {p x0 x1 x2 x3 : α} {r : List α} : Pull p (x0 :: x1 :: x2 :: x3 :: p :: r) (x0 :: x1 :: x2 :: x3 :: r) := (.tail (.tail (.tail (.tail .head))))
theorem pull5 {p x0 x1 x2 x3 x4 : α} {r : List α} : Pull p (x0 :: x1 :: x2 :: x3 :: x4 :: p :: r) (x0 :: x1 :: x2 :: x3 :: x4 :: r) := (.tail (.tail (.tail (.tail (.tail .head)))))
theorem pull6 {p x0 x1 x2 x3 x4 x5 : α} {r : List α} : Pull p (x0 :: x1 :: x2 :: x3 :: x4 :: x5 :: p :: r) (x0 :: x1 :: x2 :: x3 :: x4 :: x5 :: r) := (.tail (.tail (.tail (.tail (.tail (.tail .head))))))
theorem pull7 {p x0 x1 x2 x3 x4 x5 x6 : α} {r : List α} : Pull p (x0 :: x1 :: x2 :: x3 :: x4 :: x5 :: x6 :: p :: r) (x0 :: x1 :: x2 :: x3 :: x4 :: x5 :: x6 :: r) := (.tail (.tail (.tail (.tail (.tail (.tail (.tail .head)))))))
theorem pullS {p x0 x1 x2 x3 x4 x5 x6 x7 : α} {r r' : List α} (h : Pull p r r') : Pull p (x0 :: x1 :: x2 :: x3 :: x4 :: x5 :: x6 :: x7 :: r) (x0 :: x1 :: x2 :: x3 :: x4 :: x5 :: x6 :: x7 :: r') := (.tail (.tail (.tail (.tail (.tail (.tail (.tail (.tail h))))))))
theorem pl1 {p x0 : α} {r : List α} : Pl p (x0 :: p :: r) (x0 :: r) := (pl_t pl_h)
theorem pl2 {p x0 x1 : α} {r : List α} : Pl p (x0 :: x1 :: p :: r) (x0 :: x1 :: r) := (pl_t (pl_t pl_h))
theorem pl3 {p x0 x1 x2 : α} {r : List α} : Pl p (x0 :: x1 :: x2 :: p :: r) (x0 :: x1 :: x2 :: r) := (pl_t (pl_t (pl_t pl_h)))
theorem pl4 {p x0 x1 x2 x3 : α} {r : List α} : Pl p (x0 :: x1 :: x2 :: x3 :: p :: r) (x0 :: x1 :: x2 :: x3 :: r) := (pl_t (pl_t (pl_t (pl_t pl_h))))
theorem pl5 {p x0 x1 x2 x3 x4 : α} {r : List α} : Pl p (x0 :: x1 :: x2 :: x3 :: x4 :: p :: r) (x0 :: x1 :: x2 :: x3 :: x4 :: r) := (pl_t (pl_t (pl_t (pl_t (pl_t pl_h)))))
theorem pl6 {p x0 x1 x2 x3 x4 x5 : α} {r : List α} : Pl p (x0 :: x1 :: x2 :: x3 :: x4 :: x5 :: p :: r) (x0 :: x1 :: x2 :: x3 :: x4 :: x5 :: r) := (pl_t (pl_t (pl_t (pl_t (pl_t (pl_t pl_h))))))
theorem pl7 {p x0 x1 x2 x3 x4 x5 x6 : α} {r : List α} : Pl p (x0 :: x1 :: x2 :: x3 :: x4 :: x5 :: x6 :: p :: r) (x0 :: x1 :: x2 :: x3 :: x4 :: x5 :: x6 :: r) := (pl_t (pl_t (pl_t (pl_t (pl_t (pl_t (pl_t pl_h)))))))
theorem plS {p x0 x1 x2 x3 : α} {r r' : List α} (h : Pl p r r') : Pl p (x0 :: x1 :: x2 :: x3 :: r) (x0 :: x1 :: x2 :: x3 :: r') := (pl_t (pl_t (pl_t (pl_t h))))
end
theorem put1 {x : Str} {u v : Option Value} {x0 : Str × Option Value} {r : Loc} : Put x v (x0 :: (x, u) :: r) (x0 :: (x, v) :: r) := (.tail .head)
theorem put2 {x : Str} {u v : Option Value} {x0 x1 : Str × Option Value} {r : Loc} : Put x v (x0 :: x1 :: (x, u) :: r) (x0 :: x1 :: (x, v) :: r) := (.tail (.tail .head))
theorem put3 {x : Str} {u v : Option Value} {x0 x1 x2 : Str × Option Value} {r : Loc} : Put x v (x0 :: x1 :: x2 :: (x, u) :: r) (x0 :: x1 :: x2 :: (x, v) :: r) := (.tail (.tail (.tail .head)))
theorem put4 {x : Str} {u v : Option Value} {x0 x1 x2 x3 : Str × Option Value} {r : Loc} : Put x v (x0 :: x1 :: x2 :: x3 :: (x, u) :: r) (x0 :: x1 :: x2 :: x3 :: (x, v) :: r) := (.tail (.tail (.tail (.tail .head))))
theorem put5 {x : Str} {u v : Option Value} {x0 x1 x2 x3 x4 : Str × Option Value} {r : Loc} : Put x v (x0 :: x1 :: x2 :: x3 :: x4 :: (x, u) :: r) (x0 :: x1 :: x2 :: x3 :: x4 :: (x, v) :: r) := (.tail (.tail (.tail (.tail (.tail .head)))))
theorem put6 {x : Str} {u v : Option Value} {x0 x1 x2 x3 x4 x5 : Str × Option Value} {r : Loc} : Put x v (x0 :: x1 :: x2 :: x3 :: x4 :: x5 :: (x, u) :: r) (x0 :: x1 :: x2 :: x3 :: x4 :: x5 :: (x, v) :: r) := (.tail (.tail (.tail (.tail (.tail (.tail .head))))))
theorem put7 {x : Str} {u v : Option Value} {x0 x1 x2 x3 x4 x5 x6 : Str × Option Value} {r : Loc} : Put x v (x0 :: x1 :: x2 :: x3 :: x4 :: x5 :: x6 :: (x, u) :: r) (x0 :: x1 :: x2 :: x3 :: x4 :: x5 :: x6 :: (x, v) :: r) := (.tail (.tail (.tail (.tail (.tail (.tail (.tail .head)))))))
theorem putS {x : Str} {v : Option Value} {x0 x1 x2 x3 x4 x5 x6 x7 : Str × Option Value} {r r' : Loc} (h : Put x v r r') : Put x v (x0 :: x1 :: x2 :: x3 :: x4 :: x5 :: x6 :: x7 :: r) (x0 :: x1 :: x2 :: x3 :: x4 :: x5 :: x6 :: x7 :: r') := (.tail (.tail (.tail (.tail (.tail (.tail (.tail (.tail h))))))))
theorem upd1 {a : Addr} {c c' : Cell} {x0 : Addr × Cell} {r : Ledger} : Upd a c c' (x0 :: (a, c) :: r) (x0 :: (a, c') :: r) := (.tail .head)
theorem upd2 {a : Addr} {c c' : Cell} {x0 x1 : Addr × Cell} {r : Ledger} : Upd a c c' (x0 :: x1 :: (a, c) :: r) (x0 :: x1 :: (a, c') :: r) := (.tail (.tail .head))
theorem upd3 {a : Addr} {c c' : Cell} {x0 x1 x2 : Addr × Cell} {r : Ledger} : Upd a c c' (x0 :: x1 :: x2 :: (a, c) :: r) (x0 :: x1 :: x2 :: (a, c') :: r) := (.tail (.tail (.tail .head)))
theorem upd4 {a : Addr} {c c' : Cell} {x0 x1 x2 x3 : Addr × Cell} {r : Ledger} : Upd a c c' (x0 :: x1 :: x2 :: x3 :: (a, c) :: r) (x0 :: x1 :: x2 :: x3 :: (a, c') :: r) := (.tail (.tail (.tail (.tail .head))))
theorem upd5 {a : Addr} {c c' : Cell} {x0 x1 x2 x3 x4 : Addr × Cell} {r : Ledger} : Upd a c c' (x0 :: x1 :: x2 :: x3 :: x4 :: (a, c) :: r) (x0 :: x1 :: x2 :: x3 :: x4 :: (a, c') :: r) := (.tail (.tail (.tail (.tail (.tail .head)))))
theorem upd6 {a : Addr} {c c' : Cell} {x0 x1 x2 x3 x4 x5 : Addr × Cell} {r : Ledger} : Upd a c c' (x0 :: x1 :: x2 :: x3 :: x4 :: x5 :: (a, c) :: r) (x0 :: x1 :: x2 :: x3 :: x4 :: x5 :: (a, c') :: r) := (.tail (.tail (.tail (.tail (.tail (.tail .head))))))
theorem upd7 {a : Addr} {c c' : Cell} {x0 x1 x2 x3 x4 x5 x6 : Addr × Cell} {r : Ledger} : Upd a c c' (x0 :: x1 :: x2 :: x3 :: x4 :: x5 :: x6 :: (a, c) :: r) (x0 :: x1 :: x2 :: x3 :: x4 :: x5 :: x6 :: (a, c') :: r) := (.tail (.tail (.tail (.tail (.tail (.tail (.tail .head)))))))
theorem updS {a : Addr} {c c' : Cell} {x0 x1 x2 x3 x4 x5 x6 x7 : Addr × Cell} {r r' : Ledger} (h : Upd a c c' r r') : Upd a c c' (x0 :: x1 :: x2 :: x3 :: x4 :: x5 :: x6 :: x7 :: r) (x0 :: x1 :: x2 :: x3 :: x4 :: x5 :: x6 :: x7 :: r') := (.tail (.tail (.tail (.tail (.tail (.tail (.tail (.tail h))))))))
theorem midS {L L' : Ledger} {x0 x1 x2 x3 : Addr × Cell} {r r' : Ledger} (h : Mid L L' r r') : Mid L L' (x0 :: x1 :: x2 :: x3 :: r) (x0 :: x1 :: x2 :: x3 :: r') := (.tail (.tail (.tail (.tail h))))
theorem mem8 {α : Type} {a x0 x1 x2 x3 x4 x5 x6 x7 : α} {l : List α} : a ∈ x0 :: x1 :: x2 :: x3 :: x4 :: x5 :: x6 :: x7 :: a :: l := (.tail _ (.tail _ (.tail _ (.tail _ (.tail _ (.tail _ (.tail _ (.tail _ (.head _)))))))))
theorem mem9 {α : Type} {a x0 x1 x2 x3 x4 x5 x6 x7 x8 : α} {l : List α} : a ∈ x0 :: x1 :: x2 :: x3 :: x4 :: x5 :: x6 :: x7 :: x8 :: a :: l := (.tail _ (.tail _ (.tail _ (.tail _ (.tail _ (.tail _ (.tail _ (.tail _ (.tail _ (.head _))))))))))
theorem mem10 {α : Type} {a x0 x1 x2 x3 x4 x5 x6 x7 x8 x9 : α} {l : List α} : a ∈ x0 :: x1 :: x2 :: x3 :: x4 :: x5 :: x6 :: x7 :: x8 :: x9 :: a :: l := (.tail _ (.tail _ (.tail _ (.tail _ (.tail _ (.tail _ (.tail _ (.tail _ (.tail _ (.tail _ (.head _)))))))))))
theorem mem11 {α : Type} {a x0 x1 x2 x3 x4 x5 x6 x7 x8 x9 x10 : α} {l : List α} : a ∈ x0 :: x1 :: x2 :: x3 :: x4 :: x5 :: x6 :: x7 :: x8 :: x9 :: x10 :: a :: l := (.tail _ (.tail _ (.tail _ (.tail _ (.tail _ (.tail _ (.tail _ (.tail _ (.tail _ (.tail _ (.tail _ (.head _))))))))))))
theorem mem12 {α : Type} {a x0 x1 x2 x3 x4 x5 x6 x7 x8 x9 x10 x11 : α} {l : List α} : a ∈ x0 :: x1 :: x2 :: x3 :: x4 :: x5 :: x6 :: x7 :: x8 :: x9 :: x10 :: x11 :: a :: l := (.tail _ (.tail _ (.tail _ (.tail _ (.tail _ (.tail _ (.tail _ (.tail _ (.tail _ (.tail _ (.tail _ (.tail _ (.head _)))))))))))))
theorem mem13 {α : Type} {a x0 x1 x2 x3 x4 x5 x6 x7 x8 x9 x10 x11 x12 : α} {l : List α} : a ∈ x0 :: x1 :: x2 :: x3 :: x4 :: x5 :: x6 :: x7 :: x8 :: x9 :: x10 :: x11 :: x12 :: a :: l := (.tail _ (.tail _ (.tail _ (.tail _ (.tail _ (.tail _ (.tail _ (.tail _ (.tail _ (.tail _ (.tail _ (.tail _ (.tail _ (.head _))))))))))))))
theorem mem14 {α : Type} {a x0 x1 x2 x3 x4 x5 x6 x7 x8 x9 x10 x11 x12 x13 : α} {l : List α} : a ∈ x0 :: x1 :: x2 :: x3 :: x4 :: x5 :: x6 :: x7 :: x8 :: x9 :: x10 :: x11 :: x12 :: x13 :: a :: l := (.tail _ (.tail _ (.tail _ (.tail _ (.tail _ (.tail _ (.tail _ (.tail _ (.tail _ (.tail _ (.tail _ (.tail _ (.tail _ (.tail _ (.head _)))))))))))))))
theorem mem15 {α : Type} {a x0 x1 x2 x3 x4 x5 x6 x7 x8 x9 x10 x11 x12 x13 x14 : α} {l : List α} : a ∈ x0 :: x1 :: x2 :: x3 :: x4 :: x5 :: x6 :: x7 :: x8 :: x9 :: x10 :: x11 :: x12 :: x13 :: x14 :: a :: l := (.tail _ (.tail _ (.tail _ (.tail _ (.tail _ (.tail _ (.tail _ (.tail _ (.tail _ (.tail _ (.tail _ (.tail _ (.tail _ (.tail _ (.tail _ (.head _))))))))))))))))
theorem mem16 {α : Type} {a x0 x1 x2 x3 x4 x5 x6 x7 x8 x9 x10 x11 x12 x13 x14 x15 : α} {l : List α} : a ∈ x0 :: x1 :: x2 :: x3 :: x4 :: x5 :: x6 :: x7 :: x8 :: x9 :: x10 :: x11 :: x12 :: x13 :: x14 :: x15 :: a :: l := (.tail _ (.tail _ (.tail _ (.tail _ (.tail _ (.tail _ (.tail _ (.tail _ (.tail _ (.tail _ (.tail _ (.tail _ (.tail _ (.tail _ (.tail _ (.tail _ (.head _)))))))))))))))))
theorem mem17 {α : Type} {a x0 x1 x2 x3 x4 x5 x6 x7 x8 x9 x10 x11 x12 x13 x14 x15 x16 : α} {l : List α} : a ∈ x0 :: x1 :: x2 :: x3 :: x4 :: x5 :: x6 :: x7 :: x8 :: x9 :: x10 :: x11 :: x12 :: x13 :: x14 :: x15 :: x16 :: a :: l := (.tail _ (.tail _ (.tail _ (.tail _ (.tail _ (.tail _ (.tail _ (.tail _ (.tail _ (.tail _ (.tail _ (.tail _ (.tail _ (.tail _ (.tail _ (.tail _ (.tail _ (.head _))))))))))))))))))
theorem mem18 {α : Type} {a x0 x1 x2 x3 x4 x5 x6 x7 x8 x9 x10 x11 x12 x13 x14 x15 x16 x17 : α} {l : List α} : a ∈ x0 :: x1 :: x2 :: x3 :: x4 :: x5 :: x6 :: x7 :: x8 :: x9 :: x10 :: x11 :: x12 :: x13 :: x14 :: x15 :: x16 :: x17 :: a :: l := (.tail _ (.tail _ (.tail _ (.tail _ (.tail _ (.tail _ (.tail _ (.tail _ (.tail _ (.tail _ (.tail _ (.tail _ (.tail _ (.tail _ (.tail _ (.tail _ (.tail _ (.tail _ (.head _)))))))))))))))))))
theorem letIn {W : Wd} {G : Gens} {env : Env} {loc : Loc} {nw : Ledger} {s : Shared} {P : Prop} (S : Sta W G env loc nw s) (k : let ℓ := loc; let M := nw; Sta W G env ℓ M s -> P) : P := k S
end Mine
end
section
namespace Mine
theorem Sel.rest {L L2 : Ledger} (J : Ledger) (h : L.Perm (L2 ++ J)) : Sel L L2 := ⟨J, h⟩
theorem ite_te {c : Bool} {P Q : Prop} (e : c = true) (h : P) : if c = true then P else Q := by rw [if_pos e]; exact h
theorem ite_fe {c : Bool} {P Q : Prop} (e : c = false) (h : Q) : if c = true then P else Q := by rw [if_neg (by rw [e]; decide)]; exact h
section
variable {W : Wd} {G : Gens} {env : Env} {loc loc' : Loc} {nw nw' N : Ledger} {s : Shared} {A : Around} {E : Value -> Shared -> Prop}
open PySem.Builtin.Str in
theorem Sta.split1 {x y : Str} {t u : Tok} {Q : Value -> Shared -> Prop} (S : Sta W G env loc nw s) (hy : (y.length == 0) = false) (hsz : x.length <= 1000000)
  (h : ∀ a s', Sta W G env loc ((a, aAb (Txt.split x y)) :: nw) s' -> Q (.ref a) s') : wpAny (model W.prog W.w) A (call (.builtin "str.split") [.str x t, .str y u]) Q E s := by
 have hn : (partsBetween x (occurrences x y 0 x.length (x.length + 1)) y.length).length <= sizeLine := by
  have e1 := StrLaws.occ_length_le_len x y 0 x.length (x.length + 1)
  rw [length_partsBetween, sizeLine_eq]; omega
 have h' : ∀ (l : List (Str × Tok)) tk, l.map (·.1) = Txt.split x y -> Q (.ref s.heap.objs.size) { s with heap := s.heap.push { cls := .type "list", data := .seq (strValues l).toArray }, toks := tk } := λ l tk e =>
  h _ _ (S.new (c := aAb (Txt.split x y)) rfl ⟨strValues l, by rw [← e]; exact aA3 l, 0, rfl⟩ tk)
 cases h1 : (decide (x.length < y.length) || decide (strKind x < strKind y))
 ·cases hf : (occurrences x y 0 x.length (x.length + 1)).isEmpty
  ·refine call_meets F.slot_str_split (typeIs_str _ _ _) F.entry_str_split (F.args_str_split_2 _ _) (meets_str_split_sep x y t u h1 hy hf (by walk_at "osz") hn) ?_
   show wants Q E _ { s with toks := _, heap := s.heap.push { cls := .type "list", data := .seq (strsFrom s.toks (partsBetween x (occurrences x y 0 x.length (x.length + 1)) y.length)).toArray } }
   rw [strsFrom_eq]
   exact h' (numbered s.toks _) _ ((numbered_texts _ _).trans ((if_neg (ne_true_of_eq_false h1)).trans (if_neg (ne_true_of_eq_false hf))).symm)
  ·exact call_meets F.slot_str_split (typeIs_str _ _ _) F.entry_str_split (F.args_str_split_2 _ _) (meets_str_split_not_found x y t u h1 hy hf) (h' [(x, t)] s.toks ((if_neg (ne_true_of_eq_false h1)).trans (if_pos hf)).symm)
 ·exact call_meets F.slot_str_split (typeIs_str _ _ _) F.entry_str_split (F.args_str_split_2 _ _) (meets_str_split_cannot_occur x y t u h1) (h' [(x, t)] s.toks (if_pos h1).symm)
theorem aBg {sh : Ledger} {it : Addr} {vs : List Value} {ss : List Str} {own : Ledger} {og : Gens} (h : TxtsAre vs ss) : aAW W sh it vs own og -> YieldsR W sh it (λ (x : Str) v => ∃ t, v = .str x t) ss own og := by
 induction h generalizing own og with
 | nil => exact λ H => H
 | cons n t h ih => exact λ H => ⟨H.1, λ A R GR s Q E hA S hQ => H.2 A R GR s Q E hA S λ own' og' s' S' H' => hQ _ own' og' s' ⟨t, rfl⟩ S' (ih H')⟩
end
end Mine
end
section
namespace Mine
noncomputable def KRun (n : Nat) (lt : Nat -> Nat -> Bool) {α : Type} (P : α -> Prop) : KasT α -> Prop
 | .ret a => P a
 | .ask i j k => i < n /\ j < n /\ KRun n lt P (k (lt i j))
theorem KRun.wp {n : Nat} {lt : Nat -> Nat -> Bool} {α : Type} {P : α -> Prop} {cmp : Nat -> Nat -> (Bool -> Shared -> Prop) -> Shared -> Prop} {s : Shared} (hc : ∀ i j, i < n -> j < n -> ∀ C : Bool -> Shared -> Prop, C (lt i j) s -> cmp i j C s) {Q : α -> Shared -> Prop} (hQ : ∀ a, P a -> Q a s) : ∀ {t : KasT α}, KRun n lt P t -> t.kasWp cmp Q s
 | .ret a, x => hQ a x
 | .ask i j k, x => hc i j x.1 x.2.1 _ (KRun.wp hc hQ x.2.2)
noncomputable def KRunB (n : Nat) (lt : Nat -> Nat -> Bool) {α : Type} (P : α -> Bool) : KasT α -> Bool
 | .ret a => P a
 | .ask i j k => decide (i < n) && decide (j < n) && KRunB n lt P (k (lt i j))
theorem KRunB.run {n : Nat} {lt lt' : Nat -> Nat -> Bool} (hl : ∀ i j, i < n -> j < n -> lt' i j = lt i j) {α : Type} {P : α -> Bool} : ∀ {t : KasT α}, KRunB n lt P t = true -> KRun n lt' (λ a => P a = true) t
 | .ret a, x => x
 | .ask i j k, x => by
  have x : (decide (i < n) && decide (j < n) && KRunB n lt P (k (lt i j))) = true := x
  rw [Bool.and_eq_true, Bool.and_eq_true, decide_eq_true_eq, decide_eq_true_eq] at x
  refine ⟨x.1.1, x.1.2, ?_⟩
  rw [hl i j x.1.1 x.1.2]
  exact KRunB.run hl x.2
noncomputable def tabs (k : Nat) : Nat -> List (List Nat)
 | 0 => [[]]
 | n + 1 => (tabs k n).flatMap λ l => (List.range k).map λ x => x :: l
theorem aFD (k : Nat) : ∀ l : List Nat, (∀ x ∈ l, x < k) -> l ∈ tabs k l.length
 | [], _ => .head _
 | x :: l, h => List.mem_flatMap.mpr ⟨l, aFD k l λ y hy => h y (.tail _ hy), List.mem_map.mpr ⟨x, List.mem_range.mpr (h x (.head _)), rfl⟩⟩
noncomputable def okB (n : Nat) (lt : Nat -> Nat -> Bool) (p : Array Nat) : Bool := p.toList.isPerm (List.range n) && (List.range n).all λ i => (List.range n).all λ j => !(decide (i < j) && lt (p.getD j 0) (p.getD i 0))
noncomputable def aE0 (t : List Nat) (i j : Nat) : Bool := decide (t.getD i 0 < t.getD j 0)
theorem aHX : ([2, 3, 4].all λ n => (tabs n n).all λ t => KRunB n (aE0 t) (okB n (aE0 t)) (kas_sort n)) = true := by decide +kernel
theorem aBI {p q : Nat -> Bool} (h : ∀ k, p k = true -> q k = true) {x : Nat} (hq : q x = true) (hp : p x = false) : ∀ {l : List Nat}, x ∈ l -> l.countP p < l.countP q
 | y :: l, m => by
  have hle : l.countP p <= l.countP q := List.countP_mono_left λ k _ => h k
  rw [List.countP_cons, List.countP_cons]
  rcases List.mem_cons.mp m with rfl | m
  ·rw [hq, hp]; simp; omega
  ·have := aBI h hq hp m
   have hy : (if p y = true then 1 else 0) <= (if q y = true then 1 else 0) := by
    by_cases e : p y = true
    ·rw [if_pos e, if_pos (h y e)]; exact Nat.le_refl _
    ·rw [if_neg e]; exact Nat.zero_le _
   omega
structure Tot {β : Type} (lt : β -> β -> Bool) : Prop where
 irr : ∀ a, lt a a = false
 tr : ∀ a b c, lt a b = true -> lt b c = true -> lt a c = true
 tot : ∀ a b, lt a b = false -> lt b a = false -> a = b
theorem aDy {β : Type} {lt : β -> β -> Bool} (T : Tot lt) (f : Nat -> β) {n : Nat} (h2 : 2 <= n) (h4 : n <= 4) : KRun n (λ i j => lt (f i) (f j)) (λ p => Ok n p /\ ∀ i j, i < j -> j < n -> lt (f (p.getD j 0)) (f (p.getD i 0)) = false) (kas_sort n) := by
 let rk : Nat -> Nat := λ i => (List.range n).countP λ k => lt (f k) (f i)
 have hrk : ∀ i j, i < n -> j < n -> lt (f i) (f j) = decide (rk i < rk j) := by
  intro i j hi hj
  cases h : lt (f i) (f j) with
  | true =>
   refine (decide_eq_true ?_).symm
   exact aBI (p := λ k => lt (f k) (f i)) (q := λ k => lt (f k) (f j)) (λ k hk => T.tr _ _ _ hk h) (x := i) h (T.irr _) (List.mem_range.mpr hi)
  | false =>
   refine (decide_eq_false ?_).symm
   have : rk j <= rk i := List.countP_mono_left λ k _ hk => by
    cases h' : lt (f j) (f i) with
    | true => exact T.tr _ _ _ hk h'
    | false => rw [T.tot _ _ h h']; exact hk
   omega
 have hlt : ∀ i, i < n -> rk i < n := by
  intro i hi
  have h1 : rk i < (List.range n).countP λ _ => true := aBI (λ _ _ => rfl) (x := i) rfl (T.irr _) (List.mem_range.mpr hi)
  simpa using h1
 let t : List Nat := (List.range n).map rk
 have htl : t.length = n := by simp [t]
 have hg : ∀ i, i < n -> t.getD i 0 = rk i := by
  intro i hi
  simp [t, List.getD, hi]
 have hm : t ∈ tabs n n := by
  have := aFD n t (λ x hx => by
   obtain ⟨i, hi, rfl⟩ := List.mem_map.mp hx
   exact hlt i (List.mem_range.mp hi))
  rwa [htl] at this
 have hr : KRunB n (aE0 t) (okB n (aE0 t)) (kas_sort n) = true := by
  have h := aHX
  rw [List.all_eq_true] at h
  have hn : n ∈ [2, 3, 4] := by
   simp only [List.mem_cons, List.not_mem_nil, or_false]; omega
  have h := h n hn
  rw [List.all_eq_true] at h
  exact h t hm
 have hl : ∀ i j, i < n -> j < n -> lt (f i) (f j) = aE0 t i j := by
  intro i j hi hj
  unfold aE0
  rw [hg i hi, hg j hj]
  exact hrk i j hi hj
 have R := KRunB.run hl hr
 have key : ∀ p : Array Nat, okB n (aE0 t) p = true -> Ok n p /\ ∀ i j, i < j -> j < n -> lt (f (p.getD j 0)) (f (p.getD i 0)) = false := by
  intro p hp
  unfold okB at hp
  rw [Bool.and_eq_true] at hp
  have hok : Ok n p := List.isPerm_iff.mp hp.1
  refine ⟨hok, λ i j hij hj => ?_⟩
  have h := hp.2
  rw [List.all_eq_true] at h
  have h := h i (List.mem_range.mpr (by omega))
  rw [List.all_eq_true] at h
  have h := h j (List.mem_range.mpr hj)
  rw [decide_eq_true hij, Bool.true_and, Bool.not_eq_true'] at h
  rw [hl _ _ (hok.lt (by omega) j) (hok.lt (by omega) i)]
  exact h
 have mono : ∀ {α : Type} {P P' : α -> Prop} (h : ∀ a, P a -> P' a) {t : KasT α}, KRun n (λ i j => lt (f i) (f j)) P t -> KRun n (λ i j => lt (f i) (f j)) P' t := by
  intro α P P' h t
  induction t with
  | ret a => exact h a
  | ask i j k ih => exact λ x => ⟨x.1, x.2.1, ih _ x.2.2⟩
 exact mono key R
noncomputable def srt {β : Type} (lt : β -> β -> Bool) : List β -> List β
 | [] => []
 | x :: r => ins lt x (srt lt r)
where
 ins (lt : β -> β -> Bool) (x : β) : List β -> List β
  | [] => [x]
  | y :: r => if lt y x = true then y :: ins lt x r else x :: y :: r
theorem aEa {β : Type} {lt : β -> β -> Bool} (x : β) : ∀ l : List β, (srt.ins lt x l).Perm (x :: l)
 | [] => .refl _
 | y :: r => by
  unfold srt.ins
  split
  ·exact ((aEa x r).cons y).trans (.swap ..)
  ·exact .refl _
theorem aAC {β : Type} {lt : β -> β -> Bool} : ∀ l : List β, (srt lt l).Perm l
 | [] => .refl _
 | x :: r => (aEa x _).trans ((aAC r).cons x)
theorem aHk {β : Type} {lt : β -> β -> Bool} (T : Tot lt) (x : β) : ∀ l : List β, l.Pairwise (λ a b => lt b a = false) -> (srt.ins lt x l).Pairwise (λ a b => lt b a = false)
 | [], _ => by unfold srt.ins; simp
 | y :: r, h => by
  rw [List.pairwise_cons] at h
  unfold srt.ins
  split
  ·rename_i hyx
   rw [List.pairwise_cons]
   refine ⟨λ b hb => ?_, aHk T x r h.2⟩
   rcases List.mem_cons.mp ((aEa x r).mem_iff.mp hb) with rfl | hb
   ·cases e : lt b y with
    | false => rfl
    | true => have := T.tr _ _ _ hyx e; rw [T.irr] at this; cases this
   ·exact h.1 b hb
  ·rename_i hyx
   have hyx : lt y x = false := by simpa using hyx
   rw [List.pairwise_cons]
   refine ⟨λ b hb => ?_, List.pairwise_cons.mpr h⟩
   rcases List.mem_cons.mp hb with rfl | hb
   ·exact hyx
   ·cases e : lt b x with
    | false => rfl
    | true =>
     have h1 := h.1 b hb
     cases e2 : lt x y with
     | true => have := T.tr _ _ _ e e2; rw [this] at h1; cases h1
     | false => rw [T.tot _ _ hyx e2] at h1; rw [h1] at e; cases e
theorem aDW {β : Type} {lt : β -> β -> Bool} (T : Tot lt) : ∀ l : List β, (srt lt l).Pairwise (λ a b => lt b a = false)
 | [] => .nil
 | x :: r => aHk T x _ (aDW T r)
theorem aG3 {β : Type} {lt : β -> β -> Bool} (T : Tot lt) : ∀ {a b : List β}, a.Perm b -> a.Pairwise (λ x y => lt y x = false) -> b.Pairwise (λ x y => lt y x = false) -> a = b
 | [], b, h, _, _ => by rw [List.nil_perm.mp h]
 | x :: a, [], h, _, _ => by have := h.length_eq; simp at this
 | x :: a, y :: b, h, ha, hb => by
  rw [List.pairwise_cons] at ha hb
  have e : x = y := by
   have m1 : x ∈ y :: b := h.mem_iff.mp (.head _)
   have m2 : y ∈ x :: a := h.mem_iff.mpr (.head _)
   rcases List.mem_cons.mp m1 with e | m1
   ·exact e
   ·rcases List.mem_cons.mp m2 with e | m2
    ·exact e.symm
    ·exact T.tot _ _ (hb.1 x m1) (ha.1 y m2)
  subst e
  rw [aG3 T ((List.perm_cons x).mp h) ha.2 hb.2]
theorem srt_eq {β : Type} {lt : β -> β -> Bool} (T : Tot lt) {a b : List β} (h : a.Perm b) (ha : a.Pairwise (λ x y => lt y x = false)) : a = srt lt b :=
 aG3 T (h.trans (aAC b).symm) ha (aDW T b)
theorem aCZ {β : Type} {lt : β -> β -> Bool} (T : Tot lt) {a b : List β} (h : a.Perm b) : srt lt a = srt lt b := aG3 T (((aAC a).trans h).trans (aAC b).symm) (aDW T a) (aDW T b)
theorem aFI {β : Type} {lt : β -> β -> Bool} (T : Tot lt) {l : List β} {d : β} {p : Array Nat} (hok : Ok l.length p) (ho : ∀ i j, i < j -> j < l.length -> lt (l.getD (p.getD j 0) d) (l.getD (p.getD i 0) d) = false) : (p.toList.map λ i => l.getD i d) = srt lt l := by
 refine srt_eq T ?_ ?_
 ·have q : List.Perm (p.toList.map λ i => l.getD i d) ((List.range l.length).map λ i => l.getD i d) := hok.map _
  have e : (List.range l.length).map (λ i => l.getD i d) = l := by
   apply List.ext_getElem
   ·simp
   ·intro i h1 h2; simp at h1 ⊢; simp [h2]
  rwa [e] at q
 ·rw [List.pairwise_iff_getElem]
  intro i j hi hj hij
  have hpl : p.toList.length = l.length := by rw [hok.length_eq]; simp
  rw [List.length_map] at hi hj
  rw [List.getElem_map, List.getElem_map]
  have := ho i j hij (by omega)
  have e1 : p.getD j 0 = p.toList[j] := by
   have : j < p.size := by simpa using hj
   simp [Array.getD, this]
  have e2 : p.getD i 0 = p.toList[i] := by
   have : i < p.size := by simpa using hi
   simp [Array.getD, this]
  rwa [e1, e2] at this
end Mine
end
section
namespace Mine
noncomputable def ltS (x y : Str) : Bool := decide (x.cps.toList < y.cps.toList)
theorem tot_str : Tot ltS where
 irr a := decide_eq_false (List.lt_irrefl _)
 tr a b c h1 h2 := decide_eq_true (List.lt_trans (of_decide_eq_true h1) (of_decide_eq_true h2))
 tot a b h1 h2 := by
  have h1 := of_decide_eq_false h1
  have h2 := of_decide_eq_false h2
  exact Str.ext' (List.le_antisymm (List.not_lt.mp h2) (List.not_lt.mp h1))
theorem tot_ls : Tot ltLs where
 irr a := by
  induction a with
  | nil => rfl
  | cons x r ih => unfold ltLs; rw [if_pos rfl]; exact ih
 tr a := by
  induction a with
  | nil =>
   intro b c h1 h2
   cases b with
   | nil => exact h2
   | cons y r => cases c with
    | nil => cases h2
    | cons z r => rfl
  | cons x a ih =>
   intro b c h1 h2
   cases b with
   | nil => cases h1
   | cons y b =>
    cases c with
    | nil => cases h2
    | cons z c =>
     unfold ltLs at h1 h2 ⊢
     by_cases e1 : x = y
     ·subst e1
      rw [if_pos rfl] at h1
      by_cases e2 : x = z
      ·subst e2
       rw [if_pos rfl] at h2 ⊢
       exact ih b c h1 h2
      ·rw [if_neg e2] at h2 ⊢; exact h2
     ·rw [if_neg e1] at h1
      by_cases e2 : y = z
      ·subst e2; rw [if_neg e1]; exact h1
      ·rw [if_neg e2] at h2
       have h3 := tot_str.tr _ _ _ h1 h2
       have e3 : x ≠ z := λ e => by subst e; rw [tot_str.irr] at h3; cases h3
       rw [if_neg e3]; exact h3
 tot a := by
  induction a with
  | nil => intro b h1 h2; cases b with
   | nil => rfl
   | cons y b => cases h1
  | cons x a ih =>
   intro b h1 h2
   cases b with
   | nil => cases h2
   | cons y b =>
    unfold ltLs at h1 h2
    by_cases e : x = y
    ·subst e
     rw [if_pos rfl] at h1 h2
     rw [ih b h1 h2]
    ·rw [if_neg e] at h1
     rw [if_neg (λ q => e q.symm)] at h2
     exact absurd (tot_str.tot _ _ h1 h2) e
theorem tot_by {α γ : Type} [DecidableEq γ] {kp : α -> γ} {l1 : γ -> γ -> Bool} {l2 : α -> α -> Bool} (T1 : Tot l1) (T2 : Tot l2) : Tot (λ x y => if kp x = kp y then l2 x y else l1 (kp x) (kp y)) where
 irr a := by rw [if_pos rfl]; exact T2.irr a
 tr a b c h1 h2 := by
  by_cases e1 : kp a = kp b
  ·rw [if_pos e1] at h1
   by_cases e2 : kp b = kp c
   ·rw [if_pos e2] at h2; rw [if_pos (e1.trans e2)]; exact T2.tr _ _ _ h1 h2
   ·rw [if_neg e2] at h2; rw [e1, if_neg e2]; exact h2
  ·rw [if_neg e1] at h1
   by_cases e2 : kp b = kp c
   ·rw [← e2, if_neg e1]; exact h1
   ·rw [if_neg e2] at h2
    have h3 := T1.tr _ _ _ h1 h2
    have e3 : kp a ≠ kp c := λ e => by rw [e, T1.irr] at h3; cases h3
    rw [if_neg e3]; exact h3
 tot a b h1 h2 := by
  by_cases e : kp a = kp b
  ·rw [if_pos e] at h1; rw [if_pos e.symm] at h2; exact T2.tot _ _ h1 h2
  ·rw [if_neg e] at h1; rw [if_neg (λ q => e q.symm)] at h2
   exact absurd (T1.tot _ _ h1 h2) e
noncomputable def lt2 (x y : Str × Str) : Bool := if x.1 = y.1 then ltS x.2 y.2 else ltS x.1 y.1
theorem tot_2 : Tot lt2 where
 irr a := by unfold lt2; rw [if_pos rfl]; exact tot_str.irr _
 tr a b c h1 h2 := by
  unfold lt2 at h1 h2 ⊢
  by_cases e1 : a.1 = b.1
  ·rw [if_pos e1] at h1
   by_cases e2 : b.1 = c.1
   ·rw [if_pos e2] at h2; rw [if_pos (e1.trans e2)]; exact tot_str.tr _ _ _ h1 h2
   ·rw [if_neg e2] at h2; rw [e1, if_neg e2]; exact h2
  ·rw [if_neg e1] at h1
   by_cases e2 : b.1 = c.1
   ·rw [← e2, if_neg e1]; exact h1
   ·rw [if_neg e2] at h2
    have h3 := tot_str.tr _ _ _ h1 h2
    have e3 : a.1 ≠ c.1 := λ e => by rw [e, tot_str.irr] at h3; cases h3
    rw [if_neg e3]; exact h3
 tot a b h1 h2 := by
  unfold lt2 at h1 h2
  by_cases e : a.1 = b.1
  ·rw [if_pos e] at h1; rw [if_pos e.symm] at h2
   exact Prod.ext e (tot_str.tot _ _ h1 h2)
  ·rw [if_neg e] at h1; rw [if_neg (λ q => e q.symm)] at h2
   exact absurd (tot_str.tot _ _ h1 h2) e
end Mine
end
section
namespace Mine
theorem KRun.congr {n : Nat} {lt lt' : Nat -> Nat -> Bool} (hl : ∀ i j, i < n -> j < n -> lt' i j = lt i j) {α : Type} {P : α -> Prop} : ∀ {t : KasT α}, KRun n lt P t -> KRun n lt' P t
 | .ret _, x => x
 | .ask i j _, x => ⟨x.1, x.2.1, by rw [hl i j x.1 x.2.1]; exact KRun.congr hl x.2.2⟩
noncomputable def ltK (kp : Str -> List Str) (x y : Str) : Bool := if kp x = kp y then ltS x y else ltLs (kp x) (kp y)
theorem tot_K (kp : Str -> List Str) : Tot (ltK kp) := tot_by tot_ls tot_str
section
variable {W : Wd} {G : Gens} {env : Env} {loc loc' : Loc} {nw nw' N : Ledger} {s : Shared} {A : Around} {E : Value -> Shared -> Prop}
theorem Sta.sortKeyG {l f : Addr} {vs : List Value} {ss : List Str} {kp : Str -> List Str} {Rp : Array Nat -> Prop} {Q : Value -> Shared -> Prop} (hok : ∀ p, Rp p -> Ok ss.length p) (hR : 2 <= ss.length -> KRun ss.length (λ i j => ltLs (kp (ss.getD i Str.empty)) (kp (ss.getD j Str.empty))) Rp (kas_sort ss.length)) (hR1 : ss.length < 2 -> Rp (List.range ss.length).toArray) (S : Sta W G env loc ((l, aAa vs) :: N) s) (ht : TxtsAre vs ss) (hu : A.units + 1 < cLine) (h64 : ss.length < 64)
  (hkey : ∀ x t L0 s (Q' : Value -> Shared -> Prop), x ∈ ss -> Sta W G env loc (L0 ++ N) s -> (∀ k s', Sta W G env loc ((k, aAb (kp x)) :: (L0 ++ N)) s' -> Q' (.ref k) s') -> wpAny (model W.prog W.w) A.in1 (call (.ref f) [.str x t]) Q' (λ _ _ => False) s)
  (h : ∀ p s', Rp p -> Sta W G env loc ((l, aAb (p.toList.map λ i => ss.getD i Str.empty)) :: N) s' -> Q .none s') :
  wpAny (model W.prog W.w) A (call (.builtin "list.sort") [.ref l] [(Str.ofString "key", .ref f)]) Q E s := by
 obtain ⟨n, hl⟩ := S.isL (.head _)
 have hlen := ht.length
 refine wpAny_call_entry_kw PyProof.Rows.slot_list_sort ⟨_, hl, rfl⟩ PyProof.Rows.entry_list_sort ?_ (ksk_l1 _ _)
 rw [ksk_t1]
 unfold ksk_tree
 refine wpAny_bind (listItems_at hl rfl ?_)
 refine wpAny_bind (listUpdate_at hl rfl ?_ (by rw [List.size_toArray, sizeLine_eq]; omega) (Nat.zero_le _))
 have S1 := S.setL (ys := []) hl (λ _ => #[]) rfl .head s.toks
 obtain ⟨e1, hl1⟩ := S1.isL (.head _)
 replace S1 := S1.tell (nw' := (l, aAX (seqObj "list" #[] e1)) :: N) .head λ o ho _ => by rw [hl1] at ho; cases ho; rfl
 refine wpAny_bind (seqEpoch_at hl1 rfl ?_)
 refine wpAny_bind (S1.newTuple (by rw [sizeLine_eq]; show vs.length <= _; omega) λ tp s2 S2 => ?_)
 refine wpAny_bind (S2.newList (by simp) λ kS s3 S3 => ?_)
 replace S3 := S3.sub (nw' := (kS, aAa []) :: (l, aAX (seqObj "list" #[] e1)) :: N) ((List.sublist_cons_self _ _).cons_cons _)
 refine wpAny_holding ?_
 refine wpAny_bind (wpAny_rule ?_)
 rw [← Array.forIn_toList]
 refine wpAny_bind (ksk_fold (I := λ i s' => ∃ ks : List Addr, ks.length = i /\ Sta W G env loc ((kS, aAa (ks.map .ref)) :: (l, aAX (seqObj "list" #[] e1)) :: (kLed kp ks (ss.take i) ++ N)) s') vs 0 s3 ⟨[], rfl, S3⟩ (λ j x s' hx hI => ?_) (λ s' hI => ?_))
 ·obtain ⟨ks, hks, S4⟩ := hI
  rw [Nat.zero_add] at hks S4
  have hj : j < ss.length := by
   rw [← hlen]; exact (List.getElem?_eq_some_iff.mp hx).1
  obtain ⟨t, ex⟩ := ht.at' j hj
  rw [hx] at ex
  cases ex
  refine wpAny_bind (wpAny_attempt (wpAny_mono (hkey ss[j] t ((kS, aAa (ks.map .ref)) :: (l, aAX (seqObj "list" #[] e1)) :: kLed kp ks (ss.take j)) s' (λ v s'' => ∃ k, v = .ref k /\ Sta W G env loc ((k, aAb (kp ss[j])) :: ((kS, aAa (ks.map .ref)) :: (l, aAX (seqObj "list" #[] e1)) :: (kLed kp ks (ss.take j) ++ N))) s'') (List.getElem_mem hj) S4 λ k s'' S5 => ⟨k, rfl, S5⟩) (λ v s'' hv => ?_) λ _ _ hF => hF.elim))
  obtain ⟨k, rfl, S5⟩ := hv
  obtain ⟨n5, hl5⟩ := S5.isL (a := kS) (.tail _ (.head _))
  refine wpAny_bind (listUpdate_at hl5 rfl ?_ (by rw [List.size_toArray, List.length_map, sizeLine_eq]; omega) (by show ((ks.map Value.ref).toArray.push _).size <= _; simp [sizeLine_eq]; omega))
  have S6 := S5.setL (ys := (ks ++ [k]).map Value.ref) hl5 (·.push (.ref k)) (by simp) (.tail .head) s''.toks
  refine wpAny_pure ⟨rfl, ks ++ [k], by simp [hks], S6.perm ?_⟩
  rw [Nat.zero_add, List.take_add_one, List.getElem?_eq_getElem hj]
  show List.Perm ((k, aAb (kp ss[j])) :: (kS, _) :: (l, _) :: (kLed kp ks (ss.take j) ++ N)) ((kS, _) :: (l, _) :: (kLed kp (ks ++ [k]) (ss.take j ++ [ss[j]]) ++ N))
  rw [aEK kp k _ ks (ss.take j) (by rw [hks, List.length_take]; omega), List.append_assoc]
  exact (List.Perm.swap ..).trans (((List.Perm.swap ..).trans (List.perm_middle.symm.cons _)).cons _)
 ·obtain ⟨ks, hks, S4⟩ := hI
  have etk : ss.take (0 + vs.length) = ss := List.take_of_length_le (by omega)
  rw [etk] at S4
  obtain ⟨n4, hl4⟩ := S4.isL (.head _)
  refine wpAny_bind (listItems_at hl4 rfl ?_)
  unfold ksk_end
  simp only [Bool.false_eq_true, if_false]
  have hz : ((ks.map Value.ref).toArray.zip vs.toArray).size = vs.length := by simp [hks]
  -- what is behind the runs
  have hend : ∀ (st : SortSt) (p : List Nat) (s' : Shared), Rp p.toArray -> arrOf st = (p.map (kas_item ((ks.map Value.ref).toArray.zip vs.toArray))).toArray -> failedOf st = none ->
    Sta W G env loc ((kS, aAa (ks.map .ref)) :: (l, aAX (seqObj "list" #[] e1)) :: (kLed kp ks ss ++ N)) s' ->
    wpAny (model W.prog W.w) A.in1 (ksk_tail l false e1 (.ref kS) st) (λ fin s'' => ∃ v, fin = .done (.ret v) /\ Q v s'') E s' := by
   intro st p s' hRp harr hf S5
   have hp : p.Perm (List.range vs.length) := by have := hok _ hRp; unfold Ok at this; rw [hlen]; simpa using this
   unfold ksk_tail
   obtain ⟨n5, hl5⟩ := S5.isL (.head _)
   refine wpAny_bind (listUpdate_at hl5 rfl ?_ (by rw [List.size_toArray, List.length_map, sizeLine_eq]; omega) (Nat.zero_le _))
   have S6 := S5.setL (ys := []) hl5 (λ _ => #[]) rfl .head s'.toks
   refine wpAny_bind (wpAny_letGo ?_)
   obtain ⟨o6, ho6, e6⟩ := S6.get (a := l) (.tail _ (.head _))
   subst e6
   refine wpAny_bind (seqEpoch_at ho6 rfl ?_)
   have hsz : (arrOf st).size = vs.length := by rw [harr]; simp [hp.length_eq]
   refine wpAny_bind (listUpdate_at ho6 rfl ?_ (Nat.zero_le _) (by show ((arrOf st).map _).size <= _; rw [Array.size_map, hsz, sizeLine_eq]; omega))
   have hvs : (arrOf st).map (·.2) = (p.map λ i => vs.getD i .none).toArray := by
    rw [harr]
    simp only [List.map_toArray, List.map_map]
    congr 1
    refine List.map_congr_left λ i hi => ?_
    have hi2 : i < vs.length := by have := hp.mem_iff.mp hi; simpa using this
    show (kas_item _ i).2 = _
    unfold kas_item
    have h1 : i < ((ks.map Value.ref).toArray.zip vs.toArray).size := by rw [hz]; exact hi2
    simp [Array.getD, h1, hi2, hks]
   have S7 : Sta W G env loc ((l, aAa (p.map λ i => vs.getD i .none)) :: N) { s' with heap := (s'.heap.update kS (Obj.mapSeq λ _ => #[])).update l (Obj.mapSeq λ _ => (arrOf st).map (·.2)) } := by
    have S6' := S6.tell (nw' := (kS, aAa []) :: (l, aAa []) :: (kLed kp ks ss ++ N)) (.tail .head) λ o ho e => ⟨e1, e⟩
    obtain ⟨n6, hl6⟩ := S6'.isL (a := l) (.tail _ (.head _))
    have S7 := S6'.setL (ys := p.map λ i => vs.getD i .none) hl6 (λ _ => (arrOf st).map (·.2)) hvs (.tail .head) s'.toks
    exact S7.sub (List.Sublist.cons _ ((List.sublist_append_right _ _).cons_cons _))
   rw [hf]
   simp only [bne_self_eq_false, Bool.false_eq_true, if_false]
   have hpl : ∀ i ∈ p, i < ss.length := λ i hi => by have := hp.mem_iff.mp hi; rw [← hlen]; simpa using this
   exact wpAny_pure ⟨_, rfl, h p.toArray _ hRp (S7.tell .head λ o ho e => ⟨_, by rw [List.toList_toArray]; exact ht.pick p hpl, e⟩)⟩
  by_cases h2 : vs.toArray.size < 2
  ·rw [if_pos h2, if_pos h2]
   refine wpAny_bind (wpAny_pure ?_)
   refine wpAny_bind (wpAny_pure ?_)
   refine hend _ (List.range vs.length) s' (by rw [hlen]; exact hR1 (by rw [List.size_toArray] at h2; omega)) ?_ rfl S4
   have e := kas_range ((ks.map Value.ref).toArray.zip vs.toArray)
   rw [hz, List.map_toArray] at e
   exact e.symm
  ·rw [if_neg h2, if_neg h2]
   rw [List.size_toArray] at h2
   refine wpAny_bind (kas_kind (T := .type "list") (by rw [List.length_map]; omega) (λ v hv => ?_) (by decide) (by decide) ?_)
   ·obtain ⟨k, hk, rfl⟩ := List.mem_map.mp hv
    obtain ⟨i, hi, rfl⟩ := List.getElem_of_mem hk
    have hm : (ks[i], aAb (kp (ss[i]'(by omega)))) ∈ (kS, aAa (ks.map .ref)) :: (l, aAX (seqObj "list" #[] e1)) :: (kLed kp ks ss ++ N) := .tail _ (.tail _ (List.mem_append_left _ (aD8 kp ks ss i hi (by omega))))
    obtain ⟨o, ho, vk, htk, nk, rfl⟩ := S4.get hm
    exact (Looks.ld ho).andThen .now
   have est : SortSt.mk' oneType' ((ks.map Value.ref).toArray.zip vs.toArray) #[] 7 none = kas_st oneType' ((ks.map Value.ref).toArray.zip vs.toArray) (List.toArray (List.range vs.length)) := by
    have e := kas_range ((ks.map Value.ref).toArray.zip vs.toArray)
    rw [hz] at e
    show _ = SortSt.mk' oneType' ((List.toArray (List.range vs.length)).map (kas_item ((ks.map Value.ref).toArray.zip vs.toArray))) #[] 7 none
    rw [e]
   rw [est]
   have ask : (kas_sort vs.length).kasWp (kas_cmp W.prog W.w A.in1 oneType' ((ks.map Value.ref).toArray.zip vs.toArray)) (λ p s'' => Rp p /\ s'' = s') s' := by
    have hR' := hR (by omega)
    rw [← hlen] at hR'
    refine KRun.wp (n := vs.length) (λ i j hi hj => ?_) (λ p hp => ⟨hp, rfl⟩) hR'
    have mem : ∀ i, i < vs.length -> ∃ k vk nk, kas_item ((ks.map Value.ref).toArray.zip vs.toArray) i = (.ref k, vs.getD i .none) /\ TxtsAre vk (kp (ss.getD i Str.empty)) /\ s'.heap.get? k = some { cls := .type "list", data := .seq vk.toArray nk } := by
     intro i hi
     have hm : (ks[i], aAb (kp (ss[i]'(by omega)))) ∈ (kS, aAa (ks.map .ref)) :: (l, aAX (seqObj "list" #[] e1)) :: (kLed kp ks ss ++ N) := .tail _ (.tail _ (List.mem_append_left _ (aD8 kp ks ss i (by omega) (by omega))))
     obtain ⟨o, ho, vk, htk, nk, rfl⟩ := S4.get hm
     have es : ss.getD i Str.empty = ss[i]'(by omega) := by
      have : i < ss.length := by omega
      simp [this]
     rw [es]
     refine ⟨ks[i], vk, nk, ?_, htk, ho⟩
     unfold kas_item
     have h1 : i < ((ks.map Value.ref).toArray.zip vs.toArray).size := by rw [hz]; exact hi
     simp [Array.getD, h1, hi, hks]
    obtain ⟨k1, v1, n1, q1, t1, o1⟩ := mem i hi
    obtain ⟨k2, v2, n2, q2, t2, o2⟩ := mem j hj
    intro C hC
    unfold kas_cmp
    rw [q1, q2]
    exact key_lt (by show A.units + 1 < cLine; exact hu) t1 t2 o1 o2 hC
   have run := kas_runs (E := E) (Q := λ _ st' s'' => ∃ p : Array Nat, Rp p /\ arrOf st' = p.map (kas_item ((ks.map Value.ref).toArray.zip vs.toArray)) /\ failedOf st' = none /\ s'' = s') (by omega) (by omega) (λ p' st' s'' a1 a2 a3 a4 => ⟨p', a4.1, a2, a3, a4.2⟩) ask
   refine wpAny_bind (wpAny_mono run ?_ λ _ _ e => e)
   rintro ⟨⟨⟩, st'⟩ s'' ⟨p, hp, har, hf, rfl⟩
   refine hend st' p.toList s'' (by rw [Array.toArray_toList]; exact hp) ?_ hf S4
   rw [har]
   apply Array.ext'
   simp
theorem Sta.sortKeyS {l f : Addr} {vs : List Value} {ss : List Str} {kp : Str -> List Str} {Q : Value -> Shared -> Prop} (S : Sta W G env loc ((l, aAa vs) :: N) s) (ht : TxtsAre vs ss) (hu : A.units + 1 < cLine) (h4 : ss.length <= 4) (hinj : ∀ x ∈ ss, ∀ y ∈ ss, kp x = kp y -> x = y)
  (hkey : ∀ x t L0 s (Q' : Value -> Shared -> Prop), x ∈ ss -> Sta W G env loc (L0 ++ N) s -> (∀ k s', Sta W G env loc ((k, aAb (kp x)) :: (L0 ++ N)) s' -> Q' (.ref k) s') -> wpAny (model W.prog W.w) A.in1 (call (.ref f) [.str x t]) Q' (λ _ _ => False) s)
  (h : ∀ s', Sta W G env loc ((l, aAb (srt (ltK kp) ss)) :: N) s' -> Q .none s') :
  wpAny (model W.prog W.w) A (call (.builtin "list.sort") [.ref l] [(Str.ofString "key", .ref f)]) Q E s := by
 have T := tot_K kp
 have hcon : ∀ i j, i < ss.length -> j < ss.length -> ltLs (kp (ss.getD i Str.empty)) (kp (ss.getD j Str.empty)) = ltK kp (ss.getD i Str.empty) (ss.getD j Str.empty) := by
  intro i j hi hj
  unfold ltK
  split
  ·rename_i e
   have e2 : ss.getD i Str.empty = ss.getD j Str.empty := hinj _ (by simp [hi]) _ (by simp [hj]) e
   rw [e2, tot_str.irr]; exact tot_ls.irr _
  ·rfl
 refine Sta.sortKeyG (Rp := λ p => Ok ss.length p /\ ∀ i j, i < j -> j < ss.length -> ltK kp (ss.getD (p.getD j 0) Str.empty) (ss.getD (p.getD i 0) Str.empty) = false) (λ p hp => hp.1) (λ h2 => ?_) (λ h1 => ⟨.refl _, λ i j hij hj => by omega⟩) S ht hu (by omega) hkey λ p s' hp S' => ?_
 ·exact KRun.congr hcon (aDy T (λ i => ss.getD i Str.empty) h2 h4)
 ·rw [aFI T hp.1 hp.2] at S'
  exact h s' S'
theorem Sta.sortedSetS {a f : Addr} {ss : List Str} {kp : Str -> List Str} {Q : Value -> Shared -> Prop} (S : Sta W G env loc ((a, IsSL W ss) :: N) s) (hA : Aok 12 A) (h4 : ss.length <= 4) (hinj : ∀ x ∈ ss, ∀ y ∈ ss, kp x = kp y -> x = y)
  (hkey : ∀ x t L0 s (Q' : Value -> Shared -> Prop), x ∈ ss -> Sta W G env loc (L0 ++ ((a, IsSL W ss) :: N)) s -> (∀ k s', Sta W G env loc ((k, aAb (kp x)) :: (L0 ++ ((a, IsSL W ss) :: N))) s' -> Q' (.ref k) s') -> wpAny (model W.prog W.w) A.in1.in1 (call (.ref f) [.str x t]) Q' (λ _ _ => False) s)
  (h : ∀ l s', Sta W G env loc ((l, aAb (srt (ltK kp) ss)) :: (a, IsSL W ss) :: N) s' -> Q (.ref l) s') :
  wpAny (model W.prog W.w) A (call (.builtin "sorted") [.ref a] [(Str.ofString "key", .ref f)]) Q E s := by
 refine call_function_entry_kw kind_sorted plain_sorted entry_sorted (ksk_s1 _ _) ?_
 refine wpAny_bind (m := checkCount "sorted" 1 1 _) (wpAny_pure ?_)
 have hA1 : Aok 11 A.in1 := hA.in1
 refine wpAny_bind (S.collectSet (hA1.le (by omega)) (by omega) λ vs ss' s1 ht hp S1 => ?_)
 refine wpAny_bind (S1.newList (by rw [ht.length, hp.length_eq, sizeLine_eq]; omega) λ l s2 S2 => ?_)
 refine wpAny_bind (wpAny_holding ?_)
 refine S2.sortKeyS (kp := kp) ht (by have := hA1.units; omega) (by rw [hp.length_eq]; exact h4) (λ x hx y hy => hinj x (hp.mem_iff.mp hx) y (hp.mem_iff.mp hy)) (λ x t L0 s3 Q' hx S3 k => hkey x t L0 s3 Q' (hp.mem_iff.mp hx) S3 k) λ s3 S3 => ?_
 rw [aCZ (tot_K kp) hp] at S3
 exact wpAny_pure ⟨_, rfl, h l s3 S3⟩
end
end Mine
end
section
namespace Mine
theorem aEN {M : Model} {s : Shared} {A : Around} {E : Value -> Shared -> Prop} {x : Str} {t : Tok} {Q : Value × List Value -> Shared -> Prop} (h : Q (.builtin "str.rsplit", [.str x t]) s) : GetM M A E "rsplit" (.str x t) Q s := aCk (name := "rsplit") (id := "str.rsplit") F.slot_str_rsplit F.type_str_rsplit h
section
variable {W : Wd} {G : Gens} {env : Env} {loc loc' : Loc} {nw nw' N : Ledger} {s : Shared} {A : Around} {E : Value -> Shared -> Prop}
open PySem.Builtin.Str in
theorem Sta.rsplitMax {x y : Str} {k : Int} {t u v : Tok} {Q : Value -> Shared -> Prop} (S : Sta W G env loc nw s) (hy : (y.length == 0) = false) (hk : (decide (k < -(2 ^ 63 : Int)) || decide (k ≥ 2 ^ 63)) = false) (hsz : x.length <= 1000000) (hn : (partsBetween x (occurrencesFromRight x y (limitOf x k)) y.length).length <= sizeLine)
  (h : ∀ a s', Sta W G env loc ((a, aAb (Txt.rsplitMax x y k)) :: nw) s' -> Q (.ref a) s') : wpAny (model W.prog W.w) A (call (.builtin "str.rsplit") [.str x t, .str y u, .int k v]) Q E s := by
 have h' : ∀ (l : List (Str × Tok)) tk, l.map (·.1) = Txt.rsplitMax x y k -> Q (.ref s.heap.objs.size) { s with heap := s.heap.push { cls := .type "list", data := .seq (strValues l).toArray }, toks := tk } := λ l tk e =>
  h _ _ (S.new (c := aAb (Txt.rsplitMax x y k)) rfl ⟨strValues l, by rw [← e]; exact aA3 l, 0, rfl⟩ tk)
 cases h1 : (decide (x.length < y.length) || decide (strKind x < strKind y))
 ·cases hf : (occurrencesFromRight x y (limitOf x k)).isEmpty
  ·refine call_meets F.slot_str_rsplit (typeIs_str _ _ _) F.entry_str_rsplit (F.args_str_rsplit_3 _ _ _) (meets_str_rsplit_sep_max x y k t u v hk h1 hy hf (by walk_at "osz") hn) ?_
   show wants Q E _ { s with toks := _, heap := s.heap.push { cls := .type "list", data := .seq (strsFrom s.toks (partsBetween x (occurrencesFromRight x y (limitOf x k)) y.length)).toArray } }
   rw [strsFrom_eq]
   exact h' (numbered s.toks _) _ ((numbered_texts _ _).trans ((if_neg (ne_true_of_eq_false h1)).trans (if_neg (ne_true_of_eq_false hf))).symm)
  ·exact call_meets F.slot_str_rsplit (typeIs_str _ _ _) F.entry_str_rsplit (F.args_str_rsplit_3 _ _ _) (meets_str_rsplit_max_not_found x y k t u v hk h1 hy hf) (h' [(x, t)] s.toks ((if_neg (ne_true_of_eq_false h1)).trans (if_pos hf)).symm)
 ·exact call_meets F.slot_str_rsplit (typeIs_str _ _ _) F.entry_str_rsplit (F.args_str_rsplit_3 _ _ _) (meets_str_rsplit_max_cannot_occur x y k t u v hk h1) (h' [(x, t)] s.toks (if_pos h1).symm)
theorem Sta.fmtI {n : Nat} {t : Tok} {Q : Value -> Shared -> Prop} (S : Sta W G env loc nw s) (hn : n <= 1000000) (h : ∀ t' s', Sta W G env loc nw s' -> Q (.str (toString (n : Int) : String) t') s') : wpAny (model W.prog W.w) A (formatField (.int (n : Int) t) Str.empty) Q E s := by
 refine wpAny_formatField_int ?_ (h _ _ (S.toks _))
 have h2 : ((n : Int).natAbs).log2 < 20 \/ 20 <= ((n : Int).natAbs).log2 := by omega
 rcases h2 with h2 | h2
 ·omega
 ·rw [Int.natAbs_natCast] at h2 ⊢
  by_cases h0 : n = 0
  ·subst h0; decide
  ·have := (Nat.le_log2 h0).mp h2
   omega
end
theorem aIB {W : Wd} {sh R : Ledger} {it : Addr} {GR : Gens} : ∀ (vs : List Value) (own : Ledger) (og : Gens) (A : Around) (s : Shared) (Q : List Value -> Shared -> Prop) (E : Value -> Shared -> Prop), Aok 7 A -> aAW W sh it vs own og -> St0 W (GR ++ og) (R ++ (sh ++ own)) s ->
  (∀ own' og' s', aAW W sh it [] own' og' -> St0 W (GR ++ og') (R ++ (sh ++ own')) s' -> Q vs s') -> wpAny (model W.prog W.w) A (draw (.ref it) vs.length) Q E s
 | [], own, og, A, s, Q, E, _, hy, S, hQ => wpAny_pure (hQ own og s hy S)
 | v :: vs, own, og, A, s, Q, E, hA, hy, S, hQ => by
  refine wpAny_bind (hy.2 A R GR s _ _ hA S λ own' og' s' S' hy' => ?_)
  exact wpAny_bind (wpAny_holding (aIB vs own' og' A s' _ E hA hy' S' λ own2 og2 s2 hy2 S2 => wpAny_pure (hQ own2 og2 s2 hy2 S2)))
section
variable {W : Wd} {G : Gens} {env : Env} {loc loc' : Loc} {nw nw' N : Ledger} {s : Shared} {A : Around} {E : Value -> Shared -> Prop}
theorem Sta.unpackLi {a : Addr} {xs : List Value} {n : Nat} {Q : List Value -> Shared -> Prop} (S : Sta W G env loc ((a, aAa xs) :: N) s) (hA : Aok 9 A) (hn : n = xs.length) (h : ∀ s', Sta W G env loc ((a, aAa xs) :: N) s' -> Q xs s') : wpAny (model W.prog W.w) A (unpackItems (.ref a) n none) Q E s := by
 subst hn
 refine wpAny_bind ?_
 ·unfold notIterableAtAll
  refine wpAny_bind (wpAny_specialOf (S.isList (.head _)).typeIs F.slot_list_iter.lookup ?_)
  refine wpAny_pure ?_
  refine wpAny_bind (wpAny_holding (S.iterList (.head _) λ it s' S' => ?_))
  have hy : aAW W [(a, aAa xs)] it xs [(it, IsLI a 0)] [] := LY.yields (aAU (own₀ := []) (by simp) xs 0 rfl)
  have S2 : St0 W (G ++ []) (((env.locals, IsNs loc) :: N) ++ ([(a, aAa xs)] ++ [(it, IsLI a 0)])) s' := by
   rw [List.append_nil]
   refine (S'.perm (nw' := N ++ ([(a, aAa xs)] ++ [(it, IsLI a 0)])) ?_).to0
   exact (List.Perm.swap ..).trans (List.perm_append_comm (l₁ := [_, _]) (l₂ := N))
  refine wpAny_bind (wpAny_holding (aIB xs _ [] _ s' _ _ (hA.le (by omega)) hy S2 λ own2 og2 s2 hy2 S3 => ?_))
  rw [if_neg (Nat.lt_irrefl _)]
  refine wpAny_bind (wpAny_holding (hy2.2 _ _ _ _ _ _ (hA.le (by omega)) S3 λ s3 S4 => ?_))
  simp only [Option.isSome_none, Bool.false_eq_true, if_false]
  refine wpAny_pure (h s3 ((S4.toSta S.eok).perm ?_))
  exact List.perm_append_comm
theorem Sta.unpackTx {elts : List Expr} {x1} {pos : Pos} {a : Addr} {ss : List Str} {Q : Unit -> Shared -> Prop} (S : Sta W G env loc nw s) (P : Pull (a, aAb ss) nw N) (hA : Aok 9 A) (hn : (assignEach elts env).length = ss.length) (hstar : (assignEach elts env).findIdx? (·.1) = none)
  (h : ∀ vs s', TxtsAre vs ss -> Sta W G env loc N s' -> wpAny (model W.prog W.w) A (assignInOrder ((assignEach elts env).map (·.2)) vs) Q E s') : wpAny (model W.prog W.w) A (assign (.Tuple elts x1 pos) env (.ref a)) Q E s := by
 have S1 := S.perm P.perm
 obtain ⟨o, ho, vs, ht, hl⟩ := S1.get (.head _)
 have S2 := S1.tell (c' := aAa vs) .head λ o' ho' _ => by rw [ho] at ho'; cases ho'; exact hl
 rw [assign_Tuple]
 refine wpAny_bind (wpAny_standAt ?_)
 unfold unpack
 rw [hstar]
 refine wpAny_bind (wpAny_holding (S2.unpackLi hA (by rw [hn, ht.length]) λ s' S3 => ?_))
 exact h vs s' ht (S3.sub (List.sublist_cons_self _ _))
end
end Mine
end
section
namespace Mine
section
variable {W : Wd} {G : Gens} {env : Env} {loc loc' : Loc} {nw nw' : Ledger} {s : Shared} {A : Around} {E : Value -> Shared -> Prop}
theorem aFq {M : Model} {x : Str} {t : Tok} {Q : Value × List Value -> Shared -> Prop} (h : Q (.builtin "str.index", [.str x t]) s) : GetM M A E "index" (.str x t) Q s := aCk (name := "index") (id := "str.index") F.slot_str_index F.type_str_index h
open PySem.Builtin.Str in
theorem Sta.indexS {x y : Str} {t u : Tok} {i : Nat} {Q : Value -> Shared -> Prop} (S : Sta W G env loc nw s) (hf : occurrences x y 0 x.length 1 = [i]) (h : ∀ t s', Sta W G env loc nw s' -> Q (.int (i : Int) t) s') :
  wpAny (model W.prog W.w) A (call (.builtin "str.index") [.str x t, .str y u]) Q E s :=
 PySem.SC.index hf (h _ _ (S.toks _))
end
end Mine
end
section
namespace Mine
section
variable {W : Wd} {G : Gens} {env : Env} {loc loc' : Loc} {nw nw' : Ledger} {s : Shared} {A : Around} {E : Value -> Shared -> Prop}
theorem aGS {value : Expr} {lower upper : Option Expr} {p pos : Pos} {Q : Value -> Shared -> Prop}
  (h : wpAny (model W.prog W.w) A (eval value env) (λ o s₁ => wpAny (model W.prog W.w) A (evalPart lower env) (λ vl s₂ => wpAny (model W.prog W.w) A (evalPart upper env) (λ vu s₃ => aEU W env Q o vl vu s₃) E s₂) E s₁) E s) :
  wpAny (model W.prog W.w) A (eval (.Subscript value (.Slice lower upper none p) pos) env) Q E s := by
 have key : ∀ {o : Value} {s₁ : Shared}, wpAny (model W.prog W.w) A (evalPart lower env) (λ vl s₂ => wpAny (model W.prog W.w) A (evalPart upper env) (λ vu s₃ => aEU W env Q o vl vu s₃) E s₂) E s₁ ->
   wpAny (model W.prog W.w) A (eval (.Slice lower upper none p) env) (λ i s₂ => s₂.TypeIs o "list" /\ wpAny (model W.prog W.w) A (getItem o i) Q E s₂) E s₁ := by
  intro o s₁ h₁
  refine wpAny_Slice (wpAny_mono h₁ (λ vl s₂ h₂ => wpAny_mono h₂ (λ vu s₃ h₃ => ?_) λ _ _ x => x) λ _ _ x => x)
  obtain ⟨G, loc, nw, l, xs, lo, hi, S, rfl, m, hz, pl, pu, q⟩ := h₃
  rw [evalPart_none]
  have hl := S.isList m
  refine wpAny_pure ⟨(hl.push _).typeIs, wpAny_getItem_list_slice (hl.push _) (Heap.IsSliceOf.new ..) pl pu .none (by simp) ?_ (by simpa using hz)⟩
  have S1 := S.grow (h' := s₃.heap.push { cls := .type "slice", data := .fields #[vl, vu, .none] }) (λ _ _ e => Heap.get?_push_of_some _ e) s₃.toks
  exact q _ _ (S1.new (o := { cls := .type "list", data := .seq (slicePick xs.toArray lo hi none) }) (c := aAa (slicePick xs.toArray lo hi none).toList) rfl ⟨0, rfl⟩ s₃.toks)
 rw [eval_Subscript]
 refine wpAny_bind (wpAny_mono h (λ o s₁ h₁ => wpAny_bind (wpAny_holding (wpAny_mono (key h₁) (λ i s₂ h₂ => wpAny_bind (wpAny_standAt ?_)) λ _ _ x => x))) λ _ _ x => x)
 refine wpAny_bind ?_
 rw [getitemInPython_of_ne h₂.1.not_modules]
 refine wpAny_bind (wpAny_specialOf h₂.1 F.slot_list_getitem.lookup ?_)
 have fin : wpAny (model W.prog W.w) A (operate [i, o] (getItem o i)) (λ r s₃ => wpAny (model W.prog W.w) A (letTemporaryGo value o r >>= λ _ => pure r) Q E s₃) E s₂ :=
  wpAny_operating (wpAny_mono h₂.2 (λ r s₃ h₃ => wpAny_bind (wpAny_letTemporaryGo (wpAny_pure h₃))) λ _ _ x => x)
 first
  | exact wpAny_pure (wpAny_bind fin)
  | exact wpAny_bind (wpAny_pure (wpAny_bind fin))
  | exact wpAny_bind fin
end
end Mine
end
section
namespace Mine
noncomputable def aCL : Expr -> Nat × List Expr × Option Str
 | .Starred _ _ => (1, [], none)
 | .Call _ l _ _ => (2, l, none)
 | .UnaryOp _ _ _ => (3, [], none)
 | .BoolOp _ _ _ => (4, [], none)
 | .IfExp _ _ _ _ => (5, [], none)
 | .Compare _ _ _ _ => (6, [], none)
 | .ListComp _ _ _ _ => (7, [], none)
 | .SetComp _ _ _ _ => (8, [], none)
 | .DictComp _ _ _ _ _ => (9, [], none)
 | .Tuple l _ _ => (0, l, none)
 | .Constant c _ _ => (0, [], match c with | .str x => some x | _ => none)
 | _ => (0, [], none)
noncomputable def aBx (e : Expr) : Bool := (aCL e).1 != 1
noncomputable def aG5 (e : Expr) : Bool := (aCL e).1 != 2
noncomputable def aIr (e : Expr) : Bool := Nat.ble (aCL e).1 2 || Nat.ble 7 (aCL e).1
noncomputable def aCU (e : Expr) : Bool := Nat.ble (aCL e).1 6
theorem aBE {e : Expr} (h : aBx e = true) (rest : List Expr) (env : Env) : starEach (e :: rest) env = (false, eval e env) :: starEach rest env := by
 cases e with
 | Starred _ _ => cases h
 | _ => rfl
theorem aHJ {o : Expr} (h : aG5 o = true) (attr : Str) (env : Env) (w : Sem Value) : attributeBase o attr env w = w := by
 cases o with
 | Call _ _ _ _ => cases h
 | _ => rfl
theorem aIN {e : Expr} (h : aIr e = true) (env : Env) (whole : Sem Value) : PySem.isTrue e env whole = (do let v ← whole; standAt e.pos; holding [v] (truthy v)) := by
 cases e with
 | UnaryOp _ _ _ => cases h
 | BoolOp _ _ _ => cases h
 | IfExp _ _ _ _ => cases h
 | Compare _ _ _ _ => cases h
 | _ => rfl
theorem aE1 {e : Expr} (h : aCU e = true) (t : Option Expr) (l : Nat) (env : Env) : swapsWith e t l env = pure false := by
 cases e with
 | ListComp _ _ _ _ => cases h
 | SetComp _ _ _ _ => cases h
 | DictComp _ _ _ _ _ => cases h
 | _ => rfl
theorem aDl {env : Env} {pos : Pos} : ∀ {l : List Expr}, l.all aBx = true -> ((backTo pos (starEach l env)).any λ x => x.fst) = false
 | [], _ => rfl
 | e :: r, h => by
  rw [List.all_cons, Bool.and_eq_true] at h
  rw [aBE h.1]
  show (false || (backTo pos (starEach r env)).any λ x => x.fst) = false
  rw [aDl h.2]
  rfl
section
variable {W : Wd} {G : Gens} {env ev : Env} {loc loc' : Loc} {nw nw' : Ledger} {s : Shared} {A : Around} {E : Value -> Shared -> Prop} {M : Model}
theorem allL {pos : Pos} {env : Env} : ∀ {l : List Expr}, l.all aBx = true -> (backTo pos (starEach l env)).all (λ x => !x.1) = true
 | [], _ => rfl
 | e :: r, h => by
  rw [List.all_cons, Bool.and_eq_true] at h
  rw [aBE h.1]
  show (!false && (backTo pos (starEach r env)).all λ x => !x.1) = true
  rw [allL h.2]
  rfl
theorem aJs {pos : Pos} {env : Env} {args : List Expr} {kws : List Keyword} (h : (args.all aBx && kws.isEmpty && Nat.ble (args.length + 1) 30) = true) : methodCallForm (args.length + kws.length) (backTo pos (starEach args env)) (backToKw pos (keywordEach kws env)) = true := by
 rw [Bool.and_eq_true, Bool.and_eq_true] at h
 obtain ⟨⟨h1, h2⟩, h3⟩ := h
 cases kws with
 | cons k r => cases h2
 | nil =>
  have h4 := Nat.le_of_ble_eq_true h3
  unfold methodCallForm
  rw [allL h1]
  show (true && true && decide (args.length + 0 + 0 < 30)) = true
  rw [decide_eq_true (show args.length + 0 + 0 < 30 from h4)]
  rfl
noncomputable def aIF (args : List Expr) (kws : List Keyword) (a p : Pos) : Bool := (args.all aBx && kws.isEmpty && Nat.ble (args.length + 1) 30) && a.endLine == p.line
theorem aFN {o : Expr} {name : Str} {apos pos : Pos} {args : List Expr} {kws : List Keyword} {Q : Value -> Shared -> Prop}
  (h : wpAny M A (eval o env) (λ ov s₁ => GetM M A E name ov (λ p s₂ => wpAny M A (callWith pos p.1 p.2 (backTo pos (starEach args env)) (backToKw pos (keywordEach kws env))) Q E s₂) s₁) E s)
  (hb : aG5 o = true) (hf : aIF args kws apos pos = true) : wpAny M A (eval (.Call (.Attribute o name apos) args kws pos) env) Q E s :=
 aBD h (aHJ hb _ _ _) (aJs ((Bool.and_eq_true _ _).mp hf).1) ((Bool.and_eq_true _ _).mp hf).2
theorem aGZ {x : Str} {xp : Pos} {v : Value} {name : Str} {apos pos : Pos} {args : List Expr} {kws : List Keyword} {Q : Value -> Shared -> Prop} (S : Sta W G env loc nw s) (hv : (x, some v) ∈ loc)
  (h : GetM M A E name v (λ p s₂ => wpAny M A (callWith pos p.1 p.2 (backTo pos (starEach args env)) (backToKw pos (keywordEach kws env))) Q E s₂) s)
  (hf : aIF args kws apos pos = true) : wpAny M A (eval (.Call (.Attribute (.Name x xp) name apos) args kws pos) env) Q E s :=
 aFN (S.local_ hv h) rfl hf
theorem aFM {e : Expr} {whole : Sem Value} {Q : Bool -> Shared -> Prop} (h : wpAny M A whole (λ v s₁ => wpAny M A (truthy v) Q E s₁) E s) (he : aIr e = true) : wpAny M A (PySem.isTrue e env whole) Q E s := isTrue_plain h (aIN he _ _)
theorem aGX {x : Str} {xp : Pos} {v : Value} {Q : Bool -> Shared -> Prop} (S : Sta W G env loc nw s) (hv : (x, some v) ∈ loc) (h : wpAny M A (truthy v) Q E s) : wpAny M A (PySem.isTrue (.Name x xp) env (eval (.Name x xp) env)) Q E s := aFM (S.local_ hv h) rfl
theorem aEy {x : Str} {xp : Pos} {v : Value} {op : CmpOp} {r : Expr} {pos : Pos} {whole : Sem Value} {Q : Bool -> Shared -> Prop} (S : Sta W G env loc nw s) (hv : (x, some v) ∈ loc)
  (h : wpAny M A (eval r env) (λ b s₂ => wpAny M A (compareOp op v b) (λ c s₃ => wpAny M A (truthy c) Q E s₃) E s₂) E s) (hb : behindInMarks op r = false) : wpAny M A (PySem.isTrue (.Compare (.Name x xp) [op] [r] pos) env whole) Q E s := wpAny_isTrue_Compare1 (S.local_ hv h) hb
theorem q_CmpL {x : Str} {xp : Pos} {v : Value} {op : CmpOp} {r : Expr} {pos : Pos} {Q : Value -> Shared -> Prop} (S : Sta W G env loc nw s) (hv : (x, some v) ∈ loc)
  (h : wpAny M A (eval r env) (λ b s₂ => wpAny M A (compareOp op v b) Q E s₂) E s) (hb : behindInMarks op r = false) : wpAny M A (eval (.Compare (.Name x xp) [op] [r] pos) env) Q E s := wpAny_Compare1 (S.local_ hv h) hb
theorem q_BinL {x : Str} {xp : Pos} {v : Value} {op : Operator} {r : Expr} {pos : Pos} {Q : Value -> Shared -> Prop} (S : Sta W G env loc nw s) (hv : (x, some v) ∈ loc)
  (h : wpAny M A (eval r env) (λ b s₂ => wpAny M A (binaryOp op v b) Q E s₂) E s) : wpAny M A (eval (.BinOp (.Name x xp) op r pos) env) Q E s := wpAny_BinOp (S.local_ hv h)
theorem aI3 {value : Expr} {attr : Str} {pos : Pos} {Q : Value -> Shared -> Prop} (h : wpAny (model W.prog W.w) A (eval value env) (λ o s₁ => wpAny (model W.prog W.w) A (getAttr o attr true) Q E s₁) E s) (hb : aG5 value = true) : wpAny (model W.prog W.w) A (eval (.Attribute value attr pos) env) Q E s := aCG h (aHJ hb _ _ _)
theorem q_AttL {x : Str} {xp : Pos} {v : Value} {attr : Str} {pos : Pos} {Q : Value -> Shared -> Prop} (S : Sta W G env loc nw s) (hv : (x, some v) ∈ loc) (h : wpAny (model W.prog W.w) A (getAttr v attr true) Q E s) : wpAny (model W.prog W.w) A (eval (.Attribute (.Name x xp) attr pos) env) Q E s := aI3 (S.local_ hv h) rfl
theorem q_AttC {x : Str} {xp : Pos} {c : Addr} {v : Value} {attr : Str} {pos : Pos} {Q : Value -> Shared -> Prop} (S : Sta W G env loc nw s) (hc : CellOk env NameKind.cell x c) (hv : (c, aAp (some v)) ∈ nw) (h : wpAny (model W.prog W.w) A (getAttr v attr true) Q E s) : wpAny (model W.prog W.w) A (eval (.Attribute (.Name x xp) attr pos) env) Q E s := aI3 (S.cell hc hv h) rfl
theorem aD1 {o : Expr} {attr : Str} {pos' : Pos} {value : Expr} {pos : Pos} {Q : Flow -> Shared -> Prop}
  (h : wpAny (model W.prog W.w) A (eval value env) (λ v s₁ => wpAny (model W.prog W.w) A (eval o env) (λ ov s₂ => wpAny (model W.prog W.w) A (setAttr ov attr v) (λ _ => Q .next) E s₂) E s₁) E s) (hs : aCU value = true) : wpAny (model W.prog W.w) A (exec (.Assign [.Attribute o attr pos'] value pos) env) Q E s := aBK h (aE1 hs _ _ _)
theorem aCS {name : Str} {npos : Pos} {value : Expr} {pos : Pos} {Q : Flow -> Shared -> Prop} (h : wpAny M A (eval value env) (λ v s₁ => wpAny M A (storeName env name v) (λ _ => Q .next) E s₁) E s) (hs : aCU value = true) : wpAny M A (exec (.Assign [.Name name npos] value pos) env) Q E s := wpAny_Assign_Name h (aE1 hs _ _ _)
theorem q_Expr {prog : Program} {w : World} {e : Expr} {pos : Pos} {Q : Flow -> Shared -> Prop} (h : wpAny (model prog w) A (eval e env) (λ _ => Q .next) E s) (hi : interactive env = false) (hs : aCU e = true) : wpAny (model prog w) A (exec (.Expr e pos) env) Q E s := wpAny_Expr_any h hi (aE1 hs _ _ _)
theorem aGY {e : Expr} {rest : List Expr} {pos : Pos} {Q : List Value -> Shared -> Prop} (h : wpAny M A (eval e env) (λ v s₁ => wpAny M A (spliced (backTo pos (starEach rest env))) (λ vs s₂ => Q (v :: vs) s₂) E s₁) E s) (he : aBx e = true) : wpAny M A (spliced (backTo pos (starEach (e :: rest) env))) Q E s := args_cons h (aBE he _ _)
theorem aI2 {x : Str} {xp : Pos} {v : Value} {rest : List Expr} {pos : Pos} {Q : List Value -> Shared -> Prop} (S : Sta W G env loc nw s) (hv : (x, some v) ∈ loc) (h : wpAny M A (spliced (backTo pos (starEach rest env))) (λ vs s₂ => Q (v :: vs) s₂) E s) : wpAny M A (spliced (backTo pos (starEach (.Name x xp :: rest) env))) Q E s := aGY (S.local_ hv h) rfl
theorem q_bi {pos : Pos} {id : String} {e : Expr} {rest : List Expr} {Q : Value -> Shared -> Prop} (h : wpAny M A (spliced (backTo pos (starEach (e :: rest) env))) (λ vs s₁ => wpAny M A (call (.builtin id) vs) Q E s₁) E s) (he : (e :: rest).all aBx = true) : wpAny M A (callWith pos (.builtin id) [] (backTo pos (starEach (e :: rest) env)) []) Q E s := by
 rw [List.all_cons, Bool.and_eq_true] at he
 exact PyProof.Rows.callWith_builtin1 h (aBE he.1 _ _) (aDl he.2)
theorem q_ty {pos : Pos} {T : String} {e : Expr} {rest : List Expr} {Q : Value -> Shared -> Prop} (h : wpAny M A (spliced (backTo pos (starEach (e :: rest) env))) (λ vs s₁ => wpAny M A (call (.type T) vs) Q E s₁) E s) (he : (e :: rest).all aBx = true) : wpAny M A (callWith pos (.type T) [] (backTo pos (starEach (e :: rest) env)) []) Q E s := by
 rw [List.all_cons, Bool.and_eq_true] at he
 exact PyProof.Rows.callWith_type1 h (aBE he.1 _ _) (aDl he.2)
theorem q_m1 {pos : Pos} {id : String} {self : Value} {e : Expr} {rest : List Expr} {Q : Value -> Shared -> Prop} (h : wpAny M A (spliced (backTo pos (starEach (e :: rest) env))) (λ vs s₁ => wpAny M A (call (.builtin id) (self :: vs)) Q E s₁) E s) (he : (e :: rest).all aBx = true) : wpAny M A (callWith pos (.builtin id) [self] (backTo pos (starEach (e :: rest) env)) (backToKw pos (keywordEach [] env))) Q E s := by
 rw [List.all_cons, Bool.and_eq_true] at he
 exact aA1 h (aBE he.1 _ _) (aDl he.2)
theorem q_Wm {pos : Pos} {f : Addr} {self : Value} {e : Expr} {rest : List Expr} {Q : Value -> Shared -> Prop} (hk : keepIn W.K (.ref f) = true) (h : wpAny (model W.prog W.w) A (spliced (backTo pos (starEach (e :: rest) env))) (λ vs s₁ => W.K.In s₁.heap /\ wpAny (model W.prog W.w) A (call (.ref f) (self :: vs)) Q E s₁) E s) (he : (e :: rest).all aBx = true) : wpAny (model W.prog W.w) A (callWith pos (.ref f) [self] (backTo pos (starEach (e :: rest) env)) (backToKw pos (keywordEach [] env))) Q E s := by
 rw [List.all_cons, Bool.and_eq_true] at he
 exact aEh hk h (aBE he.1 _ _) (aDl he.2)
theorem q_W1 {pos : Pos} {f : Addr} {e : Expr} {rest : List Expr} {Q : Value -> Shared -> Prop} (hk : keepIn W.K (.ref f) = true) (h : wpAny (model W.prog W.w) A (spliced (backTo pos (starEach (e :: rest) env))) (λ vs s₁ => W.K.In s₁.heap /\ wpAny (model W.prog W.w) A (call (.ref f) vs) Q E s₁) E s) (he : (e :: rest).all aBx = true) : wpAny (model W.prog W.w) A (callWith pos (.ref f) [] (backTo pos (starEach (e :: rest) env)) []) Q E s := by
 rw [List.all_cons, Bool.and_eq_true] at he
 exact aBJ hk h (aBE he.1 _ _) (aDl he.2)
theorem q_K1 {K : Sink W} {pos : Pos} {e : Expr} {rest : List Expr} {Q : Value -> Shared -> Prop} (h : wpAny (model W.prog W.w) A (spliced (backTo pos (starEach (e :: rest) env))) (λ vs s₁ => (∃ N st, W.K.In s₁.heap /\ Led W.B (K.L st ++ N) s₁.heap) /\ wpAny (model W.prog W.w) A (call (.ref K.q) vs) Q E s₁) E s) (he : (e :: rest).all aBx = true) : wpAny (model W.prog W.w) A (callWith pos (.ref K.q) [] (backTo pos (starEach (e :: rest) env)) (backToKw pos (keywordEach [] env))) Q E s := by
 rw [List.all_cons, Bool.and_eq_true] at he
 exact aJL h (aBE he.1 _ _) (aDl he.2)
theorem q_Kn {K : Sink W} {pos : Pos} {e : Expr} {rest : List Expr} {Q : Value -> Shared -> Prop} (h : wpAny (model W.prog W.w) A (spliced (backTo pos (starEach (e :: rest) env))) (λ vs s₁ => (∃ N st, W.K.In s₁.heap /\ Led W.B (K.L st ++ N) s₁.heap) /\ wpAny (model W.prog W.w) A (call (.ref K.q) vs) Q E s₁) E s) (he : (e :: rest).all aBx = true) : wpAny (model W.prog W.w) A (callWith pos (.ref K.q) [] (backTo pos (starEach (e :: rest) env)) []) Q E s := q_K1 h he
end
end Mine
end
section
namespace Mine
theorem pr2 {α β : Type} {P : α × β -> Prop} (h : ∀ a b, P (a, b)) : ∀ r, P r := λ r => h r.1 r.2
theorem pr3 {α β γ : Type} {P : α × β × γ -> Prop} (h : ∀ a b c, P (a, b, c)) : ∀ r, P r := λ r => h r.1 r.2.1 r.2.2
section
variable {W : Wd} {G : Gens} {env : Env} {sh : Ledger} {A : Around} {α ρ : Type} {P : α -> Value -> Prop} {it : Addr} {R : Result -> Shared -> Prop} {xs : List α} {own : Ledger} {og : Gens} {s : Shared} (hA : Aok 7 A) (L : ρ -> List α -> Loc) (N : ρ -> List α -> Ledger) (H : ρ -> List α -> Prop)
noncomputable abbrev aHO (G : Gens) (xs : List α) (L : ρ -> List α -> Loc) (N : ρ -> List α -> Ledger) (H : ρ -> List α -> Prop) : List α -> Loc -> Ledger -> Gens -> Prop := λ rest loc nw G' => G' = G /\ ∃ dn r, xs = dn ++ rest /\ H r dn /\ loc = L r dn /\ nw = N r dn
include hA in
theorem aID {elt target : Expr} {gens : List Comprehension} {scope : Scope} {pos p : Pos} {d : Nat} {body : Sem Unit} {acc : Value} (hT : compTurn (.ListComp elt gens scope pos) d (.ref it) acc env = (standAt p >>= λ _ => pyNext (.ref it) >>= λ r => match r with
   | none => pure (.done .next)
   | some v => letOwnedTupleGo target (.ref it) v >>= λ _ => assign target env v >>= λ _ => body >>= λ _ => again (.compLoop (.ListComp elt gens scope pos) d (.ref it) acc env))) (hy : YieldsR W sh it P xs own og) (r0 : ρ) (h0 : H r0 []) (S : Sta W (G ++ og) env (L r0 []) (N r0 [] ++ (sh ++ own)) s) (fin : ∀ r s, H r xs -> Sta W G env (L r xs) (N r xs ++ sh) s -> R (.ok .next) s) (turn : ∀ x dn rest v tl tg r s (K : Shared -> Prop), xs = dn ++ x :: rest -> P x v -> H r dn -> Sta W (G ++ tg) env (L r dn) (N r dn ++ (sh ++ tl)) s -> (∀ r' s', H r' (dn ++ [x]) -> Sta W (G ++ tg) env (L r' (dn ++ [x])) (N r' (dn ++ [x]) ++ (sh ++ tl)) s' -> K s') -> wpAny (model W.prog W.w) A (assign target env v) (λ _ s₂ => wpAny (model W.prog W.w) A body (λ _ s₃ => K s₃) (λ _ _ => False) s₂) (λ _ _ => False) s) : codeAny (model W.prog W.w) A (.compLoop (.ListComp elt gens scope pos) d (.ref it) acc env) R s := by
 refine comp_y hA hT (aHO G xs L N H) ?_ ?_ S hy ⟨rfl, [], r0, rfl, h0, rfl, rfl⟩
 ·intro x v rest tl tg loc nw G' s1 hp S1 hJ
  obtain ⟨rfl, dn, r, hq, hH, rfl, rfl⟩ := hJ
  exact turn x dn rest v tl tg r s1 _ hq hp hH S1 λ r' s' h' S' => ⟨_, _, _, S', rfl, dn ++ [x], r', by rw [hq, List.append_assoc]; rfl, h', rfl, rfl⟩
 ·intro loc nw G' s1 S1 hJ
  obtain ⟨rfl, dn, r, hq, hH, rfl, rfl⟩ := hJ
  rw [List.append_nil] at hq
  subst hq
  exact fin r s1 hH S1
include hA in
theorem aEe {elt target : Expr} {gens : List Comprehension} {scope : Scope} {pos p : Pos} {d : Nat} {body : Sem Unit} {acc : Value} {f : α -> Value} (hT : compTurn (.ListComp elt gens scope pos) d (.ref it) acc env = (standAt p >>= λ _ => pyNext (.ref it) >>= λ r => match r with
   | none => pure (.done .next)
   | some v => letOwnedTupleGo target (.ref it) v >>= λ _ => assign target env v >>= λ _ => body >>= λ _ => again (.compLoop (.ListComp elt gens scope pos) d (.ref it) acc env))) (hy : YieldsR W sh it (λ x v => v = f x) xs own og) (r0 : ρ) (h0 : H r0 []) (S : Sta W (G ++ og) env (L r0 []) (N r0 [] ++ (sh ++ own)) s) (fin : ∀ r s, H r xs -> Sta W G env (L r xs) (N r xs ++ sh) s -> R (.ok .next) s) (turn : ∀ x dn rest  tl tg r s (K : Shared -> Prop), xs = dn ++ x :: rest -> H r dn -> Sta W (G ++ tg) env (L r dn) (N r dn ++ (sh ++ tl)) s -> (∀ r' s', H r' (dn ++ [x]) -> Sta W (G ++ tg) env (L r' (dn ++ [x])) (N r' (dn ++ [x]) ++ (sh ++ tl)) s' -> K s') -> wpAny (model W.prog W.w) A (assign target env (f x)) (λ _ s₂ => wpAny (model W.prog W.w) A body (λ _ s₃ => K s₃) (λ _ _ => False) s₂) (λ _ _ => False) s) : codeAny (model W.prog W.w) A (.compLoop (.ListComp elt gens scope pos) d (.ref it) acc env) R s := aID hA L N H hT hy r0 h0 S fin λ x dn rest v tl tg r s K hq hv => by subst hv; exact turn x dn rest tl tg r s K hq
include hA in
theorem aJC {elt target : Expr} {gens : List Comprehension} {scope : Scope} {pos p : Pos} {d : Nat} {body : Sem Unit} {acc : Value} {f : α -> Tok -> Value} (hT : compTurn (.ListComp elt gens scope pos) d (.ref it) acc env = (standAt p >>= λ _ => pyNext (.ref it) >>= λ r => match r with
   | none => pure (.done .next)
   | some v => letOwnedTupleGo target (.ref it) v >>= λ _ => assign target env v >>= λ _ => body >>= λ _ => again (.compLoop (.ListComp elt gens scope pos) d (.ref it) acc env))) (hy : YieldsR W sh it (λ x v => ∃ t, v = f x t) xs own og) (r0 : ρ) (h0 : H r0 []) (S : Sta W (G ++ og) env (L r0 []) (N r0 [] ++ (sh ++ own)) s) (fin : ∀ r s, H r xs -> Sta W G env (L r xs) (N r xs ++ sh) s -> R (.ok .next) s) (turn : ∀ x dn rest t tl tg r s (K : Shared -> Prop), xs = dn ++ x :: rest -> H r dn -> Sta W (G ++ tg) env (L r dn) (N r dn ++ (sh ++ tl)) s -> (∀ r' s', H r' (dn ++ [x]) -> Sta W (G ++ tg) env (L r' (dn ++ [x])) (N r' (dn ++ [x]) ++ (sh ++ tl)) s' -> K s') -> wpAny (model W.prog W.w) A (assign target env (f x t)) (λ _ s₂ => wpAny (model W.prog W.w) A body (λ _ s₃ => K s₃) (λ _ _ => False) s₂) (λ _ _ => False) s) : codeAny (model W.prog W.w) A (.compLoop (.ListComp elt gens scope pos) d (.ref it) acc env) R s := aID hA L N H hT hy r0 h0 S fin λ x dn rest v tl tg r s K hq hv => by obtain ⟨t, rfl⟩ := hv; exact turn x dn rest t tl tg r s K hq
include hA in
theorem aHE {elt target iter c : Expr} {scope : Scope} {pos : Pos} {acc : Value}  (hy : YieldsR W sh it P xs own og) (r0 : ρ) (h0 : H r0 []) (S : Sta W (G ++ og) env (L r0 []) (N r0 [] ++ (sh ++ own)) s) (fin : ∀ r s, H r xs -> Sta W G env (L r xs) (N r xs ++ sh) s -> R (.ok .next) s) (turn : ∀ x dn rest v tl tg r s (K : Shared -> Prop), xs = dn ++ x :: rest -> P x v -> H r dn -> Sta W (G ++ tg) env (L r dn) (N r dn ++ (sh ++ tl)) s -> (∀ r' s', H r' (dn ++ [x]) -> Sta W (G ++ tg) env (L r' (dn ++ [x])) (N r' (dn ++ [x]) ++ (sh ++ tl)) s' -> K s') -> wpAny (model W.prog W.w) A (assign target env v) (λ _ s₂ => wpAny (model W.prog W.w) A (isTrue c env (eval c env)) (λ b s₃ => if b = true then wpAny (model W.prog W.w) A (eval elt env) (λ y s₄ => wpAny (model W.prog W.w) A (call (.builtin "list.append") [acc, y]) (λ _ s₅ => K s₅) (λ _ _ => False) s₄) (λ _ _ => False) s₃ else K s₃) (λ _ _ => False) s₂) (λ _ _ => False) s) : codeAny (model W.prog W.w) A (.compLoop (.ListComp elt [⟨target, iter, [c], 0⟩] scope pos) 0 (.ref it) acc env) R s := by
 refine aJD hA (aHO G xs L N H) ?_ ?_ S hy ⟨rfl, [], r0, rfl, h0, rfl, rfl⟩
 ·intro x v rest tl tg loc nw G' s1 hp S1 hJ
  obtain ⟨rfl, dn, r, hq, hH, rfl, rfl⟩ := hJ
  exact turn x dn rest v tl tg r s1 _ hq hp hH S1 λ r' s' h' S' => ⟨_, _, _, S', rfl, dn ++ [x], r', by rw [hq, List.append_assoc]; rfl, h', rfl, rfl⟩
 ·intro loc nw G' s1 S1 hJ
  obtain ⟨rfl, dn, r, hq, hH, rfl, rfl⟩ := hJ
  rw [List.append_nil] at hq
  subst hq
  exact fin r s1 hH S1
include hA in
theorem aIk {elt target iter c : Expr} {scope : Scope} {pos : Pos} {acc : Value} {f : α -> Value}  (hy : YieldsR W sh it (λ x v => v = f x) xs own og) (r0 : ρ) (h0 : H r0 []) (S : Sta W (G ++ og) env (L r0 []) (N r0 [] ++ (sh ++ own)) s) (fin : ∀ r s, H r xs -> Sta W G env (L r xs) (N r xs ++ sh) s -> R (.ok .next) s) (turn : ∀ x dn rest  tl tg r s (K : Shared -> Prop), xs = dn ++ x :: rest -> H r dn -> Sta W (G ++ tg) env (L r dn) (N r dn ++ (sh ++ tl)) s -> (∀ r' s', H r' (dn ++ [x]) -> Sta W (G ++ tg) env (L r' (dn ++ [x])) (N r' (dn ++ [x]) ++ (sh ++ tl)) s' -> K s') -> wpAny (model W.prog W.w) A (assign target env (f x)) (λ _ s₂ => wpAny (model W.prog W.w) A (isTrue c env (eval c env)) (λ b s₃ => if b = true then wpAny (model W.prog W.w) A (eval elt env) (λ y s₄ => wpAny (model W.prog W.w) A (call (.builtin "list.append") [acc, y]) (λ _ s₅ => K s₅) (λ _ _ => False) s₄) (λ _ _ => False) s₃ else K s₃) (λ _ _ => False) s₂) (λ _ _ => False) s) : codeAny (model W.prog W.w) A (.compLoop (.ListComp elt [⟨target, iter, [c], 0⟩] scope pos) 0 (.ref it) acc env) R s := aHE hA L N H hy r0 h0 S fin λ x dn rest v tl tg r s K hq hv => by subst hv; exact turn x dn rest tl tg r s K hq
include hA in
theorem aF3 {elt target iter c : Expr} {scope : Scope} {pos : Pos} {acc : Value} {f : α -> Tok -> Value}  (hy : YieldsR W sh it (λ x v => ∃ t, v = f x t) xs own og) (r0 : ρ) (h0 : H r0 []) (S : Sta W (G ++ og) env (L r0 []) (N r0 [] ++ (sh ++ own)) s) (fin : ∀ r s, H r xs -> Sta W G env (L r xs) (N r xs ++ sh) s -> R (.ok .next) s) (turn : ∀ x dn rest t tl tg r s (K : Shared -> Prop), xs = dn ++ x :: rest -> H r dn -> Sta W (G ++ tg) env (L r dn) (N r dn ++ (sh ++ tl)) s -> (∀ r' s', H r' (dn ++ [x]) -> Sta W (G ++ tg) env (L r' (dn ++ [x])) (N r' (dn ++ [x]) ++ (sh ++ tl)) s' -> K s') -> wpAny (model W.prog W.w) A (assign target env (f x t)) (λ _ s₂ => wpAny (model W.prog W.w) A (isTrue c env (eval c env)) (λ b s₃ => if b = true then wpAny (model W.prog W.w) A (eval elt env) (λ y s₄ => wpAny (model W.prog W.w) A (call (.builtin "list.append") [acc, y]) (λ _ s₅ => K s₅) (λ _ _ => False) s₄) (λ _ _ => False) s₃ else K s₃) (λ _ _ => False) s₂) (λ _ _ => False) s) : codeAny (model W.prog W.w) A (.compLoop (.ListComp elt [⟨target, iter, [c], 0⟩] scope pos) 0 (.ref it) acc env) R s := aHE hA L N H hy r0 h0 S fin λ x dn rest v tl tg r s K hq hv => by obtain ⟨t, rfl⟩ := hv; exact turn x dn rest t tl tg r s K hq
include hA in
theorem for_z {target : Expr} {body : List Stmt}  (hy : YieldsR W sh it P xs own og) (r0 : ρ) (h0 : H r0 []) (S : Sta W (G ++ og) env (L r0 []) (N r0 [] ++ (sh ++ own)) s) (fin : ∀ r s, H r xs -> Sta W G env (L r xs) (N r xs ++ sh) s -> R (.ok .next) s) (turn : ∀ x dn rest v tl tg r s (K : Flow -> Shared -> Prop), xs = dn ++ x :: rest -> P x v -> H r dn -> Sta W (G ++ tg) env (L r dn) (N r dn ++ (sh ++ tl)) s -> (∀ r' s', H r' (dn ++ [x]) -> Sta W (G ++ tg) env (L r' (dn ++ [x])) (N r' (dn ++ [x]) ++ (sh ++ tl)) s' -> K .next s' /\ K .cont s') -> (∀ s', R (.ok .next) s' -> K .brk s') -> (∀ v s', R (.ok (.ret v)) s' -> K (.ret v) s') -> wpAny (model W.prog W.w) A (assign target env v) (λ _ s₂ => wpAny (model W.prog W.w) A (execs body env) K (λ _ _ => False) s₂) (λ _ _ => False) s) : codeAny (model W.prog W.w) A (.forLoop target (.ref it) body [] env) R s := by
 refine for_y hA (aHO G xs L N H) ?_ ?_ S hy ⟨rfl, [], r0, rfl, h0, rfl, rfl⟩
 ·intro x v rest tl tg loc nw G' s1 hp S1 hJ
  obtain ⟨rfl, dn, r, hq, hH, rfl, rfl⟩ := hJ
  refine turn x dn rest v tl tg r s1 _ hq hp hH S1 (λ r' s' h' S' => ?_) (λ _ h => h) λ _ _ h => h
  have hx : ∃ loc' nw' G'', Sta W (G'' ++ tg) env loc' (nw' ++ (sh ++ tl)) s' /\ aHO G' xs L N H rest loc' nw' G'' := ⟨_, _, _, S', rfl, dn ++ [x], r', by rw [hq, List.append_assoc]; rfl, h', rfl, rfl⟩
  exact ⟨hx, hx⟩
 ·intro loc nw G' s1 S1 hJ
  obtain ⟨rfl, dn, r, hq, hH, rfl, rfl⟩ := hJ
  rw [List.append_nil] at hq
  subst hq
  exact fin r s1 hH S1
include hA in
theorem aEO {target : Expr} {body : List Stmt} {f : α -> Value}  (hy : YieldsR W sh it (λ x v => v = f x) xs own og) (r0 : ρ) (h0 : H r0 []) (S : Sta W (G ++ og) env (L r0 []) (N r0 [] ++ (sh ++ own)) s) (fin : ∀ r s, H r xs -> Sta W G env (L r xs) (N r xs ++ sh) s -> R (.ok .next) s) (turn : ∀ x dn rest  tl tg r s (K : Flow -> Shared -> Prop), xs = dn ++ x :: rest -> H r dn -> Sta W (G ++ tg) env (L r dn) (N r dn ++ (sh ++ tl)) s -> (∀ r' s', H r' (dn ++ [x]) -> Sta W (G ++ tg) env (L r' (dn ++ [x])) (N r' (dn ++ [x]) ++ (sh ++ tl)) s' -> K .next s' /\ K .cont s') -> (∀ s', R (.ok .next) s' -> K .brk s') -> (∀ v s', R (.ok (.ret v)) s' -> K (.ret v) s') -> wpAny (model W.prog W.w) A (assign target env (f x)) (λ _ s₂ => wpAny (model W.prog W.w) A (execs body env) K (λ _ _ => False) s₂) (λ _ _ => False) s) : codeAny (model W.prog W.w) A (.forLoop target (.ref it) body [] env) R s := for_z hA L N H hy r0 h0 S fin λ x dn rest v tl tg r s K hq hv => by subst hv; exact turn x dn rest tl tg r s K hq
include hA in
theorem aIz {target : Expr} {body : List Stmt} {f : α -> Tok -> Value}  (hy : YieldsR W sh it (λ x v => ∃ t, v = f x t) xs own og) (r0 : ρ) (h0 : H r0 []) (S : Sta W (G ++ og) env (L r0 []) (N r0 [] ++ (sh ++ own)) s) (fin : ∀ r s, H r xs -> Sta W G env (L r xs) (N r xs ++ sh) s -> R (.ok .next) s) (turn : ∀ x dn rest t tl tg r s (K : Flow -> Shared -> Prop), xs = dn ++ x :: rest -> H r dn -> Sta W (G ++ tg) env (L r dn) (N r dn ++ (sh ++ tl)) s -> (∀ r' s', H r' (dn ++ [x]) -> Sta W (G ++ tg) env (L r' (dn ++ [x])) (N r' (dn ++ [x]) ++ (sh ++ tl)) s' -> K .next s' /\ K .cont s') -> (∀ s', R (.ok .next) s' -> K .brk s') -> (∀ v s', R (.ok (.ret v)) s' -> K (.ret v) s') -> wpAny (model W.prog W.w) A (assign target env (f x t)) (λ _ s₂ => wpAny (model W.prog W.w) A (execs body env) K (λ _ _ => False) s₂) (λ _ _ => False) s) : codeAny (model W.prog W.w) A (.forLoop target (.ref it) body [] env) R s := for_z hA L N H hy r0 h0 S fin λ x dn rest v tl tg r s K hq hv => by obtain ⟨t, rfl⟩ := hv; exact turn x dn rest t tl tg r s K hq
end
end Mine
end
section
namespace Mine
noncomputable def aIR (e : Expr) : Option Str := (aCL e).2.2
theorem aGa {e : Expr} {y : Str} (h : aIR e = some y) : ∃ k p, e = .Constant (.str y) k p := by
 cases e with
 | Constant c k p =>
  cases c with
  | str x => injection h with h; subst h; exact ⟨k, p, rfl⟩
  | _ => cases h
 | _ => cases h
noncomputable def aCI : List Expr -> Option (List Str)
 | [] => some []
 | e :: r => match aIR e, aCI r with
  | some x, some l => some (x :: l)
  | _, _ => none
theorem aE2 {e : Expr} {r : List Expr} {ss : List Str} (h : aCI (e :: r) = some ss) : ∃ y k p l, e = .Constant (.str y) k p /\ aCI r = some l /\ ss = y :: l := by
 unfold aCI at h
 cases h1 : aIR e with
 | none => rw [h1] at h; cases h
 | some y =>
  cases h2 : aCI r with
  | none => rw [h1, h2] at h; cases h
  | some l =>
   rw [h1, h2] at h
   injection h with h
   obtain ⟨k, p, hk⟩ := aGa h1
   exact ⟨y, k, p, l, hk, rfl, h.symm⟩
noncomputable def IsTT (ss : List Str) : Cell := λ o => ∃ vs, TxtsAre vs ss /\ aAo vs o
section
variable {W : Wd} {G : Gens} {env : Env} {loc : Loc} {nw : Ledger} {s : Shared} {A : Around} {E : Value -> Shared -> Prop} {M : Model}
theorem Sta.strArgs {pos : Pos} (es : List Expr) : ∀ {ss : List Str} {s : Shared} {Q : List Value -> Shared -> Prop}, Sta W G env loc nw s -> aCI es = some ss -> (∀ vs s', TxtsAre vs ss -> Sta W G env loc nw s' -> Q vs s') -> wpAny M A (spliced (backTo pos (starEach es env))) Q E s := by
 induction es with
 | nil =>
  intro ss s Q S e h
  injection e with e
  subst e
  exact args_nil (h [] s .nil S)
 | cons x r ih =>
  intro ss s Q S e h
  obtain ⟨y, k, p, l, rfl, er, rfl⟩ := aE2 e
  refine aGY ?_ rfl
  refine Sta.str_ S λ t s' S' => ?_
  exact ih S' er λ vs s2 hv S2 => h _ s2 (.cons _ t hv) S2
theorem Sta.txtList {es : List Expr} {ss : List Str} {pos : Pos} {Q : Value -> Shared -> Prop} (S : Sta W G env loc nw s) (e : aCI es = some ss) (hz : ss.length <= sizeLine) (h : ∀ a s', Sta W G env loc ((a, aAb ss) :: nw) s' -> Q (.ref a) s') : wpAny M A (eval (.List es pos) env) Q E s := by
 refine List_ (S.strArgs es e λ vs s1 hv S1 => ?_)
 refine S1.newList (by rw [hv.length]; exact hz) λ a s2 S2 => h a s2 (S2.tell (c' := aAb ss) .head λ o _ ho => ⟨vs, hv, ho⟩)
theorem Sta.txtTup {es : List Expr} {ss : List Str} {k : Nat} {pos : Pos} {Q : Value -> Shared -> Prop} (S : Sta W G env loc nw s) (e : aCI es = some ss) (hz : ss.length <= sizeLine) (h : ∀ a s', Sta W G env loc ((a, IsTT ss) :: nw) s' -> Q (.ref a) s') : wpAny M A (eval (.Tuple es k pos) env) Q E s := by
 refine Tuple_ (S.strArgs es e λ vs s1 hv S1 => ?_)
 refine S1.newTuple (by rw [hv.length]; exact hz) λ a s2 S2 => h a s2 (S2.tell (c' := IsTT ss) .head λ o _ ho => ⟨vs, hv, ho⟩)
end
section
variable {W : Wd} {G : Gens} {env : Env} {loc : Loc} {nw nw' : Ledger} {s : Shared} {A : Around} {E : Value -> Shared -> Prop}
end
theorem TxtsAre.two {vs : List Value} {x y : Str} (h : TxtsAre vs [x, y]) : ∃ t u, vs = [.str x t, .str y u] := by
 cases h with | cons _ t h =>
 cases h with | cons _ u h =>
 cases h
 exact ⟨t, u, rfl⟩
theorem isTT1 {x : Str} {o : Obj} (h : IsTT [x] o) : ∃ t, aAo [.str x t] o := by
 obtain ⟨vs, hv, ho⟩ := h
 cases hv with | cons _ t hv =>
 cases hv
 exact ⟨t, ho⟩
theorem aJi {x y z : Str} {o : Obj} (h : IsTT [x, y, z] o) : ∃ t u v, aAo [.str x t, .str y u, .str z v] o := by
 obtain ⟨vs, hv, ho⟩ := h
 cases hv with | cons _ t hv =>
 cases hv with | cons _ u hv =>
 cases hv with | cons _ v hv =>
 cases hv
 exact ⟨t, u, v, ho⟩
end Mine
end
section
namespace Mine
theorem aC0 {α : Type} {xs dn rest rest' : List α} {x : α} (h : xs = dn ++ x :: rest) (e : xs = (dn ++ [x]) ++ rest') : rest = rest' := by
 rw [h, List.append_assoc] at e
 exact (List.cons.inj (List.append_cancel_left e)).2
theorem aIl {W : Wd} {G : Gens} {env : Env} {sh : Ledger} {A : Around} {α ρ : Type} {it : Addr} {R : Result -> Shared -> Prop} {xs : List α} {own : Ledger} {og : Gens} {s : Shared} {kx vx target : Expr} {gens : List Comprehension} {scope : Scope} {pos p : Pos} {d : Nat} {body : Sem Unit} {acc : Value} {f : α -> Tok -> Value} (hA : Aok 7 A) (L : ρ -> List α -> Loc) (N : ρ -> List α -> Ledger) (H : ρ -> List α -> Prop)
  (hT : compTurn (.DictComp kx vx gens scope pos) d (.ref it) acc env = (standAt p >>= λ _ => pyNext (.ref it) >>= λ r => match r with
   | none => pure (.done .next)
   | some v => letOwnedTupleGo target (.ref it) v >>= λ _ => assign target env v >>= λ _ => body >>= λ _ => again (.compLoop (.DictComp kx vx gens scope pos) d (.ref it) acc env)))
  (hy : YieldsR W sh it (λ x v => ∃ t, v = f x t) xs own og) (r0 : ρ) (h0 : H r0 []) (S : Sta W (G ++ og) env (L r0 []) (N r0 [] ++ (sh ++ own)) s) (fin : ∀ r s, H r xs -> Sta W G env (L r xs) (N r xs ++ sh) s -> R (.ok .next) s)
  (turn : ∀ x dn rest t tl tg r s (K : Shared -> Prop), xs = dn ++ x :: rest -> H r dn -> Sta W (G ++ tg) env (L r dn) (N r dn ++ (sh ++ tl)) s -> (∀ r' s', H r' (dn ++ [x]) -> Sta W (G ++ tg) env (L r' (dn ++ [x])) (N r' (dn ++ [x]) ++ (sh ++ tl)) s' -> K s') -> wpAny (model W.prog W.w) A (assign target env (f x t)) (λ _ s₂ => wpAny (model W.prog W.w) A body (λ _ s₃ => K s₃) (λ _ _ => False) s₂) (λ _ _ => False) s) :
  codeAny (model W.prog W.w) A (.compLoop (.DictComp kx vx gens scope pos) d (.ref it) acc env) R s := by
 refine aJE hA hT (aHO G xs L N H) ?_ ?_ S hy ⟨rfl, [], r0, rfl, h0, rfl, rfl⟩
 ·intro x v rest tl tg loc nw G' s1 hp S1 hJ
  obtain ⟨t, rfl⟩ := hp
  obtain ⟨rfl, dn, r, hq, hH, rfl, rfl⟩ := hJ
  exact turn x dn rest t tl tg r s1 _ hq hH S1 λ r' s' h' S' => ⟨_, _, _, S', rfl, dn ++ [x], r', by rw [hq, List.append_assoc]; rfl, h', rfl, rfl⟩
 ·intro loc nw G' s1 S1 hJ
  obtain ⟨rfl, dn, r, hq, hH, rfl, rfl⟩ := hJ
  rw [List.append_nil] at hq
  subst hq
  exact fin r s1 hH S1
end Mine
end
section
namespace Mine
noncomputable def fL (b : Bool) : Nat -> List Nat := if b then fA else fC
noncomputable def aFH (ls : List Bool) (c : Nat) : List Nat := ls.foldl (λ acc b => acc.flatMap (fL b)) [c]
theorem aE6 (ls : List Bool) (b : Bool) (c : Nat) : aFH (ls ++ [b]) c = (aFH ls c).flatMap (fL b) := by simp [aFH, List.foldl_append]
noncomputable def aE7 (ls : List Bool) (x : Str) : Str := mapS (aFH ls) x
theorem aGP (x : Str) : aE7 [] x = x := aJe x
theorem aGb (ls : List Bool) (b : Bool) (x : Str) : aE7 (ls ++ [b]) x = mapS (fL b) (aE7 ls x) := by
 unfold aE7
 rw [aAT]
 congr 1
 funext c
 exact aE6 ls b c
end Mine
end
section
namespace Mine
structure Rc where
 x : Str
 o : List Bool
 n : Nat
noncomputable def rcTx (cs : List Bool) (r : Rc) : Str := aE7 (r.o ++ cs.drop r.n) r.x
noncomputable def aEx (cs : List Bool) (rs : List Rc) : Str := cat (rs.map (rcTx cs))
theorem aCJ (cs : List Bool) (a b : List Rc) : aEx cs (a ++ b) = aEx cs a ++ aEx cs b := by simp [aEx, aAR]
theorem aH1 (cs : List Bool) (x : Str) (o : List Bool) : rcTx cs ⟨x, o, cs.length⟩ = aE7 o x := by
 unfold rcTx
 simp
theorem aGO (b : Bool) (x : Str) : aE7 [b] x = mapS (fL b) x := by
 have := aGb [] b x
 rw [aGP] at this
 exact this
theorem rc1c (cs : List Bool) (x : Str) : aEx cs [⟨x, [false], cs.length⟩] = escC x := by
 unfold aEx
 simp only [List.map_cons, List.map_nil, aH1, aGO]
 exact Str.append_empty _
noncomputable def fl0 (held : List Str) : List Str := if (cat held).length = 0 then [] else [escC (cat held)]
theorem aJF (held : List Str) : cat (fl0 held) = escC (cat held) := by
 unfold fl0
 split
 ·rename_i h
  have : cat held = Str.empty := Str.ext' (List.length_eq_zero_iff.mp (by rw [← Str.len_list]; exact h))
  rw [this]; rfl
 ·exact Str.append_empty _
theorem aFt (a b : Str) : escC (a ++ b) = escC a ++ escC b := aFh _ _ _
noncomputable def wtx (σ held : List Str) : Str := cat σ ++ escC (cat held)
theorem aHR (σ held ms : List Str) : wtx (σ ++ (fl0 held ++ ms)) [] = wtx σ held ++ cat ms := by
 unfold wtx
 rw [aAR, aAR, aJF]
 show _ ++ escC Str.empty = _
 have : escC Str.empty = Str.empty := rfl
 rw [this, Str.append_empty, Str.append_assoc]
theorem aHS (σ held : List Str) (x : Str) : wtx σ (held ++ [x]) = wtx σ held ++ escC x := by
 unfold wtx
 rw [aAR, aFt]
 have : cat [x] = x := Str.append_empty _
 rw [this, Str.append_assoc]
end Mine
namespace Mine
noncomputable def Inv (cs : List Bool) (σ held : List Str) (rs : List Rc) : Prop := wtx σ held = aEx cs rs /\ ∀ r ∈ rs, r.n <= cs.length /\ r.o.length <= 1
theorem Inv.mark {cs : List Bool} {σ held : List Str} {rs : List Rc} (h : Inv cs σ held rs) (ms : List Str) (new : List Rc) (h1 : aEx cs new = cat ms) (h2 : ∀ r ∈ new, r.n <= cs.length /\ r.o.length <= 1) : Inv cs (σ ++ (fl0 held ++ ms)) [] (rs ++ new) := by
 refine ⟨?_, λ r hr => ?_⟩
 ·rw [aHR, h.1, aCJ, h1]
 ·rcases List.mem_append.mp hr with hr | hr
  ·exact h.2 r hr
  ·exact h2 r hr
theorem Inv.data {cs : List Bool} {σ held : List Str} {rs : List Rc} (h : Inv cs σ held rs) (x : Str) : Inv cs σ (held ++ [x]) (rs ++ [⟨x, [false], cs.length⟩]) := by
 refine ⟨?_, λ r hr => ?_⟩
 ·rw [aHS, h.1, aCJ, rc1c]
 ·rcases List.mem_append.mp hr with hr | hr
  ·exact h.2 r hr
  ·rw [List.mem_singleton.mp hr]; exact ⟨Nat.le_refl _, Nat.le_refl _⟩
end Mine
end
section
namespace Mine
inductive Dc
 | nil
 | txt (x : Str) (r : Dc)
 | node (k : Nat) (d r : Dc)
noncomputable def opn : Nat -> Str
 | 0 => "<t>"
 | 1 => "<v k=\""
 | 2 => "<!--"
 | _ => "<?p "
open PySem.Builtin.Str in
theorem aGH {x y : Str} {i : Nat} (h : subAt x y i = true) (j : Nat) (hj : j < y.length) : x.cps.toList[i + j]? = y.cps.toList[j]? := by
 unfold subAt at h
 have e : (x.cps.extract i (i + y.length)).toList = y.cps.toList := by rw [eq_of_beq h]
 rw [← e]
 simp only [Array.toList_extract, List.extract_eq_drop_take]
 rw [List.getElem?_take, List.getElem?_drop]
 rw [if_pos (by omega)]
open PySem.Builtin.Str in
theorem aGG {x y : Str} {A R : List Nat} (hx : x.cps.toList = A ++ (y.cps.toList ++ R)) : subAt x y A.length = true := by
 unfold subAt
 rw [beq_iff_eq]
 apply Array.toList_inj.mp
 simp only [Array.toList_extract, List.extract_eq_drop_take]
 rw [hx, List.drop_left, Str.len_list]
 simp
open PySem.Builtin.Str in
theorem aJz {x y : Str} {A R : List Nat} (hx : x.cps.toList = A ++ (y.cps.toList ++ R)) (h : ∀ i < A.length, ∃ j, j < y.length /\ (A ++ (y.cps.toList ++ R))[i + j]? ≠ y.cps.toList[j]?) : occurrences x y 0 x.length 1 = [A.length] := by
 have hl : A.length + y.length <= x.length := by
  rw [Str.len_list x, hx, Str.len_list y]
  simp
 have hat : StrLaws.At x y x.length A.length := ⟨hl, aGG hx⟩
 rcases StrLaws.occ_head x y 1 (Nat.le_refl 1) with ⟨h0, hn⟩ | ⟨i, r, he, ha, hn⟩
 ·exact absurd hat (hn _)
 ·have hi : i = A.length := by
   rcases Nat.lt_trichotomy i A.length with hlt | e | hgt
   ·obtain ⟨j, hj, hne⟩ := h i hlt
    have := aGH ha.2 j hj
    rw [hx] at this
    exact absurd this hne
   ·exact e
   ·exact absurd hat (hn _ hgt)
  have hle := StrLaws.occ_length_le x y 0 x.length 1
  rw [he] at hle ⊢
  cases r with
  | nil => rw [hi]
  | cons a b => simp at hle
end Mine
end
section
namespace Mine
open PySem.Builtin.Str in
theorem aHv {x y : Str} {A R m : List Nat} {c : Nat} (hx : x.cps.toList = A ++ (y.cps.toList ++ R)) (hy : y.cps.toList = m ++ [c]) (hm : c ∉ m) (hA : ∀ i, m.length <= i -> A[i]? ≠ some c) : occurrences x y 0 x.length 1 = [A.length] := by
 have hyl : y.length = m.length + 1 := by rw [Str.len_list, hy]; simp
 refine aJz hx λ i hi => ⟨m.length, by omega, ?_⟩
 rw [hy, List.getElem?_append_right (Nat.le_refl _), Nat.sub_self]
 show _ ≠ some c
 by_cases h : i + m.length < A.length
 ·rw [List.getElem?_append_left h]
  exact hA _ (by omega)
 ·rw [List.getElem?_append_right (by omega), List.append_assoc, List.getElem?_append_left (by omega)]
  intro e
  exact hm (List.mem_of_getElem? e)
theorem aHx {x : Str} {c : Nat} (h : c = 60 \/ c = 62 \/ c = 13) : c ∉ (escC x).cps.toList := by
 intro m
 rw [show (escC x).cps.toList = x.cps.toList.flatMap fC from rfl] at m
 obtain ⟨d, _, hd⟩ := List.mem_flatMap.mp m
 unfold fC at hd
 rcases h with rfl | rfl | rfl <;> (repeat' split at hd) <;> simp at hd <;> omega
theorem aIe {l : List Nat} {c : Nat} (h : c ∉ l) (i : Nat) : l[i]? ≠ some c := λ e => h (List.mem_of_getElem? e)
end Mine
end
section
namespace Mine
theorem aIC {c : Nat} : ∀ {a b x y : List Nat}, c ∉ a -> c ∉ b -> a ++ c :: x = b ++ c :: y -> a = b /\ x = y
 | [], [], _, _, _, _, h => ⟨rfl, by simpa using h⟩
 | [], d :: b, _, _, _, hb, h => by
  simp at h
  exact absurd (by rw [h.1]; exact .head _) hb
 | d :: a, [], _, _, ha, _, h => by
  simp at h
  exact absurd (by rw [← h.1]; exact .head _) ha
 | d :: a, e :: b, x, y, ha, hb, h => by
  simp at h
  obtain ⟨rfl, h⟩ := h
  have := aIC (λ m => ha (.tail _ m)) (λ m => hb (.tail _ m)) h
  exact ⟨by rw [this.1], this.2⟩
theorem aBn (c : Nat) (p q : Str) (r : List Str) : (Str.join ⟨#[c]⟩ (p :: q :: r)).cps.toList = p.cps.toList ++ c :: (Str.join ⟨#[c]⟩ (q :: r)).cps.toList := by
 show (p ++ ⟨#[c]⟩ ++ Str.join ⟨#[c]⟩ (q :: r)).cps.toList = _
 simp [Str.cps_append]
theorem aFV (c : Nat) : ∀ (P Q : List Str), P ≠ [] -> Q ≠ [] -> (∀ p ∈ P, c ∉ p.cps.toList) -> (∀ p ∈ Q, c ∉ p.cps.toList) -> (Str.join ⟨#[c]⟩ P).cps.toList = (Str.join ⟨#[c]⟩ Q).cps.toList -> P = Q
 | [], _, h, _, _, _, _ => absurd rfl h
 | _ :: _, [], _, h, _, _, _ => absurd rfl h
 | [p], [q], _, _, _, _, e => by rw [Str.ext' (show p.cps.toList = q.cps.toList from e)]
 | [p], q :: q2 :: r, _, _, hp, _, e => by
  rw [aBn] at e
  have e : p.cps.toList = q.cps.toList ++ c :: (Str.join ⟨#[c]⟩ (q2 :: r)).cps.toList := e
  exact absurd (by rw [e]; simp) (hp p (.head _))
 | p :: p2 :: r, [q], _, _, _, hq, e => by
  rw [aBn] at e
  have e : p.cps.toList ++ c :: (Str.join ⟨#[c]⟩ (p2 :: r)).cps.toList = q.cps.toList := e
  exact absurd (by rw [← e]; simp) (hq q (.head _))
 | p :: p2 :: r, q :: q2 :: r', _, _, hp, hq, e => by
  rw [aBn, aBn] at e
  have h := aIC (hp p (.head _)) (hq q (.head _)) e
  rw [Str.ext' h.1, aFV c (p2 :: r) (q2 :: r') (by simp) (by simp) (λ x hx => hp x (.tail _ hx)) (λ x hx => hq x (.tail _ hx)) h.2]
noncomputable def sS (l : List Nat) : Str := ⟨l.toArray⟩
end Mine
end
section
namespace Mine
end Mine
end
section
namespace Mine
noncomputable def raw : Dc -> Nat
 | .nil => 0
 | .txt x r => x.length + raw r
 | .node _ d r => 20 + raw d + raw r
end Mine
end
section
namespace Mine
theorem aHY {x : Str} {A B : List Nat} {j : Int} (hx : x.cps.toList = A ++ B) (hj : j = (A.length : Int)) : Txt.slice x none (some j) = sS A := by
 have h := StrLaws.sliceText_to (x := x) (j := j) (by rw [hx, List.length_append]; omega)
 have e : Txt.slice x none (some j) = StrLaws.sliceText x none (some j) := rfl
 rw [e, h, hx, hj]
 simp [sS]
theorem aHZ {x : Str} {A B : List Nat} {j : Int} (hx : x.cps.toList = A ++ B) (hj : j = (A.length : Int)) : Txt.slice x (some j) none = sS B := by
 have h := StrLaws.sliceText_from (x := x) (i := j) (by rw [hx, List.length_append]; omega)
 have e : Txt.slice x (some j) none = StrLaws.sliceText x (some j) none := rfl
 have e2 : (((A ++ B).length : Int) - (A.length : Int)).toNat = B.length := by rw [List.length_append]; omega
 rw [e, h, hx, hj, e2]
 simp [sS]
theorem aGT (x : Str) : sS x.cps.toList = x := Str.ext' rfl
end Mine
end
section
open PySem.Builtin.Str (occurrences)
namespace Mine
theorem aFG (x y : Str) : Txt.split x y ≠ [] := by
 intro h
 unfold Txt.split at h
 split at h
 ·cases h
 ·split at h
  ·cases h
  ·rw [StrLaws.partsBetween_eq] at h
   obtain ⟨p, r, h2⟩ := StrLaws.partsFrom_ne x y.length 0 (PySem.Builtin.Str.occurrences x y 0 x.length (x.length + 1))
   rw [h2] at h; cases h
theorem aCs {c : Nat} {P : List Str} (h0 : P ≠ []) (h : ∀ p ∈ P, c ∉ p.cps.toList) : Txt.split (Str.join ⟨#[c]⟩ P) ⟨#[c]⟩ = P :=
 aFV c _ _ (aFG _ _) h0 (StrLaws.split_free _ c) h (by rw [StrLaws.join_split])
theorem aE5 {x : Str} {c : Nat} (h : c ∉ x.cps.toList) : Txt.split x ⟨#[c]⟩ = [x] :=
 aCs (P := [x]) (by simp) (by simpa using h)
theorem aGM {x a b : Str} {c : Nat} (hx : x.cps.toList = a.cps.toList ++ c :: b.cps.toList) (ha : c ∉ a.cps.toList) (hb : c ∉ b.cps.toList) : Txt.split x ⟨#[c]⟩ = [a, b] := by
 have e : x = Str.join ⟨#[c]⟩ [a, b] := Str.ext' (by rw [aBn, hx]; rfl)
 rw [e]
 exact aCs (by simp) (by simp only [List.mem_cons, List.not_mem_nil, or_false]; rintro p (rfl | rfl) <;> assumption)
theorem aHt {x : Str} {A B : List Nat} {c : Nat} (hx : x.cps.toList = A ++ c :: B) (hA : c ∉ A) : occurrences x ⟨#[c]⟩ 0 x.length 1 = [A.length] :=
 aHv (m := []) (c := c) (R := B) (by rw [hx]; simp) rfl (by simp) λ i _ => aIe hA i
theorem aG9 {c : Nat} : ∀ {l : List Str}, c ∈ (cat l).cps.toList -> ∃ x ∈ l, c ∈ x.cps.toList
 | [], h => by cases h
 | x :: r, h => by
  have h : c ∈ (x ++ cat r).cps.toList := h
  simp [Str.cps_append] at h
  rcases h with h | h
  ·exact ⟨x, .head _, by simpa using h⟩
  ·obtain ⟨y, hy, hc⟩ := aG9 (l := r) (by simpa using h)
   exact ⟨y, .tail _ hy, hc⟩
theorem aFP {c d : Nat} : ∀ {l : List Str}, c ∈ (Str.join ⟨#[d]⟩ l).cps.toList -> c = d \/ ∃ x ∈ l, c ∈ x.cps.toList
 | [], h => by cases h
 | [x], h => .inr ⟨x, .head _, h⟩
 | x :: y :: r, h => by
  rw [aBn] at h
  rcases List.mem_append.mp h with h | h
  ·exact .inr ⟨x, .head _, h⟩
  ·rcases List.mem_cons.mp h with h | h
   ·exact .inl h
   ·rcases aFP h with h | ⟨z, hz, hc⟩
    ·exact .inl h
    ·exact .inr ⟨z, .tail _ hz, hc⟩
theorem aAI (a b : Str) : (a ++ b).cps.toList = a.cps.toList ++ b.cps.toList := by simp [Str.cps_append]
theorem aCy (c : Nat) : ∀ (x : Str) (r : List Str), (Str.join ⟨#[c]⟩ (x :: r)).cps.toList = x.cps.toList ++ r.flatMap λ y => c :: y.cps.toList
 | x, [] => (List.append_nil _).symm
 | x, y :: r => by rw [aBn, aCy c y r]; rfl
theorem aCo : ∀ l : List Str, (cat l).cps.toList = l.flatMap λ y => y.cps.toList
 | [] => rfl
 | x :: r => by show (x ++ cat r).cps.toList = _; rw [aAI, aCo r]; rfl
end Mine
end
section
namespace Mine
local macro_rules | `(tactic| walk_at $s:str) => Mine.goAt Mine.tab10 s
variable {W : Wd} {G : Gens} {env : Env} {loc loc' : Loc} {nw nw' : Ledger} {s : Shared} {A : Around} {E : Value -> Shared -> Prop}
section
section
theorem aBX {x y z : Str} {t : Tok} {c : Nat} {k1 k2 k3 : Nat} {p1 p2 p3 p4 p5 p6 p7 p8 p9 p10 p11 : Pos} {Q : Flow -> Shared -> Prop} (S' : Sta W G env [("text", some (.str x t))] nw s) (hy : y = ⟨#[c]⟩) (hyz : (y == z) = false) (hx : x.length <= 6 * txtLine) (hz : z.length <= 6) (hl : (p6.endLine == p9.line) = true)
  (k : ∀ t' s', Sta W G env [("text", some (.str (mapS (r1 c z.cps.toList) x) t'))] nw s' -> Q .next s') :
  wpAny (model W.prog W.w) A (exec (.If (.Compare (.Constant (.str y) k1 p1) [.In] [.Name "text" p2] p3) [.Assign [.Name "text" p4] (.Call (.Attribute (.Name "text" p5) "replace" p6) [.Constant (.str y) k2 p7, .Constant (.str z) k3 p8] [] p9) p10] [] p11) env) Q E s := by
 refine wpAny_If ?_
 refine wpAny_isTrue_Compare1 ?_ rfl
 refine S'.strT ?_
 clear S'; intro s' S' hk
 refine Sta.local_ S' (by walk_at "mem") ?_
 refine Sta.inStr hy (λ hc => ?_) (λ hc => ?_)
 ·refine wpAny_truthy_bool ?_
  refine aB3 ?_
  refine wpAny_execs_cons ?_
  refine wpAny_Assign_Name ?_ rfl
  refine aBD ?_ rfl rfl hl
  refine Sta.local_ S' (by walk_at "mem") ?_
  refine aEc ?_
  refine aA1 ?_ rfl rfl
  refine args_cons ?_ rfl
  refine S'.strT ?_
  clear S'; intro s2 S' hk2
  refine args_cons ?_ rfl
  refine S'.strT ?_
  clear S'; intro s3 S' hk3
  refine args_nil ?_
  refine S'.replace_ hy ?_ ?_ ?_ hyz hx hz ?_
  ·show s'.toks ≠ 0; omega
  ·show s2.toks ≠ 0; omega
  ·show s'.toks ≠ s2.toks; omega
  clear S'; intro t' s4 S'
  refine S'.store .head ?_
  intro s5 S5
  exact wpAny_execs_nil (k _ _ S5)
 ·refine wpAny_truthy_bool ?_
  refine aBt ?_
  refine wpAny_execs_nil (k t _ ?_)
  rw [aHb hc]; exact S'
theorem escC_ {x : Str} {t : Tok} {Q : Value -> Shared -> Prop} (I : IsC W) (S : Sta W G env loc nw s) (hA : Aok 2 A) (hx : x.length <= txtLine)
  (k : ∀ t' s', Sta W G env loc nw s' -> Q (.str (escC x) t') s') : wpAny (model W.prog W.w) A (call (.ref 161) [.str x t]) Q E s := by
 refine S.call_fn (binds := [("text", .str x t)]) [] I.f_escC hA.room (λ _ _ _ _ _ => BindsTo.of_eq (by kernel_rfl)) (by kernel_rfl) ?_
 intro L s' S'
 refine wpAny_execs_cons ?_
 refine wpAny_Try_except ?_
 refine wpAny_execs_cons ?_
 refine aBX (c := 38) S' (by kernel_rfl) (by decide +kernel) (by omega) (by decide +kernel) (by kernel_rfl) ?_
 clear S'; intro t1 s' S'
 refine wpAny_execs_cons ?_
 refine aBX (c := 60) S' (by kernel_rfl) (by decide +kernel) ?_ (by decide +kernel) (by kernel_rfl) ?_
 ·exact Nat.le_trans (aA4 _ 6 aHp x) (Nat.mul_le_mul_left _ hx)
 clear S'; intro t1 s' S'
 rw [aAT] at S'
 refine wpAny_execs_cons ?_
 refine aBX (c := 62) S' (by kernel_rfl) (by decide +kernel) ?_ (by decide +kernel) (by kernel_rfl) ?_
 ·exact Nat.le_trans (aA4 _ 6 aHn x) (Nat.mul_le_mul_left _ hx)
 clear S'; intro t1 s' S'
 rw [aAT] at S'
 refine wpAny_execs_cons ?_
 refine aBX (c := 13) S' (by kernel_rfl) (by decide +kernel) ?_ (by decide +kernel) (by kernel_rfl) ?_
 ·exact Nat.le_trans (aA4 _ 6 aJo x) (Nat.mul_le_mul_left _ hx)
 clear S'; intro t1 s' S'
 rw [aAT] at S'
 repeat walk_at "ev"
 have e : mapS (λ c => gC4 c) x = escC x := by
  have : (λ c => gC4 c) = fC := funext gC4_eq
  rw [this]; rfl
 have S2 := Sta.back S' S.eok
 have q := k t1 _ S2
 rw [← e] at q
 exact q
theorem escA_ {x : Str} {t : Tok} {Q : Value -> Shared -> Prop} (I : IsC W) (S : Sta W G env loc nw s) (hA : Aok 2 A) (hx : x.length <= txtLine)
  (k : ∀ t' s', Sta W G env loc nw s' -> Q (.str (escA x) t') s') : wpAny (model W.prog W.w) A (call (.ref 168) [.str x t]) Q E s := by
 refine S.call_fn (binds := [("text", .str x t)]) [] I.f_escA hA.room (λ _ _ _ _ _ => BindsTo.of_eq (by kernel_rfl)) (by kernel_rfl) ?_
 intro L s' S'
 refine wpAny_execs_cons ?_
 refine wpAny_Try_except ?_
 refine wpAny_execs_cons ?_
 refine aBX (c := 38) S' (by kernel_rfl) (by decide +kernel) (by omega) (by decide +kernel) (by kernel_rfl) ?_
 clear S'; intro t1 s' S'
 refine wpAny_execs_cons ?_
 refine aBX (c := 60) S' (by kernel_rfl) (by decide +kernel) ?_ (by decide +kernel) (by kernel_rfl) ?_
 ·exact Nat.le_trans (aA4 _ 6 aHp x) (Nat.mul_le_mul_left _ hx)
 clear S'; intro t1 s' S'
 rw [aAT] at S'
 refine wpAny_execs_cons ?_
 refine aBX (c := 34) S' (by kernel_rfl) (by decide +kernel) ?_ (by decide +kernel) (by kernel_rfl) ?_
 ·exact Nat.le_trans (aA4 _ 6 aHn x) (Nat.mul_le_mul_left _ hx)
 clear S'; intro t1 s' S'
 rw [aAT] at S'
 refine wpAny_execs_cons ?_
 refine aBX (c := 9) S' (by kernel_rfl) (by decide +kernel) ?_ (by decide +kernel) (by kernel_rfl) ?_
 ·exact Nat.le_trans (aA4 _ 6 aJr x) (Nat.mul_le_mul_left _ hx)
 clear S'; intro t1 s' S'
 rw [aAT] at S'
 refine wpAny_execs_cons ?_
 refine aBX (c := 10) S' (by kernel_rfl) (by decide +kernel) ?_ (by decide +kernel) (by kernel_rfl) ?_
 ·exact Nat.le_trans (aA4 _ 6 aJq x) (Nat.mul_le_mul_left _ hx)
 clear S'; intro t1 s' S'
 rw [aAT] at S'
 refine wpAny_execs_cons ?_
 refine aBX (c := 13) S' (by kernel_rfl) (by decide +kernel) ?_ (by decide +kernel) (by kernel_rfl) ?_
 ·exact Nat.le_trans (aA4 _ 6 aJp x) (Nat.mul_le_mul_left _ hx)
 clear S'; intro t1 s' S'
 rw [aAT] at S'
 repeat walk_at "ev"
 have e : mapS (λ c => gA6 c) x = escA x := by
  have : (λ c => gA6 c) = fA := funext gA6_eq
  rw [this]; rfl
 have S2 := Sta.back S' S.eok
 have q := k t1 _ S2
 rw [← e] at q
 exact q
end
end
section
section
theorem aH3 {α : Type} {R sh : List α} {p : α} : List.Perm (p :: (R ++ sh)) (R ++ (sh ++ [p])) := by
 rw [← List.append_assoc]
 exact (List.perm_append_comm (l₁ := [p]) (l₂ := R ++ sh))
theorem aGk (lv : List (Addr × List Value)) : (lv.reverse.map λ p => Value.ref p.1) = ((lv.map λ p => Value.ref p.1).take (lv.map λ p => Value.ref p.1).length).reverse := by
 rw [List.take_length, List.map_reverse]
noncomputable abbrev aEL (x st : Addr) (rv : Value) : Loc := aAv [("self", .ref x), ("ns_stack", .ref st), ("_reversed", rv)] ["namespaces"]
noncomputable abbrev aEM (L : Addr) : Env := envOf "C14NWriterTarget._iter_namespaces" (aAc aDT) L 75 (.ref 74)
theorem good_ {L x st : Addr} {rv : Value} {sh : Ledger} (he : EnvOk (aEM L) ["self", "ns_stack", "_reversed", "namespaces"]) (ls : List (Addr × List Value)) (hls : ∀ p ∈ ls, (p.1, aAa p.2) ∈ sh /\ p.2.length <= sizeLine)
  (hrev : ∀ A R GR s, Aok 4 A -> Sta W GR (aEM L) (aEL x st rv) (R ++ sh) s -> ∀ Q E, (∀ rit own s', Sta W GR (aEM L) (aEL x st rv) (R ++ (sh ++ own)) s' -> LY W sh rit (ls.map λ p => .ref p.1) own -> Q (.ref rit) s') ->
   ∀ p2 p3 p4, wpAny (model W.prog W.w) A (eval (.Call (.Name "_reversed" p2) [.Name "ns_stack" p3] [] p4) (aEM L)) (λ x s₁ => wpAny (model W.prog W.w) A (pyIter x) Q E s₁) E s) :
  aCF W sh (ls.flatMap (·.2)) (.fresh (.func (aAm aDT) (aEM L))) [(L, IsNs (aEL x st rv))] := by
 refine aHi (nm := "namespaces") (rv := "_reversed") (sk := "ns_stack") (ks := ["self", "ns_stack", "_reversed", "namespaces"]) (by kernel_rfl) (by decide +kernel) (aEL x st rv) rfl he ls hls ?_
 intro A R GR s hA S Q E h
 exact hrev A R GR s hA S Q E h _ _ _
theorem rev_ {L x st : Addr} {sh : Ledger} {lv : List (Addr × List Value)} (hst : (st, aAa (lv.map λ p => .ref p.1)) ∈ sh) :
  ∀ A R GR s, Aok 4 A -> Sta W GR (aEM L) (aEL x st (.type "reversed")) (R ++ sh) s -> ∀ Q E, (∀ rit own s', Sta W GR (aEM L) (aEL x st (.type "reversed")) (R ++ (sh ++ own)) s' -> LY W sh rit (lv.reverse.map λ p => .ref p.1) own -> Q (.ref rit) s') ->
   ∀ p2 p3 p4, wpAny (model W.prog W.w) A (eval (.Call (.Name "_reversed" p2) [.Name "ns_stack" p3] [] p4) (aEM L)) (λ x s₁ => wpAny (model W.prog W.w) A (pyIter x) Q E s₁) E s := by
 intro A R GR s hA S' Q E h p2 p3 p4
 have hm : (st, aAa (lv.map λ p => .ref p.1)) ∈ R ++ sh := List.mem_append_right _ hst
 simp only [aEL, aAv, List.map_cons, List.map_nil, List.cons_append, List.nil_append] at S'
 repeat walk_at "ev"
 refine Sta.reversed S' hm ?_
 clear S'; intro it s' S'
 refine Sta.iterRev S' (by walk_at "mem") ?_
 refine h it [(it, IsRI st (((lv.map λ p => Value.ref p.1).length : Int) - 1))] _ (S'.perm aH3) ?_
 rw [aGk]
 exact aHc hst _ (Nat.le_refl _)
theorem aJn {x st : Addr} {lv : List (Addr × List Value)} {N sh : Ledger} {Q : Value -> Shared -> Prop} (I : IsC W) (S : Sta W G env loc (N ++ sh) s) (hA : Aok 1 A) (hst : (st, aAa (lv.map λ p => .ref p.1)) ∈ sh) (hlv : ∀ p ∈ lv, (p.1, aAa p.2) ∈ sh /\ p.2.length <= sizeLine)
  (h : ∀ a g own gs s', Sta W (G ++ [(g, gs)]) env loc (N ++ (sh ++ (own ++ [(a, aAL g)]))) s' -> aAW W sh a (lv.reverse.flatMap (·.2)) (own ++ [(a, aAL g)]) [(g, gs)] -> Q (.ref a) s') :
  wpAny (model W.prog W.w) A (call (.ref 75) [.ref x, .ref st]) Q E s := by
 refine S.call_gen (binds := [("self", .ref x), ("ns_stack", .ref st), ("_reversed", .type "reversed")]) ["namespaces"] I.f_iter hA.room ?_ (by kernel_rfl) ?_
 ·intro name doc pm ct an
  exact kp_binds S.kin λ S => by rw [I.k]; kernel_rfl
 intro a g L s' he S'
 have H := good_ (W := W) (x := x) (st := st) (rv := .type "reversed") (sh := sh) he lv.reverse (λ p hp => hlv p (List.mem_reverse.mp hp)) (rev_ hst)
 refine h a g [(L, IsNs (aEL x st (.type "reversed")))] _ s' (S'.perm ?_) (aDw H)
 show List.Perm ((a, aAL g) :: (L, IsNs _) :: (N ++ sh)) (N ++ (sh ++ [(L, IsNs _), (a, aAL g)]))
 rw [← List.append_assoc]
 exact (List.Perm.swap ..).trans (List.perm_append_comm (l₁ := [_, _]) (l₂ := N ++ sh))
theorem Sta.iterGen {a : Addr} {g : Nat} {Q : Value -> Shared -> Prop} (S : Sta W G env loc nw s) (m : (a, aAL g) ∈ nw) (h : Q (.ref a) s) : wpAny (model W.prog W.w) A (pyIter (.ref a)) Q E s := by
 obtain ⟨o, ho, nm, qn, rfl⟩ := S.get m
 exact wpAny_pyIter_gen ⟨_, nm, qn, ho, rfl, rfl, rfl⟩ h
end
end
section
noncomputable abbrev NsP := Str × Str
noncomputable def IsPr (q : NsP) : Cell := λ o => ∃ t u, aAo [.str q.1 t, .str q.2 u] o
structure Lv where
 a : Addr
 ps : List (Addr × NsP)
noncomputable def Lv.val (l : Lv) : List NsP := l.ps.map (·.2)
noncomputable def aAg (ps : List (Addr × NsP)) : Ledger := ps.map λ q => (q.1, IsPr q.2)
noncomputable def aAd (ps : List (Addr × NsP)) : List Value := ps.map λ q => .ref q.1
noncomputable def aAr : List Lv -> Ledger
 | [] => []
 | l :: r => (l.a, aAa (aAd l.ps)) :: (aAg l.ps ++ aAr r)
noncomputable def aAk (ls : List Lv) : List Value := ls.map λ l => .ref l.a
noncomputable def lvPs (ls : List Lv) : List (Addr × NsP) := ls.reverse.flatMap (·.ps)
noncomputable def flat (ls : List (List NsP)) : List NsP := ls.reverse.flatten
theorem aCV (ls : List Lv) : (lvPs ls).map (·.2) = flat (ls.map Lv.val) := by
 unfold lvPs flat
 rw [List.map_flatMap, ← List.map_reverse, List.flatten_eq_flatMap, List.flatMap_map]
 rfl
theorem lv_pr {l : Lv} {q : Addr × NsP} (hq : q ∈ l.ps) : ∀ {ls : List Lv}, l ∈ ls -> (q.1, IsPr q.2) ∈ aAr ls
 | m :: r, h => by
  rcases List.mem_cons.mp h with rfl | h
  ·exact .tail _ (List.mem_append_left _ (List.mem_map.mpr ⟨q, hq, rfl⟩))
  ·exact .tail _ (List.mem_append_right _ (lv_pr hq h))
theorem aFS {ls : List Lv} {q : Addr × NsP} (h : q ∈ lvPs ls) : (q.1, IsPr q.2) ∈ aAr ls := by
 obtain ⟨l, hl, hq⟩ := List.mem_flatMap.mp h
 exact lv_pr hq (List.mem_reverse.mp hl)
theorem aDD {ls : List Lv} {l : Lv} (h : l ∈ ls) : (l.a, aAa (aAd l.ps)) ∈ aAr ls := by
 induction ls with
 | nil => cases h
 | cons m r ih =>
  rcases List.mem_cons.mp h with rfl | h
  ·exact .head _
  ·exact .tail _ (List.mem_append_right _ (ih h))
theorem aAD : ∀ a b : List Lv, aAr (a ++ b) = aAr a ++ aAr b
 | [], _ => rfl
 | l :: r, b => by
  show (l.a, aAa (aAd l.ps)) :: (aAg l.ps ++ aAr (r ++ b)) = _
  rw [aAD r b]
  show _ = (l.a, aAa (aAd l.ps)) :: ((aAg l.ps ++ aAr r) ++ aAr b)
  rw [List.append_assoc]
noncomputable def aA0 (q : Addr × NsP) : List Lv -> List Lv
 | [] => []
 | [l] => [⟨l.a, l.ps ++ [q]⟩]
 | l :: m :: r => l :: aA0 q (m :: r)
noncomputable def aA7 (q : NsP) : List (List NsP) -> List (List NsP)
 | [] => []
 | [l] => [l ++ [q]]
 | l :: m :: r => l :: aA7 q (m :: r)
theorem aBR (q : Addr × NsP) : ∀ ls : List Lv, (aA0 q ls).map Lv.val = aA7 q.2 (ls.map Lv.val)
 | [] => rfl
 | [l] => by simp [aA0, aA7, Lv.val]
 | l :: m :: r => by
  show l.val :: (aA0 q (m :: r)).map Lv.val = l.val :: aA7 q.2 ((m :: r).map Lv.val)
  rw [aBR q (m :: r)]
theorem aA8 (q : Addr × NsP) : ∀ ls : List Lv, aAk (aA0 q ls) = aAk ls
 | [] => rfl
 | [l] => rfl
 | l :: m :: r => by
  show Value.ref l.a :: aAk (aA0 q (m :: r)) = Value.ref l.a :: aAk (m :: r)
  rw [aA8 q (m :: r)]
theorem aGo (q : Addr × NsP) (ls : List Lv) (l : Lv) : aA0 q (ls ++ [l]) = ls ++ [⟨l.a, l.ps ++ [q]⟩] := by
 induction ls with
 | nil => rfl
 | cons m r ih =>
  cases r with
  | nil => rfl
  | cons k r => show m :: aA0 q (k :: (r ++ [l])) = _; rw [show k :: (r ++ [l]) = (k :: r) ++ [l] from rfl, ih]; rfl
theorem aCx (q : NsP) (ls : List (List NsP)) (l : List NsP) : aA7 q (ls ++ [l]) = ls ++ [l ++ [q]] := by
 induction ls with
 | nil => rfl
 | cons m r ih =>
  cases r with
  | nil => rfl
  | cons k r => show m :: aA7 q (k :: (r ++ [l])) = _; rw [show k :: (r ++ [l]) = (k :: r) ++ [l] from rfl, ih]; rfl
noncomputable def findN (u : Str) : List Str -> List NsP -> Option Str
 | _, [] => none
 | seen, (v, p) :: r => if v = u /\ p ∉ seen then some p else findN u (seen ++ [p]) r
noncomputable def txtQ (p l : Str) : Str := if p.length = 0 then l else p ++ ":" ++ l
section
variable {N : Ledger}
theorem Sta.openPr {p : Addr} {q : NsP} {c' : Cell} (S : Sta W G env loc nw s) (U : Upd p (IsPr q) c' nw nw') : ∃ t u nw1, Upd p (IsPr q) (aAo [.str q.1 t, .str q.2 u]) nw nw1 /\ Upd p (aAo [.str q.1 t, .str q.2 u]) c' nw1 nw' /\ Sta W G env loc nw1 s := by
 obtain ⟨o, ho, t, u, hc⟩ := S.get U.mem
 obtain ⟨nw1, U1, U2⟩ := U.via2 (aAo [.str q.1 t, .str q.2 u])
 exact ⟨t, u, nw1, U1, U2, S.tell U1 λ o' ho' _ => by rw [ho] at ho'; cases ho'; exact hc⟩
theorem Sta.unpackPr {elts : List Expr} {x1} {pos : Pos} {p : Addr} {v r : Str} {Q : Unit -> Shared -> Prop} (S : Sta W G env loc nw s) (hh : A.handled = none) (m : (p, IsPr (v, r)) ∈ nw) (hn : (assignEach elts env).length = 2) (hstar : (assignEach elts env).findIdx? (·.1) = none)
  (h : ∀ t u s', Sta W G env loc nw s' -> wpAny (model W.prog W.w) A (assignInOrder ((assignEach elts env).map (·.2)) [.str v t, .str r u]) Q E s') : wpAny (model W.prog W.w) A (assign (.Tuple elts x1 pos) env (.ref p)) Q E s := by
 obtain ⟨t, u, nw1, U1, U2, S1⟩ := S.openPr (aBk m)
 exact S1.unpackT hh U2.mem hn hstar λ s' S2 => h t u s' (S2.tell U2 λ o _ ho => ⟨t, u, ho⟩)
end
end
section
noncomputable abbrev aER (st : Stmt) : List Stmt := aAm st
noncomputable abbrev fTgt (st : Stmt) : Expr := stE st
noncomputable abbrev envQ (L : Addr) : Env := envOf "C14NWriterTarget._qname" (aAc aAO) L 90 (.ref 89)
noncomputable abbrev locQ (x : Addr) (qn : Str) (tq : Tok) (u : Str) (tu : Tok) (l : Str) (tl : Tok) (sp : Addr) (vu vp : Option Value) : Loc := [("self", some (.ref x)), ("qname", some (.str qn tq)), ("uri", some (.str u tu)), ("tag", some (.str l tl)), ("prefixes_seen", some (.ref sp)), ("u", vu), ("prefix", vp)]
noncomputable def qFor1 : Stmt := (aAm aAO).getD 2 (.Pass default)
noncomputable def qFor2 : Stmt := (aAm aAO).getD 5 (.Pass default)
noncomputable def aCE (q : NsP) : Prop := q.1.length <= 1000 /\ q.2.length <= 1000
structure Q1S where
 T : Str -> Bool
 n : Nat
 vu : Option Value
 vp : Option Value
section
variable {N : Ledger}
theorem qLoop1 {L ga x sp : Addr} {qn u l : Str} {tq tu tl : Tok} {xs : List (Addr × NsP)} {sh own : Ledger} {og : Gens} {R : Result -> Shared -> Prop} (hA : Aok 10 A) (hmem : ∀ q ∈ xs, (q.1, IsPr q.2) ∈ sh) (hlen : xs.length <= 100) (hsm : ∀ q ∈ xs, aCE q.2) (hl : l.length <= 1000)
  (S : Sta W (G ++ og) (envQ L) (locQ x qn tq u tu l tl sp none none) (((sp, IsSS W (λ _ => false) 0) :: N) ++ (sh ++ own)) s) (hy : YieldsR W sh ga (λ (q : Addr × NsP) v => v = .ref q.1) xs own og)
  (kf : ∀ p a t1 t2 t3 loc' s', findN u [] (xs.map (·.2)) = some p -> Sta W G (envQ L) loc' ((a, aAo [.str (txtQ p l) t1, .str l t2, .str u t3]) :: (N ++ sh)) s' -> R (.ok (.ret (.ref a))) s')
  (kn : ∀ vu vp T n s', findN u [] (xs.map (·.2)) = none -> (∀ k, T k = decide (k ∈ xs.map (·.2.2))) -> n <= xs.length -> Sta W G (envQ L) (locQ x qn tq u tu l tl sp vu vp) ((sp, IsSS W T n) :: (N ++ sh)) s' -> R (.ok .next) s')
  (tg : Expr) (body : List Stmt) (htg : tg = fTgt qFor1) (hbd : body = aER qFor1) : codeAny (model W.prog W.w) A (.forLoop tg (.ref ga) body [] (envQ L)) R s := by
 subst htg hbd
 refine aEO (sh := sh) (f := λ (q : Addr × NsP) => .ref q.1) (hA.le (by decide)) (λ (v : Q1S) _ => locQ x qn tq u tu l tl sp v.vu v.vp) (λ v _ => (sp, IsSS W v.T v.n) :: N) (λ v dn => (∀ k, v.T k = decide (k ∈ dn.map (·.2.2))) /\ v.n <= dn.length /\ ∀ rest, xs = dn ++ rest -> findN u (dn.map (·.2.2)) (rest.map (·.2)) = findN u [] (xs.map (·.2))) hy ⟨λ _ => false, 0, none, none⟩ ⟨λ k => by simp, Nat.le_refl 0, λ rest e => by rw [show xs = rest from e]; rfl⟩ S ?_ ?_
 rotate_left
 ·refine pr3 ?_
  intro qa qv qp dn rest tl' tg vw s1 K hx hH S' kk _ kret
  obtain ⟨hT, hn, hf⟩ := hH
  replace hf := hf _ hx
  clear S
  have hqx : (qa, qv, qp) ∈ xs := by rw [hx]; simp
  have hps : qp.length <= 1000 := (hsm _ hqx).2
  have hdl : dn.length + rest.length + 1 = xs.length := by rw [hx]; simp; omega
  have hsb : vw.n + 1 < scanBound := Nat.lt_of_le_of_lt (show vw.n + 1 <= 101 by omega) (by decide)
  have hsb0 : vw.n < scanBound := by omega
  have hmq : (qa, IsPr (qv, qp)) ∈ N ++ (sh ++ tl') := List.mem_append_right _ (List.mem_append_left _ (hmem _ hqx))
  walk_at "zd"
  simp only [List.cons_append] at S'
  refine Sta.unpackPr S' hA.handled (by walk_at "mem") (by kernel_rfl) (by kernel_rfl) ?_
  clear S'; intro t1 t2 s' S'
  refine assignInOrder_cons ?_
  refine assign_Name ?_
  walk_at "c"
  refine assignInOrder_cons ?_
  refine assign_Name ?_
  walk_at "c"
  refine assignInOrder_nil ?_
  refine aAs ?_
  walk_at "c"
  have hadd : (vw.T qp = true \/ qv ≠ u) -> findN u ((dn ++ [(qa, qv, qp)]).map (·.2.2)) (rest.map (·.2)) = findN u [] (xs.map (·.2)) := by
   intro hc
   rw [← hf, List.map_cons]
   show _ = (if qv = u /\ qp ∉ dn.map (·.2.2) then some qp else findN u (dn.map (·.2.2) ++ [qp]) (rest.map (·.2)))
   rw [if_neg]
   ·simp
   ·rintro ⟨h1, h2⟩
    rcases hc with hc | hc
    ·rw [hT] at hc; exact h2 (of_decide_eq_true hc)
    ·exact hc h1
  have hnext : ∀ s2, (vw.T qp = true \/ qv ≠ u) -> Sta W (G ++ tg) (envQ L) (locQ x qn tq u tu l tl sp (some (.str qv t1)) (some (.str qp t2))) ((sp, IsSS W (λ k => vw.T k || decide (k = qp)) (if vw.T qp then vw.n else vw.n + 1)) :: (N ++ (sh ++ tl'))) s2 ->
    K .next s2 := by
   intro s2 hc S2
   refine (kk ⟨λ k => vw.T k || decide (k = qp), _, _, _⟩ s2 ⟨λ k => ?_, ?_, λ rest' e => by rw [← aC0 hx e]; exact hadd hc⟩ S2).1
   ·show (vw.T k || decide (k = qp)) = _
    rw [hT, Bool.eq_iff_iff]
    simp only [Bool.or_eq_true, decide_eq_true_eq, List.map_append, List.mem_append, List.map_cons, List.map_nil, List.mem_singleton]
   ·show (if vw.T qp then vw.n else vw.n + 1) <= _
    rw [List.length_append, List.length_singleton]; split <;> omega
  refine eq_s (λ e => ?_) (λ e => ?_)
  ·subst e
   walk_at "c"
   cases hTp : vw.T qp with
   | true =>
    refine aBt ?_
    walk_at "c"
    refine hnext _ (.inl hTp) ?_
    rw [hTp] at S' ⊢
    exact S'
   | false =>
    have hfd : findN qv [] (xs.map (·.2)) = some qp := by
     rw [← hf, List.map_cons]
     show (if qv = qv /\ qp ∉ dn.map (·.2.2) then some qp else _) = _
     rw [if_pos]
     refine ⟨rfl, λ h => ?_⟩
     rw [hT] at hTp
     exact absurd h (of_decide_eq_false hTp)
    refine aB3 ?_
    walk_at "c"
    have hfin : ∀ a t1 t2 t3 loc2 s2, Sta W (G ++ tg) (envQ L) loc2 ((a, aAo [.str (txtQ qp l) t1, .str l t2, .str qv t3]) :: (sp, IsSS W vw.T vw.n) :: (N ++ (sh ++ tl'))) s2 -> K (.ret (.ref a)) s2 := by
     intro a t1 t2 t3 loc2 s2 S2
     refine kret _ _ ?_
     exact kf qp a t1 t2 t3 loc2 s2 hfd (S2.fewer.sel (Sel.rest ((sp, IsSS W vw.T vw.n) :: tl') (by walk_at "perm")))
    refine aBd S' (by omega) (λ h0 => ?_) (λ h0 => ?_)
    ·clear S'; intro s' S'
     have ht : txtQ qp l = l := if_pos h0
     rw [ht] at hfin
     walk_at "c"
     exact hfin _ _ _ _ _ _ S'
    ·clear S'; intro s' S'
     have ht : txtQ qp l = qp ++ ":" ++ l := if_neg h0
     have h1 : (":" : Str).length = 1 := by decide +kernel
     rw [ht] at hfin
     walk_at "c"
     rw [Str.empty_append] at S'
     exact hfin _ _ _ _ _ _ S'
  ·walk_at "c"
   refine hnext _ (.inr e) ?_
   exact S'
 ·intro vw s1 hH S1
  obtain ⟨hT, hn, hf⟩ := hH
  exact kn vw.vu vw.vp vw.T vw.n s1 (by rw [← hf [] (List.append_nil _).symm]; rfl) hT hn (S1.perm (by walk_at "perm"))
end
end
section
local macro_rules | `(tactic| walk_at $s:str) => Mine.goAt Mine.tabD s
section
local macro_rules | `(tactic| walk_at $s:str) => Mine.goAt Mine.tabF s
section
structure Wn where
 x : Addr
 dx : Addr
 d : Addr
 dns : Addr
 ns : Addr
 pm : Addr
 ps : Addr
structure Wc where
 com : Bool
 rw : Bool
 et : Value
structure Wm where
 held : List Str
 dl : List Lv
 nl : List Lv
 pm : List (Str × Str × Tok)
 ps : List Bool
 rs : Bool
 rd : Bool
 ig : Nat
 ti : Tok
noncomputable def pmV (l : List (Str × Str × Tok)) : List (Str × Value) := l.map λ p => (p.1, .str p.2.1 p.2.2)
noncomputable abbrev vvOf (w : Wn) (c : Wc) (q : Addr) (m : Wm) : Loc := VV (.ref q) (.ref w.d) (.bool c.com) (.bool false) .none c.et (.bool c.rw) .none .none (.ref w.dns) (.ref w.ns) (.ref w.pm) (.ref w.ps) .none (.bool m.rs) (.bool m.rd) (.int (m.ig : Int) m.ti)
noncomputable abbrev aAe (W : Wd) (w : Wn) (c : Wc) (q : Addr) (m : Wm) (N : Ledger) : Ledger :=
 (w.x, aAu 150 w.dx) :: (w.dx, aAl (vvOf w c q m)) :: (w.d, aAb m.held) :: (w.dns, aAa (aAk m.dl)) :: (w.ns, aAa (aAk m.nl)) :: (w.pm, IsD W w.pm (pmV m.pm)) :: (w.ps, aAa (m.ps.map .bool)) :: (aAr m.dl ++ (aAr m.nl ++ N))
theorem aBN (a b : List (Addr × NsP)) : aAg (a ++ b) = aAg a ++ aAg b := List.map_append
theorem aCK (a b : List (Addr × NsP)) : aAd (a ++ b) = aAd a ++ aAd b := List.map_append
theorem aBz (a : List Lv) (l : Lv) : (aAk (a ++ [l])).getLast? = some (.ref l.a) := by simp [aAk]
section
variable {N : Ledger}
theorem Sta.addPr {d0 : List Lv} {lv : Lv} {tup : Addr} {u p : Str} {t t' : Tok} {Q : Value -> Shared -> Prop} (hz : lv.ps.length <= 1000) (S : Sta W G env loc ((tup, aAo [.str u t, .str p t']) :: (aAr (d0 ++ [lv]) ++ N)) s)
  (h : ∀ s', Sta W G env loc (aAr (aA0 (tup, u, p) (d0 ++ [lv])) ++ N) s' -> Q .none s') : wpAny (model W.prog W.w) A (call (.builtin "list.append") [.ref lv.a, .ref tup]) Q E s := by
 have S1 := (S.tell (c' := IsPr (u, p)) .head λ o _ ho => ⟨_, _, ho⟩).perm (nw' := (lv.a, aAa (aAd lv.ps)) :: (aAg lv.ps ++ ((tup, IsPr (u, p)) :: (aAr d0 ++ N)))) (by
  rw [aAD]
  show List.Perm ((tup, IsPr (u, p)) :: ((aAr d0 ++ ((lv.a, aAa (aAd lv.ps)) :: (aAg lv.ps ++ []))) ++ N)) _
  walk_at "perm")
 refine S1.append .head (by rw [sizeLine_eq]; simp [aAd]; omega) λ s' S2 => h s' (S2.perm ?_)
 rw [aGo, aAD]
 show List.Perm _ ((aAr d0 ++ ((lv.a, aAa (aAd (lv.ps ++ [(tup, u, p)]))) :: (aAg (lv.ps ++ [(tup, u, p)]) ++ []))) ++ N)
 rw [aBN, aCK]
 show List.Perm _ ((aAr d0 ++ ((lv.a, aAa (aAd lv.ps ++ [.ref tup])) :: ((aAg lv.ps ++ [(tup, IsPr (u, p))]) ++ []))) ++ N)
 walk_at "perm"
noncomputable abbrev aDn (W : Wd) (w : Wn) (c : Wc) (q : Addr) (m : Wm) (dl : List Lv) (N : Ledger) : Ledger := (w.x, aAu 150 w.dx) :: (w.dx, aAl (vvOf w c q m)) :: (w.dns, aAa (aAk dl)) :: (aAr dl ++ N)
theorem qLoop2 {L ga sp : Addr} {w : Wn} {c : Wc} {q : Addr} {m : Wm} {qn u l : Str} {tq tu tl : Tok} {d0 : List Lv} {lv : Lv} {xs : List (Addr × NsP)} {sh own : Ledger} {og : Gens} {vu vp : Option Value} {R : Result -> Shared -> Prop} (I : IsC W) (hA : Aok 10 A) (hmem : ∀ q ∈ xs, (q.1, IsPr q.2) ∈ sh) (hsm : ∀ q ∈ xs, aCE q.2) (hl : l.length <= 1000) (hz : lv.ps.length <= 1000)
  (S : Sta W (G ++ og) (envQ L) (locQ w.x qn tq u tu l tl sp vu vp) (aDn W w c q m (d0 ++ [lv]) N ++ (sh ++ own)) s) (hy : YieldsR W sh ga (λ (q : Addr × NsP) v => v = .ref q.1) xs own og)
  (kf : ∀ p a tup t1 t2 t3 loc' s', (xs.map (·.2)).find? (λ q => decide (q.1 = u)) = some (u, p) -> Sta W G (envQ L) loc' ((a, aAo [.str (txtQ p l) t1, .str l t2, .str u t3]) :: (aDn W w c q m (aA0 (tup, u, p) (d0 ++ [lv])) N ++ sh)) s' -> R (.ok (.ret (.ref a))) s')
  (kn : ∀ vu vp s', (xs.map (·.2)).find? (λ q => decide (q.1 = u)) = none -> Sta W G (envQ L) (locQ w.x qn tq u tu l tl sp vu vp) (aDn W w c q m (d0 ++ [lv]) N ++ sh) s' -> R (.ok .next) s')
  (tg : Expr) (body : List Stmt) (htg : tg = fTgt qFor2) (hbd : body = aER qFor2) : codeAny (model W.prog W.w) A (.forLoop tg (.ref ga) body [] (envQ L)) R s := by
 subst htg hbd
 have hcl := I.cl
 refine aEO (sh := sh) (f := λ (q : Addr × NsP) => .ref q.1) (hA.le (by decide)) (λ (v : Option Value × Option Value) _ => locQ w.x qn tq u tu l tl sp v.1 v.2) (λ _ _ => aDn W w c q m (d0 ++ [lv]) N) (λ _ dn => (dn.map (·.2)).find? (λ q => decide (q.1 = u)) = none) hy (vu, vp) rfl S ?_ ?_
 rotate_left
 ·refine pr3 ?_
  intro qa qv qp dn rest tl' tg vw s1 K hx hf S' kk _ kret
  clear S
  replace hf : (dn.map (·.2)).find? (λ q => decide (q.1 = u)) = none := hf
  have hqx : (qa, qv, qp) ∈ xs := by rw [hx]; simp
  have hps : qp.length <= 1000 := (hsm _ hqx).2
  have hmq : (qa, IsPr (qv, qp)) ∈ aAr (d0 ++ [lv]) ++ N ++ (sh ++ tl') := List.mem_append_right _ (List.mem_append_left _ (hmem _ hqx))
  walk_at "zd"
  simp only [aDn, List.cons_append] at S'
  refine Sta.unpackPr S' hA.handled (by walk_at "mem") (by kernel_rfl) (by kernel_rfl) ?_
  clear S'; intro t1 t2 s' S'
  refine assignInOrder_cons ?_
  refine assign_Name ?_
  walk_at "c"
  refine assignInOrder_cons ?_
  refine assign_Name ?_
  walk_at "c"
  refine assignInOrder_nil ?_
  refine aAs ?_
  walk_at "c"
  refine eq_s (λ e => ?_) (λ e => ?_)
  ·subst e
   have hlast := aBz d0 lv
   have hfd : (xs.map (·.2)).find? (λ q => decide (q.1 = qv)) = some (qv, qp) := by
    rw [hx, List.map_append, List.find?_append, hf, List.map_cons, List.find?_cons_of_pos (by simp)]; rfl
   walk_at "c"
   refine Sta.sub_last S' (by walk_at "mem") hlast ?_
   have hlm : (lv.a, aAa (aAd lv.ps)) ∈ aAr (d0 ++ [lv]) ++ N ++ (sh ++ tl') := List.mem_append_left _ (List.mem_append_left _ (aDD (by simp)))
   walk_at "c"
   revert a'; intro tup S'
   refine Sta.addPr (d0 := d0) (lv := lv) (N := (w.x, aAu 150 w.dx) :: (w.dx, aAl (vvOf w c q m)) :: (w.dns, aAa (aAk (d0 ++ [lv]))) :: (N ++ (sh ++ tl'))) hz (S'.perm (by walk_at "perm")) ?_
   clear S'; intro s' S'
   have hfin : ∀ a t1 t2 t3 loc2 s2, Sta W (G ++ tg) (envQ L) loc2 ((a, aAo [.str (txtQ qp l) t1, .str l t2, .str qv t3]) :: (aAr (aA0 (tup, qv, qp) (d0 ++ [lv])) ++ ((w.x, aAu 150 w.dx) :: (w.dx, aAl (vvOf w c q m)) :: (w.dns, aAa (aAk (d0 ++ [lv]))) :: (N ++ (sh ++ tl'))))) s2 -> K (.ret (.ref a)) s2 := by
    intro a t1 t2 t3 loc2 s2 S2
    refine kret _ _ ?_
    refine kf qp a tup t1 t2 t3 loc2 s2 hfd (S2.fewer.sel (Sel.rest tl' ?_))
    simp only [aDn, aA8]
    walk_at "perm"
   walk_at "c"
   refine aBd S' (by omega) (λ h0 => ?_) (λ h0 => ?_)
   ·clear S'; intro s' S'
    have ht : txtQ qp l = l := if_pos h0
    rw [ht] at hfin
    walk_at "c"
    exact hfin _ _ _ _ _ _ S'
   ·clear S'; intro s' S'
    have ht : txtQ qp l = qp ++ ":" ++ l := if_neg h0
    have h1 : (":" : Str).length = 1 := by decide +kernel
    rw [ht] at hfin
    walk_at "c"
    rw [Str.empty_append] at S'
    exact hfin _ _ _ _ _ _ S'
  ·walk_at "c"
   refine (kk (_, _) _ ?_ S').1
   show ((dn ++ [(qa, qv, qp)]).map (·.2)).find? _ = none
   rw [List.map_append, List.find?_append, hf, List.map_cons, List.find?_cons_of_neg (by simpa using e)]
   rfl
 ·intro vw s1 hf S1
  exact kn vw.1 vw.2 s1 hf S1
end
end
section
structure NSt where
 decl : List (List NsP)
 nss : List (List NsP)
 pm : List (Str × Str)
noncomputable def nsOf (m : Wm) : NSt := ⟨m.dl.map Lv.val, m.nl.map Lv.val, m.pm.map λ p => (p.1, p.2.1)⟩
noncomputable def nPre (k : Nat) : Str := "n" ++ (toString (k : Int) : String)
noncomputable def qnV (rw : Bool) (s : NSt) (u l : Str) : Option (Str × NSt) :=
 match findN u [] (flat s.decl) with
 | some p => some (txtQ p l, s)
 | none =>
  if rw = true then
   match s.pm.find? (λ q => decide (q.1 = u)) with
   | some q => some ((q.2 ++ ":" ++ l : Str), { s with decl := aA7 (u, q.2) s.decl })
   | none => some ((nPre s.pm.length ++ ":" ++ l : Str), { s with decl := aA7 (u, nPre s.pm.length) s.decl, pm := s.pm ++ [(u, nPre s.pm.length)] })
  else if u = "" /\ ("" : Str) ∉ (flat s.decl).map (·.2) then some (l, s)
  else match (flat s.nss).find? (λ q => decide (q.1 = u)) with
   | some q => some (txtQ q.2 l, { s with decl := aA7 (u, q.2) s.decl })
   | none => if u = "" then some (l, s) else none
structure NsOk (s : NSt) : Prop where
 d1 : ∀ q ∈ flat s.decl, aCE q
 d2 : (flat s.decl).length <= 60
 n1 : ∀ q ∈ flat s.nss, aCE q
 n2 : (flat s.nss).length <= 1000
 p1 : ∀ q ∈ s.pm, aCE q
 p2 : s.pm.length <= 60
 ne : s.decl ≠ []
structure NmOk (x u l : Str) : Prop where
 len : x.length <= 500
 ul : u.length <= 500
 ll : l.length <= 500
 br : (Txt.slice x none (some 1) = "{" /\ Txt.rsplitMax (Txt.slice x (some 1) none) "}" 1 = [u, l]) \/ (Txt.slice x none (some 1) ≠ "{" /\ u = "" /\ l = x)
theorem aAS {W : Wd} {sh : Ledger} {it : Addr} : ∀ {xs : List (Addr × NsP)} {own : Ledger} {og : Gens}, aAW W sh it (aAd xs) own og -> YieldsR W sh it (λ (q : Addr × NsP) v => v = .ref q.1) xs own og
 | [], _, _, H => H
 | q :: r, _, _, H => ⟨H.1, λ A R GR s Q E hA S hQ => H.2 A R GR s Q E hA S λ own' og' s' S' H' => hQ _ own' og' s' rfl S' (aAS (xs := r) H')⟩
theorem aFk (ls : List Lv) : (ls.map λ l => (l.a, aAd l.ps)).reverse.flatMap (·.2) = aAd (lvPs ls) := by
 unfold lvPs aAd
 rw [List.map_flatMap, ← List.map_reverse, List.flatMap_map]
theorem aHu (u : Str) : ∀ l : List (Str × Str × Tok), (l.map λ p => (p.1, p.2.1)).find? (λ q => decide (q.1 = u)) = (l.find? λ q => decide (q.1 = u)).map λ p => (p.1, p.2.1)
 | [] => rfl
 | p :: r => by
  rw [List.map_cons, List.find?_cons, List.find?_cons]
  by_cases e : p.1 = u
  ·simp [e]
  ·simp only [decide_eq_false e]
   exact aHu u r
theorem aF8 (u : Str) : ∀ l : List (Str × Str × Tok), valueAt (pmV l) u = (l.find? λ q => decide (q.1 = u)).map λ p => .str p.2.1 p.2.2 := by
 intro l
 unfold valueAt pmV
 rw [List.find?_map, Option.map_map]
 rfl
open PySem.Builtin.Str in
theorem aGe {x y u l : Str} {k : Int} (h : Txt.rsplitMax x y k = [u, l]) : (partsBetween x (occurrencesFromRight x y (limitOf x k)) y.length).length <= 2 := by
 unfold Txt.rsplitMax at h
 split at h
 ·cases h
 ·split at h
  ·cases h
  ·rw [h]; exact Nat.le_refl 2
section
variable {N : Ledger}
theorem qHead {L : Addr} {w : Wn} {c : Wc} {q : Addr} {m : Wm} {x u l : Str} {t : Tok} {Q : Flow -> Shared -> Prop} (I : IsC W) (hA : Aok 13 A) (hx : NmOk x u l)
  (S' : Sta W G (envQ L) [("self", some (.ref w.x)), ("qname", some (.str x t)), ("uri", some .none), ("tag", none), ("prefixes_seen", none), ("u", none), ("prefix", none)] N s)
  (k : ∀ sp X tu tl s', Sta W G (envQ L) (locQ w.x x t u tu l tl sp none none) ((sp, IsSS W (λ _ => false) 0) :: (X ++ N)) s' -> wpAny (model W.prog W.w) A (execs ((aAm aAO).drop 2) (envQ L)) Q E s') :
  wpAny (model W.prog W.w) A (execs ((aAm aAO).drop 0) (envQ L)) Q E s := by
 have hxl := hx.len
 walk_at "c"
 refine aCt ?_ (by intro _ _; kernel_rfl)
 walk_at "c"
 refine ⟨_, _, _, _, _, _, _, S', rfl, by walk_at "osz", .none, .int _ _, ?_⟩
 clear S'; intro t1 s' S'
 walk_at "c"
 rcases hx.br with ⟨h1, h2⟩ | ⟨h1, h2, h3⟩
 ·refine eq_s (λ _ => ?_) (λ e => absurd h1 e)
  walk_at "c"
  refine aCt ?_ (by intro _ _; kernel_rfl)
  walk_at "c"
  refine ⟨_, _, _, _, _, _, _, S', rfl, by walk_at "osz", .int _ _, .none, ?_⟩
  clear S'; intro t2 s' S'
  refine aEN ?_
  walk_at "c"
  have hsl : (Txt.slice x (some 1) none).length <= 500 := Nat.le_trans (Txt.slice_le x _ _) hxl
  refine Sta.rsplitMax S' (by decide +kernel) (by decide +kernel) (by omega) (Nat.le_trans (aGe h2) (by rw [sizeLine_eq]; decide)) ?_
  clear S'; intro a s' S'
  rw [h2] at S'
  refine Sta.unpackTx S' .head (hA.le (by decide)) (by kernel_rfl) (by kernel_rfl) ?_
  clear S'; intro vs s' hv S'
  obtain ⟨t3, t4, rfl⟩ := hv.two
  refine assignInOrder_cons ?_
  refine assign_Name ?_
  walk_at "c"
  refine assignInOrder_cons ?_
  refine assign_Name ?_
  walk_at "c"
  refine assignInOrder_nil ?_
  walk_at "kn"
  refine aAi rfl ?_
  walk_at "c"
  refine Sta.builtin S' I.b_set aIG (by kernel_rfl) ?_
  walk_at "st"
  exact k a' [] _ _ _ S'
 ·refine eq_s (λ e => absurd e h1) (λ _ => ?_)
  walk_at "c"
  revert a'; intro tpl S'
  revert t'; intro tz S'
  refine assignInOrder_cons ?_
  refine assign_Name ?_
  walk_at "c"
  refine assignInOrder_cons ?_
  refine assign_Name ?_
  walk_at "c"
  refine assignInOrder_nil ?_
  walk_at "kn"
  refine aAi rfl ?_
  walk_at "c"
  refine Sta.builtin S' I.b_set aIG (by kernel_rfl) ?_
  walk_at "st"
  subst h2 h3
  exact k _ [(tpl, aAo [.str "" tz, .str l t])] _ _ _ S'
end
end
section
noncomputable abbrev ifB (st : Stmt) : List Stmt := aAm st
theorem aHD : ∀ n : Fin 61, (Str.ofString (toString (n.val : Int))).length <= 2 := by decide +kernel
theorem Sta.setItemD {W : Wd} {G : Gens} {env : Env} {loc : Loc} {nw nw' : Ledger} {s : Shared} {A : Around} {E : Value -> Shared -> Prop} {d : Addr} {kvs : List (Str × Value)} {x : Str} {t : Tok} {v : Value} {Q : Unit -> Shared -> Prop} (S : Sta W G env loc nw s) (U : Upd d (IsD W d kvs) (IsD W d (stored kvs x v)) nw nw') (hz : kvs.length <= 1000000)
  (h : ∀ s', Sta W G env loc nw' s' -> Q () s') : wpAny (model W.prog W.w) A (PySem.setItem (.ref d) (.str x t) v) Q E s := by
 obtain ⟨hd, hn⟩ := S.dictAt U.mem
 refine wpAny_setItem_pairs (strKind_is _ _ x t) hd (λ h' hm hs => ?_) (by walk_at "osz")
 obtain ⟨o, ho, hdo⟩ := Heap.dictOf_iff.mp hm
 exact h _ (S.set U (λ b o hb e => (hs.2 b hb).trans e) ho ⟨by simpa using hn, hdo⟩ _)
theorem Sta.lenD {W : Wd} {G : Gens} {env : Env} {loc : Loc} {nw : Ledger} {s : Shared} {A : Around} {E : Value -> Shared -> Prop} {d : Addr} {kvs : List (Str × Value)} {Q : Value -> Shared -> Prop} (S : Sta W G env loc nw s) (m : (d, IsD W d kvs) ∈ nw) (hz : kvs.length <= 1000000) (h : ∀ t s', Sta W G env loc nw s' -> Q (.int (kvs.length : Int) t) s') : wpAny (model W.prog W.w) A (call (.builtin "len") [.ref d]) Q E s := by
 obtain ⟨hd, hn⟩ := S.dictAt m
 exact call_len_dict hn hd (by omega) (h _ _ (S.toks _))
section
variable {N : Ledger}
theorem aIq {L sp : Addr} {w : Wn} {c : Wc} {q : Addr} {m : Wm} {x u l p : Str} {tq tu tl tp : Tok} {T : Str -> Bool} {n : Nat} {vu : Option Value} {d0 : List Lv} {lv : Lv} {Q : Flow -> Shared -> Prop} (I : IsC W) (hd : m.dl = d0 ++ [lv]) (hlz : lv.ps.length <= 1000) (hll : l.length <= 500) (hp : p.length <= 1000)
  (S' : Sta W G (envQ L) (locQ w.x x tq u tu l tl sp vu (some (.str p tp))) ((sp, IsSS W T n) :: aAe W w c q m N) s)
  (k : ∀ a tup t1 t2 t3 loc' s', Sta W G (envQ L) loc' ((a, aAo [.str (p ++ ":" ++ l) t1, .str l t2, .str u t3]) :: (sp, IsSS W T n) :: aAe W w c q { m with dl := aA0 (tup, u, p) m.dl } N) s' -> Q (.ret (.ref a)) s')
  (body : List Stmt) (hb : body = (ifB ((aAm aAO).getD 3 (.Pass default))).drop 1) :
  wpAny (model W.prog W.w) A (execs body (envQ L)) Q E s := by
 subst hb
 have hcl := I.cl
 have hlast : (aAk m.dl).getLast? = some (.ref lv.a) := by rw [hd]; exact aBz d0 lv
 have h1 : (":" : Str).length = 1 := by decide +kernel
 have hlm : (lv.a, aAa (aAd lv.ps)) ∈ aAr m.dl ++ (aAr m.nl ++ N) := List.mem_append_left _ (aDD (by rw [hd]; simp))
 walk_at "zd"
 simp only [locQ, aAe, vvOf] at S'
 refine aAs ?_
 walk_at "c"
 refine Sta.sub_last S' (by walk_at "mem") hlast ?_
 walk_at "c"
 revert a'; intro tup S'
 refine Sta.addPr (d0 := d0) (lv := lv) (N := (sp, IsSS W T n) :: (w.x, aAu 150 w.dx) :: (w.dx, aAl (vvOf w c q m)) :: (w.d, aAb m.held) :: (w.dns, aAa (aAk m.dl)) :: (w.ns, aAa (aAk m.nl)) :: (w.pm, IsD W w.pm (pmV m.pm)) :: (w.ps, aAa (m.ps.map .bool)) :: (aAr m.nl ++ N)) hlz (S'.perm (by walk_at "zg"; rw [hd]; walk_at "perm")) ?_
 clear S'; intro s' S'
 rw [← hd] at S'
 have hfin : ∀ a t1 t2 t3 loc2 s2, Sta W G (envQ L) loc2 ((a, aAo [.str (p ++ ":" ++ l) t1, .str l t2, .str u t3]) :: (aAr (aA0 (tup, u, p) m.dl) ++ ((sp, IsSS W T n) :: (w.x, aAu 150 w.dx) :: (w.dx, aAl (vvOf w c q m)) :: (w.d, aAb m.held) :: (w.dns, aAa (aAk m.dl)) :: (w.ns, aAa (aAk m.nl)) :: (w.pm, IsD W w.pm (pmV m.pm)) :: (w.ps, aAa (m.ps.map .bool)) :: (aAr m.nl ++ N)))) s2 -> Q (.ret (.ref a)) s2 := by
  intro a t1 t2 t3 loc2 s2 S2
  refine k a tup t1 t2 t3 loc2 s2 (S2.perm ?_)
  simp only [aAe, aA8]
  walk_at "perm"
 walk_at "c"
 rw [Str.empty_append] at S'
 exact hfin _ _ _ _ _ _ S'
theorem qRw {L sp : Addr} {w : Wn} {c : Wc} {q : Addr} {m : Wm} {x u l : Str} {tq tu tl : Tok} {T : Str -> Bool} {n : Nat} {vu vp : Option Value} {d0 : List Lv} {lv : Lv} {sv : NSt} {tx : Str} {Q : Flow -> Shared -> Prop} (I : IsC W) (hA : Aok 13 A) (hrw : c.rw = true) (hd : m.dl = d0 ++ [lv]) (hlz : lv.ps.length <= 1000) (hok : NsOk (nsOf m)) (hll : l.length <= 500) (hul : u.length <= 500)
  (hno : findN u [] (flat (nsOf m).decl) = none) (hq : qnV c.rw (nsOf m) u l = some (tx, sv))
  (S' : Sta W G (envQ L) (locQ w.x x tq u tu l tl sp vu vp) ((sp, IsSS W T n) :: aAe W w c q m N) s)
  (k : ∀ a dl pm t1 t2 t3 loc' s', nsOf { m with dl := dl, pm := pm } = sv -> aAk dl = aAk m.dl -> Sta W G (envQ L) loc' ((a, aAo [.str tx t1, .str l t2, .str u t3]) :: (sp, IsSS W T n) :: aAe W w c q { m with dl := dl, pm := pm } N) s' -> Q (.ret (.ref a)) s') :
  wpAny (model W.prog W.w) A (execs ((aAm aAO).drop 3) (envQ L)) Q E s := by
 have hcl := I.cl
 have hps := hok.p1
 have hpl : m.pm.length <= 60 := by have := hok.p2; simpa [nsOf] using this
 have hval : ∀ tup p, (aA0 (tup, u, p) m.dl).map Lv.val = aA7 (u, p) (nsOf m).decl := λ tup p => aBR _ _
 unfold qnV at hq
 rw [hno, if_pos hrw] at hq
 have hfp : (nsOf m).pm.find? (λ q => decide (q.1 = u)) = (m.pm.find? λ q => decide (q.1 = u)).map λ p => (p.1, p.2.1) := aHu u m.pm
 have hva := aF8 u m.pm
 rw [hfp] at hq
 walk_at "zd"
 simp only [locQ, aAe, vvOf] at S'
 walk_at "zd"
 rw [hrw] at S'
 walk_at "c"
 refine Sta.inD S' (by walk_at "mem") ?_
 clear S'; intro s' S'
 rw [hva]
 cases hfd : m.pm.find? (λ q => decide (q.1 = u)) with
 | some r =>
  rw [hfd] at hq hva
  simp only [Option.map_some, Option.some.injEq, Prod.mk.injEq] at hq
  obtain ⟨rfl, rfl⟩ := hq
  have hr : r.2.1.length <= 1000 := by
   have : (r.1, r.2.1) ∈ (nsOf m).pm := List.mem_map.mpr ⟨r, List.mem_of_find?_eq_some hfd, rfl⟩
   exact (hps _ this).2
  rw [show (Option.map (λ p : Str × Str × Tok => Value.str p.2.1 p.2.2) (some r)).isSome = true from rfl]
  walk_at "c"
  refine Sta.subD S' (by walk_at "mem") hva ?_
  clear S'; intro s' S'
  refine Sta.store S' (by walk_at "put") ?_
  clear S'; intro s' S'
  walk_at "kn"
  have hkf : ∀ a tup t1 t2 t3 loc' s', Sta W G (envQ L) loc' ((a, aAo [.str (r.2.1 ++ ":" ++ l) t1, .str l t2, .str u t3]) :: (sp, IsSS W T n) :: aAe W w c q { m with dl := aA0 (tup, u, r.2.1) m.dl } N) s' -> Q (.ret (.ref a)) s' := by
   intro a tup t1 t2 t3 loc' s' S2
   refine k a (aA0 (tup, u, r.2.1) m.dl) m.pm t1 t2 t3 loc' s' ?_ (aA8 _ _) S2
   show NSt.mk ((aA0 (tup, u, r.2.1) m.dl).map Lv.val) _ _ = _
   rw [hval]
   rfl
  refine aIq I hd hlz hll hr (by walk_at "zd"; rw [← hrw] at S'; exact S') ?_ _ rfl
  intro a tup t1 t2 t3 loc' s' S2
  walk_at "kv"
  exact hkf a tup t1 t2 t3 loc' s' S2
 | none =>
  rw [hfd] at hq hva
  simp only [Option.map_none, Option.some.injEq, Prod.mk.injEq] at hq
  obtain ⟨rfl, rfl⟩ := hq
  rw [show (Option.map (λ p : Str × Str × Tok => Value.str p.2.1 p.2.2) none).isSome = false from rfl]
  have hnk : u ∉ (pmV m.pm).map (·.1) := by
   intro hm
   obtain ⟨a, ha, e⟩ := List.mem_map.mp hm
   obtain ⟨b, hb, rfl⟩ := List.mem_map.mp ha
   have := List.find?_eq_none.mp hfd b hb
   simp at this
   exact this e
  have hn1 : ("n" : Str).length = 1 := by decide +kernel
  have hpz : (pmV m.pm).length = m.pm.length := List.length_map ..
  walk_at "c"
  refine wpAny_Assign_two ?_ (by kernel_rfl) (by kernel_rfl)
  walk_at "c"
  refine Sta.builtin S' I.b_len aDQ (by kernel_rfl) ?_
  walk_at "c"
  refine Sta.lenD S' (by walk_at "mem") (by omega) ?_
  clear S'; intro tn s' S'
  rw [hpz]
  refine Sta.fmtI S' (by omega) ?_
  clear S'; intro t3 s' S'
  have hds : (Str.ofString (toString (m.pm.length : Int))).length <= 2 := aHD ⟨m.pm.length, by omega⟩
  generalize hpx : (Str.ofString (toString (m.pm.length : Int))) = dg at S' hds ⊢
  walk_at "c"
  rw [Str.empty_append] at S' ⊢
  refine kas_sub ?_
  walk_at "c"
  refine Sta.setItemD S' (by walk_at "upd") (by omega) ?_
  clear S'; intro s' S'
  walk_at "zd"
  rw [aCq hnk] at S'
  walk_at "kn"
  have hpn : nPre m.pm.length = "n" ++ dg := by rw [← hpx]; rfl
  have hpl2 : ("n" ++ dg : Str).length <= 1000 := by rw [Str.length_append]; omega
  have hnl : (nsOf m).pm.length = m.pm.length := List.length_map ..
  rw [hnl, hpn] at k
  revert t'; intro tz S'
  refine aIq (m := { m with pm := m.pm ++ [(u, "n" ++ dg, tz)] }) (p := "n" ++ dg) I hd hlz hll hpl2 (by
   walk_at "zd"
   rw [← hrw] at S'
   have e : pmV (m.pm ++ [(u, "n" ++ dg, tz)]) = pmV m.pm ++ [(u, .str ("n" ++ dg) tz)] := List.map_append
   simp only [aAe, vvOf, e]
   exact S') ?_ _ rfl
  intro a tup t1 t2 t3 loc' s' S2
  walk_at "kv"
  refine k a (aA0 (tup, u, "n" ++ dg) m.dl) (m.pm ++ [(u, "n" ++ dg, tz)]) t1 t2 t3 loc' s' ?_ (aA8 _ _) S2
  show NSt.mk ((aA0 (tup, u, "n" ++ dg) m.dl).map Lv.val) _ ((m.pm ++ [(u, "n" ++ dg, tz)]).map _) = _
  rw [hval, List.map_append]
  rfl
end
end
section
section
variable {N : Ledger}
theorem aCm {ls : List (List NsP)} {l : List NsP} (h : l ∈ ls) : l.length <= (flat ls).length := by
 have hm : l ∈ ls.reverse := List.mem_reverse.mpr h
 unfold flat
 generalize ls.reverse = r at hm
 induction r with
 | nil => cases hm
 | cons a r ih =>
  rw [List.flatten_cons, List.length_append]
  rcases List.mem_cons.mp hm with rfl | hm
  ·omega
  ·have := ih hm; omega
theorem aHC {u : Str} (h : u.length = 0) : u = "" := Str.ext' (by rw [Str.len_list] at h; rw [List.length_eq_zero_iff.mp h]; decide +kernel)
theorem qTold {L sp : Addr} {w : Wn} {c : Wc} {q : Addr} {m : Wm} {x u l : Str} {tq tu tl : Tok} {T : Str -> Bool} {n : Nat} {vu vp : Option Value} {d0 : List Lv} {lv : Lv} {sv : NSt} {tx : Str} {Q : Flow -> Shared -> Prop} (I : IsC W) (hA : Aok 13 A) (hd : m.dl = d0 ++ [lv]) (hlz : lv.ps.length <= 1000) (hok : NsOk (nsOf m)) (hll : l.length <= 500) (hul : u.length <= 500)
  (hq : (match (flat (nsOf m).nss).find? (λ q => decide (q.1 = u)) with
   | some q => some (txtQ q.2 l, { nsOf m with decl := aA7 (u, q.2) (nsOf m).decl })
   | none => if u = "" then some (l, nsOf m) else none) = some (tx, sv))
  (S' : Sta W G (envQ L) (locQ w.x x tq u tu l tl sp vu vp) ((sp, IsSS W T n) :: aAe W w c q m N) s)
  (k : ∀ a dl pm X t1 t2 t3 loc' s', nsOf { m with dl := dl, pm := pm } = sv -> aAk dl = aAk m.dl -> Sta W G (envQ L) loc' ((a, aAo [.str tx t1, .str l t2, .str u t3]) :: (X ++ aAe W w c q { m with dl := dl, pm := pm } N)) s' -> Q (.ret (.ref a)) s') :
  wpAny (model W.prog W.w) A (execs ((aAm aAO).drop 5) (envQ L)) Q E s := by
 have hcl := I.cl
 have hval : ∀ tup p, (aA0 (tup, u, p) m.dl).map Lv.val = aA7 (u, p) (nsOf m).decl := λ tup p => aBR _ _
 have hxs : (lvPs m.nl).map (·.2) = flat (nsOf m).nss := aCV m.nl
 have hlv : (m.nl.map λ l => (l.a, aAd l.ps)).map (λ p => Value.ref p.1) = aAk m.nl := by simp [aAk]
 walk_at "zd"
 refine aAi rfl ?_
 refine wpAny_For ?_ (by intro _; kernel_rfl)
 walk_at "c"
 refine Sta.getM_inst (f := 75) S' hcl (by walk_at "mem") (by walk_at "mem") VV.keys (by decide +kernel) (by rw [I.k]; kernel_rfl) (by rw [I.k]; kernel_rfl) ?_
 walk_at "c"
 refine aJn (N := aDn W w c q m m.dl ((sp, IsSS W T n) :: (w.d, aAb m.held) :: (w.pm, IsD W w.pm (pmV m.pm)) :: (w.ps, aAa (m.ps.map .bool)) :: N)) (sh := (w.ns, aAa (aAk m.nl)) :: aAr m.nl)
  (lv := m.nl.map λ l => (l.a, aAd l.ps)) I (S'.perm (by walk_at "perm")) (hA.le (by decide)) (by rw [hlv]; exact .head _) ?_ ?_
 ·intro p hp
  obtain ⟨l, hl, rfl⟩ := List.mem_map.mp hp
  refine ⟨.tail _ (aDD hl), ?_⟩
  have h1 := aCm (ls := (nsOf m).nss) (List.mem_map.mpr ⟨l, hl, rfl⟩)
  have h2 := hok.n2
  have h3 : l.val.length = (aAd l.ps).length := by simp [Lv.val, aAd]
  rw [sizeLine_eq]
  show (aAd l.ps).length <= _
  omega
 clear S'; intro ga g own gs s' S' hy
 refine S'.iterGen (g := g) (by simp) ?_
 rw [aFk] at hy
 walk_at "zd"
 rw [hd] at S'
 refine qLoop2 (xs := lvPs m.nl) (sh := (w.ns, aAa (aAk m.nl)) :: aAr m.nl) (d0 := d0) (lv := lv) I (hA.le (by decide)) (λ r hr => .tail _ (aFS hr)) (λ r hr => hok.n1 _ (by rw [← hxs]; exact List.mem_map.mpr ⟨r, hr, rfl⟩)) (by omega) hlz S' (aAS hy) ?_ ?_ _ _ rfl rfl
 ·clear S'
  intro p a tup t1 t2 t3 loc' s' hf S'
  rw [hxs] at hf
  rw [hf] at hq
  simp only [Option.some.injEq, Prod.mk.injEq] at hq
  obtain ⟨rfl, rfl⟩ := hq
  walk_at "zd"
  rw [← hd] at S'
  refine k a (aA0 (tup, u, p) m.dl) m.pm [(sp, IsSS W T n)] t1 t2 t3 loc' s' ?_ (aA8 _ _) (S'.perm ?_)
  ·show NSt.mk ((aA0 (tup, u, p) m.dl).map Lv.val) _ _ = _
   rw [hval]; rfl
  ·dsimp only [aAe, aDn, aA8]
   walk_at "perm"
 ·clear S'
  intro vu vp s' hf S'
  rw [hxs] at hf
  rw [hf] at hq
  walk_at "zd"
  rw [← hd] at S'
  by_cases hu : u = ""
  ·simp only [if_pos hu, Option.some.injEq, Prod.mk.injEq] at hq
   obtain ⟨rfl, rfl⟩ := hq
   have hul0 : u.length = 0 := by rw [hu]; decide +kernel
   have hfin : ∀ a t1 t2 t3 loc2 s2, Sta W G (envQ L) loc2 ((a, aAo [.str l t1, .str l t2, .str u t3]) :: (aDn W w c q m m.dl ((sp, IsSS W T n) :: (w.d, aAb m.held) :: (w.pm, IsD W w.pm (pmV m.pm)) :: (w.ps, aAa (m.ps.map .bool)) :: N) ++ ((w.ns, aAa (aAk m.nl)) :: aAr m.nl))) s2 -> Q (.ret (.ref a)) s2 := by
    intro a t1 t2 t3 loc2 s2 S2
    refine k a m.dl m.pm [(sp, IsSS W T n)] t1 t2 t3 loc2 s2 rfl rfl (S2.perm ?_)
    simp only [aAe, aDn]
    walk_at "perm"
   walk_at "zd"
   walk_at "c"
   refine aBd S' (by omega) (λ _ => ?_) (λ h => absurd hul0 h)
   clear S'; intro s' S'
   walk_at "c"
   exact hfin _ _ _ _ _ _ S'
  ·simp only [if_neg hu] at hq
   cases hq
theorem qKeep {L sp : Addr} {w : Wn} {c : Wc} {q : Addr} {m : Wm} {x u l : Str} {tq tu tl : Tok} {T : Str -> Bool} {n : Nat} {vu vp : Option Value} {d0 : List Lv} {lv : Lv} {sv : NSt} {tx : Str} {Q : Flow -> Shared -> Prop} (I : IsC W) (hA : Aok 13 A) (hrw : c.rw = false) (hd : m.dl = d0 ++ [lv]) (hlz : lv.ps.length <= 1000) (hok : NsOk (nsOf m)) (hll : l.length <= 500) (hul : u.length <= 500)
  (hT : ∀ k, T k = decide (k ∈ (flat (nsOf m).decl).map (·.2))) (hn : n <= 60) (hno : findN u [] (flat (nsOf m).decl) = none) (hq : qnV c.rw (nsOf m) u l = some (tx, sv))
  (S' : Sta W G (envQ L) (locQ w.x x tq u tu l tl sp vu vp) ((sp, IsSS W T n) :: aAe W w c q m N) s)
  (k : ∀ a dl pm X t1 t2 t3 loc' s', nsOf { m with dl := dl, pm := pm } = sv -> aAk dl = aAk m.dl -> Sta W G (envQ L) loc' ((a, aAo [.str tx t1, .str l t2, .str u t3]) :: (X ++ aAe W w c q { m with dl := dl, pm := pm } N)) s' -> Q (.ret (.ref a)) s') :
  wpAny (model W.prog W.w) A (execs ((aAm aAO).drop 3) (envQ L)) Q E s := by
 have hcl := I.cl
 have hsb : n < scanBound := Nat.lt_of_le_of_lt hn (by decide)
 have hval : ∀ tup p, (aA0 (tup, u, p) m.dl).map Lv.val = aA7 (u, p) (nsOf m).decl := λ tup p => aBR _ _
 unfold qnV at hq
 rw [hno, if_neg (by rw [hrw]; decide)] at hq
 walk_at "zd"
 walk_at "c"
 refine ite_fe hrw ?_
 walk_at "c"
 have htold : (¬(u = "" /\ ("" : Str) ∉ (flat (nsOf m).decl).map (·.2))) -> ∀ s2, Sta W G (envQ L) (locQ w.x x tq u tu l tl sp vu vp) ((sp, IsSS W T n) :: aAe W w c q m N) s2 -> wpAny (model W.prog W.w) A (execs ((aAm aAO).drop 5) (envQ L)) Q E s2 := by
  intro hc s2 S2
  rw [if_neg hc] at hq
  exact qTold I hA hd hlz hok hll hul hq S2 k
 refine aBd S' (by omega) (λ h0 => ?_) (λ h0 => ?_)
 ·clear S'; intro s' S'
  have hu := aHC h0
  walk_at "c"
  cases hTe : T "" with
  | true =>
   refine aBt ?_
   walk_at "st"
   refine htold ?_ _ S'
   rintro ⟨_, h⟩
   rw [hT] at hTe
   exact h (of_decide_eq_true hTe)
  | false =>
   have hne : ("" : Str) ∉ (flat (nsOf m).decl).map (·.2) := by
    rw [hT] at hTe
    exact of_decide_eq_false hTe
   rw [if_pos ⟨hu, hne⟩] at hq
   simp only [Option.some.injEq, Prod.mk.injEq] at hq
   obtain ⟨rfl, rfl⟩ := hq
   have hfin : ∀ a t1 t2 t3 loc2 s2, Sta W G (envQ L) loc2 ((a, aAo [.str l t1, .str l t2, .str u t3]) :: (sp, IsSS W T n) :: aAe W w c q m N) s2 -> Q (.ret (.ref a)) s2 := λ a t1 t2 t3 loc2 s2 S2 => k a m.dl m.pm [(sp, IsSS W T n)] t1 t2 t3 loc2 s2 rfl rfl S2
   refine aB3 ?_
   walk_at "c"
   exact hfin _ _ _ _ _ _ S'
 ·clear S'; intro s' S'
  walk_at "st"
  refine htold ?_ _ S'
  rintro ⟨h, _⟩
  rw [h] at h0
  exact h0 (by decide +kernel)
end
end
section
theorem aJA {m : Wm} (h : NsOk (nsOf m)) : ∃ d0 lv, m.dl = d0 ++ [lv] /\ lv.ps.length <= 60 := by
 have hne : m.dl ≠ [] := λ e => h.ne (by show m.dl.map Lv.val = []; rw [e]; rfl)
 refine ⟨m.dl.dropLast, m.dl.getLast hne, (List.dropLast_concat_getLast hne).symm, ?_⟩
 have h1 := aCm (ls := (nsOf m).decl) (List.mem_map.mpr ⟨m.dl.getLast hne, List.getLast_mem hne, rfl⟩)
 have h2 := h.d2
 have h3 : (m.dl.getLast hne).val.length = (m.dl.getLast hne).ps.length := List.length_map ..
 omega
section
variable {N : Ledger}
theorem aGW {w : Wn} {c : Wc} {q : Addr} {m : Wm} {x u l : Str} {t : Tok} {sv : NSt} {tx : Str} {R : Result -> Shared -> Prop} (I : IsC W) (S : Sta W G env loc (aAe W w c q m N) s) (hA : Aok 14 A) (hx : NmOk x u l) (hok : NsOk (nsOf m)) (hq : qnV c.rw (nsOf m) u l = some (tx, sv))
  (k : ∀ a dl pm t1 t2 t3 s', nsOf { m with dl := dl, pm := pm } = sv -> aAk dl = aAk m.dl -> Sta W G env loc ((a, aAo [.str tx t1, .str l t2, .str u t3]) :: aAe W w c q { m with dl := dl, pm := pm } N) s' -> R (.ok (.ret (.ref a))) s') :
  codeAny (model W.prog W.w) A (.call (.ref 90) ⟨[.ref w.x, .str x t], []⟩) R s := by
 obtain ⟨d0, lv, hd, hlz⟩ := aJA hok
 refine S.code_fn (binds := [("self", .ref w.x), ("qname", .str x t), ("uri", .none)]) ["tag", "prefixes_seen", "u", "prefix"] I.f_qname hA.room ?_ (by kernel_rfl) ?_
 ·intro name doc pm ct an
  exact kp_binds S.kin λ S => by rw [I.k]; kernel_rfl
 intro L s' S'
 have hA' := hA.deeper (env := envQ L)
 walk_at "zd"
 have hcl := I.cl
 have hxs : (lvPs m.dl).map (·.2) = flat (nsOf m).decl := aCV m.dl
 have hlv : (m.dl.map λ l => (l.a, aAd l.ps)).map (λ p => Value.ref p.1) = aAk m.dl := by simp [aAk]
 have hxl : (lvPs m.dl).length = (flat (nsOf m).decl).length := by rw [← hxs, List.length_map]
 have hd2 := hok.d2
 have hll := hx.ll
 have hfin : ∀ a dl pm X t1 t2 t3 loc2 s2, nsOf { m with dl := dl, pm := pm } = sv -> aAk dl = aAk m.dl -> Sta W G (envQ L) loc2 ((a, aAo [.str tx t1, .str l t2, .str u t3]) :: (X ++ aAe W w c q { m with dl := dl, pm := pm } ((env.locals, IsNs loc) :: N))) s2 -> R (.ok (.ret (.ref a))) s2 := by
  intro a dl pm X t1 t2 t3 loc2 s2 h1 h2 S2
  refine k a dl pm t1 t2 t3 s2 h1 h2 (Sta.back (S2.sel (Sel.rest X ?_)) S.eok)
  simp only [aAe]
  walk_at "perm"
 refine aAs ?_
 refine qHead (w := w) (c := c) (q := q) (m := m) I hA' hx S' ?_
 clear S'; intro sp X tu tl s' S'
 refine aAi rfl ?_
 refine wpAny_For ?_ (by intro _; kernel_rfl)
 replace S' := S'.perm (nw' := (sp, IsSS W (λ _ => false) 0) :: aAe W w c q m ((env.locals, IsNs loc) :: (X ++ N))) (by simp only [aAe]; walk_at "perm")
 walk_at "zd"
 walk_at "c"
 refine Sta.getM_inst (f := 75) S' hcl (by walk_at "mem") (by walk_at "mem") VV.keys (by decide +kernel) (by rw [I.k]; kernel_rfl) (by rw [I.k]; kernel_rfl) ?_
 walk_at "c"
 refine aJn (N := (sp, IsSS W (λ _ => false) 0) :: (w.x, aAu 150 w.dx) :: (w.dx, aAl (vvOf w c q m)) :: (w.d, aAb m.held) :: (w.ns, aAa (aAk m.nl)) :: (w.pm, IsD W w.pm (pmV m.pm)) :: (w.ps, aAa (m.ps.map .bool)) :: (aAr m.nl ++ ((env.locals, IsNs loc) :: (X ++ N)))) (sh := (w.dns, aAa (aAk m.dl)) :: aAr m.dl)
  (lv := m.dl.map λ l => (l.a, aAd l.ps)) I (S'.perm (by walk_at "perm")) (hA'.le (by decide)) (by rw [hlv]; exact .head _) ?_ ?_
 ·intro p hp
  obtain ⟨l, hl, rfl⟩ := List.mem_map.mp hp
  refine ⟨.tail _ (aDD hl), ?_⟩
  have h1 := aCm (ls := (nsOf m).decl) (List.mem_map.mpr ⟨l, hl, rfl⟩)
  have h3 : l.val.length = (aAd l.ps).length := by simp [Lv.val, aAd]
  rw [sizeLine_eq]
  show (aAd l.ps).length <= _
  omega
 clear S'; intro ga g own gs s' S' hy
 refine S'.iterGen (g := g) (by simp) ?_
 rw [aFk] at hy
 have hul := hx.ul
 refine qLoop1 (x := w.x) (xs := lvPs m.dl) (sh := (w.dns, aAa (aAk m.dl)) :: aAr m.dl) (hA'.le (by decide)) (λ r hr => .tail _ (aFS hr)) (by omega) (λ r hr => hok.d1 _ (by rw [← hxs]; exact List.mem_map.mpr ⟨r, hr, rfl⟩)) (by omega) S' (aAS hy) ?_ ?_ _ _ rfl rfl
 ·clear S'
  intro p a t1 t2 t3 loc' s' hf S'
  rw [hxs] at hf
  unfold qnV at hq
  rw [hf] at hq
  simp only [Option.some.injEq, Prod.mk.injEq] at hq
  obtain ⟨rfl, rfl⟩ := hq
  refine hfin a m.dl m.pm X t1 t2 t3 loc' s' rfl rfl (S'.perm ?_)
  simp only [aAe]
  walk_at "perm"
 ·clear S'
  intro vu vp T n s' hno hT hn S'
  rw [hxs] at hno
  have hT2 : ∀ k, T k = decide (k ∈ (flat (nsOf m).decl).map (·.2)) := by
   intro k
   rw [hT k, ← hxs, List.map_map]
   rfl
  have S2 := S'.perm (nw' := (sp, IsSS W T n) :: aAe W w c q m ((env.locals, IsNs loc) :: (X ++ N))) (by simp only [aAe]; walk_at "perm")
  cases hrw : c.rw with
  | true =>
   refine qRw I hA' hrw hd (by omega) hok hll hul hno hq S2 ?_
   intro a dl pm t1 t2 t3 loc2 s2 h1 h2 S3
   refine hfin a dl pm ((sp, IsSS W T n) :: X) t1 t2 t3 loc2 s2 h1 h2 (S3.perm ?_)
   walk_at "perm"
  | false =>
   refine qKeep I hA' hrw hd (by omega) hok hll hul hT2 (by omega) hno hq S2 ?_
   intro a dl pm Y t1 t2 t3 loc2 s2 h1 h2 S3
   refine hfin a dl pm (Y ++ X) t1 t2 t3 loc2 s2 h1 h2 (S3.perm ?_)
   walk_at "perm"
end
end
section
noncomputable def nmU (x : Str) : Str := if Txt.slice x none (some 1) = "{" then (Txt.rsplitMax (Txt.slice x (some 1) none) "}" 1).getD 0 "" else ""
noncomputable def nmL (x : Str) : Str := if Txt.slice x none (some 1) = "{" then (Txt.rsplitMax (Txt.slice x (some 1) none) "}" 1).getD 1 "" else x
noncomputable def NmG (x : Str) : Prop := NmOk x (nmU x) (nmL x)
noncomputable def IsQn (x tx : Str) : Cell := λ o => ∃ t1 t2 t3, aAo [.str tx t1, .str (nmL x) t2, .str (nmU x) t3] o
structure Pq where
 x : Str
 a : Addr
 tx : Str
noncomputable def aAM (pl : List Pq) : Ledger := pl.map λ p => (p.a, IsQn p.x p.tx)
noncomputable def pqD (pl : List Pq) : List (Str × Value) := pl.map λ p => (p.x, .ref p.a)
noncomputable def aCd (rw : Bool) : NSt -> List Str -> Option (List (Str × Str) × NSt)
 | s, [] => some ([], s)
 | s, x :: r => (qnV rw s (nmU x) (nmL x)).bind λ p => (aCd rw p.2 r).map λ q => ((x, p.1) :: q.1, q.2)
noncomputable def QnOk (rw : Bool) : NSt -> List Str -> Prop
 | s, [] => True
 | s, x :: r => NsOk s /\ ∃ p, qnV rw s (nmU x) (nmL x) = some p /\ QnOk rw p.2 r
noncomputable abbrev aD7 (p : Pos) : Arguments := ⟨[], [⟨"n", none, p⟩], none, [], [], none, []⟩
noncomputable abbrev aD6 (p1 p2 p3 p4 p5 : Pos) : Expr := .Call (.Attribute (.Name "n" p1) "split" p2) [.Constant (.str "}") 0 p3, .Constant (.int 1) 0 p4] [] p5
noncomputable abbrev aCW : Scope := { kind := .function, names := [(Str.ofString "n", .local)], isGenerator := false, isCoroutine := false, more := [] }
noncomputable abbrev aIm : Scope := { kind := .function, names := [(Str.ofString ".0", .local), (Str.ofString "n", .local), (Str.ofString "parse_qname", .free)], isGenerator := false, isCoroutine := false, more := [] }
noncomputable abbrev startQ : Str := "C14NWriterTarget._start"
noncomputable abbrev aAB : Str := "C14NWriterTarget._start.<locals>.<lambda>"
noncomputable abbrev envS (L : Addr) : Env := envOfC startQ (aAc aAz) L 126 (.ref 125)
noncomputable def aAK (x : Str) : List Str := Txt.splitMax x "}" 1
section
variable {w : Wn} {c : Wc} {q : Addr} {m : Wm} {N : Ledger}
theorem lam_ {f c' : Addr} {clos : List (Str × Addr)} {qual x : Str} {t : Tok} {p0 p1 p2 p3 p4 p5 : Pos} {Q : Value -> Shared -> Prop} (S : Sta W G env loc nw s) (hA : Aok 2 A) (mf : (f, aFB qual (aD7 p0) (aD6 p1 p2 p3 p4 p5) aCW clos c') ∈ nw) (mc : (c', aEm qual) ∈ nw) (hx : x.length <= 1000) (hl : (p2.endLine == p5.line) = true)
  (k : ∀ a s', Sta W G env loc ((a, aAb (aAK x)) :: nw) s' -> Q (.ref a) s') : wpAny (model W.prog W.w) A (call (.ref f) [.str x t]) Q E s := by
 refine S.call_lam (binds := [("n", .str x t)]) mf mc hA.room (λ pm ctv => by kernel_rfl) (by kernel_rfl) ?_
 intro L s' S'
 walk_at "zd"
 simp only [aAv, List.map_cons, List.map_nil, List.cons_append, List.nil_append] at S'
 refine aBD ?_ rfl rfl hl
 walk_at "c"
 refine aBj ?_
 walk_at "c"
 refine S'.splitMax (by decide +kernel) (by decide +kernel) (by omega) ?_
 clear S'; intro a s' S'
 exact k a s' (Sta.back (S'.perm (List.Perm.swap ..)) S.eok)
theorem aH2 (pl : List Pq) : (pqD pl).map (·.1) = pl.map (·.x) := by simp [pqD, List.map_map, Function.comp_def]
theorem perm_f {α : Type} (f a : α) (T R : List α) : List.Perm (f :: (T ++ a :: R)) (a :: f :: (T ++ R)) := (List.perm_middle.cons _).trans (List.Perm.swap ..)
noncomputable abbrev lamX (p0 p1 p2 p3 p4 p5 lp : Pos) : Expr := .Lambda (aD7 p0) (aD6 p1 p2 p3 p4 p5) aCW lp
noncomputable abbrev pqX (p0 p1 p2 p3 p4 p5 lp k1 k2 k3 k4 k5 k6 k7 k8 k9 k10 : Pos) : Expr := .DictComp (.Name "n" k1) (.Call (.Name "parse_qname" k2) [.Name "n" k3] [] k4) [⟨.Name "n" k5, .Call (.Name "sorted" k6) [.Name "qnames" k7] [⟨some "key", lamX p0 p1 p2 p3 p4 p5 lp, k8⟩] k9, [], 0⟩] aIm k10
structure PqS where
 vn : Option Value
 pl : List Pq
 dl : List Lv
 pm : List (Str × Str × Tok)
theorem aGg {rw : Bool} {st s1 sv : NSt} {x tx : Str} {r : List Str} {rr : List (Str × Str)} (h : aCd rw st (x :: r) = some (rr, sv)) (e : qnV rw st (nmU x) (nmL x) = some (tx, s1)) : ∃ rr', aCd rw s1 r = some (rr', sv) /\ rr = (x, tx) :: rr' := by
 unfold aCd at h
 rw [e] at h
 simp only [Option.bind_some, Option.map_eq_some_iff, Prod.mk.injEq] at h
 obtain ⟨⟨rr', sv'⟩, hra, rfl, rfl⟩ := h
 exact ⟨rr', hra, rfl⟩
theorem pq_ {b1 b2 : Pos} {loc2 : Addr -> Loc} {L qs c2 bm : Addr} {c? : Option Addr} {ss : List Str} {res : List (Str × Str)} {sv : NSt} {p0 p1 p2 p3 p4 p5 lp k1 k2 k3 k4 k5 k6 k7 k8 k9 k10 : Pos} {Q : Flow -> Shared -> Prop} (I : IsC W) (C : CodeHd W.B 125 123) (hA : Aok 20 A) (hsw : swapsWith (pqX p0 p1 p2 p3 p4 p5 lp k1 k2 k3 k4 k5 k6 k7 k8 k9 k10) (some (.Name "parsed_qnames" b1)) b2.line (envS L) = pure true) (hput : ∀ acc, Put "parsed_qnames" (some (.ref acc)) loc (loc2 acc)) (hl : (p2.endLine == p5.line) = true) (hpq : CellOk (envS L) .cell "parse_qname" c2) (hq : (("qnames" : Str), some (Value.ref qs)) ∈ loc)
  (hnd : ss.Nodup) (hpl : ∀ x ∈ ss, NmG x) (h4 : ss.length <= 4) (hinj : ∀ x ∈ ss, ∀ y ∈ ss, aAK x = aAK y -> x = y)
  (hok : QnOk c.rw (nsOf m) (srt (ltK aAK) ss)) (hres : aCd c.rw (nsOf m) (srt (ltK aAK) ss) = some (res, sv))
  (S' : Sta W G (envS L) loc (Tabs 123 lp aAB c? ++ ((qs, IsSL W ss) :: (c2, aAp (some (.ref bm))) :: (bm, aBL 90 (.ref w.x)) :: aAe W w c q m N)) s)
  (k : ∀ acc pl dl pm c' s', pl.map (λ p => (p.x, p.tx)) = res -> nsOf { m with dl := dl, pm := pm } = sv -> aAk dl = aAk m.dl -> Sta W G (envS L) (loc2 acc) ((acc, IsD W acc (pqD pl)) :: (c2, aAp (some (.ref bm))) :: aAe W w c q { m with dl := dl, pm := pm } (aAM pl ++ (Tabs 123 lp aAB (some c') ++ N))) s' -> Q .next s') :
  wpAny (model W.prog W.w) A (exec (.Assign [.Name "parsed_qnames" b1] (pqX p0 p1 p2 p3 p4 p5 lp k1 k2 k3 k4 k5 k6 k7 k8 k9 k10) b2) (envS L)) Q E s := by
 refine aDu (cl := [("parse_qname", c2)]) ["n"] hsw (aB5 (by kernel_rfl) hpq) (by kernel_rfl) rfl rfl ?_ (by intro _; kernel_rfl)
 refine aHQ ?_ (by kernel_rfl)
 refine Sta.builtin S' I.b_sorted aBC (by kernel_rfl) ?_
 refine callWith_kw ?_ (by kernel_rfl) (by kernel_rfl) (by kernel_rfl) (by kernel_rfl)
 refine args_cons ?_ (by kernel_rfl)
 refine S'.local_ hq ?_
 refine args_nil ?_
 refine kws_cons ?_
 refine Sta.lambda S' (by kernel_rfl) (clos := []) (by kernel_rfl) rfl C ?_
 clear S'; intro f c' s' S'
 refine kws_nil ?_
 have S2 : Sta W G (envS L) loc ((qs, IsSL W ss) :: (f, aFB aAB (aD7 p0) (aD6 p1 p2 p3 p4 p5) aCW [] c') :: (Tabs 123 lp aAB (some c') ++ ((c2, aAp (some (.ref bm))) :: (bm, aBL 90 (.ref w.x)) :: aAe W w c q m N))) s' := S'.perm (perm_f _ _ _ _)
 show wpAny _ _ (call (.builtin "sorted") [.ref qs] [(Str.ofString "key", .ref f)]) _ _ _
 refine S2.sortedSetS (kp := aAK) (hA.le (by omega)) h4 hinj (λ x t L0 s3 Q' hx S3 kk => ?_) λ l s3 S3 => ?_
 ·refine lam_ S3 ((hA.in1.in1).le (by omega)) (f := f) (c' := c') (List.mem_append_right _ (.tail _ (.head _))) (List.mem_append_right _ (.tail _ (.tail _ (.tail _ (.head _))))) (by have := (hpl x hx).len; omega) hl kk
 have hp : (srt (ltK aAK) ss).Perm ss := aAC ss
 generalize srt (ltK aAK) ss = ss' at S3 hp hok hres
 refine S3.iterT .head λ it vs s4 ht S4 => ?_
 refine ⟨_, _, _, S4, ?_⟩
 intro acc Cc s5 eok S5
 refine aFu rfl rfl aBF (S5.get (.tail _ (.tail _ (.head _)))) ?_
 have hnd' : ss'.Nodup := hp.nodup_iff.mpr hnd
 have Y : LY W [(l, aAa vs)] it vs [(it, IsLI l 0)] := aAU (own₀ := []) (by simp) vs 0 rfl
 refine aIl (sh := [(l, aAa vs)]) (f := λ (x : Str) t => .str x t) (hA.le (by omega)) (G := G) (og := []) (own := [(it, IsLI l 0)]) (λ (v : PqS) _ => [("n", v.vn)]) (λ v _ => (acc, IsD W acc (pqD v.pl)) :: ((envS L).locals, IsNs loc) :: (c2, aAp (some (.ref bm))) :: (bm, aBL 90 (.ref w.x)) :: aAe W w c q { m with dl := v.dl, pm := v.pm } (aAM v.pl ++ (Tabs 123 lp aAB (some c') ++ N)))
  (λ v dn => v.pl.map (·.x) = dn /\ aAk v.dl = aAk m.dl /\ ∀ rest, ss' = dn ++ rest -> QnOk c.rw (nsOf { m with dl := v.dl, pm := v.pm }) rest /\ ∃ rr, aCd c.rw (nsOf { m with dl := v.dl, pm := v.pm }) rest = some (rr, sv) /\ v.pl.map (λ p => (p.x, p.tx)) ++ rr = res)
  (aDt ..) (aBg ht Y.yields) ⟨none, [], m.dl, m.pm⟩ ⟨rfl, rfl, λ rest e => by rw [← show ss' = rest from e]; exact ⟨hok, res, hres, rfl⟩⟩ ?_ ?_ ?_
 rotate_left 2
 ·intro x dn rest t tl tg v s6 K hss hH S6 kk
  obtain ⟨hpx, hdl, hR⟩ := hH
  obtain ⟨hok, rr, hres, hpr⟩ := hR _ hss
  obtain ⟨hns, ⟨tx, s1⟩, hqv, hok1⟩ := hok
  have hqv : qnV c.rw (nsOf { m with dl := v.dl, pm := v.pm }) (nmU x) (nmL x) = some (tx, s1) := hqv
  have hok1 : QnOk c.rw s1 rest := hok1
  obtain ⟨rr', hra, hrr⟩ := aGg hres hqv
  refine wpAny_assign_Name (S6.store .head λ s' S' => ?_)
  refine wpAny_bind ?_
  refine S'.local_ (.head _) ?_
  refine wpAny_bind (wpAny_holding ?_)
  refine Call_ ?_ (by kernel_rfl)
  refine Sta.cell S' ⟨by kernel_rfl, rfl, by decide +kernel, by decide +kernel⟩ (c := c2) (.tail _ (.tail _ (.head _))) ?_
  refine aJK (f := 90) (self := .ref w.x) (by rw [I.k]; kernel_rfl) ?_ (by kernel_rfl) (by kernel_rfl)
  refine args_cons ?_ (by kernel_rfl)
  refine S'.local_ (.head _) ?_
  refine args_nil ?_
  refine ⟨S'.methP (.tail _ (.tail _ (.tail _ (.head _)))), ?_⟩
  refine S'.callMeth (.tail _ (.tail _ (.tail _ (.head _)))) ?_
  have hxs : x ∈ ss' := by rw [hss]; simp
  have S7 := S'.perm (nw' := aAe W w c q { m with dl := v.dl, pm := v.pm } ((acc, IsD W acc (pqD v.pl)) :: ((envS L).locals, IsNs loc) :: (c2, aAp (some (.ref bm))) :: (bm, aBL 90 (.ref w.x)) :: ((aAM v.pl ++ (Tabs 123 lp aAB (some c') ++ N)) ++ ([(l, aAa vs)] ++ tl)))) (by simp only [aAe]; walk_at "perm")
  refine aGW I S7 (hA.le (by omega)) (hpl x (hp.mem_iff.mp hxs)) hns hqv ?_
  intro a dl' pm' t1 t2 t3 s7 hs1 hdl' S8
  have hs1 : nsOf { m with dl := dl', pm := pm' } = s1 := hs1
  have hdl2 : aAk dl' = aAk m.dl := hdl'.trans hdl
  have S8 := S8.tell (c' := IsQn x tx) .head λ o _ ho => ⟨t1, t2, t3, ho⟩
  have S9 := S8.perm (nw' := (acc, IsD W acc (pqD v.pl)) :: ((envS L).locals, IsNs loc) :: (c2, aAp (some (.ref bm))) :: (bm, aBL 90 (.ref w.x)) :: (aAe W w c q { m with dl := dl', pm := pm' } (aAM (v.pl ++ [⟨x, a, tx⟩]) ++ (Tabs 123 lp aAB (some c') ++ N)) ++ ([(l, aAa vs)] ++ tl))) (by
   simp only [aAe, aAM, List.map_append, List.map_cons, List.map_nil]; walk_at "perm")
  refine wpAny_bind (wpAny_standAt (wpAny_holding ?_))
  have hnx : x ∉ (pqD v.pl).map (·.1) := by
   rw [aH2, hpx]
   intro m
   rw [hss, List.nodup_append] at hnd'
   exact hnd'.2.2 x m x (.head _) rfl
  have hlen : (pqD v.pl).length <= 64 := by
   have h1 := congrArg List.length hss
   have h2 := hp.length_eq
   have h3 := congrArg List.length hpx
   simp only [pqD, List.length_map, List.length_append] at h1 h3 ⊢
   omega
  refine S9.dictSet (x := x) (v := .ref a) .head (by walk_at "osz") λ s8 S10 => ?_
  rw [aCq hnx] at S10
  refine kk ⟨some (.str x t), v.pl ++ [⟨x, a, tx⟩], dl', pm'⟩ _ ⟨by rw [List.map_append, hpx]; rfl, hdl2, λ rest' e => ?_⟩ ?_
  ·rw [← aC0 hss e, hs1]
   exact ⟨hok1, rr', hra, by rw [← hpr, hrr, List.map_append, List.append_assoc]; rfl⟩
  ·have e : pqD (v.pl ++ [⟨x, a, tx⟩]) = pqD v.pl ++ [(x, .ref a)] := by simp [pqD]
   show Sta _ _ _ _ ((acc, IsD W acc (pqD (v.pl ++ [⟨x, a, tx⟩]))) :: _) _
   rw [e]; exact S10
 ·rw [List.append_nil]
  refine S5.sel (Sel.trans (Sel.of_perm (L2 := (f, aFB aAB (aD7 p0) (aD6 p1 p2 p3 p4 p5) aCW [] c') :: (qs, IsSL W ss) :: ((acc, IsD W acc (pqD [])) :: ((envS L).locals, IsNs loc) :: (c2, aAp (some (.ref bm))) :: (bm, aBL 90 (.ref w.x)) :: aAe W w c q m (aAM [] ++ (Tabs 123 lp aAB (some c') ++ N))) ++ ([(l, aAa vs)] ++ [(it, IsLI l 0)])) ?_) (Sel.drop (Sel.drop (Sel.refl _))))
  simp only [aAe, aAM, pqD, List.map_nil]
  walk_at "perm"
 ·intro v s6 hH S6
  obtain ⟨hpx, hdl, hR⟩ := hH
  obtain ⟨_, rr, hres, hpr⟩ := hR [] (List.append_nil _).symm
  simp only [aCd, Option.some.injEq, Prod.mk.injEq] at hres
  obtain ⟨hr0, hsv⟩ := hres
  rw [← hr0, List.append_nil] at hpr
  refine ⟨.next, ([("n", v.vn)] : Loc), loc2 acc, (acc, IsD W acc (pqD v.pl)) :: (c2, aAp (some (.ref bm))) :: aAe W w c q { m with dl := v.dl, pm := v.pm } (aAM v.pl ++ (Tabs 123 lp aAB (some c') ++ N)), G, rfl, ?_, hput acc, λ s7 S7 => k acc v.pl v.dl v.pm c' s7 hpr hsv hdl S7⟩
  exact S6.sel (Sel.rest [(l, aAa vs), (bm, aBL 90 (.ref w.x))] (by simp only [aAe]; walk_at "perm"))
end
end
section
noncomputable def d2 : NsP := ("", "")
theorem aDO {prog : Program} {w : World} {A : Around} {E : Value -> Shared -> Prop} {s : Shared} {x y : Str} {t u : Tok} {Q : Bool -> Shared -> Prop} (h : Q (decide (x = y)) s) : wpAny (model prog w) A (eqBool (.str x t) (.str y u)) Q E s := aCX prog w E Q h
theorem aI6 {prog : Program} {w : World} {A : Around} {E : Value -> Shared -> Prop} {s : Shared} {x y : Str} {t u : Tok} {Q : Bool -> Shared -> Prop} (h : Q (ltS x y) s) : wpAny (model prog w) A (oneLt' false (.str x t) (.str y u)) Q E s :=
 kat_one _ _ (PyProof.Rows.lt_str h)
theorem aI4 {prog : Program} {w : World} {A : Around} {E : Value -> Shared -> Prop} {s : Shared} {a b : Addr} {p q : NsP} {Q : Bool -> Shared -> Prop} (ha : ∃ o, s.heap.get? a = some o /\ IsPr p o) (hb : ∃ o, s.heap.get? b = some o /\ IsPr q o) (h : Q (lt2 p q) s) : wpAny (model prog w) A (keyLt' (tuples' true) (.ref a) (.ref b)) Q E s := by
 obtain ⟨oa, hoa, t1, t2, n1, rfl⟩ := ha
 obtain ⟨ob, hob, u1, u2, n2, rfl⟩ := hb
 refine kat_lt (b := true) hoa rfl hob rfl ?_
 show KatLex prog w A true _ Q [(.str p.1 t1, .str q.1 u1), (.str p.2 t2, .str q.2 u2)] 0 s
 unfold lt2 at h
 refine kat_cons (aDO ?_)
 by_cases e1 : p.1 = q.1
 ·rw [if_pos e1] at h
  rw [decide_eq_true e1]
  refine kat_yes (kat_cons (aDO ?_))
  by_cases e2 : p.2 = q.2
  ·rw [decide_eq_true e2]
   refine kat_yes (kat_nil ?_)
   have : ltS p.2 q.2 = false := by rw [e2]; exact tot_str.irr _
   rw [this] at h
   exact h
  ·rw [decide_eq_false e2]
   exact kat_no (aI6 h)
 ·rw [if_neg e1] at h
  rw [decide_eq_false e1]
  exact kat_no (oneLt_str h)
theorem aDF {h : Heap} : ∀ {ps : List (Addr × NsP)}, (∀ r ∈ ps, ∃ o, h.get? r.1 = some o /\ IsPr r.2 o) -> ∃ fs, KatTups h (aAd ps) fs /\ fs.length = ps.length /\ ∀ v ∈ fs, ∃ x t, v = .str x t
 | [], _ => ⟨[], trivial, rfl, λ v hv => by cases hv⟩
 | r :: ps, H => by
  obtain ⟨fs, h1, h2, h3⟩ := aDF (ps := ps) λ q hq => H q (.tail _ hq)
  obtain ⟨o, ho, t, u, n, rfl⟩ := H r (.head _)
  refine ⟨.str r.2.1 t :: fs, ⟨⟨r.1, _, _, _, rfl, ho, rfl, rfl, rfl⟩, h1⟩, by simp [h2], λ v hv => ?_⟩
  rcases List.mem_cons.mp hv with rfl | hv
  ·exact ⟨_, _, rfl⟩
  ·exact h3 v hv
section
variable {N : Ledger}
theorem Sta.sortG {α β : Type} {ref : α -> Value} {val : α -> β} {lt : β -> β -> Bool} {κ : SortKind} (T : Tot lt) (d : α) {l : Addr} {ps : List α} {Q : Value -> Shared -> Prop} (h4 : ps.length <= 4) (S : Sta W G env loc ((l, aAa (ps.map ref)) :: N) s)
  (hk : ∀ c s' (Q' : SortKind -> Shared -> Prop), 2 <= ps.length -> Sta W G env loc ((l, c) :: N) s' -> Q' κ s' -> wpAny (model W.prog W.w) A.in1 (keyKind' (ps.map ref).toArray) Q' E s')
  (hc : ∀ c s' x y (E' : Value -> Shared -> Prop) (C : Bool -> Shared -> Prop), x ∈ ps -> y ∈ ps -> Sta W G env loc ((l, c) :: N) s' -> C (lt (val x) (val y)) s' -> wpAny (model W.prog W.w) A.in1 (keyLt' κ (ref x) (ref y)) C E' s')
  (h : ∀ (ps' : List α) s', ps'.map val = srt lt (ps.map val) -> ps'.Perm ps -> Sta W G env loc ((l, aAa (ps'.map ref)) :: N) s' -> Q .none s') : wpAny (model W.prog W.w) A (call (.builtin "list.sort") [.ref l]) Q E s := by
 obtain ⟨n, hl⟩ := S.isL (.head _)
 have hlen : (ps.map ref).length = ps.length := List.length_map ..
 have hg : ∀ i, i < ps.length -> (ps.map ref).getD i .none = ref (ps.getD i d) := λ i hi => by simp [hi]
 have hv : ∀ i, i < ps.length -> (ps.map val).getD i (val d) = val (ps.getD i d) := λ i hi => by simp [hi]
 have hm : ∀ i, i < ps.length -> ps.getD i d ∈ ps := λ i hi => by simp [hi]
 have hz : (List.toArray (ps.map ref)).size <= sizeLine := by rw [List.size_toArray, sizeLine_eq]; omega
 let Rp : Array Nat -> Prop := λ p => Ok ps.length p /\ ∀ i j, i < j -> j < ps.length -> lt (val (ps.getD (p.getD j 0) d)) (val (ps.getD (p.getD i 0) d)) = false
 refine wpAny_call_entry PyProof.Rows.slot_list_sort ⟨_, hl, rfl⟩ PyProof.Rows.entry_list_sort ?_ (args_list_sort _)
 rw [list_sort_plain]
 refine wpAny_bind (listItems_at hl rfl ?_)
 refine wpAny_bind (listUpdate_at hl rfl ?_ hz (Nat.zero_le _))
 have S1 := S.setL (ys := []) hl (λ _ => #[]) rfl .head s.toks
 obtain ⟨e1, hl1⟩ := S1.isL (.head _)
 replace S1 := S1.tell (nw' := (l, aAX (seqObj "list" #[] e1)) :: N) .head λ o ho _ => by rw [hl1] at ho; cases ho; rfl
 refine wpAny_bind (seqEpoch_at hl1 rfl ?_)
 refine wpAny_bind (S1.newTuple (by rw [List.size_toArray] at hz; exact hz) λ tp s2 S2 => ?_)
 refine wpAny_bind (S2.newList (Nat.zero_le _) λ kS s3 S3 => ?_)
 replace S3 := S3.sub (nw' := (l, aAX (seqObj "list" #[] e1)) :: N) ((List.sublist_cons_self _ _).trans (List.sublist_cons_self _ _))
 refine wpAny_holding ?_
 have hend : ∀ (st : SortSt) (p : Array Nat), Rp p -> (arrOf st).map (·.2) = List.toArray (p.toList.map λ i => (ps.map ref).getD i .none) -> failedOf st = none ->
   wpAny (model W.prog W.w) A.in1 (do
    let sorted := (arrOf st).map (·.2)
    let touched := (← seqEpoch l) != e1
    Builtin.List.listUpdate (.ref l) λ _ => sorted
    if let some e := failedOf st then rule "list.sort.comparison-raised"; throw e
    if touched then rule "list.sort.modified"; raiseError "ValueError" "list modified during sort"
    ret .none) (λ fin s'' => ∃ v, fin = .done (.ret v) /\ Q v s'') E s3 := by
  intro st p hp har hf
  have hpl : ∀ i ∈ p.toList, i < ps.length := λ i hi => by have := hp.1.mem_iff.mp hi; simpa using this
  have href : (p.toList.map λ i => (ps.map ref).getD i .none) = (p.toList.map λ i => ps.getD i d).map ref := by
   rw [List.map_map]
   exact List.map_congr_left λ i hi => hg i (hpl i hi)
  have hperm : (p.toList.map λ i => ps.getD i d).Perm ps := by
   have q : List.Perm (p.toList.map λ i => ps.getD i d) ((List.range ps.length).map λ i => ps.getD i d) := hp.1.map _
   have e : (List.range ps.length).map (λ i => ps.getD i d) = ps := by
    apply List.ext_getElem
    ·simp
    ·intro i h1 h2; simp at h1 ⊢; simp [h2]
   rwa [e] at q
  have hval : (p.toList.map λ i => ps.getD i d).map val = srt lt (ps.map val) := by
   have hr := aFI T (l := ps.map val) (d := val d) (p := p) (by rw [List.length_map]; exact hp.1) (λ i j hij hj => by
    rw [List.length_map] at hj
    rw [hv _ (hp.1.lt (by omega) _), hv _ (hp.1.lt (by omega) _)]
    exact hp.2 i j hij hj)
   rw [← hr, List.map_map]
   exact List.map_congr_left λ i hi => (hv i (hpl i hi)).symm
  obtain ⟨o6, ho6, e6⟩ := S3.get (a := l) (.head _)
  have e6 : o6 = seqObj "list" #[] e1 := e6
  subst e6
  refine wpAny_bind (seqEpoch_at ho6 rfl ?_)
  rw [har]
  refine wpAny_bind (listUpdate_at ho6 rfl ?_ (Nat.zero_le _) (by rw [href, List.size_toArray, List.length_map, hperm.length_eq, sizeLine_eq]; omega))
  have S4' := S3.tell (nw' := (l, aAa []) :: N) .head λ o ho e => ⟨e1, e⟩
  obtain ⟨n6, hl6⟩ := S4'.isL (a := l) (.head _)
  have S5 := S4'.setL (ys := (p.toList.map λ i => ps.getD i d).map ref) hl6 (λ _ => List.toArray (p.toList.map λ i => (ps.map ref).getD i .none)) (by rw [href]) .head s3.toks
  rw [hf]
  simp only [bne_self_eq_false, Bool.false_eq_true, if_false]
  exact wpAny_pure ⟨_, rfl, h _ _ hval hperm S5⟩
 by_cases h2 : (ps.map ref).toArray.size < 2
 ·rw [if_pos h2, if_pos h2]
  refine wpAny_bind (wpAny_pure ?_)
  dsimp only
  rw [StateT.run_pure]
  refine wpAny_bind (wpAny_pure ?_)
  rw [List.size_toArray, hlen] at h2
  refine hend _ (List.range ps.length).toArray ⟨.refl _, λ i j hij hj => by omega⟩ ?_ rfl
  show ((ps.map ref).toArray.zip (ps.map ref).toArray).map (·.2) = _
  apply Array.ext'
  rw [List.toList_toArray]
  apply List.ext_getElem
  ·simp [hlen]
  ·intro i h1 h3
   simp at h1 h3
   simp [h1]
 ·rw [if_neg h2, if_neg h2]
  rw [List.size_toArray, hlen] at h2
  refine wpAny_bind (hk _ _ _ (by omega) S3 ?_)
  refine wpAny_bind ?_
  have ask : (kas_sort (ps.map ref).length).kasWp (kas_ask W.prog W.w A.in1 κ (ps.map ref)) (λ p s'' => Rp p /\ s'' = s3) s3 := by
   rw [hlen]
   refine KRun.wp (λ i j hi hj C hC => ?_) (λ p hp => ⟨hp, rfl⟩) (aDy T (λ i => val (ps.getD i d)) (n := ps.length) (by omega) h4)
   unfold kas_ask
   rw [hg i hi, hg j hj]
   exact hc _ _ _ _ _ _ (hm i hi) (hm j hj) S3 hC
  refine wpAny_mono (kat_run (Q := λ st' s'' => ∃ p : Array Nat, Rp p /\ arrOf st' = p.map (kas_item ((ps.map ref).toArray.zip (ps.map ref).toArray)) /\ failedOf st' = none /\ s'' = s3) rfl (by omega) (by omega) (λ p' st' s'' a1 a2 a3 a4 => ⟨p', a4.1, a2, a3, a4.2⟩) ask) ?_ λ _ _ e => e
  rintro ⟨⟨⟩, st'⟩ s'' ⟨p, hp, har, hf, rfl⟩
  exact hend st' p hp (kat_snds rfl har) hf
theorem Sta.sortPs {l : Addr} {ps : List (Addr × NsP)} {Q : Value -> Shared -> Prop} (h4 : ps.length <= 4) (S : Sta W G env loc ((l, aAa (aAd ps)) :: (aAg ps ++ N)) s)
  (h : ∀ ps' s', ps'.map (·.2) = srt lt2 (ps.map (·.2)) -> ps'.Perm ps -> Sta W G env loc ((l, aAa (aAd ps')) :: (aAg ps' ++ N)) s' -> Q .none s') : wpAny (model W.prog W.w) A (call (.builtin "list.sort") [.ref l]) Q E s := by
 refine Sta.sortG (val := λ q : Addr × NsP => q.2) (κ := tuples' true) tot_2 (0, d2) h4 S (λ c s' Q' h2 S' hQ => ?_) (λ c s' x y E' C hx hy S' hC => ?_) λ (ps' : List (Addr × NsP)) s' hv hp S' => h ps' s' hv hp (S'.perm (.cons _ ((List.Perm.map _ hp.symm).append_right N)))
 ·obtain ⟨fs, hk1, hk2, hk3⟩ := aDF (h := s'.heap) (ps := ps) λ r hr => S'.get (a := r.1) (c := IsPr r.2) (.tail _ (List.mem_append_left _ (List.mem_map.mpr ⟨r, hr, rfl⟩)))
  refine kat_kind (T := .type "str") hk1 (by omega) (λ v hv => ?_) (by decide) hQ
  obtain ⟨x, t, rfl⟩ := hk3 v hv
  exact .now
 ·exact aI4 (S'.get (a := x.1) (c := IsPr x.2) (.tail _ (List.mem_append_left _ (List.mem_map.mpr ⟨x, hx, rfl⟩)))) (S'.get (a := y.1) (c := IsPr y.2) (.tail _ (List.mem_append_left _ (List.mem_map.mpr ⟨y, hy, rfl⟩)))) hC
end
end
section
section
variable {N : Ledger}
theorem Sta.many (S : Sta W G env loc nw s) {h' : Heap} (hk : ∀ b o, s.heap.get? b = some o -> h'.get? b = some o) (L : Ledger) (hnd : (L.map Prod.fst).Nodup) (hnew : ∀ p ∈ L, s.heap.objs.size <= p.1) (hh : ∀ p ∈ L, ∃ o, h'.get? p.1 = some o /\ p.2 o) (tk : Nat) : Sta W G env loc (L ++ nw) { s with heap := h', toks := tk } := by
 refine ⟨S.ok, S.eok, ?_, S.bare, S.os, S.gens, S.gnd⟩
 have D := S.led.grow hk
 have hold : ∀ p ∈ (env.locals, IsNs loc) :: nw, p.1 < s.heap.objs.size := λ p hp => by
  obtain ⟨o2, ho2, _⟩ := (S.led.own p hp).2
  exact Heap.lt_size ho2
 have D2 : Led W.B (L ++ ((env.locals, IsNs loc) :: nw)) h' := by
  refine ⟨D.keep, λ p hp => ?_, ?_⟩
  ·rcases List.mem_append.mp hp with hp | hp
   ·refine ⟨?_, hh p hp⟩
    cases q : W.B.get? p.1 with
    | none => rfl
    | some o2 => exact absurd (hnew p hp) (Nat.not_le.mpr (Heap.lt_size (S.led.keep _ _ q)))
   ·exact D.own p hp
  ·rw [List.map_append, List.nodup_append]
   refine ⟨hnd, D.nodup, λ a ha b hb => ?_⟩
   obtain ⟨p, hp, rfl⟩ := List.mem_map.mp ha
   obtain ⟨r, hr, rfl⟩ := List.mem_map.mp hb
   have h1 := hnew p hp
   have h2 := hold r hr
   exact λ e => absurd h1 (by rw [e]; exact Nat.not_le.mpr h2)
 exact D2.perm List.perm_middle
noncomputable def atV (l : List (Str × Str × Tok)) : List (Str × Value) := l.map λ p => (p.1, .str p.2.1 p.2.2)
theorem Sta.sortedItems {r d : Addr} {l : List (Str × Str × Tok)} {Q : Value -> Shared -> Prop} (S : Sta W G env loc nw s) (hh : A.handled = none) (mv : (r, aCN d) ∈ nw) (md : (d, IsD W d (atV l)) ∈ nw) (h4 : l.length <= 4)
  (h : ∀ b ps s', ps.map (·.2) = srt lt2 (l.map λ p => (p.1, p.2.1)) -> Sta W G env loc ((b, aAa (aAd ps)) :: (aAg ps ++ nw)) s' -> Q (.ref b) s') : wpAny (model W.prog W.w) A (call (.builtin "sorted") [.ref r]) Q E s := by
 obtain ⟨o, ho, rfl⟩ := S.get mv
 obtain ⟨hd, hn⟩ := S.dictAt md
 obtain ⟨ep, hat⟩ := hd.dictAt
 have hll : (atV l).length = l.length := List.length_map ..
 refine Calls.call_function_entry kind_sorted plain_sorted entry_sorted (args_sorted1 _) ?_
 refine wpAny_bind (m := checkCount "sorted" 1 1 _) (wpAny_pure ?_)
 refine wpAny_bind (kdx_collect (A := A.in1) (knd := PySem.strKind W.prog W.w) (kvs := atV l) (ep := ep) hh ⟨_, ho, rfl, rfl⟩ hat (by rw [hll, sizeLine_eq]; omega) λ h' tk as hk hl hG => ?_)
 have hal : as.length = l.length := hl.trans hll
 let ps : List (Addr × NsP) := as.zip (l.map λ p => (p.1, p.2.1))
 have hps1 : ps.map (·.1) = as := List.map_fst_zip (by rw [List.length_map]; omega)
 have hps2 : ps.map (·.2) = l.map λ p => (p.1, p.2.1) := List.map_snd_zip (by rw [List.length_map]; omega)
 have S1 : Sta W G env loc (aAg ps ++ nw) { s with heap := h', toks := tk } := by
  refine S.many hk (aAg ps) ?_ ?_ ?_ tk
  ·have e : (aAg ps).map Prod.fst = as := by rw [← hps1]; simp [aAg]
   rw [e]
   exact hG.rise.imp λ hlt => Nat.ne_of_lt hlt
  ·intro p hp
   obtain ⟨q, hq, rfl⟩ := List.mem_map.mp hp
   have : q.1 ∈ as := by rw [← hps1]; exact List.mem_map.mpr ⟨q, hq, rfl⟩
   exact Nat.le_of_lt (hG.above _ this)
  ·intro p hp
   obtain ⟨q, hq, rfl⟩ := List.mem_map.mp hp
   obtain ⟨j, hj, rfl⟩ := List.getElem_of_mem hq
   have hja : j < as.length := by have := congrArg List.length hps1; rw [List.length_map] at this; omega
   have hjl : j < l.length := by omega
   have ez : ps[j] = (as[j], (l[j].1, l[j].2.1)) := by simp [ps]
   obtain ⟨key, k, x', e1, e2, e3⟩ := hG.pairs j as[j] (List.getElem?_eq_getElem hja)
   have e1' : (l[j].1, Value.str l[j].2.1 l[j].2.2) = (k, x') := by
    have : (atV l)[j]? = some (l[j].1, .str l[j].2.1 l[j].2.2) := by simp [atV, hjl]
    rw [this] at e1
    exact Option.some.inj e1
   cases e1'
   obtain ⟨t, rfl⟩ : ∃ t, key = .str l[j].1 t := by
    cases key with
    | str y t => exact ⟨t, by rw [aJj e2]⟩
    | _ => first | cases e2 | exact absurd e2 (by simp [PySem.strKind, Value.isStrOf])
   rw [ez]
   exact ⟨_, e3, t, _, 0, rfl⟩
 have href : as.map Value.ref = aAd ps := by rw [← hps1]; simp [aAd]
 rw [href]
 refine wpAny_bind (S1.newList (by have : (aAd ps).length = as.length := (by rw [← href, List.length_map]); rw [this, sizeLine_eq]; omega) λ b s2 S2 => ?_)
 refine wpAny_bind (wpAny_holding (S2.sortPs (by have : ps.length = as.length := (by rw [← hps1, List.length_map]); omega) λ ps' s3 hv hp S3 => ?_))
 rw [hps2] at hv
 exact wpAny_pure ⟨_, rfl, h b ps' s3 hv S3⟩
end
end
section
noncomputable abbrev lamP : Pos := ⟨139, 71, 139, 96⟩
noncomputable abbrev locM (tag : Str) (t : Tok) (d nn : Addr) (vqt vk vv vqs vrn vqn vqa van vvl vpq vuri val vaq vsb vwr : Option Value) : Loc := [("tag", some (.str tag t)), ("attrs", some (.ref d)), ("new_namespaces", some (.ref nn)), ("qname_text", vqt), ("k", vk), ("v", vv), ("qnames", vqs), ("resolved_names", vrn), ("qname", vqn), ("qattrs", vqa), ("attr_name", van), ("value", vvl), ("parsed_qnames", vpq), ("uri", vuri), ("attr_list", val), ("attr_qname", vaq), ("space_behaviour", vsb), ("write", vwr)]
noncomputable def xnT (p : Str) : Str := if p.length = 0 then "xmlns" else "xmlns:" ++ p
noncomputable def xnP (q : NsP) : NsP := (xnT q.2, q.1)
noncomputable def topV (ls : List (List NsP)) : List NsP := ls.getLastD []
noncomputable abbrev aHl (st : Stmt) : List Stmt := aAm st
noncomputable def xnStmt : Stmt := (aHl ((aAm aAz).getD 7 (.Pass default))).getD 0 (.Pass default)
theorem aIJ (p : Str) : (xnT p).length <= p.length + 6 := by
 have h1 : ("xmlns" : Str).length = 5 := by decide +kernel
 have h2 : ("xmlns:" : Str).length = 6 := by decide +kernel
 unfold xnT
 split
 ·omega
 ·rw [Str.length_append]; omega
section
variable {w : Wn} {c : Wc} {q : Addr} {m : Wm} {N : Ledger}
theorem Sta.pushPr {b tp : Addr} {qs : List (Addr × NsP)} {u p : Str} {t t' : Tok} {Q : Value -> Shared -> Prop} (hz : qs.length <= 1000) (S : Sta W G env loc ((tp, aAo [.str u t, .str p t']) :: (b, aAa (aAd qs)) :: (aAg qs ++ N)) s)
  (h : ∀ s', Sta W G env loc ((b, aAa (aAd (qs ++ [(tp, u, p)]))) :: (aAg (qs ++ [(tp, u, p)]) ++ N)) s' -> Q .none s') : wpAny (model W.prog W.w) A (call (.builtin "list.append") [.ref b, .ref tp]) Q E s := by
 have S1 := (S.tell (c' := IsPr (u, p)) .head λ o _ ho => ⟨_, _, ho⟩).perm (List.Perm.swap ..)
 refine S1.append .head (by rw [sizeLine_eq]; simp [aAd]; omega) λ s' S2 => h s' (S2.perm ?_)
 rw [aCK, aBN]
 show List.Perm ((b, aAa (aAd qs ++ [.ref tp])) :: (tp, IsPr (u, p)) :: (aAg qs ++ N)) ((b, aAa (aAd qs ++ [.ref tp])) :: ((aAg qs ++ [(tp, IsPr (u, p))]) ++ N))
 walk_at "perm"
theorem xn_ {L d nn : Addr} {tag : Str} {t : Tok} {ps : List (Addr × NsP)} {vqt vk vv vqs vrn vqn vqa van vvl vpq vuri vaq vsb vwr : Option Value} {Q : Flow -> Shared -> Prop} (I : IsC W) (hA : Aok 10 A) (h60 : ps.length <= 60) (hsm : ∀ r ∈ ps, aCE r.2)
  (S' : Sta W G (envS L) (locM tag t d nn vqt vk vv vqs vrn vqn vqa van vvl vpq vuri none vaq vsb vwr) ((nn, aAa (aAd ps)) :: (aAg ps ++ N)) s)
  (k : ∀ al qs s', qs.map (·.2) = ps.map (λ r => xnP r.2) -> Sta W G (envS L) (locM tag t d nn vqt vk vv vqs vrn vqn vqa van vvl vpq vuri (some (.ref al)) vaq vsb vwr) ((al, aAa (aAd qs)) :: (aAg qs ++ ((nn, aAa (aAd ps)) :: (aAg ps ++ N)))) s' -> Q .next s')
  (st : Stmt) (hst : st = xnStmt) : wpAny (model W.prog W.w) A (exec st (envS L)) Q E s := by
 subst hst
 refine aA6 (cl := []) ["uri", "prefix"] (by kernel_rfl) (by kernel_rfl) (by kernel_rfl) rfl rfl ?_ (by intro _; kernel_rfl)
 refine S'.local_ (by walk_at "mem") ?_
 refine S'.iterL (.head _) ?_
 clear S'; intro it s' S'
 refine ⟨G, _, _, S', ?_⟩
 intro b Cc s1 eok S1
 refine aAQ rfl rfl aBF (S1.get (.tail _ (.tail _ (.head _)))) ?_
 generalize hloc0 : locM tag t d nn vqt vk vv vqs vrn vqn vqa van vvl vpq vuri none vaq vsb vwr = loc0 at S1
 have Y : LY W [(nn, aAa (aAd ps))] it (aAd ps) [(it, IsLI nn 0)] := aAU (own₀ := []) (by simp [aAd]) (aAd ps) 0 rfl
 have S2 := S1.perm (nw' := ((b, aAa (aAd [])) :: (aAg [] ++ (((envS L).locals, IsNs loc0) :: (aAg ps ++ N)))) ++ ([(nn, aAa (aAd ps))] ++ [(it, IsLI nn 0)])) (by simp only [aAd, aAg, List.map_nil, List.nil_append]; walk_at "perm")
 clear S' S1
 refine aEe (sh := [(nn, aAa (aAd ps))]) (f := λ (r : Addr × NsP) => .ref r.1) (hA.le (by first | decide | omega)) (G := G) (og := []) (own := [(it, IsLI nn 0)]) (λ (v : List (Addr × NsP) × Option Value × Option Value) _ => [("uri", v.2.1), ("prefix", v.2.2)]) (λ v _ => (b, aAa (aAd v.1)) :: (aAg v.1 ++ (((envS L).locals, IsNs loc0) :: (aAg ps ++ N)))) (λ v dn => v.1.map (·.2) = dn.map (λ r => xnP r.2)) (compTurn_list1 ..) (aAS Y.yields) ([], none, none) rfl (by rw [List.append_nil]; exact S2) ?_ ?_
 rotate_left
 ·refine pr3 ?_
  intro ra ru rp dn rest tl tg vv s1 K hp hq S' kk
  clear S2
  replace hq : vv.1.map (·.2) = dn.map (λ r => xnP r.2) := hq
  have hrm : (ra, ru, rp) ∈ ps := by rw [hp]; simp
  have hrl : rp.length <= 1000 := (hsm _ hrm).2
  have hmq : (ra, IsPr (ru, rp)) ∈ (aAg vv.1 ++ (((envS L).locals, IsNs loc0) :: (aAg ps ++ N))) ++ ((nn, aAa (aAd ps)) :: tl) := List.mem_append_left _ (List.mem_append_right _ (.tail _ (List.mem_append_left _ (List.mem_map.mpr ⟨_, hrm, rfl⟩))))
  have hql : vv.1.length <= 1000 := by
   have h1 := congrArg List.length hq
   have h2 := congrArg List.length hp
   simp only [List.length_map, List.length_append] at h1 h2
   omega
  walk_at "zd"
  simp only [List.cons_append, List.nil_append] at S'
  refine Sta.unpackPr S' hA.handled (by walk_at "mem") (by kernel_rfl) (by kernel_rfl) ?_
  clear S'; intro t1 t2 s' S'
  refine assignInOrder_cons ?_
  refine assign_Name ?_
  walk_at "c"
  refine assignInOrder_cons ?_
  refine assign_Name ?_
  walk_at "c"
  refine assignInOrder_nil ?_
  refine wpAny_bind ?_
  walk_at "c"
  have e1 : ∀ a : Addr, (vv.1 ++ [(a, xnT rp, ru)]).map (·.2) = (dn ++ [(ra, ru, rp)]).map (λ r => xnP r.2) := λ a => by rw [List.map_append, List.map_append, hq]; rfl
  refine aBd S' (by omega) (λ h0 => ?_) (λ h0 => ?_)
  ·clear S'; intro s' S'
   have ht : xnT rp = "xmlns" := if_pos h0
   rw [ht] at e1
   walk_at "c"
   refine wpAny_bind (Sta.pushPr hql (S'.perm (nw' := (a', aAo [.str "xmlns" t', .str ru t1]) :: (b, aAa (aAd vv.1)) :: (aAg vv.1 ++ ((((envS L).locals, IsNs loc0) :: (aAg ps ++ N)) ++ ((nn, aAa (aAd ps)) :: tl)))) (by walk_at "perm")) λ s' S' => wpAny_pure ?_)
   exact kk (_, some (.str ru t1), some (.str rp t2)) _ (e1 a') (S'.perm (nw' := ((b, aAa (aAd (vv.1 ++ [(a', ("xmlns" : Str), ru)]))) :: (aAg (vv.1 ++ [(a', ("xmlns" : Str), ru)]) ++ (((envS L).locals, IsNs loc0) :: (aAg ps ++ N)))) ++ ([(nn, aAa (aAd ps))] ++ tl)) (by walk_at "perm"))
  ·clear S'; intro s' S'
   have ht : xnT rp = "xmlns:" ++ rp := if_neg h0
   have h1 : ("xmlns:" : Str).length = 6 := by decide +kernel
   rw [ht] at e1
   walk_at "c"
   refine wpAny_bind (Sta.pushPr hql (S'.perm (nw' := (a', aAo [.str ("xmlns:" ++ rp) t', .str ru t1]) :: (b, aAa (aAd vv.1)) :: (aAg vv.1 ++ ((((envS L).locals, IsNs loc0) :: (aAg ps ++ N)) ++ ((nn, aAa (aAd ps)) :: tl)))) (by walk_at "perm")) λ s' S' => wpAny_pure ?_)
   exact kk (_, some (.str ru t1), some (.str rp t2)) _ (e1 a') (S'.perm (nw' := ((b, aAa (aAd (vv.1 ++ [(a', "xmlns:" ++ rp, ru)]))) :: (aAg (vv.1 ++ [(a', "xmlns:" ++ rp, ru)]) ++ (((envS L).locals, IsNs loc0) :: (aAg ps ++ N)))) ++ ([(nn, aAa (aAd ps))] ++ tl)) (by walk_at "perm"))
 ·intro vv s1 hq S1
  subst hloc0
  refine ⟨.next, ([("uri", vv.2.1), ("prefix", vv.2.2)] : Loc), _, (b, aAa (aAd vv.1)) :: (aAg vv.1 ++ ((nn, aAa (aAd ps)) :: (aAg ps ++ N))), G, rfl, S1.perm (by walk_at "perm"), by simp only [locM]; walk_at "put", λ s3 S3 => k b vv.1 s3 hq S3⟩
end
end
section
noncomputable def xnR (ls : List (List NsP)) : List NsP := srt lt2 ((topV ls).map xnP)
theorem aDc {dl : List Lv} {d0 : List Lv} {lv : Lv} (h : aAk dl = aAk (d0 ++ [lv])) : ∃ d1 lv1, dl = d1 ++ [lv1] /\ lv1.a = lv.a := by
 have hne : dl ≠ [] := by
  intro e
  subst e
  simp [aAk] at h
 refine ⟨dl.dropLast, dl.getLast hne, (List.dropLast_concat_getLast hne).symm, ?_⟩
 have h1 := congrArg List.getLast? h
 rw [aBz] at h1
 rw [← List.dropLast_concat_getLast hne, aBz] at h1
 injection h1 with h1
 injection h1
theorem aGC {dl : List Lv} {d1 : List Lv} {lv : Lv} (h : dl = d1 ++ [lv]) : topV (dl.map Lv.val) = lv.val := by
 subst h
 unfold topV
 rw [List.map_append]
 simp [List.getLastD_eq_getLast?]
section
variable {w : Wn} {c : Wc} {q : Addr} {m : Wm} {N : Ledger}
theorem Sta.truthyR {a : Addr} {ps : List (Addr × NsP)} {Q : Bool -> Shared -> Prop} (S : Sta W G env loc nw s) (m : (a, aAa (aAd ps)) ∈ nw) (hz : ps.length <= 1000) (h : ∀ s', Sta W G env loc nw s' -> Q (!ps.isEmpty) s') : wpAny (model W.prog W.w) A (truthy (.ref a)) Q E s := by
 have e : (aAd ps).isEmpty = ps.isEmpty := by cases ps <;> rfl
 refine Sta.truthyL S m (by rw [sizeLine_eq]; simp [aAd]; omega) λ s' S' => ?_
 rw [e]
 exact h s' S'
theorem aIU {L d nn c1 c2 qs : Addr} {tag : Str} {t : Tok} {c? : Option Addr} {ss : List Str} {res : List (Str × Str)} {sv : NSt} {d0 : List Lv} {lv : Lv} {vqt vk vv vrn vqn vqa van vvl vuri vaq vsb vwr : Option Value} {Q : Flow -> Shared -> Prop} (I : IsC W) (C : CodeHd W.B 125 123) (hA : Aok 22 A)
  (hself : CellOk (envS L) .cell "self" c1) (hpq : CellOk (envS L) .cell "parse_qname" c2) (hd : m.dl = d0 ++ [lv]) (hnn : lv.a = nn)
  (hnd : ss.Nodup) (hpl : ∀ x ∈ ss, NmG x) (h4 : ss.length <= 4) (hinj : ∀ x ∈ ss, ∀ y ∈ ss, aAK x = aAK y -> x = y)
  (hok : QnOk c.rw (nsOf m) (srt (ltK aAK) ss)) (hres : aCd c.rw (nsOf m) (srt (ltK aAK) ss) = some (res, sv)) (ht4 : (topV sv.decl).length <= 4) (hsm : ∀ r ∈ topV sv.decl, aCE r)
  (S' : Sta W G (envS L) (locM tag t d nn vqt vk vv (some (.ref qs)) vrn vqn vqa van vvl none vuri none vaq vsb vwr) ((c1, aAp (some (.ref w.x))) :: (c2, aAp none) :: (qs, IsSL W ss) :: aAe W w c q m (Tabs 123 lamP aAB c? ++ N)) s)
  (k : ∀ acc al pl ps dl pm c' s', pl.map (λ p => (p.x, p.tx)) = res -> nsOf { m with dl := dl, pm := pm } = sv -> aAk dl = aAk m.dl -> ps.map (·.2) = xnR sv.decl ->
   Sta W G (envS L) (locM tag t d nn vqt vk vv (some (.ref qs)) vrn vqn vqa van vvl (some (.ref acc)) vuri (some (.ref al)) vaq vsb vwr) ((al, aAa (aAd ps)) :: (aAg ps ++ ((acc, IsD W acc (pqD pl)) :: (c1, aAp (some (.ref w.x))) :: aAe W w c q { m with dl := dl, pm := pm } (aAM pl ++ (Tabs 123 lamP aAB (some c') ++ N))))) s' ->
   wpAny (model W.prog W.w) A (execs ((aAm aAz).drop 8) (envS L)) Q E s') :
  wpAny (model W.prog W.w) A (execs ((aAm aAz).drop 5) (envS L)) Q E s := by
 have hcl := I.cl
 walk_at "zd"
 walk_at "c"
 refine Sta.getBound (f := 90) S' hcl (by walk_at "mem") (by walk_at "mem") VV.keys (by decide +kernel) (by rw [I.k]; kernel_rfl) (by rw [I.k]; kernel_rfl) (by rw [I.k]; kernel_rfl) (by rw [I.k]; kernel_rfl) (by decide +kernel) ?_
 clear S'; intro bm s' S'
 refine Sta.storeC S' hpq (by walk_at "upd") ?_
 clear S'; intro s' S'
 walk_at "kn"
 refine aAi rfl ?_
 have S2 := S'.perm (nw' := Tabs 123 lamP aAB c? ++ ((qs, IsSL W ss) :: (c2, aAp (some (.ref bm))) :: (bm, aBL 90 (.ref w.x)) :: aAe W w c q m ((c1, aAp (some (.ref w.x))) :: N))) (by simp only [aAe]; walk_at "perm")
 clear S'
 refine pq_ (loc2 := λ acc => locM tag t d nn vqt vk vv (some (.ref qs)) vrn vqn vqa van vvl (some (.ref acc)) vuri none vaq vsb vwr) I C (hA.le (by first | decide | omega)) (by kernel_rfl) (λ acc => by simp only [locM]; walk_at "put") (by decide) hpq (by walk_at "mem") hnd hpl h4 hinj hok hres S2 ?_
 intro acc pl dl pm c' s3 hpr hsv hdl S3
 clear S2
 obtain ⟨d1, lv1, hdl1, hla⟩ := aDc (hdl.trans (by rw [hd]))
 have hla : lv1.a = nn := hla.trans hnn
 subst hdl1
 have htop : topV sv.decl = lv1.val := by rw [← hsv]; exact aGC rfl
 rw [htop] at ht4 hsm
 have hlz : lv1.ps.length <= 4 := by rw [← List.length_map (f := (·.2)) (as := lv1.ps)]; exact ht4
 have S' := S3.sel (nw' := (nn, aAa (aAd lv1.ps)) :: (aAg lv1.ps ++ ((acc, IsD W acc (pqD pl)) :: (c1, aAp (some (.ref w.x))) :: (w.x, aAu 150 w.dx) :: (w.dx, aAl (vvOf w c q { m with dl := d1 ++ [lv1], pm := pm })) :: (w.d, aAb m.held) :: (w.dns, aAa (aAk (d1 ++ [lv1]))) :: (w.ns, aAa (aAk m.nl)) :: (w.pm, IsD W w.pm (pmV pm)) :: (w.ps, aAa (m.ps.map .bool)) :: (aAr d1 ++ (aAr m.nl ++ (aAM pl ++ (Tabs 123 lamP aAB (some c') ++ N))))))) (by
  refine Sel.rest [(c2, aAp (some (.ref bm)))] ?_
  rw [← hla]
  simp only [aAe]
  rw [aAD]
  show List.Perm ((acc, IsD W acc (pqD pl)) :: (c2, aAp (some (.ref bm))) :: (w.x, aAu 150 w.dx) :: (w.dx, aAl (vvOf w c q { m with dl := d1 ++ [lv1], pm := pm })) :: (w.d, aAb m.held) :: (w.dns, aAa (aAk (d1 ++ [lv1]))) :: (w.ns, aAa (aAk m.nl)) :: (w.pm, IsD W w.pm (pmV pm)) :: (w.ps, aAa (m.ps.map .bool)) :: ((aAr d1 ++ ((lv1.a, aAa (aAd lv1.ps)) :: (aAg lv1.ps ++ []))) ++ (aAr m.nl ++ (aAM pl ++ (Tabs 123 lamP aAB (some c') ++ ((c1, aAp (some (.ref w.x))) :: N)))))) _
  walk_at "perm")
 clear S3
 have hback : ∀ al ps s', ps.map (·.2) = xnR sv.decl -> Sta W G (envS L) (locM tag t d nn vqt vk vv (some (.ref qs)) vrn vqn vqa van vvl (some (.ref acc)) vuri (some (.ref al)) vaq vsb vwr) ((al, aAa (aAd ps)) :: (aAg ps ++ ((nn, aAa (aAd lv1.ps)) :: (aAg lv1.ps ++ ((acc, IsD W acc (pqD pl)) :: (c1, aAp (some (.ref w.x))) :: (w.x, aAu 150 w.dx) :: (w.dx, aAl (vvOf w c q { m with dl := d1 ++ [lv1], pm := pm })) :: (w.d, aAb m.held) :: (w.dns, aAa (aAk (d1 ++ [lv1]))) :: (w.ns, aAa (aAk m.nl)) :: (w.pm, IsD W w.pm (pmV pm)) :: (w.ps, aAa (m.ps.map .bool)) :: (aAr d1 ++ (aAr m.nl ++ (aAM pl ++ (Tabs 123 lamP aAB (some c') ++ N)))))))))  s' ->
   wpAny (model W.prog W.w) A (execs ((aAm aAz).drop 8) (envS L)) Q E s' := by
  intro al ps s' hps S2
  refine k acc al pl ps (d1 ++ [lv1]) pm c' s' hpr hsv hdl hps (S2.perm ?_)
  rw [← hla]
  simp only [aAe]
  rw [aAD]
  show List.Perm _ ((al, aAa (aAd ps)) :: (aAg ps ++ ((acc, IsD W acc (pqD pl)) :: (c1, aAp (some (.ref w.x))) :: (w.x, aAu 150 w.dx) :: (w.dx, aAl (vvOf w c q { m with dl := d1 ++ [lv1], pm := pm })) :: (w.d, aAb m.held) :: (w.dns, aAa (aAk (d1 ++ [lv1]))) :: (w.ns, aAa (aAk m.nl)) :: (w.pm, IsD W w.pm (pmV pm)) :: (w.ps, aAa (m.ps.map .bool)) :: ((aAr d1 ++ ((lv1.a, aAa (aAd lv1.ps)) :: (aAg lv1.ps ++ []))) ++ (aAr m.nl ++ (aAM pl ++ (Tabs 123 lamP aAB (some c') ++ N)))))))
  walk_at "perm"
 refine aAi rfl ?_
 refine wpAny_If ?_
 refine isTrue_plain ?_ (by kernel_rfl)
 refine S'.local_ (by walk_at "mem") ?_
 refine Sta.truthyR S' (.head _) (by omega) ?_
 clear S'; intro s' S'
 cases hps : lv1.ps with
 | nil =>
  walk_at "zd"
  rw [hps] at S' hback
  refine aBt ?_
  refine wpAny_execs_cons ?_
  iterate 4 walk_at "cw"
  refine S'.store (by simp only [locM]; walk_at "put") λ s' S' => ?_
  walk_at "kn"
  refine hback a' [] s' ?_ S'
  show [] = xnR sv.decl
  unfold xnR
  rw [htop]
  simp only [Lv.val, hps]
  rfl
 | cons r rr =>
  refine aB3 ?_
  refine wpAny_execs_cons ?_
  refine xn_ (ps := lv1.ps) I (hA.le (by decide)) (by omega) (λ r hr => hsm _ (List.mem_map.mpr ⟨r, hr, rfl⟩)) S' ?_ _ rfl
  clear S'; intro al qs' s' hqs S'
  refine aAs ?_
  walk_at "zd"
  walk_at "c"
  refine Sta.getM_list S' (.head _) PyProof.Rows.slot_list_sort PySem.F.type_list_sort ?_
  have hq4 : qs'.length <= 4 := by
   have := congrArg List.length hqs
   simp only [List.length_map] at this
   omega
  refine aCM ?_
  refine S'.sortPs hq4 ?_
  clear S'; intro ps' s' h1 h2 S'
  walk_at "kn"
  refine aBS (by decide) ?_
  refine hback al ps' s' ?_ S'
  rw [h1, hqs]
  unfold xnR
  rw [htop]
  simp only [Lv.val, List.map_map]
  rfl
end
end
section
noncomputable def txOf (res : List (Str × Str)) (k : Str) : Str := ((res.find? λ r => decide (r.1 = k)).map (·.2)).getD ""
noncomputable def atP (res : List (Str × Str)) (q : NsP) : NsP := (if (nmU q.1).length = 0 then nmL q.1 else txOf res q.1, q.2)
noncomputable def atR (res : List (Str × Str)) (l : List NsP) : List NsP := (srt lt2 l).map (atP res)
noncomputable def atQ (l : List (Str × Str × Tok)) : List NsP := l.map λ p => (p.1, p.2.1)
theorem aF7 (l : List (Str × Str × Tok)) : (atV l).map (·.1) = (atQ l).map (·.1) := by simp [atV, atQ, List.map_map, Function.comp_def]
theorem aFc {res : List (Str × Str)} {k : Str} : ∀ {pl : List Pq}, pl.map (λ p => (p.x, p.tx)) = res -> k ∈ res.map (·.1) -> ∃ p ∈ pl, p.x = k /\ p.tx = txOf res k /\ valueAt (pqD pl) k = some (.ref p.a)
 | [], h, hk => by subst h; cases hk
 | p :: r, h, hk => by
  subst h
  by_cases e : p.x = k
  ·refine ⟨p, .head _, e, ?_, ?_⟩
   ·simp [txOf, e]
   ·simp [valueAt, pqD, e]
  ·have hk' : k ∈ ((r.map λ p => (p.x, p.tx)).map (·.1)) := by
    rcases List.mem_cons.mp hk with h1 | h1
    ·exact absurd h1.symm e
    ·exact h1
   obtain ⟨p', h1, h2, h3, h4⟩ := aFc (pl := r) rfl hk'
   refine ⟨p', .tail _ h1, h2, ?_, ?_⟩
   ·rw [h3]; simp [txOf, e]
   ·rw [← h4]; simp [valueAt, pqD, e]
section
variable {w : Wn} {c : Wc} {q : Addr} {m : Wm} {N : Ledger}
theorem aIV {L d nn c1 : Addr} {tag : Str} {t : Tok} {kvs : List (Str × Value)} {vk vv van vvl vuri vaq vsb vwr : Option Value} {Q : Flow -> Shared -> Prop} (I : IsC W) (hA : Aok 22 A)
  (hself : CellOk (envS L) .cell "self" c1) (hx : tag ∉ kvs.map (·.1)) (hz : kvs.length <= 3)
  (S' : Sta W G (envS L) (locM tag t d nn (some .none) vk vv none none none none van vvl none vuri none vaq vsb vwr) ((c1, aAp (some (.ref w.x))) :: (d, IsD W d kvs) :: aAe W w c q m N) s)
  (k : ∀ qs vrn s', Sta W G (envS L) (locM tag t d nn (some .none) vk vv (some (.ref qs)) vrn none (some .none) van vvl none vuri none vaq vsb vwr) ((qs, IsSL W (tag :: kvs.map (·.1))) :: (c1, aAp (some (.ref w.x))) :: (d, IsD W d kvs) :: aAe W w c q m N) s' ->
   wpAny (model W.prog W.w) A (execs ((aAm aAz).drop 5) (envS L)) Q E s') :
  wpAny (model W.prog W.w) A (execs ((aAm aAz).drop 0) (envS L)) Q E s := by
 have hcl := I.cl
 obtain ⟨oc, vs, hoc, hdc, hfl⟩ : ∃ oc vs, W.K.lookup 125 = some oc /\ oc.data = .fields vs /\ ∃ f tf, vs.getD 18 .none = .str f tf := by
  rw [I.k]
  exact ⟨(obAt (KK W.w.params) 125), (match (obAt (KK W.w.params) 125).data with | .fields vs => vs | _ => #[]), by kernel_rfl, by kernel_rfl, (match (match (obAt (KK W.w.params) 125).data with | .fields vs => vs | _ => #[]).getD 18 .none with | .str f _ => f | _ => Str.empty), (match (match (obAt (KK W.w.params) 125).data with | .fields vs => vs | _ => #[]).getD 18 .none with | .str _ t => t | _ => 0), by kernel_rfl⟩
 walk_at "zd"
 walk_at "c"
 refine Sta.setDisp S' (hA.le (by first | decide | omega)) (x := tag) (kvs := kvs) (by walk_at "mem") (by walk_at "mem") rfl hoc hdc hfl (by walk_at "pull") hx hz ?_
 clear S'; intro qs s' S'
 repeat (fail_if_success (with_reducible show wpAny (model W.prog W.w) A (execs ((aAm aAz).drop 5) (envS L)) Q E _)); walk_at "cw"
 exact k qs (some (.ref a')) s' (S'.sel (Sel.rest [(a', IsD W a' [])] (by simp only [aAe]; walk_at "perm")))
theorem Sta.openQn {p : Addr} {x tx : Str} {c' : Cell} (S : Sta W G env loc nw s) (U : Upd p (IsQn x tx) c' nw nw') : ∃ t1 t2 t3 nw1, Upd p (IsQn x tx) (aAo [.str tx t1, .str (nmL x) t2, .str (nmU x) t3]) nw nw1 /\ Upd p (aAo [.str tx t1, .str (nmL x) t2, .str (nmU x) t3]) c' nw1 nw' /\ Sta W G env loc nw1 s := by
 obtain ⟨o, ho, t1, t2, t3, hc⟩ := S.get U.mem
 obtain ⟨nw1, U1, U2⟩ := U.via2 (aAo [.str tx t1, .str (nmL x) t2, .str (nmU x) t3])
 exact ⟨t1, t2, t3, nw1, U1, U2, S.tell U1 λ o' ho' _ => by rw [ho] at ho'; cases ho'; exact hc⟩
theorem Sta.unpackQn {elts : List Expr} {x1} {pos : Pos} {p : Addr} {x tx : Str} {Q : Unit -> Shared -> Prop} (S : Sta W G env loc nw s) (hh : A.handled = none) (m : (p, IsQn x tx) ∈ nw) (hn : (assignEach elts env).length = 3) (hstar : (assignEach elts env).findIdx? (·.1) = none)
  (h : ∀ t1 t2 t3 s', Sta W G env loc nw s' -> wpAny (model W.prog W.w) A (assignInOrder ((assignEach elts env).map (·.2)) [.str tx t1, .str (nmL x) t2, .str (nmU x) t3]) Q E s') : wpAny (model W.prog W.w) A (assign (.Tuple elts x1 pos) env (.ref p)) Q E s := by
 obtain ⟨t1, t2, t3, nw1, U1, U2, S1⟩ := S.openQn (aBk m)
 exact S1.unpackT hh U2.mem hn hstar λ s' S2 => h t1 t2 t3 s' (S2.tell U2 λ o _ ho => ⟨t1, t2, t3, ho⟩)
theorem Sta.subQn {p : Addr} {x tx : Str} {v : Tok} {Q : Value -> Shared -> Prop} (S : Sta W G env loc nw s) (m : (p, IsQn x tx) ∈ nw) (h : ∀ t, Q (.str tx t) s) : SubscriptOn (model W.prog W.w) A (.ref p) (.int 0 v) Q E s := by
 obtain ⟨t1, t2, t3, nw1, U1, U2, S1⟩ := S.openQn (aBk m)
 exact Sta.sub_tuple S1 U2.mem (j := 0) rfl (by omega) rfl (h t1)
end
end
section
section
variable {w : Wn} {c : Wc} {q : Addr} {m : Wm} {N : Ledger}
theorem aIY {L d nn acc al : Addr} {tag : Str} {t : Tok} {l : List (Str × Str × Tok)} {res : List (Str × Str)} {pl : List Pq} {ps : List (Addr × NsP)} {vqt vk vv vqs vrn vqn van vvl vuri vaq vsb vwr : Option Value} {Q : Flow -> Shared -> Prop} (I : IsC W) (hA : Aok 12 A) (hpl : pl.map (λ p => (p.x, p.tx)) = res) (hk : ∀ p ∈ l, p.1 ∈ res.map (·.1)) (h4 : l.length <= 4) (hps : ps.length <= 60) (hgd : ∀ p ∈ l, NmG p.1)
  (S' : Sta W G (envS L) (locM tag t d nn vqt vk vv vqs vrn vqn (some .none) van vvl (some (.ref acc)) vuri (some (.ref al)) vaq vsb vwr) ((al, aAa (aAd ps)) :: (aAg ps ++ ((acc, IsD W acc (pqD pl)) :: (d, IsD W d (atV l)) :: (aAM pl ++ N)))) s)
  (k : ∀ qs vk vv van vuri vaq s', qs.map (·.2) = ps.map (·.2) ++ atR res (atQ l) -> Sta W G (envS L) (locM tag t d nn vqt vk vv vqs vrn vqn (some .none) van vvl (some (.ref acc)) vuri (some (.ref al)) vaq vsb vwr) ((al, aAa (aAd qs)) :: (aAg qs ++ ((acc, IsD W acc (pqD pl)) :: (d, IsD W d (atV l)) :: (aAM pl ++ N)))) s' ->
   wpAny (model W.prog W.w) A (execs ((aAm aAz).drop 9) (envS L)) Q E s') :
  wpAny (model W.prog W.w) A (execs ((aAm aAz).drop 8) (envS L)) Q E s := by
 walk_at "zd"
 have hal : (atV l).length = l.length := List.length_map ..
 refine aAi rfl ?_
 refine wpAny_If ?_
 refine isTrue_plain ?_ (by kernel_rfl)
 walk_at "c"
 have hmd : (d, IsD W d (atV l)) ∈ (al, aAa (aAd ps)) :: (aAg ps ++ ((acc, IsD W acc (pqD pl)) :: (d, IsD W d (atV l)) :: (aAM pl ++ N))) := .tail _ (List.mem_append_right _ (.tail _ (.head _)))
 refine Sta.truthyD S' hmd (by omega) ?_
 clear S'; intro s' S'
 have hemp : (atV l).isEmpty = l.isEmpty := by cases l <;> rfl
 rw [hemp]
 cases hl : l with
 | nil =>
  show ite (false = true) _ _
  refine aBt ?_
  walk_at "kn"
  subst hl
  exact k ps vk vv van vuri vaq s' (by simp [atR, atQ, srt]) S'
 | cons p0 r0 =>
  refine aB3 ?_
  clear hl hemp
  refine wpAny_execs_cons ?_
  refine wpAny_For ?_ (by intro _; kernel_rfl)
  walk_at "c"
  refine Sta.builtin S' I.b_sorted aBC (by kernel_rfl) ?_
  walk_at "c"
  refine Sta.getM_D (kvs := atV l) S' hmd F.slot_dict_items F.type_dict_items ?_
  walk_at "c"
  refine Sta.itemsD (kvs := atV l) S' hmd ?_
  clear S'; intro r s' S'
  walk_at "c"
  refine Sta.sortedItems (l := l) S' hA.handled (.head _) (.tail _ hmd) h4 ?_
  clear S'; intro b its s' hits S'
  refine Sta.iterList S' (.head _) ?_
  clear S'; intro it s' S'
  have hitl : its.length <= 4 := by
   have h1 := congrArg List.length hits
   rw [List.length_map, (aAC (lt := lt2) _).length_eq, List.length_map] at h1
   omega
  have hitm : ∀ x ∈ its, ∃ p ∈ l, p.1 = x.2.1 := by
   intro x hx
   have h1 : x.2 ∈ its.map (·.2) := List.mem_map.mpr ⟨x, hx, rfl⟩
   rw [hits, (aAC (lt := lt2) _).mem_iff] at h1
   obtain ⟨p, hp, e⟩ := List.mem_map.mp h1
   exact ⟨p, hp, by rw [← e]⟩
  have Y : LY W [(b, aAa (aAd its))] it (aAd its) [(it, IsLI b 0)] := aAU (own₀ := []) (by simp [aAd]) (aAd its) 0 rfl
  have S2 := S'.sel (nw' := ((al, aAa (aAd ps)) :: (aAg ps ++ (aAg its ++ ((acc, IsD W acc (pqD pl)) :: (d, IsD W d (atV l)) :: (aAM pl ++ N))))) ++ ([(b, aAa (aAd its))] ++ [(it, IsLI b 0)])) (Sel.rest [(r, aCN d)] (by walk_at "perm"))
  clear S'
  refine aEO (sh := [(b, aAa (aAd its))]) (f := λ (x : Addr × NsP) => .ref x.1) (hA.le (by first | decide | omega)) (G := G) (og := []) (own := [(it, IsLI b 0)]) (λ (v : List (Addr × NsP) × Option Value × Option Value × Option Value × Option Value × Option Value) _ => locM tag t d nn vqt v.2.1 v.2.2.1 vqs vrn vqn (some .none) v.2.2.2.1 vvl (some (.ref acc)) v.2.2.2.2.1 (some (.ref al)) v.2.2.2.2.2 vsb vwr) (λ v _ => (al, aAa (aAd v.1)) :: (aAg v.1 ++ (aAg its ++ ((acc, IsD W acc (pqD pl)) :: (d, IsD W d (atV l)) :: (aAM pl ++ N))))) (λ v dn => v.1.map (·.2) = ps.map (·.2) ++ dn.map (λ x => atP res x.2)) (aAS Y.yields) (ps, vk, vv, van, vuri, vaq) (by simp) (by rw [List.append_nil]; exact S2) ?_ ?_
  rotate_left
  ·refine pr3 ?_
   intro xa xk xv dn rest tl tg vw s1 K hit hq S' kk _ _
   clear S2
   replace hq : vw.1.map (·.2) = ps.map (·.2) ++ dn.map (λ x => atP res x.2) := hq
   have hxm : (xa, xk, xv) ∈ its := by rw [hit]; simp
   obtain ⟨p, hpm, hpe⟩ := hitm _ hxm
   have hpe : p.1 = xk := hpe
   have hxg : NmG xk := by rw [← hpe]; exact hgd p hpm
   obtain ⟨pq, hpq1, hpq2, hpq3, hpq4⟩ := aFc (k := xk) hpl (by rw [← hpe]; exact hk p hpm)
   have hul := hxg.ul
   have hmq : (xa, IsPr (xk, xv)) ∈ (aAg vw.1 ++ (aAg its ++ ((acc, IsD W acc (pqD pl)) :: (d, IsD W d (atV l)) :: (aAM pl ++ N)))) ++ ((b, aAa (aAd its)) :: tl) := List.mem_append_left _ (List.mem_append_right _ (List.mem_append_left _ (List.mem_map.mpr ⟨_, hxm, rfl⟩)))
   have hmp : (pq.a, IsQn pq.x pq.tx) ∈ (aAg vw.1 ++ (aAg its ++ ((acc, IsD W acc (pqD pl)) :: (d, IsD W d (atV l)) :: (aAM pl ++ N)))) ++ ((b, aAa (aAd its)) :: tl) := List.mem_append_left _ (List.mem_append_right _ (List.mem_append_right _ (.tail _ (.tail _ (List.mem_append_left _ (List.mem_map.mpr ⟨_, hpq1, rfl⟩))))))
   have hma : (acc, IsD W acc (pqD pl)) ∈ (aAg vw.1 ++ (aAg its ++ ((acc, IsD W acc (pqD pl)) :: (d, IsD W d (atV l)) :: (aAM pl ++ N)))) ++ ((b, aAa (aAd its)) :: tl) := List.mem_append_left _ (List.mem_append_right _ (List.mem_append_right _ (.head _)))
   have hql : vw.1.length <= 1000 := by
    have h1 := congrArg List.length hq
    have h2 := congrArg List.length hit
    simp only [List.length_map, List.length_append] at h1 h2
    omega
   have e1 : ∀ a : Addr, (vw.1 ++ [(a, atP res (xk, xv))]).map (·.2) = ps.map (·.2) ++ (dn ++ [(xa, xk, xv)]).map (λ x => atP res x.2) := λ a => by simp only [List.map_append, hq, List.append_assoc]; rfl
   walk_at "zd"
   simp only [locM, List.cons_append, List.nil_append] at S'
   refine Sta.unpackPr S' hA.handled (by walk_at "mem") (by kernel_rfl) (by kernel_rfl) ?_
   clear S'; intro t1 t2 s' S'
   refine assignInOrder_cons ?_
   refine assign_Name ?_
   walk_at "c"
   refine assignInOrder_cons ?_
   refine assign_Name ?_
   walk_at "c"
   refine assignInOrder_nil ?_
   walk_at "c"
   refine Sta.subD S' (.tail _ hma) hpq4 ?_
   clear S'; intro s' S'
   refine Sta.unpackQn S' hA.handled (x := pq.x) (tx := pq.tx) (by walk_at "mem") (by kernel_rfl) (by kernel_rfl) ?_
   clear S'; intro t3 t4 t5 s' S'
   walk_at "zd"
   rw [hpq2, hpq3] at *
   refine assignInOrder_cons ?_
   refine assign_Name ?_
   walk_at "c"
   refine assignInOrder_cons ?_
   refine assign_Name ?_
   walk_at "c"
   refine assignInOrder_cons ?_
   refine assign_Name ?_
   walk_at "c"
   refine assignInOrder_nil ?_
   walk_at "c"
   refine aBd S' (by omega) (λ h0 => ?_) (λ h0 => ?_)
   ·clear S'; intro s' S'
    have ht : atP res (xk, xv) = ((nmL xk : Str), xv) := by show (if (nmU xk).length = 0 then nmL xk else txOf res xk, xv) = _; rw [if_pos h0]
    rw [ht] at e1
    walk_at "c"
    refine Sta.pushPr hql (S'.perm (nw' := (a', aAo [.str (nmL xk) t4, .str xv t2]) :: (al, aAa (aAd vw.1)) :: (aAg vw.1 ++ (aAg its ++ ((acc, IsD W acc (pqD pl)) :: (d, IsD W d (atV l)) :: (aAM pl ++ (N ++ ((b, aAa (aAd its)) :: tl))))))) (by walk_at "perm")) ?_
    clear S'; intro s' S'
    walk_at "c"
    exact (kk (vw.1 ++ [(a', (nmL xk : Str), xv)], _, _, _, _, _) _ (e1 a') (S'.perm (nw' := ((al, aAa (aAd (vw.1 ++ [(a', (nmL xk : Str), xv)]))) :: (aAg (vw.1 ++ [(a', (nmL xk : Str), xv)]) ++ (aAg its ++ ((acc, IsD W acc (pqD pl)) :: (d, IsD W d (atV l)) :: (aAM pl ++ N))))) ++ ([(b, aAa (aAd its))] ++ tl)) (by walk_at "perm"))).1
   ·clear S'; intro s' S'
    have ht : atP res (xk, xv) = ((txOf res xk : Str), xv) := by show (if (nmU xk).length = 0 then nmL xk else txOf res xk, xv) = _; rw [if_neg h0]
    rw [ht] at e1
    walk_at "c"
    refine Sta.pushPr hql (S'.perm (nw' := (a', aAo [.str (txOf res xk) t3, .str xv t2]) :: (al, aAa (aAd vw.1)) :: (aAg vw.1 ++ (aAg its ++ ((acc, IsD W acc (pqD pl)) :: (d, IsD W d (atV l)) :: (aAM pl ++ (N ++ ((b, aAa (aAd its)) :: tl))))))) (by walk_at "perm")) ?_
    clear S'; intro s' S'
    walk_at "c"
    exact (kk (vw.1 ++ [(a', (txOf res xk : Str), xv)], _, _, _, _, _) _ (e1 a') (S'.perm (nw' := ((al, aAa (aAd (vw.1 ++ [(a', (txOf res xk : Str), xv)]))) :: (aAg (vw.1 ++ [(a', (txOf res xk : Str), xv)]) ++ (aAg its ++ ((acc, IsD W acc (pqD pl)) :: (d, IsD W d (atV l)) :: (aAM pl ++ N))))) ++ ([(b, aAa (aAd its))] ++ tl)) (by walk_at "perm"))).1
  ·intro vw s1 hq S1
   walk_at "kn"
   refine k vw.1 vw.2.1 vw.2.2.1 vw.2.2.2.1 vw.2.2.2.2.1 vw.2.2.2.2.2 s1 ?_ (S1.sel (Sel.rest ((b, aAa (aAd its)) :: aAg its) (by walk_at "perm")))
   rw [show vw.1.map (·.2) = ps.map (·.2) ++ its.map (λ x => atP res x.2) from hq]
   unfold atR atQ
   rw [← hits, List.map_map]
   rfl
end
end
section
noncomputable def aAH (q : NsP) : Str := " " ++ q.1 ++ "=\"" ++ escA q.2 ++ "\""
noncomputable abbrev aJN : Scope := { kind := .function, names := [(Str.ofString ".0", .local), (Str.ofString "k", .local), (Str.ofString "v", .local), (Str.ofString "_escape_attrib_c14n", .globalImplicit)], isGenerator := false, isCoroutine := false, more := [] }
noncomputable abbrev atX (p1 p2 p3 p4 p5 p6 p7 p8 p9 p10 p11 p12 p13 p14 p15 : Pos) : Expr := .ListComp (.JoinedStr [.Constant (.str " ") 0 p1, .FormattedValue (.Name "k" p2) (-1) none p3, .Constant (.str "=\"") 0 p4, .FormattedValue (.Call (.Name "_escape_attrib_c14n" p5) [.Name "v" p6] [] p7) (-1) none p8, .Constant (.str "\"") 0 p9] p10) [⟨.Tuple [.Name "k" p11, .Name "v" p12] 0 p13, .Name "attr_list" p14, [], 0⟩] aJN p15
theorem aF0 (v : Str) : (escA v).length <= 6 * v.length := aA4 _ 6 fA_len v
theorem aFz (q : NsP) : (aAH q).length <= q.1.length + 6 * q.2.length + 4 := by
 have hl1 : (" " : Str).length = 1 := by decide +kernel
 have hl2 : ("=\"" : Str).length = 2 := by decide +kernel
 have hl3 : ("\"" : Str).length = 1 := by decide +kernel
 have hl4 := aF0 q.2
 unfold aAH
 simp only [Str.length_append]
 omega
section
variable {w : Wn} {c : Wc} {q : Addr} {m : Wm} {N : Ledger}
theorem aHK {L al : Addr} {qs : List (Addr × NsP)} {p1 p2 p3 p4 p5 p6 p7 p8 p9 p10 p11 p12 p13 p14 p15 : Pos} {Q : Value -> Shared -> Prop} (I : IsC W) (hA : Aok 12 A) (h60 : qs.length <= 70) (hx : ∀ r ∈ qs, r.2.1.length <= 2000 /\ r.2.2.length <= 1000) (hal : (("attr_list" : Str), some (Value.ref al)) ∈ loc)
  (S' : Sta W G (envS L) loc ((al, aAa (aAd qs)) :: (aAg qs ++ N)) s)
  (k : ∀ b s', Sta W G (envS L) loc ((b, aAb (qs.map λ r => aAH r.2)) :: (al, aAa (aAd qs)) :: (aAg qs ++ N)) s' -> Q (.ref b) s') :
  wpAny (model W.prog W.w) A (eval (atX p1 p2 p3 p4 p5 p6 p7 p8 p9 p10 p11 p12 p13 p14 p15) (envS L)) Q E s := by
 have hl1 : (" " : Str).length = 1 := by decide +kernel
 have hl2 : ("=\"" : Str).length = 2 := by decide +kernel
 have hl3 : ("\"" : Str).length = 1 := by decide +kernel
 refine aD5 (cl := []) ["k", "v"] (by kernel_rfl) (by kernel_rfl) rfl rfl ?_ (by intro _; kernel_rfl)
 refine S'.local_ hal ?_
 refine S'.iterL (.head _) ?_
 clear S'; intro it s' S'
 refine ⟨G, _, _, S', ?_⟩
 intro b Cc s1 eok S1
 refine aAQ rfl rfl aBF (S1.get (.tail _ (.tail _ (.head _)))) ?_
 have Y : LY W [(al, aAa (aAd qs))] it (aAd qs) [(it, IsLI al 0)] := aAU (own₀ := []) (by simp [aAd]) (aAd qs) 0 rfl
 have S2 := (S1.tell (c' := aAb []) .head λ o _ ho => ⟨_, .nil, ho⟩).perm (nw' := ((b, aAb []) :: ((envS L).locals, IsNs loc) :: (aAg qs ++ N)) ++ ([(al, aAa (aAd qs))] ++ [(it, IsLI al 0)])) (by walk_at "perm")
 clear S' S1
 refine aEe (sh := [(al, aAa (aAd qs))]) (f := λ (r : Addr × NsP) => .ref r.1) (hA.le (by first | decide | omega)) (G := G) (og := []) (own := [(it, IsLI al 0)]) (λ (v : Option Value × Option Value) _ => [("k", v.1), ("v", v.2)]) (λ _ dn => (b, aAb (dn.map λ r => aAH r.2)) :: ((envS L).locals, IsNs loc) :: (aAg qs ++ N)) (λ _ _ => True) (compTurn_list1 ..) (aAS Y.yields) (none, none) trivial (by rw [List.append_nil]; exact S2) ?_ ?_
 rotate_left
 ·refine pr3 ?_
  intro ra x v dn rest tl tg vv s1 K hq _ S' kk
  clear S2
  have hrm : (ra, x, v) ∈ qs := by rw [hq]; simp
  have hxl : x.length <= 2000 := (hx _ hrm).1
  have hvl : v.length <= 1000 := (hx _ hrm).2
  have hl4 := aF0 v
  have hmq : (ra, IsPr (x, v)) ∈ (aAg qs ++ N) ++ ((al, aAa (aAd qs)) :: tl) := List.mem_append_left _ (List.mem_append_left _ (List.mem_map.mpr ⟨_, hrm, rfl⟩))
  have hdl : (dn.map λ r => aAH r.2).length <= 100 := by
   have := congrArg List.length hq
   simp only [List.length_map, List.length_append] at this ⊢
   omega
  have e1 : ((dn ++ [(ra, x, v)]).map λ r => aAH r.2) = (dn.map λ r => aAH r.2) ++ [aAH (x, v)] := by rw [List.map_append]; rfl
  walk_at "zd"
  simp only [List.cons_append, List.nil_append] at S'
  refine Sta.unpackPr S' hA.handled (by walk_at "mem") (by kernel_rfl) (by kernel_rfl) ?_
  clear S'; intro t1 t2 s' S'
  refine assignInOrder_cons ?_
  refine assign_Name ?_
  walk_at "c"
  refine assignInOrder_cons ?_
  refine assign_Name ?_
  walk_at "c"
  refine assignInOrder_nil ?_
  refine wpAny_bind ?_
  walk_at "c"
  refine Sta.global S' I.g_escA (by kernel_rfl) ?_
  refine aBJ (by rw [I.k]; kernel_rfl) ?_ (by kernel_rfl) (by kernel_rfl)
  walk_at "c"
  refine escA_ I S' (hA.le (by first | decide | omega)) (by unfold txtLine; omega) ?_
  clear S'; intro t3 s' S'
  walk_at "c"
  have e : aAH (x, v) = Str.empty ++ " " ++ x ++ "=\"" ++ escA v ++ "\"" := by rw [Str.empty_append]; rfl
  rw [← e]
  refine wpAny_bind (S'.appendT .head (by walk_at "osz") λ s' S' => wpAny_pure ?_)
  walk_at "zd"
  exact kk (some (.str x t1), some (.str v t2)) _ trivial (S'.perm (nw' := ((b, aAb ((dn ++ [(ra, x, v)]).map λ r => aAH r.2)) :: ((envS L).locals, IsNs loc) :: (aAg qs ++ N)) ++ ([(al, aAa (aAd qs))] ++ tl)) (by rw [e1]; walk_at "perm"))
 ·intro vv s1 _ S1
  refine ⟨.next, ([("k", vv.1), ("v", vv.2)] : Loc), (b, aAb (qs.map λ r => aAH r.2)) :: (al, aAa (aAd qs)) :: (aAg qs ++ N), G, rfl, S1.perm (by walk_at "perm"), λ s3 S3 => k b s3 S3⟩
end
end
end
end
section
noncomputable def aAy (tx : Str) (row : List NsP) : List Str := ("<" ++ tx) :: ((if row.isEmpty then [] else [cat (row.map aAH)]) ++ [(">" : Str)])
noncomputable abbrev aGR : Str := "{http://www.w3.org/XML/1998/namespace}space"
theorem aIE : ∀ (xs : List Str) (n : Nat), (∀ x ∈ xs, x.length <= n) -> (cat xs).length <= n * xs.length
 | [], n, _ => by rw [aEf]; simp
 | x :: r, n, h => by
  have h1 := aIE r n λ y hy => h y (.tail _ hy)
  have h2 := h x (.head _)
  rw [aEf] at h1 ⊢
  simp only [List.map_cons, List.sum_cons, List.length_cons] at h1 ⊢
  rw [Nat.mul_succ]
  omega
section
variable {w : Wn} {c : Wc} {q : Addr} {m : Wm} {N : Ledger}
theorem aIX {K : Sink W} {σ : K.σ} {L d nn c1 acc al : Addr} {tag : Str} {t : Tok} {l : List (Str × Str × Tok)} {pl : List Pq} {pq : Pq} {qs : List (Addr × NsP)} {p0 : List Bool} {pb : Bool} {vqt vk vv vqs vrn vqn vqa van vvl vuri vaq : Option Value} {Q : Flow -> Shared -> Prop} (I : IsC W) (hA : Aok 14 A) (hself : CellOk (envS L) .cell "self" c1)
  (hpq : pq ∈ pl) (hv1 : valueAt (pqD pl) tag = some (.ref pq.a)) (htl : pq.tx.length <= 2000) (h60 : qs.length <= 70) (hql : ∀ r ∈ qs, r.2.1.length <= 2000 /\ r.2.2.length <= 1000) (hsp : valueAt (atV l) aGR = none) (hps : m.ps = p0 ++ [pb]) (hpz : m.ps.length <= 10000) (hr : K.room σ 3)
  (S' : Sta W G (envS L) (locM tag t d nn vqt vk vv vqs vrn vqn vqa van vvl (some (.ref acc)) vuri (some (.ref al)) vaq none none) ((al, aAa (aAd qs)) :: (acc, IsD W acc (pqD pl)) :: (c1, aAp (some (.ref w.x))) :: (d, IsD W d (atV l)) :: aAe W w c K.q m (K.L σ ++ (aAg qs ++ (aAM pl ++ N)))) s)
  (k : ∀ loc' s', loc' = locM tag t d nn vqt vk vv vqs vrn vqn vqa van vvl (some (.ref acc)) vuri (some (.ref al)) vaq (some .none) (some (.ref K.q)) -> Sta W G (envS L) loc' ((al, aAa (aAd qs)) :: (acc, IsD W acc (pqD pl)) :: (c1, aAp (some (.ref w.x))) :: (d, IsD W d (atV l)) :: aAe W w c K.q { m with ps := m.ps ++ [pb] } (K.L (K.pushes σ (aAy pq.tx (qs.map (·.2)))) ++ (aAg qs ++ (aAM pl ++ N)))) s' ->
   wpAny (model W.prog W.w) A (execs ((aAm aAz).drop 15) (envS L)) Q E s') :
  wpAny (model W.prog W.w) A (execs ((aAm aAz).drop 9) (envS L)) Q E s := by
 have hcl := I.cl
 have hl1 : ("<" : Str).length = 1 := by decide +kernel
 have hps2 : (m.ps.map Value.bool).length <= sizeLine := by walk_at "osz"
 have hls : (m.ps.map Value.bool).getLast? = some (.bool pb) := by rw [hps]; simp
 have hr1 : K.room σ 1 := K.less (K.less hr)
 have hr2 : ∀ x, K.room (K.push σ x) 2 := λ x => K.step x hr
 have hr3 : ∀ x y, K.room (K.push (K.push σ x) y) 1 := λ x y => K.step y (hr2 x)
 have hpm : (pq.a, IsQn pq.x pq.tx) ∈ aAM pl := List.mem_map.mpr ⟨pq, hpq, rfl⟩
 walk_at "zd"
 walk_at "c"
 refine Sta.getM_D S' (by walk_at "mem") F.slot_dict_get F.type_dict_get ?_
 walk_at "c"
 refine Sta.dictGet S' (by walk_at "mem") ?_
 clear S'; intro s' S'
 rw [hsp, Option.getD_none]
 walk_at "c"
 refine aAf ?_ (by intro _ _; kernel_rfl)
 walk_at "c"
 refine Sta.sub_last S' (by walk_at "mem") hls ?_
 walk_at "c"
 refine aAf ?_ (by intro _ _; kernel_rfl)
 refine aAf ?_ (by intro _ _; kernel_rfl)
 walk_at "c"
 refine Sta.subD S' (by walk_at "mem") hv1 ?_
 clear S'; intro s' S'
 walk_at "c"
 refine Sta.subQn S' (x := pq.x) (tx := pq.tx) (by repeat (first | exact List.mem_append_left _ hpm | refine List.mem_cons_of_mem _ ?_ | refine List.mem_append_right _ ?_)) ?_
 intro t2
 walk_at "c"
 refine ⟨S'.sinkLed (L' := []) (by walk_at "mid"), ?_⟩
 refine S'.sink (hA.le (by first | decide | omega)) hr1 (by walk_at "mid") ?_
 clear S'; intro s' S'
 walk_at "c"
 refine Sta.truthyR S' (.head _) (by omega) ?_
 clear S'; intro s' S'
 have eb : ∀ X : Ledger, (w.ps, aAa (m.ps.map .bool ++ [.bool pb])) :: X = (w.ps, aAa ((m.ps ++ [pb]).map .bool)) :: X := λ X => by rw [List.map_append]; rfl
 cases qs with
 | nil =>
  refine aBt ?_
  walk_at "c"
  refine ⟨S'.sinkLed (L' := []) (by walk_at "mid"), ?_⟩
  refine S'.sink (hA.le (by first | decide | omega)) (K.less (hr2 _)) (by walk_at "mid") ?_
  clear S'; intro s' S'
  rw [eb] at S'
  walk_at "ke"
  exact k _ s' rfl S'
 | cons r0 rr =>
  refine aB3 ?_
  walk_at "c"
  refine aDK ?_
  refine aA1 ?_ (by kernel_rfl) (by kernel_rfl)
  refine args_cons ?_ (by kernel_rfl)
  walk_at "zd"
  generalize hqs : r0 :: rr = qs at *
  have hemp : ¬ (qs.map (·.2)).isEmpty = true := by rw [← hqs]; simp
  replace S' := S'.perm (nw' := (al, aAa (aAd qs)) :: (aAg qs ++ ((acc, IsD W acc (pqD pl)) :: (c1, aAp (some (.ref w.x))) :: (d, IsD W d (atV l)) :: (w.x, aAu 150 w.dx) :: (w.dx, aAl (vvOf w c K.q m)) :: (w.d, aAb m.held) :: (w.dns, aAa (aAk m.dl)) :: (w.ns, aAa (aAk m.nl)) :: (w.pm, IsD W w.pm (pmV m.pm)) :: (w.ps, aAa (m.ps.map .bool ++ [.bool pb])) :: (aAr m.dl ++ (aAr m.nl ++ (K.L (K.push σ ("<" ++ pq.tx)) ++ (aAM pl ++ N))))))) (by walk_at "perm")
  refine aHK (al := al) (qs := qs) I (hA.le (by first | decide | omega)) h60 hql (by walk_at "mem") S' ?_
  clear S'; intro b s' S'
  refine args_nil ?_
  refine Sta.joinT S' (.head _) (by kernel_rfl) (by
   refine Nat.le_trans (aIE _ 8004 λ x hx => ?_) (Nat.le_trans (Nat.mul_le_mul_left 8004 (show _ <= 70 by rw [List.length_map]; exact h60)) (by decide))
   obtain ⟨r, hr, rfl⟩ := List.mem_map.mp hx
   have h1 := hql r hr
   have h2 := aFz r.2
   omega) ?_
  clear S'; intro t3 s' S'
  walk_at "c"
  replace S' := S'.perm (nw' := (b, aAb (qs.map λ r => aAH r.2)) :: (al, aAa (aAd qs)) :: (acc, IsD W acc (pqD pl)) :: (c1, aAp (some (.ref w.x))) :: (d, IsD W d (atV l)) :: (w.x, aAu 150 w.dx) :: (w.dx, aAl (vvOf w c K.q m)) :: (w.d, aAb m.held) :: (w.dns, aAa (aAk m.dl)) :: (w.ns, aAa (aAk m.nl)) :: (w.pm, IsD W w.pm (pmV m.pm)) :: (w.ps, aAa (m.ps.map .bool ++ [.bool pb])) :: (aAr m.dl ++ (aAr m.nl ++ (K.L (K.push σ ("<" ++ pq.tx)) ++ (aAg qs ++ (aAM pl ++ N)))))) (by walk_at "perm")
  refine ⟨S'.sinkLed (L' := []) (by walk_at "mid"), ?_⟩
  refine S'.sink (hA.le (by first | decide | omega)) (K.less (hr2 _)) (by walk_at "mid") ?_
  clear S'; intro s' S'
  walk_at "c"
  refine ⟨S'.sinkLed (L' := []) (by walk_at "mid"), ?_⟩
  refine S'.sink (hA.le (by first | decide | omega)) (hr3 _ _) (by walk_at "mid") ?_
  clear S'; intro s' S'
  rw [eb] at S'
  walk_at "ke"
  refine k _ s' rfl ?_
  have ef : aAy pq.tx (qs.map (·.2)) = [("<" ++ pq.tx : Str), cat (qs.map λ r => aAH r.2), (">" : Str)] := by
   unfold aAy
   rw [if_neg hemp, List.map_map]
   rfl
  rw [ef]
  exact S'.sel (Sel.drop (Sel.refl _))
end
end
section
structure StOk (rw : Bool) (s : NSt) (tag : Str) (l : List (Str × Str × Tok)) (res : List (Str × Str)) (sv : NSt) : Prop where
 new : tag ∉ l.map (·.1)
 nd : (l.map (·.1)).Nodup
 len : l.length <= 3
 nm : ∀ x ∈ tag :: l.map (·.1), NmG x
 inj : ∀ x ∈ tag :: l.map (·.1), ∀ y ∈ tag :: l.map (·.1), aAK x = aAK y -> x = y
 ok : QnOk rw s (srt (ltK aAK) (tag :: l.map (·.1)))
 rs : aCd rw s (srt (ltK aAK) (tag :: l.map (·.1))) = some (res, sv)
 t4 : (topV sv.decl).length <= 4
 sm : ∀ r ∈ topV sv.decl, aCE r
 tl : ∀ r ∈ res, r.2.length <= 2000
 vl : ∀ p ∈ l, p.2.1.length <= 1000
 sp : aGR ∉ l.map (·.1)
theorem aCu {rw : Bool} : ∀ {xs : List Str} {s sv : NSt} {res : List (Str × Str)}, aCd rw s xs = some (res, sv) -> res.map (·.1) = xs
 | [], s, sv, res, h => by simp only [aCd, Option.some.injEq, Prod.mk.injEq] at h; obtain ⟨rfl, rfl⟩ := h; rfl
 | x :: r, s, sv, res, h => by
  obtain ⟨⟨tx, s1⟩, h1, h2⟩ := Option.bind_eq_some_iff.mp h
  obtain ⟨⟨rr, sv'⟩, h3, h4⟩ := Option.map_eq_some_iff.mp h2
  obtain ⟨rfl, rfl⟩ := Prod.mk.inj h4
  rw [List.map_cons, aCu h3]
theorem aFC {res : List (Str × Str)} {k : Str} (h : k ∈ res.map (·.1)) : ∃ r ∈ res, r.2 = txOf res k := by
 obtain ⟨r0, h0, e0⟩ := List.mem_map.mp h
 unfold txOf
 cases hf : res.find? λ r => decide (r.1 = k) with
 | none => exact absurd e0 (by simpa using List.find?_eq_none.mp hf r0 h0)
 | some r => exact ⟨r, List.mem_of_find?_eq_some hf, rfl⟩
theorem StOk.key {rw : Bool} {s sv : NSt} {tag : Str} {l : List (Str × Str × Tok)} {res : List (Str × Str)} (h : StOk rw s tag l res sv) {x : Str} (hx : x ∈ tag :: l.map (·.1)) : x ∈ res.map (·.1) := by
 rw [aCu h.rs]
 exact (aAC (lt := ltK aAK) _).mem_iff.mpr hx
theorem StOk.row {rw : Bool} {s sv : NSt} {tag : Str} {l : List (Str × Str × Tok)} {res : List (Str × Str)} (h : StOk rw s tag l res sv) : ∀ r ∈ xnR sv.decl ++ atR res (atQ l), r.1.length <= 2000 /\ r.2.length <= 1000 := by
 intro r hr
 rcases List.mem_append.mp hr with hr | hr
 ·have h1 := (aAC (lt := lt2) _).mem_iff.mp hr
  obtain ⟨q, hq, rfl⟩ := List.mem_map.mp h1
  have h2 := h.sm q hq
  have h3 := aIJ q.2
  exact ⟨by show (xnT q.2).length <= 2000; have := h2.2; omega, h2.1⟩
 ·obtain ⟨q, hq, rfl⟩ := List.mem_map.mp hr
  have h1 := (aAC (lt := lt2) _).mem_iff.mp hq
  obtain ⟨p, hp, rfl⟩ := List.mem_map.mp h1
  refine ⟨?_, h.vl p hp⟩
  have hx : p.1 ∈ tag :: l.map (·.1) := .tail _ (List.mem_map.mpr ⟨p, hp, rfl⟩)
  show (if (nmU p.1).length = 0 then nmL p.1 else txOf res p.1).length <= 2000
  split
  ·have := (h.nm _ hx).ll
   omega
  ·obtain ⟨r, hr, e⟩ := aFC (h.key hx)
   rw [← e]
   exact h.tl r hr
section
variable {w : Wn} {c : Wc} {q : Addr} {m : Wm} {N : Ledger}
theorem aIW {K : Sink W} {L c1 : Addr} {vt vd vn vk vv vqs vrn vqn vqa van vvl vpq vuri val vaq vsb vwr : Option Value} {Q : Flow -> Shared -> Prop} (I : IsC W) (hA : Aok 14 A) (hself : CellOk (envS L) .cell "self" c1) (hnz : m.nl.length <= 10000)
  (S' : Sta W G (envS L) [("tag", vt), ("attrs", vd), ("new_namespaces", vn), ("qname_text", some .none), ("k", vk), ("v", vv), ("qnames", vqs), ("resolved_names", vrn), ("qname", vqn), ("qattrs", vqa), ("attr_name", van), ("value", vvl), ("parsed_qnames", vpq), ("uri", vuri), ("attr_list", val), ("attr_qname", vaq), ("space_behaviour", vsb), ("write", vwr)] ((c1, aAp (some (.ref w.x))) :: aAe W w c K.q m N) s)
  (k : ∀ a loc' s', Sta W G (envS L) loc' (aAe W w c K.q { m with rs := true, nl := m.nl ++ [⟨a, []⟩] } N) s' -> Q .next s') :
  wpAny (model W.prog W.w) A (execs ((aAm aAz).drop 15) (envS L)) Q E s := by
 have hcl := I.cl
 have hnl : (aAk m.nl).length <= sizeLine := by rw [sizeLine_eq]; simp [aAk]; omega
 walk_at "zd"
 walk_at "c"
 walk_at "ke"
 refine k a' _ s' (S'.sel (Sel.rest [(c1, aAp (some (.ref w.x)))] ?_))
 simp only [aAe]
 rw [aAD]
 have e : aAk m.nl ++ [.ref a'] = aAk (m.nl ++ [⟨a', []⟩]) := by simp [aAk]
 rw [e]
 show List.Perm _ (((w.x, aAu 150 w.dx) :: (w.dx, aAl (vvOf w c K.q { m with rs := true, nl := m.nl ++ [⟨a', []⟩] })) :: (w.d, aAb m.held) :: (w.dns, aAa (aAk m.dl)) :: (w.ns, aAa (aAk (m.nl ++ [⟨a', []⟩]))) :: (w.pm, IsD W w.pm (pmV m.pm)) :: (w.ps, aAa (m.ps.map .bool)) :: (aAr m.dl ++ ((aAr m.nl ++ [(a', aAa [])]) ++ N))) ++ [(c1, aAp (some (.ref w.x)))])
 walk_at "perm"
theorem aIZ {K : Sink W} {σ : K.σ} {d : Addr} {tag : Str} {t : Tok} {l : List (Str × Str × Tok)} {res : List (Str × Str)} {sv : NSt} {d0 : List Lv} {lv : Lv} {p0 : List Bool} {pb : Bool} {c? : Option Addr} {Q : Value -> Shared -> Prop} (I : IsC W) (C : CodeHd W.B 125 123) (hA : Aok 24 A) (hd : m.dl = d0 ++ [lv]) (hok : StOk c.rw (nsOf m) tag l res sv) (hps : m.ps = p0 ++ [pb]) (hpz : m.ps.length <= 10000) (hnz : m.nl.length <= 10000) (hr : K.room σ 3)
  (S : Sta W G env loc ((d, IsD W d (atV l)) :: aAe W w c K.q m (K.L σ ++ (Tabs 123 lamP aAB c? ++ N))) s)
  (k : ∀ c' dl pm a s', nsOf { m with dl := dl, pm := pm } = sv -> aAk dl = aAk m.dl -> Sta W G env loc ((d, IsD W d (atV l)) :: aAe W w c K.q { m with dl := dl, pm := pm, rs := true, ps := m.ps ++ [pb], nl := m.nl ++ [⟨a, []⟩] } (K.L (K.pushes σ (aAy (txOf res tag) (xnR sv.decl ++ atR res (atQ l)))) ++ (Tabs 123 lamP aAB (some c') ++ N))) s' -> Q .none s') :
  wpAny (model W.prog W.w) A (call (.ref 126) [.ref w.x, .str tag t, .ref d, .ref lv.a]) Q E s := by
 refine S.call_fnC (binds := [("self", .ref w.x), ("tag", .str tag t), ("attrs", .ref d), ("new_namespaces", .ref lv.a), ("qname_text", .none)]) [("tag", .str tag t), ("attrs", .ref d), ("new_namespaces", .ref lv.a), ("qname_text", .none)] ["k", "v", "qnames", "resolved_names", "qname", "qattrs", "attr_name", "value", "parsed_qnames", "uri", "attr_list", "attr_qname", "space_behaviour", "write"] [some (.ref w.x), none] I.f_start1 hA.room ?_ (by kernel_rfl) (by kernel_rfl) (by kernel_rfl) ?_
 ·intro name doc pm ct an
  exact kp_binds S.kin λ S => by rw [I.k]; kernel_rfl
 intro L cs s' hcs S'
 have hnm : aAn (aAc aAz).names = (["self", "parse_qname"] : List Str) := by kernel_rfl
 rw [hnm] at hcs
 obtain ⟨c1, c2, rfl, hself, hpq⟩ := hcs.two
 have hA' := hA.deeper (env := envS L)
 walk_at "zd"
 dsimp only [aAv, List.map_cons, List.map_nil, List.cons_append, List.nil_append, aAV] at S'
 have hak := aF7 l
 have hql : (atQ l).map (·.1) = l.map (·.1) := by simp [atQ, List.map_map, Function.comp_def]
 rw [hql] at hak
 have hall : (atV l).length = l.length := List.length_map ..
 have S2 := S'.perm (nw' := (c1, aAp (some (.ref w.x))) :: (d, IsD W d (atV l)) :: aAe W w c K.q m ((c2, aAp none) :: (K.L σ ++ (Tabs 123 lamP aAB c? ++ ((env.locals, IsNs loc) :: N))))) (by simp only [aAe]; walk_at "perm")
 clear S'
 refine aAs ?_
 refine aIV (kvs := atV l) I (hA'.le (by decide)) hself (by rw [hak]; exact hok.new) (by rw [hall]; exact hok.len) S2 ?_
 clear S2; intro qs vrn s' S'
 walk_at "zd"
 have S2 := S'.perm (nw' := (c1, aAp (some (.ref w.x))) :: (c2, aAp none) :: (qs, IsSL W (tag :: l.map (·.1))) :: aAe W w c K.q m (Tabs 123 lamP aAB c? ++ ((d, IsD W d (atV l)) :: (K.L σ ++ ((env.locals, IsNs loc) :: N))))) (by rw [hak]; simp only [aAe]; walk_at "perm")
 clear S'
 refine aIU I C (hA'.le (by decide)) hself hpq hd rfl (List.nodup_cons.mpr ⟨hok.new, hok.nd⟩) hok.nm (by have := hok.len; simp; omega) hok.inj hok.ok hok.rs hok.t4 hok.sm S2 ?_
 clear S2; intro acc al pl ps dl pm c' s' hpr hsv hdl hpsr S'
 have hp60 : ps.length <= 60 := by
  have h1 := congrArg List.length hpsr
  have h2 := hok.t4
  unfold xnR at h1
  rw [List.length_map, (aAC (lt := lt2) _).length_eq, List.length_map] at h1
  omega
 have S2 := S'.perm (nw' := (al, aAa (aAd ps)) :: (aAg ps ++ ((acc, IsD W acc (pqD pl)) :: (d, IsD W d (atV l)) :: (aAM pl ++ ((c1, aAp (some (.ref w.x))) :: aAe W w c K.q { m with dl := dl, pm := pm } (K.L σ ++ (Tabs 123 lamP aAB (some c') ++ ((env.locals, IsNs loc) :: N)))))))) (by simp only [aAe]; walk_at "perm")
 clear S'
 refine aIY (ps := ps) I (hA'.le (by decide)) hpr (λ p hp => hok.key (.tail _ (List.mem_map.mpr ⟨p, hp, rfl⟩))) (by have := hok.len; omega) hp60 (λ p hp => hok.nm _ (.tail _ (List.mem_map.mpr ⟨p, hp, rfl⟩))) S2 ?_
 clear S2; intro rs vk vv van vuri vaq s' hrs S'
 rw [hpsr] at hrs
 obtain ⟨pq, hq1, hq2, hq3, hq4⟩ := aFc (k := tag) hpr (hok.key (.head _))
 have S2 := S'.perm (nw' := (al, aAa (aAd rs)) :: (acc, IsD W acc (pqD pl)) :: (c1, aAp (some (.ref w.x))) :: (d, IsD W d (atV l)) :: aAe W w c K.q { m with dl := dl, pm := pm } (K.L σ ++ (aAg rs ++ (aAM pl ++ (Tabs 123 lamP aAB (some c') ++ ((env.locals, IsNs loc) :: N)))))) (by simp only [aAe]; walk_at "perm")
 clear S'
 have hr60 : rs.length <= 70 := by
  have h1 := congrArg List.length hrs
  have h2 := congrArg List.length hpsr
  unfold atR at h1
  rw [List.length_map, List.length_append, List.length_map, (aAC (lt := lt2) _).length_eq] at h1
  rw [List.length_map] at h2
  have h3 := hok.len
  have h4 : (atQ l).length = l.length := List.length_map ..
  omega
 refine aIX (m := { m with dl := dl, pm := pm }) I (hA'.le (by decide)) hself hq1 hq4 (by rw [hq3]; obtain ⟨r, hr, e⟩ := aFC (hok.key (x := tag) (.head _)); rw [← e]; exact hok.tl r hr) hr60 (λ r hr => hok.row _ (by rw [← hrs]; exact List.mem_map.mpr ⟨r, hr, rfl⟩)) (aEq (by rw [hak]; exact hok.sp)) hps hpz hr S2 ?_
 clear S2; intro loc' s' hloc S'
 subst hloc
 walk_at "zd"
 have S2 := S'.sel (nw' := (c1, aAp (some (.ref w.x))) :: aAe W w c K.q { m with dl := dl, pm := pm, ps := m.ps ++ [pb] } ((d, IsD W d (atV l)) :: (K.L (K.pushes σ (aAy (txOf res tag) (xnR sv.decl ++ atR res (atQ l)))) ++ (Tabs 123 lamP aAB (some c') ++ ((env.locals, IsNs loc) :: N))))) (Sel.rest ((al, aAa (aAd rs)) :: (acc, IsD W acc (pqD pl)) :: (aAg rs ++ aAM pl)) (by rw [hrs, hq3]; simp only [aAe]; walk_at "perm"))
 clear S'
 refine aIW (m := { m with dl := dl, pm := pm, ps := m.ps ++ [pb] }) I (hA'.le (by decide)) hself hnz S2 ?_
 clear S2; intro a loc' s' S'
 walk_at "ke"
 refine k c' dl pm a s' hsv hdl (Sta.back (S'.perm ?_) S.eok)
 walk_at "perm"
end
end
section
noncomputable def Wm.data (m : Wm) (x : Str) : Wm := if m.ig = 0 then { m with held := m.held ++ [x] } else m
noncomputable def aB4 (held : List Str) : List Str := if (cat held).length = 0 then [] else [escC (cat held)]
noncomputable def Wm.fl (m : Wm) : List Str := if m.rs = true then aB4 m.held else []
theorem aFr : aB4 [] = [] := rfl
theorem aDX {W : Wd} (K : Sink W) {σ : K.σ} {n m : Nat} (h : n <= m) (hr : K.room σ m) : K.room σ n := by
 induction m with
 | zero => have : n = 0 := (by omega); subst this; exact hr
 | succ m ih =>
  by_cases e : n = m + 1
  ·subst e; exact hr
  ·exact ih (by omega) (K.less hr)
theorem aC1 {W : Wd} (K : Sink W) : ∀ (xs : List Str) {σ : K.σ} {n : Nat}, K.room σ (n + xs.length) -> K.room (K.pushes σ xs) n
 | [], σ, n, h => h
 | x :: r, σ, n, h => aC1 K r (σ := K.push σ x) (K.step x (by simpa [Nat.add_assoc] using h))
theorem aEP (m : Wm) : m.fl.length <= 1 := by
 unfold Wm.fl aB4
 split
 ·split <;> simp
 ·simp
theorem aDY {W : Wd} (K : Sink W) {σ : K.σ} {n : Nat} (m : Wm) (h : K.room σ (n + 1)) : K.room (K.pushes σ m.fl) n := aC1 K _ (aDX K (by have := aEP m; omega) h)
theorem aFY {m : Wm} (h : m.held = []) : m.fl = [] := by unfold Wm.fl; rw [h, aFr]; split <;> rfl
section
variable {w : Wn} {c : Wc} {q : Addr} {m : Wm} {N : Ledger}
theorem jb_at (I : IsC W) : ∃ t0, W.K.lookup 98 = some { cls := .type "builtin_function_or_method", data := .fields #[.builtin "str.join", .str "" t0] } := by
 rw [I.k]
 exact ⟨437, by kernel_rfl⟩
theorem data_ {x : Str} {t : Tok} {Q : Value -> Shared -> Prop} (I : IsC W) (S : Sta W G env loc (aAe W w c q m N) s) (hA : Aok 2 A) (hz : m.held.length <= sizeLine)
  (k : ∀ s', Sta W G env loc (aAe W w c q (m.data x) N) s' -> Q .none s') : wpAny (model W.prog W.w) A (call (.ref 97) [.ref w.x, .str x t]) Q E s := by
 refine S.call_fn (binds := [("self", .ref w.x), ("data", .str x t)]) [] I.f_data hA.room (λ _ _ _ _ _ => BindsTo.of_eq (by kernel_rfl)) (by kernel_rfl) ?_
 intro L s' S'
 walk_at "zd"
 simp only [aAv, List.map_cons, List.map_nil, List.cons_append, List.nil_append] at S'
 have hcl := I.cl
 refine aAs ?_
 walk_at "c"
 by_cases hi : m.ig = 0
 ·have e0 : ((m.ig : Int) != 0) = false := by rw [hi]; rfl
  rw [e0]
  walk_at "c"
  have S2 := Sta.back S' S.eok
  have q := k s'
  unfold Wm.data at q
  rw [if_pos hi] at q
  exact q S2
 ·have e0 : ((m.ig : Int) != 0) = true := bne_iff_ne.mpr (by omega)
  rw [e0]
  walk_at "c"
  have S2 := Sta.back S' S.eok
  have q := k s'
  unfold Wm.data at q
  rw [if_neg hi] at q
  exact q S2
theorem flush_ {K : Sink W} {σ : K.σ} {Q : Value -> Shared -> Prop} (I : IsC W) (S : Sta W G env loc (aAe W w c K.q m (K.L σ ++ N)) s) (hA : Aok 5 A) (hz : m.held.length <= sizeLine) (hc : (cat m.held).length <= txtLine) (hr : K.room σ 1)
  (k : ∀ s', Sta W G env loc (aAe W w c K.q { m with held := [] } (K.L (K.pushes σ m.fl) ++ N)) s' -> Q .none s') : wpAny (model W.prog W.w) A (call (.ref 106) [.ref w.x]) Q E s := by
 obtain ⟨t0, hj⟩ := jb_at I
 have hz2 : (cat m.held).length <= 16777216 := by unfold txtLine at hc; omega
 refine S.call_fn (binds := [("self", .ref w.x), ("_join_text", .ref 98)]) ["data", "args", "qname_text"] I.f_flush hA.room ?_ (by kernel_rfl) ?_
 ·intro name doc pm ct an
  exact kp_binds S.kin λ S => by rw [I.k]; kernel_rfl
 intro L s' S'
 have hA' := hA.deeper (env := envOf "C14NWriterTarget._flush" (aAc aDV) L 106 (.ref 105))
 walk_at "zd"
 simp only [aAv, List.map_cons, List.map_nil, List.cons_append, List.nil_append] at S'
 have hcl := I.cl
 refine aAs ?_
 walk_at "c"
 refine aJM hj ?_ (by kernel_rfl) (by kernel_rfl)
 walk_at "c"
 refine ⟨S'.kin, ?_⟩
 refine Sta.joinB S' hj (by walk_at "mem") (by kernel_rfl) hz2 ?_
 clear S'; intro t1 s' S'
 walk_at "c"
 refine wpAny_Delete (wpAny_deleteEach_cons (aGu ?_))
 walk_at "c"
 refine ⟨_, _, _, _, _, _, S', rfl, by walk_at "upd", hz, ?_⟩
 clear S'; intro s' S'
 refine wpAny_deleteEach_nil ?_
 walk_at "c"
 refine aBd S' hz2 (λ e s' S' => ?_) (λ e s' S' => ?_)
 ·walk_at "c"
  have S2 := Sta.back S' S.eok
  have q := k s'
  have ef : m.fl = [] := by unfold Wm.fl aB4; rw [if_pos e]; split <;> rfl
  rw [ef] at q
  exact q S2
 ·walk_at "c"
  cases hrs : m.rs with
  | false =>
   walk_at "c"
   have S2 := Sta.back S' S.eok
   have q := k s'
   have ef : m.fl = [] := by unfold Wm.fl; rw [hrs]; rfl
   rw [ef] at q
   exact q S2
  | true =>
   walk_at "c"
   refine Sta.global S' I.g_escC (by kernel_rfl) ?_
   refine aBJ (by rw [I.k]; kernel_rfl) ?_ (by kernel_rfl) (by kernel_rfl)
   walk_at "c"
   refine ⟨S'.kin, ?_⟩
   refine escC_ I S' (hA'.le (by first | decide | omega)) hc ?_
   clear S'; intro t2 s' S'
   walk_at "c"
   refine ⟨S'.sinkLed (L' := []) (by walk_at "mid"), ?_⟩
   refine S'.sink (hA'.le (by first | decide | omega)) hr (by walk_at "mid") ?_
   clear S'; intro s' S'
   walk_at "c"
   have S2 := Sta.back S' S.eok
   have q := k s'
   have ef : m.fl = [escC (cat m.held)] := by unfold Wm.fl aB4; rw [hrs, if_pos rfl, if_neg e]
   rw [ef] at q
   exact q S2
theorem aCl {K : Sink W} {σ : K.σ} {pos apos opos : Pos} {Q : Value -> Shared -> Prop} (I : IsC W) (hA : Aok 5 A) (hs : (("self" : Str), some (Value.ref w.x)) ∈ loc) (hz : m.held.length <= sizeLine) (hc : (cat m.held).length <= txtLine) (hr : K.room σ 1)
  (hb : attributeBase (.Name "self" opos) "_flush" env (eval (.Name "self" opos) env) = eval (.Name "self" opos) env) (hf : methodCallForm (([] : List Expr).length + ([] : List Keyword).length) (backTo pos (starEach [] env)) (backToKw pos (keywordEach [] env)) = true) (hl : (apos.endLine == pos.line) = true)
  (S : Sta W G env loc (aAe W w c K.q m (K.L σ ++ N)) s)
  (k : ∀ s', Sta W G env loc (aAe W w c K.q { m with held := [] } (K.L (K.pushes σ m.fl) ++ N)) s' -> Q .none s') :
  wpAny (model W.prog W.w) A (eval (.Call (.Attribute (.Name "self" opos) "_flush" apos) [] [] pos) env) Q E s := by
 have hcl := I.cl
 refine aBD ?_ hb hf hl
 refine S.local_ hs ?_
 refine Sta.getM_inst (f := 106) S hcl (by walk_at "mem") (by walk_at "mem") VV.keys (by decide +kernel) (by rw [I.k]; kernel_rfl) (by rw [I.k]; kernel_rfl) ?_
 refine callW0 (by rw [I.k]; kernel_rfl) S.kin ?_
 exact flush_ I S hA hz hc hr k
end
end
section
noncomputable abbrev envN (L : Addr) : Env := envOf "C14NWriterTarget.start_ns" (aAc aBV) L 113 (.ref 112)
section
variable {w : Wn} {c : Wc} {q : Addr} {m : Wm} {N : Ledger}
theorem ns_ {K : Sink W} {σ : K.σ} {p u : Str} {t1 t2 : Tok} {n0 : List Lv} {lv : Lv} {Q : Value -> Shared -> Prop} (I : IsC W) (hA : Aok 8 A) (hig : m.ig = 0) (hz : m.held.length <= sizeLine) (hc : (cat m.held).length <= txtLine) (hr : K.room σ 1) (hn : m.nl = n0 ++ [lv]) (hlz : lv.ps.length <= 1000)
  (S : Sta W G env loc (aAe W w c K.q m (K.L σ ++ N)) s)
  (k : ∀ a s', Sta W G env loc (aAe W w c K.q { m with held := [], nl := aA0 (a, u, p) m.nl } (K.L (K.pushes σ m.fl) ++ N)) s' -> Q .none s') :
  wpAny (model W.prog W.w) A (call (.ref 113) [.ref w.x, .str p t1, .str u t2]) Q E s := by
 refine S.call_fn (binds := [("self", .ref w.x), ("prefix", .str p t1), ("uri", .str u t2)]) [] I.f_startNs hA.room (λ _ _ _ _ _ => BindsTo.of_eq (by kernel_rfl)) (by kernel_rfl) ?_
 intro L s' S'
 have hA' := hA.deeper (env := envN L)
 walk_at "zd"
 simp only [aAv, List.map_cons, List.map_nil, List.cons_append, List.nil_append] at S'
 have hcl := I.cl
 have e0 : ((m.ig : Int) != 0) = false := by rw [hig]; rfl
 have hlast := aBz n0 lv
 rw [← hn] at hlast
 have rest : ∀ s', Sta W G (envN L) ([("self", some (.ref w.x)), ("prefix", some (.str p t1)), ("uri", some (.str u t2))] : Loc) (aAe W w c K.q { m with held := [] } (K.L (K.pushes σ m.fl) ++ ((env.locals, IsNs loc) :: N))) s' ->
   wpAny (model W.prog W.w) (A.deeper (envN L)) (execs ((aAm aBV).drop 2) (envN L)) (λ fl s'' => Q (match fl with | .ret v => v | _ => .none) s'') (λ _ _ => False) s' := by
  clear S'
  intro s' S'
  walk_at "zd"
  walk_at "c"
  refine aAf ?_ (by intro _ _; kernel_rfl)
  walk_at "c"
  refine Sta.sub_last S' (by walk_at "mem") hlast ?_
  have hlm : (lv.a, aAa (aAd lv.ps)) ∈ aAr m.dl ++ (aAr m.nl ++ (K.L (K.pushes σ m.fl) ++ ((env.locals, IsNs loc) :: N))) := List.mem_append_right _ (List.mem_append_left _ (aDD (by rw [hn]; simp)))
  walk_at "c"
  revert a'; intro tup S'
  have S2 := S'.perm (nw' := (tup, aAo [.str u t2, .str p t1]) :: (aAr (n0 ++ [lv]) ++ ((w.x, aAu 150 w.dx) :: (w.dx, aAl (vvOf w c K.q { m with held := [] })) :: (w.d, aAb []) :: (w.dns, aAa (aAk m.dl)) :: (w.ns, aAa (aAk m.nl)) :: (w.pm, IsD W w.pm (pmV m.pm)) :: (w.ps, aAa (m.ps.map .bool)) :: (aAr m.dl ++ (K.L (K.pushes σ m.fl) ++ ((env.locals, IsNs loc) :: N)))))) (by rw [← hn]; walk_at "perm")
  clear S'
  refine Sta.addPr (d0 := n0) (lv := lv) hlz S2 ?_
  clear S2; intro s' S'
  rw [← hn] at S'
  walk_at "ke"
  refine aBS (by decide) ?_
  walk_at "ke"
  refine k tup s' (Sta.back (S'.perm ?_) S.eok)
  simp only [aAe, aA8]
  walk_at "perm"
 refine aAs ?_
 refine aAi rfl ?_
 refine wpAny_If ?_
 iterate 4 walk_at "cw"
 rw [e0]
 refine aBt ?_
 walk_at "ke"
 refine aAi rfl ?_
 refine wpAny_If ?_
 refine isTrue_plain ?_ (by kernel_rfl)
 iterate 3 walk_at "cw"
 cases hd2 : m.held with
 | nil =>
  walk_at "zd"
  simp only [aAe] at S'
  rw [aFY hd2] at rest
  walk_at "zd"
  refine aBt ?_
  walk_at "ke"
  exact rest _ (S'.perm (by rw [hd2]; simp only [aAe]; walk_at "perm"))
 | cons y r =>
  refine aB3 ?_
  refine wpAny_execs_cons ?_
  refine wpAny_Expr_any ?_ (by kernel_rfl) (by kernel_rfl)
  have S2 := S'.perm (nw' := aAe W w c K.q m (K.L σ ++ ((env.locals, IsNs loc) :: N))) (by walk_at "perm")
  refine aCl I (hA'.le (by first | decide | omega)) (.head _) hz hc hr (by kernel_rfl) (by kernel_rfl) (by kernel_rfl) S2 ?_
  intro s2 S3
  walk_at "ke"
  exact rest _ S3
end
end
section
noncomputable def NSt.opn (s : NSt) : NSt := { s with decl := s.decl ++ [[]] }
theorem aH4 (m : Wm) (a : Addr) (h : List Str) : nsOf { m with held := h, dl := m.dl ++ [⟨a, []⟩] } = (nsOf m).opn := by
 unfold nsOf NSt.opn
 simp [Lv.val]
noncomputable abbrev envT (L : Addr) : Env := envOf "C14NWriterTarget.start" (aAc aCa) L 120 (.ref 119)
noncomputable abbrev locT (w : Wn) (tag : Str) (t : Tok) (d : Addr) (vn : Option Value) : Loc := [("self", some (.ref w.x)), ("tag", some (.str tag t)), ("attrs", some (.ref d)), ("new_namespaces", vn)]
noncomputable def Wm.begun (m : Wm) (dl : List Lv) (pm : List (Str × Str × Tok)) (pb : Bool) (a : Addr) : Wm := { m with held := [], dl := dl, pm := pm, rs := true, ps := m.ps ++ [pb], nl := m.nl ++ [⟨a, []⟩] }
section
variable {w : Wn} {c : Wc} {q : Addr} {m : Wm} {N : Ledger}
theorem aIT {K : Sink W} {σ : K.σ} {L d : Addr} {tag : Str} {t : Tok} {l : List (Str × Str × Tok)} {res : List (Str × Str)} {sv : NSt} {p0 : List Bool} {pb : Bool} {c? : Option Addr} {Q : Flow -> Shared -> Prop} (I : IsC W) (C : CodeHd W.B 125 123) (hA : Aok 26 A) (hok : StOk c.rw (nsOf m).opn tag l res sv) (hps : m.ps = p0 ++ [pb]) (hpz : m.ps.length <= 10000) (hnz : m.nl.length <= 10000) (hdz : m.dl.length <= 10000) (hz : m.held.length <= sizeLine) (hc : (cat m.held).length <= txtLine) (hr : K.room σ 4)
  (S' : Sta W G (envT L) (locT w tag t d none) ((d, IsD W d (atV l)) :: aAe W w c K.q m (K.L σ ++ (Tabs 123 lamP aAB c? ++ N))) s)
  (k : ∀ c' dl pm a loc' s', nsOf { m with dl := dl, pm := pm } = sv -> Sta W G (envT L) loc' ((d, IsD W d (atV l)) :: aAe W w c K.q (m.begun dl pm pb a) (K.L (K.pushes σ (m.fl ++ aAy (txOf res tag) (xnR sv.decl ++ atR res (atQ l)))) ++ (Tabs 123 lamP aAB (some c') ++ N))) s' -> Q .next s') :
  wpAny (model W.prog W.w) A (execs ((aAm aCa).drop 1) (envT L)) Q E s := by
 have hcl := I.cl
 have rest : ∀ s', Sta W G (envT L) (locT w tag t d none) ((d, IsD W d (atV l)) :: aAe W w c K.q { m with held := [] } (K.L (K.pushes σ m.fl) ++ (Tabs 123 lamP aAB c? ++ N))) s' -> wpAny (model W.prog W.w) A (execs ((aAm aCa).drop 2) (envT L)) Q E s' := by
  clear S'
  intro s' S'
  have hdz : (aAk m.dl).length <= sizeLine := by rw [sizeLine_eq]; simp [aAk]; omega
  walk_at "zd"
  walk_at "c"
  refine Sta.getM_inst (f := 126) S' hcl (by walk_at "mem") (by walk_at "mem") VV.keys (by decide +kernel) (by rw [I.k]; kernel_rfl) (by rw [I.k]; kernel_rfl) ?_
  refine aEh (by rw [I.k]; kernel_rfl) ?_ (by kernel_rfl) (by kernel_rfl)
  walk_at "c"
  refine ⟨S'.kin, ?_⟩
  have e : aAk m.dl ++ [.ref a'] = aAk (m.dl ++ [⟨a', []⟩]) := by simp [aAk]
  walk_at "zd"
  have S2 := S'.perm (nw' := (d, IsD W d (atV l)) :: aAe W w c K.q { m with held := [], dl := m.dl ++ [⟨a', []⟩] } (K.L (K.pushes σ m.fl) ++ (Tabs 123 lamP aAB c? ++ N))) (by
   rw [e]
   simp only [aAe]
   rw [aAD]
   show List.Perm _ ((d, IsD W d (atV l)) :: (w.x, aAu 150 w.dx) :: (w.dx, aAl (vvOf w c K.q { m with held := [], dl := m.dl ++ [⟨a', []⟩] })) :: (w.d, aAb []) :: (w.dns, aAa (aAk (m.dl ++ [⟨a', []⟩]))) :: (w.ns, aAa (aAk m.nl)) :: (w.pm, IsD W w.pm (pmV m.pm)) :: (w.ps, aAa (m.ps.map .bool)) :: ((aAr m.dl ++ [(a', aAa [])]) ++ (aAr m.nl ++ (K.L (K.pushes σ m.fl) ++ (Tabs 123 lamP aAB c? ++ N)))))
   walk_at "perm")
  clear S'
  refine aIZ (m := { m with held := [], dl := m.dl ++ [⟨a', []⟩] }) (lv := ⟨a', []⟩) (d0 := m.dl) I C (hA.le (by first | decide | omega)) rfl (by rw [aH4]; exact hok) hps hpz hnz (aDY K m hr) S2 ?_
  clear S2; intro c' dl pm a s' hsv hdl S'
  walk_at "c"
  walk_at "ke"
  refine k c' dl pm a (locT w tag t d (some (.ref a'))) s' hsv ?_
  rw [K.pushes_append]
  exact S'
 refine aAi rfl ?_
 refine wpAny_If ?_
 refine isTrue_plain ?_ (by kernel_rfl)
 walk_at "zd"
 simp only [aAe] at S'
 refine aCG ?_ (by kernel_rfl)
 refine S'.local_ (.head _) ?_
 walk_at "cw"
 walk_at "cw"
 cases hd : m.held with
 | nil =>
  rw [aFY hd] at rest
  walk_at "zd"
  refine aBt ?_
  walk_at "ke"
  exact rest _ (S'.perm (by rw [hd]; exact List.Perm.refl _))
 | cons y r =>
  refine aB3 ?_
  refine wpAny_execs_cons ?_
  refine wpAny_Expr_any ?_ (by kernel_rfl) (by kernel_rfl)
  have S2 := S'.perm (nw' := aAe W w c K.q m (K.L σ ++ ((d, IsD W d (atV l)) :: (Tabs 123 lamP aAB c? ++ N)))) (by simp only [aAe]; walk_at "perm")
  refine aCl I (hA.le (by first | decide | omega)) (.head _) hz hc (aDX K (by omega) hr) (by kernel_rfl) (by kernel_rfl) (by kernel_rfl) S2 ?_
  intro s2 S3
  walk_at "ke"
  exact rest _ (S3.perm (by simp only [aAe]; walk_at "perm"))
theorem aI0 {K : Sink W} {σ : K.σ} {d : Addr} {tag : Str} {t : Tok} {l : List (Str × Str × Tok)} {res : List (Str × Str)} {sv : NSt} {p0 : List Bool} {pb : Bool} {c? : Option Addr} {Q : Value -> Shared -> Prop} (I : IsC W) (C : CodeHd W.B 125 123) (hA : Aok 27 A) (het : c.et = .none) (hok : StOk c.rw (nsOf m).opn tag l res sv) (hps : m.ps = p0 ++ [pb]) (hpz : m.ps.length <= 10000) (hnz : m.nl.length <= 10000) (hdz : m.dl.length <= 10000) (hz : m.held.length <= sizeLine) (hc : (cat m.held).length <= txtLine) (hr : K.room σ 4)
  (S : Sta W G env loc ((d, IsD W d (atV l)) :: aAe W w c K.q m (K.L σ ++ (Tabs 123 lamP aAB c? ++ N))) s)
  (k : ∀ c' dl pm a s', nsOf { m with dl := dl, pm := pm } = sv -> Sta W G env loc ((d, IsD W d (atV l)) :: aAe W w c K.q (m.begun dl pm pb a) (K.L (K.pushes σ (m.fl ++ aAy (txOf res tag) (xnR sv.decl ++ atR res (atQ l)))) ++ (Tabs 123 lamP aAB (some c') ++ N))) s' -> Q .none s') :
  wpAny (model W.prog W.w) A (call (.ref 120) [.ref w.x, .str tag t, .ref d]) Q E s := by
 obtain ⟨com, rw, et⟩ := c
 have het : et = .none := het
 subst het
 refine S.call_fn (binds := [("self", .ref w.x), ("tag", .str tag t), ("attrs", .ref d)]) ["new_namespaces"] I.f_start hA.room (λ _ _ _ _ _ => BindsTo.of_eq (by kernel_rfl)) (by kernel_rfl) ?_
 intro L s' S'
 have hA' := hA.deeper (env := envT L)
 walk_at "zd"
 simp only [aAv, List.map_cons, List.map_nil, List.cons_append, List.nil_append] at S'
 have hcl := I.cl
 walk_at "zd"
 refine aAs ?_
 refine aAi rfl ?_
 refine wpAny_If ?_
 iterate 8 walk_at "cw"
 refine aBt ?_
 walk_at "ke"
 have S2 := S'.perm (nw' := (d, IsD W d (atV l)) :: aAe W w ⟨com, rw, .none⟩ K.q m (K.L σ ++ (Tabs 123 lamP aAB c? ++ ((env.locals, IsNs loc) :: N)))) (by simp only [aAe]; walk_at "perm")
 refine aIT I C (hA'.le (by first | decide | omega)) hok hps hpz hnz hdz hz hc hr S2 ?_
 intro c' dl pm a loc' s3 hsv S3
 walk_at "ke"
 exact k c' dl pm a s3 hsv (Sta.back (S3.perm (by simp only [aAe]; walk_at "perm")) S.eok)
end
end
section
noncomputable def aCn (tx : Str) : Str := "</" ++ tx ++ ">"
noncomputable def aCv (tg x : Str) : Str := if x.length = 0 then "<?" ++ tg ++ "?>" else "<?" ++ tg ++ " " ++ escC x ++ "?>"
theorem aFZ (v : Str) : (escC v).length <= 6 * v.length := aA4 _ 6 fC_len v
noncomputable abbrev envE (L : Addr) : Env := envOf "C14NWriterTarget.end" (aAc aFF) L 133 (.ref 132)
noncomputable abbrev envP (L : Addr) : Env := envOf "C14NWriterTarget.pi" (aAc aHW) L 147 (.ref 146)
noncomputable def Wm.done (m : Wm) (dl : List Lv) (pm : List (Str × Str × Tok)) : Wm := { m with held := [], dl := dl.dropLast, pm := pm, nl := m.nl.dropLast, ps := m.ps.dropLast, rd := decide (m.ps.length = 2) }
theorem aEG {dl : List Lv} {d0 : List Lv} {lv : Lv} (h : dl = d0 ++ [lv]) : aAr dl = aAr d0 ++ ((lv.a, aAa (aAd lv.ps)) :: (aAg lv.ps ++ [])) := by subst h; exact aAD ..
section
variable {w : Wn} {c : Wc} {q : Addr} {m : Wm} {N : Ledger}
theorem qname_ {x tx : Str} {t : Tok} {sv : NSt} {Q : Value -> Shared -> Prop} (I : IsC W) (S : Sta W G env loc (aAe W w c q m N) s) (hA : Aok 14 A) (hx : NmG x) (hok : NsOk (nsOf m)) (hq : qnV c.rw (nsOf m) (nmU x) (nmL x) = some (tx, sv))
  (k : ∀ a dl pm s', nsOf { m with dl := dl, pm := pm } = sv -> aAk dl = aAk m.dl -> Sta W G env loc ((a, IsQn x tx) :: aAe W w c q { m with dl := dl, pm := pm } N) s' -> Q (.ref a) s') : wpAny (model W.prog W.w) A (call (.ref 90) [.ref w.x, .str x t]) Q E s :=
 wpAny_call (aGW I S hA hx hok hq λ a dl pm t1 t2 t3 s' h1 h2 S' => k a dl pm s' h1 h2 (S'.tell (c' := IsQn x tx) .head λ o _ ho => ⟨t1, t2, t3, ho⟩))
theorem end_ {K : Sink W} {σ : K.σ} {tag tx : Str} {t : Tok} {sv : NSt} {d0 n0 : List Lv} {lv ln : Lv} {p0 : List Bool} {pb : Bool} {Q : Value -> Shared -> Prop} (I : IsC W) (hA : Aok 18 A) (htag : NmG tag) (hok : NsOk (nsOf m)) (hq : qnV c.rw (nsOf m) (nmU tag) (nmL tag) = some (tx, sv)) (htl : tx.length <= 2000) (hig : m.ig = 0) (hz : m.held.length <= sizeLine) (hc : (cat m.held).length <= txtLine) (hr : K.room σ 2) (hn : m.nl = n0 ++ [ln]) (hd : m.dl = d0 ++ [lv]) (hps : m.ps = p0 ++ [pb]) (hpz : m.ps.length <= 10000) (hnz : m.nl.length <= 10000) (hdz : m.dl.length <= 10000)
  (S : Sta W G env loc (aAe W w c K.q m (K.L σ ++ N)) s)
  (k : ∀ dl pm s', nsOf { m with dl := dl, pm := pm } = sv -> Sta W G env loc (aAe W w c K.q (m.done dl pm) (K.L (K.pushes σ (m.fl ++ [aCn tx])) ++ N)) s' -> Q .none s') :
  wpAny (model W.prog W.w) A (call (.ref 133) [.ref w.x, .str tag t]) Q E s := by
 refine S.call_fn (binds := [("self", .ref w.x), ("tag", .str tag t)]) [] I.f_end hA.room (λ _ _ _ _ _ => BindsTo.of_eq (by kernel_rfl)) (by kernel_rfl) ?_
 intro L s' S'
 have hA' := hA.deeper (env := envE L)
 walk_at "zd"
 try simp only [aAv, List.map_cons, List.map_nil, List.cons_append, List.nil_append] at S'
 have hcl := I.cl
 have e0 : ((m.ig : Int) != 0) = false := by rw [hig]; rfl
 have hl1 : ("</" : Str).length = 2 := by decide +kernel
 have hl2 : (">" : Str).length = 1 := by decide +kernel
 have rest : ∀ s', Sta W G (envE L) ([("self", some (.ref w.x)), ("tag", some (.str tag t))] : Loc) (aAe W w c K.q { m with held := [] } (K.L (K.pushes σ m.fl) ++ ((env.locals, IsNs loc) :: N))) s' ->
   wpAny (model W.prog W.w) (A.deeper (envE L)) (execs ((aAm aFF).drop 2) (envE L)) (λ fl s'' => Q (match fl with | .ret v => v | _ => .none) s'') (λ _ _ => False) s' := by
  clear S'
  intro s' S'
  walk_at "zd"
  try simp only [aAe] at S'
  walk_at "c"
  refine aAf ?_ (by intro _ _; kernel_rfl)
  walk_at "c"
  refine Sta.getM_inst (f := 90) S' hcl (by walk_at "mem") (by walk_at "mem") VV.keys (by decide +kernel) (by rw [I.k]; kernel_rfl) (by rw [I.k]; kernel_rfl) ?_
  refine aEh (by rw [I.k]; kernel_rfl) ?_ (by kernel_rfl) (by kernel_rfl)
  walk_at "c"
  refine ⟨S'.kin, ?_⟩
  refine qname_ (m := { m with held := [] }) I (S'.perm (nw' := aAe W w c K.q { m with held := [] } (K.L (K.pushes σ m.fl) ++ ((env.locals, IsNs loc) :: N))) (by simp only [aAe]; walk_at "perm")) (hA'.le (by first | decide | omega)) htag hok hq ?_
  clear S'; intro tp dl pm s' hsv hdl S'
  have hsv : nsOf { m with dl := dl, pm := pm } = sv := hsv
  have hdl : aAk dl = aAk m.dl := hdl
  obtain ⟨d1, lv1, hd1, hla⟩ := aDc (hdl.trans (by rw [hd]))
  have hdn : (aAk d1).length < sizeLine := by
   have h1 := congrArg List.length hdl
   rw [hd1] at h1
   simp only [aAk, List.length_map, List.length_append] at h1 ⊢
   rw [sizeLine_eq]
   simp at h1
   omega
  have hnn : (aAk n0).length < sizeLine := by
   have h1 := congrArg List.length hn
   rw [sizeLine_eq]
   simp [aAk] at h1 ⊢
   omega
  have hpn : (p0.map Value.bool).length < sizeLine := by
   have h1 := congrArg List.length hps
   rw [sizeLine_eq]
   simp at h1 ⊢
   omega
  walk_at "c"
  refine Sta.subQn S' (x := tag) (tx := tx) (.head _) ?_
  intro t3
  walk_at "c"
  rw [Str.empty_append]
  refine ⟨S'.sinkLed (L' := []) (by walk_at "mid"), ?_⟩
  refine S'.sink (hA'.le (by first | decide | omega)) (aDY K m hr) (by walk_at "mid") ?_
  clear S'; intro s' S'
  have er1 : aAk dl = aAk d1 ++ [.ref lv1.a] := by rw [hd1]; simp [aAk]
  have er2 : aAk m.nl = aAk n0 ++ [.ref ln.a] := by rw [hn]; simp [aAk]
  have er3 : m.ps.map Value.bool = p0.map .bool ++ [.bool pb] := by rw [hps]; simp
  walk_at "zd"
  try simp only [aAe] at S'
  walk_at "zd"
  try simp only [er1, er2, er3] at S'
  have hz3 : (p0.map Value.bool).length <= sizeLine := Nat.le_of_lt hpn
  walk_at "c"
  refine Sta.pop S' (by walk_at "upd") hpn ?_
  clear S'; intro s' S'
  walk_at "c"
  refine Sta.builtin S' I.b_len aDQ (by kernel_rfl) ?_
  walk_at "c"
  refine Sta.len S' (by walk_at "mem") hz3 ?_
  clear S'; intro t4 s' S'
  walk_at "c"
  refine Sta.pop S' (by walk_at "upd") hdn ?_
  clear S'; intro s' S'
  walk_at "c"
  refine Sta.pop S' (by walk_at "upd") hnn ?_
  clear S'; intro s' S'
  walk_at "c"
  have er : ((((p0.map Value.bool).length : Nat) : Int) == 1) = decide (m.ps.length = 2) := by
   have h1 : m.ps.length = p0.length + 1 := by rw [hps]; simp
   rw [List.length_map]
   by_cases h : p0.length = 1
   ·rw [h1, h]; rfl
   ·rw [decide_eq_false (by omega)]; exact beq_eq_false_iff_ne.mpr (by omega)
  walk_at "zd"
  have ed : (m.done dl pm).dl = d1 := by show dl.dropLast = d1; rw [hd1]; exact List.dropLast_concat
  have en : (m.done dl pm).nl = n0 := by show m.nl.dropLast = n0; rw [hn]; exact List.dropLast_concat
  have ep : (m.done dl pm).ps = p0 := by show m.ps.dropLast = p0; rw [hps]; exact List.dropLast_concat
  walk_at "ke"
  refine k dl pm s' hsv (Sta.back (S'.sel (Sel.rest ((tp, IsQn tag tx) :: (lv1.a, aAa (aAd lv1.ps)) :: (ln.a, aAa (aAd ln.ps)) :: (aAg lv1.ps ++ aAg ln.ps)) ?_)) S.eok)
  rw [er, aEG hd1, aEG hn, K.pushes_append]
  simp only [aAe, ed, en, ep]
  show List.Perm _ _
  walk_at "perm"
 refine aAs ?_
 refine aAi rfl ?_
 refine wpAny_If ?_
 iterate 4 walk_at "cw"
 rw [e0]
 refine aBt ?_
 walk_at "ke"
 refine aAi rfl ?_
 refine wpAny_If ?_
 refine isTrue_plain ?_ (by kernel_rfl)
 iterate 3 walk_at "cw"
 cases hd2 : m.held with
 | nil =>
  walk_at "zd"
  try simp only [aAe] at S'
  rw [aFY hd2] at rest
  walk_at "zd"
  refine aBt ?_
  walk_at "ke"
  exact rest _ (S'.perm (by rw [hd2]; simp only [aAe]; walk_at "perm"))
 | cons y r =>
  refine aB3 ?_
  refine wpAny_execs_cons ?_
  refine wpAny_Expr_any ?_ (by kernel_rfl) (by kernel_rfl)
  have S2 := S'.perm (nw' := aAe W w c K.q m (K.L σ ++ ((env.locals, IsNs loc) :: N))) (by simp only [aAe]; walk_at "perm")
  refine aCl I (hA'.le (by first | decide | omega)) (.head _) hz hc (aDX K (by omega) hr) (by kernel_rfl) (by kernel_rfl) (by kernel_rfl) S2 ?_
  intro s2 S3
  walk_at "ke"
  exact rest _ S3
end
end
section
section
variable {w : Wn} {c : Wc} {q : Addr} {m : Wm} {N : Ledger}
theorem pi_ {K : Sink W} {σ : K.σ} {tg x : Str} {t u : Tok} {Q : Value -> Shared -> Prop} (I : IsC W) (hA : Aok 8 A) (htg : tg.length <= 1000) (hx : x.length <= txtLine) (hig : m.ig = 0) (hrs : m.rs = true) (hrd : m.rd = false) (hz : m.held.length <= sizeLine) (hc : (cat m.held).length <= txtLine) (hr : K.room σ 2)
  (S : Sta W G env loc (aAe W w c K.q m (K.L σ ++ N)) s)
  (k : ∀ s', Sta W G env loc (aAe W w c K.q { m with held := [] } (K.L (K.pushes σ (m.fl ++ [aCv tg x])) ++ N)) s' -> Q .none s') :
  wpAny (model W.prog W.w) A (call (.ref 147) [.ref w.x, .str tg u, .str x t]) Q E s := by
 refine S.call_fn (binds := [("self", .ref w.x), ("target", .str tg u), ("data", .str x t)]) [] I.f_pi hA.room (λ _ _ _ _ _ => BindsTo.of_eq (by kernel_rfl)) (by kernel_rfl) ?_
 intro L s' S'
 have hA' := hA.deeper (env := envP L)
 walk_at "zd"
 simp only [aAv, List.map_cons, List.map_nil, List.cons_append, List.nil_append] at S'
 have hcl := I.cl
 have e0 : ((m.ig : Int) != 0) = false := by rw [hig]; rfl
 have hl1 : ("<?" : Str).length = 2 := by decide +kernel
 have hl2 : ("?>" : Str).length = 2 := by decide +kernel
 have hl4 : (" " : Str).length = 1 := by decide +kernel
 have hl3 := aFZ x
 have hx' : x.length <= 300000 := hx
 have rest : ∀ s', Sta W G (envP L) ([("self", some (.ref w.x)), ("target", some (.str tg u)), ("data", some (.str x t))] : Loc) (aAe W w c K.q { m with held := [] } (K.L (K.pushes σ m.fl) ++ ((env.locals, IsNs loc) :: N))) s' ->
   wpAny (model W.prog W.w) (A.deeper (envP L)) (execs ((aAm aHW).drop 2) (envP L)) (λ fl s'' => Q (match fl with | .ret v => v | _ => .none) s'') (λ _ _ => False) s' := by
  clear S'
  intro s' S'
  walk_at "zd"
  walk_at "c"
  refine aBd S' (by omega) (λ e s' S' => ?_) (λ e s' S' => ?_)
  ·walk_at "c"
   rw [Str.empty_append]
   refine ⟨S'.sinkLed (L' := []) (by walk_at "mid"), ?_⟩
   refine S'.sink (hA'.le (by first | decide | omega)) (aDY K m hr) (by walk_at "mid") ?_
   clear S'; intro s' S'
   walk_at "c"
   rw [hrs]
   walk_at "c"
   have ep : aCv tg x = "<?" ++ tg ++ "?>" := by unfold aCv; rw [if_pos e]
   walk_at "ke"
   refine k s' (Sta.back (S'.perm ?_) S.eok)
   walk_at "zg"
   rw [K.pushes_append, ep]
   show List.Perm _ _
   walk_at "perm"
  ·walk_at "c"
   refine Sta.global S' I.g_escC (by kernel_rfl) ?_
   refine aBJ (by rw [I.k]; kernel_rfl) ?_ (by kernel_rfl) (by kernel_rfl)
   walk_at "c"
   refine ⟨S'.kin, ?_⟩
   refine escC_ I S' (hA'.le (by first | decide | omega)) hx ?_
   clear S'; intro t2 s' S'
   walk_at "c"
   rw [Str.empty_append]
   refine ⟨S'.sinkLed (L' := []) (by walk_at "mid"), ?_⟩
   refine S'.sink (hA'.le (by first | decide | omega)) (aDY K m hr) (by walk_at "mid") ?_
   clear S'; intro s' S'
   walk_at "c"
   rw [hrs]
   walk_at "c"
   have ep : aCv tg x = "<?" ++ tg ++ " " ++ escC x ++ "?>" := by unfold aCv; rw [if_neg e]
   walk_at "ke"
   refine k s' (Sta.back (S'.perm ?_) S.eok)
   walk_at "zg"
   rw [K.pushes_append, ep]
   show List.Perm _ _
   walk_at "perm"
 refine aAs ?_
 walk_at "c"
 rw [e0]
 walk_at "c"
 rw [hrd]
 walk_at "c"
 rw [hrs]
 iterate 6 walk_at "cw"
 cases hd2 : m.held with
 | nil =>
  walk_at "zd"
  simp only [aAe] at S'
  rw [aFY hd2] at rest
  walk_at "zd"
  refine aBt ?_
  refine aBt ?_
  walk_at "ke"
  walk_at "ke"
  exact rest _ (S'.perm (by rw [hd2]; simp only [aAe]; walk_at "perm"))
 | cons y r =>
  refine aB3 ?_
  refine isTrue_and_nil ?_
  refine aB3 ?_
  refine wpAny_execs_cons ?_
  refine wpAny_Expr_any ?_ (by kernel_rfl) (by kernel_rfl)
  have S2 := S'.perm (nw' := aAe W w c K.q m (K.L σ ++ ((env.locals, IsNs loc) :: N))) (by simp only [aAe]; walk_at "perm")
  refine aCl I (hA'.le (by first | decide | omega)) (.head _) hz hc (aDX K (by omega) hr) (by kernel_rfl) (by kernel_rfl) (by kernel_rfl) S2 ?_
  intro s2 S3
  walk_at "ke"
  walk_at "ke"
  exact rest _ S3
end
end
section
noncomputable def esAt (K : Frag) (d : Addr) : Array DictEntry := match (obAt K d).data with
 | .dict es _ => es
 | _ => #[]
noncomputable def epAt (K : Frag) (d : Addr) : Nat := match (obAt K d).data with
 | .dict _ ep => ep
 | _ => 0
noncomputable def mapE (P : Params) (i : Nat) : DictEntry := (esAt (KK P) 44).toList.getD i default
noncomputable def aEZ : Value -> Tok
 | .str _ t => t
 | _ => 0
noncomputable def aI8 (P : Params) : List (Str × Str × Tok) := [("http://www.w3.org/XML/1998/namespace", "xml", aEZ (mapE P 0).val), ("http://www.w3.org/1999/xhtml", "html", aEZ (mapE P 1).val), ("http://www.w3.org/1999/02/22-rdf-syntax-ns#", "rdf", aEZ (mapE P 2).val), ("http://schemas.xmlsoap.org/wsdl/", "wsdl", aEZ (mapE P 3).val), ("http://www.w3.org/2001/XMLSchema", "xs", aEZ (mapE P 4).val), ("http://www.w3.org/2001/XMLSchema-instance", "xsi", aEZ (mapE P 5).val), ("http://purl.org/dc/elements/1.1/", "dc", aEZ (mapE P 6).val)]
noncomputable def nmapV : List NsP := [("http://www.w3.org/XML/1998/namespace", "xml"), ("http://www.w3.org/1999/xhtml", "html"), ("http://www.w3.org/1999/02/22-rdf-syntax-ns#", "rdf"), ("http://schemas.xmlsoap.org/wsdl/", "wsdl"), ("http://www.w3.org/2001/XMLSchema", "xs"), ("http://www.w3.org/2001/XMLSchema-instance", "xsi"), ("http://purl.org/dc/elements/1.1/", "dc")]
theorem aI7 (P : Params) : (aI8 P).map (λ p => (p.1, p.2.1)) = nmapV := rfl
theorem aFQ (P : Params) : (esAt (KK P) 44).toList = [mapE P 0, mapE P 1, mapE P 2, mapE P 3, mapE P 4, mapE P 5, mapE P 6] := by kernel_rfl
theorem map_at (prog : Program) (w : World) (h : Heap) (X : (KK w.params).In h) : h.DictAt (PySem.strKind prog w) 44 (atV (aI8 w.params)) (epAt (KK w.params) 44) := by
 refine ⟨obAt (KK w.params) 44, esAt (KK w.params) 44, X _ _ (by kernel_rfl), ⟨by kernel_rfl, by kernel_rfl, by kernel_rfl⟩, by kernel_rfl, ?_, ?_, ?_⟩
 ·intro e he
  have he' := Array.mem_toList_iff.mpr he
  rw [aFQ] at he'
  simp only [List.mem_cons, List.not_mem_nil, or_false] at he'
  rcases he' with rfl | rfl | rfl | rfl | rfl | rfl | rfl
  ·exact ⟨"http://www.w3.org/XML/1998/namespace", by kernel_rfl, by kernel_rfl⟩
  ·exact ⟨"http://www.w3.org/1999/xhtml", by kernel_rfl, by kernel_rfl⟩
  ·exact ⟨"http://www.w3.org/1999/02/22-rdf-syntax-ns#", by kernel_rfl, by kernel_rfl⟩
  ·exact ⟨"http://schemas.xmlsoap.org/wsdl/", by kernel_rfl, by kernel_rfl⟩
  ·exact ⟨"http://www.w3.org/2001/XMLSchema", by kernel_rfl, by kernel_rfl⟩
  ·exact ⟨"http://www.w3.org/2001/XMLSchema-instance", by kernel_rfl, by kernel_rfl⟩
  ·exact ⟨"http://purl.org/dc/elements/1.1/", by kernel_rfl, by kernel_rfl⟩
 ·rw [aFQ]
  exact .cons (by kernel_rfl) (by kernel_rfl) (.cons (by kernel_rfl) (by kernel_rfl) (.cons (by kernel_rfl) (by kernel_rfl) (.cons (by kernel_rfl) (by kernel_rfl) (.cons (by kernel_rfl) (by kernel_rfl) (.cons (by kernel_rfl) (by kernel_rfl) (.cons (by kernel_rfl) (by kernel_rfl) .nil))))))
 ·show (nmapV.map (·.1)).Nodup
  decide +kernel
theorem IsC.mapAt {W : Wd} (I : IsC W) (O : W.Ok) : W.B.DictAt (PySem.strKind W.prog W.w) 44 (atV (aI8 W.w.params)) (epAt (KK W.w.params) 44) := map_at _ _ _ (by have := O.kin; rwa [I.k] at this)
section
variable {N : Ledger}
theorem Sta.listItemsT {r d : Addr} {l : List (Str × Str × Tok)} {ep : Nat} {Q : Value -> Shared -> Prop} (S : Sta W G env loc nw s) (hh : A.handled = none) (hm : W.B.DictAt (PySem.strKind W.prog W.w) d (atV l) ep) (mv : (r, aCN d) ∈ nw) (hn : l.length <= 1000)
  (h : ∀ b ps s', ps.map (·.2) = l.map (λ p => (p.1, p.2.1)) -> Sta W G env loc ((b, aAa (aAd ps)) :: (nw ++ aAg ps)) s' -> Q (.ref b) s') : wpAny (model W.prog W.w) A (call (.type "list") [.ref r]) Q E s := by
 obtain ⟨o, ho, rfl⟩ := S.get mv
 have hll : (atV l).length = l.length := List.length_map ..
 refine kdx_call (knd := PySem.strKind W.prog W.w) hh ⟨_, ho, rfl, rfl⟩ (aBo hm S.led.keep) (by rw [hll, sizeLine_eq]; omega) λ h' tk acc c as hk hS hl hG hacc => ?_
 have hal : as.length = l.length := hl.trans hll
 let ps : List (Addr × NsP) := as.zip (l.map λ p => (p.1, p.2.1))
 have hps1 : ps.map (·.1) = as := List.map_fst_zip (by rw [List.length_map]; omega)
 have hps2 : ps.map (·.2) = l.map λ p => (p.1, p.2.1) := List.map_snd_zip (by rw [List.length_map]; omega)
 have href : as.map Value.ref = aAd ps := by rw [← hps1]; simp [aAd]
 refine h _ ps _ hps2 (Sta.perm (nw := (s.heap.objs.size, aAa (aAd ps)) :: (aAg ps ++ nw)) ?_ (List.perm_append_comm.cons _))
 have e : ((s.heap.objs.size, aAa (aAd ps)) :: (aAg ps ++ nw) : Ledger) = ((s.heap.objs.size, aAa (aAd ps)) :: aAg ps) ++ nw := rfl
 rw [e]
 refine S.many hk _ ?_ ?_ ?_ tk
 ·have e : (aAg ps).map Prod.fst = as := by rw [← hps1]; simp [aAg]
  rw [List.map_cons, e]
  refine List.nodup_cons.mpr ⟨λ hm => ?_, hG.rise.imp λ hlt => Nat.ne_of_lt hlt⟩
  exact absurd (hG.above _ hm) (Nat.lt_irrefl _)
 ·intro p hp
  rcases List.mem_cons.mp hp with rfl | hp
  ·exact Nat.le_refl _
  obtain ⟨q, hq, rfl⟩ := List.mem_map.mp hp
  have : q.1 ∈ as := by rw [← hps1]; exact List.mem_map.mpr ⟨q, hq, rfl⟩
  exact Nat.le_of_lt (hG.above _ this)
 ·intro p hp
  rcases List.mem_cons.mp hp with rfl | hp
  ·refine ⟨_, hS, c, ?_⟩
   rw [← href, ← hacc]
  obtain ⟨q, hq, rfl⟩ := List.mem_map.mp hp
  obtain ⟨j, hj, rfl⟩ := List.getElem_of_mem hq
  have hja : j < as.length := by have := congrArg List.length hps1; rw [List.length_map] at this; omega
  have hjl : j < l.length := by omega
  have ez : ps[j] = (as[j], (l[j].1, l[j].2.1)) := by simp [ps]
  obtain ⟨key, k, x', e1, e2, e3⟩ := hG.pairs j as[j] (List.getElem?_eq_getElem hja)
  have e1' : (l[j].1, Value.str l[j].2.1 l[j].2.2) = (k, x') := by
   have : (atV l)[j]? = some (l[j].1, .str l[j].2.1 l[j].2.2) := by simp [atV, hjl]
   rw [this] at e1
   exact Option.some.inj e1
  cases e1'
  obtain ⟨t, rfl⟩ : ∃ t, key = .str l[j].1 t := by
   cases key with
   | str y t => exact ⟨t, by rw [aJj e2]⟩
   | _ => first | cases e2 | exact absurd e2 (by simp [PySem.strKind, Value.isStrOf])
  rw [ez]
  exact ⟨_, e3, t, _, 0, rfl⟩
end
end
section
noncomputable abbrev xmlU : Str := "http://www.w3.org/XML/1998/namespace"
noncomputable def aBO (rw : Bool) : NSt := ⟨[[(xmlU, "xml")]], if rw = true then [[]] else [nmapV, []], []⟩
structure IsFresh (m : Wm) (rw : Bool) : Prop where
 held : m.held = []
 ns : nsOf m = aBO rw
 ps : m.ps = [false]
 rs : m.rs = false
 rd : m.rd = false
 ig : m.ig = 0
noncomputable abbrev envI (L : Addr) : Env := envOf "C14NWriterTarget.__init__" (aAc aDU) L 67 (.ref 66)
theorem ixAt {α : Type} {l : List α} {x : α} (i : Nat) (h : l[i]? = some x) : l[i]? = some x := h
theorem aBW {a : Addr} {c c' : Cell} : ∀ {l : Ledger} (i : Nat), l[i]? = some (a, c) -> Upd a c c' l (l.set i (a, c'))
 | [], _, h => nomatch h
 | _ :: _, 0, h => by cases h; exact .head
 | _ :: _, i + 1, h => .tail (aBW i h)
theorem putAt {x : Str} {o v : Option Value} : ∀ {l : Loc} (i : Nat), l[i]? = some (x, o) -> Put x v l (l.set i (x, v))
 | [], _, h => nomatch h
 | _ :: _, 0, h => by cases h; exact .head
 | _ :: _, i + 1, h => .tail (putAt i h)
section
variable {W : Wd} {G : Gens} {env : Env} {loc : Loc} {nw : Ledger} {s : Shared} {A : Around} {E : Value -> Shared -> Prop} {i j : Nat} {vals : Loc} {v : Value} {o : Option Value} {names : List Str} {C a d : Addr} {x y attr : Str} {l : List Stmt} {n : Nat} {xp yp p' pos : Pos} {Q : Flow -> Shared -> Prop}
theorem Sta.setattrAt {Q : Unit -> Shared -> Prop} (S : Sta W G env loc nw s) (c : Cl W.K C names) (mx : (a, aAu C d) ∈ nw) (hi : nw[i]? = some (d, aAl vals)) (hk : vals.map Prod.fst = names) (hj : vals[j]? = some (attr, o)) (hz : names.length <= 1000)
  (h : ∀ s', let V := vals.set j (attr, some v); let M := nw.set i (d, aAl V); Sta W G env loc M s' -> Q () s') : wpAny (model W.prog W.w) A (setAttr (.ref a) attr v) Q E s := S.setattr c mx (aBW i hi) hk (putAt j hj) hz h
theorem r_setL (S : Sta W G env loc nw s) (hl : l[n]? = some (.Assign [.Attribute (.Name x xp) attr p'] (.Name y yp) pos)) (hy : (y, some v) ∈ loc) (hx : (x, some (.ref a)) ∈ loc) (c : Cl W.K C names) (mx : (a, aAu C d) ∈ nw) (hi : nw[i]? = some (d, aAl vals)) (hk : vals.map Prod.fst = names) (hj : vals[j]? = some (attr, o)) (hz : names.length <= 1000)
  (h : ∀ s', let V := vals.set j (attr, some v); let M := nw.set i (d, aAl V); Sta W G env loc M s' -> wpAny (model W.prog W.w) A (execs (l.drop (n + 1)) env) Q E s') : wpAny (model W.prog W.w) A (execs (l.drop n) env) Q E s :=
 aAi hl (aBK (S.local_ hy (S.local_ hx (S.setattrAt c mx hi hk hj hz h))) rfl)
theorem r_setN {k : Nat} (S : Sta W G env loc nw s) (hl : l[n]? = some (.Assign [.Attribute (.Name x xp) attr p'] (.Constant .none k yp) pos)) (hx : (x, some (.ref a)) ∈ loc) (c : Cl W.K C names) (mx : (a, aAu C d) ∈ nw) (hi : nw[i]? = some (d, aAl vals)) (hk : vals.map Prod.fst = names) (hj : vals[j]? = some (attr, o)) (hz : names.length <= 1000)
  (h : ∀ s', let V := vals.set j (attr, some .none); let M := nw.set i (d, aAl V); Sta W G env loc M s' -> wpAny (model W.prog W.w) A (execs (l.drop (n + 1)) env) Q E s') : wpAny (model W.prog W.w) A (execs (l.drop n) env) Q E s :=
 aAi hl (aBK (wpAny_Constant_none (S.local_ hx (S.setattrAt c mx hi hk hj hz h))) rfl)
theorem r_setB {k : Nat} {b : Bool} (S : Sta W G env loc nw s) (hl : l[n]? = some (.Assign [.Attribute (.Name x xp) attr p'] (.Constant (.bool b) k yp) pos)) (hx : (x, some (.ref a)) ∈ loc) (c : Cl W.K C names) (mx : (a, aAu C d) ∈ nw) (hi : nw[i]? = some (d, aAl vals)) (hk : vals.map Prod.fst = names) (hj : vals[j]? = some (attr, o)) (hz : names.length <= 1000)
  (h : ∀ s', let V := vals.set j (attr, some (.bool b)); let M := nw.set i (d, aAl V); Sta W G env loc M s' -> wpAny (model W.prog W.w) A (execs (l.drop (n + 1)) env) Q E s') : wpAny (model W.prog W.w) A (execs (l.drop n) env) Q E s :=
 aAi hl (aBK (wpAny_Constant_bool (S.local_ hx (S.setattrAt c mx hi hk hj hz h))) rfl)
end
section
local macro_rules | `(tactic| walk_at $s:str) => Mine.goAt [("perm", ": ( ( ( ( 'dsimp ( ( ( ( '( config ':= ( '{ ( ) ( ( ( ( zetaDelta ( ) )T:structInstLVal ( ( ) ( ) ( ':= ( ) true )T:structInstFieldDef ) )T:structInstField ) )T:structInstFields ( ( ) )T:optEllipsis ( ) '} )T:structInst ') )t:valConfigItem )t:configItem ) )t:optConfig ( ) ( 'only ) ( '[ ( ( ( ) ( ) List.set_cons_zero )t:simpLemma ', ( ( ) ( ) List.set_cons_succ )t:simpLemma ) '] ) ( ) )t:dsimp )? )& ( =pm =perm0 )| )&"), ("zd", ": ( ( 'dsimp ( ( ( ( '( config ':= ( '{ ( ) ( ( ( ( zetaDelta ( ) )T:structInstLVal ( ( ) ( ) ( ':= ( ) true )T:structInstFieldDef ) )T:structInstField ) )T:structInstFields ( ( ) )T:optEllipsis ( ) '} )T:structInst ') )t:valConfigItem )t:configItem ) )t:optConfig ( ) ( 'only ) ( '[ ( ( ( ) ( ) List.set_cons_zero )t:simpLemma ', ( ( ) ( ) List.set_cons_succ )t:simpLemma ) '] ) ( ( 'at ( ( S ) )t:locationHyp )t:location ) )t:dsimp )?"), ("zg", ": ( ( 'dsimp ( ( ( ( '( config ':= ( '{ ( ) ( ( ( ( zetaDelta ( ) )T:structInstLVal ( ( ) ( ) ( ':= ( ) true )T:structInstFieldDef ) )T:structInstField ) )T:structInstFields ( ( ) )T:optEllipsis ( ) '} )T:structInst ') )t:valConfigItem )t:configItem ) )t:optConfig ( ) ( 'only ) ( '[ ( ( ( ) ( ) List.set_cons_zero )t:simpLemma ', ( ( ) ( ) List.set_cons_succ )t:simpLemma ) '] ) ( ) )t:dsimp )?"), ("mem", ": ( List.mem_of_getElem? @i=#0 rfl )e; : ( List.mem_of_getElem? @i=#1 rfl )e; : ( List.mem_of_getElem? @i=#2 rfl )e; : ( List.mem_of_getElem? @i=#3 rfl )e; : ( List.mem_of_getElem? @i=#4 rfl )e; : ( List.mem_of_getElem? @i=#5 rfl )e; : ( List.mem_of_getElem? @i=#6 rfl )e; : ( List.mem_of_getElem? @i=#7 rfl )e; : ( List.mem_of_getElem? @i=#8 rfl )e; : ( List.mem_of_getElem? @i=#9 rfl )e; : ( List.mem_of_getElem? @i=#10 rfl )e; : ( List.mem_of_getElem? @i=#11 rfl )e; : ( List.mem_of_getElem? @i=#12 rfl )e; : ( List.mem_of_getElem? @i=#13 rfl )e"), ("upd", ": ( aBW #0 rfl )e; : ( aBW #1 rfl )e; : ( aBW #2 rfl )e; : ( aBW #3 rfl )e; : ( aBW #4 rfl )e; : ( aBW #5 rfl )e; : ( aBW #6 rfl )e; : ( aBW #7 rfl )e; : ( aBW #8 rfl )e; : ( aBW #9 rfl )e; : ( aBW #10 rfl )e; : ( aBW #11 rfl )e; : ( aBW #12 rfl )e; : ( aBW #13 rfl )e"), ("ix", ": ( ixAt #0 rfl )e; : ( ixAt #1 rfl )e; : ( ixAt #2 rfl )e; : ( ixAt #3 rfl )e; : ( ixAt #4 rfl )e; : ( ixAt #5 rfl )e; : ( ixAt #6 rfl )e; : ( ixAt #7 rfl )e; : ( ixAt #8 rfl )e; : ( ixAt #9 rfl )e; : ( ixAt #10 rfl )e; : ( ixAt #11 rfl )e; : ( ixAt #12 rfl )e; : ( ixAt #13 rfl )e; : ( ixAt #14 rfl )e; : ( ixAt #15 rfl )e; : ( ixAt #16 rfl )e; : ( ixAt #17 rfl )e"), ("nV", ": ( ( 'clear ( S ) )t:clear ( 'intro ( s' Vq Mq S ) )t:intro )&"), ("sv", "r_setL S /rfl /mem /mem hcl /mem /ix /rfl /ix /dec _ | nV; r_setN S /rfl /mem hcl /mem /ix /rfl /ix /dec _ | nV; r_setB S /rfl /mem hcl /mem /ix /rfl /ix /dec _ | nV; Sta.dictD0 S _ | na; Sta.setattrAt S hcl /mem /ix /rfl /ix /dec _ | nV; Sta.getattr S hcl /mem /mem /rfl /mem /rfl _ | ns; Sta.builtin S I.b_list aHI /kr _ /deck /deck; Sta.global S I.g_map /kr _ /deck; Sta.getM_dict S hmap F.slot_dict_items F.type_dict_items _; Sta.items S hmap /deck _ | na; : =cw")] s
variable {w : Wn} {c : Wc} {q : Addr} {m : Wm} {N : Ledger}
theorem mkWn {x dx d dns ns pm ps a0 tp q : Addr} {tu tx ti : Tok} {nl : List Lv} {com rw : Bool} {et : Value}
  (S : Sta W G env loc ((x, aAu 150 dx) :: (dx, aAl (VV (.ref q) (.ref d) (.bool com) (.bool false) .none et (.bool rw) .none .none (.ref dns) (.ref ns) (.ref pm) (.ref ps) .none (.bool false) (.bool false) (.int 0 ti))) :: (d, aAa []) :: (dns, aAa [.ref a0]) :: (ns, aAa (aAk nl)) :: (pm, IsD W pm []) :: (ps, aAa [.bool false]) :: (a0, aAa [.ref tp]) :: (tp, aAo [.str xmlU tu, .str "xml" tx]) :: (aAr nl ++ N)) s) :
  Sta W G env loc (aAe W ⟨x, dx, d, dns, ns, pm, ps⟩ ⟨com, rw, et⟩ q ⟨[], [⟨a0, [(tp, xmlU, "xml")]⟩], nl, [], [false], false, false, 0, ti⟩ N) s := by
 have S1 := S.tell (a := d) (c' := aAb []) (.tail (.tail .head)) λ o _ ho => ⟨_, .nil, ho⟩
 have S2 := S1.tell (a := tp) (c' := IsPr (xmlU, "xml")) (.tail (.tail (.tail (.tail (.tail (.tail (.tail (.tail .head)))))))) λ o _ ho => ⟨_, _, ho⟩
 refine S2.perm ?_
 show List.Perm _ ((x, aAu 150 dx) :: (dx, aAl _) :: (d, aAb []) :: (dns, aAa [.ref a0]) :: (ns, aAa (aAk nl)) :: (pm, IsD W pm []) :: (ps, aAa [.bool false]) :: (((a0, aAa [.ref tp]) :: (tp, IsPr (xmlU, "xml")) :: []) ++ (aAr nl ++ N)))
 exact .refl _
theorem mkWnE {p : Addr × Cell} {x dx d dns ns pm ps a0 tp q e : Addr} {tu tx ti : Tok} {nl : List Lv} {com rw : Bool} {et : Value}
  (S : Sta W G env loc ((ps, aAa [.bool false]) :: (pm, IsD W pm []) :: (e, aAa []) :: (ns, aAa (aAk nl ++ [.ref e])) :: (dns, aAa [.ref a0]) :: (a0, aAa [.ref tp]) :: (tp, aAo [.str xmlU tu, .str "xml" tx]) :: (d, aAa []) :: p :: (x, aAu 150 dx) :: (dx, aAl (VV (.ref q) (.ref d) (.bool com) (.bool false) .none et (.bool rw) .none .none (.ref dns) (.ref ns) (.ref pm) (.ref ps) .none (.bool false) (.bool false) (.int 0 ti))) :: (aAr nl ++ N)) s) :
  Sta W G env loc (aAe W ⟨x, dx, d, dns, ns, pm, ps⟩ ⟨com, rw, et⟩ q ⟨[], [⟨a0, [(tp, xmlU, "xml")]⟩], nl ++ [⟨e, []⟩], [], [false], false, false, 0, ti⟩ (p :: N)) s := by
 refine mkWn (nl := nl ++ [⟨e, []⟩]) (tu := tu) (tx := tx) (S.perm ?_)
 have h : aAk (nl ++ [⟨e, []⟩]) = aAk nl ++ [.ref e] := List.map_append
 rw [h, aAD]
 show List.Perm _ ((x, aAu 150 dx) :: (dx, aAl _) :: (d, aAa []) :: (dns, aAa [.ref a0]) :: (ns, aAa (aAk nl ++ [.ref e])) :: (pm, IsD W pm []) :: (ps, aAa [.bool false]) :: (a0, aAa [.ref tp]) :: (tp, aAo [.str xmlU tu, .str "xml" tx]) :: ((aAr nl ++ ((e, aAa []) :: [])) ++ (p :: N)))
 walk_at "perm"
theorem toEnd {li vw ns : Addr} {X : Cell} {lps : List (Addr × NsP)} {e1 e2 e3 e4 e5 e6 e7 : Addr × Cell} (S : Sta W G env loc ((li, aAa (aAd lps)) :: (vw, X) :: (ns, aAa ([] ++ [.ref li])) :: e1 :: e2 :: e3 :: e4 :: e5 :: e6 :: e7 :: (N ++ aAg lps)) s) :
  Sta W G env loc ((ns, aAa (aAk [⟨li, lps⟩])) :: e1 :: e2 :: e3 :: e4 :: e5 :: e6 :: e7 :: (aAr [⟨li, lps⟩] ++ N)) s := by
 refine S.sel (Sel.rest [(vw, X)] ?_)
 show List.Perm _ (((ns, aAa ([] ++ [.ref li])) :: e1 :: e2 :: e3 :: e4 :: e5 :: e6 :: e7 :: (((li, aAa (aAd lps)) :: (aAg lps ++ [])) ++ N)) ++ [(vw, X)])
 walk_at "perm"
theorem offP {p : Addr × Cell} {c : Wc} {m : Wm} (S : Sta W G env loc (aAe W w c q m (p :: N)) s) : Sta W G env loc (p :: aAe W w c q m N) s := by
 refine S.perm ?_
 simp only [aAe]
 walk_at "perm"
noncomputable abbrev halfV (q d dns ns : Addr) (rw : Bool) : Loc := [("_write", some (.ref q)), ("_data", some (.ref d)), ("_with_comments", some (.bool false)), ("_strip_text", some (.bool false)), ("_exclude_attrs", some .none), ("_exclude_tags", some .none), ("_rewrite_prefixes", some (.bool rw)), ("_qname_aware_tags", some .none), ("_find_qname_aware_attrs", some .none), ("_declared_ns_stack", some (.ref dns)), ("_ns_stack", some (.ref ns)), ("_prefix_map", none), ("_preserve_space", none), ("_pending_start", none), ("_root_seen", none), ("_root_done", none), ("_ignored_depth", none)]
noncomputable abbrev locI (x q : Addr) (rw : Bool) : Loc := [("self", some (.ref x)), ("write", some (.ref q)), ("with_comments", some (.bool false)), ("strip_text", some (.bool false)), ("rewrite_prefixes", some (.bool rw)), ("qname_aware_tags", some .none), ("qname_aware_attrs", some .none), ("exclude_attrs", some .none), ("exclude_tags", some .none)]
theorem aFW {p : Addr × Cell} {x dx q d dns a0 tp ns L : Addr} {tu tx : Tok} {nl : List Lv} {rw : Bool} {Q : Flow -> Shared -> Prop} (I : IsC W) (hn : nl.length <= 1)
  (S' : Sta W G (envI L) (locI x q rw) ((ns, aAa (aAk nl)) :: (dns, aAa [.ref a0]) :: (a0, aAa [.ref tp]) :: (tp, aAo [.str xmlU tu, .str "xml" tx]) :: (d, aAa []) :: p :: (x, aAu 150 dx) :: (dx, aAl (halfV q d dns ns rw)) :: (aAr nl ++ N)) s)
  (k : ∀ e pm ps ti s', Sta W G (envI L) (locI x q rw) (aAe W ⟨x, dx, d, dns, ns, pm, ps⟩ ⟨false, rw, .none⟩ q ⟨[], [⟨a0, [(tp, xmlU, "xml")]⟩], nl ++ [⟨e, []⟩], [], [false], false, false, 0, ti⟩ (p :: N)) s' -> Q .next s') :
  wpAny (model W.prog W.w) A (execs ((aAm aDU).drop 12) (envI L)) Q E s := by
 have hcl := I.cl
 have hz : (aAk nl).length < 16777216 := by rw [show (aAk nl).length = nl.length from List.length_map ..]; omega
 repeat walk_at "sv"
 exact k _ _ _ _ _ (mkWnE S')
theorem aFX {a0 tp : Addr} {nl : List Lv} {ti : Tok} {rw : Bool} (h : nl.map Lv.val = (aBO rw).nss) : IsFresh ⟨[], [⟨a0, [(tp, xmlU, "xml")]⟩], nl, [], [false], false, false, 0, ti⟩ rw := by
 refine ⟨rfl, ?_, rfl, rfl, rfl, rfl⟩
 unfold nsOf
 rw [h]
 rfl
theorem initR_ {x dx q : Addr} {rw : Bool} {R : Result -> Shared -> Prop} (I : IsC W) (S : Sta W G env loc ((x, aAu 150 dx) :: (dx, aAl (selfNames.map λ k => (k, none))) :: N) s) (hA : Aok 3 A)
  (h : ∀ w m s', w.x = x -> IsFresh m rw -> Sta W G env loc (aAe W w ⟨false, rw, .none⟩ q m N) s' -> R (.ok (.ret .none)) s') :
  codeAny (model W.prog W.w) A (.call (.ref 67) ⟨[.ref x, .ref q], [("rewrite_prefixes", .bool rw)]⟩) R s := by
 refine S.code_fn (binds := [("self", .ref x), ("write", .ref q), ("with_comments", .bool false), ("strip_text", .bool false), ("rewrite_prefixes", .bool rw), ("qname_aware_tags", .none), ("qname_aware_attrs", .none), ("exclude_attrs", .none), ("exclude_tags", .none)]) [] I.f_init hA.room ?_ (by kernel_rfl) ?_
 ·intro name doc pm ct an
  exact kp_binds S.kin λ S => by rw [I.k]; kernel_rfl
 intro L s' S'
 have hA' := hA.deeper (env := envI L)
 walk_at "zd"
 simp only [aAv, List.map_cons, List.map_nil, List.cons_append, List.nil_append, selfNames] at S'
 have hcl := I.cl
 have hmap := I.mapAt S.ok
 refine wpAny_execs_cons ?_
 repeat walk_at "sv"
 cases rw with
 | true =>
  refine aBt ?_
  walk_at "kn"
  exact aFW (nl := []) I (Nat.zero_le _) S' λ e pm ps ti s' S2 => h _ _ s' rfl (aFX rfl) (Sta.back (offP S2) S.eok)
 | false =>
  repeat walk_at "sv"
  refine Sta.listItemsT S' hA'.handled hmap (by walk_at "mem") (by show 7 <= 1000; decide) ?_
  clear S'; intro li lps s' hlv S'
  rw [aI7] at hlv
  walk_at "zd"
  simp only [List.cons_append] at S'
  iterate 3 walk_at "sv"
  walk_at "kn"
  refine aFW (nl := [⟨li, lps⟩]) I (Nat.le_refl _) (toEnd S') ?_
  intro e pm ps ti s' S2
  refine h _ _ s' rfl (aFX ?_) (Sta.back (offP S2) S.eok)
  show [lps.map (·.2), []] = _
  rw [hlv]
  rfl
end
end
section
section
variable {N : Ledger}
noncomputable def aCr (ps : List (Str × Tok)) : List Value := ps.map λ q => .str q.1 q.2
theorem Sta.sortTs {l : Addr} {ps : List (Str × Tok)} {Q : Value -> Shared -> Prop} (h4 : ps.length <= 4) (S : Sta W G env loc ((l, aAa (aCr ps)) :: N) s)
  (h : ∀ ps' s', ps'.map (·.1) = srt ltS (ps.map (·.1)) -> Sta W G env loc ((l, aAa (aCr ps')) :: N) s' -> Q .none s') : wpAny (model W.prog W.w) A (call (.builtin "list.sort") [.ref l]) Q E s := by
 refine Sta.sortG (val := λ q : Str × Tok => q.1) (κ := oneType') tot_str (Str.empty, 0) h4 S (λ c s' Q' h2 S' hQ => ?_) (λ c s' x y E' C hx hy S' hC => kas_lt_str hC) λ ps' s' hv hp S' => h ps' s' hv S'
 refine kas_kind (T := .type "str") (by rw [List.length_map]; omega) (λ v hv => ?_) (by decide) (by decide) hQ
 obtain ⟨q, hq, rfl⟩ := List.mem_map.mp hv
 exact .now
theorem aIL {vs : List Value} {ss : List Str} (h : TxtsAre vs ss) : ∃ ps : List (Str × Tok), ps.map (·.1) = ss /\ aCr ps = vs := by
 induction h with
 | nil => exact ⟨[], rfl, rfl⟩
 | cons x t _ ih =>
  obtain ⟨ps, h1, h2⟩ := ih
  exact ⟨(x, t) :: ps, by simp [h1], by show _ :: aCr ps = _; rw [h2]⟩
theorem aE3 : ∀ ps : List (Str × Tok), TxtsAre (aCr ps) (ps.map (·.1))
 | [] => .nil
 | (x, t) :: ps => .cons x t (aE3 ps)
theorem Sta.sortedTs {l : Addr} {ss : List Str} {Q : Value -> Shared -> Prop} (h4 : ss.length <= 4) (S : Sta W G env loc nw s) (m : (l, aAb ss) ∈ nw)
  (h : ∀ b s', Sta W G env loc ((b, aAb (srt ltS ss)) :: nw) s' -> Q (.ref b) s') : wpAny (model W.prog W.w) A (call (.builtin "sorted") [.ref l]) Q E s := by
 obtain ⟨vs, ht, hl⟩ := S.txts m
 obtain ⟨ps, h1, h2⟩ := aIL ht
 have hpl : ps.length <= 4 := by rw [← List.length_map (f := (·.1)) (as := ps), h1]; exact h4
 refine Calls.call_function_entry kind_sorted plain_sorted entry_sorted (args_sorted1 _) ?_
 refine wpAny_bind (m := checkCount "sorted" 1 1 _) (wpAny_pure ?_)
 have hvl : vs.length <= sizeLine := by rw [← h2, sizeLine_eq]; simp [aCr]; omega
 refine wpAny_bind (collect_list (hsz := hvl) hl ?_)
 have S1 : Sta W G env loc ([(s.heap.objs.size, aAa vs)] ++ nw) { s with heap := (s.heap.push (seqObj "list" #[] 0)).update s.heap.objs.size (Obj.mapSeq (· ++ vs.toArray)), toks := s.toks } := by
  refine S.many (λ b o e => ?_) _ (by simp) ?_ ?_ s.toks
  ·exact (Heap.get?_update_other _ _ (Nat.ne_of_gt (Heap.lt_size e))).trans (Heap.get?_push_of_some _ e)
  ·intro p hp
   rw [List.mem_singleton] at hp
   subst hp
   exact Nat.le_refl _
  ·intro p hp
   rw [List.mem_singleton] at hp
   subst hp
   obtain ⟨e1, ho1⟩ : ∃ e1, ((s.heap.push (seqObj "list" #[] 0)).update s.heap.objs.size (Obj.mapSeq (· ++ vs.toArray))).get? s.heap.objs.size = some (seqObj "list" (#[] ++ vs.toArray) e1) := ⟨_, get?_update_seq (Heap.get?_push_size _ rfl) λ a => a ++ vs.toArray⟩
   exact ⟨_, ho1, e1, by rw [Array.empty_append]⟩
 have S2 := S1.sub (nw' := nw) (List.sublist_cons_self _ _)
 refine wpAny_bind (S2.newList hvl λ b s2 S3 => ?_)
 rw [← h2] at S3
 refine wpAny_bind (wpAny_holding (S3.sortTs hpl λ ps' s3 hv S4 => ?_))
 have S5 := S4.tell (c' := aAb (srt ltS ss)) .head λ o _ ho => ⟨aCr ps', by have := aE3 ps'; rw [hv, h1] at this; exact this, ho⟩
 exact wpAny_pure ⟨_, rfl, h b s3 S5⟩
end
end
section
noncomputable def tokV : Value -> Tok
 | .str _ t => t
 | _ => 0
section
variable {N : Ledger}
theorem Sta.sortedD {d : Addr} {kvs : List (Str × Value)} {Q : Value -> Shared -> Prop} (S : Sta W G env loc nw s) (hh : A.handled = none) (md : (d, IsD W d kvs) ∈ nw) (h4 : kvs.length <= 4)
  (h : ∀ b s', Sta W G env loc ((b, aAb (srt ltS (kvs.map (·.1)))) :: nw) s' -> Q (.ref b) s') : wpAny (model W.prog W.w) A (call (.builtin "sorted") [.ref d]) Q E s := by
 obtain ⟨hd, hn⟩ := S.dictAt md
 obtain ⟨ep, hat⟩ := hd.dictAt
 refine Calls.call_function_entry kind_sorted plain_sorted entry_sorted (args_sorted1 _) ?_
 refine wpAny_bind (m := checkCount "sorted" 1 1 _) (wpAny_pure ?_)
 refine wpAny_bind (kdu_collect (A := A.in1) (kdl_dict (knd := PySem.strKind W.prog W.w) (kvs := kvs) (ep := ep) hn) hh hat (by walk_at "osz") λ h' tk acc hk hacc => ?_)
 have hps : ∃ ps : List (Str × Tok), ps.map (·.1) = kvs.map (·.1) /\ aCr ps = acc.toList := by
  refine ⟨acc.toList.zipIdx.map λ p => ((kvs.map (·.1)).getD p.2 Str.empty, tokV p.1), ?_, ?_⟩
  ·apply List.ext_getElem
   ·simp [hacc.1]
   ·intro i h1 h2
    simp at h1 h2 ⊢
    simp [h2]
  ·apply List.ext_getElem
   ·simp [aCr]
   ·intro i h1 h2
    simp [aCr] at h1
    have hi : i < kvs.length := by rw [← hacc.1]; exact h1
    obtain ⟨k, x, e1, e2⟩ := hacc.2 i acc[i] (Array.getElem?_eq_getElem h1)
    have e3 : kvs[i].1 = k := by
     rw [List.getElem?_eq_getElem hi] at e1
     injection e1 with e1; rw [e1]
    obtain ⟨t, e4⟩ : ∃ t, acc[i] = .str k t := by
     generalize acc[i] = v at e2
     cases v with
     | str y t => exact ⟨t, by rw [show y = k by simpa [PySem.strKind, Value.isStrOf] using e2]⟩
     | _ => simp [PySem.strKind, Value.isStrOf] at e2
    simp [aCr, hi, e3, e4, tokV]
 obtain ⟨ps, h1, h2⟩ := hps
 have hpl : ps.length <= 4 := by rw [← List.length_map (f := (·.1)) (as := ps), h1, List.length_map]; exact h4
 have S1 : Sta W G env loc nw { s with heap := h', toks := tk } := S.grow hk tk
 rw [← h2]
 refine wpAny_bind (S1.newList (by rw [sizeLine_eq]; simp [aCr]; omega) λ b s2 S3 => ?_)
 refine wpAny_bind (wpAny_holding (S3.sortTs hpl λ ps' s3 hv S4 => ?_))
 have S5 := S4.tell (c' := aAb (srt ltS (kvs.map (·.1)))) .head λ o _ ho => ⟨aCr ps', by have := aE3 ps'; rw [hv, h1] at this; exact this, ho⟩
 exact wpAny_pure ⟨_, rfl, h b s3 S5⟩
end
end
section
local macro_rules | `(tactic| walk_at $s:str) => Mine.goAt Mine.tabD s
section
local macro_rules | `(tactic| walk_at $s:str) => Mine.goAt Mine.tabF s
section
inductive Cal
 | ns (p u : Str)
 | start (x : Str) (j : Nat)
 | fin (x : Str)
 | ord
 | txt
noncomputable def aAF (da : Nat -> Addr) : Cal -> Cell
 | .ns p u => λ o => ∃ t0 t1 t2, aAo [.str "ns" t0, .str p t1, .str u t2] o
 | .start x j => λ o => ∃ t0 t1, aAo [.str "start" t0, .str x t1, .ref (da j)] o
 | .fin x => λ o => ∃ t0 t1, aAo [.str "end" t0, .str x t1] o
 | .ord => λ o => ∃ t0, aAo [.str "order" t0] o
 | .txt => λ o => ∃ t0, aAo [.str "text" t0] o
noncomputable def aAA (da : Nat -> Addr) (cs : List (Addr × Cal)) : Ledger := cs.map λ r => (r.1, aAF da r.2)
noncomputable def aAE (cs : List (Addr × Cal)) : List Value := cs.map λ r => .ref r.1
noncomputable def rowV : Nat -> List NsP
 | 0 => []
 | 1 => [("k", "v")]
 | 2 => [("{urn:a}k", "v")]
 | 3 => [("{urn:b}k", "v"), ("k", "w")]
 | 4 => [("{urn:b}k", "v"), ("{urn:a}k", "w")]
 | _ => [("k", "v")]
noncomputable def aAP (W : Wd) (da : Nat -> Addr) (dl : Nat -> List (Str × Str × Tok)) : Ledger := [(da 0, IsD W (da 0) (atV (dl 0))), (da 1, IsD W (da 1) (atV (dl 1))), (da 2, IsD W (da 2) (atV (dl 2))), (da 3, IsD W (da 3) (atV (dl 3))), (da 4, IsD W (da 4) (atV (dl 4))), (da 5, IsD W (da 5) (atV (dl 5)))]
noncomputable def nm4 : List Str := ["{urn:d}d", "{urn:a}a", "{urn:b}b", "{urn:a}c"]
noncomputable def kn4 : List (Str × Str) := [("p", "urn:a"), ("s", "urn:a"), ("q", "urn:b"), ("", "urn:d")]
inductive Step : Nat -> List Str -> Nat -> Cal -> Nat -> List Str -> Nat -> Prop
 | p : Step 0 [] 0 (.ns "p" "urn:a") 1 [] 0
 | q : Step 1 [] 0 (.ns "q" "urn:b") 2 [] 0
 | d : Step 2 [] 0 (.ns "" "urn:d") 3 [] 0
 | r : Step 3 [] 0 (.start "{urn:d}r" 5) 4 ["{urn:d}r"] 0
 | start {ns b x j} : b < 10 -> x ∈ nm4 -> j < 5 -> ns ≠ [] -> Step 4 ns b (.start x j) 4 (ns ++ [x]) (b + 1)
 | fin {ns b x} : Step 4 (ns ++ [x]) b (.fin x) 4 ns b
 | ns {ns b p u} : (p, u) ∈ kn4 -> ns ≠ [] -> Step 4 ns b (.ns p u) 4 ns b
 | ord {ns b} : ns ≠ [] -> Step 4 ns b .ord 4 ns b
 | txt {ns b} : ns ≠ [] -> Step 4 ns b .txt 4 ns b
inductive Chain : Nat -> List Str -> Nat -> List Cal -> Nat -> List Str -> Nat -> Prop
 | nil {i ns b} : Chain i ns b [] i ns b
 | cons {i ns b c i1 ns1 b1 r i2 ns2 b2} : Step i ns b c i1 ns1 b1 -> Chain i1 ns1 b1 r i2 ns2 b2 -> Chain i ns b (c :: r) i2 ns2 b2
theorem Chain.snoc {i i1 i2 b b1 b2 : Nat} {ns ns1 ns2 : List Str} {cs : List Cal} {c : Cal} (h : Chain i ns b cs i1 ns1 b1) : Step i1 ns1 b1 c i2 ns2 b2 -> Chain i ns b (cs ++ [c]) i2 ns2 b2 := by
 induction h with
 | nil => exact λ h2 => .cons h2 .nil
 | cons h1 _ ih => exact λ h2 => .cons h1 (ih h2)
section
variable {N : Ledger}
theorem aCp (da : Nat -> Addr) (a b : List (Addr × Cal)) : aAA da (a ++ b) = aAA da a ++ aAA da b := List.map_append
theorem aEi (a b : List (Addr × Cal)) : aAE (a ++ b) = aAE a ++ aAE b := List.map_append
theorem Sta.pushCal {cl tp : Addr} {da : Nat -> Addr} {cs : List (Addr × Cal)} {c : Cal} {C : Cell} {Q : Value -> Shared -> Prop} (hz : cs.length <= 1000) (hC : ∀ o, C o -> aAF da c o) (S : Sta W G env loc ((tp, C) :: (cl, aAa (aAE cs)) :: (aAA da cs ++ N)) s)
  (h : ∀ s', Sta W G env loc ((cl, aAa (aAE (cs ++ [(tp, c)]))) :: (aAA da (cs ++ [(tp, c)]) ++ N)) s' -> Q .none s') : wpAny (model W.prog W.w) A (call (.builtin "list.append") [.ref cl, .ref tp]) Q E s := by
 have S1 := (S.tell (c' := aAF da c) .head λ o _ ho => hC o ho).perm (List.Perm.swap ..)
 refine S1.append .head (by rw [sizeLine_eq]; simp [aAE]; omega) λ s' S2 => h s' (S2.perm ?_)
 rw [aEi, aCp]
 show List.Perm ((cl, aAa (aAE cs ++ [.ref tp])) :: (tp, aAF da c) :: (aAA da cs ++ N)) ((cl, aAa (aAE cs ++ [.ref tp])) :: ((aAA da cs ++ [(tp, aAF da c)]) ++ N))
 walk_at "perm"
end
end
section
local macro_rules | `(tactic| walk_at $s:str) => Mine.goAt Mine.tabG s
section
section
set_option hygiene false in
local macro_rules | `(tactic| walk_at "iK") => `(tactic| intro Kq hKn hKr)
variable {N : Ledger}
noncomputable abbrev envC (L : Addr) : Env := envOf "_law_calls" (aAc aAJ) L 175 (.ref 174)
noncomputable abbrev locC (scr cl rows nm : Addr) (b : Nat) (tb : Tok) (vx vk vy : Option Value) : Loc := [("script", some (.ref scr)), ("calls", some (.ref cl)), ("rows", some (.ref rows)), ("names", some (.ref nm)), ("begun", some (.int (b : Int) tb)), ("x", vx), ("kind", vk), ("y", vy)]
noncomputable def cFor : Stmt := (aAm aAJ).getD 4 (.Pass default)
noncomputable def da6 (d0 d1 d2 d3 d4 d5 : Addr) : Nat -> Addr
 | 0 => d0
 | 1 => d1
 | 2 => d2
 | 3 => d3
 | 4 => d4
 | _ => d5
noncomputable def dl6 (t1 t2 t3 t4 t5 t6 t7 : Tok) : Nat -> List (Str × Str × Tok)
 | 0 => []
 | 1 => [("k", "v", t1)]
 | 2 => [("{urn:a}k", "v", t2)]
 | 3 => [("{urn:b}k", "v", t3), ("k", "w", t4)]
 | 4 => [("{urn:b}k", "v", t5), ("{urn:a}k", "w", t6)]
 | _ => [("k", "v", t7)]
theorem aJB (t1 t2 t3 t4 t5 t6 t7 : Tok) : ∀ j, atQ (dl6 t1 t2 t3 t4 t5 t6 t7 j) = rowV j
 | 0 => rfl
 | 1 => rfl
 | 2 => rfl
 | 3 => rfl
 | 4 => rfl
 | _ + 5 => rfl
noncomputable def cal0 : List Cal := [.ns "p" "urn:a", .ns "q" "urn:b", .ns "" "urn:d", .start "{urn:d}r" 5]
theorem chain0 : Chain 0 [] 0 cal0 4 ["{urn:d}r"] 0 := .cons .p (.cons .q (.cons .d (.cons .r .nil)))
theorem aJJ {L scr : Addr} {Q : Flow -> Shared -> Prop} (I : IsC W) (hA : Aok 12 A) (S' : Sta W G (envC L) [("script", some (.ref scr)), ("calls", none), ("rows", none), ("names", none), ("begun", none), ("x", none), ("kind", none), ("y", none)] N s)
  (k : ∀ cl rows nm da dl cs tb s', (∀ j, atQ (dl j) = rowV j) -> cs.map (·.2) = cal0 -> Sta W G (envC L) (locC scr cl rows nm 0 tb none none none) ((nm, aAb ["{urn:d}r"]) :: (rows, aAa [.ref (da 0), .ref (da 1), .ref (da 2), .ref (da 3), .ref (da 4)]) :: (cl, aAa (aAE cs)) :: (aAA da cs ++ (aAP W da dl ++ N))) s' ->
   wpAny (model W.prog W.w) A (execs ((aAm aAJ).drop 4) (envC L)) Q E s') :
  ∀ st : List Stmt, st = (aAm aAJ).drop 0 -> wpAny (model W.prog W.w) A (execs st (envC L)) Q E s := by
 intro st hst
 subst hst
 have hfin : ∀ (nm rows d0 d1 d2 d3 d4 d5 cl a1 a2 a3 a4 : Addr) (x1 x2 x3 x4 x5 x6 x7 z1 z2 tb : Tok) s', Sta W G (envC L) (locC scr cl rows nm 0 tb none none none) ((nm, aAb ["{urn:d}r"]) :: (rows, aAa [.ref d0, .ref d1, .ref d2, .ref d3, .ref d4]) :: (d4, IsD W d4 [("{urn:b}k", .str "v" x5), ("{urn:a}k", .str "w" x6)]) :: (d3, IsD W d3 [("{urn:b}k", .str "v" x3), ("k", .str "w" x4)]) :: (d2, IsD W d2 [("{urn:a}k", .str "v" x2)]) :: (d1, IsD W d1 [("k", .str "v" x1)]) :: (d0, IsD W d0 []) :: (cl, aAa [.ref a1, .ref a2, .ref a3, .ref a4]) :: (a4, aAo [.str "start" z1, .str "{urn:d}r" z2, .ref d5]) :: (d5, IsD W d5 [("k", .str "v" x7)]) :: (a3, IsTT ["ns", "", "urn:d"]) :: (a2, IsTT ["ns", "q", "urn:b"]) :: (a1, IsTT ["ns", "p", "urn:a"]) :: N) s' ->
   wpAny (model W.prog W.w) A (execs ((aAm aAJ).drop 4) (envC L)) Q E s' := by
  intro nm rows d0 d1 d2 d3 d4 d5 cl a1 a2 a3 a4 x1 x2 x3 x4 x5 x6 x7 z1 z2 tb s' S
  have S2 := S.tell (a := a4) (c' := aAF (da6 d0 d1 d2 d3 d4 d5) (.start "{urn:d}r" 5)) (by repeat (first | exact Upd.head | apply Upd.tail)) λ o _ ho => ⟨_, _, ho⟩
  have S3 := S2.tell (a := a3) (c' := aAF (da6 d0 d1 d2 d3 d4 d5) (.ns "" "urn:d")) (by repeat (first | exact Upd.head | apply Upd.tail)) λ o _ ho => aJi ho
  have S4 := S3.tell (a := a2) (c' := aAF (da6 d0 d1 d2 d3 d4 d5) (.ns "q" "urn:b")) (by repeat (first | exact Upd.head | apply Upd.tail)) λ o _ ho => aJi ho
  have S5 := S4.tell (a := a1) (c' := aAF (da6 d0 d1 d2 d3 d4 d5) (.ns "p" "urn:a")) (by repeat (first | exact Upd.head | apply Upd.tail)) λ o _ ho => aJi ho
  walk_at "ke"
  refine k cl rows nm (da6 d0 d1 d2 d3 d4 d5) (dl6 x1 x2 x3 x4 x5 x6 x7) [(a1, .ns "p" "urn:a"), (a2, .ns "q" "urn:b"), (a3, .ns "" "urn:d"), (a4, .start "{urn:d}r" 5)] tb s' (aJB _ _ _ _ _ _ _) rfl (S5.perm ?_)
  show List.Perm _ ((nm, aAb ["{urn:d}r"]) :: (rows, aAa [.ref d0, .ref d1, .ref d2, .ref d3, .ref d4]) :: (cl, aAa [.ref a1, .ref a2, .ref a3, .ref a4]) :: (a1, aAF (da6 d0 d1 d2 d3 d4 d5) (.ns "p" "urn:a")) :: (a2, aAF (da6 d0 d1 d2 d3 d4 d5) (.ns "q" "urn:b")) :: (a3, aAF (da6 d0 d1 d2 d3 d4 d5) (.ns "" "urn:d")) :: (a4, aAF (da6 d0 d1 d2 d3 d4 d5) (.start "{urn:d}r" 5)) :: (d0, IsD W d0 []) :: (d1, IsD W d1 [("k", .str "v" x1)]) :: (d2, IsD W d2 [("{urn:a}k", .str "v" x2)]) :: (d3, IsD W d3 [("{urn:b}k", .str "v" x3), ("k", .str "w" x4)]) :: (d4, IsD W d4 [("{urn:b}k", .str "v" x5), ("{urn:a}k", .str "w" x6)]) :: (d5, IsD W d5 [("k", .str "v" x7)]) :: N)
  walk_at "perm"
 walk_at "c"
 refine DLit.mk [("k", .str "v" _)] S' (by exact ⟨strKind_is _ _ _ _, rfl, trivial⟩) (by simp) (Nat.le_of_ble_eq_true rfl) .head ?_
 clear S'; intro s' S'
 walk_at "c"
 refine DLit.mk [("k", .str "v" _)] S' (by exact ⟨strKind_is _ _ _ _, rfl, trivial⟩) (by simp) (Nat.le_of_ble_eq_true rfl) .head ?_
 clear S'; intro s' S'
 walk_at "c"
 refine DLit.mk [("{urn:a}k", .str "v" _)] S' (by exact ⟨strKind_is _ _ _ _, rfl, trivial⟩) (by simp) (Nat.le_of_ble_eq_true rfl) .head ?_
 clear S'; intro s' S'
 walk_at "c"
 refine DLit.mk [("{urn:b}k", .str "v" _), ("k", .str "w" _)] S' (by exact ⟨strKind_is _ _ _ _, rfl, strKind_is _ _ _ _, rfl, trivial⟩) (by show (["{urn:b}k", "k"] : List Str).Nodup; decide +kernel) (Nat.le_of_ble_eq_true rfl) .head ?_
 clear S'; intro s' S'
 walk_at "c"
 refine DLit.mk [("{urn:b}k", .str "v" _), ("{urn:a}k", .str "w" _)] S' (by exact ⟨strKind_is _ _ _ _, rfl, strKind_is _ _ _ _, rfl, trivial⟩) (by show (["{urn:b}k", "{urn:a}k"] : List Str).Nodup; decide +kernel) (Nat.le_of_ble_eq_true rfl) .head ?_
 clear S'; intro s' S'
 repeat (fail_if_success (with_reducible show wpAny (model W.prog W.w) A (execs ((aAm aAJ).drop 4) (envC L)) Q E _)); walk_at "cw"
 walk_at "ke"
 exact hfin _ _ _ _ _ _ _ _ _ _ _ _ _ _ _ _ _ _ _ _ _ _ _ _ S'
end
end
section
theorem aJy (y : Int) (n : Int) (h : 0 < n) : 0 <= y.fmod n /\ y.fmod n < n := by
 rw [Int.fmod_eq_emod_of_nonneg y (by omega)]
 exact ⟨Int.emod_nonneg y (by omega), Int.emod_lt_of_pos y h⟩
theorem aEd (y : Int) (n : Nat) (h : 0 < n) : ∃ j : Nat, y.fmod (n : Int) = (j : Int) /\ j < n := by
 have := aJy y n (by omega)
 exact ⟨(y.fmod n).toNat, by omega, by omega⟩
theorem aIH {P : Nat -> Prop} (h0 : P 0) (h1 : P 1) (h2 : P 2) (h3 : P 3) : ∀ {j : Nat}, j < 4 -> P j := λ {j} h => by
 rcases (show j = 0 \/ j = 1 \/ j = 2 \/ j = 3 by omega) with rfl | rfl | rfl | rfl <;> assumption
theorem kn4_at {j : Nat} (h : j < 4) : ∃ p u : Str, (["p", "s", "q", ""] : List Str)[j]? = some p /\ (["urn:a", "urn:a", "urn:b", "urn:d"] : List Str)[j]? = some u /\ (p, u) ∈ kn4 :=
 aIH (P := λ j => ∃ p u : Str, (["p", "s", "q", ""] : List Str)[j]? = some p /\ (["urn:a", "urn:a", "urn:b", "urn:d"] : List Str)[j]? = some u /\ (p, u) ∈ kn4) ⟨_, _, rfl, rfl, .head _⟩ ⟨_, _, rfl, rfl, .tail _ (.head _)⟩ ⟨_, _, rfl, rfl, .tail _ (.tail _ (.head _))⟩ ⟨_, _, rfl, rfl, .tail _ (.tail _ (.tail _ (.head _)))⟩ h
theorem nm4_at {j : Nat} (h : j < 4) : ∃ x : Str, nm4[j]? = some x /\ x ∈ nm4 :=
 aIH (P := λ j => ∃ x : Str, nm4[j]? = some x /\ x ∈ nm4) ⟨_, rfl, .head _⟩ ⟨_, rfl, .tail _ (.head _)⟩ ⟨_, rfl, .tail _ (.tail _ (.head _))⟩ ⟨_, rfl, .tail _ (.tail _ (.tail _ (.head _)))⟩ h
section
variable {N : Ledger}
noncomputable abbrev cLed (W : Wd) (nm rows cl : Addr) (ns : List Str) (da : Nat -> Addr) (dl : Nat -> List (Str × Str × Tok)) (cs : List (Addr × Cal)) (N : Ledger) : Ledger := (nm, aAb ns) :: (rows, aAa [.ref (da 0), .ref (da 1), .ref (da 2), .ref (da 3), .ref (da 4)]) :: (cl, aAa (aAE cs)) :: (aAA da cs ++ (aAP W da dl ++ N))
theorem below5 {P : Nat -> Prop} (h0 : P 0) (h1 : P 1) (h2 : P 2) (h3 : P 3) (h4 : P 4) : ∀ {j : Nat}, j < 5 -> P j := λ {j} h => by
 rcases (show j = 0 \/ j = 1 \/ j = 2 \/ j = 3 \/ j = 4 by omega) with rfl | rfl | rfl | rfl | rfl <;> assumption
theorem aI1 (da : Nat -> Addr) {j : Nat} (h : j < 5) : ([.ref (da 0), .ref (da 1), .ref (da 2), .ref (da 3), .ref (da 4)] : List Value)[j]? = some (.ref (da j)) := below5 (P := λ j => ([.ref (da 0), .ref (da 1), .ref (da 2), .ref (da 3), .ref (da 4)] : List Value)[j]? = some (.ref (da j))) rfl rfl rfl rfl rfl h
noncomputable def cIf : Stmt := (aER cFor).getD 1 (.Pass default)
noncomputable def cIf1 : Stmt := (ifOr cIf).getD 0 (.Pass default)
noncomputable abbrev CK (W : Wd) (G : Gens) (L scr cl rows nm : Addr) (da : Nat -> Addr) (dl : Nat -> List (Str × Str × Tok)) (cs : List (Addr × Cal)) (N : Ledger) (ns : List Str) (b : Nat) (vx : Option Value) (Q : Flow -> Shared -> Prop) : Prop :=
 ∀ ns' b' tb' c a vk vy s', Step 4 ns b c 4 ns' b' -> ns' ≠ [] -> ns'.length <= ns.length + 1 -> b' <= 10 -> Sta W G (envC L) (locC scr cl rows nm b' tb' vx vk vy) (cLed W nm rows cl ns' da dl (cs ++ [(a, c)]) N) s' -> Q .next s'
theorem aHF {L scr cl rows nm : Addr} {da : Nat -> Addr} {dl : Nat -> List (Str × Str × Tok)} {cs : List (Addr × Cal)} {ns : List Str} {b : Nat} {tb tk ty : Tok} {kd y : Int} {vx : Option Value} {Q : Flow -> Shared -> Prop} (I : IsC W) (hA : Aok 10 A) (hne : ns ≠ []) (hcl : cs.length <= 200) (hb : b <= 10)
  (S' : Sta W G (envC L) (locC scr cl rows nm b tb vx (some (.int kd tk)) (some (.int y ty))) (cLed W nm rows cl ns da dl cs N) s)
  (k : CK W G L scr cl rows nm da dl cs N ns b vx Q) (st : List Stmt) (hst : st = ifOr cIf1) : wpAny (model W.prog W.w) A (execs st (envC L)) Q E s := by
 subst hst
 walk_at "zd"
 simp only [locC, cLed] at S'
 refine wpAny_execs_cons ?_
 refine wpAny_If ?_
 walk_at "c"
 refine aDJ (λ _ => ?_) (λ _ => ?_)
 ·walk_at "c"
  obtain ⟨j, hj, hj4⟩ := aEd y 4 (by decide)
  rw [show ((4 : Nat) : Int) = 4 from rfl] at hj
  obtain ⟨p, u, hp, hu, hpu⟩ := kn4_at hj4
  rw [hj]
  revert a'; intro l1 S'
  refine Sta.subT S' (j := j) (by walk_at "mem") rfl (by omega) hp ?_
  intro t1
  walk_at "c"
  rw [hj]
  revert a'; intro l2 S'
  refine Sta.subT S' (j := j) (by walk_at "mem") rfl (by omega) hu ?_
  intro t2
  walk_at "c"
  revert a'; intro tp S'
  refine Sta.pushCal (c := .ns p u) (da := da) (cs := cs) (by omega) (λ o ho => ⟨_, _, _, ho⟩) (S'.perm (nw' := (tp, _) :: (cl, aAa (aAE cs)) :: (aAA da cs ++ ((l1, aAb ["p", "s", "q", ""]) :: (l2, aAb ["urn:a", "urn:a", "urn:b", "urn:d"]) :: (nm, aAb ns) :: (rows, aAa [.ref (da 0), .ref (da 1), .ref (da 2), .ref (da 3), .ref (da 4)]) :: (aAP W da dl ++ N)))) (by walk_at "perm")) ?_
  clear S'; intro s' S'
  walk_at "c"
  walk_at "ke"
  exact k ns b tb (.ns p u) tp _ _ s' (.ns hpu hne) hne (by omega) hb (S'.sel (Sel.rest [(l1, aAb ["p", "s", "q", ""]), (l2, aAb ["urn:a", "urn:a", "urn:b", "urn:d"])] (by walk_at "perm")))
 ·walk_at "c"
  refine aDJ (λ _ => ?_) (λ _ => ?_)
  ·walk_at "c"
   revert a'; intro tp S'
   refine Sta.pushCal (c := .ord) (da := da) (cs := cs) (by omega) (λ o ho => isTT1 ho) (S'.perm (nw' := (tp, _) :: (cl, aAa (aAE cs)) :: (aAA da cs ++ ((nm, aAb ns) :: (rows, aAa [.ref (da 0), .ref (da 1), .ref (da 2), .ref (da 3), .ref (da 4)]) :: (aAP W da dl ++ N)))) (by walk_at "perm")) ?_
   clear S'; intro s' S'
   walk_at "c"
   walk_at "ke"
   exact k ns b tb .ord tp _ _ s' (.ord hne) hne (by omega) hb (S'.perm (by walk_at "perm"))
  ·walk_at "c"
   revert a'; intro tp S'
   refine Sta.pushCal (c := .txt) (da := da) (cs := cs) (by omega) (λ o ho => isTT1 ho) (S'.perm (nw' := (tp, _) :: (cl, aAa (aAE cs)) :: (aAA da cs ++ ((nm, aAb ns) :: (rows, aAa [.ref (da 0), .ref (da 1), .ref (da 2), .ref (da 3), .ref (da 4)]) :: (aAP W da dl ++ N)))) (by walk_at "perm")) ?_
   clear S'; intro s' S'
   walk_at "c"
   walk_at "ke"
   exact k ns b tb .txt tp _ _ s' (.txt hne) hne (by omega) hb (S'.perm (by walk_at "perm"))
theorem aHG {L scr cl rows nm : Addr} {da : Nat -> Addr} {dl : Nat -> List (Str × Str × Tok)} {cs : List (Addr × Cal)} {ns : List Str} {b : Nat} {tb tk ty : Tok} {kd y : Int} {vx : Option Value} {Q : Flow -> Shared -> Prop} (I : IsC W) (hA : Aok 10 A) (hne : ns ≠ []) (hnl : ns.length <= 100) (hcl : cs.length <= 200) (hb : b <= 10)
  (S' : Sta W G (envC L) (locC scr cl rows nm b tb vx (some (.int kd tk)) (some (.int y ty))) (cLed W nm rows cl ns da dl cs N) s)
  (k : CK W G L scr cl rows nm da dl cs N ns b vx Q) (st : List Stmt) (hst : st = ifOr cIf) : wpAny (model W.prog W.w) A (execs st (envC L)) Q E s := by
 subst hst
 have hnz : ns.length <= sizeLine := by walk_at "osz"
 have S0 := S'
 walk_at "zd"
 refine wpAny_execs_cons ?_
 refine wpAny_If ?_
 walk_at "c"
 refine aDJ (λ _ => ?_) (λ _ => ?_)
 ·walk_at "c"
  refine Sta.builtin S' I.b_len aDQ (by kernel_rfl) ?_
  walk_at "c"
  refine Sta.lenT S' (by walk_at "mem") hnz ?_
  clear S'; intro tn s' S'
  walk_at "c"
  refine aDJ (λ hgt => ?_) (λ _ => ?_)
  ·refine isTrue_and_nil (aB3 ?_)
   have hlt : 1 < ns.length := by have := of_decide_eq_true hgt; omega
   obtain ⟨n0, x, rfl⟩ : ∃ n0 x, ns = n0 ++ [x] := ⟨ns.dropLast, ns.getLast hne, (List.dropLast_concat_getLast hne).symm⟩
   have hn0 : n0 ≠ [] := by intro e; subst e; simp at hlt
   have hz0 : n0.length < sizeLine := by simp at hnl; walk_at "osz"
   walk_at "c"
   refine Sta.popT S' (by walk_at "upd") hz0 ?_
   clear S'; intro t1 s' S'
   walk_at "c"
   revert a'; intro tp S'
   refine Sta.pushCal (c := .fin x) (da := da) (cs := cs) (by omega) (λ o ho => ⟨_, _, ho⟩) (S'.perm (nw' := (tp, _) :: (cl, aAa (aAE cs)) :: (aAA da cs ++ ((nm, aAb n0) :: (rows, aAa [.ref (da 0), .ref (da 1), .ref (da 2), .ref (da 3), .ref (da 4)]) :: (aAP W da dl ++ N)))) (by walk_at "perm")) ?_
   clear S'; intro s' S'
   walk_at "c"
   walk_at "ke"
   exact k n0 b tb (.fin x) tp _ _ s' .fin hn0 (by simp; omega) hb (S'.perm (by walk_at "perm"))
  ·refine aBt ?_
   exact aHF I hA hne hcl hb S' (λ ns' b' tb' c a vk vy s' h1 h2 h3 h4 S' => wpAny_execs_nil (k ns' b' tb' c a vk vy s' h1 h2 h3 h4 S')) _ rfl
 ·refine aBt ?_
  exact aHF I hA hne hcl hb S' (λ ns' b' tb' c a vk vy s' h1 h2 h3 h4 S' => wpAny_execs_nil (k ns' b' tb' c a vk vy s' h1 h2 h3 h4 S')) _ rfl
theorem aJH {L scr cl rows nm : Addr} {da : Nat -> Addr} {dl : Nat -> List (Str × Str × Tok)} {cs : List (Addr × Cal)} {ns : List Str} {b : Nat} {tb tx : Tok} {x : Int} {vk vy : Option Value} {Q : Flow -> Shared -> Prop} (I : IsC W) (hA : Aok 10 A) (hne : ns ≠ []) (hnl : ns.length <= 100) (hcl : cs.length <= 200) (hb : b <= 10)
  (S' : Sta W G (envC L) (locC scr cl rows nm b tb (some (.int x tx)) vk vy) (cLed W nm rows cl ns da dl cs N) s)
  (k : CK W G L scr cl rows nm da dl cs N ns b (some (.int x tx)) Q)
  (body : List Stmt) (hbd : body = aER cFor) : wpAny (model W.prog W.w) A (execs body (envC L)) Q E s := by
 subst hbd
 walk_at "zd"
 refine aAs ?_
 refine aAi rfl ?_
 refine Assign_Tuple_swapped (names := ["kind", "y"]) ?_ (by kernel_rfl) (by kernel_rfl)
 walk_at "c"
 refine Sta.unpackI S' hA.handled (by walk_at "mem") rfl ?_
 clear S'; intro s' S'
 replace S' := S'.sub (List.sublist_cons_self _ _)
 refine assignInOrder_cons ?_
 refine bindName_ ?_
 walk_at "c"
 refine assignInOrder_cons ?_
 refine bindName_ ?_
 walk_at "c"
 refine assignInOrder_nil ?_
 walk_at "c"
 refine aDJ (λ _ => ?_) (λ _ => ?_)
 ·walk_at "c"
  refine aDJ (λ hgt => ?_) (λ _ => ?_)
  ·refine isTrue_and_nil (aB3 ?_)
   have hlt : b < 10 := by have := of_decide_eq_true hgt; omega
   walk_at "c"
   have eb : (b : Int) + 1 = ((b + 1 : Nat) : Int) := by omega
   have hnz : ns.length <= sizeLine := by walk_at "osz"
   obtain ⟨j, hj, hj4⟩ := aEd (x.fdiv 6) 4 (by decide)
   obtain ⟨i, hi, hi5⟩ := aEd ((x.fdiv 6).fdiv 4) 5 (by decide)
   rw [show ((4 : Nat) : Int) = 4 from rfl] at hj
   rw [show ((5 : Nat) : Int) = 5 from rfl] at hi
   obtain ⟨z, hz, hzm⟩ := nm4_at hj4
   rw [hj]
   revert a'; intro l1 S'
   replace S' := S'.tell (a := l1) (c' := aAb nm4) .head λ o _ ho => ho
   refine Sta.subT S' (j := j) (by walk_at "mem") rfl (by omega) hz ?_
   intro t1
   walk_at "c"
   refine Sta.subT_last S' (x := z) (by walk_at "mem") ?_
   intro t2
   walk_at "c"
   rw [hi]
   refine Sta.sub_list S' (by walk_at "mem") (by omega) (by omega) (by rw [Int.toNat_natCast]; exact aI1 da hi5) ?_
   walk_at "c"
   revert a'; intro tp S'
   refine Sta.pushCal (c := .start z i) (da := da) (cs := cs) (by omega) (λ o ho => ⟨_, _, ho⟩) (S'.perm (nw' := (tp, _) :: (cl, aAa (aAE cs)) :: (aAA da cs ++ ((l1, aAb nm4) :: (nm, aAb (ns ++ [z])) :: (rows, aAa [.ref (da 0), .ref (da 1), .ref (da 2), .ref (da 3), .ref (da 4)]) :: (aAP W da dl ++ N)))) (by walk_at "perm")) ?_
   clear S'; intro s' S'
   walk_at "zd"
   rw [eb] at S'
   walk_at "c"
   walk_at "ke"
   exact k (ns ++ [z]) (b + 1) _ (.start z i) tp _ _ s' (.start hlt hzm hi5 hne) (by simp) (by simp) (by omega) (S'.sel (Sel.rest [(l1, aAb nm4)] (by walk_at "perm")))
  ·refine aBt ?_
   exact aHG I hA hne hnl hcl hb S' (λ ns' b' tb' c a vk vy s' h1 h2 h3 h4 S' => by ((walk_at "c"); exact k ns' b' tb' c a vk vy s' h1 h2 h3 h4 S')) _ rfl
 ·refine aBt ?_
  exact aHG I hA hne hnl hcl hb S' (λ ns' b' tb' c a vk vy s' h1 h2 h3 h4 S' => by ((walk_at "c"); exact k ns' b' tb' c a vk vy s' h1 h2 h3 h4 S')) _ rfl
end
end
end
section
theorem aEW {W : Wd} {sh : Ledger} {it : Addr} {vs : List Value} {ns : List Int} {own : Ledger} {og : Gens} (h : IntsAre vs ns) : aAW W sh it vs own og -> YieldsR W sh it (λ (i : Int) v => ∃ t, v = .int i t) ns own og := by
 induction h generalizing own og with
 | nil => exact λ H => H
 | cons n t h ih => exact λ H => ⟨H.1, λ A R GR s Q E hA S hQ => H.2 A R GR s Q E hA S λ own' og' s' S' H' => hQ _ own' og' s' ⟨t, rfl⟩ S' (ih H')⟩
noncomputable def cWh : Stmt := (aAm aAJ).getD 5 (.Pass default)
noncomputable abbrev whTest (st : Stmt) : Expr := stE st
noncomputable abbrev whBody (st : Stmt) : List Stmt := aAm st
structure ClS where
 nms : List Str
 b : Nat
 tb : Tok
 cs : List (Addr × Cal)
 vx : Option Value
 vk : Option Value
 vy : Option Value
section
variable {N : Ledger}
theorem aJI {p : Pos} {L scr cl rows nm it : Addr} {da : Nat -> Addr} {dl : Nat -> List (Str × Str × Tok)} {cs0 : List (Addr × Cal)} {vs : List Value} {ns : List Int} {tb : Tok} {R : Result -> Shared -> Prop} (I : IsC W) (hA : Aok 16 A) (hB : W.B.IsList scr vs.toArray) (hi : IntsAre vs ns) (hn : ns.length <= 63) (hcs : cs0.map (·.2) = cal0)
  (S : Sta W G (envC L) (locC scr cl rows nm 0 tb none none none) ((it, IsLI scr 0) :: cLed W nm rows cl ["{urn:d}r"] da dl cs0 N) s)
  (k : ∀ nms b tb cs vx vk vy s', Chain 0 [] 0 (cs.map (·.2)) 4 nms b -> nms.length <= 70 -> cs.length <= 67 -> Sta W G (envC L) (locC scr cl rows nm b tb vx vk vy) (cLed W nm rows cl nms da dl cs N) s' -> R (.ok .next) s')
  (body : List Stmt) (hbd : body = aER cFor) : codeAny (model W.prog W.w) A (.forLoop (.Name "x" p) (.ref it) body [] (envC L)) R s := by
 have S2 := S.perm (nw' := cLed W nm rows cl ["{urn:d}r"] da dl cs0 N ++ ([] ++ [(it, IsLI scr 0)])) (by walk_at "perm")
 have hc0 : cs0.length = 4 := by have := congrArg List.length hcs; rw [List.length_map] at this; exact this
 refine aIz (sh := []) (f := λ (i : Int) t => .int i t) (hA.le (by first | decide | omega)) (G := G) (og := []) (own := [(it, IsLI scr 0)]) (λ (v : ClS) _ => locC scr cl rows nm v.b v.tb v.vx v.vk v.vy) (λ v _ => cLed W nm rows cl v.nms da dl v.cs N) (λ v dn => Chain 0 [] 0 (v.cs.map (·.2)) 4 v.nms v.b /\ v.nms ≠ [] /\ v.b <= 10 /\ v.nms.length <= dn.length + 1 /\ v.cs.length <= dn.length + 4) (aEW hi (LY.yields (aHd hB vs 0 rfl))) ⟨["{urn:d}r"], 0, tb, cs0, none, none, none⟩ ⟨by rw [hcs]; exact chain0, by simp, by omega, by simp, by rw [hc0]; exact Nat.le_refl _⟩ (by rw [List.append_nil]; exact S2) ?_ ?_
 rotate_left
 ·intro x dn rest t1 tl tg v s1 K hq hJ S1 kk _ _
  obtain ⟨hch, hne, hb, h1, h2⟩ := hJ
  have hr : dn.length + 1 <= 63 := by
   have := congrArg List.length hq
   simp only [List.length_append, List.length_cons] at this
   omega
  refine wpAny_assign_Name (S1.store (by simp only [locC]; walk_at "put") λ s' S' => ?_)
  refine aJH (cs := v.cs) (ns := v.nms) (b := v.b) (tb := v.tb) (vk := v.vk) (vy := v.vy) (N := N ++ ([] ++ tl)) I (hA.le (by decide)) hne (by omega) (by omega) hb (S'.perm (by simp only [cLed]; walk_at "perm")) ?_ _ hbd
  intro ns' b' tb' c a vk vy s' hst hne' hl hb' S'
  refine (kk ⟨ns', b', tb', v.cs ++ [(a, c)], _, vk, vy⟩ _ ⟨?_, hne', hb', ?_, ?_⟩ (S'.perm (by simp only [cLed]; walk_at "perm"))).1
  ·rw [List.map_append]
   exact hch.snoc hst
  ·rw [List.length_append, List.length_singleton]; exact Nat.le_trans hl (Nat.add_le_add_right h1 1)
  ·rw [List.length_append, List.length_append, List.length_singleton, List.length_singleton]; exact Nat.le_trans (Nat.add_le_add_right h2 1) (by omega)
 ·intro v s1 hJ S1
  obtain ⟨hch, hne, hb, h1, h2⟩ := hJ
  rw [List.append_nil] at S1
  walk_at "ke"
  exact k v.nms v.b v.tb v.cs v.vx v.vk v.vy s1 hch (by omega) (by omega) S1
theorem aJG {p : Pos} {L scr cl rows nm : Addr} {da : Nat -> Addr} {dl : Nat -> List (Str × Str × Tok)} {cs0 : List (Addr × Cal)} {nms0 : List Str} {b : Nat} {tb : Tok} {vx vk vy : Option Value} {Q : Flow -> Shared -> Prop} (I : IsC W) (hA : Aok 16 A) (hch : Chain 0 [] 0 (cs0.map (·.2)) 4 nms0 b) (hn : nms0.length <= 70) (hc : cs0.length <= 67)
  (S : Sta W G (envC L) (locC scr cl rows nm b tb vx vk vy) (cLed W nm rows cl nms0 da dl cs0 N) s)
  (k : ∀ cs s', Chain 0 [] 0 (cs.map (·.2)) 4 [] b -> cs.length <= 140 -> Sta W G (envC L) (locC scr cl rows nm b tb vx vk vy) (cLed W nm rows cl [] da dl cs N) s' -> Q .next s')
  (test : Expr) (body : List Stmt) (ht : test = whTest cWh) (hb : body = whBody cWh) :
  wpAny (model W.prog W.w) A (exec (.While test body [] p) (envC L)) Q E s := by
 subst ht hb
 refine wpAny_While (codeAny_whileLoop (λ m s' => ∃ cs nms, nms.length = m /\ Chain 0 [] 0 (cs.map (·.2)) 4 nms b /\ nms.length <= 70 /\ cs.length + nms.length <= 140 /\ Sta W G (envC L) (locC scr cl rows nm b tb vx vk vy) (cLed W nm rows cl nms da dl cs N) s') ?_ nms0.length ?_)
 ·intro m s1 hI
  obtain ⟨cs, nms, hm, hch, hl, hcl, S'⟩ := hI
  have hnz : nms.length <= sizeLine := by walk_at "osz"
  walk_at "zd"
  refine isTrue_plain ?_ (by kernel_rfl)
  refine S'.local_ (by walk_at "mem") ?_
  refine Sta.truthyT S' (.head _) hnz ?_
  clear S'; intro s' S'
  cases hcase : nms with
  | nil =>
   subst hcase
   refine aBt ?_
   walk_at "ke"
   exact k cs _ hch (by simp at hcl; omega) S'
  | cons y0 r0 =>
   obtain ⟨l1, z, hlz⟩ : ∃ l1 z, nms = l1 ++ [z] := by
    have hne : nms ≠ [] := by rw [hcase]; simp
    exact ⟨nms.dropLast, nms.getLast hne, (List.dropLast_concat_getLast hne).symm⟩
   clear hcase
   subst hlz
   refine aB3 ?_
   have hl1 : l1.length < sizeLine := by simp at hl; walk_at "osz"
   refine aAs ?_
   walk_at "c"
   refine Sta.popT S' (by walk_at "upd") hl1 ?_
   clear S'; intro t1 s' S'
   walk_at "c"
   revert a'; intro tp S'
   refine Sta.pushCal (c := .fin z) (da := da) (cs := cs) (by omega) (λ o ho => ⟨_, _, ho⟩) (S'.perm (nw' := (tp, _) :: (cl, aAa (aAE cs)) :: (aAA da cs ++ ((nm, aAb l1) :: (rows, aAa [.ref (da 0), .ref (da 1), .ref (da 2), .ref (da 3), .ref (da 4)]) :: (aAP W da dl ++ N)))) (by walk_at "perm")) ?_
   clear S'; intro s' S'
   walk_at "c"
   simp only [List.length_append, List.length_singleton] at hm hl hcl
   refine ⟨l1.length, by omega, cs ++ [(tp, .fin z)], l1, rfl, ?_, by omega, by simp; omega, S'.perm (by walk_at "perm")⟩
   rw [List.map_append]
   exact hch.snoc .fin
 ·exact ⟨cs0, nms0, rfl, hch, hn, by omega, S⟩
end
end
section
section
variable {N : Ledger}
theorem calls_ {scr : Addr} {vs : List Value} {ns : List Int} {Q : Value -> Shared -> Prop} (I : IsC W) (hA : Aok 20 A) (hB : W.B.IsList scr vs.toArray) (hi : IntsAre vs ns) (hn : ns.length <= 63) (S : Sta W G env loc N s)
  (k : ∀ cl da dl cs b s', (∀ j, atQ (dl j) = rowV j) -> Chain 0 [] 0 (cs.map (·.2)) 4 [] b -> cs.length <= 140 -> Sta W G env loc ((cl, aAa (aAE cs)) :: (aAA da cs ++ (aAP W da dl ++ N))) s' -> Q (.ref cl) s') : wpAny (model W.prog W.w) A (call (.ref 175) [.ref scr]) Q E s := by
 refine S.call_fn (binds := [("script", .ref scr)]) ["calls", "rows", "names", "begun", "x", "kind", "y"] I.f_l_calls hA.room (λ _ _ _ _ _ => BindsTo.of_eq (by kernel_rfl)) (by kernel_rfl) ?_
 intro L s' S'
 have hA' := hA.deeper (env := envC L)
 walk_at "zd"
 refine aAs ?_
 generalize hst : List.drop 0 (aAm aAJ) = st
 refine aJJ I (hA'.le (by decide)) S' ?_ _ hst.symm
 clear S'; intro cl rows nm da dl cs tb s' hrow hcs S'
 refine aAi rfl ?_
 refine wpAny_For ?_ (by intro _; kernel_rfl)
 walk_at "zd"
 refine S'.local_ (by walk_at "mem") ?_
 refine S'.iterBase hB ?_
 clear S'; intro it s' S'
 refine aJI I (hA'.le (by decide)) hB hi hn hcs S' ?_ _ rfl
 clear S'; intro nms b tb cs vx vk vy s' hch h1 h2 S'
 refine aAi rfl ?_
 refine aJG I (hA'.le (by decide)) hch h1 h2 S' ?_ _ _ rfl rfl
 clear S'; intro cs s' hch h3 S'
 walk_at "zd"
 simp only [locC, cLed] at S'
 walk_at "c"
 have S2 := S'.sel (nw' := (env.locals, IsNs loc) :: (cl, aAa (aAE cs)) :: (aAA da cs ++ (aAP W da dl ++ N))) (Sel.rest [(nm, aAb []), (rows, aAa [.ref (da 0), .ref (da 1), .ref (da 2), .ref (da 3), .ref (da 4)])] (by walk_at "zg"; generalize aAP W da dl = dd; walk_at "perm"))
 walk_at "ke"
 exact k cl da dl cs b s' hrow hch h3 (Sta.back S2 S.eok)
end
end
end
section
section
variable {w : Wn} {c : Wc} {q : Addr} {m : Wm} {N : Ledger}
noncomputable abbrev aHz (L : Addr) : Env := envOf "_law_tell" (aAc aCY) L 182 (.ref 181)
theorem tellS_ {K : Sink W} {σ : K.σ} {d ca : Addr} {tag : Str} {t0 t1 : Tok} {l : List (Str × Str × Tok)} {res : List (Str × Str)} {sv : NSt} {p0 : List Bool} {pb : Bool} {c? : Option Addr} {Q : Value -> Shared -> Prop} (I : IsC W) (C : CodeHd W.B 125 123) (hA : Aok 30 A) (het : c.et = .none) (hok : StOk c.rw (nsOf m).opn tag l res sv) (hps : m.ps = p0 ++ [pb]) (hpz : m.ps.length <= 10000) (hnz : m.nl.length <= 10000) (hdz : m.dl.length <= 10000) (hz : m.held.length <= sizeLine) (hc : (cat m.held).length <= txtLine) (hr : K.room σ 4)
  (S : Sta W G env loc ((ca, aAo [.str "start" t0, .str tag t1, .ref d]) :: (d, IsD W d (atV l)) :: aAe W w c K.q m (K.L σ ++ (Tabs 123 lamP aAB c? ++ N))) s)
  (k : ∀ c' dl pm a s', nsOf { m with dl := dl, pm := pm } = sv -> Sta W G env loc ((ca, aAo [.str "start" t0, .str tag t1, .ref d]) :: (d, IsD W d (atV l)) :: aAe W w c K.q (m.begun dl pm pb a) (K.L (K.pushes σ (m.fl ++ aAy (txOf res tag) (xnR sv.decl ++ atR res (atQ l)))) ++ (Tabs 123 lamP aAB (some c') ++ N))) s' -> Q .none s') :
  wpAny (model W.prog W.w) A (call (.ref 182) [.ref w.x, .ref ca]) Q E s := by
 refine S.call_fn (binds := [("writer", .ref w.x), ("call", .ref ca)]) [] I.f_l_tell hA.room (λ _ _ _ _ _ => BindsTo.of_eq (by kernel_rfl)) (by kernel_rfl) ?_
 intro L s' S'
 have hA' := hA.deeper (env := aHz L)
 have hcl := I.cl
 walk_at "zd"
 simp only [aAv, List.map_cons, List.map_nil, List.cons_append, List.nil_append] at S'
 refine aAs ?_
 refine aAi rfl ?_
 refine wpAny_If ?_
 walk_at "c"
 refine aAf ?_ (by intro _ _; kernel_rfl)
 walk_at "c"
 refine Sta.sub_tuple S' (by walk_at "mem") (j := 0) rfl (by omega) rfl ?_
 walk_at "c"
 refine eq_s (λ _ => ?_) (λ e => absurd rfl e)
 walk_at "c"
 refine aAf ?_ (by intro _ _; kernel_rfl)
 walk_at "c"
 refine Sta.sub_tuple S' (by walk_at "mem") (j := 1) rfl (by omega) rfl ?_
 walk_at "c"
 refine aAf ?_ (by intro _ _; kernel_rfl)
 walk_at "c"
 refine Sta.sub_tuple S' (by walk_at "mem") (j := 2) rfl (by omega) rfl ?_
 walk_at "c"
 refine aI0 I C (hA'.le (by decide)) het hok hps hpz hnz hdz hz hc hr (S'.perm (nw' := (d, IsD W d (atV l)) :: aAe W w c K.q m (K.L σ ++ (Tabs 123 lamP aAB c? ++ ((ca, aAo [.str "start" t0, .str tag t1, .ref d]) :: (env.locals, IsNs loc) :: N)))) (by simp only [aAe]; walk_at "perm")) ?_
 clear S'; intro c' dl pm a s' hsv S'
 walk_at "c"
 walk_at "ke"
 exact k c' dl pm a s' hsv (Sta.back (S'.perm (by simp only [aAe]; walk_at "perm")) S.eok)
theorem tellE_ {K : Sink W} {σ : K.σ} {ca : Addr} {tag tx : Str} {t0 t1 : Tok} {sv : NSt} {d0 n0 : List Lv} {lv ln : Lv} {p0 : List Bool} {pb : Bool} {Q : Value -> Shared -> Prop} (I : IsC W) (hA : Aok 21 A) (htag : NmG tag) (hok : NsOk (nsOf m)) (hq : qnV c.rw (nsOf m) (nmU tag) (nmL tag) = some (tx, sv)) (htl : tx.length <= 2000) (hig : m.ig = 0) (hz : m.held.length <= sizeLine) (hc : (cat m.held).length <= txtLine) (hr : K.room σ 2) (hn : m.nl = n0 ++ [ln]) (hd : m.dl = d0 ++ [lv]) (hps : m.ps = p0 ++ [pb]) (hpz : m.ps.length <= 10000) (hnz : m.nl.length <= 10000) (hdz : m.dl.length <= 10000)
  (S : Sta W G env loc ((ca, aAo [.str "end" t0, .str tag t1]) :: aAe W w c K.q m (K.L σ ++ N)) s)
  (k : ∀ dl pm s', nsOf { m with dl := dl, pm := pm } = sv -> Sta W G env loc ((ca, aAo [.str "end" t0, .str tag t1]) :: aAe W w c K.q (m.done dl pm) (K.L (K.pushes σ (m.fl ++ [aCn tx])) ++ N)) s' -> Q .none s') :
  wpAny (model W.prog W.w) A (call (.ref 182) [.ref w.x, .ref ca]) Q E s := by
 refine S.call_fn (binds := [("writer", .ref w.x), ("call", .ref ca)]) [] I.f_l_tell hA.room (λ _ _ _ _ _ => BindsTo.of_eq (by kernel_rfl)) (by kernel_rfl) ?_
 intro L s' S'
 have hA' := hA.deeper (env := aHz L)
 have hcl := I.cl
 walk_at "zd"
 simp only [aAv, List.map_cons, List.map_nil, List.cons_append, List.nil_append] at S'
 refine aAs ?_
 refine aAi rfl ?_
 refine wpAny_If ?_
 walk_at "c"
 refine aAf ?_ (by intro _ _; kernel_rfl)
 walk_at "c"
 refine Sta.sub_tuple S' (by walk_at "mem") (j := 0) rfl (by omega) rfl ?_
 walk_at "c"
 refine eq_s (λ e => absurd e (by decide +kernel)) (λ _ => ?_)
 walk_at "c"
 refine aAf ?_ (by intro _ _; kernel_rfl)
 walk_at "c"
 refine Sta.sub_tuple S' (by walk_at "mem") (j := 0) rfl (by omega) rfl ?_
 walk_at "c"
 refine eq_s (λ _ => ?_) (λ e => absurd rfl e)
 walk_at "c"
 refine aAf ?_ (by intro _ _; kernel_rfl)
 walk_at "c"
 refine Sta.sub_tuple S' (by walk_at "mem") (j := 1) rfl (by omega) rfl ?_
 walk_at "c"
 refine end_ I (hA'.le (by decide)) htag hok hq htl hig hz hc hr hn hd hps hpz hnz hdz (S'.perm (nw' := aAe W w c K.q m (K.L σ ++ ((ca, aAo [.str "end" t0, .str tag t1]) :: (env.locals, IsNs loc) :: N))) (by simp only [aAe]; walk_at "perm")) ?_
 clear S'; intro dl pm s' hsv S'
 walk_at "c"
 walk_at "ke"
 exact k dl pm s' hsv (Sta.back (S'.perm (by simp only [aAe]; walk_at "perm")) S.eok)
theorem tellN_ {K : Sink W} {σ : K.σ} {ca : Addr} {p u : Str} {t0 t1 t2 : Tok} {n0 : List Lv} {lv : Lv} {Q : Value -> Shared -> Prop} (I : IsC W) (hA : Aok 21 A) (hig : m.ig = 0) (hz : m.held.length <= sizeLine) (hc : (cat m.held).length <= txtLine) (hr : K.room σ 1) (hn : m.nl = n0 ++ [lv]) (hlz : lv.ps.length <= 1000)
  (S : Sta W G env loc ((ca, aAo [.str "ns" t0, .str p t1, .str u t2]) :: aAe W w c K.q m (K.L σ ++ N)) s)
  (k : ∀ a s', Sta W G env loc ((ca, aAo [.str "ns" t0, .str p t1, .str u t2]) :: aAe W w c K.q { m with held := [], nl := aA0 (a, u, p) m.nl } (K.L (K.pushes σ m.fl) ++ N)) s' -> Q .none s') :
  wpAny (model W.prog W.w) A (call (.ref 182) [.ref w.x, .ref ca]) Q E s := by
 refine S.call_fn (binds := [("writer", .ref w.x), ("call", .ref ca)]) [] I.f_l_tell hA.room (λ _ _ _ _ _ => BindsTo.of_eq (by kernel_rfl)) (by kernel_rfl) ?_
 intro L s' S'
 have hA' := hA.deeper (env := aHz L)
 have hcl := I.cl
 walk_at "zd"
 simp only [aAv, List.map_cons, List.map_nil, List.cons_append, List.nil_append] at S'
 refine aAs ?_
 refine aAi rfl ?_
 refine wpAny_If ?_
 walk_at "c"
 refine aAf ?_ (by intro _ _; kernel_rfl)
 walk_at "c"
 refine Sta.sub_tuple S' (by walk_at "mem") (j := 0) rfl (by omega) rfl ?_
 walk_at "c"
 refine eq_s (λ e => absurd e (by decide +kernel)) (λ _ => ?_)
 walk_at "c"
 refine aAf ?_ (by intro _ _; kernel_rfl)
 walk_at "c"
 refine Sta.sub_tuple S' (by walk_at "mem") (j := 0) rfl (by omega) rfl ?_
 walk_at "c"
 refine eq_s (λ e => absurd e (by decide +kernel)) (λ _ => ?_)
 walk_at "c"
 refine aAf ?_ (by intro _ _; kernel_rfl)
 walk_at "c"
 refine Sta.sub_tuple S' (by walk_at "mem") (j := 0) rfl (by omega) rfl ?_
 walk_at "c"
 refine eq_s (λ _ => ?_) (λ e => absurd rfl e)
 walk_at "c"
 refine Sta.getM_inst (f := 113) S' hcl (by walk_at "mem") (by walk_at "mem") VV.keys (by decide +kernel) (by rw [I.k]; kernel_rfl) (by rw [I.k]; kernel_rfl) ?_
 refine aEh (by rw [I.k]; kernel_rfl) ?_ (by kernel_rfl) (by kernel_rfl)
 refine args_cons ?_ (by kernel_rfl)
 refine aAf ?_ (by intro _ _; kernel_rfl)
 walk_at "c"
 refine Sta.sub_tuple S' (by walk_at "mem") (j := 1) rfl (by omega) rfl ?_
 walk_at "c"
 refine aAf ?_ (by intro _ _; kernel_rfl)
 walk_at "c"
 refine Sta.sub_tuple S' (by walk_at "mem") (j := 2) rfl (by omega) rfl ?_
 walk_at "c"
 refine ns_ I (hA'.le (by decide)) hig hz hc hr hn hlz (S'.perm (nw' := aAe W w c K.q m (K.L σ ++ ((ca, aAo [.str "ns" t0, .str p t1, .str u t2]) :: (env.locals, IsNs loc) :: N))) (by simp only [aAe]; walk_at "perm")) ?_
 clear S'; intro a s' S'
 walk_at "c"
 walk_at "ke"
 exact k a s' (Sta.back (S'.perm (by simp only [aAe]; walk_at "perm")) S.eok)
theorem tellP_ {K : Sink W} {σ : K.σ} {ca : Addr} {t0 : Tok} {Q : Value -> Shared -> Prop} (I : IsC W) (hA : Aok 21 A) (hig : m.ig = 0) (hrs : m.rs = true) (hrd : m.rd = false) (hz : m.held.length <= sizeLine) (hc : (cat m.held).length <= txtLine) (hr : K.room σ 2)
  (S : Sta W G env loc ((ca, aAo [.str "order" t0]) :: aAe W w c K.q m (K.L σ ++ N)) s)
  (k : ∀ s', Sta W G env loc ((ca, aAo [.str "order" t0]) :: aAe W w c K.q { m with held := [] } (K.L (K.pushes σ (m.fl ++ [aCv "m" "o"])) ++ N)) s' -> Q .none s') :
  wpAny (model W.prog W.w) A (call (.ref 182) [.ref w.x, .ref ca]) Q E s := by
 refine S.call_fn (binds := [("writer", .ref w.x), ("call", .ref ca)]) [] I.f_l_tell hA.room (λ _ _ _ _ _ => BindsTo.of_eq (by kernel_rfl)) (by kernel_rfl) ?_
 intro L s' S'
 have hA' := hA.deeper (env := aHz L)
 have hcl := I.cl
 walk_at "zd"
 simp only [aAv, List.map_cons, List.map_nil, List.cons_append, List.nil_append] at S'
 refine aAs ?_
 refine aAi rfl ?_
 refine wpAny_If ?_
 walk_at "c"
 refine aAf ?_ (by intro _ _; kernel_rfl)
 walk_at "c"
 refine Sta.sub_tuple S' (by walk_at "mem") (j := 0) rfl (by omega) rfl ?_
 walk_at "c"
 refine eq_s (λ e => absurd e (by decide +kernel)) (λ _ => ?_)
 walk_at "c"
 refine aAf ?_ (by intro _ _; kernel_rfl)
 walk_at "c"
 refine Sta.sub_tuple S' (by walk_at "mem") (j := 0) rfl (by omega) rfl ?_
 walk_at "c"
 refine eq_s (λ e => absurd e (by decide +kernel)) (λ _ => ?_)
 walk_at "c"
 refine aAf ?_ (by intro _ _; kernel_rfl)
 walk_at "c"
 refine Sta.sub_tuple S' (by walk_at "mem") (j := 0) rfl (by omega) rfl ?_
 walk_at "c"
 refine eq_s (λ e => absurd e (by decide +kernel)) (λ _ => ?_)
 walk_at "c"
 refine aAf ?_ (by intro _ _; kernel_rfl)
 walk_at "c"
 refine Sta.sub_tuple S' (by walk_at "mem") (j := 0) rfl (by omega) rfl ?_
 walk_at "c"
 refine eq_s (λ _ => ?_) (λ e => absurd rfl e)
 walk_at "c"
 refine pi_ I (hA'.le (by decide)) (by decide +kernel) (by decide +kernel) hig hrs hrd hz hc hr (S'.perm (nw' := aAe W w c K.q m (K.L σ ++ ((ca, aAo [.str "order" t0]) :: (env.locals, IsNs loc) :: N))) (by simp only [aAe]; walk_at "perm")) ?_
 clear S'; intro s' S'
 walk_at "c"
 walk_at "ke"
 exact k s' (Sta.back (S'.perm (by simp only [aAe]; walk_at "perm")) S.eok)
theorem tellD_ {K : Sink W} {σ : K.σ} {ca : Addr} {t0 : Tok} {Q : Value -> Shared -> Prop} (I : IsC W) (hA : Aok 21 A) (hz : m.held.length <= sizeLine)
  (S : Sta W G env loc ((ca, aAo [.str "text" t0]) :: aAe W w c K.q m N) s)
  (k : ∀ s', Sta W G env loc ((ca, aAo [.str "text" t0]) :: aAe W w c K.q (m.data "tx") N) s' -> Q .none s') :
  wpAny (model W.prog W.w) A (call (.ref 182) [.ref w.x, .ref ca]) Q E s := by
 refine S.call_fn (binds := [("writer", .ref w.x), ("call", .ref ca)]) [] I.f_l_tell hA.room (λ _ _ _ _ _ => BindsTo.of_eq (by kernel_rfl)) (by kernel_rfl) ?_
 intro L s' S'
 have hA' := hA.deeper (env := aHz L)
 have hcl := I.cl
 walk_at "zd"
 simp only [aAv, List.map_cons, List.map_nil, List.cons_append, List.nil_append] at S'
 refine aAs ?_
 refine aAi rfl ?_
 refine wpAny_If ?_
 walk_at "c"
 refine aAf ?_ (by intro _ _; kernel_rfl)
 walk_at "c"
 refine Sta.sub_tuple S' (by walk_at "mem") (j := 0) rfl (by omega) rfl ?_
 walk_at "c"
 refine eq_s (λ e => absurd e (by decide +kernel)) (λ _ => ?_)
 walk_at "c"
 refine aAf ?_ (by intro _ _; kernel_rfl)
 walk_at "c"
 refine Sta.sub_tuple S' (by walk_at "mem") (j := 0) rfl (by omega) rfl ?_
 walk_at "c"
 refine eq_s (λ e => absurd e (by decide +kernel)) (λ _ => ?_)
 walk_at "c"
 refine aAf ?_ (by intro _ _; kernel_rfl)
 walk_at "c"
 refine Sta.sub_tuple S' (by walk_at "mem") (j := 0) rfl (by omega) rfl ?_
 walk_at "c"
 refine eq_s (λ e => absurd e (by decide +kernel)) (λ _ => ?_)
 walk_at "c"
 refine aAf ?_ (by intro _ _; kernel_rfl)
 walk_at "c"
 refine Sta.sub_tuple S' (by walk_at "mem") (j := 0) rfl (by omega) rfl ?_
 walk_at "c"
 refine eq_s (λ e => absurd e (by decide +kernel)) (λ _ => ?_)
 walk_at "c"
 refine data_ (m := m) (q := K.q) I (S'.perm (nw' := aAe W w c K.q m ((ca, aAo [.str "text" t0]) :: (env.locals, IsNs loc) :: N)) (by simp only [aAe]; walk_at "perm")) (hA'.le (by decide)) hz ?_
 clear S'; intro s' S'
 walk_at "c"
 walk_at "ke"
 exact k s' (Sta.back (S'.perm (by simp only [aAe]; walk_at "perm")) S.eok)
end
end
section
local macro_rules | `(tactic| walk_at $s:str) => Mine.goAt Mine.tabF s
section
noncomputable def aAx (ts : List (Addr × List Str)) : Ledger := ts.map λ t => (t.1, aAb t.2)
noncomputable def aAq (ts : List (Addr × List Str)) : List Value := ts.map λ t => .ref t.1
theorem aBm (a b : List (Addr × List Str)) : aAx (a ++ b) = aAx a ++ aAx b := List.map_append
theorem aBl (a b : List (Addr × List Str)) : aAq (a ++ b) = aAq a ++ aAq b := List.map_append
inductive RdB : List (List Str) -> Str -> List (List Str) -> List NsP -> Prop
 | fin {ts : List (List Str)} {t tx : Str} {r : List Str} {b : Str} : b.cps.toList = 47 :: tx.cps.toList -> RdB (ts ++ [t :: r]) b ts [(tx, t)]
 | ord {ts : List (List Str)} {y : List Nat} {b : Str} : b.cps.toList = 63 :: y -> RdB ts b ts []
 | start {ts : List (List Str)} {t : List Str} {c : Nat} {y : List Nat} {b : Str} : b.cps.toList = c :: y -> c ≠ 47 -> c ≠ 63 -> Txt.split b ⟨#[32]⟩ = t -> RdB ts b (ts ++ [t]) []
noncomputable def rFor : Stmt := (aAm aCb).getD 1 (.Pass default)
noncomputable abbrev envR (L : Addr) : Env := envOf "_law_read" (aAc aCb) L 189 (.ref 188)
noncomputable abbrev locR (tg : Addr) (x : Str) (t : Tok) (en : Addr) (vp vb : Option Value) : Loc := [("tags", some (.ref tg)), ("text", some (.str x t)), ("ended", some (.ref en)), ("piece", vp), ("body", vb)]
theorem RdB.or {tw tv : List (List Str)} {b : Str} {ev : List NsP} (h : RdB tw b tv ev) :
  (∃ (nm tx : Str) (r : List Str), b.cps.toList = 47 :: tx.cps.toList /\ tw = tv ++ [nm :: r] /\ ev = [(tx, nm)]) ∨
  ((∃ y, b.cps.toList = 63 :: y) /\ tw = tv /\ ev = []) ∨
  (∃ c y, b.cps.toList = c :: y /\ c ≠ 47 /\ c ≠ 63 /\ tv = tw ++ [Txt.split b " "] /\ ev = []) := by
 cases h with
 | fin h => exact .inl ⟨_, _, _, h, rfl, rfl⟩
 | ord h => exact .inr (.inl ⟨⟨_, h⟩, rfl, rfl⟩)
 | start h h1 h2 h3 => exact .inr (.inr ⟨_, _, h, h1, h2, by rw [← h3]; rfl, rfl⟩)
theorem aFR {α β : Type} {f : α -> β} {l : List α} {u : List β} {x : β} (h : l.map f = u ++ [x]) : ∃ l0 a, l = l0 ++ [a] /\ l0.map f = u /\ f a = x := by
 obtain ⟨l0, l1, rfl, h1, h2⟩ := List.map_eq_append_iff.mp h
 obtain ⟨a, rest, rfl, h3, h4⟩ := List.map_eq_cons_iff.mp h2
 obtain rfl := List.map_eq_nil_iff.mp h4
 exact ⟨l0, a, rfl, h1, h3⟩
section
set_option hygiene false in
local macro_rules | `(tactic| walk_at "iK") => `(tactic| intro Kq hKn hKr)
variable {N : Ledger}
theorem ne_t {x y : Str} {t u : Tok} {Q : Value -> Shared -> Prop} (h1 : x ≠ y -> Q (.bool true) s) (h2 : x = y -> Q (.bool false) s) : wpAny (model W.prog W.w) A (compareOp .NotEq (.str x t) (.str y u)) Q E s := by
 refine PyProof.Rows.ne_str ?_
 by_cases e : x = y
 ·have e2 : (x != y) = false := by rw [e]; simp
  rw [e2]; exact h2 e
 ·have e2 : (x != y) = true := by rw [bne_iff_ne]; exact e
  rw [e2]; exact h1 e
theorem Sta.pushTg {tg b : Addr} {ts : List (Addr × List Str)} {t : List Str} {Q : Value -> Shared -> Prop} (hz : ts.length <= 1000) (S : Sta W G env loc ((b, aAb t) :: (tg, aAa (aAq ts)) :: (aAx ts ++ N)) s)
  (h : ∀ s', Sta W G env loc ((tg, aAa (aAq (ts ++ [(b, t)]))) :: (aAx (ts ++ [(b, t)]) ++ N)) s' -> Q .none s') : wpAny (model W.prog W.w) A (call (.builtin "list.append") [.ref tg, .ref b]) Q E s := by
 have S1 := S.perm (List.Perm.swap ..)
 refine S1.append .head (by rw [sizeLine_eq]; simp [aAq]; omega) λ s' S2 => h s' (S2.perm ?_)
 rw [aBl, aBm]
 show List.Perm ((tg, aAa (aAq ts ++ [.ref b])) :: (b, aAb t) :: (aAx ts ++ N)) ((tg, aAa (aAq ts ++ [.ref b])) :: ((aAx ts ++ [(b, aAb t)]) ++ N))
 walk_at "perm"
theorem readT_ {L tg en : Addr} {x : Str} {t tp : Tok} {vb : Option Value} {ts : List (Addr × List Str)} {piece b : Str} {tv : List (List Str)} {ev : List NsP} {Q : Flow -> Shared -> Prop} (I : IsC W) (hA : Aok 11 A) (hz : ts.length <= 100) (hp : piece.cps.toList = b.cps.toList ++ [62]) (hb : 62 ∉ b.cps.toList) (hbl : b.length <= 100000) (hR : RdB (ts.map (·.2)) b tv ev)
  (S' : Sta W G (envR L) (locR tg x t en (some (.str piece tp)) vb) ((tg, aAa (aAq ts)) :: (en, aAa (aAd [])) :: (aAx ts ++ N)) s)
  (k : ∀ ts' es vb s', ts'.map (·.2) = tv -> es.map (·.2) = ev -> Sta W G (envR L) (locR tg x t en (some (.str piece tp)) vb) ((tg, aAa (aAq ts')) :: (en, aAa (aAd es)) :: (aAx ts' ++ (aAg es ++ N))) s' -> Q .next s')
  (body : List Stmt) (hbd : body = aER rFor) : wpAny (model W.prog W.w) A (execs body (envR L)) Q E s := by
 subst hbd
 have hfi : PySem.Builtin.Str.occurrences piece ">" 0 piece.length 1 = [b.length] := by
  have h := aHt (x := piece) (B := []) hp hb
  rwa [← Str.len_list] at h
 have hsl : Txt.slice piece none (some (b.length : Int)) = b := by
  rw [aHY (A := b.cps.toList) (B := [62]) hp (by rw [Str.len_list]), aGT]
 have hpl : piece.length <= sizeLine := by
  have h : piece.length = b.length + 1 := by rw [Str.len_list, hp, Str.len_list, List.length_append]; rfl
  rw [h, sizeLine_eq]; omega
 have hbs : b.length <= sizeLine := by walk_at "osz"
 have hen : ∀ vb s', ts.map (·.2) = tv -> ev = [] -> Sta W G (envR L) (locR tg x t en (some (.str piece tp)) vb) ((tg, aAa (aAq ts)) :: (en, aAa (aAd [])) :: (aAx ts ++ N)) s' -> Q .next s' := λ vb s' h1 h2 S2 => k ts [] vb s' h1 h2.symm S2
 refine aAs ?_
 refine aAi rfl ?_
 walk_at "c"
 refine aCt ?_ (by intro _ _; kernel_rfl)
 walk_at "c"
 refine aFq ?_
 walk_at "c"
 refine Sta.indexS S' hfi ?_
 clear S'; intro t1 s' S'
 walk_at "c"
 refine ⟨_, _, _, _, _, _, _, S', rfl, hpl, .none, .int _ _, ?_⟩
 clear S'; intro t2 s' S'
 rw [hsl]
 walk_at "c"
 have hc : ∃ c y, b.cps.toList = c :: y := by
  rcases hR.or with ⟨_, _, _, h, _⟩ | ⟨⟨_, h⟩, _⟩ | ⟨_, _, h, _⟩
  ·exact ⟨_, _, h⟩
  ·exact ⟨_, _, h⟩
  ·exact ⟨_, _, h⟩
 obtain ⟨c, y, hcy⟩ := hc
 have hb0 : b.cps.toList[0]? = some c := by rw [hcy]; rfl
 refine Sta.sub_str S' (j := 0) rfl (by omega) hb0 ?_
 clear S'; intro t3 s' S'
 walk_at "c"
 refine eq_s (λ e => ?_) (λ e => ?_)
 ·have e : c = 47 := by injection e with e; injection e with e; injection e
  have hf : ∃ (nm tx : Str) (r : List Str), b.cps.toList = 47 :: tx.cps.toList /\ ts.map (·.2) = tv ++ [nm :: r] /\ ev = [(tx, nm)] := by
   rcases hR.or with h | ⟨⟨_, h⟩, _⟩ | ⟨c', _, h, h1, _⟩
   ·exact h
   ·rw [hcy, e] at h; cases h
   ·rw [hcy, e] at h; injection h with h; exact absurd h.symm h1
  obtain ⟨nm, tx, r, hx1, hx2, hx3⟩ := hf
  obtain ⟨ts0, tq, ht0, ht1, ht2⟩ := aFR hx2
  have hs1 : Txt.slice b (some 1) none = tx := by
   have h := aHZ (x := b) (A := [47]) (B := tx.cps.toList) (j := 1) hx1 rfl
   rw [h, aGT]
  have hz0 : ts0.length + 1 <= 100 := by rw [ht0, List.length_append] at hz; exact hz
  walk_at "c"
  refine aCt ?_ (by intro _ _; kernel_rfl)
  walk_at "c"
  refine ⟨_, _, _, _, _, _, _, S', rfl, hbs, .int _ _, .none, ?_⟩
  clear S'; intro t4 s' S'
  rw [hs1]
  walk_at "c"
  replace S' := S'.perm (nw' := (tg, aAa (aAq ts0 ++ [.ref tq.1])) :: (tq.1, aAb (nm :: r)) :: (en, aAa (aAd [])) :: (aAx ts0 ++ N)) (by
   rw [ht0, aBl, aBm, ← ht2]
   show List.Perm ((tg, aAa (aAq ts0 ++ [.ref tq.1])) :: (en, aAa (aAd [])) :: ((aAx ts0 ++ [(tq.1, aAb tq.2)]) ++ N)) _
   walk_at "perm")
  refine S'.pop .head (by rw [sizeLine_eq]; simp only [aAq, List.length_map]; omega) ?_
  clear S'; intro s' S'
  walk_at "c"
  refine Sta.subT S' (by walk_at "mem") (j := 0) rfl (by omega) rfl λ t5 => ?_
  walk_at "c"
  revert a'; intro tp S'
  have S2 := (S'.tell (c' := IsPr (tx, nm)) .head λ o _ ho => ⟨_, _, ho⟩).perm (nw' := (tq.1, aAb (nm :: r)) :: (tg, aAa (aAq ts0)) :: (en, aAa (aAd [] ++ [.ref tp])) :: (aAx ts0 ++ ((tp, IsPr (tx, nm)) :: N))) (by walk_at "perm")
  walk_at "ke"
  exact k ts0 [(tp, tx, nm)] _ s' ht1 hx3.symm (S2.sub (List.sublist_cons_self _ _))
 ·have hf : (c = 63 /\ ts.map (·.2) = tv /\ ev = []) \/ (c ≠ 63 /\ tv = ts.map (·.2) ++ [Txt.split b " "] /\ ev = []) := by
   rcases hR.or with ⟨_, _, _, h, _⟩ | ⟨⟨_, h⟩, h1, h2⟩ | ⟨c', _, h, _, h1, h2, h3⟩
   ·rw [hcy] at h; injection h with h; exact absurd (by rw [h]; rfl) e
   ·rw [hcy] at h; injection h with h; exact .inl ⟨h, h1, h2⟩
   ·rw [hcy] at h; injection h with h; exact .inr ⟨by rw [h]; exact h1, h2, h3⟩
  rcases hf with ⟨hc1, hc2, hc3⟩ | ⟨hc1, hc2, hc3⟩
  ·walk_at "c"
   refine Sta.sub_str S' (j := 0) rfl (by omega) hb0 ?_
   clear S'; intro t4 s' S'
   walk_at "c"
   refine ne_t (λ e => absurd (by rw [hc1]; rfl) e) (λ e => ?_)
   walk_at "c"
   walk_at "ke"
   exact hen _ s' hc2 hc3 S'
  ·walk_at "c"
   refine Sta.sub_str S' (j := 0) rfl (by omega) hb0 ?_
   clear S'; intro t4 s' S'
   walk_at "c"
   refine ne_t (λ e => ?_) (λ e => absurd (by injection e with e; injection e with e; injection e) hc1)
   walk_at "c"
   refine aBj ?_
   walk_at "c"
   refine Sta.split1 S' (by decide +kernel) (by omega) ?_
   clear S'; intro b1 s' S'
   walk_at "c"
   refine Sta.pushTg (by omega) (S'.perm (nw' := (b1, aAb (Txt.split b " ")) :: (tg, aAa (aAq ts)) :: (aAx ts ++ ((en, aAa (aAd [])) :: N))) (by walk_at "perm")) ?_
   clear S'; intro s' S'
   walk_at "c"
   walk_at "ke"
   exact k _ [] _ s' (by rw [List.map_append, hc2]; rfl) hc3.symm (S'.perm (nw' := (tg, aAa (aAq (ts ++ [(b1, Txt.split b " ")]))) :: (en, aAa (aAd [])) :: (aAx (ts ++ [(b1, Txt.split b " ")]) ++ (aAg [] ++ N))) (by simp only [aAg, List.map_nil, List.map_cons, List.nil_append, List.cons_append]; walk_at "perm"))
end
end
section
inductive Rd : List (List Str) -> Str -> List (List Str) -> List NsP -> Prop
 | none {ts : List (List Str)} {x : Str} : 60 ∉ x.cps.toList -> Rd ts x ts []
 | one {ts ts' : List (List Str)} {x a b : Str} {es : List NsP} : x.cps.toList = a.cps.toList ++ 60 :: (b.cps.toList ++ [62]) -> 60 ∉ a.cps.toList -> 60 ∉ b.cps.toList -> 62 ∉ b.cps.toList -> b.length <= 100000 -> RdB ts b ts' es -> Rd ts x ts' es
section
variable {N : Ledger}
theorem read_ {tg : Addr} {x : Str} {t : Tok} {ts : List (Addr × List Str)} {tv : List (List Str)} {ev : List NsP} {Q : Value -> Shared -> Prop} (I : IsC W) (hA : Aok 13 A) (hz : ts.length <= 100) (hx : x.length <= 1000000) (hR : Rd (ts.map (·.2)) x tv ev)
  (S : Sta W G env loc ((tg, aAa (aAq ts)) :: (aAx ts ++ N)) s)
  (k : ∀ en ts' es s', ts'.map (·.2) = tv -> es.map (·.2) = ev -> Sta W G env loc ((en, aAa (aAd es)) :: (tg, aAa (aAq ts')) :: (aAx ts' ++ (aAg es ++ N))) s' -> Q (.ref en) s') :
  wpAny (model W.prog W.w) A (call (.ref 189) [.ref tg, .str x t]) Q E s := by
 refine S.call_fn (binds := [("tags", .ref tg), ("text", .str x t)]) ["ended", "piece", "body"] I.f_l_read hA.room (λ _ _ _ _ _ => BindsTo.of_eq (by kernel_rfl)) (by kernel_rfl) ?_
 intro L s' S'
 have hA' := hA.deeper (env := envR L)
 have eok := S.eok
 clear S
 generalize hfr : (env.locals, IsNs loc) = fr at S'
 walk_at "zd"
 simp only [aAv, List.map_cons, List.map_nil, List.cons_append, List.nil_append] at S'
 refine aAs ?_
 refine aAi rfl ?_
 walk_at "c"
 have hpl : ∃ P : List Str, (Txt.split x "<").drop 1 = P /\ (Txt.split x "<").length <= 2 /\ ((P = [] /\ tv = ts.map (·.2) /\ ev = []) \/ ∃ b : Str, P = [b ++ ">"] /\ 62 ∉ b.cps.toList /\ b.length <= 100000 /\ RdB (ts.map (·.2)) b tv ev) := by
  generalize htw : ts.map (·.2) = tw at hR
  cases hR with
  | none h =>
   have e : Txt.split x "<" = [x] := aE5 h
   rw [e]
   exact ⟨[], rfl, Nat.le_succ _, .inl ⟨rfl, rfl, rfl⟩⟩
  | @one _ _ a b _ h1 h2 h3 h4 h5 h6 =>
   have e : Txt.split x "<" = [a, b ++ ">"] := aGM (by rw [h1, aAI]; rfl) h2 (by
    rw [aAI, List.mem_append]
    rintro (h | h)
    ·exact h3 h
    ·revert h; decide +kernel)
   rw [e]
   exact ⟨_, rfl, Nat.le_refl _, .inr ⟨b, rfl, h4, h5, h6⟩⟩
 obtain ⟨P, hP, hP2, hPd⟩ := hpl
 clear hR
 refine wpAny_For ?_ (by intro _; kernel_rfl)
 refine aGS ?_
 walk_at "c"
 refine aBj ?_
 walk_at "c"
 refine Sta.split1 S' (by decide +kernel) hx ?_
 clear S'; intro sp s' S'
 walk_at "c"
 refine aBh (j := 1) S' (by walk_at "mem") (by walk_at "osz") rfl ?_
 clear S'; intro sl s' S'
 rw [hP] at S'
 refine Sta.iterT S' .head ?_
 clear S'; intro it vs s' hvs S'
 have S2 := S'.sel (nw' := (tg, aAa (aAq ts)) :: (a', aAa (aAd [])) :: (aAx ts ++ (fr :: N)) ++ ([] ++ [(it, IsLI sl 0), (sl, aAa vs)])) (Sel.rest [(sp, aAb (Txt.split x "<"))] (by walk_at "perm"))
 clear S' hP hP2
 refine aIz (sh := []) (f := λ (x : Str) t => .str x t) (hA'.le (by decide)) (G := G) (og := []) (own := [(it, IsLI sl 0), (sl, aAa vs)]) (λ (v : Option Value × Option Value × List (Addr × List Str) × List (Addr × NsP)) _ => locR tg x t a' v.1 v.2.1) (λ v _ => (tg, aAa (aAq v.2.2.1)) :: (a', aAa (aAd v.2.2.2)) :: (aAx v.2.2.1 ++ (aAg v.2.2.2 ++ (fr :: N)))) (λ v dn => (dn = [] -> v.2.2.1 = ts /\ v.2.2.2 = []) /\ (dn = P -> v.2.2.1.map (·.2) = tv /\ v.2.2.2.map (·.2) = ev)) (aBg hvs (LY.yields (aAU (sh := []) (xs := vs) (own₀ := [(sl, aAa vs)]) (.head _) vs 0 rfl))) (none, none, ts, []) ⟨λ _ => ⟨rfl, rfl⟩, λ h => ?_⟩ (by rw [List.append_nil]; exact S2) ?_ ?_
 ·rcases hPd with ⟨_, h1, h2⟩ | ⟨b, hb, h1, h2, h3⟩
  ·exact ⟨h1.symm, h2.symm⟩
  ·rw [hb] at h; cases h
 rotate_left
 ·intro y dn rest t1 tl' tg' v s1 K hq hH S1 kk _ _
  have hb : ∃ b, P = [b ++ (">" : Str)] /\ dn = [] /\ y = b ++ (">" : Str) /\ 62 ∉ b.cps.toList /\ b.length <= 100000 /\ RdB (ts.map (·.2)) b tv ev := by
   rcases hPd with ⟨h, _⟩ | ⟨b, hb, h1, h2, h3⟩
   ·rw [h] at hq; exact absurd hq (by simp)
   ·refine ⟨b, hb, ?_, ?_, h1, h2, h3⟩
    ·cases dn with
     | nil => rfl
     | cons z r => rw [hb] at hq; injection hq with _ hq; exact absurd hq (by simp)
    ·cases dn with
     | nil => rw [hb] at hq; injection hq with hq; exact hq.symm
     | cons z r => rw [hb] at hq; injection hq with _ hq; exact absurd hq (by simp)
  obtain ⟨b, hb, hd, hy, h1, h2, h3⟩ := hb
  obtain ⟨e1, e2⟩ := hH.1 hd
  refine wpAny_assign_Name (S1.store (by simp only [locR]; walk_at "put") λ s' S' => ?_)
  refine readT_ (ts := ts) (b := b) (N := fr :: N ++ ([] ++ tl')) I (hA'.le (by decide)) hz (by rw [hy, aAI]; rfl) h1 h2 h3 (S'.perm (by rw [e1, e2]; simp only [aAg, List.map_nil, List.nil_append]; walk_at "perm")) ?_ _ rfl
  intro ts2 es2 vb2 s2 q1 q2 S2
  exact (kk (_, _, ts2, es2) _ ⟨λ h => absurd h (by simp), λ _ => ⟨q1, q2⟩⟩ (S2.perm (by walk_at "perm"))).1
 ·intro v s1 hH S1
  obtain ⟨q1, q2⟩ := hH.2 rfl
  have S' := S1
  clear S1
  walk_at "zd"
  simp only [List.append_nil] at S'
  walk_at "c"
  subst hfr
  walk_at "ke"
  exact k a' v.2.2.1 v.2.2.2 _ q1 q2 (Sta.back (S'.perm (nw' := (env.locals, IsNs loc) :: (a', aAa (aAd v.2.2.2)) :: (tg, aAa (aAq v.2.2.1)) :: (aAx v.2.2.1 ++ (aAg v.2.2.2 ++ N))) (by walk_at "perm")) eok)
end
end
section
noncomputable def aBP (p : Str) (l : List NsP) : List Str := (l.filter λ q => decide (q.2 = p)).map (·.1)
noncomputable def mnU (p : Str) (l : List NsP) : Str := (aBP p l).headD ""
theorem aJd {p : Str} {l : List NsP} (h : ∀ q ∈ l, q.1.length <= 1000) : (mnU p l).length <= 1000 := by
 unfold mnU aBP
 cases e : l.filter λ q => decide (q.2 = p) with
 | nil => exact Nat.zero_le _
 | cons q r => exact h q (List.mem_filter.mp (by rw [e]; exact .head _)).1
noncomputable abbrev aHA (L : Addr) : Env := envOfC "_law_means" (aAc aBv) L 194 (.ref 193)
section
variable {N : Ledger}
theorem Sta.addTL {l b : Addr} {ss : List Str} {y : Str} {t : Tok} {Q : Value -> Shared -> Prop} (S : Sta W G env loc ((l, aAb ss) :: nw) s) (m2 : (b, aAa [.str y t]) ∈ nw) (hz : ss.length <= 1000) (h : ∀ a s', Sta W G env loc ((a, aAb (ss ++ [y])) :: nw) s' -> Q (.ref a) s') :
  wpAny (model W.prog W.w) A (binaryOp .Add (.ref l) (.ref b)) Q E s := by
 obtain ⟨o, ho, vs, ht, hl⟩ := S.get (.head _)
 have S2 := S.tell (c' := aAa vs) .head λ o' ho' _ => by rw [ho] at ho'; cases ho'; exact hl
 refine S2.addLL (.head _) (.tail _ m2) (by rw [ht.length, sizeLine_eq]; show ss.length + 1 <= _; omega) λ a s' S3 => ?_
 have S4 := S3.tell (c' := aAb (ss ++ [y])) .head λ o _ ho => ⟨_, ht.snoc y t, ho⟩
 exact h a s' (S4.sub ((List.sublist_cons_self _ _).cons_cons _))
theorem aHm (l : List Str) : (l ++ [("" : Str)])[0]? = some (l.headD "") := by
 cases l <;> rfl
theorem aIt {wk : Addr} {x : Str} {t : Tok} {ps : List (Addr × NsP)} {p l : Str} {Q : Value -> Shared -> Prop} (I : IsC W) (hA : Aok 12 A) (hp : ps.length <= 60) (hx : x.length <= 1000) (hpl : p.length <= 1000) (hll : l.length <= 1000) (hul : ∀ q ∈ ps, q.2.1.length <= 1000) (hb : (58 ∈ x.cps.toList /\ Txt.split x ":" = [p, l]) \/ (58 ∉ x.cps.toList /\ p = "" /\ l = x)) (S : Sta W G env loc ((wk, aAa (aAd ps)) :: (aAg ps ++ N)) s)
  (k : ∀ t s', Sta W G env loc ((wk, aAa (aAd ps)) :: (aAg ps ++ N)) s' -> Q (.str ("{" ++ mnU p (ps.map (·.2)) ++ "}" ++ l) t) s') :
  wpAny (model W.prog W.w) A (call (.ref 194) [.ref wk, .str x t]) Q E s := by
 refine S.call_fnC (binds := [("walk", .ref wk), ("name", .str x t)]) [("walk", .ref wk), ("name", .str x t)] ["local"] [none] I.f_l_means hA.room (by intro name doc pm ct an; exact BindsTo.of_eq (by kernel_rfl)) (by kernel_rfl) (by kernel_rfl) (by kernel_rfl) ?_
 intro L cs s' hcs S'
 have hnm : aAn (aAc aBv).names = (["prefix"] : List Str) := by kernel_rfl
 rw [hnm] at hcs
 obtain ⟨c1, rfl, hpc⟩ := hcs.one
 have hA' := hA.deeper (env := aHA L)
 have eok := S.eok
 clear S
 generalize hfr : (env.locals, IsNs loc) = fr at S'
 walk_at "zd"
 simp only [aAv, List.map_cons, List.map_nil, List.cons_append, List.nil_append, aAV] at S'
 replace S' := S'.perm (nw' := (c1, aAp none) :: (wk, aAa (aAd ps)) :: (aAg ps ++ (fr :: N))) (by walk_at "perm")
 have tail : ∀ tp tl X s', Sta W G (aHA L) [("walk", some (.ref wk)), ("name", some (.str x t)), ("local", some (.str l tl))] ((c1, aAp (some (.str p tp))) :: (wk, aAa (aAd ps)) :: (aAg ps ++ (fr :: (X ++ N)))) s' ->
   wpAny (model W.prog W.w) (A.deeper (aHA L)) (execs ((aAm aBv).drop 1) (aHA L)) (λ fl s'' => Q (match fl with | .ret v => v | _ => .none) s'') (λ _ _ => False) s' := by
  clear S'
  intro tp tl X s' S'
  walk_at "c"
  refine aHg (cl := [("prefix", c1)]) ["uri", "one"] (aB5 (by kernel_rfl) hpc) (by kernel_rfl) rfl rfl ?_ (by intro _; kernel_rfl)
  refine S'.local_ (by walk_at "mem") ?_
  refine S'.iterL (by walk_at "mem") ?_
  clear S'; intro it s' S'
  refine ⟨G, _, _, S', ?_⟩
  intro b Cc s1 eok1 S1
  refine aAQ rfl rfl aBF (S1.get (.tail _ (.tail _ (.head _)))) ?_
  generalize hfr2 : ((aHA L).locals, IsNs _) = fr2 at S1
  have Y : LY W [(wk, aAa (aAd ps))] it (aAd ps) [(it, IsLI wk 0)] := aAU (own₀ := []) (by simp [aAd]) (aAd ps) 0 rfl
  have S2 := (S1.tell (c' := aAb []) .head λ o _ ho => ⟨_, .nil, ho⟩).perm (nw' := ((b, aAb []) :: fr2 :: (c1, aAp (some (.str p tp))) :: (aAg ps ++ (fr :: (X ++ N)))) ++ ([(wk, aAa (aAd ps))] ++ [(it, IsLI wk 0)])) (by walk_at "perm")
  clear S' S1
  refine aIk (sh := [(wk, aAa (aAd ps))]) (f := λ (r : Addr × NsP) => .ref r.1) (hA'.le (by decide)) (G := G) (og := []) (own := [(it, IsLI wk 0)]) (λ (v : Option Value × Option Value) _ => [("uri", v.1), ("one", v.2)]) (λ _ dn => (b, aAb (aBP p (dn.map (·.2)))) :: fr2 :: (c1, aAp (some (.str p tp))) :: (aAg ps ++ (fr :: (X ++ N)))) (λ _ _ => True) (aAS Y.yields) (none, none) trivial (by rw [List.append_nil]; exact S2) ?_ ?_
  rotate_left
  ·refine pr3 ?_
   intro ra u q dn rest tl' tg vk s1 K hq _ S' kk
   clear S2
   have hrm : (ra, u, q) ∈ ps := by rw [hq]; simp
   have hmq : (ra, IsPr (u, q)) ∈ (aAg ps ++ (fr :: (X ++ N))) ++ ((wk, aAa (aAd ps)) :: tl') := List.mem_append_left _ (List.mem_append_left _ (List.mem_map.mpr ⟨_, hrm, rfl⟩))
   have hdl : (aBP p (dn.map (·.2))).length <= 100 := by
    have h1 := congrArg List.length hq
    have h2 := List.length_filter_le (λ q : NsP => decide (q.2 = p)) (dn.map (·.2))
    simp only [List.length_map, List.length_append, aBP] at h1 h2 ⊢
    omega
   have ed : ∀ b, ((dn ++ [(ra, u, q)]).map (·.2)).filter (λ q : NsP => decide (q.2 = p)) = (dn.map (·.2)).filter (λ q : NsP => decide (q.2 = p)) ++ b -> aBP p ((dn ++ [(ra, u, q)]).map (·.2)) = aBP p (dn.map (·.2)) ++ b.map (·.1) := by
    intro b hb
    unfold aBP
    rw [hb, List.map_append]
   have ef : ((dn ++ [(ra, u, q)]).map (·.2)).filter (λ q : NsP => decide (q.2 = p)) = (dn.map (·.2)).filter (λ q : NsP => decide (q.2 = p)) ++ [(u, q)].filter (λ q : NsP => decide (q.2 = p)) := by
    rw [List.map_append, List.filter_append]; rfl
   walk_at "zd"
   simp only [List.cons_append, List.nil_append] at S'
   refine Sta.unpackPr S' hA'.handled (by walk_at "mem") (by kernel_rfl) (by kernel_rfl) ?_
   clear S'; intro t1 t2 s' S'
   refine assignInOrder_cons ?_
   refine assign_Name ?_
   walk_at "c"
   refine assignInOrder_cons ?_
   refine assign_Name ?_
   walk_at "c"
   refine assignInOrder_nil ?_
   refine wpAny_isTrue_Compare1 ?_ (by kernel_rfl)
   walk_at "c"
   refine Sta.cell S' ⟨by kernel_rfl, rfl, by decide +kernel, by decide +kernel⟩ (c := c1) (by walk_at "mem") ?_
   refine eq_s (λ e => ?_) (λ e => ?_)
   ·have eg := ed [(u, q)] (by rw [ef, List.filter_cons_of_pos (by simpa using e)]; rfl)
    walk_at "c"
    try (refine S'.appendT .head (by walk_at "osz") ?_; clear S'; intro s' S')
    exact kk (some (.str u t1), some (.str q t2)) _ trivial (S'.perm (nw' := ((b, aAb (aBP p ((dn ++ [(ra, u, q)]).map (·.2)))) :: fr2 :: (c1, aAp (some (.str p tp))) :: (aAg ps ++ (fr :: (X ++ N)))) ++ ([(wk, aAa (aAd ps))] ++ tl')) (by rw [eg]; walk_at "perm"))
   ·have eg := ed [] (by rw [ef, List.filter_cons_of_neg (by simpa using e)]; rfl)
    walk_at "c"
    exact kk (some (.str u t1), some (.str q t2)) _ trivial (S'.perm (nw' := ((b, aAb (aBP p ((dn ++ [(ra, u, q)]).map (·.2)))) :: fr2 :: (c1, aAp (some (.str p tp))) :: (aAg ps ++ (fr :: (X ++ N)))) ++ ([(wk, aAa (aAd ps))] ++ tl')) (by rw [eg, List.map_nil, List.append_nil]; walk_at "perm"))
  ·intro vk s1 _ S1
   subst hfr2
   refine ⟨.next, ([("uri", vk.1), ("one", vk.2)] : Loc), (b, aAb (aBP p (ps.map (·.2)))) :: (c1, aAp (some (.str p tp))) :: (wk, aAa (aAd ps)) :: (aAg ps ++ (fr :: (X ++ N))), G, rfl, S1.perm (by walk_at "perm"), λ s3 S3 => ?_⟩
   have S' := S3
   clear S1 S2 S3
   have hml : (aBP p (ps.map (·.2))).length <= 1000 := by
    have h2 := List.length_filter_le (λ q : NsP => decide (q.2 = p)) (ps.map (·.2))
    dsimp only [List.length_map, aBP] at h2 ⊢
    omega
   have hmu : (mnU p (ps.map (·.2))).length <= 1000 := aJd λ q hq => by
    obtain ⟨r, hr, rfl⟩ := List.mem_map.mp hq
    exact hul r hr
   have hl1 : ("{" : Str).length = 1 := by decide +kernel
   have hl2 : ("}" : Str).length = 1 := by decide +kernel
   walk_at "c"
   refine Sta.addTL (S'.perm (nw' := (b, aAb (aBP p (ps.map (·.2)))) :: (a', aAa [.str "" t']) :: (c1, aAp (some (.str p tp))) :: (wk, aAa (aAd ps)) :: (aAg ps ++ (fr :: (X ++ N)))) (by walk_at "perm")) (.head _) hml ?_
   clear S'; intro b2 s' S'
   walk_at "c"
   refine Sta.subT S' (.head _) (j := 0) rfl (by omega) (aHm _) λ t4 => ?_
   rw [show (aBP p (ps.map (·.2))).headD "" = mnU p (ps.map (·.2)) from rfl]
   walk_at "c"
   subst hfr
   walk_at "ke"
   exact k _ _ (Sta.back ((S'.perm (nw' := (b2, _) :: (a', _) :: (c1, _) :: (env.locals, IsNs loc) :: (wk, aAa (aAd ps)) :: (aAg ps ++ N) ++ X) (by walk_at "perm")).sel (nw' := (env.locals, IsNs loc) :: (wk, aAa (aAd ps)) :: (aAg ps ++ N)) (Sel.rest ((b2, _) :: (a', _) :: (c1, _) :: X) (by walk_at "perm"))) eok)
 refine aAs ?_
 refine aAi rfl ?_
 refine Assign_Tuple ?_ (by kernel_rfl) (by kernel_rfl)
 refine IfExp_ ?_
 refine wpAny_isTrue_Compare1 ?_ (by kernel_rfl)
 walk_at "c"
 refine Sta.inStr rfl (λ h => ?_) (λ h => ?_)
 ·obtain ⟨_, hsp⟩ : 58 ∈ x.cps.toList /\ Txt.split x ":" = [p, l] := hb.resolve_right λ h2 => h2.1 h
  walk_at "c"
  refine aBj ?_
  walk_at "c"
  refine Sta.split1 S' (by decide +kernel) (by omega) ?_
  rw [hsp]
  clear S'; intro b2 s' S'
  refine Sta.unpackTx S' .head (hA'.le (by decide)) (by kernel_rfl) (by kernel_rfl) ?_
  clear S'; intro vs s' hvs S'
  obtain ⟨tp, tl, rfl⟩ := hvs.two
  refine assignInOrder_cons ?_
  refine assign_Name ?_
  refine S'.storeC hpc .head ?_
  clear S'; intro s' S'
  refine assignInOrder_cons ?_
  refine assign_Name ?_
  walk_at "c"
  refine assignInOrder_nil ?_
  exact tail tp tl [] s' S'
 ·obtain ⟨_, rfl, rfl⟩ := hb.resolve_left λ h2 => h h2.1
  walk_at "c"
  have S2 := (S'.tell (c' := aAb [("" : Str), l]) .head λ o _ ho => ⟨_, .cons _ _ (.cons _ _ .nil), ho⟩)
  refine Sta.unpackTx S2 .head (hA'.le (by decide)) (by kernel_rfl) (by kernel_rfl) ?_
  clear S' S2; intro vs s' hvs S'
  obtain ⟨tp, tl, rfl⟩ := hvs.two
  refine assignInOrder_cons ?_
  refine assign_Name ?_
  refine S'.storeC hpc .head ?_
  clear S'; intro s' S'
  refine assignInOrder_cons ?_
  refine assign_Name ?_
  walk_at "c"
  refine assignInOrder_nil ?_
  exact tail tp tl [] s' S'
end
end
end
section
inductive Rw
 | ts (xs : List Str)
 | pr (x : Str) (xs : List Str)
structure RwA where
 a : Addr
 b : Addr
 r : Rw
noncomputable def aGy (x : Str) (b : Addr) : Cell := λ o => ∃ t, aAo [.str x t, .ref b] o
noncomputable def RwA.led : RwA -> Ledger
 | ⟨a, _, .ts xs⟩ => [(a, aAb xs)]
 | ⟨a, b, .pr x xs⟩ => [(a, aGy x b), (b, aAb xs)]
noncomputable def aAj (l : List RwA) : Ledger := l.flatMap RwA.led
noncomputable def aAh (l : List RwA) : List Value := l.map λ r => .ref r.a
theorem aEu (a b : List RwA) : aAj (a ++ b) = aAj a ++ aAj b := List.flatMap_append
theorem aEt (a b : List RwA) : aAh (a ++ b) = aAh a ++ aAh b := List.map_append
noncomputable def lFor : Stmt := (aAm aEs).getD 3 (.Pass default)
noncomputable def lB : List Stmt := aER lFor
noncomputable abbrev envL (L : Addr) : Env := envOfC "law" (aAc aEs) L 199 (.ref 198)
section
variable {N : Ledger}
theorem Sta.pushRw {tl : Addr} {rs : List RwA} {r : RwA} {Q : Value -> Shared -> Prop} (hz : rs.length <= 10000) (S : Sta W G env loc ((tl, aAa (aAh rs)) :: (aAj rs ++ (r.led ++ N))) s)
  (h : ∀ s', Sta W G env loc ((tl, aAa (aAh (rs ++ [r]))) :: (aAj (rs ++ [r]) ++ N)) s' -> Q .none s') : wpAny (model W.prog W.w) A (call (.builtin "list.append") [.ref tl, .ref r.a]) Q E s := by
 refine S.append .head (by rw [sizeLine_eq]; simp [aAh]; omega) λ s' S2 => h s' ?_
 rw [aEt, aEu, List.append_assoc]
 simpa [aAh, aAj] using S2
theorem prj_ {L en : Addr} {es : List (Addr × NsP)} {nm : Str} {f : NsP -> Str} {p1 p2 p3 p4 p5 p6 : Pos} {Q : Value -> Shared -> Prop} (I : IsC W) (hA : Aok 9 A) (h2 : es.length <= 10) (hen : (("ended" : Str), some (Value.ref en)) ∈ loc) (hf : ∀ (q : NsP) t u, ∃ t', (nm, some (Value.str (f q) t')) ∈ ([("end", some (.str q.1 t)), ("start", some (.str q.2 u))] : Loc))
  (S' : Sta W G (envL L) loc ((en, aAa (aAd es)) :: (aAg es ++ N)) s)
  (k : ∀ b s', Sta W G (envL L) loc ((b, aAb (es.map λ r => f r.2)) :: (en, aAa (aAd es)) :: (aAg es ++ N)) s' -> Q (.ref b) s') :
  wpAny (model W.prog W.w) A (eval (.ListComp (.Name nm p1) [⟨.Tuple [.Name "end" p2, .Name "start" p3] 0 p4, .Name "ended" p5, [], 0⟩] { kind := .function, names := [(Str.ofString ".0", .local), (Str.ofString "end", .local), (Str.ofString "start", .local)], isGenerator := false, isCoroutine := false } p6) (envL L)) Q E s := by
 refine aD5 (cl := []) ["end", "start"] (by kernel_rfl) (by kernel_rfl) rfl rfl ?_ (by intro _; kernel_rfl)
 refine S'.local_ hen ?_
 refine S'.iterL (.head _) ?_
 clear S'; intro it s' S'
 refine ⟨G, _, _, S', ?_⟩
 intro b Cc s1 eok S1
 refine aAQ rfl rfl aBF (S1.get (.tail _ (.tail _ (.head _)))) ?_
 generalize hfr : ((envL L).locals, IsNs loc) = fr at S1
 have Y : LY W [(en, aAa (aAd es))] it (aAd es) [(it, IsLI en 0)] := aAU (own₀ := []) (by simp [aAd]) (aAd es) 0 rfl
 have S2 := (S1.tell (c' := aAb []) .head λ o _ ho => ⟨_, .nil, ho⟩).perm (nw' := ((b, aAb []) :: fr :: (aAg es ++ N)) ++ ([(en, aAa (aAd es))] ++ [(it, IsLI en 0)])) (by walk_at "perm")
 clear S' S1
 refine aEe (sh := [(en, aAa (aAd es))]) (f := λ (r : Addr × NsP) => .ref r.1) (hA.le (by decide)) (G := G) (og := []) (own := [(it, IsLI en 0)]) (λ (v : Option Value × Option Value) _ => [("end", v.1), ("start", v.2)]) (λ _ dn => (b, aAb (dn.map λ r => f r.2)) :: fr :: (aAg es ++ N)) (λ _ _ => True) (compTurn_list1 ..) (aAS Y.yields) (none, none) trivial (by rw [List.append_nil]; exact S2) ?_ ?_
 rotate_left
 ·refine pr2 ?_
  intro ra q dn rest tl tg vk s1 K hq _ S' kk
  clear S2
  have hmq : (ra, IsPr (q.1, q.2)) ∈ (aAg es ++ N) ++ ((en, aAa (aAd es)) :: tl) := List.mem_append_left _ (List.mem_append_left _ (List.mem_map.mpr ⟨(ra, q), by rw [hq]; simp, rfl⟩))
  have hdl : (dn.map λ r => f r.2).length <= 100 := by
   have := congrArg List.length hq
   simp only [List.length_map, List.length_append] at this ⊢
   omega
  have e1 : ((dn ++ [(ra, q)]).map λ r => f r.2) = (dn.map λ r => f r.2) ++ [f q] := by rw [List.map_append]; rfl
  walk_at "zd"
  simp only [List.cons_append, List.nil_append] at S'
  refine Sta.unpackPr S' hA.handled (by walk_at "mem") (by kernel_rfl) (by kernel_rfl) ?_
  clear S'; intro t1 t2 s' S'
  obtain ⟨t3, hm⟩ := hf q t1 t2
  refine assignInOrder_cons ?_
  refine assign_Name ?_
  walk_at "c"
  refine assignInOrder_cons ?_
  refine assign_Name ?_
  walk_at "c"
  refine assignInOrder_nil ?_
  refine wpAny_bind ?_
  refine S'.local_ hm ?_
  refine wpAny_bind (S'.appendT .head (by walk_at "osz") λ s' S' => wpAny_pure ?_)
  walk_at "zd"
  exact kk (some (.str q.1 t1), some (.str q.2 t2)) _ trivial (S'.perm (nw' := ((b, aAb ((dn ++ [(ra, q)]).map λ r => f r.2)) :: fr :: (aAg es ++ N)) ++ ([(en, aAa (aAd es))] ++ tl)) (by rw [e1]; walk_at "perm"))
 ·intro vk s1 _ S1
  subst hfr
  refine ⟨.next, ([("end", vk.1), ("start", vk.2)] : Loc), (b, aAb (es.map λ r => f r.2)) :: (en, aAa (aAd es)) :: (aAg es ++ N), G, rfl, S1.perm (by walk_at "perm"), λ s3 S3 => k b s3 S3⟩
theorem lawA_ {L en td du : Addr} {es : List (Addr × NsP)} {ta da : List RwA} {Q : Flow -> Shared -> Prop} (I : IsC W) (hA : Aok 9 A) (h2 : es.length <= 10) (hta : ta.length <= 10000) (hda : da.length <= 10000) (hen : (("ended" : Str), some (Value.ref en)) ∈ loc) (htd : (("told" : Str), some (Value.ref td)) ∈ loc) (hdu : (("due" : Str), some (Value.ref du)) ∈ loc)
  (S' : Sta W G (envL L) loc ((td, aAa (aAh ta)) :: (du, aAa (aAh da)) :: (en, aAa (aAd es)) :: (aAg es ++ (aAj ta ++ (aAj da ++ N)))) s)
  (k : ∀ r1 r2 s', r1.r = .ts (es.map (·.2.2)) -> r2.r = .ts (es.map (·.2.1)) -> Sta W G (envL L) loc ((td, aAa (aAh (ta ++ [r1]))) :: (du, aAa (aAh (da ++ [r2]))) :: (aAj (ta ++ [r1]) ++ (aAj (da ++ [r2]) ++ N))) s' ->
   wpAny (model W.prog W.w) A (execs (lB.drop 5) (envL L)) Q E s') :
  wpAny (model W.prog W.w) A (execs (lB.drop 3) (envL L)) Q E s := by
 refine aAi rfl ?_
 refine wpAny_Expr_any ?_ (by kernel_rfl) (by kernel_rfl)
 refine aBD ?_ (by kernel_rfl) (by kernel_rfl) (by kernel_rfl)
 refine S'.local_ htd ?_
 refine Sta.getM_list S' (by walk_at "mem") F.slot_list_append F.type_list_append ?_
 walk_at "c"
 refine prj_ (f := λ q => q.2) I hA h2 hen (λ q t u => ⟨u, .tail _ (.head _)⟩) (S'.perm (nw' := (en, aAa (aAd es)) :: (aAg es ++ ((td, aAa (aAh ta)) :: (du, aAa (aAh da)) :: (aAj ta ++ (aAj da ++ N))))) (by walk_at "perm")) ?_
 clear S'; intro b1 s' S'
 walk_at "c"
 refine Sta.pushRw (r := ⟨b1, 0, .ts (es.map (·.2.2))⟩) hta (S'.perm (nw' := (td, aAa (aAh ta)) :: (aAj ta ++ ((b1, aAb (es.map (·.2.2))) :: ((du, aAa (aAh da)) :: (en, aAa (aAd es)) :: (aAg es ++ (aAj da ++ N)))))) (by walk_at "perm")) ?_
 generalize hr1 : (⟨b1, 0, .ts (es.map (·.2.2))⟩ : RwA) = r1
 clear S'; intro s' S'
 refine aAi rfl ?_
 refine wpAny_Expr_any ?_ (by kernel_rfl) (by kernel_rfl)
 refine aBD ?_ (by kernel_rfl) (by kernel_rfl) (by kernel_rfl)
 replace S' := S'.perm (nw' := (du, aAa (aAh da)) :: (en, aAa (aAd es)) :: (aAg es ++ ((td, aAa (aAh (ta ++ [r1]))) :: (aAj (ta ++ [r1]) ++ (aAj da ++ N))))) (by walk_at "perm")
 refine S'.local_ hdu ?_
 refine Sta.getM_list S' (by walk_at "mem") F.slot_list_append F.type_list_append ?_
 walk_at "c"
 refine prj_ (f := λ q => q.1) I hA h2 hen (λ q t u => ⟨t, .head _⟩) (S'.perm (nw' := (en, aAa (aAd es)) :: (aAg es ++ ((td, aAa (aAh (ta ++ [r1]))) :: (du, aAa (aAh da)) :: (aAj (ta ++ [r1]) ++ (aAj da ++ N))))) (by walk_at "perm")) ?_
 clear S'; intro b2 s' S'
 walk_at "c"
 refine Sta.pushRw (r := ⟨b2, 0, .ts (es.map (·.2.1))⟩) hda (S'.perm (nw' := (du, aAa (aAh da)) :: (aAj da ++ ((b2, aAb (es.map (·.2.1))) :: ((td, aAa (aAh (ta ++ [r1]))) :: (en, aAa (aAd es)) :: (aAg es ++ (aAj (ta ++ [r1]) ++ N)))))) (by walk_at "perm")) ?_
 clear S'; intro s' S'
 walk_at "ke"
 exact k r1 _ s' (by rw [← hr1]) rfl ((S'.perm (nw' := (en, aAa (aAd es)) :: (aAg es ++ ((td, aAa (aAh (ta ++ [r1]))) :: (du, aAa (aAh (da ++ [⟨b2, 0, .ts (es.map (·.2.1))⟩]))) :: (aAj (ta ++ [r1]) ++ (aAj (da ++ [⟨b2, 0, .ts (es.map (·.2.1))⟩]) ++ N))))) (by walk_at "perm")).sub ((List.sublist_append_right _ _).cons _))
end
end
section
noncomputable def rowTxt (q : NsP) : Str := xnT q.2 ++ "=\"" ++ q.1 ++ "\""
noncomputable def lvLs (ls : List Lv) : Ledger := ls.map λ l => (l.a, aAa (aAd l.ps))
theorem aDE : ∀ ls : List Lv, (aAr ls).Perm (lvLs ls ++ aAg (lvPs ls))
 | [] => .refl _
 | l :: r => by
  have h := aDE r
  have e : lvPs (l :: r) = lvPs r ++ l.ps := by unfold lvPs; rw [List.reverse_cons, List.flatMap_append]; simp
  rw [e, aBN]
  show List.Perm ((l.a, aAa (aAd l.ps)) :: (aAg l.ps ++ aAr r)) ((l.a, aAa (aAd l.ps)) :: (lvLs r ++ (aAg (lvPs r) ++ aAg l.ps)))
  refine .cons _ ?_
  rw [← List.append_assoc]
  exact (List.perm_append_comm).trans (h.append_right _)
section
variable {w : Wn} {c : Wc} {q : Addr} {m : Wm} {N : Ledger}
theorem lawW_ {L wkc : Addr} {v0 : Option Value} {Q : Flow -> Shared -> Prop} (I : IsC W) (hA : Aok 12 A) (h60 : (lvPs m.dl).length <= 60) (hw : (("writer" : Str), some (Value.ref w.x)) ∈ loc) (hwk : CellOk (envL L) .cell "walk" wkc)
  (S' : Sta W G (envL L) loc ((w.x, aAu 150 w.dx) :: (w.dx, aAl (vvOf w c q m)) :: (w.dns, aAa (aAk m.dl)) :: (wkc, aAp v0) :: (aAr m.dl ++ N)) s)
  (k : ∀ wk s', Sta W G (envL L) loc ((wk, aAa (aAd (lvPs m.dl))) :: (wkc, aAp (some (.ref wk))) :: (w.x, aAu 150 w.dx) :: (w.dx, aAl (vvOf w c q m)) :: (w.dns, aAa (aAk m.dl)) :: (aAr m.dl ++ N)) s' ->
   wpAny (model W.prog W.w) A (execs (lB.drop 6) (envL L)) Q E s') :
  wpAny (model W.prog W.w) A (execs (lB.drop 5) (envL L)) Q E s := by
 have hcl := I.cl
 have hlv : (m.dl.map λ l => (l.a, aAd l.ps)).map (λ p => Value.ref p.1) = aAk m.dl := by simp [aAk]
 refine aAi rfl ?_
 refine aCS ?_ rfl
 refine Call_ ?_ (by kernel_rfl)
 refine Sta.builtin S' I.b_list aHI (by kernel_rfl) ?_
 refine PyProof.Rows.callWith_type1 ?_ (by kernel_rfl) (by kernel_rfl)
 walk_at "c"
 refine Sta.getM_inst (f := 75) S' hcl (by walk_at "mem") (by walk_at "mem") VV.keys (by decide +kernel) (by rw [I.k]; kernel_rfl) (by rw [I.k]; kernel_rfl) ?_
 walk_at "c"
 refine aJn (N := (w.x, aAu 150 w.dx) :: (w.dx, aAl (vvOf w c q m)) :: (wkc, aAp v0) :: N) (sh := (w.dns, aAa (aAk m.dl)) :: aAr m.dl)
  (lv := m.dl.map λ l => (l.a, aAd l.ps)) I (S'.perm (by walk_at "perm")) (hA.le (by decide)) (by rw [hlv]; exact .head _) ?_ ?_
 ·intro p hp
  obtain ⟨l, hl, rfl⟩ := List.mem_map.mp hp
  refine ⟨.tail _ (aDD hl), ?_⟩
  have h1 := aCm (ls := (nsOf m).decl) (List.mem_map.mpr ⟨l, hl, rfl⟩)
  have h3 : l.val.length = (aAd l.ps).length := by simp [Lv.val, aAd]
  have h4 : (lvPs m.dl).length = (flat (nsOf m).decl).length := by rw [← List.length_map (f := (·.2)), aCV]; rfl
  rw [sizeLine_eq]
  show (aAd l.ps).length <= _
  omega
 clear S'; intro ga g own gs s' S' hy
 rw [aFk] at hy
 walk_at "c"
 refine Sta.listGen (G := G) (hA.le (by decide)) g (by simp) hy (by rw [sizeLine_eq]; simp only [aAd, List.length_map]; omega) S' ?_
 clear S' hy; intro wk s' S'
 refine S'.storeC (nw' := (wk, aAa (aAd (lvPs m.dl))) :: (((w.x, aAu 150 w.dx) :: (w.dx, aAl (vvOf w c q m)) :: (wkc, aAp (some (.ref wk))) :: N) ++ ((w.dns, aAa (aAk m.dl)) :: aAr m.dl))) hwk (.tail (.tail (.tail .head))) ?_
 clear S'; intro s' S'
 walk_at "ke"
 exact k wk s' (S'.perm (by walk_at "perm"))
theorem lawR_ {L wkc wk : Addr} {ps : List (Addr × NsP)} {loc2 : Addr -> Loc} {Q : Flow -> Shared -> Prop} (I : IsC W) (hA : Aok 9 A) (h60 : ps.length <= 60) (hsm : ∀ r ∈ ps, aCE r.2) (hwk : CellOk (envL L) .cell "walk" wkc) (hput : ∀ b, Put "rows" (some (.ref b)) loc (loc2 b))
  (S' : Sta W G (envL L) loc ((wk, aAa (aAd ps)) :: (wkc, aAp (some (.ref wk))) :: (aAg ps ++ N)) s)
  (k : ∀ b s', Sta W G (envL L) (loc2 b) ((b, aAb (ps.map λ r => rowTxt r.2)) :: (wk, aAa (aAd ps)) :: (wkc, aAp (some (.ref wk))) :: (aAg ps ++ N)) s' ->
   wpAny (model W.prog W.w) A (execs (lB.drop 7) (envL L)) Q E s') :
  wpAny (model W.prog W.w) A (execs (lB.drop 6) (envL L)) Q E s := by
 have hl1 : ("=\"" : Str).length = 2 := by decide +kernel
 have hl2 : ("\"" : Str).length = 1 := by decide +kernel
 have hl3 : ("xmlns:" : Str).length = 6 := by decide +kernel
 have hl4 : ("xmlns" : Str).length = 5 := by decide +kernel
 refine aAi rfl ?_
 refine aA6 (cl := []) ["uri", "prefix"] (by kernel_rfl) (by kernel_rfl) (by kernel_rfl) rfl rfl ?_ (by intro _; kernel_rfl)
 refine Sta.cell S' hwk (by walk_at "mem") ?_
 refine S'.iterL (.head _) ?_
 clear S'; intro it s' S'
 refine ⟨G, _, _, S', ?_⟩
 intro b Cc s1 eok S1
 refine aAQ rfl rfl aBF (S1.get (.tail _ (.tail _ (.head _)))) ?_
 generalize hfr : ((envL L).locals, IsNs loc) = fr at S1
 have Y : LY W [(wk, aAa (aAd ps))] it (aAd ps) [(it, IsLI wk 0)] := aAU (own₀ := []) (by simp [aAd]) (aAd ps) 0 rfl
 have S2 := (S1.tell (c' := aAb []) .head λ o _ ho => ⟨_, .nil, ho⟩).perm (nw' := ((b, aAb []) :: fr :: (wkc, aAp (some (.ref wk))) :: (aAg ps ++ N)) ++ ([(wk, aAa (aAd ps))] ++ [(it, IsLI wk 0)])) (by walk_at "perm")
 clear S' S1
 refine aEe (sh := [(wk, aAa (aAd ps))]) (f := λ (r : Addr × NsP) => .ref r.1) (hA.le (by decide)) (G := G) (og := []) (own := [(it, IsLI wk 0)]) (λ (v : Option Value × Option Value) _ => [("uri", v.1), ("prefix", v.2)]) (λ _ dn => (b, aAb (dn.map λ r => rowTxt r.2)) :: fr :: (wkc, aAp (some (.ref wk))) :: (aAg ps ++ N)) (λ _ _ => True) (compTurn_list1 ..) (aAS Y.yields) (none, none) trivial (by rw [List.append_nil]; exact S2) ?_ ?_
 rotate_left
 ·refine pr3 ?_
  intro ra u p dn rest tl tg vk s1 K hq _ S' kk
  clear S2
  have hrm : (ra, u, p) ∈ ps := by rw [hq]; simp
  have hul : u.length <= 1000 := (hsm _ hrm).1
  have hpl : p.length <= 1000 := (hsm _ hrm).2
  have hmq : (ra, IsPr (u, p)) ∈ (aAg ps ++ N) ++ ((wk, aAa (aAd ps)) :: tl) := List.mem_append_left _ (List.mem_append_left _ (List.mem_map.mpr ⟨_, hrm, rfl⟩))
  have hdl : (dn.map λ r => rowTxt r.2).length <= 100 := by
   have := congrArg List.length hq
   simp only [List.length_map, List.length_append] at this ⊢
   omega
  have e1 : ((dn ++ [(ra, u, p)]).map λ r => rowTxt r.2) = (dn.map λ r => rowTxt r.2) ++ [rowTxt (u, p)] := by rw [List.map_append]; rfl
  walk_at "zd"
  simp only [List.cons_append, List.nil_append] at S'
  refine Sta.unpackPr S' hA.handled (by walk_at "mem") (by kernel_rfl) (by kernel_rfl) ?_
  clear S'; intro t1 t2 s' S'
  refine assignInOrder_cons ?_
  refine assign_Name ?_
  walk_at "c"
  refine assignInOrder_cons ?_
  refine assign_Name ?_
  walk_at "c"
  refine assignInOrder_nil ?_
  refine wpAny_bind ?_
  have hfin : ∀ tt s', Sta W (G ++ tg) (compEnvC { kind := .function, names := [(Str.ofString ".0", .local), (Str.ofString "uri", .local), (Str.ofString "prefix", .local)], isGenerator := false, isCoroutine := false } [] Cc (envL L)) [("uri", some (.str u t1)), ("prefix", some (.str p t2))] ((b, aAb (dn.map λ r => rowTxt r.2)) :: fr :: (wkc, aAp (some (.ref wk))) :: (aAg ps ++ N ++ (wk, aAa (aAd ps)) :: tl)) s' ->
    wpAny (model W.prog W.w) A (call (.builtin "list.append") [.ref b, .str (xnT p ++ "=\"" ++ u ++ "\"") tt]) (λ _ s₃ => K s₃) (λ _ _ => False) s' := by
   intro tt s' S'
   refine S'.appendT .head (by walk_at "osz") λ s' S' => ?_
   walk_at "zd"
   exact kk (some (.str u t1), some (.str p t2)) _ trivial (S'.perm (nw' := ((b, aAb ((dn ++ [(ra, u, p)]).map λ r => rowTxt r.2)) :: fr :: (wkc, aAp (some (.ref wk))) :: (aAg ps ++ N)) ++ ([(wk, aAa (aAd ps))] ++ tl)) (by rw [e1]; walk_at "perm"))
  walk_at "c"
  refine aBd S' (by omega) (λ h0 => ?_) (λ h0 => ?_)
  ·clear S'; intro s' S'
   rw [show xnT p = "xmlns" from if_pos h0] at hfin
   walk_at "c"
   exact wpAny_bind (wpAny_mono (hfin _ _ S') (λ _ _ h => wpAny_pure h) λ _ _ h => h)
  ·clear S'; intro s' S'
   rw [show xnT p = "xmlns:" ++ p from if_neg h0] at hfin
   walk_at "c"
   exact wpAny_bind (wpAny_mono (hfin _ _ S') (λ _ _ h => wpAny_pure h) λ _ _ h => h)
 ·intro vk s1 _ S1
  subst hfr
  exact ⟨.next, ([("uri", vk.1), ("prefix", vk.2)] : Loc), _, (b, aAb (ps.map λ r => rowTxt r.2)) :: (wk, aAa (aAd ps)) :: (wkc, aAp (some (.ref wk))) :: (aAg ps ++ N), G, rfl, S1.perm (by walk_at "perm"), hput b, λ s3 S3 => k b s3 S3⟩
end
end
section
noncomputable def isX (x : Str) : Bool := decide (Txt.slice x none (some 5) = "xmlns")
noncomputable def stated (t : List Str) : List Str := (t.drop 1).filter isX
noncomputable def tagFor : Stmt := lB.getD 7 (.Pass default)
noncomputable def tB : List Stmt := aER tagFor
section
variable {N : Ledger}
theorem TxtsAre.take {vs : List Value} {ss : List Str} (h : TxtsAre vs ss) : ∀ k, TxtsAre (vs.take k) (ss.take k) := by
 induction h with
 | nil => intro k; cases k <;> exact .nil
 | cons x t h ih => intro k; cases k with
  | zero => exact .nil
  | succ k => exact .cons x t (ih k)
theorem aE9 {l : Addr} {ss : List Str} {k : Int} {j : Nat} {t : Tok} {Q : Value -> Shared -> Prop} (S : Sta W G env loc nw s) (m : (l, aAb ss) ∈ nw) (hz : ss.length <= sizeLine) (hk : k = (j : Int)) (h : ∀ a s', Sta W G env loc ((a, aAb (ss.take j)) :: nw) s' -> Q (.ref a) s') :
  aEU W env Q (.ref l) .none (.int k t) s := by
 obtain ⟨vs, nw1, ht, U1, U2, S1⟩ := S.openT (aBk m)
 refine ⟨G, loc, nw1, l, vs, none, some k, S1, rfl, U2.mem, by rw [ht.length]; exact hz, .none, .int _ _, λ a s' S2 => ?_⟩
 rw [hk, aGc] at S2
 have S3 := S2.tell (.tail U2) λ o _ ho => ⟨_, ht, ho⟩
 exact h a s' (S3.tell .head λ o _ ho => ⟨_, ht.take j, ho⟩)
theorem lawS_ {L ta : Addr} {t : List Str} {loc2 : Addr -> Loc} {Q : Flow -> Shared -> Prop} (I : IsC W) (hA : Aok 9 A) (hz : t.length <= 100) (hl : ∀ x ∈ t, x.length <= 100000) (htag : (("tag" : Str), some (Value.ref ta)) ∈ loc) (hput : ∀ b, Put "stated" (some (.ref b)) loc (loc2 b))
  (S' : Sta W G (envL L) loc ((ta, aAb t) :: N) s)
  (k : ∀ b s', Sta W G (envL L) (loc2 b) ((b, aAb (stated t)) :: (ta, aAb t) :: N) s' ->
   wpAny (model W.prog W.w) A (execs (tB.drop 1) (envL L)) Q E s') :
  wpAny (model W.prog W.w) A (execs (tB.drop 0) (envL L)) Q E s := by
 refine aAi rfl ?_
 refine aA6 (cl := []) ["item"] (by kernel_rfl) (by kernel_rfl) (by kernel_rfl) rfl rfl ?_ (by intro _; kernel_rfl)
 refine aFK ?_ (by intro _ _; kernel_rfl)
 refine S'.local_ htag ?_
 walk_at "c"
 refine aBh (j := 1) S' (.head _) (by walk_at "osz") rfl ?_
 clear S'; intro sl s' S'
 refine Sta.iterT S' .head ?_
 clear S'; intro it vs s' hvs S'
 refine ⟨G, _, _, S', ?_⟩
 intro b Cc s1 eok S1
 refine aAQ rfl rfl aBF (S1.get (.tail _ (.tail _ (.head _)))) ?_
 generalize hfr : ((envL L).locals, IsNs loc) = fr at S1
 have S2 := (S1.tell (c' := aAb []) .head λ o _ ho => ⟨_, .nil, ho⟩).perm (nw' := ((b, aAb []) :: fr :: (ta, aAb t) :: N) ++ ([] ++ [(it, IsLI sl 0), (sl, aAa vs)])) (by walk_at "perm")
 clear S' S1
 refine aF3 (sh := []) (f := λ (x : Str) t => .str x t) (hA.le (by decide)) (G := G) (og := []) (own := [(it, IsLI sl 0), (sl, aAa vs)]) (λ (vk : Option Value) _ => [("item", vk)]) (λ _ dn => (b, aAb (dn.filter isX)) :: fr :: (ta, aAb t) :: N) (λ _ _ => True) (aBg hvs (LY.yields (aAU (sh := []) (xs := vs) (own₀ := [(sl, aAa vs)]) (.head _) vs 0 rfl))) none trivial (by rw [List.append_nil]; exact S2) ?_ ?_
 rotate_left
 ·intro x dn rest t1 tl tg vk s1 K hq _ S1 kk
  have hxl : x.length <= 100000 := hl x (List.mem_of_mem_drop (i := 1) (by rw [hq]; simp))
  have hdl : (dn.filter isX).length <= 100 := by
   have h1 := congrArg List.length hq
   have h2 := List.length_filter_le isX dn
   simp only [List.length_drop, List.length_append] at h1
   omega
  refine wpAny_assign_Name (S1.store (by walk_at "put") λ s' S' => ?_)
  clear S1 S2
  walk_at "zd"
  simp only [List.cons_append] at S'
  refine wpAny_isTrue_Compare1 ?_ (by kernel_rfl)
  refine aCt ?_ (by intro _ _; kernel_rfl)
  walk_at "c"
  refine ⟨_, _, _, _, _, _, _, S', rfl, by walk_at "osz", .none, .int _ _, ?_⟩
  clear S'; intro t4 s' S'
  walk_at "c"
  refine eq_s (λ e => ?_) (λ e => ?_)
  ·have ef : (dn ++ [x]).filter isX = dn.filter isX ++ [x] := by
    rw [List.filter_append, List.filter_cons_of_pos (by unfold isX; simpa using e)]; rfl
   walk_at "c"
   try (refine S'.appendT .head (by walk_at "osz") ?_; clear S'; intro s' S')
   walk_at "zd"
   exact kk _ _ trivial (S'.tell .head λ o _ ho => by rw [ef]; exact ho)
  ·have ef : (dn ++ [x]).filter isX = dn.filter isX := by
    rw [List.filter_append, List.filter_cons_of_neg (by unfold isX; simpa using e), List.filter_nil, List.append_nil]
   walk_at "c"
   walk_at "zd"
   exact kk _ _ trivial (S'.tell .head λ o _ ho => by rw [ef]; exact ho)
 ·intro vk s1 _ S1
  subst hfr
  exact ⟨.next, ([("item", vk)] : Loc), _, (b, aAb (stated t)) :: (ta, aAb t) :: N, G, rfl, S1.perm (by unfold stated; walk_at "perm"), hput b, λ s3 S3 => k b s3 S3⟩
theorem lawT_ {L td du st rw1 : Addr} {sv a b : List Str} {ta da : List RwA} {loc2 : Addr -> Loc} {Q : Flow -> Shared -> Prop} (I : IsC W) (hA : Aok 9 A) (hp : sv.Perm a) (h4 : a.length <= 4) (hb : b.length <= 100) (hta : ta.length <= 10000) (hda : da.length <= 10000) (htd : (("told" : Str), some (Value.ref td)) ∈ loc) (hdu : (("due" : Str), some (Value.ref du)) ∈ loc) (hst : (("stated" : Str), some (Value.ref st)) ∈ loc) (hrw : (("rows" : Str), some (Value.ref rw1)) ∈ loc) (hput : ∀ b, Put "rows" (some (.ref b)) loc (loc2 b))
  (S' : Sta W G (envL L) loc ((st, aAb sv) :: (rw1, aAb (a ++ b)) :: (td, aAa (aAh ta)) :: (du, aAa (aAh da)) :: (aAj ta ++ (aAj da ++ N))) s)
  (k : ∀ rw2 r1 r2 s', r1.r = .ts (srt ltS a) -> r2.r = .ts (srt ltS a) -> Sta W G (envL L) (loc2 rw2) ((rw2, aAb b) :: (td, aAa (aAh (ta ++ [r1]))) :: (du, aAa (aAh (da ++ [r2]))) :: (aAj (ta ++ [r1]) ++ (aAj (da ++ [r2]) ++ N))) s' -> Q .next s') :
  wpAny (model W.prog W.w) A (execs (tB.drop 1) (envL L)) Q E s := by
 have hsl : sv.length = a.length := hp.length_eq
 have hss : srt ltS sv = srt ltS a := aCZ tot_str hp
 have h1 : (a ++ b).length <= sizeLine := by rw [List.length_append, sizeLine_eq]; omega
 have h2 : sv.length <= sizeLine := by walk_at "osz"
 have htk : (a ++ b).take sv.length = a := by rw [hsl]; simp
 have hdp : (a ++ b).drop sv.length = b := by rw [hsl]; simp
 refine aAi rfl ?_
 refine wpAny_Expr_any ?_ (by kernel_rfl) (by kernel_rfl)
 refine aBD ?_ (by kernel_rfl) (by kernel_rfl) (by kernel_rfl)
 refine S'.local_ htd ?_
 refine Sta.getM_list S' (by walk_at "mem") F.slot_list_append F.type_list_append ?_
 walk_at "c"
 refine Sta.builtin S' I.b_sorted aBC (by kernel_rfl) ?_
 walk_at "c"
 refine aFK ?_ (by intro _ _; kernel_rfl)
 walk_at "c"
 refine Sta.builtin S' I.b_len aDQ (by kernel_rfl) ?_
 walk_at "c"
 refine Sta.lenT S' (by walk_at "mem") h2 ?_
 clear S'; intro t1 s' S'
 walk_at "c"
 refine aE9 (j := sv.length) S' (by walk_at "mem") h1 rfl ?_
 clear S'; intro sl s' S'
 walk_at "zd"
 rw [htk] at S'
 walk_at "c"
 refine Sta.sortedTs h4 S' (.head _) ?_
 clear S'; intro b1 s' S'
 walk_at "c"
 refine Sta.pushRw (r := ⟨b1, 0, .ts (srt ltS a)⟩) hta (S'.sel (nw' := (td, aAa (aAh ta)) :: (aAj ta ++ ((b1, aAb (srt ltS a)) :: ((du, aAa (aAh da)) :: (st, aAb sv) :: (rw1, aAb (a ++ b)) :: (aAj da ++ N))))) (Sel.rest [(sl, aAb a)] (by walk_at "perm"))) ?_
 generalize hr1 : (⟨b1, 0, .ts (srt ltS a)⟩ : RwA) = r1
 clear S'; intro s' S'
 refine aAi rfl ?_
 refine wpAny_Expr_any ?_ (by kernel_rfl) (by kernel_rfl)
 refine aBD ?_ (by kernel_rfl) (by kernel_rfl) (by kernel_rfl)
 replace S' := S'.perm (nw' := (st, aAb sv) :: (rw1, aAb (a ++ b)) :: (du, aAa (aAh da)) :: (aAj da ++ ((td, aAa (aAh (ta ++ [r1]))) :: (aAj (ta ++ [r1]) ++ N)))) (by walk_at "perm")
 refine S'.local_ hdu ?_
 refine Sta.getM_list S' (by walk_at "mem") F.slot_list_append F.type_list_append ?_
 walk_at "c"
 refine Sta.builtin S' I.b_sorted aBC (by kernel_rfl) ?_
 walk_at "c"
 refine Sta.sortedTs (by omega) S' (.head _) ?_
 clear S'; intro b2 s' S'
 walk_at "zd"
 rw [hss] at S'
 walk_at "c"
 refine Sta.pushRw (r := ⟨b2, 0, .ts (srt ltS a)⟩) hda (S'.perm (nw' := (du, aAa (aAh da)) :: (aAj da ++ ((b2, aAb (srt ltS a)) :: ((st, aAb sv) :: (rw1, aAb (a ++ b)) :: (td, aAa (aAh (ta ++ [r1]))) :: (aAj (ta ++ [r1]) ++ N))))) (by walk_at "perm")) ?_
 generalize hr2 : (⟨b2, 0, .ts (srt ltS a)⟩ : RwA) = r2
 clear S'; intro s' S'
 replace S' := S'.perm (nw' := (rw1, aAb (a ++ b)) :: (st, aAb sv) :: (td, aAa (aAh (ta ++ [r1]))) :: (du, aAa (aAh (da ++ [r2]))) :: (aAj (ta ++ [r1]) ++ (aAj (da ++ [r2]) ++ N))) (by walk_at "perm")
 refine aAi rfl ?_
 refine aCS ?_ rfl
 refine aFK ?_ (by intro _ _; kernel_rfl)
 walk_at "c"
 refine Sta.builtin S' I.b_len aDQ (by kernel_rfl) ?_
 walk_at "c"
 refine Sta.lenT S' (by walk_at "mem") h2 ?_
 clear S'; intro t2 s' S'
 walk_at "c"
 refine aBh (j := sv.length) S' (by walk_at "mem") h1 rfl ?_
 clear S'; intro sl2 s' S'
 walk_at "zd"
 rw [hdp] at S'
 refine S'.store (hput sl2) ?_
 clear S'; intro s' S'
 walk_at "c"
 walk_at "ke"
 exact k sl2 r1 r2 s' (by rw [← hr1]) (by rw [← hr2]) (S'.sub (((List.sublist_cons_self _ _).trans (List.sublist_cons_self _ _)).cons_cons _))
end
end
section
inductive RowsOk : List (List Str) -> List Str -> List Str -> Prop
 | nil {f : List Str} : RowsOk [] f f
 | cons {t : List Str} {ts : List (List Str)} {a b f : List Str} : (stated t).Perm a -> a.length <= 4 -> t.length <= 100 -> (∀ x ∈ t, x.length <= 100000) -> b.length <= 100 -> RowsOk ts b f -> RowsOk (t :: ts) (a ++ b) f
structure LocF (F : Option Value -> Option Value -> Option Value -> Loc) (td du tg : Addr) : Prop where
 p1 : ∀ a b c v, Put "tag" v (F a b c) (F v b c)
 p2 : ∀ a b c v, Put "stated" v (F a b c) (F a v c)
 p3 : ∀ a b c v, Put "rows" v (F a b c) (F a b v)
 m1 : ∀ a b c, (("tag" : Str), a) ∈ F a b c
 m2 : ∀ a b c, (("stated" : Str), b) ∈ F a b c
 m3 : ∀ a b c, (("rows" : Str), c) ∈ F a b c
 m4 : ∀ a b c, (("told" : Str), some (Value.ref td)) ∈ F a b c
 m5 : ∀ a b c, (("due" : Str), some (Value.ref du)) ∈ F a b c
 m6 : ∀ a b c, (("tags" : Str), some (Value.ref tg)) ∈ F a b c
theorem aEn {W : Wd} {sh : Ledger} {it : Addr} : ∀ {xs : List (Addr × List Str)} {own : Ledger} {og : Gens}, aAW W sh it (aAq xs) own og -> YieldsR W sh it (λ (q : Addr × List Str) v => v = .ref q.1) xs own og
 | [], _, _, H => H
 | q :: r, _, _, H => ⟨H.1, λ A R GR s Q E hA S hQ => H.2 A R GR s Q E hA S λ own' og' s' S' H' => hQ _ own' og' s' rfl S' (aEn (xs := r) H')⟩
theorem aFx : bootBuiltins "reversed" = some (.type "reversed") := by kernel_rfl
section
variable {N : Ledger}
structure TgS where
 va : Option Value
 vb : Option Value
 rw : Addr
 rs : List Str
 ta : List RwA
 da : List RwA
 X : List Rw
theorem RowsOk.inv {t : List Str} {ts : List (List Str)} {rs f : List Str} (h : RowsOk (t :: ts) rs f) : ∃ a b, rs = a ++ b /\ (stated t).Perm a /\ a.length <= 4 /\ t.length <= 100 /\ (∀ x ∈ t, x.length <= 100000) /\ b.length <= 100 /\ RowsOk ts b f := by
 cases h with
 | cons q1 q2 q3 q4 q5 q6 => exact ⟨_, _, rfl, q1, q2, q3, q4, q5, q6⟩
theorem RowsOk.fin {rs f : List Str} (h : RowsOk [] rs f) : rs = f := by
 cases h
 rfl
theorem lawG_ {L td du tg rw1 : Addr} {rs f : List Str} {ts : List (Addr × List Str)} {ta da : List RwA} {F : Option Value -> Option Value -> Option Value -> Loc} {va vb : Option Value} {Q : Flow -> Shared -> Prop} (I : IsC W) (hA : Aok 10 A) (hF : LocF F td du tg) (hok : RowsOk (ts.reverse.map (·.2)) rs f) (hz : ts.length <= 100) (hta : ta.length <= 9000) (hda : da.length <= 9000)
  (S' : Sta W G (envL L) (F va vb (some (.ref rw1))) ((tg, aAa (aAq ts)) :: (rw1, aAb rs) :: (td, aAa (aAh ta)) :: (du, aAa (aAh da)) :: (aAj ta ++ (aAj da ++ (aAx ts ++ N)))) s)
  (k : ∀ va vb rw ta' da' X s', X.length = ts.length -> ta'.map (·.r) = ta.map (·.r) ++ X -> da'.map (·.r) = da.map (·.r) ++ X -> Sta W G (envL L) (F va vb (some (.ref rw))) ((tg, aAa (aAq ts)) :: (rw, aAb f) :: (td, aAa (aAh ta')) :: (du, aAa (aAh da')) :: (aAj ta' ++ (aAj da' ++ (aAx ts ++ N)))) s' ->
   wpAny (model W.prog W.w) A (execs (lB.drop 8) (envL L)) Q E s') (st : List Stmt) (hst : st = lB.drop 7) :
  wpAny (model W.prog W.w) A (execs st (envL L)) Q E s := by
 subst hst
 refine aAi rfl ?_
 refine wpAny_For ?_ (by intro _; kernel_rfl)
 refine Call_ ?_ (by kernel_rfl)
 refine Sta.builtin S' I.b_reversed aFx (by kernel_rfl) ?_
 have m6 := hF.m6 va vb (some (.ref rw1))
 walk_at "c"
 refine Sta.reversed S' (.head _) ?_
 clear S'; intro it s' S'
 refine Sta.iterRev S' (.head _) ?_
 have hy : LY W [(tg, aAa (aAq ts))] it (aAq ts.reverse) [(it, IsRI tg ((ts.length : Int) - 1))] := by
  have h := aHc (W := W) (it := it) (sh := [(tg, aAa (aAq ts))]) (l := tg) (xs := aAq ts) (.head _) ts.length (by simp [aAq])
  have e : ((aAq ts).take ts.length).reverse = aAq ts.reverse := by
   rw [List.take_of_length_le (by simp [aAq])]
   simp [aAq]
  rwa [e] at h
 have el : ((aAq ts).length : Int) = (ts.length : Int) := by simp [aAq]
 walk_at "zd"
 rw [el] at S'
 have S2 := S'.perm (nw' := ((rw1, aAb rs) :: (td, aAa (aAh ta)) :: (du, aAa (aAh da)) :: (aAj ta ++ (aAj da ++ (aAx ts ++ N)))) ++ ([(tg, aAa (aAq ts))] ++ [(it, IsRI tg ((ts.length : Int) - 1))])) (by walk_at "perm")
 clear S'
 refine aEO (sh := [(tg, aAa (aAq ts))]) (f := λ (q : Addr × List Str) => .ref q.1) (hA.le (by decide)) (G := G) (og := []) (own := [(it, IsRI tg ((ts.length : Int) - 1))]) (λ (v : TgS) _ => F v.va v.vb (some (.ref v.rw))) (λ v _ => (v.rw, aAb v.rs) :: (td, aAa (aAh v.ta)) :: (du, aAa (aAh v.da)) :: (aAj v.ta ++ (aAj v.da ++ (aAx ts ++ N)))) (λ v dn => (∀ rest, ts.reverse = dn ++ rest -> RowsOk (rest.map (·.2)) v.rs f) /\ v.X.length = dn.length /\ v.ta.map (·.r) = ta.map (·.r) ++ v.X /\ v.da.map (·.r) = da.map (·.r) ++ v.X) (aEn hy.yields) ⟨va, vb, rw1, rs, ta, da, []⟩ ⟨λ rest e => by rw [← show ts.reverse = rest from e]; exact hok, rfl, (List.append_nil _).symm, (List.append_nil _).symm⟩ (by rw [List.append_nil]; exact S2) ?_ ?_
 rotate_left
 ·refine pr2 ?_
  intro xa t dn rest tl tg' v s1 K hts hH S1 kk _ _
  obtain ⟨hok, hX, h1, h2⟩ := hH
  obtain ⟨a, b, hrs, q1, q2, q3, q4, q5, q6⟩ := (hok _ hts).inv
  have hxm : (xa, t) ∈ ts := List.mem_reverse.mp (by rw [hts]; simp)
  obtain ⟨u1, u2, hu⟩ := List.append_of_mem hxm
  have hdn : dn.length <= 100 := by
   have := congrArg List.length hts
   simp only [List.length_reverse, List.length_append] at this
   omega
  have e1 : v.ta.length <= 10000 := by have := congrArg List.length h1; simp only [List.length_map, List.length_append] at this; omega
  have e2 : v.da.length <= 10000 := by have := congrArg List.length h2; simp only [List.length_map, List.length_append] at this; omega
  refine wpAny_assign_Name (S1.store (hF.p1 ..) λ s' S' => ?_)
  clear S1 S2
  have hperm : (aAx ts).Perm ((xa, aAb t) :: (aAx u1 ++ aAx u2)) := by
   rw [hu, aBm]
   exact List.perm_middle
  generalize aAx u1 ++ aAx u2 = U at hperm
  refine aAs ?_
  refine lawS_ (ta := xa) (N := (v.rw, aAb (a ++ b)) :: (td, aAa (aAh v.ta)) :: (du, aAa (aAh v.da)) :: (aAj v.ta ++ (aAj v.da ++ (U ++ (N ++ ([(tg, aAa (aAq ts))] ++ tl)))))) I (hA.le (by decide)) q3 q4 (hF.m1 _ _ _) (λ b => hF.p2 _ _ _ _) (S'.perm ?_) ?_
  ·rw [hrs]
   refine ((((((hperm.append_right N).append_left (aAj v.da)).append_left (aAj v.ta)).cons _).cons _).cons _).append_right _ |>.trans ?_
   walk_at "perm"
  clear S'; intro st s' S'
  refine lawT_ (a := a) (b := b) (N := (xa, aAb t) :: (U ++ (N ++ ([(tg, aAa (aAq ts))] ++ tl)))) I (hA.le (by decide)) q1 q2 q5 e1 e2 (hF.m4 _ _ _) (hF.m5 _ _ _) (hF.m2 _ _ _) (hF.m3 _ _ _) (λ b => hF.p3 _ _ _ _) (S'.perm (by walk_at "perm")) ?_
  clear S'; intro rw2 r1 r2 s' hr1 hr2 S'
  refine (kk ⟨_, _, rw2, b, v.ta ++ [r1], v.da ++ [r2], v.X ++ [.ts (srt ltS a)]⟩ _ ⟨λ rest' e => ?_, by rw [List.length_append, List.length_append, hX]; rfl, ?_, ?_⟩ (S'.perm (nw' := ((rw2, aAb b) :: (td, aAa (aAh (v.ta ++ [r1]))) :: (du, aAa (aAh (v.da ++ [r2]))) :: (aAj (v.ta ++ [r1]) ++ (aAj (v.da ++ [r2]) ++ (aAx ts ++ N)))) ++ ([(tg, aAa (aAq ts))] ++ tl)) ?_)).1
  ·have e2 : rest = rest' := by
    have h := hts.symm.trans e
    rw [List.append_assoc] at h
    exact (List.cons.inj (List.append_cancel_left h)).2
   exact e2 ▸ q6
  ·rw [List.map_append, h1, List.map_cons, hr1, List.append_assoc]; rfl
  ·rw [List.map_append, h2, List.map_cons, hr2, List.append_assoc]; rfl
  ·refine List.Perm.trans ?_ (((((((hperm.symm.append_right N).append_left (aAj (v.da ++ [r2]))).append_left (aAj (v.ta ++ [r1]))).cons _).cons _).cons _).append_right _)
   walk_at "perm"
 ·intro v s1 hH S1
  obtain ⟨hok, hX, h1, h2⟩ := hH
  have hf := (hok [] (List.append_nil _).symm).fin
  walk_at "ke"
  refine k v.va v.vb v.rw v.ta v.da v.X _ ?_ h1 h2 (S1.perm (by rw [hf]; walk_at "perm"))
  rw [hX, List.length_reverse]
end
end
section
noncomputable abbrev xmlRow : Str := "xmlns:xml=\"http://www.w3.org/XML/1998/namespace\""
noncomputable def keyOf (x : Str) : Str := (Txt.split x "=").getD 0 ""
noncomputable def aBA (t : List Str) : List Str := ((t.drop 1).filter λ x => !isX x).map keyOf
section
variable {N : Ledger}
theorem lawP_ {L td du rw : Addr} {f : List Str} {ta da : List RwA} {Q : Flow -> Shared -> Prop} (I : IsC W) (hA : Aok 9 A) (hta : ta.length <= 10000) (hda : da.length <= 10000) (htd : (("told" : Str), some (Value.ref td)) ∈ loc) (hdu : (("due" : Str), some (Value.ref du)) ∈ loc) (hrw : (("rows" : Str), some (Value.ref rw)) ∈ loc)
  (S' : Sta W G (envL L) loc ((rw, aAb f) :: (td, aAa (aAh ta)) :: (du, aAa (aAh da)) :: (aAj ta ++ (aAj da ++ N))) s)
  (k : ∀ r1 r2 s', r1.r = .ts f -> r2.r = .ts [xmlRow] -> Sta W G (envL L) loc ((td, aAa (aAh (ta ++ [r1]))) :: (du, aAa (aAh (da ++ [r2]))) :: (aAj (ta ++ [r1]) ++ (aAj (da ++ [r2]) ++ N))) s' ->
   wpAny (model W.prog W.w) A (execs (lB.drop 10) (envL L)) Q E s') :
  wpAny (model W.prog W.w) A (execs (lB.drop 8) (envL L)) Q E s := by
 refine aAi rfl ?_
 refine wpAny_Expr_any ?_ (by kernel_rfl) (by kernel_rfl)
 refine aBD ?_ (by kernel_rfl) (by kernel_rfl) (by kernel_rfl)
 refine S'.local_ htd ?_
 refine Sta.getM_list S' (by walk_at "mem") F.slot_list_append F.type_list_append ?_
 walk_at "c"
 refine Sta.pushRw (r := ⟨rw, 0, .ts f⟩) hta (S'.perm (nw' := (td, aAa (aAh ta)) :: (aAj ta ++ ((rw, aAb f) :: ((du, aAa (aAh da)) :: (aAj da ++ N))))) (by walk_at "perm")) ?_
 generalize hr1 : (⟨rw, 0, .ts f⟩ : RwA) = r1
 clear S'; intro s' S'
 refine aAi rfl ?_
 refine wpAny_Expr_any ?_ (by kernel_rfl) (by kernel_rfl)
 refine aBD ?_ (by kernel_rfl) (by kernel_rfl) (by kernel_rfl)
 replace S' := S'.perm (nw' := (du, aAa (aAh da)) :: (aAj da ++ ((td, aAa (aAh (ta ++ [r1]))) :: (aAj (ta ++ [r1]) ++ N)))) (by walk_at "perm")
 refine S'.local_ hdu ?_
 refine Sta.getM_list S' (by walk_at "mem") F.slot_list_append F.type_list_append ?_
 refine aA1 ?_ (by kernel_rfl) (by kernel_rfl)
 repeat ((fail_if_success (with_reducible show wpAny _ _ (call _ _) _ _ _)); walk_at "cw")
 revert a'; intro b2 S'
 replace S' := S'.tell (c' := aAb [xmlRow]) .head λ o _ ho => ⟨_, .cons _ _ .nil, ho⟩
 refine Sta.pushRw (r := ⟨b2, 0, .ts [xmlRow]⟩) hda (S'.perm (nw' := (du, aAa (aAh da)) :: (aAj da ++ ((b2, aAb [xmlRow]) :: ((td, aAa (aAh (ta ++ [r1]))) :: (aAj (ta ++ [r1]) ++ N))))) (by walk_at "perm")) ?_
 generalize hr2 : (⟨b2, 0, .ts [xmlRow]⟩ : RwA) = r2
 clear S'; intro s' S'
 walk_at "ke"
 exact k r1 r2 s' (by rw [← hr1]) (by rw [← hr2]) (S'.perm (by walk_at "perm"))
theorem lawK_ {L tg ta : Addr} {t : List Str} {ts : List (Addr × List Str)} {loc2 : Addr -> Loc} {Q : Flow -> Shared -> Prop} (I : IsC W) (hA : Aok 9 A) (hz : t.length <= 100) (hl : ∀ x ∈ t, x.length <= 100000) (htag : (("tags" : Str), some (Value.ref tg)) ∈ loc) (hput : ∀ b, Put "keys" (some (.ref b)) loc (loc2 b))
  (S' : Sta W G (envL L) loc ((tg, aAa (aAq (ts ++ [(ta, t)]))) :: (ta, aAb t) :: N) s)
  (k : ∀ b s', Sta W G (envL L) (loc2 b) ((b, aAb (aBA t)) :: (tg, aAa (aAq (ts ++ [(ta, t)]))) :: (ta, aAb t) :: N) s' -> Q .next s')
  (st : Stmt) (hst : st = (aHl (lB.getD 10 (.Pass default))).getD 0 (.Pass default)) :
  wpAny (model W.prog W.w) A (exec st (envL L)) Q E s := by
 subst hst
 refine aA6 (cl := []) ["item"] (by kernel_rfl) (by kernel_rfl) (by kernel_rfl) rfl rfl ?_ (by intro _; kernel_rfl)
 refine aGS ?_
 refine aAf ?_ (by intro _ _; kernel_rfl)
 refine S'.local_ htag ?_
 walk_at "c"
 refine Sta.sub_last S' (by walk_at "mem") (v := .ref ta) (by rw [aBl]; exact List.getLast?_concat ..) ?_
 walk_at "c"
 refine aBh (j := 1) S' (by walk_at "mem") (by walk_at "osz") rfl ?_
 clear S'; intro sl s' S'
 refine Sta.iterT S' .head ?_
 clear S'; intro it vs s' hvs S'
 refine ⟨G, _, _, S', ?_⟩
 intro b Cc s1 eok S1
 refine aAQ rfl rfl aBF (S1.get (.tail _ (.tail _ (.head _)))) ?_
 generalize hM : (tg, aAa (aAq (ts ++ [(ta, t)]))) :: (ta, aAb t) :: N = M at S1 k
 generalize hfr : ((envL L).locals, IsNs loc) = fr at S1
 have S2 := (S1.tell (c' := aAb []) .head λ o _ ho => ⟨_, .nil, ho⟩).perm (nw' := ((b, aAb []) :: fr :: M) ++ ([] ++ [(it, IsLI sl 0), (sl, aAa vs)])) (by walk_at "perm")
 clear S' S1
 refine aF3 (sh := []) (f := λ (x : Str) t => .str x t) (hA.le (by decide)) (G := G) (og := []) (own := [(it, IsLI sl 0), (sl, aAa vs)]) (λ (vk : Option Value) _ => [("item", vk)]) (λ _ dn => (b, aAb ((dn.filter λ x => !isX x).map keyOf)) :: fr :: M) (λ _ _ => True) (aBg hvs (LY.yields (aAU (sh := []) (xs := vs) (own₀ := [(sl, aAa vs)]) (.head _) vs 0 rfl))) none trivial (by rw [List.append_nil]; exact S2) ?_ ?_
 rotate_left
 ·intro x dn rest t1 tl tg vk s1 K hq _ S1 kk
  have hxl : x.length <= 100000 := hl x (List.mem_of_mem_drop (i := 1) (by rw [hq]; simp))
  have hdl : ((dn.filter λ x => !isX x).map keyOf).length <= 100 := by
   have h1 := congrArg List.length hq
   have h2 := List.length_filter_le (λ x => !isX x) dn
   simp only [List.length_drop, List.length_append] at h1
   rw [List.length_map]
   omega
  refine wpAny_assign_Name (S1.store (by walk_at "put") λ s' S' => ?_)
  clear S1 S2
  walk_at "zd"
  simp only [List.cons_append] at S'
  refine wpAny_isTrue_Compare1 ?_ (by kernel_rfl)
  refine aCt ?_ (by intro _ _; kernel_rfl)
  walk_at "c"
  refine ⟨_, _, _, _, _, _, _, S', rfl, by walk_at "osz", .none, .int _ _, ?_⟩
  clear S'; intro t4 s' S'
  walk_at "c"
  refine ne_t (λ e => ?_) (λ e => ?_)
  ·have ef : ((dn ++ [x]).filter λ x => !isX x).map keyOf = (dn.filter λ x => !isX x).map keyOf ++ [keyOf x] := by
    rw [List.filter_append, List.filter_cons_of_pos (by unfold isX; simpa using e), List.map_append]; rfl
   obtain ⟨y, r, hsp⟩ : ∃ y r, Txt.split x "=" = y :: r := by
    cases h : Txt.split x "=" with
    | nil => exact absurd h (aFG _ _)
    | cons y r => exact ⟨y, r, rfl⟩
   have hky : keyOf x = y := by unfold keyOf; rw [hsp]; rfl
   walk_at "c"
   refine aAf ?_ (by intro _ _; kernel_rfl)
   walk_at "c"
   refine aBj ?_
   walk_at "c"
   refine Sta.split1 S' (by decide +kernel) (by omega) ?_
   rw [hsp]
   clear S'; intro b2 s' S'
   walk_at "c"
   refine Sta.subT S' (.head _) (j := 0) rfl (by omega) rfl λ t5 => ?_
   replace S' := S'.sub (List.sublist_cons_self _ _)
   try (refine S'.appendT .head (by walk_at "osz") ?_; clear S'; intro s' S')
   walk_at "zd"
   exact kk _ _ trivial (S'.tell .head λ o _ ho => by rw [ef, hky]; exact ho)
  ·have ef : ((dn ++ [x]).filter λ x => !isX x).map keyOf = (dn.filter λ x => !isX x).map keyOf := by
    rw [List.filter_append, List.filter_cons_of_neg (by unfold isX; simpa using e), List.filter_nil, List.append_nil]
   walk_at "c"
   walk_at "zd"
   exact kk _ _ trivial (S'.tell .head λ o _ ho => by rw [ef]; exact ho)
 ·intro vk s1 _ S1
  subst hfr
  exact ⟨.next, ([("item", vk)] : Loc), _, (b, aAb (aBA t)) :: M, G, rfl, S1.perm (by unfold aBA; walk_at "perm"), hput b, λ s3 S3 => k b s3 S3⟩
end
end
section
noncomputable def keyT (w : List NsP) (x : Str) : Str := if 58 ∈ x.cps.toList then "{" ++ mnU ((Txt.split x ":").getD 0 "") w ++ "}" ++ (Txt.split x ":").getD 1 "" else x
noncomputable def tagT (w : List NsP) (x : Str) : Str := if 58 ∈ x.cps.toList then "{" ++ mnU ((Txt.split x ":").getD 0 "") w ++ "}" ++ (Txt.split x ":").getD 1 "" else "{" ++ mnU "" w ++ "}" ++ x
noncomputable def NmS (x : Str) : Prop := x.length <= 1000 /\ (58 ∈ x.cps.toList -> ∃ p l, Txt.split x ":" = [p, l] /\ p.length <= 1000 /\ l.length <= 1000)
theorem NmS.cut {x : Str} (h : NmS x) : ∃ p l, p.length <= 1000 /\ l.length <= 1000 /\ ((58 ∈ x.cps.toList /\ Txt.split x ":" = [p, l]) \/ (58 ∉ x.cps.toList /\ p = "" /\ l = x)) /\ ∀ w, tagT w x = "{" ++ mnU p w ++ "}" ++ l := by
 by_cases hc : 58 ∈ x.cps.toList
 ·obtain ⟨p, l, hs, h1, h2⟩ := h.2 hc
  refine ⟨p, l, h1, h2, .inl ⟨hc, hs⟩, λ w => ?_⟩
  unfold tagT
  rw [if_pos hc, hs]; rfl
 ·refine ⟨"", x, by decide +kernel, h.1, .inr ⟨hc, rfl, rfl⟩, λ w => ?_⟩
  unfold tagT
  rw [if_neg hc]
noncomputable abbrev exOf (st : Stmt) : Expr := stE st
noncomputable abbrev arg0 (e : Expr) : Expr := (aCL e).2.1.getD 0 (.Name "" default)
noncomputable abbrev eltOf (i : Nat) (e : Expr) : Expr := (aCL e).2.1.getD i (.Name "" default)
noncomputable def stB : List Stmt := aHl (lB.getD 10 (.Pass default))
noncomputable def meansX : Expr := arg0 (eltOf 1 (arg0 (exOf (stB.getD 1 (.Pass default)))))
section
variable {N : Ledger}
theorem lawM_ {L ka wkc wk : Addr} {ks : List Str} {ps : List (Addr × NsP)} {Q : Value -> Shared -> Prop} (I : IsC W) (hA : Aok 14 A) (h4 : ks.length <= 10) (hk : ∀ x ∈ ks, NmS x) (hp : ps.length <= 60) (hul : ∀ q ∈ ps, q.2.1.length <= 1000) (hkeys : (("keys" : Str), some (Value.ref ka)) ∈ loc) (hwk : CellOk (envL L) .cell "walk" wkc)
  (S' : Sta W G (envL L) loc ((ka, aAb ks) :: (wk, aAa (aAd ps)) :: (wkc, aAp (some (.ref wk))) :: (aAg ps ++ N)) s)
  (k : ∀ b s', Sta W G (envL L) loc ((b, aAb (ks.map (keyT (ps.map (·.2))))) :: (wk, aAa (aAd ps)) :: (wkc, aAp (some (.ref wk))) :: (aAg ps ++ N)) s' -> Q (.ref b) s')
  (e : Expr) (he : e = meansX) : wpAny (model W.prog W.w) A (eval e (envL L)) Q E s := by
 subst he
 refine aD5 (cl := [("walk", wkc)]) ["key"] (aB5 (by kernel_rfl) hwk) (by kernel_rfl) rfl rfl ?_ (by intro _; kernel_rfl)
 refine S'.local_ hkeys ?_
 refine Sta.iterT S' .head ?_
 clear S'; intro it vs s' hvs S'
 refine ⟨G, _, _, S', ?_⟩
 intro b Cc s1 eok S1
 refine aAQ rfl rfl aBF (S1.get (.tail _ (.tail _ (.head _)))) ?_
 generalize hfr : ((envL L).locals, IsNs loc) = fr at S1
 have S2 := (S1.tell (c' := aAb []) .head λ o _ ho => ⟨_, .nil, ho⟩).perm (nw' := ((b, aAb []) :: fr :: (wk, aAa (aAd ps)) :: (wkc, aAp (some (.ref wk))) :: (aAg ps ++ N)) ++ ([] ++ [(it, IsLI ka 0), (ka, aAa vs)])) (by walk_at "perm")
 clear S' S1
 refine aJC (sh := []) (f := λ (x : Str) t => .str x t) (hA.le (by decide)) (G := G) (og := []) (own := [(it, IsLI ka 0), (ka, aAa vs)]) (λ (vk : Option Value) _ => [("key", vk)]) (λ _ dn => (b, aAb (dn.map (keyT (ps.map (·.2))))) :: fr :: (wk, aAa (aAd ps)) :: (wkc, aAp (some (.ref wk))) :: (aAg ps ++ N)) (λ _ _ => True) (compTurn_list1 ..) (aBg hvs (LY.yields (aAU (sh := []) (xs := vs) (own₀ := [(ka, aAa vs)]) (.head _) vs 0 rfl))) none trivial (by rw [List.append_nil]; exact S2) ?_ ?_
 rotate_left
 ·intro x dn rest t1 tl tg vk s1 K hq _ S1 kk
  obtain ⟨hx1, hx2⟩ := hk x (by rw [hq]; simp)
  have hdl : (dn.map (keyT (ps.map (·.2)))).length <= 100 := by
   have h1 := congrArg List.length hq
   simp only [List.length_append] at h1
   rw [List.length_map]
   omega
  refine wpAny_assign_Name (S1.store (by walk_at "put") λ s' S' => ?_)
  clear S1 S2
  walk_at "zd"
  simp only [List.cons_append] at S'
  refine wpAny_bind ?_
  walk_at "c"
  refine Sta.inStr rfl (λ h => ?_) (λ h => ?_)
  ·obtain ⟨p, l, hs, hpl, hll⟩ := hx2 h
   have ek : keyT (ps.map (·.2)) x = "{" ++ mnU p (ps.map (·.2)) ++ "}" ++ l := by
    unfold keyT
    rw [if_pos (show 58 ∈ x.cps.toList from h), hs]; rfl
   have ef : (dn ++ [x]).map (keyT (ps.map (·.2))) = dn.map (keyT (ps.map (·.2))) ++ ["{" ++ mnU p (ps.map (·.2)) ++ "}" ++ l] := by
    rw [List.map_append, ← ek]; rfl
   walk_at "c"
   refine Sta.global S' I.g_l_means (by kernel_rfl) ?_
   refine aBJ (by rw [I.k]; kernel_rfl) ?_ (by kernel_rfl) (by kernel_rfl)
   refine args_cons ?_ (by kernel_rfl)
   refine Sta.cell S' ⟨by kernel_rfl, rfl, by decide +kernel, by decide +kernel⟩ (c := wkc) (by walk_at "mem") ?_
   walk_at "c"
   refine aIt (ps := ps) (N := (b, aAb (dn.map (keyT (ps.map (·.2))))) :: fr :: (wkc, aAp (some (.ref wk))) :: (N ++ ([] ++ tl))) I (hA.le (by decide)) hp hx1 hpl hll hul (.inl ⟨h, hs⟩) (S'.perm (by walk_at "perm")) ?_
   clear S'; intro t2 s' S'
   refine wpAny_bind ((S'.perm (nw' := (b, aAb (dn.map (keyT (ps.map (·.2))))) :: fr :: (wk, aAa (aAd ps)) :: (wkc, aAp (some (.ref wk))) :: (aAg ps ++ N ++ ([] ++ tl))) (by walk_at "perm")).appendT .head (by walk_at "osz") λ s' S' => wpAny_pure ?_)
   walk_at "zd"
   exact kk _ _ trivial (S'.tell .head λ o _ ho => by rw [ef]; exact ho)
  ·have ek : keyT (ps.map (·.2)) x = x := if_neg h
   have ef : (dn ++ [x]).map (keyT (ps.map (·.2))) = dn.map (keyT (ps.map (·.2))) ++ [x] := by
    rw [List.map_append]
    show _ ++ [keyT (ps.map (·.2)) x] = _
    rw [ek]
   walk_at "c"
   refine wpAny_bind (S'.appendT .head (by walk_at "osz") λ s' S' => wpAny_pure ?_)
   walk_at "zd"
   exact kk _ _ trivial (S'.tell .head λ o _ ho => by rw [ef]; exact ho)
 ·intro vk s1 _ S1
  subst hfr
  exact ⟨.next, ([("key", vk)] : Loc), (b, aAb (ks.map (keyT (ps.map (·.2))))) :: (wk, aAa (aAd ps)) :: (wkc, aAp (some (.ref wk))) :: (aAg ps ++ N), G, rfl, S1.perm (by walk_at "perm"), λ s3 S3 => k b s3 S3⟩
end
end
section
section
variable {N : Ledger}
theorem Sta.tellPrL {a b : Addr} {x : Str} {t : Tok} (S : Sta W G env loc ((a, aAo [.str x t, .ref b]) :: N) s) : Sta W G env loc ((a, aGy x b) :: N) s :=
 S.tell .head λ o _ ho => ⟨t, ho⟩
theorem lawE0_ {L ca : Addr} {nm : Str} {t0 : Tok} {rest : List Value} {Q : Flow -> Shared -> Prop} (hcall : (("call" : Str), some (Value.ref ca)) ∈ loc) (hn : nm ≠ "start")
  (S' : Sta W G (envL L) loc ((ca, aAo (.str nm t0 :: rest)) :: N) s)
  (k : ∀ s', Sta W G (envL L) loc ((ca, aAo (.str nm t0 :: rest)) :: N) s' -> Q .next s') :
  wpAny (model W.prog W.w) A (execs (lB.drop 10) (envL L)) Q E s := by
 refine aAi rfl ?_
 refine wpAny_If ?_
 walk_at "c"
 refine aAf ?_ (by intro _ _; kernel_rfl)
 walk_at "c"
 refine Sta.sub_tuple S' (by walk_at "mem") (j := 0) rfl (by omega) rfl ?_
 walk_at "c"
 refine eq_s (λ e => absurd e hn) (λ _ => ?_)
 walk_at "c"
 walk_at "ke"
 exact k _ S'
theorem lawE1_ {L ca d tg ta td du wk wkc : Addr} {x tx : Str} {its : List Str} {t0 t1 : Tok} {kvs : List (Str × Value)} {ts : List (Addr × List Str)} {ps : List (Addr × NsP)} {ra rd : List RwA} {loc2 : Addr -> Loc} {Q : Flow -> Shared -> Prop} (I : IsC W) (hA : Aok 16 A)
  (hcall : (("call" : Str), some (Value.ref ca)) ∈ loc) (htg : (("tags" : Str), some (Value.ref tg)) ∈ loc) (htd : (("told" : Str), some (Value.ref td)) ∈ loc) (hdu : (("due" : Str), some (Value.ref du)) ∈ loc) (hwk : CellOk (envL L) .cell "walk" wkc) (hput : ∀ b, Put "keys" (some (.ref b)) loc (loc2 b))
  (hcall2 : ∀ b, (("call" : Str), some (Value.ref ca)) ∈ loc2 b) (htg2 : ∀ b, (("tags" : Str), some (Value.ref tg)) ∈ loc2 b) (htd2 : ∀ b, (("told" : Str), some (Value.ref td)) ∈ loc2 b) (hdu2 : ∀ b, (("due" : Str), some (Value.ref du)) ∈ loc2 b) (hkey2 : ∀ b, (("keys" : Str), some (Value.ref b)) ∈ loc2 b)
  (hz : (tx :: its).length <= 100) (hl : ∀ x ∈ tx :: its, x.length <= 100000) (hnm : NmS tx) (hk : ∀ x ∈ aBA (tx :: its), NmS x) (h4 : (aBA (tx :: its)).length <= 4) (hk4 : kvs.length <= 4) (hp : ps.length <= 60) (hul : ∀ q ∈ ps, q.2.1.length <= 1000) (hra : ra.length <= 10000) (hrd : rd.length <= 10000)
  (S' : Sta W G (envL L) loc ((ca, aAo [.str "start" t0, .str x t1, .ref d]) :: (d, IsD W d kvs) :: (tg, aAa (aAq (ts ++ [(ta, tx :: its)]))) :: (ta, aAb (tx :: its)) :: (td, aAa (aAh ra)) :: (du, aAa (aAh rd)) :: (wk, aAa (aAd ps)) :: (wkc, aAp (some (.ref wk))) :: (aAg ps ++ (aAj ra ++ (aAj rd ++ N)))) s)
  (k : ∀ b r1 r2 s', r1.r = .pr (tagT (ps.map (·.2)) tx) (srt ltS ((aBA (tx :: its)).map (keyT (ps.map (·.2))))) -> r2.r = .pr x (srt ltS (kvs.map (·.1))) ->
   Sta W G (envL L) (loc2 b) ((ca, aAo [.str "start" t0, .str x t1, .ref d]) :: (d, IsD W d kvs) :: (tg, aAa (aAq (ts ++ [(ta, tx :: its)]))) :: (ta, aAb (tx :: its)) :: (td, aAa (aAh (ra ++ [r1]))) :: (du, aAa (aAh (rd ++ [r2]))) :: (wk, aAa (aAd ps)) :: (wkc, aAp (some (.ref wk))) :: (aAg ps ++ (aAj (ra ++ [r1]) ++ (aAj (rd ++ [r2]) ++ N)))) s' -> Q .next s') :
  wpAny (model W.prog W.w) A (execs (lB.drop 10) (envL L)) Q E s := by
 refine aAi rfl ?_
 refine wpAny_If ?_
 walk_at "c"
 refine aAf ?_ (by intro _ _; kernel_rfl)
 walk_at "c"
 refine Sta.sub_tuple S' (by walk_at "mem") (j := 0) rfl (by omega) rfl ?_
 walk_at "c"
 refine eq_s (λ _ => ?_) (λ e => absurd rfl e)
 refine wpAny_truthy_bool ?_
 refine ite_te rfl ?_
 obtain ⟨p, l, hpl, hll, hcut, htt⟩ := hnm.cut
 refine aAs ?_
 refine aAi rfl ?_
 refine lawK_ (ts := ts) (N := (ca, aAo [.str "start" t0, .str x t1, .ref d]) :: (d, IsD W d kvs) :: (td, aAa (aAh ra)) :: (du, aAa (aAh rd)) :: (wk, aAa (aAd ps)) :: (wkc, aAp (some (.ref wk))) :: (aAg ps ++ (aAj ra ++ (aAj rd ++ N)))) I (hA.le (by decide)) hz hl htg hput (S'.perm (by walk_at "perm")) ?_ _ rfl
 clear S'; intro ka s' S'
 have h1 := hcall2 ka
 have h2 := htg2 ka
 have h3 := htd2 ka
 have h5 := hdu2 ka
 have h6 := hkey2 ka
 refine aAi rfl ?_
 refine wpAny_Expr_any ?_ (by kernel_rfl) (by kernel_rfl)
 refine aBD ?_ (by kernel_rfl) (by kernel_rfl) (by kernel_rfl)
 refine S'.local_ h3 ?_
 refine Sta.getM_list S' (by walk_at "mem") F.slot_list_append F.type_list_append ?_
 refine aA1 ?_ (by kernel_rfl) (by kernel_rfl)
 repeat ((fail_if_success (with_reducible show wpAny _ _ (call _ _) _ _ _)); walk_at "cw")
 refine Sta.global S' I.g_l_means (by kernel_rfl) ?_
 refine aBJ (by rw [I.k]; kernel_rfl) ?_ (by kernel_rfl) (by kernel_rfl)
 refine args_cons ?_ (by kernel_rfl)
 refine Sta.cell S' hwk (by walk_at "mem") ?_
 refine args_cons ?_ (by kernel_rfl)
 refine aAf ?_ (by intro _ _; kernel_rfl)
 refine aAf ?_ (by intro _ _; kernel_rfl)
 walk_at "c"
 refine Sta.sub_last S' (by walk_at "mem") (v := .ref ta) (by rw [aBl]; exact List.getLast?_concat ..) ?_
 walk_at "c"
 refine Sta.subT S' (by walk_at "mem") (j := 0) rfl (by omega) rfl λ t5 => ?_
 generalize hM : (tg, aAa (aAq (ts ++ [(ta, tx :: its)]))) :: (ta, aAb (tx :: its)) :: (d, IsD W d kvs) :: (ca, aAo [.str "start" t0, .str x t1, .ref d]) :: N = M
 replace S' := S'.perm (nw' := (wk, aAa (aAd ps)) :: (aAg ps ++ ((ka, aAb (aBA (tx :: its))) :: (wkc, aAp (some (.ref wk))) :: (td, aAa (aAh ra)) :: (du, aAa (aAh rd)) :: (aAj ra ++ (aAj rd ++ M))))) (by rw [← hM]; walk_at "perm")
 walk_at "c"
 refine aIt (ps := ps) I (hA.le (by decide)) hp hnm.1 hpl hll hul hcut S' ?_
 clear S'; intro t2 s' S'
 rw [← htt]
 walk_at "c"
 refine Sta.builtin S' I.b_sorted aBC (by kernel_rfl) ?_
 refine PyProof.Rows.callWith_builtin1 ?_ (by kernel_rfl) (by kernel_rfl)
 refine args_cons ?_ (by kernel_rfl)
 refine lawM_ (ka := ka) (wk := wk) (ps := ps) (N := (td, aAa (aAh ra)) :: (du, aAa (aAh rd)) :: (aAj ra ++ (aAj rd ++ M))) I (hA.le (by decide)) (by omega) hk hp hul (by with_reducible assumption) hwk (S'.perm (by walk_at "perm")) ?_ _ rfl
 clear S'; intro b1 s' S'
 walk_at "c"
 refine Sta.sortedTs (by rw [List.length_map]; exact h4) S' (.head _) ?_
 clear S'; intro b2 s' S'
 walk_at "c"
 revert a'; intro tp S'
 replace S' := S'.tellPrL
 refine Sta.pushRw (r := ⟨tp, b2, .pr (tagT (ps.map (·.2)) tx) (srt ltS ((aBA (tx :: its)).map (keyT (ps.map (·.2)))))⟩) hra (S'.sel (nw' := (td, aAa (aAh ra)) :: (aAj ra ++ ([(tp, aGy (tagT (ps.map (·.2)) tx) b2), (b2, aAb (srt ltS ((aBA (tx :: its)).map (keyT (ps.map (·.2))))))] ++ ((du, aAa (aAh rd)) :: (wk, aAa (aAd ps)) :: (wkc, aAp (some (.ref wk))) :: (aAg ps ++ (aAj rd ++ M)))))) (Sel.rest [(b1, aAb ((aBA (tx :: its)).map (keyT (ps.map (·.2)))))] (by walk_at "perm"))) ?_
 generalize hr1 : (⟨tp, b2, .pr (tagT (ps.map (·.2)) tx) (srt ltS ((aBA (tx :: its)).map (keyT (ps.map (·.2)))))⟩ : RwA) = r1
 clear S'; intro s' S'
 refine aAi rfl ?_
 refine wpAny_Expr_any ?_ (by kernel_rfl) (by kernel_rfl)
 refine aBD ?_ (by kernel_rfl) (by kernel_rfl) (by kernel_rfl)
 subst hM
 replace S' := S'.perm (nw' := (du, aAa (aAh rd)) :: (ca, aAo [.str "start" t0, .str x t1, .ref d]) :: (d, IsD W d kvs) :: (tg, aAa (aAq (ts ++ [(ta, tx :: its)]))) :: (ta, aAb (tx :: its)) :: (wk, aAa (aAd ps)) :: (wkc, aAp (some (.ref wk))) :: (td, aAa (aAh (ra ++ [r1]))) :: (aAg ps ++ (aAj (ra ++ [r1]) ++ (aAj rd ++ N)))) (by walk_at "perm")
 refine S'.local_ h5 ?_
 refine Sta.getM_list S' (by walk_at "mem") F.slot_list_append F.type_list_append ?_
 refine aA1 ?_ (by kernel_rfl) (by kernel_rfl)
 repeat ((fail_if_success (with_reducible show wpAny _ _ (call _ _) _ _ _)); walk_at "cw")
 refine aAf ?_ (by intro _ _; kernel_rfl)
 walk_at "c"
 refine Sta.sub_tuple S' (by walk_at "mem") (j := 1) rfl (by omega) rfl ?_
 walk_at "c"
 refine Sta.builtin S' I.b_sorted aBC (by kernel_rfl) ?_
 refine PyProof.Rows.callWith_builtin1 ?_ (by kernel_rfl) (by kernel_rfl)
 refine args_cons ?_ (by kernel_rfl)
 refine aAf ?_ (by intro _ _; kernel_rfl)
 walk_at "c"
 refine Sta.sub_tuple S' (by walk_at "mem") (j := 2) rfl (by omega) rfl ?_
 walk_at "c"
 refine Sta.sortedD S' hA.handled (by walk_at "mem") hk4 ?_
 clear S'; intro b3 s' S'
 walk_at "c"
 revert a'; intro tq S'
 replace S' := S'.tellPrL
 refine Sta.pushRw (r := ⟨tq, b3, .pr x (srt ltS (kvs.map (·.1)))⟩) hrd (S'.perm (nw' := (du, aAa (aAh rd)) :: (aAj rd ++ ([(tq, aGy x b3), (b3, aAb (srt ltS (kvs.map (·.1))))] ++ ((ca, aAo [.str "start" t0, .str x t1, .ref d]) :: (d, IsD W d kvs) :: (tg, aAa (aAq (ts ++ [(ta, tx :: its)]))) :: (ta, aAb (tx :: its)) :: (wk, aAa (aAd ps)) :: (wkc, aAp (some (.ref wk))) :: (td, aAa (aAh (ra ++ [r1]))) :: (aAg ps ++ (aAj (ra ++ [r1]) ++ N)))))) (by walk_at "perm")) ?_
 generalize hr2 : (⟨tq, b3, .pr x (srt ltS (kvs.map (·.1)))⟩ : RwA) = r2
 clear S'; intro s' S'
 refine aBS (by exact Nat.le_of_ble_eq_true rfl) ?_
 refine aBS (by exact Nat.le_of_ble_eq_true rfl) ?_
 walk_at "ke"
 exact k ka r1 r2 s' (by rw [← hr1]) (by rw [← hr2]) (S'.perm (by walk_at "perm"))
end
end
section
noncomputable def nsAll : List Str := ["", "urn:a", "urn:b", "urn:d"]
noncomputable def kP : List NsP := [("urn:a", "p"), ("urn:a", "s"), ("urn:b", "q"), ("urn:d", "")]
noncomputable def nPs : List Str := ["n0", "n1", "n2", "n3"]
noncomputable def nP : List NsP := nsAll.flatMap λ u => nPs.map λ p => (u, p)
noncomputable abbrev xmlP : NsP := (xmlU, "xml")
noncomputable def allP : List NsP := xmlP :: (kP ++ nP)
theorem aAw (D : List (List NsP)) (lv : List NsP) : flat (D ++ [lv]) = lv ++ flat D := by
 unfold flat; rw [List.reverse_append]; rfl
structure Good (rw : Bool) (s : NSt) : Prop where
 du : ((flat s.decl).map (·.1)).Nodup
 dp : ((flat s.decl).map (·.2)).Nodup
 dm : ∀ q ∈ flat s.decl, q = xmlP \/ (rw = false /\ q ∈ kP) \/ (rw = true /\ q ∈ s.pm)
 pu : (s.pm.map (·.1)).Nodup
 pp : s.pm.map (·.2) = (List.range s.pm.length).map nPre
 ps : ∀ q ∈ s.pm, q.1 ∈ nsAll
theorem aJc : ∀ i, i < 4 -> nPre i ∈ nPs := by
 intro i hi
 obtain rfl | rfl | rfl | rfl : i = 0 \/ i = 1 \/ i = 2 \/ i = 3 := by omega
 all_goals decide +kernel
theorem aJb : ((List.range 4).map nPre).Nodup := by decide +kernel
theorem aEC {β : Type} [DecidableEq β] : ∀ {l L : List β}, l.Nodup -> (∀ x ∈ l, x ∈ L) -> l.length <= L.length
 | [], _, _, _ => Nat.zero_le _
 | x :: r, L, hn, hs => by
  rw [List.nodup_cons] at hn
  have hx := hs x (.head _)
  have h := aEC (l := r) (L := L.erase x) hn.2 λ y hy => (List.mem_erase_of_ne (λ e => hn.1 (by rw [← e]; exact hy))).mpr (hs y (.tail _ hy))
  rw [List.length_erase_of_mem hx] at h
  have h2 := List.length_pos_of_mem hx
  rw [List.length_cons]; omega
theorem aFn {α β : Type} [DecidableEq β] {l : List α} {f : α -> β} {L : List β} (h : (l.map f).Nodup) (hs : ∀ q ∈ l, f q ∈ L) : l.length <= L.length := by
 have := aEC h λ x hx => by
  obtain ⟨q, hq, rfl⟩ := List.mem_map.mp hx
  exact hs q hq
 rwa [List.length_map] at this
theorem Good.pl {rw : Bool} {s : NSt} (g : Good rw s) : s.pm.length <= 4 := aFn (L := nsAll) g.pu g.ps
theorem Good.pmP {rw : Bool} {s : NSt} (g : Good rw s) {q : NsP} (h : q ∈ s.pm) : q ∈ nP := by
 have h1 := g.ps q h
 have h2 : q.2 ∈ s.pm.map (·.2) := List.mem_map.mpr ⟨q, h, rfl⟩
 rw [g.pp] at h2
 obtain ⟨i, hi, e⟩ := List.mem_map.mp h2
 have h3 := aJc i (Nat.lt_of_lt_of_le (List.mem_range.mp hi) g.pl)
 rw [e] at h3
 exact List.mem_flatMap.mpr ⟨q.1, h1, List.mem_map.mpr ⟨q.2, h3, rfl⟩⟩
theorem Good.all {rw : Bool} {s : NSt} (g : Good rw s) {q : NsP} (h : q ∈ flat s.decl) : q ∈ allP := by
 rcases g.dm q h with rfl | ⟨_, h⟩ | ⟨_, h⟩
 ·exact .head _
 ·exact .tail _ (List.mem_append_left _ h)
 ·exact .tail _ (List.mem_append_right _ (g.pmP h))
theorem aA2 : ∀ q ∈ allP, q.1.length <= 100 /\ q.2.length <= 100 := by decide +kernel
theorem aJO : ∀ q ∈ allP, q.1 ∈ xmlU :: nsAll := by decide +kernel
theorem Good.len {rw : Bool} {s : NSt} (g : Good rw s) : (flat s.decl).length <= 5 := aFn (L := xmlU :: nsAll) g.du λ q hq => aJO q (g.all hq)
theorem aDM {u p : Str} : ∀ {l : List NsP}, (l.map (·.1)).Nodup -> (u, p) ∈ l -> l.find? (λ q => decide (q.1 = u)) = some (u, p)
 | [], _, h => by cases h
 | q :: r, hn, h => by
  rw [List.map_cons, List.nodup_cons] at hn
  rcases List.mem_cons.mp h with h | h
  ·subst h
   exact List.find?_cons_of_pos (by simp)
  ·have hne : q.1 ≠ u := λ e => hn.1 (List.mem_map.mpr ⟨(u, p), h, e.symm⟩)
   rw [List.find?_cons_of_neg (by simpa using hne)]
   exact aDM hn.2 h
theorem aDN (u : Str) : ∀ (l : List NsP) (seen : List Str), (l.map (·.2)).Nodup -> (∀ q ∈ l, q.2 ∉ seen) -> findN u seen l = (l.find? λ q => decide (q.1 = u)).map (·.2)
 | [], _, _, _ => rfl
 | (v, p) :: r, seen, hn, hs => by
  rw [List.map_cons, List.nodup_cons] at hn
  unfold findN
  by_cases e : v = u
  ·rw [if_pos ⟨e, hs (v, p) (.head _)⟩, List.find?_cons_of_pos (by simpa using e)]
   rfl
  ·rw [if_neg (λ h => e h.1), List.find?_cons_of_neg (by simpa using e)]
   exact aDN u r (seen ++ [p]) hn.2 λ q hq h => by
    rcases List.mem_append.mp h with h | h
    ·exact hs q (.tail _ hq) h
    ·rw [List.mem_singleton] at h
     exact hn.1 (List.mem_map.mpr ⟨q, hq, h⟩)
theorem Good.findN {rw : Bool} {s : NSt} (g : Good rw s) (u : Str) : Mine.findN u [] (flat s.decl) = ((flat s.decl).find? λ q => decide (q.1 = u)).map (·.2) := aDN u _ [] g.dp (by simp)
noncomputable def Ext (n : Nat) (s s' : NSt) : Prop := ∃ D lv e, s.decl = D ++ [lv] /\ s'.decl = D ++ [lv ++ e] /\ e.length <= n
theorem Ext.mem {n : Nat} {s s' : NSt} (h : Ext n s s') {q : NsP} (hq : q ∈ flat s.decl) : q ∈ flat s'.decl := by
 obtain ⟨D, lv, e, h1, h2, _⟩ := h
 rw [h1, aAw] at hq
 rw [h2, aAw]
 rcases List.mem_append.mp hq with h | h
 ·exact List.mem_append_left _ (List.mem_append_left _ h)
 ·exact List.mem_append_right _ h
theorem Ext.refl {s : NSt} (h : s.decl ≠ []) : Ext 0 s s := ⟨s.decl.dropLast, s.decl.getLast h, [], (List.dropLast_concat_getLast h).symm, by rw [List.append_nil]; exact (List.dropLast_concat_getLast h).symm, Nat.le_refl _⟩
theorem Ext.trans {n m : Nat} {s s' s'' : NSt} (h : Ext n s s') (k : Ext m s' s'') : Ext (n + m) s s'' := by
 obtain ⟨D, lv, e, h1, h2, h3⟩ := h
 obtain ⟨D2, lv2, e2, k1, k2, k3⟩ := k
 rw [h2] at k1
 obtain ⟨rfl, h4⟩ := List.append_inj' k1 rfl
 injection h4 with h4
 subst h4
 exact ⟨D, lv, e ++ e2, h1, by rw [k2, List.append_assoc], by rw [List.length_append]; omega⟩
theorem Ext.le {n m : Nat} {s s' : NSt} (h : Ext n s s') (e : n <= m) : Ext m s s' := by
 obtain ⟨D, lv, e2, h1, h2, h3⟩ := h
 exact ⟨D, lv, e2, h1, h2, by omega⟩
theorem Ext.ne {n : Nat} {s s' : NSt} (h : Ext n s s') : s'.decl ≠ [] := by
 obtain ⟨D, lv, e, h1, h2, h3⟩ := h
 rw [h2]; simp
theorem Good.lay {rw : Bool} {s : NSt} (g : Good rw s) (hne : s.decl ≠ []) {u p : Str} {pm : List (Str × Str)} (hu : u ∉ (flat s.decl).map (·.1)) (hp : p ∉ (flat s.decl).map (·.2)) (hq : (rw = false /\ (u, p) ∈ kP) \/ (rw = true /\ (u, p) ∈ pm)) (hs : ∀ q ∈ s.pm, q ∈ pm)
  (pu : (pm.map (·.1)).Nodup) (pp : pm.map (·.2) = (List.range pm.length).map nPre) (ps : ∀ q ∈ pm, q.1 ∈ nsAll) :
  Good rw { s with decl := aA7 (u, p) s.decl, pm := pm } /\ Ext 1 s { s with decl := aA7 (u, p) s.decl, pm := pm } /\ (u, p) ∈ flat (aA7 (u, p) s.decl) := by
 obtain ⟨D, lv, hd⟩ : ∃ D lv, s.decl = D ++ [lv] := ⟨_, _, (List.dropLast_concat_getLast hne).symm⟩
 have hl : aA7 (u, p) s.decl = D ++ [lv ++ [(u, p)]] := by rw [hd, aCx]
 have hf : flat s.decl = lv ++ flat D := by rw [hd, aAw]
 have hf2 : flat (aA7 (u, p) s.decl) = lv ++ (u, p) :: flat D := by rw [hl, aAw]; simp
 have hpm : (flat (aA7 (u, p) s.decl)).Perm ((u, p) :: flat s.decl) := by rw [hf2, hf]; exact List.perm_middle
 refine ⟨⟨?_, ?_, ?_, pu, pp, ps⟩, ⟨D, lv, [(u, p)], hd, hl, Nat.le_refl _⟩, hpm.symm.subset (.head _)⟩
 ·exact ((hpm.map (·.1)).nodup_iff).mpr (List.nodup_cons.mpr ⟨hu, g.du⟩)
 ·exact ((hpm.map (·.2)).nodup_iff).mpr (List.nodup_cons.mpr ⟨hp, g.dp⟩)
 ·intro q h
  rcases List.mem_cons.mp (hpm.subset h) with h | h
  ·subst h; exact .inr hq
  ·rcases g.dm q h with h | ⟨h1, h⟩ | ⟨h1, h⟩
   ·exact .inl h
   ·exact .inr (.inl ⟨h1, h⟩)
   ·exact .inr (.inr ⟨h1, hs q h⟩)
theorem kP_fn : ∀ q ∈ xmlP :: kP, ∀ r ∈ xmlP :: kP, q.2 = r.2 -> q.1 = r.1 := by decide +kernel
theorem nP_xml : ∀ q ∈ nP, q.2 ≠ "xml" /\ q.2.length ≠ 0 := by decide +kernel
theorem aH6 : ∀ i, i < 4 -> (nPre i).length ≠ 0 := by
 intro i hi
 obtain rfl | rfl | rfl | rfl : i = 0 \/ i = 1 \/ i = 2 \/ i = 3 := by omega
 all_goals decide +kernel
theorem aFg {l : List NsP} (h : (l.map (·.2)).Nodup) {u v p : Str} (h1 : (u, p) ∈ l) (h2 : (v, p) ∈ l) : u = v := by
 induction l with
 | nil => cases h1
 | cons q r ih =>
  rw [List.map_cons, List.nodup_cons] at h
  rcases List.mem_cons.mp h1 with a | a
  ·rcases List.mem_cons.mp h2 with b | b
   ·rw [← a] at b; injection b with b; exact b.symm
   ·exact absurd (List.mem_map.mpr ⟨(v, p), b, by rw [← a]⟩) h.1
  ·rcases List.mem_cons.mp h2 with b | b
   ·exact absurd (List.mem_map.mpr ⟨(u, p), a, by rw [← b]⟩) h.1
   ·exact ih h.2 a b
theorem Good.pnd {rw : Bool} {s : NSt} (g : Good rw s) : (s.pm.map (·.2)).Nodup := by
 rw [g.pp]
 have h : (List.range s.pm.length).Sublist (List.range 4) := List.range_sublist.mpr g.pl
 exact (h.map nPre).nodup aJb
end
section
noncomputable def aIp (rw : Bool) (n : List NsP) : Prop := rw = false -> ∀ u ∈ nsAll, (u = "" /\ n.find? (λ q => decide (q.1 = u)) = none) \/ (u ≠ "" /\ ∃ p, n.find? (λ q => decide (q.1 = u)) = some (u, p) /\ (u, p) ∈ kP)
theorem aG7 : ∀ i ∈ List.range 4, ∀ j ∈ List.range 4, nPre i = nPre j -> i = j := by decide +kernel
theorem aH7 (i : Nat) (hi : i < 4) (j : Nat) (hj : j < 4) (e : nPre i = nPre j) : i = j := aG7 i (List.mem_range.mpr hi) j (List.mem_range.mpr hj) e
theorem aH5 : ∀ i, i < 4 -> nPre i ≠ "xml" := by
 intro i hi
 obtain rfl | rfl | rfl | rfl : i = 0 \/ i = 1 \/ i = 2 \/ i = 3 := by omega
 all_goals decide +kernel
theorem aEQ {u : Str} {l : List NsP} (h : l.find? (λ q => decide (q.1 = u)) = none) : u ∉ l.map (·.1) := λ m => by
 obtain ⟨q, hq, e⟩ := List.mem_map.mp m
 have := List.find?_eq_none.mp h q hq
 simp [e] at this
theorem qn_ok {rw : Bool} {s : NSt} {u : Str} (g : Good rw s) (hne : s.decl ≠ []) (hn : aIp rw (flat s.nss)) (hu : u ∈ nsAll) (l : Str) :
  ∃ tx s', qnV rw s u l = some (tx, s') /\ Good rw s' /\ s'.nss = s.nss /\ Ext 1 s s' /\ ((∃ p, (u, p) ∈ flat s'.decl /\ tx = txtQ p l) \/ (rw = false /\ u = "" /\ tx = l)) := by
 unfold qnV
 rw [g.findN]
 cases hf : (flat s.decl).find? λ q => decide (q.1 = u) with
 | some q =>
  have h1 := List.mem_of_find?_eq_some hf
  have h2 : q.1 = u := by simpa using List.find?_some hf
  exact ⟨_, _, rfl, g, rfl, (Ext.refl hne).le (Nat.zero_le _), .inl ⟨q.2, by rw [← h2]; exact h1, rfl⟩⟩
 | none =>
  have hu1 := aEQ hf
  dsimp only [Option.map_none]
  cases rw with
  | true =>
   rw [if_pos rfl]
   cases hp : s.pm.find? λ q => decide (q.1 = u) with
   | some q =>
    have h1 := List.mem_of_find?_eq_some hp
    have h2 : q.1 = u := by simpa using List.find?_some hp
    have h3 := nP_xml q (g.pmP h1)
    have h4 : (u, q.2) ∈ s.pm := by rw [← h2]; exact h1
    obtain ⟨a, b, c⟩ := g.lay hne (u := u) (p := q.2) (pm := s.pm) hu1 (λ m => by
     obtain ⟨r, hr, e⟩ := List.mem_map.mp m
     rcases g.dm r hr with h | ⟨h, _⟩ | ⟨_, h⟩
     ·rw [h] at e; exact h3.1 e.symm
     ·cases h
     ·have : r.1 = u := aFg g.pnd (p := q.2) (by rw [← e]; exact h) h4
      exact hu1 (List.mem_map.mpr ⟨r, hr, this⟩)) (.inr ⟨rfl, h4⟩) (λ _ h => h) g.pu g.pp g.ps
    exact ⟨_, _, rfl, a, rfl, b, .inl ⟨q.2, c, (if_neg h3.2).symm⟩⟩
   | none =>
    have hu2 := aEQ hp
    have hnd : ((s.pm ++ [(u, nPre s.pm.length)]).map (·.1)).Nodup := by
     rw [List.map_append, List.nodup_append]
     refine ⟨g.pu, by simp, λ x hx y hy => ?_⟩
     simp only [List.map_cons, List.map_nil, List.mem_singleton] at hy
     rw [hy]; exact λ e => hu2 (e ▸ hx)
    have hns : ∀ q ∈ s.pm ++ [(u, nPre s.pm.length)], q.1 ∈ nsAll := λ q hq => by
     rcases List.mem_append.mp hq with h | h
     ·exact g.ps q h
     ·rw [List.mem_singleton.mp h]; exact hu
    have h4 : s.pm.length + 1 <= 4 := by
     have := aFn (L := nsAll) hnd hns
     rw [List.length_append] at this; exact this
    obtain ⟨a, b, c⟩ := g.lay hne (u := u) (p := nPre s.pm.length) (pm := s.pm ++ [(u, nPre s.pm.length)]) hu1 (λ m => by
     obtain ⟨r, hr, e⟩ := List.mem_map.mp m
     rcases g.dm r hr with h | ⟨h, _⟩ | ⟨_, h⟩
     ·rw [h] at e; exact aH5 _ (by omega) e.symm
     ·cases h
     ·have h5 : r.2 ∈ s.pm.map (·.2) := List.mem_map.mpr ⟨r, h, rfl⟩
      rw [g.pp, e] at h5
      obtain ⟨i, hi, e2⟩ := List.mem_map.mp h5
      have hi := List.mem_range.mp hi
      have := aH7 i (by omega) s.pm.length (by omega) e2
      omega) (.inr ⟨rfl, List.mem_append_right _ (.head _)⟩) (λ _ h => List.mem_append_left _ h) hnd (by
     rw [List.map_append, List.length_append, g.pp]
     show _ = (List.range (s.pm.length + 1)).map nPre
     rw [List.range_succ, List.map_append]; rfl) hns
    exact ⟨_, _, rfl, a, rfl, b, .inl ⟨_, c, (if_neg (aH6 _ (by omega))).symm⟩⟩
  | false =>
   rw [if_neg (by decide)]
   have h0 : ∀ q, (if u = "" /\ ("" : Str) ∉ (flat s.decl).map (·.2) then some (l, s) else match (flat s.nss).find? (λ q => decide (q.1 = u)) with
    | some q => some (txtQ q.2 l, { s with decl := aA7 (u, q.2) s.decl })
    | none => if u = "" then some (l, s) else none) = q -> ∃ tx s', q = some (tx, s') /\ Good false s' /\ s'.nss = s.nss /\ Ext 1 s s' /\ ((∃ p, (u, p) ∈ flat s'.decl /\ tx = txtQ p l) \/ (false = false /\ u = "" /\ tx = l)) := by
    intro q hq
    subst hq
    rcases hn rfl u hu with ⟨h1, h2⟩ | ⟨h1, p, h2, h3⟩
    ·have hr : ∃ tx s', some (l, s) = some (tx, s') /\ Good false s' /\ s'.nss = s.nss /\ Ext 1 s s' /\ ((∃ p, (u, p) ∈ flat s'.decl /\ tx = txtQ p l) \/ (false = false /\ u = "" /\ tx = l)) := ⟨_, _, rfl, g, rfl, (Ext.refl hne).le (Nat.zero_le _), .inr ⟨rfl, h1, rfl⟩⟩
     split
     ·exact hr
     ·rw [h2]
      exact hr
    ·rw [if_neg (λ h => h1 h.1), h2]
     obtain ⟨a, b, c⟩ := g.lay hne (u := u) (p := p) (pm := s.pm) hu1 (λ m => by
      obtain ⟨r, hr, e⟩ := List.mem_map.mp m
      have hr2 : r ∈ xmlP :: kP := by
       rcases g.dm r hr with h | ⟨_, h⟩ | ⟨h, _⟩
       ·rw [h]; exact .head _
       ·exact .tail _ h
       ·cases h
      exact hu1 (List.mem_map.mpr ⟨r, hr, kP_fn r hr2 (u, p) (.tail _ h3) e⟩)) (.inl ⟨rfl, h3⟩) (λ _ h => h) g.pu g.pp g.ps
     exact ⟨_, _, rfl, a, rfl, b, .inl ⟨p, c, rfl⟩⟩
   exact h0 _ rfl
noncomputable def OkTx (rw : Bool) (sv : NSt) (x tx : Str) : Prop := (∃ p, (nmU x, p) ∈ flat sv.decl /\ tx = txtQ p (nmL x)) \/ (rw = false /\ nmU x = "" /\ tx = nmL x)
theorem OkTx.up {rw : Bool} {n : Nat} {s s' : NSt} {x tx : Str} (h : OkTx rw s x tx) (e : Ext n s s') : OkTx rw s' x tx := by
 rcases h with ⟨p, h1, h2⟩ | h
 ·exact .inl ⟨p, e.mem h1, h2⟩
 ·exact .inr h
noncomputable def NssS (n : List NsP) : Prop := n.length <= 1000 /\ ∀ q ∈ n, aCE q
theorem Good.nsOk {rw : Bool} {s : NSt} (g : Good rw s) (hne : s.decl ≠ []) (hs : NssS (flat s.nss)) : NsOk s where
 d1 := λ q hq => by have := aA2 q (g.all hq); exact ⟨by omega, by omega⟩
 d2 := by have := g.len; omega
 n1 := hs.2
 n2 := hs.1
 p1 := λ q hq => by have := aA2 q (.tail _ (List.mem_append_right _ (g.pmP hq))); exact ⟨by omega, by omega⟩
 p2 := by have := g.pl; omega
 ne := hne
theorem aFL {rw : Bool} : ∀ {xs : List Str} {s : NSt}, Good rw s -> s.decl ≠ [] -> aIp rw (flat s.nss) -> NssS (flat s.nss) -> (∀ x ∈ xs, nmU x ∈ nsAll) ->
  ∃ res sv, aCd rw s xs = some (res, sv) /\ QnOk rw s xs /\ Good rw sv /\ sv.nss = s.nss /\ Ext xs.length s sv /\ ∀ r ∈ res, OkTx rw sv r.1 r.2
 | [], s, g, hne, hn, hs, _ => ⟨[], s, rfl, trivial, g, rfl, Ext.refl hne, λ _ h => by cases h⟩
 | x :: r, s, g, hne, hn, hs, hx => by
  obtain ⟨tx, s1, e1, g1, n1, x1, o1⟩ := qn_ok g hne hn (hx x (.head _)) (nmL x)
  obtain ⟨res, sv, e2, q2, g2, n2, x2, o2⟩ := aFL (xs := r) g1 x1.ne (by rw [n1]; exact hn) (by rw [n1]; exact hs) λ y hy => hx y (.tail _ hy)
  refine ⟨(x, tx) :: res, sv, ?_, ⟨g.nsOk hne hs, _, e1, q2⟩, g2, n2.trans n1, ?_, λ y hy => ?_⟩
  ·unfold aCd
   rw [e1]
   show (aCd rw s1 r).map _ = _
   rw [e2]; rfl
  ·have := x1.trans x2
   exact this.le (by rw [List.length_cons]; omega)
  ·rcases List.mem_cons.mp hy with h | h
   ·rw [h]; exact OkTx.up o1 x2
   ·exact o2 y h
end
section
noncomputable def tagN : List Str := "{urn:d}r" :: nm4
noncomputable def attN : List Str := ["k", "{urn:a}k", "{urn:b}k"]
noncomputable def locN : List Str := ["k", "r", "d", "a", "b", "c"]
theorem aGE : ∀ x ∈ tagN, nmU x ∈ nsAll /\ nmU x ≠ "" /\ nmL x ∈ locN /\ "{" ++ nmU x ++ "}" ++ nmL x = x := by decide +kernel
theorem aHL : ∀ x ∈ attN, nmU x ∈ nsAll /\ nmL x = "k" /\ ((nmU x = "" /\ x = "k") \/ (nmU x ≠ "" /\ nmU x ≠ "urn:d" /\ "{" ++ nmU x ++ "}" ++ "k" = x)) := by decide +kernel
theorem aC6 : ∀ x ∈ tagN ++ attN, (x.length <= 500 /\ (nmU x).length <= 500 /\ (nmL x).length <= 500) /\ ((Txt.slice x none (some 1) = "{" /\ Txt.rsplitMax (Txt.slice x (some 1) none) "}" 1 = [nmU x, nmL x]) \/ (Txt.slice x none (some 1) ≠ "{" /\ nmU x = "" /\ nmL x = x)) := by decide +kernel
theorem aIs {x : Str} (h : x ∈ tagN ++ attN) : NmG x := ⟨(aC6 x h).1.1, (aC6 x h).1.2.1, (aC6 x h).1.2.2, (aC6 x h).2⟩
theorem aGN : ∀ x ∈ tagN ++ attN, ∀ y ∈ tagN ++ attN, aAK x = aAK y -> x = y := by decide +kernel
theorem aFb : ∀ j ∈ List.range 6, ((rowV j).map (·.1)).Nodup /\ (rowV j).length <= 2 /\ (∀ q ∈ rowV j, q.1 ∈ attN /\ q.2 ∈ (["v", "w"] : List Str)) := by decide +kernel
theorem aIO : ∀ x ∈ tagN, x ∉ attN := by decide +kernel
theorem aGQ : aGR ∉ attN := by decide +kernel
theorem vw_len : ∀ x ∈ (["v", "w"] : List Str), x.length <= 1000 := by decide +kernel
theorem aGB {res : List (Str × Str)} {k : Str} (h : k ∈ res.map (·.1)) : (k, txOf res k) ∈ res := by
 unfold txOf
 obtain ⟨r, hr, e⟩ := List.mem_map.mp h
 cases hf : res.find? λ r => decide (r.1 = k) with
 | none => have := List.find?_eq_none.mp hf r hr; simp [e] at this
 | some q =>
  have h1 := List.mem_of_find?_eq_some hf
  have h2 : q.1 = k := by simpa using List.find?_some hf
  rw [← h2]; exact h1
theorem aHT (p l : Str) : (txtQ p l).length <= p.length + 1 + l.length := by
 unfold txtQ
 split
 ·omega
 ·have h1 : (":" : Str).length = 1 := by decide +kernel
  rw [Str.length_append, Str.length_append, h1]; omega
theorem Good.opn {rw : Bool} {s : NSt} (g : Good rw s) : Good rw s.opn := by
 have e : flat s.opn.decl = flat s.decl := by
  show flat (s.decl ++ [[]]) = _
  rw [aAw]; rfl
 exact ⟨by rw [e]; exact g.du, by rw [e]; exact g.dp, by rw [e]; exact g.dm, g.pu, g.pp, g.ps⟩
theorem st_ok {rw : Bool} {s : NSt} {x : Str} {j : Nat} {l : List (Str × Str × Tok)} (g : Good rw s) (hn : aIp rw (flat s.nss)) (hs : NssS (flat s.nss)) (hx : x ∈ tagN) (hj : j < 6) (hl : atQ l = rowV j) :
  ∃ res sv, StOk rw s.opn x l res sv /\ Good rw sv /\ sv.nss = s.nss /\ (∃ lv, sv.decl = s.decl ++ [lv] /\ lv.length <= 3) /\ ∀ y ∈ x :: (rowV j).map (·.1), OkTx rw sv y (txOf res y) := by
 obtain ⟨r1, r2, r3⟩ := aFb j (List.mem_range.mpr hj)
 have hk : l.map (·.1) = (rowV j).map (·.1) := by rw [← hl]; simp [atQ]
 have hll : l.length = (rowV j).length := by rw [← hl]; simp [atQ]
 have hat : ∀ y ∈ (rowV j).map (·.1), y ∈ attN := λ y hy => by
  obtain ⟨q, hq, rfl⟩ := List.mem_map.mp hy
  exact (r3 q hq).1
 have hnx : x ∉ (rowV j).map (·.1) := λ h => aIO x hx (hat x h)
 have hall : ∀ y ∈ x :: (rowV j).map (·.1), y ∈ tagN ++ attN := λ y hy => by
  rcases List.mem_cons.mp hy with h | h
  ·rw [h]; exact List.mem_append_left _ hx
  ·exact List.mem_append_right _ (hat y h)
 have hu : ∀ y ∈ tagN ++ attN, nmU y ∈ nsAll := λ y hy => by
  rcases List.mem_append.mp hy with h | h
  ·exact (aGE y h).1
  ·exact (aHL y h).1
 have hpm := aAC (lt := ltK aAK) (x :: (rowV j).map (·.1))
 obtain ⟨res, sv, e1, e2, g2, n2, x2, o2⟩ := aFL (xs := srt (ltK aAK) (x :: (rowV j).map (·.1))) g.opn (show s.decl ++ [[]] ≠ [] by simp) hn hs λ y hy => hu y (hall y (hpm.subset hy))
 have hkeys := aCu e1
 have htx : ∀ y ∈ x :: (rowV j).map (·.1), OkTx rw sv y (txOf res y) := λ y hy => o2 (y, txOf res y) (aGB (by rw [hkeys]; exact hpm.symm.subset hy))
 obtain ⟨D, lv, e, d1, d2, d3⟩ := x2
 have d1 : s.decl ++ [[]] = D ++ [lv] := d1
 obtain ⟨rfl, h5⟩ := List.append_inj' d1 rfl
 injection h5 with h5
 subst h5
 rw [List.nil_append] at d2
 have hlen : (srt (ltK aAK) (x :: (rowV j).map (·.1))).length = (rowV j).length + 1 := by rw [hpm.length_eq]; simp
 have h3 : e.length <= 3 := by omega
 have htop : topV sv.decl = e := by rw [d2]; unfold topV; simp
 refine ⟨res, sv, ⟨by rw [hk]; exact hnx, by rw [hk]; exact r1, by omega, ?_, ?_, by rw [hk]; exact e2, by rw [hk]; exact e1, by rw [htop]; omega, ?_, ?_, ?_, ?_⟩, g2, n2, ⟨e, d2, h3⟩, htx⟩
 ·intro y hy
  rw [hk] at hy
  exact aIs (hall y hy)
 ·intro y hy z hz
  rw [hk] at hy hz
  exact aGN y (hall y hy) z (hall z hz)
 ·intro r hr
  have h := aA2 r (g2.all (by rw [d2, aAw]; rw [htop] at hr; exact List.mem_append_left _ hr))
  exact ⟨by omega, by omega⟩
 ·intro r hr
  have hy : r.1 ∈ tagN ++ attN := hall _ (hpm.subset (by rw [← hkeys]; exact List.mem_map.mpr ⟨r, hr, rfl⟩))
  have h1 := (aC6 _ hy).1.2.2
  rcases o2 r hr with ⟨p, h2, h3⟩ | ⟨_, _, h3⟩
  ·have h4 := (aA2 _ (g2.all h2)).2
   have h5 := aHT p (nmL r.1)
   rw [h3]
   dsimp only at h4
   omega
  ·rw [h3]; omega
 ·intro p hp
  have : (p.1, p.2.1) ∈ rowV j := by rw [← hl]; exact List.mem_map.mpr ⟨p, hp, rfl⟩
  exact vw_len _ (r3 _ this).2
 ·rw [hk]
  exact λ h => aGQ (hat _ h)
end
section
noncomputable def itT (q : NsP) : Str := q.1 ++ "=\"" ++ escA q.2 ++ "\""
noncomputable def attK : List Str := ["k", "p:k", "s:k", "q:k", "n0:k", "n1:k", "n2:k", "n3:k"]
noncomputable def attP : List NsP := attK.flatMap λ k => [(k, ("v" : Str)), (k, ("w" : Str))]
noncomputable def aBT (y : Str) : Bool := !(y.cps.toList.contains 32 || y.cps.toList.contains 60 || y.cps.toList.contains 62) && decide (y.length <= 200)
theorem aA5 {y : Str} (h : aBT y = true) : 32 ∉ y.cps.toList /\ 60 ∉ y.cps.toList /\ 62 ∉ y.cps.toList /\ y.length <= 200 := by
 simp only [aBT, Bool.and_eq_true, Bool.not_eq_true', Bool.or_eq_false_iff, decide_eq_true_eq, List.contains_eq_mem, decide_eq_false_iff_not] at h
 exact ⟨h.1.1.1, h.1.1.2, h.1.2, h.2⟩
theorem f1 : (allP.all λ q => (itT (xnP q) == rowTxt q) && isX (rowTxt q) && aBT (rowTxt q)) = true := by decide +kernel
theorem f2 : (attP.all λ q => !isX (itT q) && (keyOf (itT q) == q.1) && aBT (itT q)) = true := by decide +kernel
noncomputable def okTag (p l : Str) : Bool := aBT (txtQ p l) && (match (txtQ p l).cps.toList with
 | c :: _ => c != 47 && c != 63
 | [] => false) && (if p.length = 0 then !(txtQ p l).cps.toList.contains 58 else (txtQ p l).cps.toList.contains 58 && (Txt.split (txtQ p l) ":" == [p, l]))
theorem f3 : (allP.all λ q => locN.all λ l => okTag q.2 l) = true := by decide +kernel
theorem f4 : (allP.all λ q => (q.1 == xmlU) || (q.1 == "") || (q.1 == "urn:d") || attK.contains (txtQ q.2 "k")) = true := by decide +kernel
theorem f5 : aBT "k" = true /\ keyT [] "k" = "k" := by decide +kernel
theorem f6 : (allP.all λ q => decide (q.2.length = 0 -> q.1 = "urn:d")) = true := by decide +kernel
theorem row1 {q : NsP} (h : q ∈ allP) : itT (xnP q) = rowTxt q /\ isX (rowTxt q) = true /\ aBT (rowTxt q) = true := by
 have := List.all_eq_true.mp f1 q h
 simp only [Bool.and_eq_true, beq_iff_eq] at this
 exact ⟨this.1.1, this.1.2, this.2⟩
theorem row2 {q : NsP} (h : q ∈ attP) : isX (itT q) = false /\ keyOf (itT q) = q.1 /\ aBT (itT q) = true := by
 have := List.all_eq_true.mp f2 q h
 simp only [Bool.and_eq_true, beq_iff_eq, Bool.not_eq_true'] at this
 exact ⟨this.1.1, this.1.2, this.2⟩
structure TagOk (p l : Str) : Prop where
 cl : aBT (txtQ p l) = true
 hd : ∃ c y, (txtQ p l).cps.toList = c :: y /\ c ≠ 47 /\ c ≠ 63
 no : p.length = 0 -> 58 ∉ (txtQ p l).cps.toList
 yes : p.length ≠ 0 -> 58 ∈ (txtQ p l).cps.toList /\ Txt.split (txtQ p l) ":" = [p, l]
theorem aHV {q : NsP} {l : Str} (h : q ∈ allP) (hl : l ∈ locN) : TagOk q.2 l := by
 have := List.all_eq_true.mp (List.all_eq_true.mp f3 q h) l hl
 unfold okTag at this
 simp only [Bool.and_eq_true] at this
 obtain ⟨⟨h1, h2⟩, h3⟩ := this
 refine ⟨h1, ?_, λ e => ?_, λ e => ?_⟩
 ·revert h2
  cases (txtQ q.2 l).cps.toList with
  | nil => exact λ h => by cases h
  | cons c y =>
   intro h
   simp only [Bool.and_eq_true, bne_iff_ne] at h
   exact ⟨c, y, rfl, h.1, h.2⟩
 ·rw [if_pos e] at h3
  simpa using h3
 ·rw [if_neg e] at h3
  simpa using h3
theorem aGI (tx : Str) (row : List NsP) : (cat (aAy tx row)).cps.toList = 60 :: ((Str.join ⟨#[32]⟩ (tx :: row.map itT)).cps.toList ++ [62]) := by
 have h1 : ∀ q, (aAH q).cps.toList = 32 :: (itT q).cps.toList := λ q => by
  unfold aAH itT
  simp only [aAI]
  rfl
 have h2 : (row.map aAH).flatMap (λ y => y.cps.toList) = (row.map itT).flatMap λ y => 32 :: y.cps.toList := by
  rw [List.flatMap_map, List.flatMap_map]
  congr 1
  funext q
  exact h1 q
 have h3 : (cat (if row.isEmpty then [] else [cat (row.map aAH)])).cps.toList = (row.map aAH).flatMap λ y => y.cps.toList := by
  cases row with
  | nil => rfl
  | cons q r =>
   rw [if_neg (by simp), aCo, List.flatMap_cons, List.flatMap_nil, List.append_nil, aCo]
 unfold aAy
 rw [aCo, List.flatMap_cons, List.flatMap_append, ← aCo, h3, h2, aCy, aAI]
 simp
 rfl
theorem aG8 {u p : Str} : ∀ {w : List NsP}, (w.map (·.2)).Nodup -> (u, p) ∈ w -> mnU p w = u
 | [], _, h => by cases h
 | q :: r, hn, h => by
  rw [List.map_cons, List.nodup_cons] at hn
  rcases List.mem_cons.mp h with h | h
  ·unfold mnU aBP
   rw [List.filter_cons_of_pos (by rw [← h]; simp), ← h]
   rfl
  ·have hne : q.2 ≠ p := λ e => hn.1 (List.mem_map.mpr ⟨(u, p), h, e.symm⟩)
   have := aG8 hn.2 h
   unfold mnU aBP at this ⊢
   rw [List.filter_cons_of_neg (by simpa using hne)]
   exact this
end
section
noncomputable def aAN (sv : NSt) (res : List (Str × Str)) (x : Str) (r : List NsP) : List Str := txOf res x :: (xnR sv.decl ++ atR res r).map itT
structure TagFacts (sv : NSt) (x : Str) (r : List NsP) (lv : List NsP) (t : List Str) : Prop where
 hd : ∃ p its, (nmU x, p) ∈ flat sv.decl /\ t = txtQ p (nmL x) :: its
 cl : ∀ y ∈ t, aBT y = true
 len : t.length <= 10
 st : (stated t).Perm (lv.map rowTxt)
 ks : srt ltS ((aBA t).map (keyT (flat sv.decl))) = srt ltS (r.map (·.1))
 kn : ∀ y ∈ aBA t, NmS y
 kl : (aBA t).length <= 4
 tg : ∀ tx its, t = tx :: its -> tagT (flat sv.decl) tx = x /\ NmS tx
 rd : ∀ (ts : List (List Str)) (a : Str), 60 ∉ a.cps.toList -> ∀ z, z.cps.toList = a.cps.toList ++ 60 :: ((Str.join ⟨#[32]⟩ t).cps.toList ++ [62]) -> Rd ts z (ts ++ [t]) []
theorem aD9 (c : Nat) : ∀ (l : List Str), (∀ y ∈ l, y.length <= 200) -> (Str.join ⟨#[c]⟩ l).length <= 201 * l.length
 | [], _ => Nat.le_refl _
 | [x], h => by have := h x (.head _); show x.length <= _; simp; omega
 | x :: y :: r, h => by
  have h1 := aD9 c (y :: r) λ z hz => h z (.tail _ hz)
  have h2 := h x (.head _)
  rw [Str.len_list, aBn, List.length_append, List.length_cons, ← Str.len_list, ← Str.len_list]
  rw [List.length_cons]; omega
theorem aH0 {t : List Str} (h0 : t ≠ []) (hl : t.length <= 10) (hc : ∀ y ∈ t, aBT y = true) (hh : ∃ c y, (t.headD "").cps.toList = c :: y /\ c ≠ 47 /\ c ≠ 63) (ts : List (List Str)) (a : Str) (ha : 60 ∉ a.cps.toList) (z : Str) (hz : z.cps.toList = a.cps.toList ++ 60 :: ((Str.join ⟨#[32]⟩ t).cps.toList ++ [62])) : Rd ts z (ts ++ [t]) [] := by
 have n1 : ∀ c, c ≠ 32 -> (∀ y ∈ t, c ∉ y.cps.toList) -> c ∉ (Str.join ⟨#[32]⟩ t).cps.toList := λ c hc h m => by
  rcases aFP m with e | ⟨y, hy, e⟩
  ·exact hc e
  ·exact h y hy e
 obtain ⟨c, y, e, c1, c2⟩ := hh
 refine .one hz ha (n1 60 (by decide) λ y hy => (aA5 (hc y hy)).2.1) (n1 62 (by decide) λ y hy => (aA5 (hc y hy)).2.2.1) ?_ ?_
 ·have := aD9 32 t λ y hy => (aA5 (hc y hy)).2.2.2
  omega
 ·cases t with
  | nil => exact absurd rfl h0
  | cons x r =>
   have e : x.cps.toList = c :: y := e
   refine .start (c := c) (y := y ++ r.flatMap λ y => 32 :: y.cps.toList) (by rw [aCy, e]; rfl) c1 c2 ?_
   exact aCs (by simp) λ p hp => (aA5 (hc p hp)).1
theorem aG6 {q : NsP} {l : Str} (h : q ∈ allP) (hl : l ∈ locN) : NmS (txtQ q.2 l) := by
 have T := aHV h hl
 have h1 := (aA5 T.cl).2.2.2
 refine ⟨by omega, λ hc => ?_⟩
 by_cases e : q.2.length = 0
 ·exact absurd hc (T.no e)
 ·obtain ⟨_, h2⟩ := T.yes e
  have h3 := (aA2 q h).2
  have h4 : l.length <= (txtQ q.2 l).length := by unfold txtQ; rw [if_neg e, Str.length_append]; omega
  exact ⟨_, _, h2, by omega, by omega⟩
theorem aHh {q : NsP} {l : Str} {w : List NsP} (h : q ∈ allP) (hl : l ∈ locN) (e : q.2.length ≠ 0) : keyT w (txtQ q.2 l) = "{" ++ mnU q.2 w ++ "}" ++ l /\ tagT w (txtQ q.2 l) = "{" ++ mnU q.2 w ++ "}" ++ l := by
 obtain ⟨h1, h2⟩ := (aHV h hl).yes e
 unfold keyT tagT
 rw [if_pos h1, if_pos h1, h2]
 exact ⟨rfl, rfl⟩
theorem aIP {q : NsP} {l : Str} {w : List NsP} (h : q ∈ allP) (hl : l ∈ locN) : tagT w (txtQ q.2 l) = "{" ++ mnU q.2 w ++ "}" ++ l := by
 by_cases e : q.2.length = 0
 ·have h1 := (aHV h hl).no e
  have h2 : txtQ q.2 l = l := if_pos e
  have h3 : q.2 = "" := Str.ext' (by rw [Str.len_list] at e; rw [List.length_eq_zero_iff.mp e]; rfl)
  unfold tagT
  rw [if_neg h1, h2, h3]
 ·exact (aHh h hl e).2
theorem k_loc : ("k" : Str) ∈ locN := .head _
theorem aG4 : xmlU ∉ nsAll := by decide +kernel
theorem att_ok {rw : Bool} {sv : NSt} {res : List (Str × Str)} {q : NsP} (g : Good rw sv) (h1 : q.1 ∈ attN) (h2 : q.2 ∈ (["v", "w"] : List Str)) (hx : OkTx rw sv q.1 (txOf res q.1)) : atP res q ∈ attP /\ keyT (flat sv.decl) (atP res q).1 = q.1 /\ NmS (atP res q).1 := by
 have hin : ∀ k, k ∈ attK -> (k, q.2) ∈ attP := λ k hk => List.mem_flatMap.mpr ⟨k, hk, by
  simp only [List.mem_cons, List.not_mem_nil, or_false] at h2 ⊢
  rcases h2 with h | h
  ·left; rw [h]
  ·right; rw [h]⟩
 obtain ⟨a1, a2, a3⟩ := aHL q.1 h1
 rcases a3 with ⟨b1, b2⟩ | ⟨b1, b2, b3⟩
 ·have e : atP res q = (("k" : Str), q.2) := by
   unfold atP
   rw [b1, a2]
   rfl
  rw [e]
  have h58 : 58 ∉ ("k" : Str).cps.toList := by decide +kernel
  have h1k : ("k" : Str).length <= 1000 := by decide +kernel
  refine ⟨hin _ (.head _), ?_, h1k, λ h => absurd h h58⟩
  rw [b2]
  exact if_neg h58
 ·rcases hx with ⟨p, c1, c2⟩ | ⟨_, c, _⟩
  ·rw [a2] at c2
   have e : atP res q = (txtQ p "k", q.2) := by
    unfold atP
    rw [if_neg (λ h => b1 (Str.ext' (by rw [Str.len_list] at h; rw [List.length_eq_zero_iff.mp h]; rfl))), c2]
   have hall := g.all c1
   have hk : txtQ p "k" ∈ attK := by
    have := List.all_eq_true.mp f4 _ hall
    simp only [Bool.or_eq_true, beq_iff_eq, List.contains_eq_mem, decide_eq_true_eq] at this
    rcases this with ((h | h) | h) | h
    ·exact absurd (h ▸ a1) aG4
    ·exact absurd h b1
    ·exact absurd h b2
    ·exact h
   have hp : p.length ≠ 0 := λ h => b2 (by simpa using of_decide_eq_true (List.all_eq_true.mp f6 _ hall) h)
   rw [e]
   refine ⟨hin _ hk, ?_, aG6 hall k_loc⟩
   rw [(aHh (w := flat sv.decl) hall k_loc hp).1, aG8 g.dp c1, b3]
  ·exact absurd c b1
theorem aGD {rw : Bool} {sv : NSt} {res : List (Str × Str)} {x : Str} {r lv : List NsP} {D : List (List NsP)} (g : Good rw sv) (hx : x ∈ tagN) (hd : sv.decl = D ++ [lv]) (h3 : lv.length <= 3) (hr : ∀ q ∈ r, q.1 ∈ attN /\ q.2 ∈ (["v", "w"] : List Str)) (h2 : r.length <= 2)
  (htx : ∀ y ∈ x :: r.map (·.1), OkTx rw sv y (txOf res y)) : TagFacts sv x r lv (aAN sv res x r) := by
 obtain ⟨t1, t2, t3, t4⟩ := aGE x hx
 have hsx : ∃ p, (nmU x, p) ∈ flat sv.decl /\ txOf res x = txtQ p (nmL x) := by
  rcases htx x (.head _) with h | ⟨_, h, _⟩
  ·exact h
  ·exact absurd h t2
 obtain ⟨p, p1, p2⟩ := hsx
 have hall := g.all p1
 have T := aHV hall t3
 have hat : ∀ q ∈ srt lt2 r, atP res q ∈ attP /\ keyT (flat sv.decl) (atP res q).1 = q.1 /\ NmS (atP res q).1 := λ q hq => by
  have hq := (aAC (lt := lt2) r).subset hq
  exact att_ok g (hr q hq).1 (hr q hq).2 (htx q.1 (.tail _ (List.mem_map.mpr ⟨q, hq, rfl⟩)))
 have htop : topV sv.decl = lv := by rw [hd]; unfold topV; simp
 have hxp : (xnR sv.decl).Perm (lv.map xnP) := by unfold xnR; rw [htop]; exact aAC _
 have hlv : ∀ q ∈ lv, q ∈ allP := λ q hq => g.all (by rw [hd, aAw]; exact List.mem_append_left _ hq)
 have hxr : ∀ q ∈ xnR sv.decl, isX (itT q) = true /\ aBT (itT q) = true := λ q hq => by
  obtain ⟨q', hq', rfl⟩ := List.mem_map.mp (hxp.subset hq)
  obtain ⟨e1, e2, e3⟩ := row1 (hlv q' hq')
  rw [e1]; exact ⟨e2, e3⟩
 have har : ∀ q ∈ atR res r, isX (itT q) = false /\ keyOf (itT q) = q.1 /\ aBT (itT q) = true := λ q hq => by
  obtain ⟨q', hq', rfl⟩ := List.mem_map.mp hq
  exact row2 (hat q' hq').1
 have hst : stated (aAN sv res x r) = (xnR sv.decl).map itT := by
  unfold stated aAN
  rw [List.drop_one, List.tail_cons, List.map_append, List.filter_append, List.filter_eq_self.mpr, List.filter_eq_nil_iff.mpr, List.append_nil]
  ·intro y hy
   obtain ⟨q, hq, rfl⟩ := List.mem_map.mp hy
   rw [(har q hq).1]; decide
  ·intro y hy
   obtain ⟨q, hq, rfl⟩ := List.mem_map.mp hy
   exact (hxr q hq).1
 have hks : aBA (aAN sv res x r) = (atR res r).map (·.1) := by
  unfold aBA aAN
  rw [List.drop_one, List.tail_cons, List.map_append, List.filter_append, List.filter_eq_nil_iff.mpr, List.filter_eq_self.mpr, List.nil_append, List.map_map]
  ·refine List.map_congr_left λ q hq => ?_
   simp only [Function.comp_apply]
   exact (har q hq).2.1
  ·intro y hy
   obtain ⟨q, hq, rfl⟩ := List.mem_map.mp hy
   rw [(har q hq).1]; rfl
  ·intro y hy
   obtain ⟨q, hq, rfl⟩ := List.mem_map.mp hy
   rw [(hxr q hq).1]; decide
 have hkm : (aBA (aAN sv res x r)).map (keyT (flat sv.decl)) = (srt lt2 r).map (·.1) := by
  rw [hks]
  unfold atR
  rw [List.map_map, List.map_map]
  refine List.map_congr_left λ q hq => ?_
  simp only [Function.comp_apply]
  exact (hat q hq).2.1
 have hlr : (srt lt2 r).length = r.length := (aAC r).length_eq
 have hlx : (xnR sv.decl).length = lv.length := by rw [hxp.length_eq, List.length_map]
 have hlen : (aAN sv res x r).length <= 10 := by
  unfold aAN atR
  rw [List.length_cons, List.length_map, List.length_append, List.length_map]; omega
 have hcl : ∀ y ∈ aAN sv res x r, aBT y = true := λ y hy => by
  rcases List.mem_cons.mp hy with h | h
  ·rw [h, p2]; exact T.cl
  ·obtain ⟨q, hq, rfl⟩ := List.mem_map.mp h
   rcases List.mem_append.mp hq with h | h
   ·exact (hxr q h).2
   ·exact (har q h).2.2
 have hdt : aAN sv res x r = txtQ p (nmL x) :: (xnR sv.decl ++ atR res r).map itT := by rw [← p2]; rfl
 have hhd : ∃ c y, ((aAN sv res x r).headD "").cps.toList = c :: y /\ c ≠ 47 /\ c ≠ 63 := by
  rw [hdt]
  exact T.hd
 have hne : aAN sv res x r ≠ [] := by rw [hdt]; exact List.cons_ne_nil _ _
 have hst2 : (stated (aAN sv res x r)).Perm (lv.map rowTxt) := by
  rw [hst]
  have h := hxp.map itT
  rw [List.map_map] at h
  have e : lv.map (itT ∘ xnP) = lv.map rowTxt := List.map_congr_left λ q hq => (row1 (hlv q hq)).1
  rwa [e] at h
 have hks2 : srt ltS ((aBA (aAN sv res x r)).map (keyT (flat sv.decl))) = srt ltS (r.map (·.1)) := by
  rw [hkm]
  exact aCZ tot_str ((aAC r).map _)
 have hkn : ∀ y ∈ aBA (aAN sv res x r), NmS y := by
  rw [hks]
  intro y hy
  obtain ⟨q, hq, rfl⟩ := List.mem_map.mp hy
  obtain ⟨q', hq', rfl⟩ := List.mem_map.mp hq
  exact (hat q' hq').2.2
 have hkl : (aBA (aAN sv res x r)).length <= 4 := by
  rw [hks]
  unfold atR
  rw [List.length_map, List.length_map]; omega
 have htg : ∀ tx its, aAN sv res x r = tx :: its -> tagT (flat sv.decl) tx = x /\ NmS tx := by
  intro tx its e
  rw [hdt] at e
  injection e with e _
  rw [← e, aIP (w := flat sv.decl) hall t3, aG8 g.dp p1, t4]
  exact ⟨rfl, aG6 hall t3⟩
 exact ⟨⟨p, _, p1, hdt⟩, hcl, hlen, hst2, hks2, hkn, hkl, htg, aH0 hne hlen hcl hhd⟩
end
section
inductive Opn : List (List NsP) -> List Str -> List (List Str) -> Prop
 | nil : Opn [[xmlP]] [] []
 | snoc {D : List (List NsP)} {ns : List Str} {ts : List (List Str)} {lv : List NsP} {x p : Str} {its : List Str} : Opn D ns ts -> (nmU x, p) ∈ lv ++ flat D -> (stated (txtQ p (nmL x) :: its)).Perm (lv.map rowTxt) -> lv.length <= 3 -> (txtQ p (nmL x) :: its).length <= 10 -> (∀ y ∈ txtQ p (nmL x) :: its, aBT y = true) -> x ∈ tagN -> Opn (D ++ [lv]) (ns ++ [x]) (ts ++ [txtQ p (nmL x) :: its])
theorem Opn.inv {E : List (List NsP)} {n : List Str} {T : List (List Str)} (h : Opn E n T) : ∀ {ns : List Str} {x : Str}, n = ns ++ [x] -> ∃ D lv ts p its, E = D ++ [lv] /\ T = ts ++ [txtQ p (nmL x) :: its] /\ Opn D ns ts /\ (nmU x, p) ∈ lv ++ flat D /\ (∀ y ∈ txtQ p (nmL x) :: its, aBT y = true) /\ x ∈ tagN := by
 cases h with
 | nil => intro ns x e; exact absurd (congrArg List.length e) (by simp)
 | @snoc D ns ts lv x p its h1 h2 h3 h4 h5 h6 h7 =>
  intro ns' x' e
  obtain ⟨rfl, e2⟩ := List.append_inj' e rfl
  injection e2 with e2
  subst e2
  exact ⟨D, lv, ts, p, its, rfl, rfl, h1, h2, h6, h7⟩
theorem Opn.lens {D : List (List NsP)} {ns : List Str} {ts : List (List Str)} (h : Opn D ns ts) : D.length = ns.length + 1 /\ ts.length = ns.length := by
 induction h with
 | nil => exact ⟨rfl, rfl⟩
 | snoc _ _ _ _ _ _ _ ih => simp [ih.1, ih.2]
theorem Opn.ne {D : List (List NsP)} {ns : List Str} {ts : List (List Str)} (h : Opn D ns ts) : D ≠ [] := λ e => by
 have := h.lens.1
 rw [e] at this
 simp at this
theorem aIK : rowTxt xmlP = xmlRow := by decide +kernel
theorem Opn.rows {D : List (List NsP)} {ns : List Str} {ts : List (List Str)} (h : Opn D ns ts) : (flat D).length <= 60 -> RowsOk ts.reverse ((flat D).map rowTxt) [xmlRow] := by
 induction h with
 | nil =>
  intro _
  rw [show (flat [[xmlP]]).map rowTxt = [xmlRow] by rw [← aIK]; rfl]
  exact .nil
 | @snoc D ns ts lv x p its h1 h2 h3 h4 h5 h6 h7 ih =>
  intro hz
  rw [aAw, List.length_append] at hz
  rw [aAw, List.map_append, List.reverse_append]
  exact .cons h3 (by rw [List.length_map]; omega) (by omega) (λ y hy => by have := (aA5 (h6 y hy)).2.2.2; omega) (by rw [List.length_map]; omega) (ih (by omega))
theorem rd_end {tx : Str} {its : List Str} {ts : List (List Str)} {a z : Str} (hc : aBT tx = true) (ha : 60 ∉ a.cps.toList) (hz : z.cps.toList = a.cps.toList ++ (aCn tx).cps.toList) : Rd (ts ++ [tx :: its]) z ts [(tx, tx)] := by
 have e : (aCn tx).cps.toList = 60 :: (("/" ++ tx : Str).cps.toList ++ [62]) := by
  unfold aCn
  rw [aAI, aAI, aAI]; rfl
 have e2 : ("/" ++ tx : Str).cps.toList = 47 :: tx.cps.toList := by rw [aAI]; rfl
 obtain ⟨_, h60, h62, hl⟩ := aA5 hc
 refine .one (by rw [hz, e]) ha (by rw [e2]; simpa using h60) (by rw [e2]; simpa using h62) ?_ (.fin e2)
 rw [Str.len_list, e2, List.length_cons, ← Str.len_list]; omega
theorem qn_end {rw : Bool} {s : NSt} {D : List (List NsP)} {lv : List NsP} {x p : Str} (g : Good rw s) (hd : s.decl = D ++ [lv]) (h : (nmU x, p) ∈ lv ++ flat D) : qnV rw s (nmU x) (nmL x) = some (txtQ p (nmL x), s) := by
 have h1 : (nmU x, p) ∈ flat s.decl := by rw [hd, aAw]; exact h
 unfold qnV
 rw [g.findN, aDM g.du h1]
 rfl
theorem Good.pop {rw : Bool} {s : NSt} {D : List (List NsP)} {lv : List NsP} {n : List (List NsP)} (g : Good rw s) (hd : s.decl = D ++ [lv]) : Good rw ⟨D, n, s.pm⟩ := by
 have e : flat s.decl = lv ++ flat D := by rw [hd, aAw]
 have hs : (flat D).Sublist (flat s.decl) := by rw [e]; exact List.sublist_append_right _ _
 exact ⟨(hs.map _).nodup g.du, (hs.map _).nodup g.dp, λ q hq => g.dm q (hs.subset hq), g.pu, g.pp, g.ps⟩
theorem aCj {q : NsP} {ls : List (List NsP)} (h : ls ≠ []) : aA7 q ls = ls.dropLast ++ [ls.getLast h ++ [q]] := by
 have e := (List.dropLast_concat_getLast h).symm
 conv => lhs; rw [e]
 rw [aCx]
theorem aDj {q : NsP} {ls : List (List NsP)} (h : ls ≠ []) : (flat (aA7 q ls)).Perm (q :: flat ls) := by
 have e := (List.dropLast_concat_getLast h).symm
 rw [aCj h, aAw]
 conv => rhs; rw [e, aAw]
 rw [List.append_assoc]
 exact List.perm_middle
noncomputable def told3 : List NsP := [("urn:a", "p"), ("urn:b", "q"), ("urn:d", "")]
structure NsInv (i n : Nat) (nss : List (List NsP)) : Prop where
 sp : ∃ B R, nss = B ++ R /\ R.length = n /\ B ≠ [] /\ (∀ q ∈ told3.take i, q ∈ flat B) /\ B.length <= 2
 al : ∀ q ∈ flat nss, q ∈ nmapV \/ q ∈ kP
theorem aFf : ∀ q ∈ nmapV, q.1 ∉ nsAll /\ aCE q := by
 have h : (nmapV.all λ q => decide (q.1 ∉ nsAll) && decide (q.1.length <= 1000) && decide (q.2.length <= 1000)) = true := by decide +kernel
 intro q hq
 have := List.all_eq_true.mp h q hq
 simp only [Bool.and_eq_true, decide_eq_true_eq] at this
 exact ⟨this.1.1, this.1.2, this.2⟩
theorem kP_ns : ∀ q ∈ kP, q.1 ≠ "" := by decide +kernel
theorem aIM : ∀ u ∈ nsAll, u = "" \/ ∃ q ∈ told3, q.1 = u := by decide +kernel
theorem aIi (a b : List (List NsP)) : flat (a ++ b) = flat b ++ flat a := by unfold flat; rw [List.reverse_append, List.flatten_append]
theorem NsInv.ok {i n : Nat} {nss : List (List NsP)} (h : NsInv i n nss) (hi : 3 <= i) (rw : Bool) : aIp rw (flat nss) := by
 intro _ u hu
 obtain ⟨B, R, e, _, _, h3, _⟩ := h.sp
 rcases aIM u hu with h0 | ⟨q, hq, e2⟩
 ·refine .inl ⟨h0, List.find?_eq_none.mpr λ q hq => ?_⟩
  rcases h.al q hq with h1 | h1
  ·have := (aFf q h1).1
   simp only [decide_eq_true_eq]
   exact λ e => this (e ▸ hu)
  ·have := kP_ns q h1
   simp only [decide_eq_true_eq, h0]
   exact this
 ·have hq2 : q ∈ flat nss := by
   rw [e, aIi]
   exact List.mem_append_right _ (h3 q (by rw [List.take_of_length_le (by exact hi)]; exact hq))
  cases hf : (flat nss).find? λ q => decide (q.1 = u) with
  | none => have := List.find?_eq_none.mp hf q hq2; simp [e2] at this
  | some r =>
   have h1 := List.mem_of_find?_eq_some hf
   have h2 : r.1 = u := by simpa using List.find?_some hf
   rcases h.al r h1 with h4 | h4
   ·exact absurd hu (by rw [← h2]; exact (aFf r h4).1)
   ·exact .inr ⟨by rw [← h2]; exact kP_ns r h4, r.2, by rw [← h2], by rw [← h2]; exact h4⟩
theorem NsInv.small {i n : Nat} {nss : List (List NsP)} (h : NsInv i n nss) {q : NsP} (hq : q ∈ flat nss) : aCE q := by
 rcases h.al q hq with h1 | h1
 ·exact (aFf q h1).2
 ·have := aA2 q (.tail _ (List.mem_append_left _ h1))
  exact ⟨by omega, by omega⟩
theorem NsInv.ne {i n : Nat} {nss : List (List NsP)} (h : NsInv i n nss) : nss ≠ [] := by
 obtain ⟨B, R, e, _, h2, _⟩ := h.sp
 rw [e]
 exact λ h => h2 (List.append_eq_nil_iff.mp h).1
theorem NsInv.laid {i n i1 : Nat} {nss : List (List NsP)} {q : NsP} (h : NsInv i n nss) (hq : q ∈ kP) (hi : i1 = i \/ (n = 0 /\ ∀ r ∈ told3.take i1, r = q \/ r ∈ told3.take i)) : NsInv i1 n (aA7 q nss) := by
 obtain ⟨B, R, e, h1, h2, h3, hB⟩ := h.sp
 refine ⟨?_, λ r hr => ?_⟩
 ·by_cases hR : R = []
  ·subst hR
   rw [List.append_nil] at e
   subst e
   refine ⟨aA7 q nss, [], by rw [List.append_nil], h1, by rw [aCj h2]; simp, λ r hr => (aDj h2).symm.subset ?_, by rw [aCj h2, List.length_append, List.length_dropLast, List.length_singleton]; have := List.length_pos_iff.mpr h2; omega⟩
   rcases hi with rfl | ⟨_, hi⟩
   ·exact .tail _ (h3 r hr)
   ·rcases hi r hr with rfl | hr
    ·exact .head _
    ·exact .tail _ (h3 r hr)
  ·have e2 := (List.dropLast_concat_getLast hR).symm
   refine ⟨B, aA7 q R, ?_, ?_, h2, ?_, hB⟩
   ·rw [e, aCj hR]
    conv => lhs; rw [e2, ← List.append_assoc, aCx]
    rw [List.append_assoc]
   ·rw [aCj hR, List.length_append, List.length_dropLast, List.length_singleton]
    have := List.length_pos_iff.mpr hR
    omega
   ·rcases hi with rfl | ⟨h0, _⟩
    ·exact h3
    ·exact absurd (List.length_eq_zero_iff.mp (h1.trans h0)) hR
 ·rcases List.mem_cons.mp ((aDj h.ne).subset hr) with rfl | hr
  ·exact .inr hq
  ·exact h.al r hr
theorem NsInv.len {i n : Nat} {nss : List (List NsP)} (h : NsInv i n nss) : nss.length <= n + 2 /\ n + 1 <= nss.length := by
 obtain ⟨B, R, e, h1, h2, h3, hB⟩ := h.sp
 have := List.length_pos_iff.mpr h2
 rw [e, List.length_append]; omega
theorem NsInv.push {i n i1 : Nat} {nss : List (List NsP)} (h : NsInv i n nss) (hi : told3.take i1 = told3.take i) : NsInv i1 (n + 1) (nss ++ [[]]) := by
 obtain ⟨B, R, e, h1, h2, h3, hB⟩ := h.sp
 refine ⟨⟨B, R ++ [[]], by rw [e, List.append_assoc], by simp [h1], h2, by rw [hi]; exact h3, hB⟩, λ q hq => h.al q ?_⟩
 rw [aAw] at hq
 exact hq
theorem NsInv.pop {i n : Nat} {nss : List (List NsP)} (h : NsInv i (n + 1) nss) : NsInv i n nss.dropLast := by
 obtain ⟨B, R, e, h1, h2, h3, hB⟩ := h.sp
 have hR : R ≠ [] := λ e => by rw [e] at h1; cases h1
 refine ⟨⟨B, R.dropLast, by rw [e, List.dropLast_append_of_ne_nil hR], by rw [List.length_dropLast]; omega, h2, h3, hB⟩, λ q hq => h.al q ?_⟩
 have e2 := (List.dropLast_concat_getLast h.ne).symm
 rw [e2, aAw]
 exact List.mem_append_right _ hq
end
section
structure Inv8 (rw : Bool) (k i : Nat) (ns : List Str) (m : Wm) (outs : List Str) (ts : List (List Str)) : Prop where
 ig : m.ig = 0
 held : ∀ x ∈ m.held, x = "tx"
 hz : m.held.length <= k
 opn : Opn (nsOf m).decl ns ts
 ps : m.ps.length = ns.length + 1
 nss : NsInv i ns.length (nsOf m).nss
 nz : (flat (nsOf m).nss).length <= k + 7
 good : Good rw (nsOf m)
 rs : i = 4 -> m.rs = true
 rd : (i < 4 \/ ns ≠ []) -> m.rd = false
 oz : outs.length <= 5 * k
noncomputable def Told (rw : Bool) (k i1 : Nat) (ns1 : List Str) (c : Cal) (m' : Wm) (outs' xs : List Str) (ts : List (List Str)) : Prop :=
 ∃ ts' es, Inv8 rw (k + 1) i1 ns1 m' outs' ts' /\ Rd ts (cat xs) ts' es /\ es.map (·.2) = es.map (·.1) /\ es.length <= 1 /\ (cat xs).length <= 100000 /\ ∀ x j, c = .start x j -> ∃ lv t ts0, ts' = ts0 ++ [t] /\ TagFacts (nsOf m') x (rowV j) lv t
theorem TagFacts.decl {sv s' : NSt} {x : Str} {r lv : List NsP} {t : List Str} (h : TagFacts sv x r lv t) (e : s'.decl = sv.decl) : TagFacts s' x r lv t :=
 ⟨by rw [e]; exact h.hd, h.cl, h.len, h.st, by rw [e]; exact h.ks, h.kn, h.kl, by rw [e]; exact h.tg, h.rd⟩
theorem tx_len : ("tx" : Str).length = 2 := by decide +kernel
theorem aEb : ∀ {l : List Str}, (∀ x ∈ l, x = "tx") -> (cat l).length = 2 * l.length
 | [], _ => rfl
 | x :: r, h => by
  show (x ++ cat r).length = _
  rw [Str.length_append, aEb (l := r) λ y hy => h y (.tail _ hy), h x (.head _), tx_len, List.length_cons]; omega
section
variable {rw : Bool} {k i i1 : Nat} {ns : List Str} {m : Wm} {outs : List Str} {ts : List (List Str)}
theorem Inv8.hc (V : Inv8 rw k i ns m outs ts) (hk : k <= 140) : (cat m.held).length <= txtLine := by
 have h1 := aEb V.held
 have h2 := V.hz
 unfold txtLine; omega
theorem Inv8.fl60 (V : Inv8 rw k i ns m outs ts) : 60 ∉ (cat m.fl).cps.toList := λ h => by
 obtain ⟨y, hy, hc⟩ := aG9 h
 unfold Wm.fl aB4 at hy
 split at hy
 ·split at hy
  ·cases hy
  ·rw [List.mem_singleton] at hy
   exact aHx (.inl rfl) (hy ▸ hc)
 ·cases hy
theorem Inv8.flz (V : Inv8 rw k i ns m outs ts) (hk : k <= 140) : (cat m.fl).length <= 2000 := by
 have h1 := aEb V.held
 have h2 := V.hz
 unfold Wm.fl aB4
 split
 ·split
  ·exact Nat.zero_le _
  ·show (escC (cat m.held) ++ Str.empty).length <= _
   have := aFZ (cat m.held)
   rw [Str.length_append, aEI]; omega
 ·exact Nat.zero_le _
theorem inv_ns (V : Inv8 rw k i ns m outs ts) (hk : k <= 140) {p u : Str} (a : Addr) (hq : (u, p) ∈ kP) (h4 : i1 = 4 -> i = 4) (h5 : i1 < 4 -> i < 4) (hi : i1 = i \/ (ns.length = 0 /\ ∀ r ∈ told3.take i1, r = (u, p) \/ r ∈ told3.take i)) :
  Told rw k i1 ns (.ns p u) { m with held := [], nl := aA0 (a, u, p) m.nl } (outs ++ m.fl) m.fl ts := by
 have hn : (nsOf { m with held := [], nl := aA0 (a, u, p) m.nl }).nss = aA7 (u, p) (nsOf m).nss := aBR (a, u, p) m.nl
 have hl := V.nz
 have ho := V.oz
 have hf := aEP m
 refine ⟨ts, [], ⟨V.ig, λ _ h => (by cases h), Nat.zero_le _, V.opn, V.ps, by rw [hn]; exact V.nss.laid hq hi, ?_, ⟨V.good.du, V.good.dp, V.good.dm, V.good.pu, V.good.pp, V.good.ps⟩, λ h => V.rs (h4 h), λ h => V.rd (h.imp h5 id), ?_⟩, .none V.fl60, rfl, Nat.zero_le _, by have := V.flz hk; omega, λ _ _ h => by cases h⟩
 ·rw [hn, (aDj V.nss.ne).length_eq, List.length_cons]; omega
 ·rw [List.length_append]; omega
theorem aJk (V : Inv8 rw k i ns m outs ts) : Told rw k i ns .txt (m.data "tx") outs [] ts := by
 have e : m.data "tx" = { m with held := m.held ++ [("tx" : Str)] } := if_pos V.ig
 have hl := V.nz
 have ho := V.oz
 have hz := V.hz
 rw [e]
 refine ⟨ts, [], ⟨V.ig, λ x h => ?_, ?_, V.opn, V.ps, V.nss, ?_, ⟨V.good.du, V.good.dp, V.good.dm, V.good.pu, V.good.pp, V.good.ps⟩, V.rs, V.rd, by omega⟩, .none (λ h => by cases h), rfl, Nat.zero_le _, Nat.zero_le _, λ _ _ h => by cases h⟩
 ·rcases List.mem_append.mp h with h | h
  ·exact V.held x h
  ·exact List.mem_singleton.mp h
 ·show (m.held ++ [("tx" : Str)]).length <= _
  rw [List.length_append, List.length_singleton]; omega
 ·show (flat (nsOf m).nss).length <= _
  omega
theorem pi_mo : (aCv "m" "o").cps.toList = 60 :: (("?m o?" : Str).cps.toList ++ [62]) := by decide +kernel
theorem q60 : 60 ∉ ("?m o?" : Str).cps.toList /\ 62 ∉ ("?m o?" : Str).cps.toList /\ ("?m o?" : Str).length <= 100000 /\ ("?m o?" : Str).cps.toList = 63 :: [109, 32, 111, 63] /\ (aCv "m" "o").length <= 100 := by decide +kernel
theorem aJl (V : Inv8 rw k i ns m outs ts) (hk : k <= 140) : Told rw k i ns .ord { m with held := [] } (outs ++ (m.fl ++ [aCv "m" "o"])) (m.fl ++ [aCv "m" "o"]) ts := by
 have hl := V.nz
 have ho := V.oz
 have hf := aEP m
 have hfz := V.flz hk
 obtain ⟨a1, a2, a3, a4, a5⟩ := q60
 have ec : cat (m.fl ++ [aCv "m" "o"]) = cat m.fl ++ aCv "m" "o" := by
  rw [aAR]
  show cat m.fl ++ (aCv "m" "o" ++ Str.empty) = _
  exact congrArg (cat m.fl ++ ·) (Str.ext' (by rw [aAI]; exact List.append_nil _))
 refine ⟨ts, [], ⟨V.ig, λ _ h => (by cases h), Nat.zero_le _, V.opn, V.ps, V.nss, ?_, ⟨V.good.du, V.good.dp, V.good.dm, V.good.pu, V.good.pp, V.good.ps⟩, V.rs, V.rd, ?_⟩, ?_, rfl, Nat.zero_le _, ?_, λ _ _ h => by cases h⟩
 ·show (flat (nsOf m).nss).length <= _
  omega
 ·rw [List.length_append, List.length_append, List.length_singleton]; omega
 ·rw [ec]
  exact .one (a := cat m.fl) (b := "?m o?") (by rw [aAI, pi_mo]) V.fl60 a1 a2 a3 (.ord a4)
 ·rw [ec, Str.length_append]; omega
theorem aF5 (l : List Str) (x : Str) : cat (l ++ [x]) = cat l ++ x := by
 rw [aAR]
 exact congrArg (cat l ++ ·) (Str.ext' (by show (x ++ Str.empty).cps.toList = _; rw [aAI]; exact List.append_nil _))
theorem aJm {x : Str} (V : Inv8 rw k i (ns ++ [x]) m outs ts) (hk : k <= 140) (h4 : i = 4) : ∃ tx, qnV rw (nsOf m) (nmU x) (nmL x) = some (tx, nsOf m) /\ tx.length <= 2000 /\ x ∈ tagN ∧
  ∀ dl pm, nsOf { m with dl := dl, pm := pm } = nsOf m -> Told rw k i ns (.fin x) (m.done dl pm) (outs ++ (m.fl ++ [aCn tx])) (m.fl ++ [aCn tx]) ts := by
 obtain ⟨D, lv, ts0, p, its, e1, rfl, h1, h2, h3, h4'⟩ := V.opn.inv rfl
 have hc := h3 _ (.head _)
 have hcl := (aA5 hc).2.2.2
 refine ⟨_, qn_end V.good e1 h2, by omega, h4', λ dl pm he => ?_⟩
 have ho := V.oz
 have hf := aEP m
 have hfz := V.flz hk
 have hl := V.nz
 have hd : dl.map Lv.val = (nsOf m).decl := congrArg NSt.decl he
 have hpm : pm.map (λ p => (p.1, p.2.1)) = (nsOf m).pm := congrArg NSt.pm he
 have hnd : (nsOf (m.done dl pm)).decl = D := by
  show dl.dropLast.map Lv.val = D
  rw [List.map_dropLast, hd, e1]; simp
 have hnn : (nsOf (m.done dl pm)).nss = (nsOf m).nss.dropLast := by
  show m.nl.dropLast.map Lv.val = (m.nl.map Lv.val).dropLast
  rw [List.map_dropLast]
 have hg := V.good.pop (n := (nsOf m).nss.dropLast) e1
 have hns : nsOf (m.done dl pm) = ⟨D, (nsOf m).nss.dropLast, (nsOf m).pm⟩ := by
  rw [← hnd, ← hnn, ← hpm]; rfl
 have hnss : NsInv i (ns.length + 1) (nsOf m).nss := by have := V.nss; rwa [List.length_append] at this
 have hps := V.ps
 rw [List.length_append, List.length_singleton] at hps
 have he1 : aCn (txtQ p (nmL x)) = "</" ++ txtQ p (nmL x) ++ ">" := rfl
 have he2 : ("</" : Str).length = 2 := by decide +kernel
 have he3 : (">" : Str).length = 1 := by decide +kernel
 have hel : (aCn (txtQ p (nmL x))).length <= 300 := by rw [he1, Str.length_append, Str.length_append]; omega
 refine ⟨ts0, [(txtQ p (nmL x), txtQ p (nmL x))], ⟨V.ig, λ _ h => (by cases h), Nat.zero_le _, by rw [hnd]; exact h1, ?_, by rw [hnn]; exact hnss.pop, ?_, by rw [hns]; exact hg, λ h => V.rs h, λ h => ?_, ?_⟩, ?_, rfl, Nat.le_refl _, ?_, λ _ _ h => by cases h⟩
 ·show m.ps.dropLast.length = _
  rw [List.length_dropLast]; omega
 ·rw [hnn]
  have e2 := (List.dropLast_concat_getLast V.nss.ne).symm
  have : (flat (nsOf m).nss).length = ((nsOf m).nss.getLast V.nss.ne ++ flat (nsOf m).nss.dropLast).length := by conv => lhs; rw [e2, aAw]
  rw [List.length_append] at this
  omega
 ·show decide (m.ps.length = 2) = false
  rw [decide_eq_false_iff_not, hps]
  rcases h with h | h
  ·omega
  ·have := List.length_pos_iff.mpr h
   omega
 ·rw [List.length_append, List.length_append, List.length_singleton]; omega
 ·rw [aF5]
  exact rd_end hc V.fl60 (aAI ..)
 ·rw [aF5, Str.length_append]; omega
theorem aDS (tx : Str) (row : List NsP) : (aAy tx row).length <= 3 := by
 unfold aAy
 split <;> simp
theorem aHj {x : Str} {j : Nat} {l : List (Str × Str × Tok)} (V : Inv8 rw k i ns m outs ts) (hk : k <= 140) (h3 : 3 <= i) (hi4 : i <= 4) (hn4 : i = 4 -> ns ≠ []) (hx : x ∈ tagN) (hj : j < 6) (hl : atQ l = rowV j) :
  ∃ res sv, StOk rw (nsOf m).opn x l res sv /\ ∀ dl pm pb a, nsOf { m with dl := dl, pm := pm } = sv -> Told rw k 4 (ns ++ [x]) (.start x j) (m.begun dl pm pb a) (outs ++ (m.fl ++ aAy (txOf res x) (xnR sv.decl ++ atR res (atQ l)))) (m.fl ++ aAy (txOf res x) (xnR sv.decl ++ atR res (atQ l))) ts := by
 have hl' := V.nz
 obtain ⟨res, sv, hst, g2, n2, ⟨lv, d1, d2⟩, htx⟩ := st_ok V.good (V.nss.ok h3 rw) ⟨by omega, λ q hq => V.nss.small hq⟩ hx hj hl
 obtain ⟨r1, r2, r3⟩ := aFb j (List.mem_range.mpr hj)
 have T := aGD g2 hx d1 d2 r3 r2 htx
 refine ⟨res, sv, hst, λ dl pm pb a he => ?_⟩
 have ho := V.oz
 have hf := aEP m
 have hfz := V.flz hk
 have hd : dl.map Lv.val = sv.decl := congrArg NSt.decl he
 have hpm : pm.map (λ p => (p.1, p.2.1)) = sv.pm := congrArg NSt.pm he
 have hns : nsOf (m.begun dl pm pb a) = ⟨sv.decl, (nsOf m).nss ++ [[]], sv.pm⟩ := by
  rw [← hd, ← hpm]
  show NSt.mk _ ((m.nl ++ [(⟨a, []⟩ : Lv)]).map Lv.val) _ = _
  rw [List.map_append]; rfl
 have hnd : (nsOf (m.begun dl pm pb a)).decl = sv.decl := by rw [hns]
 obtain ⟨p, its, p1, p2⟩ := T.hd
 have ht : aAN sv res x (rowV j) = txtQ p (nmL x) :: its := p2
 have hsl := aDS (txOf res x) (xnR sv.decl ++ atR res (rowV j))
 have hcat : (cat (m.fl ++ aAy (txOf res x) (xnR sv.decl ++ atR res (rowV j)))).cps.toList = (cat m.fl).cps.toList ++ 60 :: ((Str.join ⟨#[32]⟩ (aAN sv res x (rowV j))).cps.toList ++ [62]) := by
  rw [aAR, aAI, aGI]; rfl
 have hjl := aD9 32 (aAN sv res x (rowV j)) λ y hy => (aA5 (T.cl y hy)).2.2.2
 have htl := T.len
 rw [hl]
 refine ⟨ts ++ [aAN sv res x (rowV j)], [], ⟨V.ig, λ _ h => (by cases h), Nat.zero_le _, ?_, ?_, ?_, ?_, ?_, λ _ => rfl, λ h => ?_, ?_⟩, T.rd ts _ V.fl60 _ hcat, rfl, Nat.zero_le _, ?_, λ x' j' h => ?_⟩
 ·rw [hnd, d1, ht]
  refine .snoc V.opn (by rw [d1, aAw] at p1; exact p1) (by rw [← ht]; exact T.st) d2 (by rw [← ht]; exact T.len) (by rw [← ht]; exact T.cl) hx
 ·show (m.ps ++ [pb]).length = _
  rw [List.length_append, List.length_append, V.ps]; rfl
 ·rw [hns, List.length_append]
  refine V.nss.push ?_
  rcases (by omega : i = 3 \/ i = 4) with rfl | rfl <;> rfl
 ·rw [hns]
  rw [aAw, List.nil_append]; omega
 ·rw [hns]
  exact ⟨g2.du, g2.dp, g2.dm, g2.pu, g2.pp, g2.ps⟩
 ·show m.rd = false
  rcases (by omega : i = 3 \/ i = 4) with h3 | h4
  ·exact V.rd (.inl (by omega))
  ·exact V.rd (.inr (hn4 h4))
 ·rw [List.length_append, List.length_append]; omega
 ·rw [Str.len_list, hcat, List.length_append, List.length_cons, List.length_append, ← Str.len_list, ← Str.len_list]
  simp only [List.length_singleton]
  omega
 ·injection h with h1 h2
  subst h1 h2
  exact ⟨lv, _, ts, rfl, T.decl hnd⟩
end
end
section
theorem aBi {W : Wd} {q out : Addr} : ∀ (xs outs : List Str), (aBe W q out).pushes outs xs = (outs ++ xs : List Str)
 | [], outs => (List.append_nil outs).symm
 | x :: xs, outs => by
  have h := aBi (W := W) (q := q) (out := out) xs (outs ++ [x])
  rw [List.append_assoc] at h
  exact h
theorem aF2 {W : Wd} {da : Nat -> Addr} {dl : Nat -> List (Str × Str × Tok)} {j : Nat} (h : j < 6) : ∃ R, (aAP W da dl).Perm ((da j, IsD W (da j) (atV (dl j))) :: R) := by
 have hm : (da j, IsD W (da j) (atV (dl j))) ∈ aAP W da dl := by
  obtain rfl | rfl | rfl | rfl | rfl | rfl : j = 0 \/ j = 1 \/ j = 2 \/ j = 3 \/ j = 4 \/ j = 5 := by omega
  all_goals simp [aAP]
 obtain ⟨u, v, e⟩ := List.append_of_mem hm
 exact ⟨u ++ v, by rw [e]; exact List.perm_middle⟩
theorem kn_kP : ∀ r ∈ kn4, (r.2, r.1) ∈ kP := by decide +kernel
theorem aI9 : ∀ x ∈ nm4, x ∈ tagN := by decide +kernel
theorem Step.or {i b i1 b1 : Nat} {ns ns1 : List Str} {cl : Cal} (h : Step i ns b cl i1 ns1 b1) :
  (∃ p u : Str, cl = .ns p u /\ (u, p) ∈ kP /\ ns1 = ns /\ (i1 = 4 -> i = 4) /\ (i1 < 4 -> i < 4) /\ (i1 = i \/ (ns.length = 0 /\ ∀ r ∈ told3.take i1, r = (u, p) \/ r ∈ told3.take i))) ∨
  (∃ (x : Str) (j : Nat), cl = .start x j /\ x ∈ tagN /\ j < 6 /\ (3 <= i /\ i <= 4) /\ (i = 4 -> ns ≠ []) /\ i1 = 4 /\ ns1 = ns ++ [x]) ∨
  (((cl = .ord \/ cl = .txt) /\ ns1 = ns /\ ns ≠ []) \/ (∃ x : Str, cl = .fin x /\ ns = ns1 ++ [x])) /\ i = 4 /\ i1 = 4 := by
 induction h with
 | p => exact .inl ⟨_, _, rfl, by decide +kernel, rfl, by decide, by decide, .inr ⟨rfl, by decide +kernel⟩⟩
 | q => exact .inl ⟨_, _, rfl, by decide +kernel, rfl, by decide, by decide, .inr ⟨rfl, by decide +kernel⟩⟩
 | d => exact .inl ⟨_, _, rfl, by decide +kernel, rfl, by decide, by decide, .inr ⟨rfl, by decide +kernel⟩⟩
 | r => exact .inr (.inl ⟨_, _, rfl, .head _, by decide, by decide, by decide, rfl, rfl⟩)
 | start h1 h2 h3 h4 => exact .inr (.inl ⟨_, _, rfl, aI9 _ h2, by omega, by decide, λ _ => h4, rfl, rfl⟩)
 | ns h1 h2 => exact .inl ⟨_, _, rfl, kn_kP _ h1, rfl, id, id, .inl rfl⟩
 | ord h1 => exact .inr (.inr ⟨.inl ⟨.inl rfl, rfl, h1⟩, rfl, rfl⟩)
 | txt h1 => exact .inr (.inr ⟨.inl ⟨.inr rfl, rfl, h1⟩, rfl, rfl⟩)
 | fin => exact .inr (.inr ⟨.inr ⟨_, rfl, rfl⟩, rfl, rfl⟩)
theorem Step.on {P : Prop} {i b i1 b1 : Nat} {ns ns1 : List Str} {cl : Cal} (h : Step i ns b cl i1 ns1 b1)
  (hns : ∀ {p u : Str}, cl = .ns p u -> (u, p) ∈ kP -> ns1 = ns -> (i1 = 4 -> i = 4) -> (i1 < 4 -> i < 4) -> (i1 = i \/ (ns.length = 0 /\ ∀ r ∈ told3.take i1, r = (u, p) \/ r ∈ told3.take i)) -> P)
  (hst : ∀ {x : Str} {j : Nat}, cl = .start x j -> x ∈ tagN -> j < 6 -> 3 <= i -> i <= 4 -> (i = 4 -> ns ≠ []) -> i1 = 4 -> ns1 = ns ++ [x] -> P)
  (ho : cl = .ord -> i = 4 -> i1 = 4 -> ns1 = ns -> ns ≠ [] -> P) (ht : cl = .txt -> i = 4 -> i1 = 4 -> ns1 = ns -> ns ≠ [] -> P)
  (hf : ∀ {x : Str}, cl = .fin x -> i = 4 -> i1 = 4 -> ns = ns1 ++ [x] -> P) : P :=
 h.or.elim (λ ⟨_, _, e1, e2, e3, e4, e5, e6⟩ => hns e1 e2 e3 e4 e5 e6) λ h => h.elim (λ ⟨_, _, e1, e2, e3, e4, e5, e6, e7⟩ => hst e1 e2 e3 e4.1 e4.2 e5 e6 e7)
  λ h => h.1.elim (λ h1 => h1.1.elim (λ e => ho e h.2.1 h.2.2 h1.2.1 h1.2.2) λ e => ht e h.2.1 h.2.2 h1.2.1 h1.2.2) λ ⟨_, e1, e2⟩ => hf e1 h.2.1 h.2.2 e2
section
variable {w : Wn} {q : Addr} {m : Wm} {N : Ledger}
noncomputable abbrev aBb (W : Wd) (w : Wn) (rw : Bool) (q out : Addr) (da : Nat -> Addr) (dl : Nat -> List (Str × Str × Tok)) (m : Wm) (outs : List Str) (c? : Option Addr) (N : Ledger) : Ledger :=
 aAe W w ⟨false, rw, .none⟩ q m ((q, aAY "list.append" (.ref out)) :: (out, aAb outs) :: (aAP W da dl ++ (Tabs 123 lamP aAB c? ++ N)))
theorem tell_ {ca out : Addr} {rw : Bool} {k i b i1 b1 : Nat} {ns ns1 outs : List Str} {ts : List (List Str)} {cl : Cal} {da : Nat -> Addr} {dl : Nat -> List (Str × Str × Tok)} {c? : Option Addr} {Q : Value -> Shared -> Prop} (I : IsC W) (C : CodeHd W.B 125 123) (hA : Aok 30 A) (hk : k <= 140) (hnl : ns.length <= 200) (St : Step i ns b cl i1 ns1 b1) (V : Inv8 rw k i ns m outs ts) (hda : ∀ j, atQ (dl j) = rowV j)
  (S : Sta W G env loc ((ca, aAF da cl) :: aBb W w rw q out da dl m outs c? N) s)
  (kk : ∀ m' xs c? s', Told rw k i1 ns1 cl m' (outs ++ xs) xs ts -> Sta W G env loc ((ca, aAF da cl) :: aBb W w rw q out da dl m' (outs ++ xs) c? N) s' -> Q .none s') :
  wpAny (model W.prog W.w) A (call (.ref 182) [.ref w.x, .ref ca]) Q E s := by
 have hz : m.held.length <= sizeLine := by have := V.hz; walk_at "osz"
 have hc := V.hc hk
 have hr : ∀ n, n <= 100 -> (aBe W q out).room outs n := λ n hn => by
  have := V.oz
  show outs.length + n <= 16000000
  omega
 have hoz := V.opn.lens.1
 have hdl : m.dl.length = ns.length + 1 := by rw [← hoz]; exact (List.length_map ..).symm
 have hps := V.ps
 have hnn := V.nss.len
 have hnl2 : (nsOf m).nss.length = m.nl.length := List.length_map ..
 have hps2 : m.ps ≠ [] := λ e => by rw [e] at hps; cases hps
 have hne : m.nl ≠ [] := λ e => by have h := hnn.2; rw [hnl2, e] at h; exact absurd h (by simp)
 have hdl2 : m.dl ≠ [] := λ e => by rw [e] at hdl; cases hdl
 obtain ⟨o, ho, hcal⟩ := S.get (.head _)
 have hns : ∀ {p u : Str}, cl = .ns p u -> (u, p) ∈ kP -> ns1 = ns -> (i1 = 4 -> i = 4) -> (i1 < 4 -> i < 4) -> (i1 = i \/ (ns.length = 0 /\ ∀ r ∈ told3.take i1, r = (u, p) \/ r ∈ told3.take i)) -> wpAny (model W.prog W.w) A (call (.ref 182) [.ref w.x, .ref ca]) Q E s := by
  intro p u e1 e2 e3 e4 e5 e6
  have hcal : aAF da (.ns p u) o := e1 ▸ hcal
  obtain ⟨t0, t1, t2, hcal⟩ := hcal
  have S2 := S.tell (c' := aAo [.str "ns" t0, .str p t1, .str u t2]) .head λ o' ho' _ => by rw [ho] at ho'; cases ho'; exact hcal
  have hlz : (m.nl.getLast hne).ps.length <= 1000 := by
   have h1 := V.nz
   have h2 := aCm (ls := (nsOf m).nss) (l := (m.nl.getLast hne).val) (List.mem_map.mpr ⟨_, List.getLast_mem hne, rfl⟩)
   have h3 : (m.nl.getLast hne).val.length = (m.nl.getLast hne).ps.length := List.length_map ..
   omega
  refine tellN_ (K := aBe W q out) (σ := outs) (N := aAP W da dl ++ (Tabs 123 lamP aAB c? ++ N)) I (hA.le (by decide)) V.ig hz hc (hr _ (by decide)) (List.dropLast_concat_getLast hne).symm hlz S2 ?_
  intro a s' S3
  rw [aBi] at S3
  walk_at "ke"
  exact kk _ m.fl c? s' (by rw [e1, e3]; exact inv_ns V hk a e2 e4 e5 e6) (S3.tell .head λ o _ ho => by rw [e1]; exact ⟨t0, t1, t2, ho⟩)
 have hst : ∀ {x : Str} {j : Nat}, cl = .start x j -> x ∈ tagN -> j < 6 -> 3 <= i -> i <= 4 -> (i = 4 -> ns ≠ []) -> i1 = 4 -> ns1 = ns ++ [x] -> wpAny (model W.prog W.w) A (call (.ref 182) [.ref w.x, .ref ca]) Q E s := by
  intro x j e1 e2 e3 e4 e5 e6 e7 e8
  have hcal : aAF da (.start x j) o := e1 ▸ hcal
  obtain ⟨t0, t1, hcal⟩ := hcal
  have S2 := S.tell (c' := aAo [.str "start" t0, .str x t1, .ref (da j)]) .head λ o' ho' _ => by rw [ho] at ho'; cases ho'; exact hcal
  obtain ⟨res, sv, h1, h2⟩ := aHj V hk e4 e5 e6 e2 e3 (hda j)
  obtain ⟨R, hR⟩ := aF2 (W := W) (da := da) (dl := dl) e3
  refine tellS_ (K := aBe W q out) (σ := outs) (N := R ++ N) (c? := c?) (c := ⟨false, rw, .none⟩) (m := m) (w := w) (t0 := t0) (t1 := t1) (d := da j) (l := dl j) I C hA rfl h1 (List.dropLast_concat_getLast hps2).symm (by omega) (by omega) (by omega) hz hc (hr _ (by decide)) (S2.perm ?_) ?_
  ·refine List.Perm.trans (l₂ := (ca, aAo [.str "start" t0, .str x t1, .ref (da j)]) :: aAe W w ⟨false, rw, .none⟩ q m ((q, aAY "list.append" (.ref out)) :: (out, aAb outs) :: ((da j, IsD W (da j) (atV (dl j))) :: R ++ (Tabs 123 lamP aAB c? ++ N)))) ?_ (by dsimp only [aAe, aBe]; walk_at "perm")
   dsimp only [aAe]
   repeat' first | exact hR.append_right _ | refine List.Perm.cons _ ?_ | refine List.Perm.append_left _ ?_
  intro c' dl' pm a s' hsv S3
  rw [aBi] at S3
  walk_at "ke"
  refine kk _ _ (some c') s' (by rw [e1, e7, e8]; exact h2 dl' pm (m.ps.getLast hps2) a hsv) ((S3.perm (nw' := (ca, aAo [.str "start" t0, .str x t1, .ref (da j)]) :: aAe W w ⟨false, rw, .none⟩ q (m.begun dl' pm (m.ps.getLast hps2) a) ((q, aAY "list.append" (.ref out)) :: (out, aAb (outs ++ (m.fl ++ aAy (txOf res x) (xnR sv.decl ++ atR res (atQ (dl j)))))) :: ((da j, IsD W (da j) (atV (dl j))) :: R ++ (Tabs 123 lamP aAB (some c') ++ N)))) (by dsimp only [aAe, aBe]; walk_at "perm")).perm ?_ |>.tell .head λ o _ ho => by rw [e1]; exact ⟨t0, t1, ho⟩)
  dsimp only [aAe]
  repeat' first | exact hR.symm.append_right _ | refine List.Perm.cons _ ?_ | refine List.Perm.append_left _ ?_
 refine St.on hns hst ?_ ?_ ?_
 ·intro e1 e2 e3 e4 h1
  have V : Inv8 rw k 4 ns m outs ts := e2 ▸ V
  have hcal : aAF da .ord o := e1 ▸ hcal
  obtain ⟨t0, hcal⟩ := hcal
  have S2 := S.tell (c' := aAo [.str "order" t0]) .head λ o' ho' _ => by rw [ho] at ho'; cases ho'; exact hcal
  refine tellP_ (K := aBe W q out) (σ := outs) (N := aAP W da dl ++ (Tabs 123 lamP aAB c? ++ N)) I (hA.le (by decide)) V.ig (V.rs rfl) (V.rd (.inr h1)) hz hc (hr _ (by decide)) S2 ?_
  intro s' S3
  rw [aBi] at S3
  walk_at "ke"
  exact kk _ _ c? s' (by rw [e1, e3, e4]; exact aJl V hk) (S3.tell .head λ o _ ho => by rw [e1]; exact ⟨t0, ho⟩)
 ·intro e1 e2 e3 e4 h1
  have V : Inv8 rw k 4 ns m outs ts := e2 ▸ V
  have hcal : aAF da .txt o := e1 ▸ hcal
  obtain ⟨t0, hcal⟩ := hcal
  have S2 := S.tell (c' := aAo [.str "text" t0]) .head λ o' ho' _ => by rw [ho] at ho'; cases ho'; exact hcal
  refine tellD_ (K := aBe W q out) (σ := outs) (N := (q, aAY "list.append" (.ref out)) :: (out, aAb outs) :: (aAP W da dl ++ (Tabs 123 lamP aAB c? ++ N))) I (hA.le (by decide)) hz S2 ?_
  intro s' S3
  have e : outs ++ [] = outs := List.append_nil _
  walk_at "ke"
  exact kk _ [] c? s' (by rw [e, e1, e3, e4]; exact aJk V) (by rw [e]; exact S3.tell .head λ o _ ho => by rw [e1]; exact ⟨t0, ho⟩)
 ·intro x e1 e2 e3 e4
  have V : Inv8 rw k 4 (ns1 ++ [x]) m outs ts := e4 ▸ e2 ▸ V
  have hcal : aAF da (.fin x) o := e1 ▸ hcal
  obtain ⟨t0, t1, hcal⟩ := hcal
  have S2 := S.tell (c' := aAo [.str "end" t0, .str x t1]) .head λ o' ho' _ => by rw [ho] at ho'; cases ho'; exact hcal
  obtain ⟨tx, h1, h2, h3, h4⟩ := aJm V hk rfl
  refine tellE_ (K := aBe W q out) (σ := outs) (N := aAP W da dl ++ (Tabs 123 lamP aAB c? ++ N)) I (hA.le (by decide)) (aIs (List.mem_append_left _ h3)) (V.good.nsOk V.opn.ne ⟨by have := V.nz; omega, λ q hq => V.nss.small hq⟩) h1 h2 V.ig hz hc (hr _ (by decide)) (List.dropLast_concat_getLast hne).symm (List.dropLast_concat_getLast hdl2).symm (List.dropLast_concat_getLast hps2).symm (by omega) (by omega) (by omega) S2 ?_
  intro dl' pm s' hsv S3
  rw [aBi] at S3
  walk_at "ke"
  exact kk _ _ c? s' (by rw [e1, e3]; exact h4 dl' pm hsv) (S3.tell .head λ o _ ho => by rw [e1]; exact ⟨t0, t1, ho⟩)
end
end
section
noncomputable abbrev locW (scr out x tg td du : Addr) (vc vs ve vr vt vst vk : Option Value) : Loc := [("script", some (.ref scr)), ("out", some (.ref out)), ("writer", some (.ref x)), ("tags", some (.ref tg)), ("told", some (.ref td)), ("due", some (.ref du)), ("call", vc), ("seen", vs), ("ended", ve), ("rows", vr), ("tag", vt), ("stated", vst), ("keys", vk)]
section
local macro_rules | `(tactic| walk_at $s:str) => Mine.goAt [("mem", ": ( ( ( ( 'refine ( List.mem_append_right ~ _ )$ )t:refine )! )& =mem )&")] s
variable {w : Wn} {q : Addr} {m : Wm} {N : Ledger}
theorem turnA_ {L scr ca out tg td du : Addr} {rw : Bool} {k i b i1 b1 : Nat} {ns ns1 outs : List Str} {ts : List (Addr × List Str)} {ta dd : List RwA} {cl : Cal} {da : Nat -> Addr} {dl : Nat -> List (Str × Str × Tok)} {c? : Option Addr} {vs ve vr vt vst vk : Option Value} {Q : Flow -> Shared -> Prop} (I : IsC W) (C : CodeHd W.B 125 123) (hA : Aok 32 A) (hk : k <= 140) (hnl : ns.length <= 90) (St : Step i ns b cl i1 ns1 b1) (V : Inv8 rw k i ns m outs (ts.map (·.2))) (hda : ∀ j, atQ (dl j) = rowV j) (hta : ta.length <= 9000) (hdd : dd.length <= 9000)
  (S' : Sta W G (envL L) (locW scr out w.x tg td du (some (.ref ca)) vs ve vr vt vst vk) ((tg, aAa (aAq ts)) :: (td, aAa (aAh ta)) :: (du, aAa (aAh dd)) :: (ca, aAF da cl) :: aBb W w rw q out da dl m outs c? (aAx ts ++ (aAj ta ++ (aAj dd ++ N)))) s)
  (kk : ∀ m' xs c? ts' r1 r2 vs ve s', Inv8 rw (k + 1) i1 ns1 m' (outs ++ xs) (ts'.map (·.2)) -> r1.r = r2.r -> (∀ x j, cl = .start x j -> ∃ lv t ts0, ts'.map (·.2) = ts0 ++ [t] /\ TagFacts (nsOf m') x (rowV j) lv t) ->
   Sta W G (envL L) (locW scr out w.x tg td du (some (.ref ca)) vs ve vr vt vst vk) ((tg, aAa (aAq ts')) :: (td, aAa (aAh (ta ++ [r1]))) :: (du, aAa (aAh (dd ++ [r2]))) :: (ca, aAF da cl) :: aBb W w rw q out da dl m' (outs ++ xs) c? (aAx ts' ++ (aAj (ta ++ [r1]) ++ (aAj (dd ++ [r2]) ++ N)))) s' ->
   wpAny (model W.prog W.w) A (execs (lB.drop 5) (envL L)) Q E s') :
  wpAny (model W.prog W.w) A (execs (lB.drop 0) (envL L)) Q E s := by
 have hoz : outs.length <= sizeLine := by have := V.oz; walk_at "osz"
 have htl : ts.length <= 100 := by have := V.opn.lens.2; rw [List.length_map] at this; omega
 refine aAi rfl ?_
 refine aCS ?_ rfl
 refine Call_ ?_ (by kernel_rfl)
 refine Sta.builtin S' I.b_len aDQ (by kernel_rfl) ?_
 refine PyProof.Rows.callWith_builtin1 ?_ (by kernel_rfl) (by kernel_rfl)
 walk_at "c"
 refine Sta.lenT S' (by walk_at "mem") hoz ?_
 clear S'; intro t1 s' S'
 walk_at "c"
 refine Sta.global S' I.g_l_tell (by kernel_rfl) ?_
 refine aBJ (by rw [I.k]; kernel_rfl) ?_ (by kernel_rfl) (by kernel_rfl)
 walk_at "c"
 refine tell_ (q := q) (out := out) (m := m) (outs := outs) (N := (tg, aAa (aAq ts)) :: (td, aAa (aAh ta)) :: (du, aAa (aAh dd)) :: (aAx ts ++ (aAj ta ++ (aAj dd ++ N)))) I C (hA.le (by decide)) hk (by omega) St V hda (S'.perm (by simp only [aBb, aAe]; walk_at "perm")) ?_
 clear S'; intro m' xs c2 s' hT S'
 obtain ⟨tv', es, V', hR, hes, hel, hxl, hst⟩ := hT
 have hdr : (outs ++ xs).drop outs.length = xs := by simp
 have hoz2 : (outs ++ xs).length <= sizeLine := by have := V'.oz; walk_at "osz"
 walk_at "c"
 refine Sta.global S' I.g_l_read (by kernel_rfl) ?_
 refine aBJ (by rw [I.k]; kernel_rfl) ?_ (by kernel_rfl) (by kernel_rfl)
 walk_at "c"
 refine aDK ?_
 walk_at "c"
 refine aFK ?_ (by intro _ _; kernel_rfl)
 walk_at "c"
 refine aBh (j := outs.length) S' (by walk_at "mem") hoz2 rfl ?_
 rw [hdr]
 clear S'; intro sl s' S'
 walk_at "c"
 refine Sta.joinT S' (.head _) rfl (by omega) ?_
 clear S'; intro t2 s' S'
 walk_at "c"
 refine read_ (ts := ts) (N := (ca, aAF da cl) :: (td, aAa (aAh ta)) :: (du, aAa (aAh dd)) :: aBb W w rw q out da dl m' (outs ++ xs) c2 (aAj ta ++ (aAj dd ++ N))) I (hA.le (by decide)) htl (by omega) hR (S'.sel (Sel.rest [(sl, aAb xs)] (by simp only [aBb, aAe]; walk_at "perm"))) ?_
 clear S'; intro en ts' es' s' h1 h2 S'
 repeat ((fail_if_success (with_reducible show wpAny _ _ (execs _ _) _ _ _)); walk_at "cw")
 have hel2 : es'.length <= 10 := by rw [← List.length_map (f := (·.2)), h2]; omega
 refine lawA_ (es := es') (ta := ta) (da := dd) (N := (tg, aAa (aAq ts')) :: (ca, aAF da cl) :: aBb W w rw q out da dl m' (outs ++ xs) c2 (aAx ts' ++ N)) I (hA.le (by decide)) hel2 (by omega) (by omega) (by walk_at "mem") (by walk_at "mem") (by walk_at "mem") (S'.perm (by simp only [aBb, aAe]; walk_at "perm")) ?_
 clear S'; intro r1 r2 s' hr1 hr2 S'
 walk_at "ke"
 refine kk m' xs c2 ts' r1 r2 _ _ s' (by rw [h1]; exact V') ?_ (by rw [h1]; exact hst) (S'.perm (by simp only [aBb, aAe]; walk_at "perm"))
 rw [hr1, hr2]
 have e1 : es'.map (·.2.2) = es.map (·.2) := by rw [← h2, List.map_map]; rfl
 have e2 : es'.map (·.2.1) = es.map (·.1) := by rw [← h2, List.map_map]; rfl
 rw [e1, e2, hes]
end
end
section
theorem locF_W {scr out x tg td du : Addr} {vc vs ve vk : Option Value} : LocF (λ a b c => locW scr out x tg td du vc vs ve c a b vk) td du tg where
 p1 := λ _ _ _ _ => .tail (.tail (.tail (.tail (.tail (.tail (.tail (.tail (.tail (.tail .head)))))))))
 p2 := λ _ _ _ _ => .tail (.tail (.tail (.tail (.tail (.tail (.tail (.tail (.tail (.tail (.tail .head))))))))))
 p3 := λ _ _ _ _ => .tail (.tail (.tail (.tail (.tail (.tail (.tail (.tail (.tail .head))))))))
 m1 := λ _ _ _ => .tail _ (.tail _ (.tail _ (.tail _ (.tail _ (.tail _ (.tail _ (.tail _ (.tail _ (.tail _ (.head _))))))))))
 m2 := λ _ _ _ => .tail _ (.tail _ (.tail _ (.tail _ (.tail _ (.tail _ (.tail _ (.tail _ (.tail _ (.tail _ (.tail _ (.head _)))))))))))
 m3 := λ _ _ _ => .tail _ (.tail _ (.tail _ (.tail _ (.tail _ (.tail _ (.tail _ (.tail _ (.tail _ (.head _)))))))))
 m4 := λ _ _ _ => .tail _ (.tail _ (.tail _ (.tail _ (.head _))))
 m5 := λ _ _ _ => .tail _ (.tail _ (.tail _ (.tail _ (.tail _ (.head _)))))
 m6 := λ _ _ _ => .tail _ (.tail _ (.tail _ (.head _)))
theorem aHH {P : Prop} {da : Nat -> Addr} {cl : Cal} {o : Obj} (hcal : aAF da cl o) (h0 : ∀ (nm : Str) t0 rest, nm ≠ "start" -> aAo (.str nm t0 :: rest) o -> (∀ o, aAo (.str nm t0 :: rest) o -> aAF da cl o) -> P) (h1 : ∀ y j t0 t1, cl = .start y j -> aAo [.str "start" t0, .str y t1, .ref (da j)] o -> P) : P := by
 cases cl with
 | ns p u => obtain ⟨t0, t1, t2, h⟩ := hcal; exact h0 _ t0 _ (by decide +kernel) h λ o ho => ⟨t0, t1, t2, ho⟩
 | fin y => obtain ⟨t0, t1, h⟩ := hcal; exact h0 _ t0 _ (by decide +kernel) h λ o ho => ⟨t0, t1, ho⟩
 | ord => obtain ⟨t0, h⟩ := hcal; exact h0 _ t0 _ (by decide +kernel) h λ o ho => ⟨t0, ho⟩
 | txt => obtain ⟨t0, h⟩ := hcal; exact h0 _ t0 _ (by decide +kernel) h λ o ho => ⟨t0, ho⟩
 | start y j => obtain ⟨t0, t1, h⟩ := hcal; exact h1 y j t0 t1 rfl h
section
variable {w : Wn} {c : Wc} {q : Addr} {m : Wm} {N : Ledger}
theorem lawE_ {L scr out x ca tg td du wk wkc : Addr} {cl : Cal} {da : Nat -> Addr} {dl : Nat -> List (Str × Str × Tok)} {sv : NSt} {ts : List (Addr × List Str)} {ps : List (Addr × NsP)} {ra rd : List RwA} {vs ve vr vt vst vk : Option Value} {Q : Flow -> Shared -> Prop} (I : IsC W) (hA : Aok 16 A) (hwk : CellOk (envL L) .cell "walk" wkc) (hp : ps.length <= 60) (hps : ps.map (·.2) = flat sv.decl) (hul : ∀ q ∈ ps, q.2.1.length <= 1000) (hra : ra.length <= 10000) (hrd : rd.length <= 10000) (hda : ∀ j, atQ (dl j) = rowV j)
  (hj : ∀ x j, cl = .start x j -> j < 6) (hst : ∀ x j, cl = .start x j -> ∃ lv t ts0, ts.map (·.2) = ts0 ++ [t] /\ TagFacts sv x (rowV j) lv t)
  (S' : Sta W G (envL L) (locW scr out x tg td du (some (.ref ca)) vs ve vr vt vst vk) ((ca, aAF da cl) :: (tg, aAa (aAq ts)) :: (td, aAa (aAh ra)) :: (du, aAa (aAh rd)) :: (wk, aAa (aAd ps)) :: (wkc, aAp (some (.ref wk))) :: (aAg ps ++ (aAj ra ++ (aAj rd ++ (aAx ts ++ (aAP W da dl ++ N)))))) s)
  (k : ∀ ra' rd' X vk s', X.length <= 1 -> ra'.map (·.r) = ra.map (·.r) ++ X -> rd'.map (·.r) = rd.map (·.r) ++ X -> Sta W G (envL L) (locW scr out x tg td du (some (.ref ca)) vs ve vr vt vst vk) ((ca, aAF da cl) :: (tg, aAa (aAq ts)) :: (td, aAa (aAh ra')) :: (du, aAa (aAh rd')) :: (wk, aAa (aAd ps)) :: (wkc, aAp (some (.ref wk))) :: (aAg ps ++ (aAj ra' ++ (aAj rd' ++ (aAx ts ++ (aAP W da dl ++ N)))))) s' -> Q .next s') :
  wpAny (model W.prog W.w) A (execs (lB.drop 10) (envL L)) Q E s := by
 obtain ⟨o, ho, hcal⟩ := S'.get (.head _)
 have h0 : ∀ (nm : Str) t0 rest, nm ≠ "start" -> aAo (.str nm t0 :: rest) o -> (∀ o, aAo (.str nm t0 :: rest) o -> aAF da cl o) -> wpAny (model W.prog W.w) A (execs (lB.drop 10) (envL L)) Q E s := by
  intro nm t0 rest e1 e2 e3
  refine lawE0_ (ca := ca) (by walk_at "mem") e1 (S'.tell (c' := aAo (.str nm t0 :: rest)) .head λ o' ho' _ => by rw [ho] at ho'; cases ho'; exact e2) λ s' S2 => ?_
  walk_at "ke"
  exact k ra rd [] vk s' (Nat.zero_le _) (List.append_nil _).symm (List.append_nil _).symm (S2.tell .head λ o _ ho => e3 o ho)
 refine aHH hcal h0 λ y j t0 t1 ecl h => ?_
 have hjj := hj y j ecl
 obtain ⟨lv, t, tv0, e1, T⟩ := hst y j ecl
 obtain ⟨ts0, tq, ht0, ht1, ht2⟩ := aFR e1
 obtain ⟨p, its, p1, ht3⟩ := T.hd
 have hts : ts = ts0 ++ [(tq.1, txtQ p (nmL y) :: its)] := by rw [ht0, ← ht3, ← ht2]
 clear hst hcal h0 hj ht0 e1 ht2
 subst ht3
 obtain ⟨R, hR⟩ := aF2 (W := W) (da := da) (dl := dl) hjj
 obtain ⟨g1, g2⟩ := T.tg _ _ rfl
 obtain ⟨r1, r2, r3⟩ := aFb j (List.mem_range.mpr hjj)
 have hkl : (atV (dl j)).length <= 4 := by
  have := congrArg List.length (hda j)
  simp only [atQ, List.length_map] at this
  dsimp only [atV, List.length_map]
  omega
 have hkk : (atV (dl j)).map (·.1) = (rowV j).map (·.1) := by rw [aF7, hda j]
 have hcc := T.cl
 have hll := T.len
 have htk : aAx (ts0 ++ [(tq.1, txtQ p (nmL y) :: its)]) = aAx ts0 ++ [(tq.1, aAb (txtQ p (nmL y) :: its))] := aBm ..
 have S2 := S'.tell (c' := aAo [.str "start" t0, .str y t1, .ref (da j)]) .head λ o' ho' _ => by rw [ho] at ho'; cases ho'; exact h
 refine lawE1_ (ca := ca) (wk := wk) (ts := ts0) (ta := tq.1) (x := y) (t0 := t0) (t1 := t1) (tx := txtQ p (nmL y)) (its := its) (kvs := atV (dl j)) (d := da j) (ps := ps) (ra := ra) (rd := rd) (loc2 := λ b => locW scr out x tg td du (some (.ref ca)) vs ve vr vt vst (some (.ref b))) (N := aAx ts0 ++ (R ++ N)) I hA (by walk_at "mem") (by walk_at "mem") (by walk_at "mem") (by walk_at "mem") hwk (λ b => by walk_at "put") (λ b => by walk_at "mem") (λ b => by walk_at "mem") (λ b => by walk_at "mem") (λ b => by walk_at "mem") (λ b => by walk_at "mem") (by omega) (λ z hz => by have := (aA5 (hcc z hz)).2.2.2; omega) g2 T.kn T.kl hkl hp hul hra hrd (S2.perm ?_) ?_
 ·rw [hts, htk]
  refine List.Perm.trans (l₂ := (ca, aAo [.str "start" t0, .str y t1, .ref (da j)]) :: (tg, aAa (aAq (ts0 ++ [(tq.1, txtQ p (nmL y) :: its)]))) :: (td, aAa (aAh ra)) :: (du, aAa (aAh rd)) :: (wk, aAa (aAd ps)) :: (wkc, aAp (some (.ref wk))) :: (aAg ps ++ (aAj ra ++ (aAj rd ++ ((aAx ts0 ++ [(tq.1, aAb (txtQ p (nmL y) :: its))]) ++ ((da j, IsD W (da j) (atV (dl j))) :: R ++ N)))))) ?_ (by walk_at "perm")
  repeat' first | exact hR.append_right _ | refine List.Perm.cons _ ?_ | refine List.Perm.append_left _ ?_
 ·clear S' S2
  intro kb q1 q2 s' h1 h2 S'
  walk_at "ke"
  refine k (ra ++ [q1]) (rd ++ [q2]) [q1.r] _ s' (Nat.le_refl _) (List.map_append ..) ?_ ((S'.perm (nw' := (ca, aAo [.str "start" t0, .str y t1, .ref (da j)]) :: (tg, aAa (aAq (ts0 ++ [(tq.1, txtQ p (nmL y) :: its)]))) :: (td, aAa (aAh (ra ++ [q1]))) :: (du, aAa (aAh (rd ++ [q2]))) :: (wk, aAa (aAd ps)) :: (wkc, aAp (some (.ref wk))) :: (aAg ps ++ (aAj (ra ++ [q1]) ++ (aAj (rd ++ [q2]) ++ ((aAx ts0 ++ [(tq.1, aAb (txtQ p (nmL y) :: its))]) ++ ((da j, IsD W (da j) (atV (dl j))) :: R ++ N)))))) (by walk_at "perm")).perm ?_ |>.tell .head λ o _ ho => by rw [ecl]; exact ⟨t0, t1, ho⟩)
  ·rw [List.map_append]
   show _ ++ [q2.r] = _
   rw [h1, h2, hps, g1, T.ks, hkk]
  ·rw [hts, htk]
   repeat' first | exact hR.symm.append_right _ | refine List.Perm.cons _ ?_ | refine List.Perm.append_left _ ?_
end
end
section
section
variable {w : Wn} {q : Addr} {m : Wm} {N : Ledger}
theorem turnB_ {L scr out ca tg td du wkc : Addr} {rw : Bool} {k i : Nat} {ns outs : List Str} {ts : List (Addr × List Str)} {ta dd : List RwA} {cl : Cal} {da : Nat -> Addr} {dl : Nat -> List (Str × Str × Tok)} {c? : Option Addr} {v0 vs ve vr vt vst vk : Option Value} {Q : Flow -> Shared -> Prop} (I : IsC W) (hA : Aok 20 A) (hwk : CellOk (envL L) .cell "walk" wkc) (hnl : ns.length <= 90) (V : Inv8 rw k i ns m outs (ts.map (·.2))) (hda : ∀ j, atQ (dl j) = rowV j) (hta : ta.length <= 8000) (hdd : dd.length <= 8000)
  (hj : ∀ x j, cl = .start x j -> j < 6) (hst : ∀ x j, cl = .start x j -> ∃ lv t ts0, ts.map (·.2) = ts0 ++ [t] /\ TagFacts (nsOf m) x (rowV j) lv t)
  (S' : Sta W G (envL L) (locW scr out w.x tg td du (some (.ref ca)) vs ve vr vt vst vk) ((tg, aAa (aAq ts)) :: (td, aAa (aAh ta)) :: (du, aAa (aAh dd)) :: (ca, aAF da cl) :: (wkc, aAp v0) :: aBb W w rw q out da dl m outs c? (aAx ts ++ (aAj ta ++ (aAj dd ++ N)))) s)
  (kk : ∀ ta' dd' X v0 vr vt vst vk s', X.length <= ts.length + 2 -> ta'.map (·.r) = ta.map (·.r) ++ X -> dd'.map (·.r) = dd.map (·.r) ++ X ->
   Sta W G (envL L) (locW scr out w.x tg td du (some (.ref ca)) vs ve vr vt vst vk) ((tg, aAa (aAq ts)) :: (td, aAa (aAh ta')) :: (du, aAa (aAh dd')) :: (ca, aAF da cl) :: (wkc, aAp v0) :: aBb W w rw q out da dl m outs c? (aAx ts ++ (aAj ta' ++ (aAj dd' ++ N)))) s' -> Q .next s') :
  wpAny (model W.prog W.w) A (execs (lB.drop 5) (envL L)) Q E s := by
 have hps : (lvPs m.dl).map (·.2) = flat (nsOf m).decl := aCV m.dl
 have hpl : (lvPs m.dl).length <= 5 := by rw [← List.length_map (f := (·.2)), hps]; exact V.good.len
 have htl : ts.length <= 100 := by have := V.opn.lens.2; rw [List.length_map] at this; omega
 have hsm : ∀ r ∈ lvPs m.dl, aCE r.2 := λ r hr => by
  have := aA2 r.2 (V.good.all (by rw [← hps]; exact List.mem_map.mpr ⟨r, hr, rfl⟩))
  exact ⟨by omega, by omega⟩
 have hrow : RowsOk (ts.reverse.map (·.2)) ((lvPs m.dl).map λ r => rowTxt r.2) [xmlRow] := by
  have h := V.opn.rows (by have := V.good.len; omega)
  have e1 : (flat (nsOf m).decl).map rowTxt = (lvPs m.dl).map λ r => rowTxt r.2 := by
   rw [← hps, List.map_map]
   exact List.map_congr_left λ _ _ => by simp only [Function.comp_apply]
  have e2 : (ts.map (·.2)).reverse = ts.reverse.map (·.2) := (List.map_reverse ..).symm
  rw [e1, e2] at h
  exact h
 obtain ⟨M, hM⟩ : ∃ M : Ledger, M = (w.d, aAb m.held) :: (w.ns, aAa (aAk m.nl)) :: (w.pm, IsD W w.pm (pmV m.pm)) :: (w.ps, aAa (m.ps.map .bool)) :: (aAr m.nl ++ ((q, aAY "list.append" (.ref out)) :: (out, aAb outs) :: (Tabs 123 lamP aAB c? ++ N))) := ⟨_, rfl⟩
 refine lawW_ (w := w) (c := ⟨false, rw, .none⟩) (q := q) (m := m) (wkc := wkc) (v0 := v0) (N := (tg, aAa (aAq ts)) :: (td, aAa (aAh ta)) :: (du, aAa (aAh dd)) :: (ca, aAF da cl) :: (aAx ts ++ (aAj ta ++ (aAj dd ++ (aAP W da dl ++ M))))) I (hA.le (by decide)) (by omega) (by walk_at "mem") hwk (S'.perm (by rw [hM]; simp only [aBb, aAe]; walk_at "perm")) ?_
 clear S'; intro wk s' S'
 obtain ⟨M1, hM1⟩ : ∃ M1 : Ledger, M1 = (w.x, aAu 150 w.dx) :: (w.dx, aAl (vvOf w ⟨false, rw, .none⟩ q m)) :: (w.dns, aAa (aAk m.dl)) :: (lvLs m.dl ++ M) := ⟨_, rfl⟩
 have hlv := aDE m.dl
 have S2 := (S'.perm (nw' := (aAr m.dl) ++ ((wk, aAa (aAd (lvPs m.dl))) :: (wkc, aAp (some (.ref wk))) :: (w.x, aAu 150 w.dx) :: (w.dx, aAl (vvOf w ⟨false, rw, .none⟩ q m)) :: (w.dns, aAa (aAk m.dl)) :: (tg, aAa (aAq ts)) :: (td, aAa (aAh ta)) :: (du, aAa (aAh dd)) :: (ca, aAF da cl) :: (aAx ts ++ (aAj ta ++ (aAj dd ++ (aAP W da dl ++ M)))))) (by walk_at "perm")).perm (hlv.append_right _)
 clear S'
 have hback : ∀ {loc' ta' dd' s'}, Sta W G (envL L) loc' ((ca, aAF da cl) :: (tg, aAa (aAq ts)) :: (td, aAa (aAh ta')) :: (du, aAa (aAh dd')) :: (wk, aAa (aAd (lvPs m.dl))) :: (wkc, aAp (some (.ref wk))) :: (aAg (lvPs m.dl) ++ (aAj ta' ++ (aAj dd' ++ (aAx ts ++ (aAP W da dl ++ M1)))))) s' ->
   Sta W G (envL L) loc' ((tg, aAa (aAq ts)) :: (td, aAa (aAh ta')) :: (du, aAa (aAh dd')) :: (ca, aAF da cl) :: (wkc, aAp (some (.ref wk))) :: aBb W w rw q out da dl m outs c? (aAx ts ++ (aAj ta' ++ (aAj dd' ++ N)))) s' := by
  intro loc' ta' dd' s' S3
  subst hM1
  have S4 := (S3.perm (nw' := (lvLs m.dl ++ aAg (lvPs m.dl)) ++ ((wk, aAa (aAd (lvPs m.dl))) :: (wkc, aAp (some (.ref wk))) :: (w.x, aAu 150 w.dx) :: (w.dx, aAl (vvOf w ⟨false, rw, .none⟩ q m)) :: (w.dns, aAa (aAk m.dl)) :: (tg, aAa (aAq ts)) :: (td, aAa (aAh ta')) :: (du, aAa (aAh dd')) :: (ca, aAF da cl) :: (aAx ts ++ (aAj ta' ++ (aAj dd' ++ (aAP W da dl ++ M)))))) (by walk_at "perm")).perm (hlv.symm.append_right _)
  subst hM
  exact S4.sel (Sel.rest [(wk, aAa (aAd (lvPs m.dl)))] (by simp only [aBb, aAe]; walk_at "perm"))
 generalize lvPs m.dl = ps at *
 refine lawR_ (ps := ps) (wk := wk) (wkc := wkc) (loc2 := λ b => locW scr out w.x tg td du (some (.ref ca)) vs ve (some (.ref b)) vt vst vk) (N := (tg, aAa (aAq ts)) :: (td, aAa (aAh ta)) :: (du, aAa (aAh dd)) :: (ca, aAF da cl) :: (aAx ts ++ (aAj ta ++ (aAj dd ++ (aAP W da dl ++ M1))))) I (hA.le (by decide)) (by omega) hsm hwk (λ b => by walk_at "put") (S2.perm (by rw [hM1]; walk_at "perm")) ?_
 clear S2; intro rb s' S'
 replace S' := S'.perm (nw' := (tg, aAa (aAq ts)) :: (rb, aAb (ps.map λ r => rowTxt r.2)) :: (td, aAa (aAh ta)) :: (du, aAa (aAh dd)) :: (aAj ta ++ (aAj dd ++ (aAx ts ++ ((wk, aAa (aAd ps)) :: (wkc, aAp (some (.ref wk))) :: (ca, aAF da cl) :: (aAg ps ++ (aAP W da dl ++ M1))))))) (by walk_at "perm")
 generalize hst7 : lB.drop 7 = st7
 have hG := lawG_ (F := λ a b c => locW scr out w.x tg td du (some (.ref ca)) vs ve c a b vk) (E := E) (Q := Q) (f := [xmlRow]) I (hA.le (by decide)) locF_W hrow htl (by omega) (by omega) S'
 refine hG ?_ st7 hst7.symm
 clear hG
 clear S'; intro va vb rw2 ta1 dd1 X1 s' hx1 h1 h2 S'
 have l1 : ta1.length <= 9000 := by have := congrArg List.length h1; simp only [List.length_map, List.length_append] at this; omega
 have l2 : dd1.length <= 9000 := by have := congrArg List.length h2; simp only [List.length_map, List.length_append] at this; omega
 refine lawP_ (f := [xmlRow]) (rw := rw2) (ta := ta1) (da := dd1) (N := (tg, aAa (aAq ts)) :: (wk, aAa (aAd ps)) :: (wkc, aAp (some (.ref wk))) :: (ca, aAF da cl) :: (aAx ts ++ (aAg ps ++ (aAP W da dl ++ M1)))) I (hA.le (by decide)) (by omega) (by omega) (locF_W.m4 _ _ _) (locF_W.m5 _ _ _) (locF_W.m3 _ _ _) (S'.perm (by walk_at "perm")) ?_
 clear S'; intro r1 r2 s' hr1 hr2 S'
 refine lawE_ (cl := cl) (ts := ts) (ps := ps) (ra := ta1 ++ [r1]) (rd := dd1 ++ [r2]) (wk := wk) (wkc := wkc) (sv := nsOf m) (N := M1) I (hA.le (by decide)) hwk (by omega) hps (λ r hr => (hsm r hr).1) (by simp; omega) (by simp; omega) hda hj hst (S'.perm (by walk_at "perm")) ?_
 clear S'; intro ta2 dd2 X2 vk s' hx2 h3 h4 S'
 walk_at "ke"
 refine kk ta2 dd2 (X1 ++ [.ts [xmlRow]] ++ X2) _ _ _ _ _ s' ?_ ?_ ?_ (hback S')
 ·rw [List.length_append, List.length_append, List.length_singleton]; omega
 ·rw [h3, List.map_append, h1, List.map_cons, hr1]; simp
 ·rw [h4, List.map_append, h2, List.map_cons, hr2]; simp
end
end
section
theorem aDx {W : Wd} {sh : Ledger} {it : Addr} : ∀ {xs : List (Addr × Cal)} {own : Ledger} {og : Gens}, aAW W sh it (aAE xs) own og -> YieldsR W sh it (λ (q : Addr × Cal) v => v = .ref q.1) xs own og
 | [], _, _, H => H
 | q :: r, _, _, H => ⟨H.1, λ A R GR s Q E hA S hQ => H.2 A R GR s Q E hA S λ own' og' s' S' H' => hQ _ own' og' s' rfl S' (aDx (xs := r) H')⟩
theorem aIS {i b i1 b1 : Nat} {ns ns1 : List Str} {c : Cal} (h : Step i ns b c i1 ns1 b1) (hb : ns.length <= b + 1 /\ b <= 10) : ns1.length <= b1 + 1 /\ b1 <= 10 := by
 revert hb
 induction h with
 | start h1 h2 h3 h4 => intro hb; rw [List.length_append, List.length_singleton]; omega
 | fin => intro hb; rw [List.length_append, List.length_singleton] at hb; omega
 | r => exact λ _ => ⟨Nat.le_refl _, by omega⟩
 | _ => exact id
theorem step_j {i b i1 b1 : Nat} {ns ns1 : List Str} {c : Cal} (h : Step i ns b c i1 ns1 b1) : ∀ x j, c = .start x j -> j < 6 := by
 induction h with
 | start h1 h2 h3 h4 => intro x j e; injection e with _ e; omega
 | r => intro x j e; injection e with _ e; omega
 | _ => exact λ x j e => by cases e
noncomputable abbrev aBQ (W : Wd) (tg td du wkc : Addr) (v0 : Option Value) (w : Wn) (rw : Bool) (q out : Addr) (da : Nat -> Addr) (dl : Nat -> List (Str × Str × Tok)) (m : Wm) (outs : List Str) (c? : Option Addr) (ts : List (Addr × List Str)) (ta dd : List RwA) (N : Ledger) : Ledger :=
 (tg, aAa (aAq ts)) :: (td, aAa (aAh ta)) :: (du, aAa (aAh dd)) :: (wkc, aAp v0) :: aBb W w rw q out da dl m outs c? (aAx ts ++ (aAj ta ++ (aAj dd ++ N)))
structure LwS where
 i : Nat
 b : Nat
 ns : List Str
 outs : List Str
 m : Wm
 ts : List (Addr × List Str)
 ta : List RwA
 dd : List RwA
 c? : Option Addr
 v0 : Option Value
 vc : Option Value
 vs : Option Value
 ve : Option Value
 vr : Option Value
 vt : Option Value
 vst : Option Value
 vk : Option Value
theorem Chain.inv {i b i2 b2 : Nat} {ns ns2 : List Str} {c : Cal} {cs : List Cal} (h : Chain i ns b (c :: cs) i2 ns2 b2) : ∃ i1 ns1 b1, Step i ns b c i1 ns1 b1 /\ Chain i1 ns1 b1 cs i2 ns2 b2 := by
 cases h with
 | cons h1 h2 => exact ⟨_, _, _, h1, h2⟩
section
variable {w : Wn} {q : Addr} {m : Wm} {N : Ledger}
theorem aH8 {p : Pos} {L scr out it cl tg td du wkc : Addr} {rw : Bool} {bz : Nat} {cs : List (Addr × Cal)} {da : Nat -> Addr} {dl : Nat -> List (Str × Str × Tok)} {R : Result -> Shared -> Prop} (I : IsC W) (C : CodeHd W.B 125 123) (hA : Aok 33 A) (hwk : CellOk (envL L) .cell "walk" wkc) (hda : ∀ j, atQ (dl j) = rowV j) (hch : Chain 0 [] 0 (cs.map (·.2)) 4 [] bz) (hc : cs.length <= 140) (V : Inv8 rw 0 0 [] m [] [])
  (S : Sta W G (envL L) (locW scr out w.x tg td du none none none none none none none) ((it, IsLI cl 0) :: (cl, aAa (aAE cs)) :: aBQ W tg td du wkc none w rw q out da dl m [] none [] [] [] (aAA da cs ++ N)) s)
  (k : ∀ ta dd v0 m outs c? ts vc vs ve vr vt vst vk s', ta.map (·.r) = dd.map (·.r) -> Sta W G (envL L) (locW scr out w.x tg td du vc vs ve vr vt vst vk) (aBQ W tg td du wkc v0 w rw q out da dl m outs c? ts ta dd (aAA da cs ++ N)) s' -> R (.ok .next) s')
  (body : List Stmt) (hbd : body = lB) : codeAny (model W.prog W.w) A (.forLoop (.Name "call" p) (.ref it) body [] (envL L)) R s := by
 subst hbd
 have hy : LY W [] it (aAE cs) [(it, IsLI cl 0), (cl, aAa (aAE cs))] := aAU (sh := []) (own₀ := [(cl, aAa (aAE cs))]) (.head _) (aAE cs) 0 rfl
 have S2 := S.perm (nw' := aBQ W tg td du wkc none w rw q out da dl m [] none [] [] [] (aAA da cs ++ N) ++ ([] ++ [(it, IsLI cl 0), (cl, aAa (aAE cs))])) (by simp only [aBQ, aBb, aAe]; walk_at "perm")
 clear S
 refine aEO (sh := []) (f := λ (q : Addr × Cal) => .ref q.1) (hA.le (by decide)) (G := G) (og := []) (own := [(it, IsLI cl 0), (cl, aAa (aAE cs))]) (λ (v : LwS) _ => locW scr out w.x tg td du v.vc v.vs v.ve v.vr v.vt v.vst v.vk) (λ v _ => aBQ W tg td du wkc v.v0 w rw q out da dl v.m v.outs v.c? v.ts v.ta v.dd (aAA da cs ++ N)) (λ v dn => (∀ rest, cs = dn ++ rest -> Chain v.i v.ns v.b (rest.map (·.2)) 4 [] bz) /\ (v.ns.length <= v.b + 1 /\ v.b <= 10) /\ Inv8 rw dn.length v.i v.ns v.m v.outs (v.ts.map (·.2)) /\ v.ta.map (·.r) = v.dd.map (·.r) /\ v.ta.length <= 14 * dn.length) (aDx hy.yields) ⟨0, 0, [], [], m, [], [], [], none, none, none, none, none, none, none, none, none⟩ ⟨λ rest e => by rw [← show cs = rest from e]; exact hch, ⟨Nat.zero_le _, Nat.zero_le _⟩, V, rfl, Nat.zero_le _⟩ (by rw [List.append_nil]; exact S2) ?_ ?_
 rotate_left
 ·refine pr2 ?_
  intro ca c dn rest tl tg' v s1 K hcs hH S1 kk _ _
  obtain ⟨hch, hb, V1, hr, hz⟩ := hH
  have hdn : dn.length + 1 <= 140 := by
   have := congrArg List.length hcs
   simp only [List.length_append, List.length_cons] at this
   omega
  have hzd : v.dd.length = v.ta.length := by have := congrArg List.length hr; simpa using this.symm
  obtain ⟨i1, ns1, b1, St, hch2⟩ := (hch _ hcs).inv
  have hb1 := aIS St hb
  have hj := step_j St
  clear S2
  refine wpAny_assign_Name (S1.store (by walk_at "put") λ s' S' => ?_)
  clear S1
  have hperm : (aAA da cs).Perm ((ca, aAF da c) :: (aAA da dn ++ aAA da rest)) := by
   rw [hcs, aCp]
   exact List.perm_middle
  obtain ⟨U, hU⟩ : ∃ U : Ledger, U = aAA da dn ++ aAA da rest := ⟨_, rfl⟩
  rw [← hU] at hperm
  have S2 := (S'.perm (nw' := aAA da cs ++ aBQ W tg td du wkc v.v0 w rw q out da dl v.m v.outs v.c? v.ts v.ta v.dd (N ++ ([] ++ tl))) (by simp only [aBQ, aBb, aAe]; walk_at "perm")).perm (hperm.append_right _)
  clear S'
  refine aAs ?_
  refine turnA_ (q := q) (m := v.m) (ca := ca) (k := dn.length) (i := v.i) (b := v.b) (ns := v.ns) (outs := v.outs) (ts := v.ts) (ta := v.ta) (dd := v.dd) (cl := c) (da := da) (dl := dl) (c? := v.c?) (N := (wkc, aAp v.v0) :: (U ++ (N ++ ([] ++ tl)))) I C (hA.le (by decide)) (by omega) (by omega) St V1 hda (by omega) (by omega) (S2.perm (by simp only [aBQ, aBb, aAe]; walk_at "perm")) ?_
  clear S2; intro m2 xs c2 ts2 r1 r2 vs ve s' V2 hr12 hst S'
  have hts2 := V2.opn.lens.2
  rw [List.length_map] at hts2
  refine turnB_ (q := q) (m := m2) (ca := ca) (ts := ts2) (ta := v.ta ++ [r1]) (dd := v.dd ++ [r2]) (cl := c) (da := da) (dl := dl) (c? := c2) (v0 := v.v0) (N := U ++ (N ++ ([] ++ tl))) I (hA.le (by decide)) hwk (by omega) V2 hda (by rw [List.length_append, List.length_singleton]; omega) (by rw [List.length_append, List.length_singleton]; omega) hj hst (S'.perm (by simp only [aBQ, aBb, aAe]; walk_at "perm")) ?_
  clear S'; intro ta' dd' X v0 vr vt vst vk s' hX h1 h2 S'
  have S3 := (S'.perm (nw' := ((ca, aAF da c) :: U) ++ aBQ W tg td du wkc v0 w rw q out da dl m2 (v.outs ++ xs) c2 ts2 ta' dd' (N ++ ([] ++ tl))) (by simp only [aBQ, aBb, aAe]; walk_at "perm")).perm (hperm.symm.append_right _)
  refine (kk ⟨i1, b1, ns1, v.outs ++ xs, m2, ts2, ta', dd', c2, v0, _, vs, ve, vr, vt, vst, vk⟩ _ ⟨λ rest' e => ?_, hb1, by rw [List.length_append]; exact V2, ?_, ?_⟩ (S3.perm (by simp only [aBQ, aBb, aAe]; walk_at "perm"))).1
  ·have e2 : rest = rest' := by
    have h := hcs.symm.trans e
    rw [List.append_assoc] at h
    exact (List.cons.inj (List.append_cancel_left h)).2
   exact e2 ▸ hch2
  ·rw [h1, h2, List.map_append, List.map_append, hr]
   show _ ++ [r1.r] ++ X = _ ++ [r2.r] ++ X
   rw [hr12]
  ·have := congrArg List.length h1
   simp only [List.length_map, List.length_append, List.length_singleton] at this ⊢
   omega
 ·intro v s1 hH S1
  obtain ⟨hch, hb, V1, hr, hz⟩ := hH
  rw [List.append_nil] at S1
  walk_at "ke"
  exact k v.ta v.dd v.v0 v.m v.outs v.c? v.ts v.vc v.vs v.ve v.vr v.vt v.vst v.vk s1 hr S1
end
end
section
noncomputable def aHM (s : Shared) (L : Ledger) : Prop := ∀ p ∈ L, ∃ o, s.heap.get? p.1 = some o /\ p.2 o
theorem aIA {A : Around} {s : Shared} {l b : Addr} {xs : List Str} (h1 : ∃ o, s.heap.get? l = some o /\ aAb xs o) (h2 : ∃ o, s.heap.get? b = some o /\ aAb xs o) (hu : A.units < cLine) : RcAt A s (.ref l) (.ref b) true := by
 obtain ⟨o1, ho1, vs, hv, n1, rfl⟩ := h1
 obtain ⟨o2, ho2, ws, hw, n2, rfl⟩ := h2
 refine aHy (xs := vs) (ys := ws) ⟨_, ho1, rfl, n1, rfl⟩ ⟨_, ho2, rfl, n2, rfl⟩ (by rw [hv.length, hw.length]) hu λ j h1 h2 => ?_
 have hj : j < xs.length := by rw [← hv.length]; exact h1
 obtain ⟨t, e1⟩ := hv.at? (List.getElem?_eq_getElem hj)
 obtain ⟨u, e2⟩ := hw.at? (List.getElem?_eq_getElem hj)
 rw [List.getElem?_eq_getElem h1] at e1
 rw [List.getElem?_eq_getElem h2] at e2
 injection e1 with e1
 injection e2 with e2
 rw [e1, e2]
 have := aCX (A := A.in1) (s := s) (x := xs[j]) (y := xs[j]) (t := t) (u := u)
 rwa [decide_eq_true rfl] at this
theorem eqRw {A : Around} {s : Shared} {a b : RwA} (e : a.r = b.r) (h1 : aHM s a.led) (h2 : aHM s b.led) (hu : A.units + 4 < cLine) : EqAt A s (.ref a.a) (.ref b.a) true := by
 obtain ⟨a1, a2, r⟩ := a
 obtain ⟨b1, b2, r'⟩ := b
 have e : r = r' := e
 subst e
 cases r with
 | ts xs => exact eqOf (aIA (h1 (a1, aAb xs) (.head _)) (h2 (b1, aAb xs) (.head _)) (by omega))
 | pr x xs =>
  obtain ⟨o1, ho1, t, n1, rfl⟩ := h1 (a1, aGy x a2) (.head _)
  obtain ⟨o2, ho2, u, n2, rfl⟩ := h2 (b1, aGy x b2) (.head _)
  have hL : RcAt A.in1 s (.ref a2) (.ref b2) true := aIA (h1 (a2, aAb xs) (.tail _ (.head _))) (h2 (b2, aAb xs) (.tail _ (.head _))) (by show A.units + 1 < _; omega)
  have k1 : s.heap.IsTuple a1 #[.str x t, .ref a2] := ⟨_, ho1, rfl, n1, rfl⟩
  have k2 : s.heap.IsTuple b1 #[.str x u, .ref b2] := ⟨_, ho2, rfl, n2, rfl⟩
  have hT := RcAt.tuples (e := λ _ => true) k1 k2 (A := A) (by omega) (λ j h1 h2 => by
   match j, h1, h2 with
   | 0, _, _ =>
    have := aCX (A := A.in1) (s := s) (x := x) (y := x) (t := t) (u := u)
    rwa [decide_eq_true rfl] at this
   | 1, _, _ => exact eqOf hL)
  exact eqOf (show RcAt A s (.ref a1) (.ref b1) true from hT)
theorem aGq {rw : Bool} {m : Wm} (h : IsFresh m rw) : Inv8 rw 0 0 [] m [] [] where
 ig := h.ig
 held := by rw [h.held]; simp
 hz := by rw [h.held]; exact Nat.le_refl _
 opn := by rw [h.ns]; exact .nil
 ps := by rw [h.ps]; rfl
 nss := by
  rw [h.ns]
  have h1 : (aBO rw).nss ≠ [] := by cases rw <;> simp [aBO]
  have h2 : (aBO rw).nss.length <= 2 := by cases rw <;> simp [aBO]
  have h3 : ∀ q ∈ flat (aBO rw).nss, q ∈ nmapV := by cases rw <;> simp [aBO, flat]
  exact ⟨⟨(aBO rw).nss, [], (List.append_nil _).symm, rfl, h1, ⟨λ q hq => by simp at hq, h2⟩⟩, λ q hq => .inl (h3 q hq)⟩
 nz := by rw [h.ns]; unfold aBO; cases rw <;> decide
 good := by
  rw [h.ns]
  refine ⟨?_, ?_, ?_, ?_, ?_, ?_⟩ <;> simp [aBO, flat, xmlP]
 rs := λ e => by cases e
 rd := λ _ => h.rd
 oz := Nat.le_refl _
section
variable {N : Ledger}
theorem Sta.sumB {a : Addr} {xs : List Value} {ns : List Int} {Q : Value -> Shared -> Prop} (S : Sta W G env loc nw s) (hh : A.handled = none) (hB : W.B.IsList a xs.toArray) (hi : IntsAre xs ns) (h : ∀ t s', Sta W G env loc nw s' -> Q (.int ns.sum t) s') :
  wpAny (model W.prog W.w) A (call (.builtin "sum") [.ref a]) Q E s := by
 obtain ⟨xs', e⟩ := hi.allInts.items
 have hl : s.heap.IsList a xs.toArray := by
  obtain ⟨o, ho, h1, h2⟩ := hB
  exact ⟨o, S.led.keep _ _ ho, h1, h2⟩
 rw [e] at hl
 refine sum_intListG hh hl λ h' tk t' hk => ?_
 have q := h t' _ (S.grow hk tk)
 rw [preSum_eq, List.take_of_length_le (by simp)]
 have e2 : (xs'.toList.map (·.1)) = ns := by
  have := hi.numsOf
  rw [show xs = xs.toArray.toList from rfl, e, nums_intItems] at this
  simpa using this
 first | (rw [e2]; exact q) | (simpa [e2] using q)
theorem aIn {pos : Pos} {f : Addr} {e : Expr} {rest : List Expr} {kws : List Keyword} {Q : Value -> Shared -> Prop} (hk : keepIn W.K (.ref f) = true)
  (h : wpAny (model W.prog W.w) A (spliced (backTo pos (starEach (e :: rest) env))) (λ vs s₁ => wpAny (model W.prog W.w) A (evalAll ((backToKw pos (keywordEach kws env)).map (·.2))) (λ kvs s₂ => W.K.In s₂.heap /\ wpAny (model W.prog W.w) A (call (.ref f) vs (((backToKw pos (keywordEach kws env)).filterMap (·.1)).zip kvs)) Q E s₂) E s₁) E s)
  (he : backTo pos (starEach (e :: rest) env) = (false, eval e env) :: backTo pos (starEach rest env)) (hplain : ((backTo pos (starEach (e :: rest) env)).any (·.1) || (backToKw pos (keywordEach kws env)).any (·.1.isNone)) = false) (hall : (backToKw pos (keywordEach kws env)).all (·.1.isSome) = true) :
  wpAny (model W.prog W.w) A (callWith pos (.ref f) [] (backTo pos (starEach (e :: rest) env)) (backToKw pos (keywordEach kws env))) Q E s := by
 refine callWith_of (P := λ h => W.K.In h) (first := []) hplain (λ h X => keeps_K hk h X) ?_
 rw [he] at h ⊢
 exact evalArgs_kwB hall h
theorem law8 {scr : Addr} {vs : List Value} {ns : List Int} (I : IsC W) (C : CodeHd W.B 125 123) (S : St0 W [] (tabLed [(125, 123)]) s) (hB : W.B.IsList scr vs.toArray) (hi : IntsAre vs ns) (hn : ns.length <= 63) (hA : Aok 40 A) :
  codeAny (model W.prog W.w) A (.call (.ref 199) ⟨[.ref scr], []⟩) (λ r s' => r = .ok (.ret (.bool true)) /\ ∃ G nw' c?, St0 W G (nw' ++ Tabs 123 lamP aAB c?) s') s := by
 refine S.codeC (binds := [("script", .ref scr)]) [("script", .ref scr)] ["out", "writer", "tags", "told", "due", "call", "seen", "ended", "rows", "tag", "stated", "keys"] [none] I.f_law hA.room (λ _ _ _ _ _ => BindsTo.of_eq (by kernel_rfl)) (by kernel_rfl) (by kernel_rfl) (by kernel_rfl) ?_
 intro L cs s' hcs S'
 have hnm : aAn (aAc aEs).names = (["walk"] : List Str) := by kernel_rfl
 rw [hnm] at hcs
 obtain ⟨wkc, rfl, hwk⟩ := hcs.one
 have hA' := hA.deeper (env := envL L)
 walk_at "zd"
 simp only [aAv, List.map_cons, List.map_nil, List.cons_append, List.nil_append, tabLed, aAV] at S'
 have hcl := I.cl
 refine aAs ?_
 walk_at "c"
 revert a'; intro out lq Mq S'
 refine aHQ ?_ (by kernel_rfl)
 refine Sta.global S' I.g_cls (by kernel_rfl) ?_
 refine aIn (by rw [I.k]; kernel_rfl) ?_ (by kernel_rfl) (by kernel_rfl) (by kernel_rfl)
 walk_at "c"
 refine Sta.getAppend S' (by walk_at "mem") ?_
 clear S'; intro q s' S'
 walk_at "c"
 refine kws_cons ?_
 walk_at "c"
 refine Sta.builtin S' I.b_sum bo_sum (by kernel_rfl) ?_
 walk_at "c"
 refine Sta.sumB S' hA'.handled hB hi ?_
 clear S'; intro t1 s' S'
 walk_at "c"
 refine kws_nil ?_
 refine ⟨S'.kin, ?_⟩
 refine Sta.make (fI := 67) selfNames S' (by decide +kernel) (by rw [I.k]; kernel_rfl) (by rw [I.k]; kernel_rfl) (by rw [I.k]; kernel_rfl) ?_
 clear S'; intro x dx s' S'
 refine initR_ (rw := (ns.sum.fmod 2 == 1)) I S' (aIo (hA'.le (by decide))) ?_
 clear S'; intro w m s' hw hfr S'
 subst hw
 refine ⟨rfl, ?_⟩
 generalize (ns.sum.fmod 2 == 1) = rw at hfr S'
 refine S'.store (by walk_at "put") ?_
 clear S'; intro s' S'
 walk_at "ke"
 refine aAi rfl ?_
 refine Assign_Tuple_swapped (names := ["tags", "told", "due"]) ?_ (by kernel_rfl) (by kernel_rfl)
 walk_at "c"
 refine Sta.unpackI S' hA'.handled (by walk_at "mem") rfl ?_
 clear S'; intro s' S'
 replace S' := S'.sub (List.sublist_cons_self _ _)
 refine assignInOrder_cons ?_
 refine bindName_ ?_
 walk_at "c"
 refine assignInOrder_cons ?_
 refine bindName_ ?_
 walk_at "c"
 refine assignInOrder_cons ?_
 refine bindName_ ?_
 walk_at "c"
 refine assignInOrder_nil ?_
 replace S' := (((S'.tell (c' := aAa (aAh [])) .head λ _ _ h => h).tell (c' := aAa (aAh [])) (.tail .head) λ _ _ h => h).tell (c' := aAa (aAq [])) (.tail (.tail .head)) λ _ _ h => h)
 obtain ⟨tg, td, du, S'⟩ : ∃ tg td du, Sta W [] (envL L) (locW scr out w.x tg td du none none none none none none none) ((du, aAa (aAh [])) :: (td, aAa (aAh [])) :: (tg, aAa (aAq [])) :: aAe W w ⟨false, rw, .none⟩ q m ((q, aAY "list.append" (.ref out)) :: (out, aAa []) :: (wkc, aAp none) :: Tabs 123 lamP aAB none)) s' := ⟨_, _, _, S'⟩
 walk_at "ke"
 refine aAi rfl ?_
 refine wpAny_For ?_ (by intro _; kernel_rfl)
 refine Call_ ?_ (by kernel_rfl)
 refine Sta.global S' I.g_l_calls (by kernel_rfl) ?_
 refine aBJ (by rw [I.k]; kernel_rfl) ?_ (by kernel_rfl) (by kernel_rfl)
 walk_at "c"
 refine calls_ I (hA'.le (by decide)) hB hi hn S' ?_
 clear S'; intro cl da dl cs bz s' hda hch hcz S'
 refine S'.iterL (.head _) ?_
 clear S'; intro it s' S'
 have S3 := (S'.perm (nw' := (out, aAa []) :: (it, IsLI cl 0) :: (cl, aAa (aAE cs)) :: (aAA da cs ++ (aAP W da dl ++ ((du, aAa (aAh [])) :: (td, aAa (aAh [])) :: (tg, aAa (aAq [])) :: aAe W w ⟨false, rw, .none⟩ q m ((q, aAY "list.append" (.ref out)) :: (wkc, aAp none) :: Tabs 123 lamP aAB none))))) (by simp only [aAe]; walk_at "perm")).tell (c' := aAb []) .head λ o _ ho => ⟨_, .nil, ho⟩
 clear S'
 refine aH8 (w := w) (m := m) (q := q) (out := out) (tg := tg) (td := td) (du := du) (wkc := wkc) (rw := rw) (da := da) (dl := dl) (cs := cs) (cl := cl) (N := []) I C (hA'.le (by decide)) hwk hda hch hcz (aGq hfr) (S3.perm (by simp only [aBQ, aBb, aAe, aAx, aAj, List.map_nil, List.flatMap_nil, List.nil_append, List.append_nil]; walk_at "perm")) ?_ _ rfl
 clear S3; intro ta dd v0 m' outs c? ts vc vs' ve vr vt vst vk s' hr S'
 walk_at "ke"
 refine aAi rfl ?_
 refine wpAny_Return_some ?_
 refine wpAny_Compare1 ?_ (by kernel_rfl)
 walk_at "c"
 have hM : ∀ p ∈ aBQ W tg td du wkc v0 w rw q out da dl m' outs c? ts ta dd (aAA da cs ++ []), ∃ o, s'.heap.get? p.1 = some o /\ p.2 o := λ p hp => S'.get (a := p.1) (c := p.2) hp
 have hmm : ∀ p, (p ∈ aAj ta \/ p ∈ aAj dd) -> p ∈ aBQ W tg td du wkc v0 w rw q out da dl m' outs c? ts ta dd (aAA da cs ++ []) := λ p hp => by
  simp only [aBQ, aBb, aAe, List.mem_cons, List.mem_append]
  rcases hp with h | h <;> simp [h]
 have hu := hA'.units
 have hl : ta.length = dd.length := by have := congrArg List.length hr; simpa using this
 refine Sta.eqOp S' (aHy (xs := aAh ta) (ys := aAh dd) (S'.isList (.tail _ (.head _))) (S'.isList (.tail _ (.tail _ (.head _)))) (by simp [aAh, hl]) (by show (A.deeper (envL L)).units < cLine; omega) λ j h1 h2 => ?_) ?_
 ·have j1 : j < ta.length := by simpa [aAh] using h1
  have j2 : j < dd.length := by simpa [aAh] using h2
  have e1 : (aAh ta)[j] = .ref ta[j].a := by simp [aAh]
  have e2 : (aAh dd)[j] = .ref dd[j].a := by simp [aAh]
  rw [e1, e2]
  refine eqRw ?_ (λ p hp => hM p (hmm p (.inl (List.mem_flatMap.mpr ⟨_, List.getElem_mem j1, hp⟩)))) (λ p hp => hM p (hmm p (.inr (List.mem_flatMap.mpr ⟨_, List.getElem_mem j2, hp⟩)))) ?_
  ·have h := congrArg (λ l : List Rw => l[j]?) hr
   simp only [List.getElem?_map, List.getElem?_eq_getElem j1, List.getElem?_eq_getElem j2, Option.map_some] at h
   injection h
  ·show (A.deeper (envL L)).units + 1 + 4 < cLine
   omega
 walk_at "c"
 clear hM hmm
 exact ⟨rfl, _, (_, IsNs _) :: ((tg, aAa (aAq ts)) :: (td, aAa (aAh ta)) :: (du, aAa (aAh dd)) :: (wkc, aAp v0) :: aAe W w ⟨false, rw, .none⟩ q m' ((q, aAY "list.append" (.ref out)) :: (out, aAb outs) :: (aAP W da dl ++ (aAx ts ++ (aAj ta ++ (aAj dd ++ aAA da cs)))))), c?, (S'.perm (nw' := ((tg, aAa (aAq ts)) :: (td, aAa (aAh ta)) :: (du, aAa (aAh dd)) :: (wkc, aAp v0) :: aAe W w ⟨false, rw, .none⟩ q m' ((q, aAY "list.append" (.ref out)) :: (out, aAb outs) :: (aAP W da dl ++ (aAx ts ++ (aAj ta ++ (aAj dd ++ aAA da cs)))))) ++ Tabs 123 lamP aAB c?) (by simp only [aBQ, aBb, aAe, List.append_nil]; walk_at "perm")).st0 (pre := []) rfl⟩
end
end
end
end Mine
end
section
namespace Mine
theorem aok_caller : Aok 60 callerA := ⟨rfl, by decide +kernel, by decide +kernel⟩
theorem grown_of {W : Wd} {G : Gens} {nw : Ledger} {s : Shared} {P : Addr} {ps : List Value} (S : St0 W G nw s) (m : (P, aDv ps) ∈ nw) : GrownAt P s.heap := by
 obtain ⟨_, o, ho, rfl⟩ := S.led.own _ m
 exact ⟨_, ho⟩
end Mine
theorem PySem.Challenge.cw_dn0284_08_holds : PySem.Challenge.rw_dn0284_08.Holds := by
 refine PySem.W.holds_law Mine.ws (Function.const _ (Mine.hd ?_))
 k_fill
 intro w s₀ s₁ mg mb G Y fa o pm cd doc dV kV ho hd hcd hD hmg hg args vals as hpre hlay hrd hwl hlo
 have KX := km_in_of Y
 km_tabs Y
 have X := (Ground.X G).1
 have V := (Ground.X G).2
 refine Ground.open G ?_
 intro T B D TE TW
 try (refine guard_noD D (by decide +kernel) ?_; clear D)
 km_lay T hmg ho hd cd
 wrow_args hpre hlay hrd hwl hlo
 first | refine callC_kw (enter_call ?_) | refine enter_call ?_
 w_top on
 refine Mine.kn_postG hT9 (λ _ => rfl) (by wrow_post) ?_
 have hfa : fa = 199 := by
  have e1 : mg "law" = some (.ref 199) := mg_of KX T.g (by kernel_rfl)
  have e2 : some (Value.ref fa) = some (.ref 199) := hmg.symm.trans e1
  injection e2 with e2
  injection e2
 subst hfa
 let W : Mine.Wd := ⟨PySem.Challenge.rw_dn0284_08.row.prog, w, Mine.KK w.params, ghostOf s₁.heap [(125, 123)], s₁.os⟩
 have S0 : Mine.St0 W [] (Mine.tabLed [(125, 123)]) s₁ := Mine.sta0_of (W := W) hT9 (by decide) KX (by kernel_rfl) T hg rfl rfl
 have C := ghost_code hT9
 rename s₁.heap.IsList _ _ => hL
 rename IntsAre _ _ => hI
 have hL2 := ghost_list hT9 hL
 refine codeAny_mono (Mine.law8 (W := W) ⟨rfl⟩ C.1 S0 hL2 hI (by omega) (Mine.aok_caller.le (by omega))) λ r s' h => ?_
 obtain ⟨rfl, G', nw', c?, S'⟩ := h
 refine ⟨rfl, S'.led.keep, S'.os, S'.bare, ?_, trivial⟩
 cases c? with
 | none => exact Mine.grown_of S' (List.mem_append_right _ (.head _))
 | some c => exact Mine.grown_of S' (List.mem_append_right _ (.head _))
end
