import PyProof.Rows.All
import PyProof.Draws
import PyProof.IsiStr
import PyProof.IsiH_list
import PyProof.WalksEnum
import PyProof.StrReplace2
import KE.KItem
import KE.KNest
import KE.KRevIter
import Wide.FinOn
import OpenK.AllK
import Wide.All
import Lean
import PySem.Challenge.RW_ti0048_01
open PySem PySem.W PyProof.Rows PySem.Calls
set_option Elab.async false
set_option genSizeOf false
set_option genInjectivity false
set_option maxRecDepth 100000
set_option maxHeartbeats 4000000
namespace Mine
noncomputable section
set_option maxRecDepth 512
theorem aside {p : Prop} (h : ∀ C : Prop, (p → C) → C) : p := h p id
theorem ex2 {α β : Sort _} {p : α → β → Prop} (a : α) (b : β) (h : p a b) : ∃ a b, p a b := ⟨a, b, h⟩
theorem ex3 {α β γ : Sort _} {p : α → β → γ → Prop} (a : α) (b : β) (c : γ) (h : p a b c) : ∃ a b c, p a b c := ⟨a, b, c, h⟩
theorem ex4 {α β γ δ : Sort _} {p : α → β → γ → δ → Prop} (a : α) (b : β) (c : γ) (d : δ) (h : p a b c d) : ∃ a b c d, p a b c d := ⟨a, b, c, d, h⟩
theorem ex5 {α β γ δ ε : Sort _} {p : α → β → γ → δ → ε → Prop} (a : α) (b : β) (c : γ) (d : δ) (e : ε) (h : p a b c d e) : ∃ a b c d e, p a b c d e := ⟨a, b, c, d, e, h⟩
theorem ex6 {α β γ δ ε ζ : Sort _} {p : α → β → γ → δ → ε → ζ → Prop} (a : α) (b : β) (c : γ) (d : δ) (e : ε) (f : ζ) (h : p a b c d e f) : ∃ a b c d e f, p a b c d e f := ⟨a, b, c, d, e, f, h⟩
theorem ex7 {α β γ δ ε ζ η : Sort _} {p : α → β → γ → δ → ε → ζ → η → Prop} (a : α) (b : β) (c : γ) (d : δ) (e : ε) (f : ζ) (g : η) (h : p a b c d e f g) : ∃ a b c d e f g, p a b c d e f g := ⟨a, b, c, d, e, f, g, h⟩
theorem runs_toks {M : Model} {Γ : Ctx} {p : Pos} {t : Sem PySem.Fin} {fs : List Frame} {s s' : Shared} {e : End} (h : Runs M Γ p t fs s e s') : s.toks ≤ s'.toks := by
  induction h <;> first | exact Nat.le_refl _ | (rename_i ih1 ih2; exact Nat.le_trans ih1 ih2) | (rename_i ih1 _ ih2; exact Nat.le_trans ih1 ih2) | (rename_i ih; exact ih) | (rename_i ih; exact Nat.le_trans (Nat.le_succ _) ih)
theorem returns_toks {M : Model} {Γ : Ctx} {p : Pos} {s s' : Shared} {r : Result} (h : Returns M Γ p s r s') : s.toks ≤ s'.toks := runs_toks h
theorem wakes_toks {M : Model} {Γ : Ctx} {p : Pos} {g : Nat} {r : Resume} {s s' : Shared} {res : GenResult} (h : Wakes M Γ p g r s res s') : s.toks ≤ s'.toks := by
  unfold Wakes at h
  split at h
  · exact h.elim
  · split at h
    · obtain ⟨e, s1, hr, _, _, rfl⟩ := h; have q := runs_toks hr; exact q
    · rw [h.2]; exact Nat.le_refl _
    · rw [h.2]; exact Nat.le_refl _
  · obtain ⟨e, s1, hr, _, _, rfl⟩ := h; have q := runs_toks hr; exact q
  · rw [h.2]; exact Nat.le_refl _
  · rw [h.2]; exact Nat.le_refl _
theorem wp_toks {α : Type} {M : Model} : ∀ {t : Sem α} {Γ : Ctx} {Q : α → Pos → Shared → Prop} {E : Value → Pos → Shared → Prop} {p : Pos} {s : Shared} {n : Nat}, n ≤ s.toks →
    Sem.wp M Γ t (fun a p' s' => n ≤ s'.toks → Q a p' s') E p s → Sem.wp M Γ t Q E p s := by
  intro t
  induction t with
  | pure a => intro Γ Q E p s n hn h; exact h hn
  | raise e => intro Γ Q E p s n hn h; exact h
  | unsupported w => intro Γ Q E p s n hn h; exact h
  | finish e => intro Γ Q E p s n hn h; exact h
  | rule t k ih => intro Γ Q E p s n hn h; exact ih () hn h
  | «at» p' k ih => intro Γ Q E p s n hn h; exact ih () hn h
  | load a pt k ih => intro Γ Q E p s n hn h; obtain ⟨o, ho, h⟩ := h; exact ⟨o, ho, ih o hn h⟩
  | update a pt f k ih => intro Γ Q E p s n hn h; exact ⟨h.1, ih () (s := { s with heap := s.heap.update a f }) hn h.2⟩
  | alloc o k ih => intro Γ Q E p s n hn h; exact ih _ (s := { s with heap := s.heap.push o }) hn h
  | loadIfAlive a k ih => intro Γ Q E p s n hn h; exact ih _ hn h
  | point l k ih => intro Γ Q E p s n hn h; exact ih () hn h
  | register a k ih => intro Γ Q E p s n hn h; exact h
  | fresh k ih => intro Γ Q E p s n hn h; exact ih _ (s := { s with toks := s.toks + 1 }) (Nat.le_succ_of_le hn) h
  | ask k ih => intro Γ Q E p s n hn h; exact ih _ hn h
  | choose src m k ih => intro Γ Q E p s n hn h; exact ⟨h.1, ih _ (s := { s with drawn := s.drawn.bump src }) hn h.2⟩
  | os q l k ih => intro Γ Q E p s n hn h; exact ih _ (s := { s with os := (Os.step s.os q).1 }) hn h
  | call c hd g l k ih =>
    intro Γ Q E p s n hn h
    obtain ⟨r, s1, hr, h⟩ := h
    exact ⟨r, s1, hr, ih r (Nat.le_trans hn (returns_toks hr)) h⟩
  | handled own k ih => intro Γ Q E p s n hn h; exact ih _ hn h
  | newGen c k ih => intro Γ Q E p s n hn h; exact ih _ (s := { s with gens := s.gens.push (.fresh c) }) hn h
  | genState g k ih => intro Γ Q E p s n hn h; obtain ⟨st, hst, h⟩ := h; exact ⟨st, hst, ih _ hn h⟩
  | resume g r l k ih =>
    intro Γ Q E p s n hn h
    obtain ⟨res, s1, hr, h⟩ := h
    exact ⟨res, s1, hr, ih res (Nat.le_trans hn (wakes_toks hr)) h⟩
  | yield v g l k ih => intro Γ Q E p s n hn h; exact h
  | stack k ih => intro Γ Q E p s n hn h; exact ih _ hn h
  | fork c k ih => intro Γ Q E p s n hn h; exact h
  | thread k ih => intro Γ Q E p s n hn h; exact ih _ hn h
  | await a tk td l k ih => intro Γ Q E p s n hn h; exact h
theorem tok_in {α : Type} {M : Model} {A : Around} {t : Sem α} {Q : α → Shared → Prop} {E : Value → Shared → Prop} {s : Shared} (h : wpAny M A t (fun a s' => s.toks ≤ s'.toks → Q a s') E s) : wpAny M A t Q E s :=
  fun Γ p hΓ => wp_toks (Nat.le_refl _) (h Γ p hΓ)
end
section
set_option maxRecDepth 512
noncomputable def viewOf (p : Program) : Program :=
  { p with main := { p.main with body := p.main.body.take 1 ++ (p.main.body.drop 2).take 1 ++ (p.main.body.drop 4).take 6 ++ (p.main.body.drop 11).take 5 ++ p.main.body.drop 17 } }
noncomputable def view : Program := viewOf (RowW.prog PySem.Challenge.rw_ti0048_01.row.toRowW)
set_option maxRecDepth 100000 in
set_option maxHeartbeats 8000000 in
noncomputable def hopen := fun (α : Type) (Yf : Shared → α) (Ya : World → α) YP h1 h2 hl hw hc => holds_open (q := Mine.view) (loose := [PySem.Str.ofString "Whitespace"]) (Xt := fun s => xlAt Mine.view [] s && recOk (RowW.records PySem.Challenge.rw_ti0048_01.row.toRowW) s) (XP := XL Mine.view []) (Yf := Yf) (Ya := Ya) (YP := YP) (N := 2388) (LeftO.of_split "special-get-raises" hl) h1 h2 (fun s e => xl_of s (Bool.and_eq_true_iff.mp e).1) XL.keeps (by rfl) (by rfl) (by rfl) (fun s e => recFacts_of (Bool.and_eq_true_iff.mp e).2) (by rfl) (by decide +kernel) (by decide +kernel) ⟨rfl, rfl, rfl, rfl, rfl, by decide +kernel⟩ hw hc
open Lean in
local macro_rules
  | `(tactic| o_head $H) => do
    let (hl, hw, hc) := (mkIdent `hl, mkIdent `hw, mkIdent `hc)
    `(tactic| (refine Mine.hopen _ _ _ _ (Hook.of $H) (Hook.keeps $H) ?$hl ?$hw ?$hc
               focus (intro w; kernel_rfl)))
set_option maxRecDepth 100000 in
set_option maxHeartbeats 8000000 in
open_top hd for PySem.Challenge.rw_ti0048_01
end
noncomputable section
set_option maxRecDepth 512
abbrev AM := Addr → Option Obj
structure PM where
  ob : AM
  hi : Nat
structure Le (G G' : PM) : Prop where
  up : ∀ b o, G.ob b = some o → G'.ob b = some o
  hi : G.hi ≤ G'.hi
theorem Le.refl (G : PM) : Le G G := ⟨fun _ _ h => h, Nat.le_refl _⟩
theorem Le.trans {G G' G'' : PM} (h : Le G G') (h' : Le G' G'') : Le G G'' := ⟨fun b o e => h'.up b o (h.up b o e), Nat.le_trans h.hi h'.hi⟩
inductive T where
  | none
  | bool (b : Bool)
  | int (i : Int)
  | str (s : List Nat)
  | con (v : Value)
  | tup (xs : List T)
  | lst (xs : List T)
  | ws (raw : T) (n nt : Int) (norm : T) (sm : Bool)
  | rng (a b : Int)
  | tint (i : Int)
  | nint (n : Nat) (i : Int)
  | oint (n : Nat) (i : Int)
  | tstr (s : List Nat)
  | nstr (n : Nat) (s : List Nat)
  | ostr (n : Nat) (s : List Nat)
  | fn (name qual : Str) (params : Arguments) (body : List Stmt) (scope : Scope) (cl : List (Str × Addr))
inductive WsEs (n nt : Int) (sm : Bool) (v1 v4 : Value) : List DictEntry → Prop
  | mk (h1 h2 h3 h4 h5 : Int) (k1 k2 k3 k4 k5 t2 t3 : Tok) : WsEs n nt sm v1 v4
    [⟨h1, .str (Str.ofString "raw") k1, v1⟩, ⟨h2, .str (Str.ofString "n") k2, .int n t2⟩, ⟨h3, .str (Str.ofString "nt") k3, .int nt t3⟩, ⟨h4, .str (Str.ofString "norm") k4, v4⟩, ⟨h5, .str (Str.ofString "is_simple") k5, .bool sm⟩]
inductive FnR (G : AM) (name qual : Str) (params : Arguments) (body : List Stmt) (scope : Scope) (cl : List (Str × Addr)) : Value → Prop
  | mk (f : Addr) (doc pm : Value) (c' : Addr) (ctv : Value) (o' : Obj) (vs : Array Value) (t : Tok) (e1 : G f = some (fnMade name qual params body scope cl doc pm c' ctv)) (e2 : G c' = some o') (e3 : o'.data = .fields vs) (e4 : vs[1]? = some (.str qual t)) : FnR G name qual params body scope cl (.ref f)
mutual
noncomputable def RepT (G : PM) : T → Value → Prop
  | .none, v => v = .none
  | .bool b, v => v = .bool b
  | .int i, v => ∃ t, v = .int i t
  | .str s, v => ∃ t, v = .str ⟨s.toArray⟩ t
  | .con c, v => v = c
  | .tup xs, v => ∃ a o vs n, v = .ref a ∧ G.ob a = some o ∧ o.cls = .type "tuple" ∧ o.data = .seq vs n ∧ RepL G xs vs.toList
  | .lst xs, v => ∃ a o vs n, v = .ref a ∧ G.ob a = some o ∧ (o.cls = .type "list" ∧ o.dict = none) ∧ o.data = .seq vs n ∧ RepL G xs vs.toList
  | .ws raw n nt norm sm, v => ∃ x dx es N v1 v4, v = .ref x ∧ G.ob x = some (instObj 83 dx) ∧ G.ob dx = some (dictOf es N) ∧ WsEs n nt sm v1 v4 es ∧ RepT G raw v1 ∧ RepT G norm v4
  | .rng a b, v => ∃ r t u w, v = .ref r ∧ G.ob r = some { cls := .type "range", dict := none, data := .fields #[.int a t, .int b u, .int 1 w], slots := #[] }
  | .tint i, v => ∃ t : Nat, 0 < t ∧ t < G.hi ∧ v = .int i t
  | .nint n i, v => ∃ t : Nat, 0 < t ∧ n ≤ t ∧ v = .int i t
  | .oint n i, v => ∃ t : Nat, 0 < t ∧ t < n ∧ v = .int i t
  | .tstr s, v => ∃ t : Nat, 0 < t ∧ t < G.hi ∧ v = .str ⟨s.toArray⟩ t
  | .nstr n s, v => ∃ t : Nat, 0 < t ∧ n ≤ t ∧ v = .str ⟨s.toArray⟩ t
  | .ostr n s, v => ∃ t : Nat, 0 < t ∧ t < n ∧ v = .str ⟨s.toArray⟩ t
  | .fn name qual params body scope cl, v => FnR G.ob name qual params body scope cl v
noncomputable def RepL (G : PM) : List T → List Value → Prop
  | [], vs => vs = []
  | x :: xs, vs => ∃ v r, vs = v :: r ∧ RepT G x v ∧ RepL G xs r
end
mutual
theorem RepT.mono {G G' : PM} (h : Le G G') : ∀ {x : T} {v : Value}, RepT G x v → RepT G' x v
  | .none, _, e => e
  | .bool _, _, e => e
  | .int _, _, e => e
  | .str _, _, e => e
  | .con _, _, e => e
  | .tup xs, v, e => by
    obtain ⟨a, o, vs, n, e1, e2, e3, e4, e5⟩ := e
    exact ⟨a, o, vs, n, e1, h.up _ _ e2, e3, e4, RepL.mono h e5⟩
  | .lst xs, v, e => by
    obtain ⟨a, o, vs, n, e1, e2, e3, e4, e5⟩ := e
    exact ⟨a, o, vs, n, e1, h.up _ _ e2, e3, e4, RepL.mono h e5⟩
  | .ws raw n nt norm sm, v, e => by
    obtain ⟨x, dx, es, N, v1, v4, e1, e2, e3, w, e4, e5⟩ := e
    exact ⟨x, dx, es, N, v1, v4, e1, h.up _ _ e2, h.up _ _ e3, w, RepT.mono h e4, RepT.mono h e5⟩
  | .rng a b, v, e => by
    refine aside fun Cg hCg => ?_
    obtain ⟨r, t, u, w, e1, e2⟩ := e
    refine hCg ?_
    exact ⟨r, t, u, w, e1, h.up _ _ e2⟩
  | .tint i, v, e => by
    obtain ⟨t, b, c, d⟩ := e
    exact ⟨t, b, Nat.lt_of_lt_of_le c h.hi, d⟩
  | .nint n i, v, e => by exact e
  | .oint n i, v, e => by exact e
  | .tstr i, v, e => by
    obtain ⟨t, b, c, d⟩ := e
    exact ⟨t, b, Nat.lt_of_lt_of_le c h.hi, d⟩
  | .nstr n i, v, e => by exact e
  | .ostr n i, v, e => by exact e
  | .fn _ _ _ _ _ _, v, e => by
    cases e with
    | mk f doc pm c' ctv o' vs t e1 e2 e3 e4 => exact .mk f doc pm c' ctv o' vs t (h.up _ _ e1) (h.up _ _ e2) e3 e4
theorem RepL.mono {G G' : PM} (h : Le G G') : ∀ {xs : List T} {vs : List Value}, RepL G xs vs → RepL G' xs vs
  | [], _, e => e
  | x :: xs, vs, e => by
    refine aside fun Cg hCg => ?_
    obtain ⟨v, r, e1, e2, e3⟩ := e
    refine hCg ?_
    exact ⟨v, r, e1, RepT.mono h e2, RepL.mono h e3⟩
end
theorem RepL.length {G : PM} : ∀ {xs : List T} {vs : List Value}, RepL G xs vs → vs.length = xs.length
  | [], _, e => by obtain rfl : _ = [] := e; rfl
  | x :: xs, vs, e => by
    obtain ⟨v, r, e1, e2, e3⟩ := e
    subst e1
    simp [e3.length]
theorem RepL.get {G : PM} : ∀ {xs : List T} {vs : List Value} {i : Nat} {x : T}, RepL G xs vs → xs[i]? = some x → ∃ v, vs[i]? = some v ∧ RepT G x v
  | [], _, _, _, _, h => by simp at h
  | x :: xs, vs, i, y, e, h => by
    obtain ⟨v, r, e1, e2, e3⟩ := e
    subst e1
    cases i with
    | zero => simp at h; subst h; exact ⟨v, rfl, e2⟩
    | succ i => simp at h ⊢; exact e3.get h
theorem RepL.append {G : PM} : ∀ {xs ys : List T} {vs us : List Value}, RepL G xs vs → RepL G ys us → RepL G (xs ++ ys) (vs ++ us)
  | [], _, _, _, e, h => by obtain rfl : _ = [] := e; exact h
  | x :: xs, ys, vs, us, e, h => by
    obtain ⟨v, r, e1, e2, e3⟩ := e
    subst e1
    exact ⟨v, _, rfl, e2, e3.append h⟩
theorem RepL.one {G : PM} {x : T} {v : Value} (h : RepT G x v) : RepL G [x] [v] := by
  exact ⟨v, [], rfl, h, rfl⟩
theorem RepL.nil {G : PM} : RepL G [] [] := rfl
theorem RepL.cons {G : PM} {x : T} {v : Value} {xs : List T} {vs : List Value} (h : RepT G x v) (h' : RepL G xs vs) : RepL G (x :: xs) (v :: vs) := by
  exact ⟨v, vs, rfl, h, h'⟩
theorem RepL.snoc {G : PM} {xs : List T} {vs : List Value} {x : T} {v : Value} (e : RepL G xs vs) (h : RepT G x v) : RepL G (xs ++ [x]) (vs ++ [v]) := e.append (.one h)
theorem RepL.set {G : PM} : ∀ {xs : List T} {vs : List Value} {i : Nat} {x : T} {v : Value}, RepL G xs vs → RepT G x v → RepL G (xs.set i x) (vs.set i v)
  | [], _, _, _, _, e, _ => by obtain rfl : _ = [] := e; exact RepL.nil
  | y :: xs, vs, i, x, v, e, h => by
    obtain ⟨u, r, e1, e2, e3⟩ := e
    subst e1
    cases i with
    | zero => exact .cons h e3
    | succ i => exact .cons e2 (e3.set h)
theorem RepL.uncons {G : PM} {x : T} {xs : List T} {vs : List Value} (e : RepL G (x :: xs) vs) : ∃ v r, vs = v :: r ∧ RepT G x v ∧ RepL G xs r := by
  exact e
inductive S where
  | undef
  | t (x : T)
  | own (a : Addr)
noncomputable def RepS (G : PM) : S → Option Value → Prop
  | .undef, o => o = none
  | .t x, o => ∃ v, o = some v ∧ RepT G x v
  | .own a, o => o = some (.ref a)
theorem RepS.mono {G G' : PM} (h : Le G G') : ∀ {sv : S} {o : Option Value}, RepS G sv o → RepS G' sv o
  | .undef, _, e => e
  | .t _, _, ⟨v, e, r⟩ => ⟨v, e, r.mono h⟩
  | .own _, _, e => e
inductive O where
  | lst (xs : List T)
  | raw (o : Obj)
  | tab (pos : Pos) (qual : Str)
  | flds (fs : List (Str × T))
  | sit (c : List Nat) (i : Nat)
noncomputable def RepE (G : PM) : List (Str × T) → List DictEntry → Prop
  | [], es => es = []
  | (n, x) :: r, es => ∃ h k v es', es = ⟨h, .str n k, v⟩ :: es' ∧ RepT G x v ∧ RepE G r es'
theorem RepE.mono {G G' : PM} (h : Le G G') : ∀ {fs : List (Str × T)} {es : List DictEntry}, RepE G fs es → RepE G' fs es
  | [], _, e => e
  | (_, _) :: _, _, e => by
    obtain ⟨a, k, v, es', e1, e2, e3⟩ := e
    exact ⟨a, k, v, es', e1, e2.mono h, RepE.mono h e3⟩
noncomputable def RepO (G : PM) : O → Obj → Prop
  | .lst xs, o => ∃ vs n, o = ({ cls := .type "list", dict := none, data := .seq vs n, slots := #[] } : Obj) ∧ RepL G xs vs.toList
  | .raw o', o => o = o'
  | .tab pos qual, o => ∃ ps, o = tabObj ps ∧ (ps = #[] ∨ ∃ (c' : Addr) (o' : Obj) (vs : Array Value) (t : Tok), ps = #[rawInt pos.line, rawInt pos.col, .ref c'] ∧ G.ob c' = some o' ∧ o'.data = .fields vs ∧ vs[1]? = some (.str qual t))
  | .flds fs, o => ∃ es N, o = dictOf es N ∧ RepE G fs es
  | .sit c i, o => ∃ t : Tok, o.cls = .type "str_ascii_iterator" ∧ o.data = .fields #[.str ⟨c.toArray⟩ t, .int i 0]
theorem RepO.mono {G G' : PM} (h' : Le G G') : ∀ {x : O} {o : Obj}, RepO G x o → RepO G' x o
  | .lst _, _, e => by
    obtain ⟨vs, n, a, c⟩ := e
    exact ⟨vs, n, a, c.mono h'⟩
  | .raw _, _, e => e
  | .tab _ _, _, e => by
    obtain ⟨ps, a, h⟩ := e
    refine ⟨ps, a, h.imp id fun h => ?_⟩
    obtain ⟨c', o', vs, t, e1, e2, e3⟩ := h
    exact ⟨c', o', vs, t, e1, h'.up _ _ e2, e3⟩
  | .flds _, _, e => by
    obtain ⟨es, N, a, b⟩ := e
    exact ⟨es, N, a, b.mono h'⟩
  | .sit _ _, _, e => e
abbrev Own := List (Addr × O)
inductive Fl where
  | next | brk | cont | ret (v : S)
noncomputable def RepF (G : PM) : Fl → Flow → Prop
  | .next, f => f = .next
  | .brk, f => f = .brk
  | .cont, f => f = .cont
  | .ret sv, f => ∃ v, f = .ret v ∧ RepS G sv (some v)
structure Bs where
  prog : Program
  w : World
  K : Frag
  mg : Str → Option Value
  mb : Str → Option Value
  H : Heap
  N : Nat
  pl : Own
structure Bs.Ok (B : Bs) : Prop where
  kin : B.K.In B.H
  g : B.H.Ns mainGlobals B.mg
  b : B.H.Ns builtinsNs B.mb
  builtins : ∀ x : Str, x ≠ "__name__" → B.mb x = bootBuiltins x
  nolimit : B.H.NoLimit
  plnd : (B.pl.map (·.1)).Nodup
structure Act where
  env : Env
  names : List Str
  s₀ : Shared
  P : AM
  G₀ : PM
noncomputable def VarAt (env : Env) (h : Heap) (x : Str) (o : Option Value) : Prop :=
  (env.kindOf x = some .local ∧ ∃ mc, h.Ns env.locals mc ∧ mc x = o) ∨
  ((env.kindOf x = some .cell ∨ env.kindOf x = some .free) ∧ ∃ c, env.cells.lookup x = some c ∧ h.IsCell c o)
noncomputable def OwnOk (X : Act) (G : PM) (h : Heap) (p : Addr × O) : Prop :=
  ∃ ob, h.get? p.1 = some ob ∧ RepO G p.2 ob ∧ G.ob p.1 = none ∧ X.P p.1 = none ∧ p.1 ≠ X.env.locals ∧ ∀ x c, X.env.cells.lookup x = some c → p.1 ≠ c
structure St₀ (B : Bs) (X : Act) (m : List S) (own : Own) (G : PM) (s : Shared) : Prop where
  same : ∃ h tk, s = { X.s₀ with heap := h, toks := tk }
  hi : G.hi ≤ s.toks
  lo : B.N ≤ G.hi
  le : ∀ b o, G.ob b = some o → s.heap.get? b = some o
  base : ∀ b o, B.H.get? b = some o → G.ob b = some o
  g0 : Le X.G₀ G
  prot : ∀ b o, X.P b = some o → s.heap.get? b = some o
  apart : ∀ b o, X.P b = some o → X.G₀.ob b = none → G.ob b = none
  ns : ∃ mc, s.heap.Ns X.env.locals mc
  GL : G.ob X.env.locals = none
  PL : X.P X.env.locals = none
  cells : ∀ x c, X.env.cells.lookup x = some c → (∃ o, s.heap.get? c = some o) ∧ (X.P c = none → G.ob c = none)
  vars : ∀ (i : Nat) x sv, X.names[i]? = some x → m[i]? = some sv → ∃ o, VarAt X.env s.heap x o ∧ RepS G sv o
  ow : ∀ p ∈ own, OwnOk X G s.heap p
  nodup : (own.map (·.1)).Nodup
  names : X.names.Nodup
  cinj : ∀ x y c, X.env.cells.lookup x = some c → X.env.cells.lookup y = some c → x = y
abbrev St (B : Bs) (X : Act) (m : List S) (own : Own) (G : PM) (s : Shared) : Prop := St₀ B X m (own ++ B.pl) G s
noncomputable def NoE : Value → Shared → Prop := fun _ _ => False
noncomputable def J {α β : Type} (rep : PM → β → α → Prop) (pre : PM → Prop) (B : Bs) (X : Act) (A : Around) (m : List S) (own : Own) (t : Sem α) (R : β → List S → Own → Prop) : Prop :=
  ∀ s G, St B X m own G s → pre G → ∀ Q : α → Shared → Prop, (∀ v b m' own' G' s', St B X m' own' G' s' → Le G G' → rep G' b v → R b m' own' → Q v s') → wpAny (model B.prog B.w) A t Q NoE s
abbrev repV : PM → S → Value → Prop := fun G sv v => RepS G sv (some v)
abbrev repB : PM → Bool → Bool → Prop := fun _ b v => v = b
abbrev repU : PM → Unit → Unit → Prop := fun _ _ _ => True
abbrev yes : PM → Prop := fun _ => True
abbrev JV := @J Value S repV yes
abbrev JB := @J Bool Bool repB yes
abbrev JF := @J Flow Fl RepF yes
inductive RepSs (G : PM) : List S → List Value → Prop
  | nil : RepSs G [] []
  | cons {x v xs vs} : RepS G x (some v) → RepSs G xs vs → RepSs G (x :: xs) (v :: vs)
abbrev JL := @J (List Value) (List S) RepSs yes
section
variable {B : Bs} {X : Act} {m : List S} {own : Own} {G : PM} {s : Shared}
theorem St.tok (x : St B X m own G s) (n : Nat) (hn : s.toks ≤ n := by first | apply Nat.le_refl | apply Nat.le_succ | lia) : St B X m own G { s with toks := n } :=
  { x with hi := Nat.le_trans x.hi hn, same := let ⟨h, _, e⟩ := x.same; ⟨h, n, by rw [e]⟩ }
theorem VarAt.keeps {env : Env} {h h' : Heap} {x : Str} {o : Option Value} (v : VarAt env h x o) (hk : ∀ b ob, h.get? b = some ob → h'.get? b = some ob) : VarAt env h' x o := by
  rcases v with ⟨hl, mc, hn, e⟩ | ⟨hc, c, hl, hi⟩
  · exact .inl ⟨hl, mc, hn.keeps hk, e⟩
  · exact .inr ⟨hc, c, hl, hi.keeps hk⟩
theorem St.grow {G' : PM} {h' : Heap} {tk : Nat} (x : St B X m own G s) (hk : ∀ b o, s.heap.get? b = some o → h'.get? b = some o) (hG : Le G G') (hG' : ∀ b o, G'.ob b = some o → h'.get? b = some o)
    (hn : ∀ b o, s.heap.get? b = some o → G.ob b = none → G'.ob b = none) (ht : G'.hi ≤ tk) : St B X m own G' { s with heap := h', toks := tk } where
  hi := ht
  lo := Nat.le_trans x.lo hG.hi
  same := let ⟨_, _, e⟩ := x.same; ⟨h', tk, by rw [e]⟩
  le := hG'
  base := fun b o e => hG.up b o (x.base b o e)
  g0 := x.g0.trans hG
  prot := fun b o e => hk b o (x.prot b o e)
  apart := fun b o e e' => hn b o (x.prot b o e) (x.apart b o e e')
  ns := let ⟨mc, e⟩ := x.ns; ⟨mc, e.keeps hk⟩
  GL := let ⟨mc, o, es, ep, e, _⟩ := x.ns; hn _ o e x.GL
  PL := x.PL
  cells := fun y c e => let ⟨⟨o, ho⟩, p⟩ := x.cells y c e; ⟨⟨o, hk _ _ ho⟩, fun q => hn c o ho (p q)⟩
  vars := fun i y sv e1 e2 => let ⟨o, a, b⟩ := x.vars i y sv e1 e2; ⟨o, a.keeps hk, b.mono hG⟩
  ow := fun p hp => let ⟨ob, a, b, c, d⟩ := x.ow p hp; ⟨ob, hk _ _ a, b.mono hG, hn _ _ a c, d⟩
  nodup := x.nodup
  names := x.names
  cinj := x.cinj
end
end
noncomputable section
set_option maxRecDepth 512
theorem Ns_unique {h : Heap} {a : Addr} {m m' : Str → Option Value} (x : h.Ns a m) (y : h.Ns a m') : m = m' := by
  refine aside fun Cg hCg => ?_
  obtain ⟨o, es, ep, e1, e2, _, e3⟩ := x
  obtain ⟨o', es', ep', f1, f2, _, f3⟩ := y
  refine hCg ?_
  rw [e1] at f1; cases f1
  rw [e2] at f2; cases f2
  funext n; rw [← e3, ← f3]
theorem cell_ne_ns {h : Heap} {a c : Addr} {m : Str → Option Value} {o} (x : h.Ns a m) (y : h.IsCell c o) : c ≠ a := by
  rintro rfl
  obtain ⟨_, es, ep, e1, e2, _, e3⟩ := x
  obtain ⟨_, f1, f2⟩ := y
  rw [e1] at f1; cases f1
  rw [e2] at f2; cases f2
theorem lookup_set_ne {m : List S} {i j : Nat} {sv : S} (h : i ≠ j) : (m.set i sv)[j]? = m[j]? := by simp [h]
theorem names_ne {names : List Str} (nd : names.Nodup) {i j : Nat} {x y : Str} (hi : names[i]? = some x) (hj : names[j]? = some y) (h : i ≠ j) : y ≠ x := by
  rintro rfl
  obtain ⟨hi', e1⟩ := List.getElem?_eq_some_iff.mp hi
  exact h ((List.getElem?_inj hi' nd).mp (hi.trans hj.symm))
section
variable {B : Bs} {X : Act} {m : List S} {own : Own} {G : PM} {s : Shared}
theorem St.nsAlive (x : St B X m own G s) : ∃ o, s.heap.get? X.env.locals = some o := let ⟨_, o, _, _, e, _⟩ := x.ns; ⟨o, e⟩
theorem St.storeL {x : Str} {i : Nat} {sv : S} {v : Value} {mc : Str → Option Value} {h' : Heap} {tk : Nat} (S : St B X m own G s) (hl : X.env.kindOf x = some .local) (hi : X.names[i]? = some x)
    (hr : RepS G sv (some v)) (hn : s.heap.Ns X.env.locals mc) (hn' : h'.Ns X.env.locals (fun y => if y = x then some v else mc y)) (hs : Heap.SameBut X.env.locals s.heap h') (ht : s.toks ≤ tk := by first | apply Nat.le_refl | apply Nat.le_succ | lia) :
    St B X (m.set i sv) own G { s with heap := h', toks := tk } where
  hi := Nat.le_trans S.hi ht
  lo := S.lo
  same := let ⟨_, _, e⟩ := S.same; ⟨h', tk, by rw [e]⟩
  le := fun b o e => (hs.2 b (fun q => by rw [q, S.GL] at e; cases e)).trans (S.le b o e)
  base := S.base
  g0 := S.g0
  prot := fun b o e => (hs.2 b (fun q => by rw [q, S.PL] at e; cases e)).trans (S.prot b o e)
  apart := S.apart
  ns := ⟨_, hn'⟩
  GL := S.GL
  PL := S.PL
  cells := fun y c e => by
    obtain ⟨⟨o, ho⟩, p⟩ := S.cells y c e
    refine ⟨?_, p⟩
    by_cases q : c = X.env.locals
    · subst q
      obtain ⟨o', _, _, e', _⟩ := hn'
      exact ⟨o', e'⟩
    · exact ⟨o, (hs.2 c q).trans ho⟩
  vars := fun j y sv' e1 e2 => by
    by_cases hij : i = j
    · subst hij
      rw [hi] at e1; cases e1
      rw [List.getElem?_set] at e2
      simp only [if_true] at e2
      split at e2
      · cases e2; exact ⟨some v, .inl ⟨hl, _, hn', by simp⟩, hr⟩
      · cases e2
    · rw [lookup_set_ne hij] at e2
      obtain ⟨o, a, b⟩ := S.vars j y sv' e1 e2
      have hyx : y ≠ x := names_ne S.names hi e1 hij
      refine ⟨o, ?_, b⟩
      rcases a with ⟨hl', mc', hm', ho⟩ | ⟨hc, c, hl', hi'⟩
      · refine .inl ⟨hl', _, hn', ?_⟩
        rw [Ns_unique hn hm']
        simp [hyx, ho]
      · exact .inr ⟨hc, c, hl', hi'.sameBut hs (cell_ne_ns hn hi')⟩
  ow := fun p hp => by
    obtain ⟨ob, a, b, c, d, e, f⟩ := S.ow p hp
    exact ⟨ob, (hs.2 p.1 e).trans a, b, c, d, e, f⟩
  nodup := S.nodup
  names := S.names
  cinj := S.cinj
theorem St.storeC {x : Str} {i : Nat} {sv : S} {v : Value} {c : Addr} {v₀ : Option Value} {h' : Heap} {tk : Nat} (S : St B X m own G s) (hl : X.env.kindOf x = some .cell) (hi : X.names[i]? = some x) (hc : X.env.cells.lookup x = some c)
    (hP : X.P c = none) (hr : RepS G sv (some v)) (h0 : s.heap.IsCell c v₀) (hn' : h'.IsCell c (some v)) (hs : Heap.SameBut c s.heap h') (ht : s.toks ≤ tk := by first | apply Nat.le_refl | apply Nat.le_succ | lia) :
    St B X (m.set i sv) own G { s with heap := h', toks := tk } where
  hi := Nat.le_trans S.hi ht
  lo := S.lo
  same := let ⟨_, _, e⟩ := S.same; ⟨h', tk, by rw [e]⟩
  le := fun b o e => (hs.2 b (fun q => by rw [q, (S.cells x c hc).2 hP] at e; cases e)).trans (S.le b o e)
  base := S.base
  g0 := S.g0
  prot := fun b o e => (hs.2 b (fun q => by rw [q, hP] at e; cases e)).trans (S.prot b o e)
  apart := S.apart
  ns := let ⟨mc, hn⟩ := S.ns; ⟨mc, hn.sameBut hs (cell_ne_ns hn h0).symm⟩
  GL := S.GL
  PL := S.PL
  cells := fun y d e => by
    obtain ⟨⟨o, ho⟩, p⟩ := S.cells y d e
    refine ⟨?_, p⟩
    by_cases q : d = c
    · subst q; exact ⟨_, hn'.choose_spec.1⟩
    · exact ⟨o, (hs.2 d q).trans ho⟩
  vars := fun j y sv' e1 e2 => by
    by_cases hij : i = j
    · subst hij
      rw [hi] at e1; cases e1
      rw [List.getElem?_set] at e2
      simp only [if_true] at e2
      split at e2
      · cases e2; exact ⟨some v, .inr ⟨.inl hl, c, hc, hn'⟩, hr⟩
      · cases e2
    · rw [lookup_set_ne hij] at e2
      obtain ⟨o, a, b⟩ := S.vars j y sv' e1 e2
      have hyx : y ≠ x := names_ne S.names hi e1 hij
      refine ⟨o, ?_, b⟩
      rcases a with ⟨hl', mc', hm', ho⟩ | ⟨hk, d, hd, hi'⟩
      · exact .inl ⟨hl', _, hm'.sameBut hs (cell_ne_ns hm' h0).symm, ho⟩
      · exact .inr ⟨hk, d, hd, hi'.sameBut hs fun q => hyx (S.cinj y x d hd (q ▸ hc))⟩
  ow := fun p hp => by
    obtain ⟨ob, a, b, c', d, e, f⟩ := S.ow p hp
    exact ⟨ob, (hs.2 p.1 (f x c hc)).trans a, b, c', d, e, f⟩
  nodup := S.nodup
  names := S.names
  cinj := S.cinj
theorem St₀.hidden₀ {d : Addr} {h' : Heap} {tk : Nat} (S : St₀ B X m own G s) (hd : ∀ b o, b ≠ d → s.heap.get? b = some o → h'.get? b = some o) (hG : G.ob d = none) (hP : X.P d = none) (hL : d ≠ X.env.locals)
    (hc : ∀ x c, X.env.cells.lookup x = some c → c ≠ d) (ho : ∀ p ∈ own, p.1 ≠ d) (ht : s.toks ≤ tk := by first | apply Nat.le_refl | apply Nat.le_succ | lia) : St₀ B X m own G { s with heap := h', toks := tk } where
  hi := Nat.le_trans S.hi ht
  lo := S.lo
  same := let ⟨_, _, e⟩ := S.same; ⟨h', tk, by rw [e]⟩
  le := fun b o e => hd b o (fun q => by rw [q, hG] at e; cases e) (S.le b o e)
  base := S.base
  g0 := S.g0
  prot := fun b o e => hd b o (fun q => by rw [q, hP] at e; cases e) (S.prot b o e)
  apart := S.apart
  ns := let ⟨mc, o, es, ep, e, r⟩ := S.ns; ⟨mc, o, es, ep, hd _ _ hL.symm e, r⟩
  GL := S.GL
  PL := S.PL
  cells := fun y c e => let ⟨⟨o, ho⟩, p⟩ := S.cells y c e; ⟨⟨o, hd _ _ (hc y c e) ho⟩, p⟩
  vars := fun j y sv' e1 e2 => by
    obtain ⟨o, a, b⟩ := S.vars j y sv' e1 e2
    refine ⟨o, ?_, b⟩
    rcases a with ⟨hl', mc', ⟨o, es, ep, e, r⟩, ho⟩ | ⟨hk, c, hc', ⟨o', ho', r⟩⟩
    · exact .inl ⟨hl', _, ⟨o, es, ep, hd _ _ hL.symm e, r⟩, ho⟩
    · exact .inr ⟨hk, c, hc', ⟨o', hd _ _ (hc y c hc') ho', r⟩⟩
  ow := fun p hp => by
    obtain ⟨ob, a, r⟩ := S.ow p hp
    exact ⟨ob, hd _ _ (ho p hp) a, r⟩
  nodup := S.nodup
  names := S.names
  cinj := S.cinj
theorem St.hidden {d : Addr} {h' : Heap} {tk : Nat} (S : St B X m own G s) (hd : ∀ b o, b ≠ d → s.heap.get? b = some o → h'.get? b = some o) (hG : G.ob d = none) (hP : X.P d = none) (hL : d ≠ X.env.locals)
    (hc : ∀ x c, X.env.cells.lookup x = some c → c ≠ d) (ho : ∀ p ∈ own ++ B.pl, p.1 ≠ d) (ht : s.toks ≤ tk := by first | apply Nat.le_refl | apply Nat.le_succ | lia) : St B X m own G { s with heap := h', toks := tk } := St₀.hidden₀ S hd hG hP hL hc ho ht
theorem none_of_dead (S : St B X m own G s) {a : Addr} (h : s.heap.get? a = none) : G.ob a = none ∧ X.P a = none ∧ a ≠ X.env.locals ∧ (∀ x c, X.env.cells.lookup x = some c → c ≠ a) ∧ ∀ p ∈ own ++ B.pl, p.1 ≠ a := by
  refine ⟨?_, ?_, ?_, ?_, ?_⟩
  · cases e : G.ob a with
    | none => rfl
    | some o => rw [S.le a o e] at h; cases h
  · cases e : X.P a with
    | none => rfl
    | some o => rw [S.prot a o e] at h; cases h
  · rintro rfl; obtain ⟨o, e⟩ := S.nsAlive; rw [e] at h; cases h
  · rintro x c e rfl; obtain ⟨⟨o, e⟩, _⟩ := S.cells x c e; rw [e] at h; cases h
  · rintro p hp rfl; obtain ⟨o, e, _⟩ := S.ow p hp; rw [e] at h; cases h
theorem get_size (h : Heap) : h.get? h.objs.size = none := by
  cases e : h.get? h.objs.size with
  | none => rfl
  | some o => exact absurd (Heap.lt_size e) (Nat.lt_irrefl _)
noncomputable def AM.put (G : AM) (a : Addr) (o : Obj) : AM := fun b => if b = a then some o else G b
noncomputable def PM.put (G : PM) (a : Addr) (o : Obj) : PM := ⟨AM.put G.ob a o, G.hi⟩
theorem aput_self (G : AM) (a : Addr) (o : Obj) : AM.put G a o a = some o := by simp [AM.put]
theorem put_self (G : PM) (a : Addr) (o : Obj) : (PM.put G a o).ob a = some o := by simp [PM.put, AM.put]
theorem put_le {G : PM} {a : Addr} {o : Obj} (h : G.ob a = none) : Le G (PM.put G a o) := ⟨fun b ob e => by
  show AM.put G.ob a o b = _
  unfold AM.put
  by_cases q : b = a
  · rw [q, h] at e; cases e
  · rw [if_neg q]; exact e, Nat.le_refl _⟩
theorem St.pushG {o : Obj} {tk : Nat} (S : St B X m own G s) (hf : o.isFreed = false) (ht : s.toks ≤ tk := by first | apply Nat.le_refl | apply Nat.le_succ | lia) :
    St B X m own (PM.put G s.heap.objs.size o) { s with heap := s.heap.push o, toks := tk } ∧ Le G (PM.put G s.heap.objs.size o) := by
  have hd := none_of_dead S (get_size s.heap)
  refine ⟨S.grow (fun b o e => Heap.get?_push_of_some _ e) (put_le hd.1) (fun b ob e => ?_) (fun b ob e e' => ?_) (Nat.le_trans S.hi ht), put_le hd.1⟩
  · replace e : AM.put G.ob s.heap.objs.size o b = some ob := e
    unfold AM.put at e
    split at e
    · cases e; rename_i q; subst q; exact Heap.get?_push_size _ hf
    · exact Heap.get?_push_of_some _ (S.le b ob e)
  · show AM.put G.ob s.heap.objs.size o b = _
    unfold AM.put
    rw [if_neg (fun q => by rw [q, get_size] at e; cases e)]; exact e'
theorem St.push {o : Obj} {tk : Nat} (S : St B X m own G s) (ht : s.toks ≤ tk := by first | apply Nat.le_refl | apply Nat.le_succ | lia) : St B X m own G { s with heap := s.heap.push o, toks := tk } :=
  S.grow (fun _ _ e => Heap.get?_push_of_some _ e) (Le.refl G) (fun b o e => Heap.get?_push_of_some _ (S.le b o e)) (fun _ _ _ e => e) (Nat.le_trans S.hi ht)
theorem St.pushO {o : Obj} {x : O} {tk : Nat} (S : St B X m own G s) (hf : o.isFreed = false) (hr : RepO G x o) (ht : s.toks ≤ tk := by first | apply Nat.le_refl | apply Nat.le_succ | lia) :
    St B X m ((s.heap.objs.size, x) :: own) G { s with heap := s.heap.push o, toks := tk } := by
  have hd := none_of_dead S (get_size s.heap)
  have S' := S.push (o := o) (tk := tk) ht
  refine { S' with ow := ?_, nodup := ?_ }
  · intro p hp
    rw [List.cons_append] at hp
    rcases List.mem_cons.mp hp with rfl | hp
    · exact ⟨o, Heap.get?_push_size _ hf, hr, hd.1, hd.2.1, hd.2.2.1, fun x c e q => hd.2.2.2.1 x c e q.symm⟩
    · exact S'.ow p hp
  · rw [List.cons_append, List.map_cons, List.nodup_cons]
    refine ⟨fun q => ?_, S.nodup⟩
    obtain ⟨p, hp, e⟩ := List.mem_map.mp q
    exact hd.2.2.2.2 p hp e
theorem St₀.turn {a : Addr} {x x' : O} {pre post : Own} {ob' : Obj} {h' : Heap} {tk : Nat} (S : St₀ B X m (pre ++ (a, x) :: post) G s) (hs : Heap.SameBut a s.heap h') (ho : h'.get? a = some ob') (hr : RepO G x' ob') (ht : s.toks ≤ tk := by first | apply Nat.le_refl | apply Nat.le_succ | lia) :
    St₀ B X m (pre ++ (a, x') :: post) G { s with heap := h', toks := tk } := by
  refine aside fun Cg hCg => ?_
  obtain ⟨ob, a1, a2, a3, a4, a5, a6⟩ := S.ow (a, x) (by simp)
  refine hCg ?_
  have nd := S.nodup
  rw [List.map_append, List.map_cons, List.nodup_append, List.nodup_cons] at nd
  obtain ⟨n1, ⟨n2, n3⟩, n4⟩ := nd
  have rest : ∀ p, p ∈ pre ∨ p ∈ post → p.1 ≠ a := fun p hp q => by
    rcases hp with hp | hp
    · exact n4 p.1 (List.mem_map_of_mem hp) a (List.mem_cons_self) q
    · exact n2 (List.mem_map.mpr ⟨p, hp, q⟩)
  have S1 : St₀ B X m (pre ++ post) G s := { S with
    ow := fun p hp => S.ow p (by rcases List.mem_append.mp hp with h | h <;> simp [h])
    nodup := by
      rw [List.map_append, List.nodup_append]
      exact ⟨n1, n3, fun x hx y hy => n4 x hx y (List.mem_cons_of_mem _ hy)⟩ }
  have S2 := S1.hidden₀ (d := a) (h' := h') (tk := tk) (fun b o hb e => (hs.2 b hb).trans e) a3 a4 a5 (fun x c e => (a6 x c e).symm) (fun p hp => rest p (List.mem_append.mp hp)) ht
  refine { S2 with ow := fun p hp => ?_, nodup := ?_ }
  · rcases List.mem_append.mp hp with h | h
    · exact S2.ow p (List.mem_append_left _ h)
    · rcases List.mem_cons.mp h with rfl | h
      · exact ⟨ob', ho, hr, a3, a4, a5, a6⟩
      · exact S2.ow p (List.mem_append_right _ h)
  · have := S.nodup
    simpa using this
theorem St.turn {a : Addr} {x x' : O} {pre post : Own} {ob' : Obj} {h' : Heap} {tk : Nat} (S : St B X m (pre ++ (a, x) :: post) G s) (hs : Heap.SameBut a s.heap h') (ho : h'.get? a = some ob') (hr : RepO G x' ob') (ht : s.toks ≤ tk := by first | apply Nat.le_refl | apply Nat.le_succ | lia) :
    St B X m (pre ++ (a, x') :: post) G { s with heap := h', toks := tk } := by
  have S' : St₀ B X m (pre ++ (a, x) :: (post ++ B.pl)) G s := by
    have := S
    unfold St at this
    rwa [List.append_assoc, List.cons_append] at this
  show St₀ B X m ((pre ++ (a, x') :: post) ++ B.pl) G _
  rw [List.append_assoc, List.cons_append]
  exact S'.turn hs ho hr ht
theorem St₀.freeze {a : Addr} {xs : List T} {pre post : Own} {i : Nat} (S : St₀ B X m (pre ++ (a, .lst xs) :: post) G s) :
    ∃ G', St₀ B X m (pre ++ post) G' s ∧ Le G G' ∧ RepT G' (.lst xs) (.ref a) := by
  refine aside fun Cg hCg => ?_
  obtain ⟨ob, a1, ⟨vs, n, b1, b3⟩, a3, a4, a5, a6⟩ := S.ow (a, .lst xs) (by simp)
  refine hCg ?_
  have nd := S.nodup
  rw [List.map_append, List.map_cons, List.nodup_append, List.nodup_cons] at nd
  obtain ⟨n1, ⟨n2, n3⟩, n4⟩ := nd
  have rest : ∀ p, p ∈ pre ∨ p ∈ post → p.1 ≠ a := fun p hp q => by
    rcases hp with hp | hp
    · exact n4 p.1 (List.mem_map_of_mem hp) a (List.mem_cons_self) q
    · exact n2 (List.mem_map.mpr ⟨p, hp, q⟩)
  have hle := put_le (o := ob) a3
  have ne : ∀ b, b ≠ a → (PM.put G a ob).ob b = G.ob b := fun b q => if_neg (c := b = a) q
  refine ⟨PM.put G a ob, ?_, hle, ?_⟩
  · exact {
      same := S.same
      hi := S.hi
      lo := S.lo
      le := fun b o e => by
        by_cases q : b = a
        · rw [q, put_self] at e; cases e; rw [q]; exact a1
        · rw [ne b q] at e; exact S.le b o e
      base := fun b o e => hle.up b o (S.base b o e)
      g0 := S.g0.trans hle
      prot := S.prot
      apart := fun b o e e' => by
        rw [ne b (fun q => by rw [q, a4] at e; cases e)]; exact S.apart b o e e'
      ns := S.ns
      GL := by rw [ne _ a5.symm]; exact S.GL
      PL := S.PL
      cells := fun y c e => let ⟨h, p⟩ := S.cells y c e; ⟨h, fun q => by rw [ne c (a6 y c e).symm]; exact p q⟩
      vars := fun j y sv e1 e2 => let ⟨o, v, r⟩ := S.vars j y sv e1 e2; ⟨o, v, r.mono hle⟩
      ow := fun p hp => by
        obtain ⟨ob', c1, c2, c3, c4⟩ := S.ow p (by rcases List.mem_append.mp hp with h | h <;> simp [h])
        exact ⟨ob', c1, c2.mono hle, by rw [ne _ (rest p (List.mem_append.mp hp))]; exact c3, c4⟩
      nodup := by
        rw [List.map_append, List.nodup_append]
        exact ⟨n1, n3, fun x hx y hy => n4 x hx y (List.mem_cons_of_mem _ hy)⟩
      names := S.names
      cinj := S.cinj }
  · exact ⟨a, ob, vs, n, rfl, put_self .., ⟨by rw [b1], by rw [b1]⟩, by rw [b1], b3.mono hle⟩
theorem St.freeze {a : Addr} {xs : List T} {pre post : Own} {i : Nat} (S : St B X m (pre ++ (a, .lst xs) :: post) G s) :
    ∃ G', St B X m (pre ++ post) G' s ∧ Le G G' ∧ RepT G' (.lst xs) (.ref a) := by
  have S' : St₀ B X m (pre ++ (a, .lst xs) :: (post ++ B.pl)) G s := by
    have := S
    unfold St at this
    rwa [List.append_assoc, List.cons_append] at this
  obtain ⟨G', h1, h2⟩ := S'.freeze (i := i)
  refine ⟨G', ?_, h2⟩
  show St₀ B X m ((pre ++ post) ++ B.pl) G' s
  rw [List.append_assoc]
  exact h1
theorem St.slotT {i : Nat} {a : Addr} {x : T} (S : St B X m own G s) (hm : m[i]? = some (.own a)) (hr : RepT G x (.ref a)) : St B X (m.set i (.t x)) own G s :=
  { S with
    vars := by
      intro j y sv' e1 e2
      by_cases hij : i = j
      · subst hij
        rw [List.getElem?_set] at e2
        simp only [if_true] at e2
        split at e2
        · cases e2
          obtain ⟨o, v, r⟩ := S.vars i y _ e1 hm
          exact ⟨o, v, .ref a, r, hr⟩
        · cases e2
      · rw [lookup_set_ne hij] at e2
        exact S.vars j y sv' e1 e2 }
end
end
noncomputable section
set_option maxRecDepth 512
theorem rT {G : PM} {x : T} {v : Value} (h : RepT G x v) : RepS G (.t x) (some v) := ⟨v, rfl, h⟩
theorem rO {G : PM} {a : Addr} : RepS G (.own a) (some (.ref a)) := rfl
theorem rNext {G : PM} : RepF G .next .next := rfl
theorem rBrk {G : PM} : RepF G .brk .brk := rfl
theorem rCont {G : PM} : RepF G .cont .cont := rfl
theorem rRet {G : PM} {sv : S} {v : Value} (h : RepS G sv (some v)) : RepF G (.ret sv) (.ret v) := ⟨v, rfl, h⟩
theorem tInt {G : PM} {i : Int} {t : Tok} : RepT G (.int i) (.int i t) := by exact ⟨t, rfl⟩
theorem tStr {G : PM} {c : List Nat} {t : Tok} : RepT G (.str c) (.str ⟨c.toArray⟩ t) := by exact ⟨t, rfl⟩
theorem tStr' {G : PM} {x : Str} {t : Tok} : RepT G (.str x.cps.toList) (.str x t) := by exact ⟨t, by simp⟩
theorem tBool {G : PM} {b : Bool} : RepT G (.bool b) (.bool b) := rfl
theorem tNone {G : PM} : RepT G .none .none := rfl
theorem tCon {G : PM} {v : Value} : RepT G (.con v) v := rfl
section
variable {B : Bs} {X : Act} {A : Around} {m : List S} {own : Own}
theorem J.mono {α β : Type} {rep : PM → β → α → Prop} {pre : PM → Prop} {t : Sem α} {R R' : β → List S → Own → Prop} (h : J rep pre B X A m own t R) (hR : ∀ b m o, R b m o → R' b m o) : J rep pre B X A m own t R' :=
  fun s G hS hp Q hQ => h s G hS hp Q fun v b m' o' G' s' a1 a2 a3 a4 => hQ v b m' o' G' s' a1 a2 a3 (hR _ _ _ a4)
theorem JV_name {x : Str} {pos : Pos} {i : Nat} {sv : S} {R : S → List S → Own → Prop} (hk : X.env.scope.kind = .function) (hi : X.names[i]? = some x) (hm : m[i]? = some sv) (hu : sv ≠ .undef)
    (h : R sv m own) (hd : (x == ("__debug__" : Str)) = false) (hn : (x == ("__classdict__" : Str)) = false) : JV B X A m own (eval (.Name x pos) X.env) R := by
  intro s G hS _ Q hQ
  obtain ⟨o, a, b⟩ := hS.vars i x sv hi hm
  have hv : ∃ v, o = some v := by
    cases sv with
    | undef => exact absurd rfl hu
    | t y => exact ⟨_, b.choose_spec.1⟩
    | own y => exact ⟨_, b⟩
  obtain ⟨v, rfl⟩ := hv
  have fin := hQ v sv m own G s hS (Le.refl G) b h
  refine wpAny_Name ?_ hd
  rcases a with ⟨hl, mc, hmc, e⟩ | ⟨hl | hl, c, hc, hcell⟩
  · exact wpAny_loadName_local hk hl hmc e fin
  · exact wpAny_loadName_cell hk hl hc hcell fin
  · exact wpAny_loadName_free hk hl hc hcell fin hn
theorem JV_glob {x : Str} {pos : Pos} {v : Value} {y : T} {R : S → List S → Own → Prop} (hB : B.Ok) (hv : B.mg x = some v) (hr : RepT ⟨fun _ => none, 0⟩ y v) (hk : X.env.scope.kind = .function) (hg : X.env.globals = mainGlobals)
    (hx : X.env.kindOf x = some .globalImplicit) (h : R (.t y) m own) (hd : (x == ("__debug__" : Str)) = false) : JV B X A m own (eval (.Name x pos) X.env) R := by
  intro s G hS _ Q hQ
  refine Name_function_global hk hx (loadGlobal_global (mg := B.mg) ?_ hv (hQ _ _ _ _ _ _ hS (Le.refl G) (rT (hr.mono ⟨(fun _ _ e => by cases e), Nat.zero_le _⟩)) h)) hd
  rw [hg]
  exact hB.g.keeps fun b o e => hS.le b o (hS.base b o e)
theorem JV_built {x : Str} {pos : Pos} {v : Value} {R : S → List S → Own → Prop} (hB : B.Ok) (hv : B.mg x = none) (hb : bootBuiltins x = some v) (hn : x ≠ "__name__") (hk : X.env.scope.kind = .function) (hg : X.env.globals = mainGlobals) (hbn : X.env.builtins = builtinsNs)
    (hx : X.env.kindOf x = some .globalImplicit) (h : R (.t (.con v)) m own) (hd : (x == ("__debug__" : Str)) = false) : JV B X A m own (eval (.Name x pos) X.env) R := by
  intro s G hS _ Q hQ
  have up : ∀ b o, B.H.get? b = some o → s.heap.get? b = some o := fun b o e => hS.le b o (hS.base b o e)
  refine Name_function_global hk hx (loadGlobal_builtin (mg := B.mg) (mb := B.mb) ?_ hv ?_ ((hB.builtins x hn).trans hb) (hQ _ _ _ _ _ _ hS (Le.refl G) (rT tCon) h)) hd
  · rw [hg]; exact hB.g.keeps up
  · rw [hbn]; exact hB.b.keeps up
theorem JV_int {i : Int} {k : Nat} {pos : Pos} {R : S → List S → Own → Prop} (h : R (.t (.int i)) m own) : JV B X A m own (eval (.Constant (.int i) k pos) X.env) R := by
  intro s G hS _ Q hQ
  exact wpAny_Constant_int (hQ _ _ _ _ _ _ (hS.tok _) (Le.refl G) (rT tInt) h)
theorem JV_str {x : Str} {k : Nat} {pos : Pos} {R : S → List S → Own → Prop} (h : R (.t (.str x.cps.toList)) m own) : JV B X A m own (eval (.Constant (.str x) k pos) X.env) R := by
  intro s G hS _ Q hQ
  exact wpAny_Constant_str (hQ _ _ _ _ _ _ (hS.tok _) (Le.refl G) (rT tStr') h)
theorem JV_bool {b : Bool} {k : Nat} {pos : Pos} {R : S → List S → Own → Prop} (h : R (.t (.bool b)) m own) : JV B X A m own (eval (.Constant (.bool b) k pos) X.env) R := by
  intro s G hS _ Q hQ
  exact wpAny_Constant_bool (hQ _ _ _ _ _ _ hS (Le.refl G) (rT tBool) h)
noncomputable def JBin (B : Bs) (X : Act) (A : Around) (op : Operator) (a b : S) (m : List S) (own : Own) (R : S → List S → Own → Prop) : Prop :=
  ∀ v u, J repV (fun G => RepS G a (some v) ∧ RepS G b (some u)) B X A m own (binaryOp op v u) R
noncomputable def JCmp (B : Bs) (X : Act) (A : Around) (op : CmpOp) (a b : S) (m : List S) (own : Own) (R : S → List S → Own → Prop) : Prop :=
  ∀ v u, J repV (fun G => RepS G a (some v) ∧ RepS G b (some u)) B X A m own (compareOp op v u) R
noncomputable def JInp (B : Bs) (X : Act) (A : Around) (op : Operator) (a b : S) (m : List S) (own : Own) (R : S → List S → Own → Prop) : Prop :=
  ∀ v u, J repV (fun G => RepS G a (some v) ∧ RepS G b (some u)) B X A m own (inplaceOp op v u) R
noncomputable def JTru (B : Bs) (X : Act) (A : Around) (a : S) (m : List S) (own : Own) (R : Bool → List S → Own → Prop) : Prop :=
  ∀ v, J repB (fun G => RepS G a (some v)) B X A m own (truthy v) R
theorem JV_BinOp {l r : Expr} {op : Operator} {pos : Pos} {R : S → List S → Own → Prop}
    (h : JV B X A m own (eval l X.env) fun a m1 o1 => JV B X A m1 o1 (eval r X.env) fun b m2 o2 => JBin B X A op a b m2 o2 R) : JV B X A m own (eval (.BinOp l op r pos) X.env) R := by
  intro s G hS _ Q hQ
  refine wpAny_BinOp (h s G hS trivial _ fun v a m1 o1 G1 s1 S1 L1 r1 h1 => h1 s1 G1 S1 trivial _ fun u b m2 o2 G2 s2 S2 L2 r2 h2 => ?_)
  exact h2 v u s2 G2 S2 ⟨r1.mono L2, r2⟩ Q fun x y m3 o3 G3 s3 S3 L3 r3 h3 => hQ x y m3 o3 G3 s3 S3 (L1.trans (L2.trans L3)) r3 h3
theorem JV_Compare {l r : Expr} {op : CmpOp} {pos : Pos} {R : S → List S → Own → Prop}
    (h : JV B X A m own (eval l X.env) fun a m1 o1 => JV B X A m1 o1 (eval r X.env) fun b m2 o2 => JCmp B X A op a b m2 o2 R)
    (hm : behindInMarks op r = false := by with_unfolding_all rfl) : JV B X A m own (eval (.Compare l [op] [r] pos) X.env) R := by
  intro s G hS _ Q hQ
  refine wpAny_Compare1 (h s G hS trivial _ fun v a m1 o1 G1 s1 S1 L1 r1 h1 => h1 s1 G1 S1 trivial _ fun u b m2 o2 G2 s2 S2 L2 r2 h2 => ?_) hm
  exact h2 v u s2 G2 S2 ⟨r1.mono L2, r2⟩ Q fun x y m3 o3 G3 s3 S3 L3 r3 h3 => hQ x y m3 o3 G3 s3 S3 (L1.trans (L2.trans L3)) r3 h3
theorem JB_Compare {l r : Expr} {op : CmpOp} {pos : Pos} {whole : Sem Value} {R : Bool → List S → Own → Prop}
    (h : JV B X A m own (eval l X.env) fun a m1 o1 => JV B X A m1 o1 (eval r X.env) fun b m2 o2 => JCmp B X A op a b m2 o2 fun c m3 o3 => JTru B X A c m3 o3 R)
    (hm : behindInMarks op r = false := by with_unfolding_all rfl) : JB B X A m own (isTrue (.Compare l [op] [r] pos) X.env whole) R := by
  intro s G hS _ Q hQ
  refine wpAny_isTrue_Compare1 (h s G hS trivial _ fun v a m1 o1 G1 s1 S1 L1 r1 h1 => h1 s1 G1 S1 trivial _ fun u b m2 o2 G2 s2 S2 L2 r2 h2 => ?_) hm
  exact h2 v u s2 G2 S2 ⟨r1.mono L2, r2⟩ _ fun x y m3 o3 G3 s3 S3 L3 r3 h3 => h3 x s3 G3 S3 r3 Q fun b c m4 o4 G4 s4 S4 L4 r4 h4 => hQ b c m4 o4 G4 s4 S4 (L1.trans (L2.trans (L3.trans L4))) r4 h4
theorem JB_value {e : Expr} {whole : Sem Value} {R : Bool → List S → Own → Prop} (h : JV B X A m own whole fun a m1 o1 => JTru B X A a m1 o1 R)
    (he : isTrue e X.env whole = (do let v ← whole; standAt e.pos; holding [v] (truthy v))) : JB B X A m own (isTrue e X.env whole) R := by
  intro s G hS _ Q hQ
  refine wpAny_isTrue_value (h s G hS trivial _ fun v a m1 o1 G1 s1 S1 L1 r1 h1 => ?_) he
  exact h1 v s1 G1 S1 r1 Q fun b c m4 o4 G4 s4 S4 L4 r4 h4 => hQ b c m4 o4 G4 s4 S4 (L1.trans L4) r4 h4
theorem JB_Not {x : Expr} {pos : Pos} {whole : Sem Value} {R : Bool → List S → Own → Prop} (h : JB B X A m own (isTrue x X.env (eval x X.env)) fun b m1 o1 => R (!b) m1 o1) :
    JB B X A m own (isTrue (.UnaryOp .Not x pos) X.env whole) R := by
  intro s G hS _ Q hQ
  exact wpAny_isTrue_Not (h s G hS trivial _ fun v a m1 o1 G1 s1 S1 L1 r1 h1 => hQ _ _ _ _ _ _ S1 L1 (by rw [r1]) h1)
theorem JB_Or {values : List Expr} {pos : Pos} {whole : Sem Value} {op : BoolOp} {R : Bool → List S → Own → Prop} (h : JB B X A m own (allTrue op values X.env) R) : JB B X A m own (isTrue (.BoolOp op values pos) X.env whole) R := by
  intro s G hS _ Q hQ
  exact wpAny_isTrue_BoolOp (h s G hS trivial Q hQ)
theorem JB_or_nil {R : Bool → List S → Own → Prop} (h : R false m own) : JB B X A m own (allTrue .Or [] X.env) R := by
  intro s G hS _ Q hQ
  exact wpAny_allTrue_Or_nil (hQ _ _ _ _ _ _ hS (Le.refl G) rfl h)
theorem JB_or_cons {x : Expr} {rest : List Expr} {R : Bool → List S → Own → Prop}
    (h : JB B X A m own (isTrue x X.env (eval x X.env)) fun b m1 o1 => if b = true then R true m1 o1 else JB B X A m1 o1 (allTrue .Or rest X.env) R) : JB B X A m own (allTrue .Or (x :: rest) X.env) R := by
  intro s G hS _ Q hQ
  refine wpAny_allTrue_Or_cons (h s G hS trivial _ fun v a m1 o1 G1 s1 S1 L1 r1 h1 => ?_)
  rw [show v = a from r1]
  cases a with
  | true => exact hQ _ _ _ _ _ _ S1 L1 rfl h1
  | false => exact h1 s1 G1 S1 trivial Q fun b c m4 o4 G4 s4 S4 L4 r4 h4 => hQ b c m4 o4 G4 s4 S4 (L1.trans L4) r4 h4
theorem JB_and_nil {R : Bool → List S → Own → Prop} (h : R true m own) : JB B X A m own (allTrue .And [] X.env) R := by
  intro s G hS _ Q hQ
  exact wpAny_allTrue_And_nil (hQ _ _ _ _ _ _ hS (Le.refl G) rfl h)
theorem JB_and_cons {x : Expr} {rest : List Expr} {R : Bool → List S → Own → Prop}
    (h : JB B X A m own (isTrue x X.env (eval x X.env)) fun b m1 o1 => if b = true then JB B X A m1 o1 (allTrue .And rest X.env) R else R false m1 o1) : JB B X A m own (allTrue .And (x :: rest) X.env) R := by
  intro s G hS _ Q hQ
  refine wpAny_allTrue_And_cons (h s G hS trivial _ fun v a m1 o1 G1 s1 S1 L1 r1 h1 => ?_)
  rw [show v = a from r1]
  cases a with
  | false => exact hQ _ _ _ _ _ _ S1 L1 rfl h1
  | true => exact h1 s1 G1 S1 trivial Q fun b c m4 o4 G4 s4 S4 L4 r4 h4 => hQ b c m4 o4 G4 s4 S4 (L1.trans L4) r4 h4
theorem JL_nil {pos : Pos} {R : List S → List S → Own → Prop} (h : R [] m own) : JL B X A m own (spliced (backTo pos (starEach [] X.env))) R := by
  intro s G hS _ Q hQ
  exact wpAny_items_nil (hQ _ _ _ _ _ _ hS (Le.refl G) .nil h)
theorem JL_cons {pos : Pos} {e : Expr} {rest : List Expr} {R : List S → List S → Own → Prop}
    (h : JV B X A m own (eval e X.env) fun a m1 o1 => JL B X A m1 o1 (spliced (backTo pos (starEach rest X.env))) fun as m2 o2 => R (a :: as) m2 o2)
    (he : starEach (e :: rest) X.env = (false, eval e X.env) :: starEach rest X.env) : JL B X A m own (spliced (backTo pos (starEach (e :: rest) X.env))) R := by
  intro s G hS _ Q hQ
  refine wpAny_items_cons (h s G hS trivial _ fun v a m1 o1 G1 s1 S1 L1 r1 h1 => h1 s1 G1 S1 trivial _ fun vs as m2 o2 G2 s2 S2 L2 r2 h2 => ?_) he
  exact hQ _ _ _ _ _ _ S2 (L1.trans L2) (.cons (r1.mono L2) r2) h2
theorem JF_nil {R : Fl → List S → Own → Prop} (h : R .next m own) : JF B X A m own (execs [] X.env) R := by
  intro s G hS _ Q hQ
  exact wpAny_execs_nil (hQ _ _ _ _ _ _ hS (Le.refl G) rNext h)
noncomputable def andThen (k : List S → Own → Prop) (R : Fl → List S → Own → Prop) : Fl → List S → Own → Prop
  | .next, m, o => k m o
  | f, m, o => R f m o
theorem JF_cons {st : Stmt} {rest : List Stmt} {R : Fl → List S → Own → Prop}
    (h : JF B X A m own (exec st X.env) (andThen (fun m1 o1 => JF B X A m1 o1 (execs rest X.env) R) R)) : JF B X A m own (execs (st :: rest) X.env) R := by
  intro s G hS _ Q hQ
  refine wpAny_execs_cons (h s G hS trivial _ fun v a m1 o1 G1 s1 S1 L1 r1 h1 => ?_)
  cases a with
  | next =>
    rw [show v = .next from r1]
    exact h1 s1 G1 S1 trivial Q fun b c m4 o4 G4 s4 S4 L4 r4 h4 => hQ b c m4 o4 G4 s4 S4 (L1.trans L4) r4 h4
  | brk => rw [show v = .brk from r1]; exact hQ _ _ _ _ _ _ S1 L1 rBrk h1
  | cont => rw [show v = .cont from r1]; exact hQ _ _ _ _ _ _ S1 L1 rCont h1
  | ret sv => obtain ⟨u, e, r⟩ := r1; rw [e]; exact hQ _ _ _ _ _ _ S1 L1 (rRet r) h1
theorem JF_If {test : Expr} {body orelse : List Stmt} {pos : Pos} {R : Fl → List S → Own → Prop}
    (h : JB B X A m own (isTrue test X.env (eval test X.env)) fun b m1 o1 => if b = true then JF B X A m1 o1 (execs body X.env) R else JF B X A m1 o1 (execs orelse X.env) R) :
    JF B X A m own (exec (.If test body orelse pos) X.env) R := by
  intro s G hS _ Q hQ
  refine wpAny_If (h s G hS trivial _ fun v a m1 o1 G1 s1 S1 L1 r1 h1 => ?_)
  rw [show v = a from r1]
  cases a <;> exact h1 s1 G1 S1 trivial Q fun b c m4 o4 G4 s4 S4 L4 r4 h4 => hQ b c m4 o4 G4 s4 S4 (L1.trans L4) r4 h4
theorem JF_IfK {test : Expr} {body orelse : List Stmt} {pos : Pos} {R : Fl → List S → Own → Prop}
    (h : ∀ K : Bool → List S → Own → Prop, (∀ b m1 o1, (if b = true then JF B X A m1 o1 (execs body X.env) R else JF B X A m1 o1 (execs orelse X.env) R) → K b m1 o1) → JB B X A m own (isTrue test X.env (eval test X.env)) K) :
    JF B X A m own (exec (.If test body orelse pos) X.env) R := JF_If (h _ fun _ _ _ => id)
theorem JF_Return {e : Expr} {pos : Pos} {R : Fl → List S → Own → Prop} (h : JV B X A m own (eval e X.env) fun a m1 o1 => R (.ret a) m1 o1) : JF B X A m own (exec (.Return (some e) pos) X.env) R := by
  intro s G hS _ Q hQ
  exact wpAny_Return_some (h s G hS trivial _ fun v a m1 o1 G1 s1 S1 L1 r1 h1 => hQ _ _ _ _ _ _ S1 L1 (rRet r1) h1)
theorem JF_ReturnNone {pos : Pos} {R : Fl → List S → Own → Prop} (h : R (.ret (.t .none)) m own) : JF B X A m own (exec (.Return none pos) X.env) R := by
  intro s G hS _ Q hQ
  exact wpAny_Return_none (hQ _ _ _ _ _ _ hS (Le.refl G) (rRet (rT tNone)) h)
theorem JF_Break {pos : Pos} {R : Fl → List S → Own → Prop} (h : R .brk m own) : JF B X A m own (exec (.Break pos) X.env) R := by
  intro s G hS _ Q hQ
  exact wpAny_Break (hQ _ _ _ _ _ _ hS (Le.refl G) rBrk h)
theorem store_any {s : Shared} {G : PM} {x : Str} {i : Nat} {sv : S} {v : Value} (hS : St B X m own G s) (hk : X.env.scope.kind = .function) (hi : X.names[i]? = some x)
    (hl : X.env.kindOf x = some .local ∨ (X.env.kindOf x = some .cell ∧ ∀ c, X.env.cells.lookup x = some c → X.P c = none)) (hm : i < m.length) (hr : RepS G sv (some v)) {Q : Unit → Shared → Prop}
    (hQ : ∀ s', St B X (m.set i sv) own G s' → Q () s') : wpAny (model B.prog B.w) A (storeName X.env x v) Q NoE s := by
  rcases hl with hl | ⟨hl, hp⟩
  · obtain ⟨mc, hmc⟩ := hS.ns
    refine wpAny_storeName_local hl hmc (fun h' hn hs => hQ _ (hS.storeL hl hi hr hmc hn hs)) ?_
    show (X.env.scope.kind == .class || (X.env.scope.kind == .module && _)) = false
    rw [hk]; rfl
  · obtain ⟨o, a, _⟩ := hS.vars i x m[i] hi (by simp [hm])
    rcases a with ⟨hl', _⟩ | ⟨_, c, hc, hcell⟩
    · rw [hl] at hl'; cases hl'
    · exact wpAny_storeName_cell hk hl hc hcell fun h' hc' hs => hQ _ (hS.storeC hl hi hc (hp c hc) hr hcell hc' hs)
theorem JF_Assign {x : Str} {p pos : Pos} {value : Expr} {i : Nat} {R : Fl → List S → Own → Prop} (hk : X.env.scope.kind = .function) (hi : X.names[i]? = some x)
    (hl : X.env.kindOf x = some .local ∨ (X.env.kindOf x = some .cell ∧ ∀ c, X.env.cells.lookup x = some c → X.P c = none))
    (hs : swapsWith value (some (.Name x p)) pos.line X.env = pure false)
    (h : JV B X A m own (eval value X.env) fun a m1 o1 => i < m1.length ∧ R .next (m1.set i a) o1) : JF B X A m own (exec (.Assign [.Name x p] value pos) X.env) R := by
  intro s G hS _ Q hQ
  refine wpAny_Assign_Name (h s G hS trivial _ fun v a m1 o1 G1 s1 S1 L1 r1 h1 => ?_) hs
  exact store_any S1 hk hi hl h1.1 r1 fun s' S' => hQ _ _ _ _ _ _ S' L1 rNext h1.2
theorem JF_Aug {x : Str} {p pos : Pos} {value : Expr} {op : Operator} {i : Nat} {sv : S} {R : Fl → List S → Own → Prop} (hk : X.env.scope.kind = .function) (hi : X.names[i]? = some x)
    (hl : X.env.kindOf x = some .local) (hm : m[i]? = some sv) (hu : sv ≠ .undef)
    (h : JV B X A m own (eval value X.env) fun b m1 o1 => JInp B X A op sv b m1 o1 fun c m2 o2 => i < m2.length ∧ R .next (m2.set i c) o2) : JF B X A m own (exec (.AugAssign (.Name x p) op value pos) X.env) R := by
  intro s G hS _ Q hQ
  obtain ⟨o, a, b⟩ := hS.vars i x sv hi hm
  have hv : ∃ v, o = some v := by
    cases sv with
    | undef => exact absurd rfl hu
    | t y => exact ⟨_, b.choose_spec.1⟩
    | own y => exact ⟨_, b⟩
  obtain ⟨v, rfl⟩ := hv
  rcases a with ⟨_, mc, hmc, e⟩ | ⟨hl' | hl', _⟩
  · refine wpAny_AugAssign_Name (wpAny_loadName_local hk hl hmc e (h s G hS trivial _ fun u c m1 o1 G1 s1 S1 L1 r1 h1 => h1 v u s1 G1 S1 ⟨b.mono L1, r1⟩ _ fun y z m2 o2 G2 s2 S2 L2 r2 h2 => ?_))
    exact store_any S2 hk hi (.inl hl) h2.1 r2 fun s' S' => hQ _ _ _ _ _ _ S' (L1.trans L2) rNext h2.2
  · rw [hl] at hl'; cases hl'
  · rw [hl] at hl'; cases hl'
end
end
noncomputable section
set_option maxRecDepth 512
theorem uT {G : PM} {x : T} {o : Value} (h : RepS G (.t x) (some o)) : RepT G x o := by
  obtain ⟨v, e, r⟩ := h; cases e; exact r
theorem uInt {G : PM} {i : Int} {o : Value} (h : RepS G (.t (.int i)) (some o)) : ∃ t, o = .int i t := by
  have := uT h; exact this
theorem uStr {G : PM} {c : List Nat} {o : Value} (h : RepS G (.t (.str c)) (some o)) : ∃ t, o = .str ⟨c.toArray⟩ t := by
  have := uT h; exact this
theorem uBool {G : PM} {b : Bool} {o : Value} (h : RepS G (.t (.bool b)) (some o)) : o = .bool b := by
  have := uT h; exact this
section
variable {B : Bs} {X : Act} {A : Around} {m : List S} {own : Own} {R : S → List S → Own → Prop} {a b : Int} {p q : List Nat}
theorem B_add (h : R (.t (.int (a + b))) m own) : JBin B X A .Add (.t (.int a)) (.t (.int b)) m own R := by
  rintro v u s G hS ⟨h1, h2⟩ Q hQ
  obtain ⟨t, rfl⟩ := uInt h1; obtain ⟨t', rfl⟩ := uInt h2
  exact PyProof.Rows.add_int (hQ _ _ _ _ _ _ (hS.tok _) (Le.refl G) (rT tInt) h)
theorem B_sub (h : R (.t (.int (a - b))) m own) : JBin B X A .Sub (.t (.int a)) (.t (.int b)) m own R := by
  rintro v u s G hS ⟨h1, h2⟩ Q hQ
  obtain ⟨t, rfl⟩ := uInt h1; obtain ⟨t', rfl⟩ := uInt h2
  exact PyProof.Rows.sub_int (hQ _ _ _ _ _ _ (hS.tok _) (Le.refl G) (rT tInt) h)
theorem B_mul (hm : IntMulOk a b) (h : R (.t (.int (a * b))) m own) : JBin B X A .Mult (.t (.int a)) (.t (.int b)) m own R := by
  rintro v u s G hS ⟨h1, h2⟩ Q hQ
  obtain ⟨t, rfl⟩ := uInt h1; obtain ⟨t', rfl⟩ := uInt h2
  exact PyProof.Rows.mul_int (hQ _ _ _ _ _ _ (hS.tok _) (Le.refl G) (rT tInt) h) hm
theorem B_floordiv (hb : b ≠ 0) (hp : Builtin.divisionGoesByPylong a b = false) (h : R (.t (.int (a.fdiv b))) m own) : JBin B X A .FloorDiv (.t (.int a)) (.t (.int b)) m own R := by
  rintro v u s G hS ⟨h1, h2⟩ Q hQ
  obtain ⟨t, rfl⟩ := uInt h1; obtain ⟨t', rfl⟩ := uInt h2
  exact PyProof.Rows.floordiv_int hb (hQ _ _ _ _ _ _ (hS.tok _) (Le.refl G) (rT tInt) h) (.inl hp)
theorem B_mod (hb : b ≠ 0) (h : R (.t (.int (a.fmod b))) m own) : JBin B X A .Mod (.t (.int a)) (.t (.int b)) m own R := by
  rintro v u s G hS ⟨h1, h2⟩ Q hQ
  obtain ⟨t, rfl⟩ := uInt h1; obtain ⟨t', rfl⟩ := uInt h2
  exact PyProof.Rows.mod_int' hb (hQ _ _ _ _ _ _ (hS.tok _) (Le.refl G) (rT tInt) h)
theorem B_pow (hn : 0 ≤ b) (hsz : (Builtin.Int.intBits a : Int) * b ≤ 2 ^ 27) (h : R (.t (.int (a ^ b.toNat))) m own) : JBin B X A .Pow (.t (.int a)) (.t (.int b)) m own R := by
  rintro v u s G hS ⟨h1, h2⟩ Q hQ
  obtain ⟨t, rfl⟩ := uInt h1; obtain ⟨t', rfl⟩ := uInt h2
  exact PyProof.Rows.pow_int hn hsz (hQ _ _ _ _ _ _ (hS.tok _) (Le.refl G) (rT tInt) h)
theorem B_shl (hn : 0 ≤ b) (hsz : (Builtin.Int.intBits a : Int) + b ≤ 2 ^ 27) (h : R (.t (.int (a * 2 ^ b.toNat))) m own) : JBin B X A .LShift (.t (.int a)) (.t (.int b)) m own R := by
  rintro v u s G hS ⟨h1, h2⟩ Q hQ
  obtain ⟨t, rfl⟩ := uInt h1; obtain ⟨t', rfl⟩ := uInt h2
  exact PyProof.Rows.lshift_int hn hsz (hQ _ _ _ _ _ _ (hS.tok _) (Le.refl G) (rT tInt) h)
theorem B_shr (hn : 0 ≤ b) (h : R (.t (.int (a.fdiv (2 ^ b.toNat)))) m own) : JBin B X A .RShift (.t (.int a)) (.t (.int b)) m own R := by
  rintro v u s G hS ⟨h1, h2⟩ Q hQ
  obtain ⟨t, rfl⟩ := uInt h1; obtain ⟨t', rfl⟩ := uInt h2
  exact PyProof.Rows.rshift_int hn (hQ _ _ _ _ _ _ (hS.tok _) (Le.refl G) (rT tInt) h)
theorem B_and (h : R (.t (.int (Builtin.bitAnd a b))) m own) : JBin B X A .BitAnd (.t (.int a)) (.t (.int b)) m own R := by
  rintro v u s G hS ⟨h1, h2⟩ Q hQ
  obtain ⟨t, rfl⟩ := uInt h1; obtain ⟨t', rfl⟩ := uInt h2
  exact PyProof.Rows.and_int (hQ _ _ _ _ _ _ (hS.tok _) (Le.refl G) (rT tInt) h)
theorem B_or (h : R (.t (.int (Builtin.bitOr a b))) m own) : JBin B X A .BitOr (.t (.int a)) (.t (.int b)) m own R := by
  rintro v u s G hS ⟨h1, h2⟩ Q hQ
  obtain ⟨t, rfl⟩ := uInt h1; obtain ⟨t', rfl⟩ := uInt h2
  exact PyProof.Rows.or_int (hQ _ _ _ _ _ _ (hS.tok _) (Le.refl G) (rT tInt) h)
theorem B_xor (h : R (.t (.int (Builtin.bitXor a b))) m own) : JBin B X A .BitXor (.t (.int a)) (.t (.int b)) m own R := by
  rintro v u s G hS ⟨h1, h2⟩ Q hQ
  obtain ⟨t, rfl⟩ := uInt h1; obtain ⟨t', rfl⟩ := uInt h2
  exact PyProof.Rows.xor_int (hQ _ _ _ _ _ _ (hS.tok _) (Le.refl G) (rT tInt) h)
theorem I_add (h : R (.t (.int (a + b))) m own) : JInp B X A .Add (.t (.int a)) (.t (.int b)) m own R := by
  rintro v u s G hS ⟨h1, h2⟩ Q hQ
  obtain ⟨t, rfl⟩ := uInt h1; obtain ⟨t', rfl⟩ := uInt h2
  exact PyProof.Rows.iadd_int (hQ _ _ _ _ _ _ (hS.tok _) (Le.refl G) (rT tInt) h)
theorem I_sub (h : R (.t (.int (a - b))) m own) : JInp B X A .Sub (.t (.int a)) (.t (.int b)) m own R := by
  rintro v u s G hS ⟨h1, h2⟩ Q hQ
  obtain ⟨t, rfl⟩ := uInt h1; obtain ⟨t', rfl⟩ := uInt h2
  exact PyProof.Rows.isub_int (hQ _ _ _ _ _ _ (hS.tok _) (Le.refl G) (rT tInt) h)
theorem I_mul (hm : IntMulOk a b) (h : R (.t (.int (a * b))) m own) : JInp B X A .Mult (.t (.int a)) (.t (.int b)) m own R := by
  rintro v u s G hS ⟨h1, h2⟩ Q hQ
  obtain ⟨t, rfl⟩ := uInt h1; obtain ⟨t', rfl⟩ := uInt h2
  exact PyProof.Rows.imul_int (hQ _ _ _ _ _ _ (hS.tok _) (Le.refl G) (rT tInt) h) hm
theorem I_pow (hn : 0 ≤ b) (hsz : (Builtin.Int.intBits a : Int) * b ≤ 2 ^ 27) (h : R (.t (.int (a ^ b.toNat))) m own) : JInp B X A .Pow (.t (.int a)) (.t (.int b)) m own R := by
  rintro v u s G hS ⟨h1, h2⟩ Q hQ
  obtain ⟨t, rfl⟩ := uInt h1; obtain ⟨t', rfl⟩ := uInt h2
  exact PyProof.Rows.ipow_int hn hsz (hQ _ _ _ _ _ _ (hS.tok _) (Le.refl G) (rT tInt) h)
theorem I_shl (hn : 0 ≤ b) (hsz : (Builtin.Int.intBits a : Int) + b ≤ 2 ^ 27) (h : R (.t (.int (a * 2 ^ b.toNat))) m own) : JInp B X A .LShift (.t (.int a)) (.t (.int b)) m own R := by
  rintro v u s G hS ⟨h1, h2⟩ Q hQ
  obtain ⟨t, rfl⟩ := uInt h1; obtain ⟨t', rfl⟩ := uInt h2
  exact PyProof.Rows.ilshift_int hn hsz (hQ _ _ _ _ _ _ (hS.tok _) (Le.refl G) (rT tInt) h)
theorem I_shr (hn : 0 ≤ b) (h : R (.t (.int (a.fdiv (2 ^ b.toNat)))) m own) : JInp B X A .RShift (.t (.int a)) (.t (.int b)) m own R := by
  rintro v u s G hS ⟨h1, h2⟩ Q hQ
  obtain ⟨t, rfl⟩ := uInt h1; obtain ⟨t', rfl⟩ := uInt h2
  exact PyProof.Rows.irshift_int hn (hQ _ _ _ _ _ _ (hS.tok _) (Le.refl G) (rT tInt) h)
theorem C_eq (h : R (.t (.bool (a == b))) m own) : JCmp B X A .Eq (.t (.int a)) (.t (.int b)) m own R := by
  rintro v u s G hS ⟨h1, h2⟩ Q hQ
  obtain ⟨t, rfl⟩ := uInt h1; obtain ⟨t', rfl⟩ := uInt h2
  exact PyProof.Rows.eq_int (hQ _ _ _ _ _ _ hS (Le.refl G) (rT tBool) h)
theorem C_ne (h : R (.t (.bool (a != b))) m own) : JCmp B X A .NotEq (.t (.int a)) (.t (.int b)) m own R := by
  rintro v u s G hS ⟨h1, h2⟩ Q hQ
  obtain ⟨t, rfl⟩ := uInt h1; obtain ⟨t', rfl⟩ := uInt h2
  exact PyProof.Rows.ne_int (hQ _ _ _ _ _ _ hS (Le.refl G) (rT tBool) h)
theorem C_lt (h : R (.t (.bool (decide (a < b)))) m own) : JCmp B X A .Lt (.t (.int a)) (.t (.int b)) m own R := by
  rintro v u s G hS ⟨h1, h2⟩ Q hQ
  obtain ⟨t, rfl⟩ := uInt h1; obtain ⟨t', rfl⟩ := uInt h2
  exact PyProof.Rows.lt_int (hQ _ _ _ _ _ _ hS (Le.refl G) (rT tBool) h)
theorem C_gt (h : R (.t (.bool (decide (b < a)))) m own) : JCmp B X A .Gt (.t (.int a)) (.t (.int b)) m own R := by
  rintro v u s G hS ⟨h1, h2⟩ Q hQ
  obtain ⟨t, rfl⟩ := uInt h1; obtain ⟨t', rfl⟩ := uInt h2
  exact PyProof.Rows.gt_int (hQ _ _ _ _ _ _ hS (Le.refl G) (rT tBool) h)
theorem C_le (h : R (.t (.bool (decide (a ≤ b)))) m own) : JCmp B X A .LtE (.t (.int a)) (.t (.int b)) m own R := by
  rintro v u s G hS ⟨h1, h2⟩ Q hQ
  obtain ⟨t, rfl⟩ := uInt h1; obtain ⟨t', rfl⟩ := uInt h2
  exact PyProof.Rows.le_int (hQ _ _ _ _ _ _ hS (Le.refl G) (rT tBool) h)
theorem C_ge (h : R (.t (.bool (decide (b ≤ a)))) m own) : JCmp B X A .GtE (.t (.int a)) (.t (.int b)) m own R := by
  rintro v u s G hS ⟨h1, h2⟩ Q hQ
  obtain ⟨t, rfl⟩ := uInt h1; obtain ⟨t', rfl⟩ := uInt h2
  exact PyProof.Rows.ge_int (hQ _ _ _ _ _ _ hS (Le.refl G) (rT tBool) h)
theorem str_beq (p q : List Nat) : ((⟨p.toArray⟩ : Str) == ⟨q.toArray⟩) = (p == q) := by
  rw [Bool.eq_iff_iff]; simp
theorem C_eqs (h : R (.t (.bool (p == q))) m own) : JCmp B X A .Eq (.t (.str p)) (.t (.str q)) m own R := by
  rintro v u s G hS ⟨h1, h2⟩ Q hQ
  obtain ⟨t, rfl⟩ := uStr h1; obtain ⟨t', rfl⟩ := uStr h2
  exact PyProof.Rows.eq_str (hQ _ _ _ _ _ _ hS (Le.refl G) (rT tBool) (by rw [str_beq]; exact h))
theorem T_bool {b : Bool} {R : Bool → List S → Own → Prop} (h : R b m own) : JTru B X A (.t (.bool b)) m own R := by
  rintro v s G hS h1 Q hQ
  obtain rfl := uBool h1
  exact wpAny_truthy_bool (hQ _ _ _ _ _ _ hS (Le.refl G) rfl h)
theorem T_int {R : Bool → List S → Own → Prop} (h : R (a != 0) m own) : JTru B X A (.t (.int a)) m own R := by
  rintro v s G hS h1 Q hQ
  obtain ⟨t, rfl⟩ := uInt h1
  exact PyProof.Rows.truthy_int (hQ _ _ _ _ _ _ hS (Le.refl G) rfl h)
theorem str_append (p q : List Nat) : ((⟨p.toArray⟩ : Str) ++ (⟨q.toArray⟩ : Str)) = ⟨(p ++ q).toArray⟩ := by
  show Str.append _ _ = _
  simp [Str.append]
theorem B_adds (hsz : p.length + q.length ≤ sizeLine) (h : R (.t (.str (p ++ q))) m own) : JBin B X A .Add (.t (.str p)) (.t (.str q)) m own R := by
  rintro v u s G hS ⟨h1, h2⟩ Q hQ
  obtain ⟨t, rfl⟩ := uStr h1; obtain ⟨t', rfl⟩ := uStr h2
  refine tok_in (PyProof.Rows.add_str (fun t' tk hm => ?_) (by simpa [Str.length] using hsz))
  rw [str_append]
  exact hQ _ _ _ _ _ _ (hS.tok _) (Le.refl G) (rT tStr) h
end
end
noncomputable section
set_option maxRecDepth 512
noncomputable def Hid (B : Bs) (X : Act) (G : PM) (own : Own) (a : Addr) : Prop := G.ob a = none ∧ X.P a = none ∧ a ≠ X.env.locals ∧ (∀ x c, X.env.cells.lookup x = some c → c ≠ a) ∧ ∀ p ∈ own ++ B.pl, p.1 ≠ a
abbrev Act.at (X : Act) (P : AM) : Act := { X with P := P }
section
variable {B : Bs} {X : Act} {m : List S} {own : Own} {G : PM} {s : Shared}
theorem St.hid (S : St B X m own G s) {a : Addr} (h : s.heap.get? a = none) : Hid B X G own a := none_of_dead S h
theorem St.hide {d : Addr} {ob : Obj} (S : St B X m own G s) (h : Hid B X G own d) (ho : s.heap.get? d = some ob) : St B (X.at (AM.put X.P d ob)) m own G s := by
  obtain ⟨h1, h2, h3, h4, h5⟩ := h
  have ne : ∀ b, b ≠ d → AM.put X.P d ob b = X.P b := fun b q => if_neg q
  exact {
    same := S.same
    hi := S.hi
    lo := S.lo
    le := S.le
    base := S.base
    g0 := S.g0
    prot := fun b o e => by
      by_cases q : b = d
      · subst q; rw [show (X.at (AM.put X.P b ob)).P b = some ob from aput_self ..] at e; cases e; exact ho
      · exact S.prot b o ((ne b q).symm.trans e)
    apart := fun b o e e' => by
      by_cases q : b = d
      · subst q; exact h1
      · exact S.apart b o ((ne b q).symm.trans e) e'
    ns := S.ns
    GL := S.GL
    PL := (ne _ h3.symm).trans S.PL
    cells := fun x c e => let ⟨a, p⟩ := S.cells x c e; ⟨a, fun q => p ((ne c (h4 x c e)).symm.trans q)⟩
    vars := S.vars
    ow := fun p hp => let ⟨o, a, b, c, q, r⟩ := S.ow p hp; ⟨o, a, b, c, (ne _ (h5 p hp)).trans q, r⟩
    nodup := S.nodup
    names := S.names
    cinj := S.cinj }
theorem St.unhide {d : Addr} {ob : Obj} (S : St B (X.at (AM.put X.P d ob)) m own G s) (hP : X.P d = none) (h0 : X.G₀.ob d = none) (h3 : d ≠ X.env.locals) (h4 : ∀ x c, X.env.cells.lookup x = some c → c ≠ d) :
    St B X m own G s ∧ Hid B X G own d ∧ s.heap.get? d = some ob := by
  have ne : ∀ b, b ≠ d → AM.put X.P d ob b = X.P b := fun b q => if_neg q
  have down : ∀ b o, X.P b = some o → AM.put X.P d ob b = some o := fun b o e => (ne b (fun q => by rw [q, hP] at e; cases e)).trans e
  have ow' : ∀ p ∈ own ++ B.pl, p.1 ≠ d := fun p hp q => by
    obtain ⟨o, a, b, c, e, _⟩ := S.ow p hp
    rw [q, show (X.at (AM.put X.P d ob)).P d = some ob from aput_self ..] at e; cases e
  refine ⟨{
    same := S.same
    hi := S.hi
    lo := S.lo
    le := S.le
    base := S.base
    g0 := S.g0
    prot := fun b o e => S.prot b o (down b o e)
    apart := fun b o e e' => S.apart b o (down b o e) e'
    ns := S.ns
    GL := S.GL
    PL := (ne _ h3.symm).symm.trans S.PL
    cells := fun x c e => let ⟨a, p⟩ := S.cells x c e; ⟨a, fun q => p ((ne c (h4 x c e)).trans q)⟩
    vars := S.vars
    ow := fun p hp => let ⟨o, a, b, c, q, r⟩ := S.ow p hp; ⟨o, a, b, c, (ne _ (ow' p hp)).symm.trans q, r⟩
    nodup := S.nodup
    names := S.names
    cinj := S.cinj }, ⟨S.apart d ob (aput_self ..) h0, hP, h3, h4, ow'⟩, S.prot d ob (aput_self ..)⟩
theorem St.g0none (S : St B X m own G s) {d : Addr} (h : G.ob d = none) : X.G₀.ob d = none := by
  cases e : X.G₀.ob d with
  | none => rfl
  | some o => rw [S.g0.up d o e] at h; cases h
end
structure Wk (B : Bs) (A : Around) (I : Addr) (fp : List Addr) (n : Nat) (P : Nat → Value → Prop) (W : Nat → Heap → Prop) : Prop where
  frame : ∀ i h h', W i h → (∀ b ∈ fp, ∀ o, h.get? b = some o → h'.get? b = some o) → W i h'
  item : ∀ i (s : Shared) (Q : Option Value → Shared → Prop) (E : Value → Shared → Prop), i < n → W i s.heap → B.N ≤ s.toks →
    (∀ v h' tk, P i v → W (i + 1) h' → (∀ b o, b ∉ [I] → s.heap.get? b = some o → h'.get? b = some o) → Q (some v) { s with heap := h', toks := tk }) → wpAny (model B.prog B.w) A (pyNext (.ref I)) Q E s
  done : ∀ (s : Shared) (Q : Option Value → Shared → Prop) (E : Value → Shared → Prop), W n s.heap → (∀ h' tk, (∀ b o, b ∉ [I] → s.heap.get? b = some o → h'.get? b = some o) → Q none { s with heap := h', toks := tk }) → wpAny (model B.prog B.w) A (pyNext (.ref I)) Q E s
  self : ∀ i (s : Shared) (Q : Value → Shared → Prop) (E : Value → Shared → Prop), W i s.heap → Q (.ref I) s → wpAny (model B.prog B.w) A (pyIter (.ref I)) Q E s
theorem Wk.of {B : Bs} {A : Around} {I : Addr} {fp : List Addr} {n : Nat} {P : Nat → Value → Prop} {W : Nat → Heap → Prop} (h : Walks B.prog B.w A I fp [I] n P W) : Wk B A I fp n P W where
  frame := h.frame
  item := fun i s Q E hi hw _ hQ => h.item i s Q E hi hw hQ
  done := h.done
  self := h.self
noncomputable def Src (B : Bs) (X : Act) (A : Around) (own : Own) (G : PM) (s : Shared) (v : Value) (ts : List T) : Prop :=
  ∀ Q : Value → Shared → Prop, (∀ I fp P W h' tk, Wk B A I fp ts.length P W → W 0 h' → (∀ b o, b ≠ I → s.heap.get? b = some o → h'.get? b = some o) → Hid B X G own I → (∀ i h, W i h → ∃ ob, h.get? I = some ob) →
    (∀ b ∈ fp, b = I ∨ ∃ o, G.ob b = some o) → (∀ i v, i < ts.length → P i v → ∃ x, ts[i]? = some x ∧ RepT G x v) → s.toks ≤ tk → Q (.ref I) { s with heap := h', toks := tk }) → wpAny (model B.prog B.w) A (pyIter v) Q NoE s
noncomputable def turnPost (K : List S → Own → Prop) (R : Fl → List S → Own → Prop) : Fl → List S → Own → Prop
  | .next, m, o => K m o
  | .cont, m, o => K m o
  | .brk, m, o => R .next m o
  | .ret v, m, o => R (.ret v) m o
section
variable {B : Bs} {X : Act} {A : Around} {m : List S} {own : Own}
theorem noe {A : Around} {α : Type} {M : Model} {t : Sem α} {Q : α → Shared → Prop} {E : Value → Shared → Prop} {s : Shared} (h : wpAny M A t Q NoE s) : wpAny M A t Q E s := wpAny_mono h (fun _ _ x => x) fun _ _ x => x.elim
theorem noeM {A : Around} {α : Type} {M : Model} {t : Sem α} {Q Q' : α → Shared → Prop} {E : Value → Shared → Prop} {s : Shared} (h : wpAny M A t Q NoE s) (hq : ∀ a s', Q a s' → Q' a s') : wpAny M A t Q' E s := wpAny_mono h hq fun _ _ x => x.elim
theorem lo_lt {N j n : Nat} (hn : n = N + 1 - j) (h : j < N) : N + 1 - (j + 1) < n := hn ▸ Nat.sub_lt_sub_left (Nat.lt_succ_of_lt h) (Nat.lt_succ_self j)
theorem ne2 {b e i : Addr} (h : b ≠ e) (k : b ≠ i) : b ∉ [e, i] := fun q => (List.mem_cons.mp q).elim h fun q => k (List.mem_singleton.mp q)
noncomputable def loK (R : Result → Shared → Prop) (I : Nat → Shared → Prop) (n : Nat) (f : Flow) (s : Shared) : Prop := match f with
  | .next => ∃ m, m < n ∧ I m s
  | .cont => ∃ m, m < n ∧ I m s
  | .brk => R (.ok .next) s
  | .ret v => R (.ok (.ret v)) s
noncomputable def loGo (B : Bs) (A : Around) (body : List Stmt) (env : Env) (K : Flow → Shared → Prop) (_ : Unit) (s : Shared) : Prop := wpAny (model B.prog B.w) A (execs body env) K NoE s
noncomputable def loAsg (B : Bs) (A : Around) (target : Expr) (body : List Stmt) (env : Env) (K : Flow → Shared → Prop) (v : Value) (_ : Unit) (s : Shared) : Prop := wpAny (model B.prog B.w) A (assign target env v) (loGo B A body env K) NoE s
noncomputable def loItem (B : Bs) (A : Around) (target : Expr) (it : Value) (body orelse : List Stmt) (env : Env) (R : Result → Shared → Prop) (K : Flow → Shared → Prop) (r : Option Value) (s : Shared) : Prop :=
  r.elim (wpAny (model B.prog B.w) A (execs orelse env) (fun f => R (.ok f)) NoE s) fun v => wpAny (model B.prog B.w) A (letOwnedTupleGo target it v) (loAsg B A target body env K v) NoE s
theorem forLoopN {R : Result → Shared → Prop} {target : Expr} {it : Value} {body orelse : List Stmt} {env : Env} {s : Shared} (I : Nat → Shared → Prop)
    (turn : ∀ n s, I n s → wpAny (model B.prog B.w) A (pyNext it) (loItem B A target it body orelse env R (loK R I n)) NoE s) (n : Nat) (h : I n s) : codeAny (model B.prog B.w) A (.forLoop target it body orelse env) R s := by
  refine codeAny_forLoop_any I (fun n s hI => noeM (turn n s hI) fun r s1 h1 => ?_) n h
  cases r with
  | none => exact noe h1
  | some v =>
    refine noeM h1 fun _ s2 h2 => noeM h2 fun _ s3 h3 => noeM h3 fun f s4 h4 => ?_
    cases f <;> exact h4
theorem lo_end {RR : Result → Shared → Prop} {I : Nat → Shared → Prop} {n : Nat} {f : Flow} {fa : Fl} {K : List S → Own → Prop} {R : Fl → List S → Own → Prop} {G : PM} {s : Shared} (r : RepF G fa f) (h : turnPost K R fa m own)
    (again : K m own → ∃ m, m < n ∧ I m s) (hQ : ∀ f fa, RepF G fa f → R fa m own → RR (.ok f) s) : loK RR I n f s := by
  cases fa with
  | next => cases (show f = .next from r); exact again h
  | cont => cases (show f = .cont from r); exact again h
  | brk => cases (show f = .brk from r); exact hQ .next .next rfl h
  | ret sv => obtain ⟨u, rfl, r⟩ := r; exact hQ _ (.ret sv) ⟨u, rfl, r⟩ h
end
end
noncomputable section
set_option maxRecDepth 512
open Classical in
noncomputable def Act.under (X : Act) (h : Heap) (env : Env) (names : List Str) : Act :=
  { env := env, names := names, s₀ := X.s₀, G₀ := X.G₀, P := fun b => if b = X.env.locals ∨ ∃ x, X.env.cells.lookup x = some b then h.get? b else X.P b }
section
variable {B : Bs} {X : Act} {m : List S} {own : Own} {G : PM} {s : Shared} {env : Env} {names : List Str}
theorem under_in {h : Heap} {b : Addr} (hb : b = X.env.locals ∨ ∃ x, X.env.cells.lookup x = some b) : (X.under h env names).P b = h.get? b := if_pos hb
theorem under_out {h : Heap} {b : Addr} (hb : ¬ (b = X.env.locals ∨ ∃ x, X.env.cells.lookup x = some b)) : (X.under h env names).P b = X.P b := if_neg hb
theorem under_hid {a : Addr} {h : Heap} (H : Hid B X G own a) (hC : a ≠ env.locals) (hcl : ∀ x c, env.cells.lookup x = some c → X.env.cells.lookup x = some c) : Hid B (X.under h env names) G own a := by
  refine aside fun Cg hCg => ?_
  obtain ⟨h1, h2, h3, h4, h5⟩ := H
  refine hCg ?_
  refine ⟨h1, ?_, hC, fun x c e => h4 x c (hcl x c e), h5⟩
  rw [under_out]
  · exact h2
  · rintro (q | ⟨x, e⟩)
    · exact h3 q
    · exact h4 x a e rfl
theorem St.under {mC : List S} {mc : Str → Option Value} (S : St B X m own G s) (hC : Hid B X G own env.locals) (hns : s.heap.Ns env.locals mc) (hcl : ∀ x c, env.cells.lookup x = some c → X.env.cells.lookup x = some c)
    (hnd : names.Nodup)
    (hv : ∀ (i : Nat) x sv, names[i]? = some x → mC[i]? = some sv → (env.kindOf x = some .local ∧ sv = .undef ∧ mc x = none) ∨
      ((env.kindOf x = some .cell ∨ env.kindOf x = some .free) ∧ ∃ c o, env.cells.lookup x = some c ∧ s.heap.IsCell c o ∧ RepS G sv o)) :
    St B (X.under s.heap env names) mC own G s := by
  obtain ⟨h1, h2, h3, h4, h5⟩ := hC
  have outC : ¬ (env.locals = X.env.locals ∨ ∃ x, X.env.cells.lookup x = some env.locals) := by
    rintro (q | ⟨x, e⟩)
    · exact h3 q
    · exact h4 x _ e rfl
  exact {
    same := S.same
    hi := S.hi
    lo := S.lo
    le := S.le
    base := S.base
    g0 := S.g0
    prot := fun b o e => by
      by_cases q : b = X.env.locals ∨ ∃ x, X.env.cells.lookup x = some b
      · rw [under_in q] at e; exact e
      · rw [under_out q] at e; exact S.prot b o e
    apart := fun b o e e' => by
      by_cases q : b = X.env.locals ∨ ∃ x, X.env.cells.lookup x = some b
      · rcases q with rfl | ⟨x, hx⟩
        · exact S.GL
        · cases hP : X.P b with
          | none => exact (S.cells x b hx).2 hP
          | some o' => exact S.apart b o' hP e'
      · rw [under_out q] at e; exact S.apart b o e e'
    ns := ⟨mc, hns⟩
    GL := h1
    PL := by
      show (X.under s.heap env names).P env.locals = none
      rw [under_out outC]; exact h2
    cells := fun x c e => by
      refine ⟨(S.cells x c (hcl x c e)).1, fun q => ?_⟩
      have q' : (X.under s.heap env names).P c = none := q
      rw [under_in (.inr ⟨x, hcl x c e⟩)] at q'
      obtain ⟨⟨o, ho⟩, _⟩ := S.cells x c (hcl x c e)
      rw [q'] at ho; cases ho
    vars := fun i x sv e1 e2 => by
      rcases hv i x sv e1 e2 with ⟨a, rfl, b⟩ | ⟨a, c, o, b1, b2, b3⟩
      · exact ⟨none, .inl ⟨a, mc, hns, b⟩, rfl⟩
      · exact ⟨o, .inr ⟨a, c, b1, b2⟩, b3⟩
    ow := fun p hp => by
      obtain ⟨o, a, b, c, d, e, f⟩ := S.ow p hp
      refine ⟨o, a, b, c, ?_, h5 p hp, fun x c' hx => f x c' (hcl x c' hx)⟩
      show (X.under s.heap env names).P p.1 = none
      rw [under_out]
      · exact d
      · rintro (q | ⟨x, hx⟩)
        · exact e q
        · exact f x _ hx rfl
    nodup := S.nodup
    names := hnd
    cinj := fun x y c e1 e2 => S.cinj x y c (hcl x c e1) (hcl y c e2) }
theorem St.over {mC : List S} {own' : Own} {G' : PM} {s' : Shared} (S : St B X m own G s) (S' : St B (X.under s.heap env names) mC own' G' s') (L : Le G G') : St B X m own' G' s' := by
  have up : ∀ b o, X.P b = some o → (X.under s.heap env names).P b = some o := fun b o e => by
    by_cases q : b = X.env.locals ∨ ∃ x, X.env.cells.lookup x = some b
    · rw [under_in q]; exact S.prot b o e
    · rw [under_out q]; exact e
  have stay : ∀ b o, (b = X.env.locals ∨ ∃ x, X.env.cells.lookup x = some b) → s.heap.get? b = some o → s'.heap.get? b = some o := fun b o q e => S'.prot b o (by rw [under_in q]; exact e)
  have off : ∀ b, (b = X.env.locals ∨ ∃ x, X.env.cells.lookup x = some b) → G.ob b = none → G'.ob b = none := fun b q e => by
    cases ho : s.heap.get? b with
    | some o => exact S'.apart b o (by rw [under_in q]; exact ho) (S.g0none e)
    | none =>
      exfalso
      rcases q with rfl | ⟨x, hx⟩
      · obtain ⟨o, h⟩ := S.nsAlive; rw [h] at ho; cases ho
      · obtain ⟨⟨o, h⟩, _⟩ := S.cells x b hx; rw [h] at ho; cases ho
  have ow' : ∀ p ∈ own' ++ B.pl, ¬ (p.1 = X.env.locals ∨ ∃ x, X.env.cells.lookup x = some p.1) := fun p hp q => by
    obtain ⟨o, a, b, c, d, _⟩ := S'.ow p hp
    have d' : (X.under s.heap env names).P p.1 = none := d
    rw [under_in q] at d'
    rcases q with q | ⟨x, hx⟩
    · obtain ⟨o, h⟩ := S.nsAlive; rw [q, h] at d'; cases d'
    · obtain ⟨⟨o, h⟩, _⟩ := S.cells x _ hx; rw [h] at d'; cases d'
  exact {
    same := S'.same
    hi := S'.hi
    lo := S'.lo
    le := S'.le
    base := S'.base
    g0 := S'.g0
    prot := fun b o e => S'.prot b o (up b o e)
    apart := fun b o e e' => S'.apart b o (up b o e) e'
    ns := let ⟨mc, o, es, ep, e, r⟩ := S.ns; ⟨mc, o, es, ep, stay _ _ (.inl rfl) e, r⟩
    GL := off _ (.inl rfl) S.GL
    PL := S.PL
    cells := fun x c e => let ⟨⟨o, ho⟩, p⟩ := S.cells x c e; ⟨⟨o, stay c o (.inr ⟨x, e⟩) ho⟩, fun q => off c (.inr ⟨x, e⟩) (p q)⟩
    vars := fun i x sv e1 e2 => by
      obtain ⟨o, a, b⟩ := S.vars i x sv e1 e2
      refine ⟨o, ?_, b.mono L⟩
      rcases a with ⟨hl, mc, ⟨o', es, ep, e, r⟩, h⟩ | ⟨hk, c, hc, ⟨o', ho', r⟩⟩
      · exact .inl ⟨hl, mc, ⟨o', es, ep, stay _ _ (.inl rfl) e, r⟩, h⟩
      · exact .inr ⟨hk, c, hc, ⟨o', stay _ _ (.inr ⟨x, hc⟩) ho', r⟩⟩
    ow := fun p hp => by
      obtain ⟨o, a, b, c, d, _⟩ := S'.ow p hp
      have no := ow' p hp
      have d' : (X.under s.heap env names).P p.1 = none := d
      rw [under_out no] at d'
      exact ⟨o, a, b, c, d', fun q => no (.inl q), fun x c hx q => no (.inr ⟨x, q ▸ hx⟩)⟩
    nodup := S'.nodup
    names := S.names
    cinj := S.cinj }
end
noncomputable def JTests (B : Bs) (X : Act) (A : Around) (m : List S) (own : Own) : List Expr → (Bool → List S → Own → Prop) → Prop
  | [], R => R true m own
  | [c], R => JB B X A m own (isTrue c X.env (eval c X.env)) R
  | _, _ => False
section
variable {B : Bs} {X : Act} {A : Around} {m : List S} {own : Own}
theorem tests_any {ifs : List Expr} {R : Bool → List S → Own → Prop} (h : JTests B X A m own ifs R) :
    JB B X A m own (forIn ifs true fun c r => if r = true then do let ok ← isTrue c X.env (eval c X.env); pure (ForInStep.yield ok) else pure (ForInStep.yield r)) R := by
  intro s G hS _ Q hQ
  match ifs, h with
  | [], h => exact wpAny_tests_nil (hQ _ _ _ _ _ _ hS (Le.refl G) rfl h)
  | [c], h => exact wpAny_tests_one (h s G hS trivial Q hQ)
theorem repO_push {G : PM} {xs : List T} {x : T} {v : Value} {vs : Array Value} (h : RepL G xs vs.toList) (hx : RepT G x v) : RepL G (xs ++ [x]) (vs.push v).toList := by
  rw [Array.toList_push]; exact h.snoc hx
end
end
noncomputable section
set_option maxRecDepth 512
section
variable {B : Bs} {X : Act} {A : Around} {m : List S} {own : Own} {G : PM}
theorem St.adopt {s : Shared} {a : Addr} {x : O} {ob : Obj} (S : St B X m own G s) (H : Hid B X G own a) (ho : s.heap.get? a = some ob) (hr : RepO G x ob) : St B X m ((a, x) :: own) G s :=
  { S with
    ow := fun p hp => by
      rw [List.cons_append] at hp
      rcases List.mem_cons.mp hp with rfl | hp
      · exact ⟨ob, ho, hr, H.1, H.2.1, H.2.2.1, fun x c e q => H.2.2.2.1 x c e q.symm⟩
      · exact S.ow p hp
    nodup := by
      rw [List.cons_append, List.map_cons, List.nodup_cons]
      refine ⟨fun q => ?_, S.nodup⟩
      obtain ⟨p, hp, e⟩ := List.mem_map.mp q
      exact H.2.2.2.2 p hp e }
noncomputable def CTurn (B : Bs) (X : Act) (A : Around) (m : List S) (own : Own) (ifs : List Expr) (elt : Expr) (K : Option T → Own → Prop) : Prop :=
  JTests B X A m own ifs fun b m1 o1 => m1 = m ∧ if b = true then JV B X A m1 o1 (eval elt X.env) (fun sv m2 o2 => m2 = m ∧ ∃ z, sv = .t z ∧ K (some z) o2) else K none o1
noncomputable def cK (I : Nat → Shared → Prop) (n : Nat) (s : Shared) : Prop := ∃ m, m < n ∧ I m s
noncomputable def cElt (B : Bs) (A : Around) (D : Addr) (K : Shared → Prop) (v : Value) (s : Shared) : Prop := wpAny (model B.prog B.w) A (call (.builtin "list.append") [.ref D, v]) (fun _ => K) NoE s
noncomputable def cIf (B : Bs) (A : Around) (D : Addr) (elt : Expr) (env : Env) (K : Shared → Prop) (ok : Bool) (s : Shared) : Prop := if ok = true then wpAny (model B.prog B.w) A (eval elt env) (cElt B A D K) NoE s else K s
noncomputable def cAsg (B : Bs) (A : Around) (D : Addr) (ifs : List Expr) (elt : Expr) (env : Env) (K : Shared → Prop) (_ : Unit) (s : Shared) : Prop :=
  wpAny (model B.prog B.w) A (forIn ifs true fun c r => if r = true then do let ok ← isTrue c env (eval c env); pure (ForInStep.yield ok) else pure (ForInStep.yield r)) (cIf B A D elt env K) NoE s
noncomputable def cItem (B : Bs) (A : Around) (D : Addr) (ifs : List Expr) (elt : Expr) (env : Env) (tg : Expr) (R : Shared → Prop) (K : Shared → Prop) (r : Option Value) (s : Shared) : Prop :=
  r.elim (R s) fun v => wpAny (model B.prog B.w) A (assign tg env v) (cAsg B A D ifs elt env K) NoE s
theorem compLoopN {elt iter : Expr} {x : Str} {px pos : Pos} {ifs : List Expr} {scope : Scope} {it : Value} {D : Addr} {env : Env} {R : Result → Shared → Prop} {s : Shared} (I : Nat → Shared → Prop)
    (turn : ∀ n s, I n s → wpAny (model B.prog B.w) A (pyNext it) (cItem B A D ifs elt env (.Name x px) (R (.ok .next)) (cK I n)) NoE s) (n : Nat) (h : I n s) :
    codeAny (model B.prog B.w) A (.compLoop (.ListComp elt [⟨.Name x px, iter, ifs, 0⟩] scope pos) 0 it (.ref D) env) R s := by
  refine codeAny_compLoop_tests I (fun n s hI => noeM (turn n s hI) fun r s1 h1 => ?_) n h
  cases r with
  | none => exact h1
  | some v =>
    refine noeM h1 fun _ s2 h2 => noeM h2 fun b s3 h3 => ?_
    cases b with
    | false => exact h3
    | true => exact noeM h3 fun v s4 h4 => noe h4
inductive CInv (B : Bs) (X2 : Act) (G : PM) (ts : List T) (I : Nat → List T → Own → Prop) (W : Nat → Heap → Prop) (mC : List S) (k : Nat) (d D : Addr) : Nat → Shared → Prop
  | mk {j n : Nat} {m2 : List S} {o2 : Own} {G2 : PM} {acc : List T} {ob : Obj} {s : Shared} (hn : n = ts.length + 1 - j) (hj : j ≤ ts.length) (Sj : St B X2 m2 o2 G2 s) (Lj : Le G G2) (hI : I j acc o2) (hacc : acc.length ≤ j) (hw : W j s.heap) (hd : Hid B X2 G2 o2 d) (hD : Hid B X2 G2 o2 D)
      (hm2 : ∀ w, m2.set k w = mC.set k w) (hDo : s.heap.get? D = some ob) (hr : RepO G2 (.lst acc) ob) : CInv B X2 G ts I W mC k d D n s
section
variable {X2 : Act} {d D : Addr} {fp : List Addr} {P : Nat → Value → Prop} {W : Nat → Heap → Prop} {ts : List T} {I : Nat → List T → Own → Prop} {mC : List S} {k : Nat}
theorem comp_back {j : Nat} {ob obD : Obj} {h2 : Heap} {G2 : PM} {o2 : Own} (wk : Wk B A d fp ts.length P W) (hdD : d ≠ D) (hd : Hid B X2 G2 o2 d) (hD : Hid B X2 G2 o2 D) (g0 : X2.G₀.ob d = none ∧ X2.G₀.ob D = none) (hob : h2.get? d = some ob) (hw2 : W (j + 1) h2)
    (hfp : ∀ b ∈ fp, b = d ∨ ∃ o, G2.ob b = some o ∧ h2.get? b = some o) {m5 : List S} {o5 : Own} {G5 : PM} {s5 : Shared}
    (S5 : St B ((X2.at (AM.put X2.P D obD)).at (AM.put (X2.at (AM.put X2.P D obD)).P d ob)) m5 o5 G5 s5) (L5 : Le G2 G5) : St B X2 m5 o5 G5 s5 ∧ Hid B X2 G5 o5 d ∧ Hid B X2 G5 o5 D ∧ s5.heap.get? D = some obD ∧ W (j + 1) s5.heap := by
  obtain ⟨q1, q2, q3⟩ := S5.unhide ((if_neg hdD).trans hd.2.1) g0.1 hd.2.2.1 hd.2.2.2.1
  obtain ⟨r1, r2, r3⟩ := q1.unhide hD.2.1 g0.2 hD.2.2.1 hD.2.2.2.1
  refine ⟨r1, ⟨q2.1, hd.2.1, q2.2.2⟩, r2, r3, wk.frame _ _ _ hw2 fun b hb o e => ?_⟩
  rcases hfp b hb with rfl | ⟨o', ho', e1⟩
  · rw [hob] at e; cases e; exact q3
  · rw [e1] at e; cases e
    exact r1.le b o (L5.up b o ho')
theorem comp_turn {elt : Expr} {x : Str} {px : Pos} {ifs : List Expr} {R : Shared → Prop}
    (wk : Wk B A d fp ts.length P W) (alive : ∀ i h, W i h → ∃ ob, h.get? d = some ob) (hfp : ∀ b ∈ fp, b = d ∨ ∃ o, G.ob b = some o)
    (hP : ∀ i v, i < ts.length → P i v → ∃ x, ts[i]? = some x ∧ RepT G x v) (hsz : ts.length ≤ sizeLine) (hdD : d ≠ D) (HD : G.ob D = none) (hkind : X2.env.scope.kind = .function) (hi : X2.names[k]? = some x) (hkl : k < mC.length)
    (hloc : X2.env.kindOf x = some .local ∨ (X2.env.kindOf x = some .cell ∧ ∀ c, X2.env.cells.lookup x = some c → X2.P c = none ∧ c ≠ d ∧ c ≠ D))
    (turn : ∀ P j y o acc, ts[j]? = some y → I j acc o → acc.length ≤ j → CTurn B (X2.at P) A (mC.set k (.t y)) o ifs elt fun z o' => I (j + 1) (acc ++ z.toList) o')
    (fin : ∀ (m2 : List S) o2 G2 s' acc ob, St B X2 m2 o2 G2 s' → Le G G2 → I ts.length acc o2 → acc.length ≤ ts.length → Hid B X2 G2 o2 D → s'.heap.get? D = some ob → RepO G2 (.lst acc) ob → R s')
    (n : Nat) (s' : Shared) (hx : CInv B X2 G ts I W mC k d D n s') : wpAny (model B.prog B.w) A (pyNext (.ref d)) (cItem B A D ifs elt X2.env (.Name x px) R (cK (CInv B X2 G ts I W mC k d D) n)) NoE s' := by
  cases hx with
  | @mk j _ m2 o2 G2 acc obD _ hn hj Sj Lj hI hacc hw hd hD hm2 hDo hr =>
  by_cases hlt : j < ts.length
  · refine tok_in (wk.item j s' _ _ hlt hw (Nat.le_trans Sj.lo Sj.hi) fun y h2 tk2 hy hw2 up2 htm => ?_)
    obtain ⟨z, hz, rz⟩ := hP j y hlt hy
    obtain ⟨ob, hob⟩ := alive _ _ hw2
    have up2' : ∀ b o, b ≠ d → s'.heap.get? b = some o → h2.get? b = some o := fun b o hb e => up2 b o (fun q => hb (List.mem_singleton.mp q)) e
    have Sa := Sj.hidden (h' := h2) (tk := tk2) up2' hd.1 hd.2.1 hd.2.2.1 hd.2.2.2.1 hd.2.2.2.2
    have Sb := (Sa.hide hD (up2' D _ hdD.symm hDo)).hide (d := d) (ob := ob) ⟨hd.1, (if_neg hdD).trans hd.2.1, hd.2.2.1, hd.2.2.2.1, hd.2.2.2.2⟩ hob
    have back := @comp_back B A X2 d D fp P W ts j ob obD h2 G2 o2 wk hdD hd hD ⟨Sj.g0none hd.1, Sj.g0none hD.1⟩ hob hw2 (fun b hb => (hfp b hb).imp_right fun ⟨o, e⟩ => ⟨o, Lj.up b o e, Sa.le b o (Lj.up b o e)⟩)
    refine wpAny_assign_Name (store_any (X := (X2.at (AM.put X2.P D obD)).at (AM.put (X2.at (AM.put X2.P D obD)).P d ob)) Sb hkind hi (hloc.imp id fun q => ⟨q.1, fun c hc => ?_⟩) ?_ (rT (rz.mono Lj)) fun s3 S3 => ?_)
    · obtain ⟨q1, q2, q3⟩ := q.2 c hc
      exact (if_neg q2).trans ((if_neg q3).trans q1)
    · have := congrArg List.length (hm2 .undef)
      rw [List.length_set, List.length_set] at this
      exact this ▸ hkl
    rw [hm2 (.t z)] at S3
    refine tests_any (turn (AM.put (X2.at (AM.put X2.P D obD)).P d ob) j z o2 acc hz hI hacc) s3 G2 S3 trivial _ fun b b' m4 o4 G4 s4 S4 L4 e4 h4 => ?_
    obtain ⟨rfl, h4⟩ := h4
    cases (show b = b' from e4)
    cases b with
    | false =>
      obtain ⟨r1, r2, r3, r5, r6⟩ := back S4 L4
      exact ⟨_, lo_lt hn hlt, .mk rfl hlt r1 (Lj.trans L4) (by rw [← List.append_nil acc]; exact h4) (Nat.le_succ_of_le hacc) r6 r2 r3 (fun w => List.set_set ..) r5 (hr.mono L4)⟩
    | true =>
      refine (show JV _ _ _ _ _ _ _ from h4) s4 G4 S4 trivial _ fun v sv m6 o6 G6 s6 S6 L6 r6 h6 => ?_
      obtain ⟨rfl, zz, rfl, h6⟩ := h6
      obtain ⟨r1, r2, r3, r5, rw6⟩ := back S6 (L4.trans L6)
      obtain ⟨vs, nD, rfl, hrep⟩ := hr
      refine wpAny_list_append_plain (l := D) (items := vs) ⟨nD, r5⟩ (fun h7 hl7 hs7 => ?_) (by have := hrep.length; rw [Array.length_toList] at this; lia)
      obtain ⟨n7, e7⟩ := hl7
      have S7 := r1.hidden (h' := h7) (tk := s6.toks) (fun b o hb e => (hs7.2 b hb).trans e) r3.1 r3.2.1 r3.2.2.1 r3.2.2.2.1 r3.2.2.2.2
      refine ⟨_, lo_lt hn hlt, .mk rfl hlt S7 ((Lj.trans L4).trans L6) h6 (by rw [List.length_append]; exact Nat.succ_le_succ hacc) (wk.frame _ _ _ rw6 fun b hb o e => (hs7.2 b (fun q => ?_)).trans e) r2 r3 (fun w => List.set_set ..) e7 ⟨_, n7, rfl, repO_push (hrep.mono (L4.trans L6)) (uT r6)⟩⟩
      rcases hfp b hb with rfl | ⟨o', ho'⟩
      · exact hdD q
      · rw [q, HD] at ho'; cases ho'
  · have hje : j = ts.length := by lia
    subst hje
    refine tok_in (wk.done s' _ _ hw fun h2 tk2 up2 htm => ?_)
    have up2' : ∀ b o, b ≠ d → s'.heap.get? b = some o → h2.get? b = some o := fun b o hb e => up2 b o (fun q => hb (List.mem_singleton.mp q)) e
    exact fin m2 o2 G2 _ acc _ (Sj.hidden up2' hd.1 hd.2.1 hd.2.2.1 hd.2.2.2.1 hd.2.2.2.2) Lj hI hacc hD (up2' D _ hdD.symm hDo) hr
end
theorem comp_loop {elt iter : Expr} {x : Str} {px pos : Pos} {ifs : List Expr} {scope : Scope} {names : List Str} {mC : List S} {k : Nat} {d : Addr} {fp : List Addr} {P : Nat → Value → Prop} {W : Nat → Heap → Prop}
    {ts : List T} {I : Nat → List T → Own → Prop} {RR : Value → Addr → Result → Shared → Prop} {s1 : Shared} {env' : Env} {C D : Addr}
    (S1 : St B X m own G s1) (S2 : St B (X.under s1.heap env' names) mC own G s1) (wk : Wk B A d fp ts.length P W) (w1 : W 0 s1.heap) (alive : ∀ i h, W i h → ∃ ob, h.get? d = some ob) (hfp : ∀ b ∈ fp, b = d ∨ ∃ o, G.ob b = some o)
    (hP : ∀ i v, i < ts.length → P i v → ∃ x, ts[i]? = some x ∧ RepT G x v) (hsz : ts.length ≤ sizeLine)
    (HC : Hid B X G own C) (HD : Hid B X G own D) (Hd2 : Hid B (X.under s1.heap env' names) G own d) (HD2 : Hid B (X.under s1.heap env' names) G own D) (hCD : C ≠ D) (hdD : d ≠ D)
    (hD1 : s1.heap.get? D = some { cls := .type "list", dict := none, data := .seq ([] : List Value).toArray }) (hkind : env'.scope.kind = .function) (hi : names[k]? = some x) (hkl : k < mC.length)
    (hloc : env'.kindOf x = some .local ∨ (env'.kindOf x = some .cell ∧ ∀ c, env'.cells.lookup x = some c → (X.under s1.heap env' names).P c = none ∧ c ≠ d ∧ c ≠ D)) (hC : env'.locals = C)
    (i0 : I 0 [] own)
    (turn : ∀ P j y o acc, ts[j]? = some y → I j acc o → acc.length ≤ j →
      CTurn B ((X.under s1.heap env' names).at P) A (mC.set k (.t y)) o ifs elt fun z o' => I (j + 1) (acc ++ z.toList) o')
    (fin : ∀ own' G' s' acc mc, St B X m ((D, .lst acc) :: own') G' s' → Le G G' → I ts.length acc own' → acc.length ≤ ts.length → Hid B X G' ((D, .lst acc) :: own') C → s'.heap.Ns C mc → RR (.ref D) C (.ok .next) s') :
    codeAny (model B.prog B.w) A (.compStart (.ListComp elt [⟨.Name x px, iter, ifs, 0⟩] scope pos) 0 (.ref d) (.ref D) env') (RR (.ref D) C) s1 := by
  subst hC
  have loop := compLoopN (elt := elt) (iter := iter) (px := px) (pos := pos) (ifs := ifs) (scope := scope) (it := .ref d) (R := RR (.ref D) env'.locals) (CInv B (X.under s1.heap env' names) G ts I W mC k d D) (comp_turn wk alive hfp hP hsz hdD HD.1 hkind hi hkl hloc turn fun m2 o2 G2 s' acc ob Sa Lj hI hacc hD hDo hr => by
    obtain ⟨mcC, hmcC⟩ := Sa.ns
    refine fin o2 G2 _ acc mcC ((S1.over Sa Lj).adopt (x := .lst acc) ⟨hD.1, HD.2.1, HD.2.2.1, HD.2.2.2.1, hD.2.2.2.2⟩ hDo hr) Lj hI hacc ⟨Sa.GL, HC.2.1, HC.2.2.1, HC.2.2.2.1, fun p hp => ?_⟩ hmcC
    rw [List.cons_append] at hp
    rcases List.mem_cons.mp hp with rfl | hp
    · exact hCD.symm
    · obtain ⟨_, _, _, _, _, q, _⟩ := Sa.ow p hp
      exact q) (ts.length + 1) (.mk rfl (Nat.zero_le _) S2 (Le.refl _) i0 (Nat.le_refl _) w1 Hd2 HD2 (fun _ => rfl) hD1 ⟨#[], 0, rfl, RepL.nil⟩)
  exact codeAny_compStart_list loop (wk.self 0 _ _ _ w1 loop)
theorem comp_core {elt iter : Expr} {x : Str} {px pos : Pos} {ifs : List Expr} {scope : Scope} {cl : List (Str × Addr)} {names : List Str} {mC : List S} {k : Nat} {s : Shared} {d : Addr} {fp : List Addr} {P : Nat → Value → Prop} {W : Nat → Heap → Prop}
    {ts : List T} {I : Nat → List T → Own → Prop} {RR : Value → Addr → Result → Shared → Prop}
    (S : St B X m own G s) (wk : Wk B A d fp ts.length P W) (w0 : W 0 s.heap) (hd : Hid B X G own d) (alive : ∀ i h, W i h → ∃ ob, h.get? d = some ob) (hfp : ∀ b ∈ fp, b = d ∨ ∃ o, G.ob b = some o)
    (hP : ∀ i v, i < ts.length → P i v → ∃ x, ts[i]? = some x ∧ RepT G x v) (hsz : ts.length ≤ sizeLine)
    (hcell : ∀ y ∈ scope.names, y.2 ≠ .cell) (hkind : scope.kind = .function) (hx : scope.names.lookup x = some .local) (hcl : ∀ y c, cl.lookup y = some c → X.env.cells.lookup y = some c)
    (hnd : names.Nodup) (hi : names[k]? = some x) (hkl : k < mC.length)
    (hv : ∀ (i : Nat) y sv, names[i]? = some y → mC[i]? = some sv → (scope.names.lookup y = some .local ∧ sv = .undef) ∨
      (((compEnvC scope cl 0 X.env).kindOf y = some .cell ∨ (compEnvC scope cl 0 X.env).kindOf y = some .free) ∧ (X.env.kindOf y = some .cell ∨ X.env.kindOf y = some .free) ∧ cl.lookup y = X.env.cells.lookup y ∧ ∃ j : Nat, X.names[j]? = some y ∧ m[j]? = some sv))
    (i0 : I 0 [] own)
    (turn : ∀ C h P j y o acc, ts[j]? = some y → I j acc o → acc.length ≤ j →
      CTurn B ((X.under h (compEnvC scope cl C X.env) names).at P) A (mC.set k (.t y)) o ifs elt fun z o' => I (j + 1) (acc ++ z.toList) o')
    (fin : ∀ D C own' G' s' acc mc, St B X m ((D, .lst acc) :: own') G' s' → Le G G' → I ts.length acc own' → acc.length ≤ ts.length → Hid B X G' ((D, .lst acc) :: own') C → s'.heap.Ns C mc → RR (.ref D) C (.ok .next) s') :
    wpAny (model B.prog B.w) A (newList []) (fun acc s₃ => wpAny (model B.prog B.w) A (newFunctionEnv scope X.env.globals cl [] X.env.qual none .none (some X.env)) (fun cenv s₄ =>
      codeAny (model B.prog B.w) A (.compStart (.ListComp elt [⟨.Name x px, iter, ifs, 0⟩] scope pos) 0 (.ref d) acc { cenv with scope := relabel scope X.env }) (RR acc cenv.locals) s₄) NoE s₃) NoE s := by
  refine wpAny_newObj_type (wpAny_newFunctionEnv hcell (by intro y hy; simp at hy) (fun h₁ hns₁ hsb₁ => ?_) hkind)
  dsimp only at hns₁ hsb₁ ⊢
  generalize hDo : ({ cls := .type "list", dict := none, data := .seq ([] : List Value).toArray } : Obj) = Do at hns₁ hsb₁ ⊢
  have hfree : Do.isFreed = false := by rw [← hDo]; rfl
  generalize hDn : s.heap.objs.size = D at *
  have hDs : s.heap.get? D = none := hDn ▸ get_size s.heap
  have HD := S.hid hDs
  have SD := S.push (o := Do) (tk := s.toks)
  generalize hH2 : s.heap.push Do = H2 at *
  have hDo2 : H2.get? D = some Do := by rw [← hH2, ← hDn]; exact Heap.get?_push_size _ hfree
  generalize hCn : H2.objs.size = C at *
  have hC2 : H2.get? C = none := hCn ▸ get_size H2
  have hCs : s.heap.get? C = none := by
    cases e : s.heap.get? C with
    | none => rfl
    | some o => rw [show H2.get? C = some o from hH2 ▸ Heap.get?_push_of_some _ e] at hC2; cases hC2
  have HC := S.hid hCs
  have hCD : C ≠ D := fun q => by rw [q, hDo2] at hC2; cases hC2
  obtain ⟨obd, hobd⟩ := alive _ _ w0
  have hdC : d ≠ C := fun q => by rw [q, hCs] at hobd; cases hobd
  have hdD : d ≠ D := fun q => by rw [q, hDs] at hobd; cases hobd
  have up : ∀ b o, b ≠ C → H2.get? b = some o → h₁.get? b = some o := fun b o hb e => hsb₁.extBut b o hb (Heap.get?_push_of_some _ e)
  have ups : ∀ b o, s.heap.get? b = some o → h₁.get? b = some o := fun b o e => up b o (fun q => by rw [q, hCs] at e; cases e) (hH2 ▸ Heap.get?_push_of_some _ e)
  have S1 : St B X m own G { s with heap := h₁, toks := s.toks + ([] : List (Str × Value)).length } := S.grow ups (Le.refl G) (fun b o e => ups b o (S.le b o e)) (fun _ _ _ e => e) S.hi
  generalize hs1 : ({ s with heap := h₁, toks := s.toks + ([] : List (Str × Value)).length } : Shared) = s1 at S1 ⊢
  have hh1 : s1.heap = h₁ := by rw [← hs1]
  let env' := compEnvC scope cl C X.env
  have hvC : ∀ (i : Nat) y sv, names[i]? = some y → mC[i]? = some sv → (env'.kindOf y = some .local ∧ sv = .undef ∧ (none : Option Value) = none) ∨
      ((env'.kindOf y = some .cell ∨ env'.kindOf y = some .free) ∧ ∃ c o, env'.cells.lookup y = some c ∧ s1.heap.IsCell c o ∧ RepS G sv o) := fun i y sv e1 e2 => by
    rcases hv i y sv e1 e2 with ⟨a, b⟩ | ⟨a, a', b, j, c1, c2⟩
    · exact .inl ⟨lookup_relabel_local a, b, rfl⟩
    · obtain ⟨o, w, r⟩ := S1.vars j y sv c1 c2
      rcases w with ⟨hl, _⟩ | ⟨_, c, hc, hcc⟩
      · rcases a' with a' | a' <;> (rw [hl] at a'; cases a')
      · exact .inr ⟨a, c, o, b.trans hc, hcc, r⟩
  have S2 := S1.under (env := env') (names := names) (mC := mC) (mc := fun _ => none) HC (by rw [hh1]; show h₁.Ns C _; simpa using hns₁) hcl hnd (fun i y sv e1 e2 => by
    rcases hvC i y sv e1 e2 with ⟨a, b, _⟩ | r
    · exact .inl ⟨a, b, rfl⟩
    · exact .inr r)
  have Hd2 := under_hid (h := s1.heap) (env := env') (names := names) hd hdC hcl
  have HD2 := under_hid (h := s1.heap) (env := env') (names := names) HD hCD.symm hcl
  have hobd1 : s1.heap.get? d = some obd := hh1 ▸ ups d obd hobd
  have hD1 : s1.heap.get? D = some Do := hh1 ▸ up D Do hCD.symm hDo2
  exact comp_loop S1 S2 wk (wk.frame _ _ _ w0 fun b hb o e => hh1 ▸ ups b o e) alive hfp hP hsz HC HD Hd2 HD2 hCD hdD (hD1.trans (congrArg some hDo.symm)) hkind hi hkl (.inl (lookup_relabel_local hx)) rfl i0 (fun P j y o acc => turn C s1.heap P j y o acc) (fin D C)
end
end
noncomputable section
set_option maxRecDepth 512
structure CompOk (X : Act) (scope : Scope) (cl : List (Str × Addr)) (names : List Str) (x : Str) (k : Nat) (iter : Expr) : Prop where
  clos : closureFor scope X.env = pure cl
  cell : ∀ y ∈ scope.names, y.2 ≠ .cell
  kind : scope.kind = .function
  locs : ∀ y ∈ scope.names, y.2 = .local → scope.names.lookup y.1 = some .local
  hx : scope.names.lookup x = some .local
  sub : ∀ y c, cl.lookup y = some c → X.env.cells.lookup y = some c
  nd : names.Nodup
  hi : names[k]? = some x
  hs : ∀ x, foldedSetIterable iter X.env x = pure x
structure CSpec (B : Bs) (X : Act) (A : Around) (scope : Scope) (cl : List (Str × Addr)) (names : List Str) (k : Nat) (ifs : List Expr) (elt : Expr) (m : List S) (own : Own) (mC : List S) (ts : List T) (I : Nat → List T → Own → Prop) : Prop where
  size : ts.length ≤ sizeLine
  kl : k < mC.length
  slots : ∀ (i : Nat) y sv, names[i]? = some y → mC[i]? = some sv → (scope.names.lookup y = some .local ∧ sv = .undef) ∨
      (((compEnvC scope cl 0 X.env).kindOf y = some .cell ∨ (compEnvC scope cl 0 X.env).kindOf y = some .free) ∧ (X.env.kindOf y = some .cell ∨ X.env.kindOf y = some .free) ∧ cl.lookup y = X.env.cells.lookup y ∧ ∃ j : Nat, X.names[j]? = some y ∧ m[j]? = some sv)
  i0 : I 0 [] own
  turn : ∀ C h P j y o acc, ts[j]? = some y → I j acc o → acc.length ≤ j →
      CTurn B ((X.under h (compEnvC scope cl C X.env) names).at P) A (mC.set k (.t y)) o ifs elt fun z o' => I (j + 1) (acc ++ z.toList) o'
inductive CompIn (B : Bs) (X : Act) (A : Around) (scope : Scope) (cl : List (Str × Addr)) (names : List Str) (k : Nat) (ifs : List Expr) (elt : Expr) (R : S → List S → Own → Prop) (xs : S) (m1 : List S) (o1 : Own) : Prop
  | mk (ts : List T) (mC : List S) (I : Nat → List T → Own → Prop) (src : ∀ s G v, St B X m1 o1 G s → RepS G xs (some v) → Src B X A o1 G s v ts) (spec : CSpec B X A scope cl names k ifs elt m1 o1 mC ts I)
      (fin : ∀ acc o2, I ts.length acc o2 → acc.length ≤ ts.length → R (.t (.lst acc)) m1 o2)
inductive Frz (R : S → List S → Own → Prop) (sv : S) (m1 : List S) (o1 : Own) : Prop
  | mk (D : Addr) (xs : List T) (o2 : Own) (e : sv = .own D) (e' : o1 = (D, .lst xs) :: o2) (h : R (.t (.lst xs)) m1 o2)
inductive FrzAt (i : Nat) (R : Fl → List S → Own → Prop) (f : Fl) (m1 : List S) (o1 : Own) : Prop
  | mk (hf : f = .next) (D : Addr) (xs : List T) (o2 : Own) (e : m1[i]? = some (.own D)) (e' : o1 = (D, .lst xs) :: o2) (h : R .next (m1.set i (.t (.lst xs))) o2)
section
variable {B : Bs} {X : Act} {A : Around} {m : List S} {own : Own}
theorem comp_glue {elt iter : Expr} {x : Str} {px pos : Pos} {ifs : List Expr} {scope : Scope} {cl : List (Str × Addr)} {names : List Str} {mC : List S} {k : Nat} {ts : List T} {I : Nat → List T → Own → Prop} {RR : Value → Addr → Result → Shared → Prop}
    (ok : CompOk X scope cl names x k iter) (spec : CSpec B X A scope cl names k ifs elt m own mC ts I) {G : PM} {s : Shared} {v : Value} (S : St B X m own G s) (src : Src B X A own G s v ts)
    (fin : ∀ D C own' G' s' acc mc, St B X m ((D, .lst acc) :: own') G' s' → Le G G' → I ts.length acc own' → acc.length ≤ ts.length → Hid B X G' ((D, .lst acc) :: own') C → s'.heap.Ns C mc → RR (.ref D) C (.ok .next) s') :
    wpAny (model B.prog B.w) A (pyIter v) (fun it s₂ => wpAny (model B.prog B.w) A (newList []) (fun acc s₃ => wpAny (model B.prog B.w) A (newFunctionEnv scope X.env.globals cl [] X.env.qual none .none (some X.env)) (fun cenv s₄ =>
      codeAny (model B.prog B.w) A (.compStart (.ListComp elt [⟨.Name x px, iter, ifs, 0⟩] scope pos) 0 it acc { cenv with scope := relabel scope X.env }) (RR acc cenv.locals) s₄) NoE s₃) NoE s₂) NoE s := by
  refine src _ fun d fp P W h' tk wk st0 up hid alive hfp hP htk => ?_
  have S1 := S.hidden (h' := h') (tk := tk) up hid.1 hid.2.1 hid.2.2.1 hid.2.2.2.1 hid.2.2.2.2
  exact comp_core S1 wk st0 hid alive hfp hP spec.size ok.cell ok.kind ok.hx ok.sub ok.nd ok.hi spec.kl spec.slots spec.i0 spec.turn fin
theorem JV_CompO {elt iter : Expr} {x : Str} {px pos : Pos} {ifs : List Expr} {scope : Scope} {cl : List (Str × Addr)} {names : List Str} {k : Nat} {R : S → List S → Own → Prop} (ok : CompOk X scope cl names x k iter)
    (h : JV B X A m own (eval iter X.env) fun xs m1 o1 => ∃ ts mC I, (∀ s G v, St B X m1 o1 G s → RepS G xs (some v) → Src B X A o1 G s v ts) ∧ CSpec B X A scope cl names k ifs elt m1 o1 mC ts I ∧
      (∀ D acc o2, I ts.length acc o2 → acc.length ≤ ts.length → R (.own D) m1 ((D, .lst acc) :: o2))) :
    JV B X A m own (eval (.ListComp elt [⟨.Name x px, iter, ifs, 0⟩] scope pos) X.env) R := by
  intro s G hS _ Q hQ
  rw [eval_ListComp]
  refine wpAny_comprehension_free (use := none) rfl ok.hs ok.clos ok.kind ok.locs (h s G hS trivial _ fun v xs m1 o1 G1 s1 S1 L1 r1 h1 => ?_)
  refine aside fun Cg hCg => ?_
  obtain ⟨ts, mC, I, src, spec, fin⟩ := h1
  refine hCg ?_
  refine wpAny_mono (comp_glue (RR := fun acc C => compPost (model B.prog B.w) A NoE none Q acc C) ok spec S1 (src s1 G1 v S1 r1) fun D C own' G' s' acc mc S2 L2 hI hl hC hn => ?_) (fun _ _ y => y) fun _ _ y => y.elim
  exact ⟨mc, hn, fun h' hs' => hQ _ _ _ _ _ _ (S2.hidden (h' := h') (tk := s'.toks) (fun b o hb e => (hs'.2 b hb).trans e) hC.1 hC.2.1 hC.2.2.1 hC.2.2.2.1 hC.2.2.2.2) (L1.trans L2) rO (fin D acc own' hI hl)⟩
theorem JV_freeze {t : Sem Value} {R : S → List S → Own → Prop} (h : JV B X A m own t (Frz R)) : JV B X A m own t R := by
  intro s G hS _ Q hQ
  refine h s G hS trivial Q fun v sv m1 o1 G1 s1 S1 L1 r1 h1 => ?_
  obtain ⟨D, xs, o2, rfl, rfl, hR⟩ := h1
  obtain ⟨G2, S2, L2, r2⟩ := St.freeze (pre := []) (i := 0) S1
  have e : v = .ref D := Option.some.inj r1
  exact hQ _ _ _ _ _ _ S2 (L1.trans L2) (rT (e ▸ r2)) hR
theorem JV_Comp {elt iter : Expr} {x : Str} {px pos : Pos} {ifs : List Expr} {scope : Scope} {cl : List (Str × Addr)} {names : List Str} {k : Nat} {R : S → List S → Own → Prop} (ok : CompOk X scope cl names x k iter)
    (h : JV B X A m own (eval iter X.env) (CompIn B X A scope cl names k ifs elt R)) :
    JV B X A m own (eval (.ListComp elt [⟨.Name x px, iter, ifs, 0⟩] scope pos) X.env) R :=
  JV_freeze (JV_CompO ok (h.mono fun xs m1 o1 q => by
    obtain ⟨ts, mC, I, a, b, c⟩ := q
    exact ⟨ts, mC, I, a, b, fun D acc o2 hI hl => ⟨D, acc, o2, rfl, rfl, c acc o2 hI hl⟩⟩))
theorem JF_AssignCompO {elt iter : Expr} {x y : Str} {px py pos spos : Pos} {ifs : List Expr} {scope : Scope} {cl : List (Str × Addr)} {names : List Str} {k i : Nat} {R : Fl → List S → Own → Prop} (ok : CompOk X scope cl names x k iter)
    (hsw : swapsWith (.ListComp elt [⟨.Name x px, iter, ifs, 0⟩] scope pos) (some (.Name y py)) spos.line X.env = pure true) (hk : X.env.scope.kind = .function) (hi : X.names[i]? = some y) (hl : X.env.kindOf y = some .local)
    (h : JV B X A m own (eval iter X.env) fun xs m1 o1 => ∃ ts mC I, (∀ s G v, St B X m1 o1 G s → RepS G xs (some v) → Src B X A o1 G s v ts) ∧ CSpec B X A scope cl names k ifs elt m1 o1 mC ts I ∧ i < m1.length ∧
      (∀ D acc o2, I ts.length acc o2 → acc.length ≤ ts.length → R .next (m1.set i (.own D)) ((D, .lst acc) :: o2))) :
    JF B X A m own (exec (.Assign [.Name y py] (.ListComp elt [⟨.Name x px, iter, ifs, 0⟩] scope pos) spos) X.env) R := by
  intro s G hS _ Q hQ
  rw [exec_Assign_Name_used _ _ _ _ hsw]
  refine wpAny_bind (wpAny_standAt (wpAny_bind ?_))
  show wpAny _ A (do let _ ← comprehension (.ListComp elt [⟨.Name x px, iter, ifs, 0⟩] scope pos) scope X.env _ (newList []) false (eval iter X.env) (some (assign (.Name y py) X.env))) _ _ s
  refine wpAny_bind (wpAny_mono (wpAny_comprehension_free (use := some (assign (.Name y py) X.env)) (Q := fun _ s' => Q .next s') rfl ok.hs ok.clos ok.kind ok.locs (h s G hS trivial _ fun v xs m1 o1 G1 s1 S1 L1 r1 h1 => ?_))
    (fun _ s' hq => wpAny_pure (wpAny_pure hq)) fun _ _ e => e)
  refine aside fun Cg hCg => ?_
  obtain ⟨ts, mC, I, src, spec, hil, fin⟩ := h1
  refine hCg ?_
  refine wpAny_mono (comp_glue (RR := fun acc C => compPost (model B.prog B.w) A NoE (some (assign (.Name y py) X.env)) (fun _ s' => Q .next s') acc C) ok spec S1 (src s1 G1 v S1 r1) fun D C own' G' s' acc mc S2 L2 hI hl' hC hn => ?_) (fun _ _ y => y) fun _ _ y => y.elim
  show wpAny _ A (assign (.Name y py) X.env (.ref D)) _ _ _
  refine aside fun Cg hCg => ?_
  obtain ⟨obC, es, ep, eC, rC⟩ := hn
  refine hCg ?_
  have S3 := S2.hide hC eC
  refine wpAny_assign_Name (store_any (X := X.at (AM.put X.P C obC)) S3 hk hi (.inl hl) hil rO fun s4 S4 => ?_)
  obtain ⟨S5, hC5, eC5⟩ := S4.unhide hC.2.1 (S2.g0none hC.1) hC.2.2.1 hC.2.2.2.1
  refine ⟨mc, ⟨obC, es, ep, eC5, rC⟩, fun h' hs' => ?_⟩
  exact hQ _ _ _ _ _ _ (S5.hidden (h' := h') (tk := s4.toks) (fun b o hb e => (hs'.2 b hb).trans e) hC5.1 hC5.2.1 hC5.2.2.1 hC5.2.2.2.1 hC5.2.2.2.2) (L1.trans L2) rNext (fin D acc own' hI hl')
theorem JF_freezeAt {t : Sem Flow} {i : Nat} {R : Fl → List S → Own → Prop} (h : JF B X A m own t (FrzAt i R)) : JF B X A m own t R := by
  intro s G hS _ Q hQ
  refine h s G hS trivial Q fun v fa m1 o1 G1 s1 S1 L1 r1 h1 => ?_
  obtain ⟨rfl, D, xs, o2, hm, rfl, hR⟩ := h1
  obtain ⟨G2, S2, L2, r2⟩ := St.freeze (pre := []) (i := 0) S1
  rw [show v = .next from r1]
  exact hQ _ _ _ _ _ _ (S2.slotT hm r2) (L1.trans L2) rNext hR
end
end
noncomputable section
set_option maxRecDepth 512
noncomputable def Room (n : Nat) (A : Around) : Prop := A.handled = none ∧ A.depth + n < recursionLimit ∧ A.units + 8 * n < cLine
theorem Room.deeper {n : Nat} {A : Around} {env : Env} (h : Room (n + 1) A) : Room n (A.deeper env) := by
  obtain ⟨a, b, c⟩ := h
  refine ⟨a, ?_, ?_⟩
  · show A.depth + 1 + n < _; lia
  · show A.units + 3 + 8 * n < _; lia
theorem Room.le {n k : Nat} {A : Around} (h : Room n A) (hk : k ≤ n) : Room k A := ⟨h.1, by have := h.2.1; lia, by have := h.2.2; lia⟩
noncomputable def PlOk (B : Bs) (G : PM) (h : Heap) : Prop := ∀ p ∈ B.pl, G.ob p.1 = none ∧ ∃ ob, h.get? p.1 = some ob ∧ RepO G p.2 ob
theorem St.growP {B : Bs} {X : Act} {m : List S} {own : Own} {G G' : PM} {s : Shared} {h' : Heap} {tk : Nat} (x : St B X m own G s) (hk : ∀ b o, (∀ p ∈ B.pl, p.1 ≠ b) → s.heap.get? b = some o → h'.get? b = some o) (hG : Le G G')
    (hG' : ∀ b o, G'.ob b = some o → h'.get? b = some o) (hn : ∀ b o, s.heap.get? b = some o → G.ob b = none → G'.ob b = none) (ht : G'.hi ≤ tk) (hp : PlOk B G' h') : St B X m own G' { s with heap := h', toks := tk } := by
  have hL : ∀ p ∈ B.pl, p.1 ≠ X.env.locals := fun p hp => let ⟨_, _, _, _, _, a, _⟩ := x.ow p (List.mem_append_right _ hp); a
  have hC : ∀ y c, X.env.cells.lookup y = some c → ∀ p ∈ B.pl, p.1 ≠ c := fun y c e p hp => let ⟨_, _, _, _, _, _, a⟩ := x.ow p (List.mem_append_right _ hp); a y c e
  have hP : ∀ p ∈ B.pl, X.P p.1 = none := fun p hp => let ⟨_, _, _, _, a, _⟩ := x.ow p (List.mem_append_right _ hp); a
  exact {
    same := let ⟨_, _, e⟩ := x.same; ⟨h', tk, by rw [e]⟩
    hi := ht
    lo := Nat.le_trans x.lo hG.hi
    le := hG'
    base := fun b o e => hG.up b o (x.base b o e)
    g0 := x.g0.trans hG
    prot := fun b o e => hk b o (fun p hp q => by rw [← q, hP p hp] at e; cases e) (x.prot b o e)
    apart := fun b o e e' => hn b o (x.prot b o e) (x.apart b o e e')
    ns := let ⟨mc, o, es, ep, e, r⟩ := x.ns; ⟨mc, o, es, ep, hk _ _ hL e, r⟩
    GL := let ⟨mc, o, es, ep, e, _⟩ := x.ns; hn _ o e x.GL
    PL := x.PL
    cells := fun y c e => let ⟨⟨o, ho⟩, p⟩ := x.cells y c e; ⟨⟨o, hk _ _ (hC y c e) ho⟩, fun q => hn c o ho (p q)⟩
    vars := fun i y sv e1 e2 => by
      obtain ⟨o, a, b⟩ := x.vars i y sv e1 e2
      refine ⟨o, ?_, b.mono hG⟩
      rcases a with ⟨hl, mc, ⟨o', es, ep, e, r⟩, h⟩ | ⟨hk', c, hc, ⟨o', ho', r⟩⟩
      · exact .inl ⟨hl, mc, ⟨o', es, ep, hk _ _ hL e, r⟩, h⟩
      · exact .inr ⟨hk', c, hc, ⟨o', hk _ _ (hC y c hc) ho', r⟩⟩
    ow := fun p hp' => by
      obtain ⟨ob, a, b, c, d⟩ := x.ow p hp'
      rcases List.mem_append.mp hp' with h1 | h1
      · have nd := x.nodup
        rw [List.map_append, List.nodup_append] at nd
        exact ⟨ob, hk _ _ (fun q hq e => nd.2.2 p.1 (List.mem_map_of_mem h1) q.1 (List.mem_map_of_mem hq) e.symm) a, b.mono hG, hn _ _ a c, d⟩
      · obtain ⟨e1, ob', e2, e3⟩ := hp p h1
        exact ⟨ob', e2, e3, e1, d⟩
    nodup := x.nodup
    names := x.names
    cinj := x.cinj }
noncomputable def FunJ (B : Bs) (fv : Value) (n : Nat) (args : List T) (Rr : T → Prop) : Prop :=
  ∀ (A : Around) (s : Shared) (G : PM) (vs : List Value), Room n A → (∀ b o, G.ob b = some o → s.heap.get? b = some o) → (∀ b o, B.H.get? b = some o → G.ob b = some o) → G.hi ≤ s.toks → B.N ≤ G.hi → PlOk B G s.heap → RepL G args vs →
    ∀ Q : Value → Shared → Prop, (∀ v r G' h' tk, (∀ b o, (∀ p ∈ B.pl, p.1 ≠ b) → s.heap.get? b = some o → h'.get? b = some o) → Le G G' → (∀ b o, G'.ob b = some o → h'.get? b = some o) → (∀ b o, s.heap.get? b = some o → G.ob b = none → G'.ob b = none) →
      G'.hi ≤ tk → PlOk B G' h' → RepT G' r v → Rr r → Q v { s with heap := h', toks := tk }) → wpAny (model B.prog B.w) A (call fv vs) Q NoE s
noncomputable def JCall (B : Bs) (X : Act) (A : Around) (fv : Value) (as : List S) (m : List S) (own : Own) (R : S → List S → Own → Prop) : Prop :=
  ∀ vs, J repV (fun G => RepSs G as vs) B X A m own (call fv vs) R
section
variable {B : Bs} {X : Act} {A : Around} {m : List S} {own : Own}
theorem reps_of {G : PM} : ∀ {args : List T} {vs : List Value}, RepSs G (args.map .t) vs → RepL G args vs
  | [], _, h => by cases h; exact .nil
  | _ :: _, _, h => by
    cases h with
    | cons h h' => exact .cons (uT h) (reps_of h')
theorem C_fun {fv : Value} {n : Nat} {args : List T} {Rr : T → Prop} {R : S → List S → Own → Prop} (hF : FunJ B fv n args Rr) (hA : Room n A) (h : ∀ r, Rr r → R (.t r) m own) : JCall B X A fv (args.map .t) m own R := by
  intro vs s G hS hr Q hQ
  exact hF A s G vs hA hS.le hS.base hS.hi hS.lo (fun p hp => let ⟨ob, a, b, c, _⟩ := hS.ow p (List.mem_append_right _ hp); ⟨c, ob, a, b⟩) (reps_of hr) Q fun v r G' h' tk a1 a2 a3 a4 ah ap a5 a6 => hQ _ _ _ _ _ _ (hS.growP a1 a2 a3 a4 ah ap) a2 (rT a5) (h r a6)
theorem C_funE {fv : Value} {n : Nat} {args : List T} {c : T} {R : S → List S → Own → Prop} (hF : FunJ B fv n args (fun r => r = c)) (hA : Room n A) (h : R (.t c) m own) : JCall B X A fv (args.map .t) m own R := C_fun hF hA fun _ e => e ▸ h
noncomputable def Callee (B : Bs) (fv : Value) : Prop := (∃ id, fv = .builtin id) ∨ (∃ T, fv = .type T) ∨ (∃ a, fv = .ref a ∧ keepIn B.K (.ref a) = true)
theorem evalArgs_any {M : Model} {E : Value → Shared → Prop} {s : Shared} {f : Value} {Q : Args → Shared → Prop} : ∀ {trees : List (Bool × Sem Value)}, trees.any (·.1) = false → wpAny M A (spliced trees) (fun vs s' => Q ⟨vs, []⟩ s') E s →
    wpAny M A (evalArgs f true trees []) Q E s
  | [], _, h => by
    unfold evalArgs
    show wpAny M A (spliced [] >>= _) Q E s
    refine wpAny_bind (wpAny_mono h (fun vs s' h' => ?_) fun _ _ x => x)
    refine wpAny_bind (wpAny_pure ?_)
    refine wpAny_holding ?_
    exact wpAny_bind (wpAny_pure (wpAny_bind (wpAny_pure (wpAny_pure h'))))
  | (false, _) :: _, _, h => evalArgs_plain h
  | (true, _) :: _, e, _ => by simp at e
theorem JV_call {f : Expr} {args : List Expr} {pos : Pos} {R : S → List S → Own → Prop} (hB : B.Ok)
    (he : eval (.Call f args [] pos) X.env = (do let v ← eval f X.env; callWith pos v [] (backTo pos (starEach args X.env)) []))
    (hplain : (backTo pos (starEach args X.env)).any (·.1) = false)
    (h : JV B X A m own (eval f X.env) fun fs m1 o1 => ∃ fv, fs = .t (.con fv) ∧ Callee B fv ∧ JL B X A m1 o1 (spliced (backTo pos (starEach args X.env))) fun as m2 o2 => JCall B X A fv as m2 o2 R) :
    JV B X A m own (eval (.Call f args [] pos) X.env) R := by
  intro s G hS _ Q hQ
  rw [he]
  refine wpAny_bind (h s G hS trivial _ fun v fs m1 o1 G1 s1 S1 L1 r1 h1 => ?_)
  obtain ⟨fv, rfl, hc, hl⟩ := h1
  have hv : v = fv := by have := uT r1; exact this
  subst hv
  have fin := hl s1 G1 S1 trivial (fun vs s2 => v = v ∧ B.K.In s2.heap ∧ wpAny (model B.prog B.w) A (call v vs) Q NoE s2) fun vs as m2 o2 G2 s2 S2 L2 r2 h2 =>
    ⟨rfl, fun a o e => S2.le a o (S2.base a o (hB.kin a o e)), h2 vs s2 G2 S2 r2 Q fun y z m3 o3 G3 s3 S3 L3 r3 h3 => hQ y z m3 o3 G3 s3 S3 (L1.trans (L2.trans L3)) r3 h3⟩
  rcases hc with ⟨id, rfl⟩ | ⟨T, rfl⟩ | ⟨a, rfl, hk⟩
  · exact callWith_builtin hplain (evalArgs_any hplain (wpAny_mono fin (fun vs s2 q => q.2.2) fun _ _ y => y))
  · exact PyProof.Rows.callWith_type hplain (evalArgs_any hplain (wpAny_mono fin (fun vs s2 q => q.2.2) fun _ _ y => y))
  · exact callWith_of (P := fun h => B.K.In h) (by rw [hplain]; rfl) (keeps_K hk) (evalArgs_any hplain (wpAny_mono fin (fun vs s2 q => q.2) fun _ _ y => y))
end
noncomputable def RetOK (Rr : T → Prop) : Fl → List S → Own → Prop
  | .ret (.t r), _, _ => Rr r
  | .ret (.own a), _, o => ∃ xs o2, o = (a, .lst xs) :: o2 ∧ Rr (.lst xs)
  | .next, _, _ => Rr .none
  | _, _, _ => False
theorem bindL_out {k : Str → Option NameKind} {x : Str} : ∀ {ps : List Str} {vs : List Value} {m : Str → Option Value}, x ∉ ps → bindL k (ps.zip vs) m x = m x
  | [], _, _, _ => rfl
  | _ :: _, [], _, _ => rfl
  | p :: ps, v :: vs, m, h => by
    rw [List.zip_cons_cons, bindL, bindL_out (fun q => h (List.mem_cons_of_mem _ q))]
    split
    · have : x ≠ p := fun q => h (q ▸ List.mem_cons_self)
      simp [this]
    · rfl
theorem bindL_in {k : Str → Option NameKind} {x : Str} {v : Value} (hk : k x = some .local) : ∀ {ps : List Str} {vs : List Value} {m : Str → Option Value} {i : Nat}, ps.Nodup → ps[i]? = some x → vs[i]? = some v → bindL k (ps.zip vs) m x = some v
  | [], _, _, _, _, h, _ => by simp at h
  | _ :: _, [], _, _, _, _, h => by simp at h
  | p :: ps, u :: vs, m, i, nd, h1, h2 => by
    rw [List.zip_cons_cons, bindL]
    rw [List.nodup_cons] at nd
    cases i with
    | zero =>
      simp at h1 h2; subst h1; subst h2
      rw [if_pos hk, bindL_out nd.1]; simp
    | succ i => exact bindL_in hk nd.2 (by simpa using h1) (by simpa using h2)
theorem bindC_out {k : Str → Option NameKind} {x : Str} : ∀ {ps : List Str} {vs : List Value} {m : Str → Option Value}, x ∉ ps → bindC k (ps.zip vs) m x = m x
  | [], _, _, _ => rfl
  | _ :: _, [], _, _ => rfl
  | p :: ps, v :: vs, m, h => by
    rw [List.zip_cons_cons, bindC, bindC_out (fun q => h (List.mem_cons_of_mem _ q))]
    split
    · rfl
    · have : x ≠ p := fun q => h (q ▸ List.mem_cons_self)
      simp [this]
theorem bindC_in {k : Str → Option NameKind} {x : Str} {v : Value} (hk : ¬ k x = some .local) : ∀ {ps : List Str} {vs : List Value} {m : Str → Option Value} {i : Nat}, ps.Nodup → ps[i]? = some x → vs[i]? = some v → bindC k (ps.zip vs) m x = some v
  | [], _, _, _, _, h, _ => by simp at h
  | _ :: _, [], _, _, _, _, h => by simp at h
  | p :: ps, u :: vs, m, i, nd, h1, h2 => by
    rw [List.zip_cons_cons, bindC]
    rw [List.nodup_cons] at nd
    cases i with
    | zero =>
      simp at h1 h2; subst h1; subst h2
      rw [if_neg hk, bindC_out nd.1]; simp
    | succ i => exact bindC_in hk nd.2 (by simpa using h1) (by simpa using h2)
theorem call_cellsT {prog : Program} {w : World} {A : Around} {s : Shared} {R : Result → Shared → Prop} {a : Addr} {o : Obj} {fd : FuncData} {body : List Stmt} {vals : List Value} {binds : List (Str × Value)}
    (hroom : A.depth < recursionLimit) (ho : s.heap.get? a = some o) (hdata : o.data = .func fd) (hlim : s.heap.NoLimit) (hcd : s.heap.CodeRec fd.code fd.qualname)
    (hbody : fd.body = .stmts body) (hbind : bindArgs fd ⟨vals, []⟩ = pure binds) (hclo : fd.closure = [])
    (hkind : ∀ x ∈ binds, fd.scope.names.lookup x.1 = some .local ∨ (fd.scope.names.lookup x.1 = some .cell ∧ ((cellsFrom (s.heap.objs.size + 1) fd.scope.names []).lookup x.1).isSome = true))
    (h : ∀ s₁, s.toks ≤ s₁.toks → InCallC s (callEnvC fd s.heap.objs.size a).locals (bindL (callEnvC fd s.heap.objs.size a).kindOf binds fun _ => none) (callEnvC fd s.heap.objs.size a).cells
        (bindC (callEnvC fd s.heap.objs.size a).kindOf binds fun _ => none) s₁ →
      wpAny (model prog w) (A.deeper (callEnvC fd s.heap.objs.size a)) (execs body (callEnvC fd s.heap.objs.size a)) (fun f s' => R (.ok (.ret (match f with | .ret v => v | _ => .none))) s')
        (fun e s' => wpAny (model prog w) (A.deeper (callEnvC fd s.heap.objs.size a)) (leaving (callEnvC fd s.heap.objs.size a) e) (fun _ s'' => R (.error e) s'') (fun e' s'' => R (.error e') s'') s') s₁)
    (hco : fd.scope.isCoroutine = false) (hgen : fd.scope.isGenerator = false) (hk : fd.scope.kind = .function) :
    codeAny (model prog w) A (.call (.ref a) ⟨vals, []⟩) R s := by
  refine codeAny_call_function hroom ho hdata hco hgen hbody hcd ?_
  rw [hbind, hclo]
  refine wpAny_pure (tok_in (wpAny_newFunctionEnv_cells hk hkind fun env he s' x hm => ?_))
  subst he
  exact ⟨hlim.keeps x.toInCall.keep, codeAny_func (h s' hm x)⟩
theorem FunJ_of_def {B : Bs} {f : Addr} {fd : FuncData} {oc : Value} {od : Option Addr} {osl : Array (Option Value)} {body : List Stmt} {ps ls : List Str} {args : List T} {n : Nat} {Rr : T → Prop}
    (hB : B.Ok) (hK : B.K.lookup f = some ⟨oc, od, .func fd, osl⟩) (hcd : codeIn B.K fd.code fd.qualname = true) (hbody : fd.body = .stmts body) (hclo : fd.closure = [])
    (hco : fd.scope.isCoroutine = false) (hgen : fd.scope.isGenerator = false) (hk : fd.scope.kind = .function)
    (hbind : ∀ vs : List Value, vs.length = ps.length → bindArgs fd ⟨vs, []⟩ = pure (ps.zip vs)) (hlen : args.length = ps.length) (hnd : (ps ++ ls).Nodup)
    (hkinds : ∀ x ∈ ps ++ ls, fd.scope.names.lookup x = some .local ∨ fd.scope.names.lookup x = some .cell)
    (h : ∀ (A : Around) (L : Addr) (s₀ : Shared) (P : AM) (G₀ : PM), Room n A → (∀ c, L < c → P c = none) →
      JF B ⟨callEnvC fd L f, ps ++ ls, s₀, P, G₀⟩ A (args.map .t ++ ls.map fun _ => .undef) [] (execs body (callEnvC fd L f)) (RetOK Rr)) : FunJ B (.ref f) (n + 1) args Rr := by
  intro A s G vs hA le base hhi hlo hpl hr Q hQ
  have hvl : vs.length = ps.length := by rw [hr.length, hlen]
  have up : ∀ b o, B.H.get? b = some o → s.heap.get? b = some o := fun b o e => le b o (base b o e)
  have hcells : ∀ x, fd.scope.names.lookup x = some .cell → ((cellsFrom (s.heap.objs.size + 1) fd.scope.names []).lookup x).isSome = true := fun x e => cellsFrom_some _ _ _ (.inl e)
  refine wpAny_call (call_cellsT (binds := ps.zip vs) (by have := hA.2.1; lia) (up _ _ (hB.kin _ _ hK)) rfl (hB.nolimit.keeps up) ((codeRec_of hB.kin hcd).keeps up) hbody (hbind vs hvl) hclo ?_ (fun s₁ htk ic => ?_) hco hgen hk)
  · intro x hx
    have : x.1 ∈ ps := (List.of_mem_zip (show (x.1, x.2) ∈ ps.zip vs from hx)).1
    rcases hkinds x.1 (List.mem_append_left _ this) with q | q
    · exact .inl q
    · exact .inr ⟨q, hcells _ q⟩
  have none_up : ∀ c, s.heap.objs.size ≤ c → s.heap.get? c = none := fun c hc => by
    cases e : s.heap.get? c with
    | none => rfl
    | some o => exact absurd (Heap.lt_size e) (Nat.not_lt.mpr hc)
  have Gnone : ∀ c, s.heap.get? c = none → G.ob c = none := fun c hc => by
    cases e : G.ob c with
    | none => rfl
    | some o => rw [le c o e] at hc; cases hc
  have cells_up : ∀ x c, (callEnvC fd s.heap.objs.size f).cells.lookup x = some c → s.heap.get? c = none := fun x c e => none_up c (Nat.le_of_lt (ic.above x c (mem_of_lookup e)))
  have nd := List.nodup_append.mp hnd
  let P0 : AM := fun b => if b ∈ B.pl.map (·.1) then none else s.heap.get? b
  have P0_some : ∀ b o, P0 b = some o → s.heap.get? b = some o := fun b o e => by
    dsimp only [P0] at e
    split at e
    · cases e
    · exact e
  have P0_none : ∀ b, s.heap.get? b = none → P0 b = none := fun b e => by
    cases q : P0 b with
    | none => rfl
    | some o => rw [P0_some b o q] at e; cases e
  have P0_pl : ∀ p ∈ B.pl, P0 p.1 = none := fun p hp => if_pos (List.mem_map_of_mem hp)
  have P0_up : ∀ b o, (∀ p ∈ B.pl, p.1 ≠ b) → s.heap.get? b = some o → P0 b = some o := fun b o hb e => by
    refine (if_neg fun q => ?_).trans e
    obtain ⟨p, hp, q⟩ := List.mem_map.mp q
    exact hb p hp q
  let X : Act := ⟨callEnvC fd s.heap.objs.size f, ps ++ ls, s, P0, G⟩
  have S0 : St B X (args.map Mine.S.t ++ ls.map fun _ => Mine.S.undef) [] G s₁ := {
    same := ic.toInCall.same
    hi := Nat.le_trans hhi htk
    lo := hlo
    le := fun b o e => ic.toInCall.keep b o (le b o e)
    base := base
    g0 := Le.refl G
    prot := fun b o e => ic.toInCall.keep b o (P0_some b o e)
    apart := fun b o _ e => e
    ns := ⟨_, ic.toInCall.ns⟩
    GL := Gnone _ (get_size s.heap)
    PL := P0_none _ (get_size s.heap)
    cells := fun x c e => ⟨let ⟨o, ho, _⟩ := ic.cell x c e; ⟨o, ho⟩, fun _ => Gnone c (cells_up x c e)⟩
    vars := fun i x sv e1 e2 => by
      have hx : x ∈ ps ++ ls := List.mem_of_getElem? e1
      by_cases hip : i < ps.length
      · have e1' : ps[i]? = some x := by rw [← e1]; exact (List.getElem?_append_left hip).symm
        have hia : i < (args.map Mine.S.t).length := by simp; lia
        rw [List.getElem?_append_left hia, List.getElem?_map] at e2
        obtain ⟨y, hy, rfl⟩ := Option.map_eq_some_iff.mp e2
        obtain ⟨v, hv, hr'⟩ := hr.get hy
        refine ⟨some v, ?_, rT hr'⟩
        rcases hkinds x hx with q | q
        · exact .inl ⟨q, _, ic.toInCall.ns, bindL_in q nd.1 e1' hv⟩
        · have hc := hcells x q
          obtain ⟨c, hc⟩ := Option.isSome_iff_exists.mp hc
          have := ic.cell x c hc
          rw [bindC_in (by show ¬ fd.scope.names.lookup x = _; rw [q]; intro e; cases e) nd.1 e1' hv] at this
          exact .inr ⟨.inl q, c, hc, this⟩
      · have hip' : ps.length ≤ i := Nat.not_lt.mp hip
        have hia : (args.map Mine.S.t).length ≤ i := by simp; lia
        rw [List.getElem?_append_right hia, List.getElem?_map] at e2
        obtain ⟨y, hy, rfl⟩ := Option.map_eq_some_iff.mp e2
        rw [show (X.names : List Str) = ps ++ ls from rfl, List.getElem?_append_right hip'] at e1
        have hxl : x ∈ ls := List.mem_of_getElem? e1
        have hxp : x ∉ ps := fun q => nd.2.2 x q x hxl rfl
        refine ⟨none, ?_, rfl⟩
        rcases hkinds x hx with q | q
        · exact .inl ⟨q, _, ic.toInCall.ns, bindL_out hxp⟩
        · have hc := hcells x q
          obtain ⟨c, hc⟩ := Option.isSome_iff_exists.mp hc
          have := ic.cell x c hc
          rw [bindC_out hxp] at this
          exact .inr ⟨.inl q, c, hc, this⟩
    ow := fun p hp => by
      rw [List.nil_append] at hp
      obtain ⟨e1, ob, e2, e3⟩ := hpl p hp
      exact ⟨ob, ic.toInCall.keep _ _ e2, e3, e1, P0_pl p hp, (fun q => by rw [show p.1 = s.heap.objs.size from q, get_size] at e2; cases e2), (fun x c e q => by rw [q, cells_up x c e] at e2; cases e2)⟩
    nodup := hB.plnd
    names := hnd
    cinj := fun x y c e1 e2 => name_of_addr ic.apart (mem_of_lookup e1) (mem_of_lookup e2) }
  refine wpAny_mono (h (A.deeper _) s.heap.objs.size s P0 G hA.deeper (fun c hc => P0_none c (none_up c (Nat.le_of_lt hc))) s₁ G S0 trivial _ fun fl fa m' o' G' s' S' L' r' h' => ?_) (fun _ _ y => y) fun _ _ y => y.elim
  have fin : ∀ v r G2, St B X m' o' G' s' → (∃ o2, St B X m' o2 G2 s') → Le G G2 → RepT G2 r v → Rr r → Q v s' := fun v r G2 S1 S2 L2 hr hR => by
    obtain ⟨o2, S2⟩ := S2
    obtain ⟨h', tk, e⟩ := S1.same
    subst e
    refine hQ v r G2 h' tk (fun b o hb e => S2.prot b o (P0_up b o hb e)) L2 S2.le (fun b o e e' => ?_) S2.hi (fun p hp => let ⟨ob, a, b, c, _⟩ := S2.ow p (List.mem_append_right _ hp); ⟨c, ob, a, b⟩) hr hR
    by_cases hb : ∀ p ∈ B.pl, p.1 ≠ b
    · exact S2.apart b o (P0_up b o hb e) e'
    · refine Classical.byContradiction fun q => hb fun p hp e1 => q ?_
      obtain ⟨_, _, _, c, _⟩ := S2.ow p (List.mem_append_right _ hp)
      rw [← e1]; exact c
  cases fa with
  | next =>
    rw [show fl = .next from r']
    exact fin .none .none G' S' ⟨_, S'⟩ L' tNone h'
  | brk => exact h'.elim
  | cont => exact h'.elim
  | ret sv =>
    obtain ⟨v, rfl, rv⟩ := r'
    cases sv with
    | undef => exact h'.elim
    | t r => exact fin v r G' S' ⟨_, S'⟩ L' (uT rv) h'
    | own a =>
      refine aside fun Cg hCg => ?_
      obtain ⟨xs, o2, rfl, hR⟩ := h'
      obtain ⟨G2, S2, L2, r2⟩ := St.freeze (pre := []) (i := 0) S'
      refine hCg ?_
      have e : v = .ref a := Option.some.inj rv
      exact fin v (.lst xs) G2 S' ⟨_, S2⟩ (L'.trans L2) (e ▸ r2) hR
structure EnvIs (env : Env) (sc : Scope) (cells : List (Str × Addr)) : Prop where
  scope : env.scope = sc
  globals : env.globals = mainGlobals
  builtins : env.builtins = builtinsNs
  cells : env.cells = cells
theorem EnvIs.kind {env : Env} {sc : Scope} {cells : List (Str × Addr)} (h : EnvIs env sc cells) {x : Str} {k : Option NameKind} (e : sc.names.lookup x = k) : env.kindOf x = k := by
  unfold Env.kindOf; rw [h.scope]; exact e
theorem EnvIs.fn {env : Env} {sc : Scope} {cells : List (Str × Addr)} (h : EnvIs env sc cells) (e : sc.kind = .function) : env.scope.kind = .function := by rw [h.scope]; exact e
theorem EnvIs.gb {env : Env} {sc : Scope} {cells : List (Str × Addr)} (h : EnvIs env sc cells) : env.globals = mainGlobals ∧ env.builtins = builtinsNs := ⟨h.globals, h.builtins⟩
theorem lenS {α : Type} {P : List α → Prop} {n : Nat} (h : ∀ a l, l.length = n → P (a :: l)) : ∀ l : List α, l.length = n + 1 → P l
  | a :: l, e => h a l (Nat.succ.inj e)
theorem len0 {α : Type} {P : List α → Prop} (h : P []) : ∀ l : List α, l.length = 0 → P l
  | [], _ => h
theorem len1 {α : Type} {P : List α → Prop} (h : ∀ a, P [a]) : ∀ l : List α, l.length = 1 → P l := lenS fun a => len0 (h a)
theorem len2 {α : Type} {P : List α → Prop} (h : ∀ a b, P [a, b]) : ∀ l : List α, l.length = 2 → P l := lenS fun a => len1 (h a)
theorem len3 {α : Type} {P : List α → Prop} (h : ∀ a b c, P [a, b, c]) : ∀ l : List α, l.length = 3 → P l := lenS fun a => len2 (h a)
theorem len6 {α : Type} {P : List α → Prop} (h : ∀ a b c d e f, P [a, b, c, d, e, f]) : ∀ l : List α, l.length = 6 → P l := lenS fun a => lenS fun b => lenS fun c => len3 (h a b c)
theorem FunJ_of {B : Bs} {f : Addr} {fd : FuncData} {oc : Value} {od : Option Addr} {osl : Array (Option Value)} {body : List Stmt} {ps ls : List Str} {args : List T} {n : Nat} {Rr : T → Prop}
    (hB : B.Ok) (hK : B.K.lookup f = some ⟨oc, od, .func fd, osl⟩) (hcd : codeIn B.K fd.code fd.qualname = true) (hbody : fd.body = .stmts body) (hclo : fd.closure = [])
    (hco : fd.scope.isCoroutine = false) (hgen : fd.scope.isGenerator = false) (hk : fd.scope.kind = .function) (hgl : fd.globals = mainGlobals) (hbu : fd.builtins = builtinsNs)
    (hbind : ∀ vs : List Value, vs.length = ps.length → bindArgs fd ⟨vs, []⟩ = pure (ps.zip vs)) (hlen : args.length = ps.length) (hnd : (ps ++ ls).Nodup)
    (hkinds : ∀ x ∈ ps ++ ls, fd.scope.names.lookup x = some .local ∨ fd.scope.names.lookup x = some .cell)
    (h : ∀ (A : Around) (L : Addr) (env : Env) (s₀ : Shared) (P : AM) (G₀ : PM), Room n A → (∀ c, L < c → P c = none) → EnvIs env fd.scope (cellsFrom (L + 1) fd.scope.names []) →
      JF B ⟨env, ps ++ ls, s₀, P, G₀⟩ A (args.map .t ++ ls.map fun _ => .undef) [] (execs body env) (RetOK Rr)) : FunJ B (.ref f) (n + 1) args Rr :=
  FunJ_of_def hB hK hcd hbody hclo hco hgen hk hbind hlen hnd hkinds fun A L s₀ P G₀ hA hP => h A L _ s₀ P G₀ hA hP ⟨rfl, hgl, hbu, rfl⟩
section
variable {B : Bs} {X : Act} {A : Around} {m : List S} {own : Own}
theorem ix {l : List Str} {x : Str} (i : Nat) (h : l[i]? = some x) : l[i]? = some x := h
theorem JV_nameT {x : Str} {pos : Pos} {i : Nat} {y : T} {R : S → List S → Own → Prop} (hk : X.env.scope.kind = .function) (hi : X.names[i]? = some x) (hm : m[i]? = some (.t y))
    (h : R (.t y) m own) (hd : (x == ("__debug__" : Str)) = false) (hn : (x == ("__classdict__" : Str)) = false) : JV B X A m own (eval (.Name x pos) X.env) R := JV_name hk hi hm (by intro h; cases h) h hd hn
theorem JV_nameO {x : Str} {pos : Pos} {i : Nat} {a : Addr} {R : S → List S → Own → Prop} (hk : X.env.scope.kind = .function) (hi : X.names[i]? = some x) (hm : m[i]? = some (.own a))
    (h : R (.own a) m own) (hd : (x == ("__debug__" : Str)) = false) (hn : (x == ("__classdict__" : Str)) = false) : JV B X A m own (eval (.Name x pos) X.env) R := JV_name hk hi hm (by intro h; cases h) h hd hn
theorem JF_AugT {x : Str} {p pos : Pos} {value : Expr} {op : Operator} {i : Nat} {y : T} {R : Fl → List S → Own → Prop} (hk : X.env.scope.kind = .function) (hi : X.names[i]? = some x)
    (hl : X.env.kindOf x = some .local) (hm : m[i]? = some (.t y))
    (h : ∀ K : S → List S → Own → Prop, (∀ a m1 o1, i < m1.length → R .next (m1.set i a) o1 → K a m1 o1) → JV B X A m own (eval value X.env) fun b m1 o1 => JInp B X A op (.t y) b m1 o1 K) : JF B X A m own (exec (.AugAssign (.Name x p) op value pos) X.env) R :=
  JF_Aug hk hi hl hm (by intro h; cases h) (h _ fun _ _ _ a b => ⟨a, b⟩)
theorem JF_AssignL {x : Str} {p pos : Pos} {value : Expr} {i : Nat} {R : Fl → List S → Own → Prop} (hk : X.env.scope.kind = .function) (hi : X.names[i]? = some x)
    (hl : X.env.kindOf x = some .local) (hs : swapsWith value (some (.Name x p)) pos.line X.env = pure false)
    (h : ∀ K : S → List S → Own → Prop, (∀ a m1 o1, i < m1.length → R .next (m1.set i a) o1 → K a m1 o1) → JV B X A m own (eval value X.env) K) : JF B X A m own (exec (.Assign [.Name x p] value pos) X.env) R := JF_Assign hk hi (.inl hl) hs (h _ fun _ _ _ a b => ⟨a, b⟩)
theorem JF_AssignC {x : Str} {p pos : Pos} {value : Expr} {i : Nat} {R : Fl → List S → Own → Prop} (hk : X.env.scope.kind = .function) (hi : X.names[i]? = some x)
    (hl : X.env.kindOf x = some .cell) (hc : ∀ c, X.env.cells.lookup x = some c → X.P c = none) (hs : swapsWith value (some (.Name x p)) pos.line X.env = pure false)
    (h : ∀ K : S → List S → Own → Prop, (∀ a m1 o1, i < m1.length → R .next (m1.set i a) o1 → K a m1 o1) → JV B X A m own (eval value X.env) K) : JF B X A m own (exec (.Assign [.Name x p] value pos) X.env) R := JF_Assign hk hi (.inr ⟨hl, hc⟩) hs (h _ fun _ _ _ a b => ⟨a, b⟩)
end
end
open Lean in
local macro_rules | `(tactic| walk_at $s:str) => do
  let n := s.getString
  let nm (x : String) : Ident := mkIdent x.toName
  let tm (x : String) : MacroM Term := match x with
    | "_" => `(_)
    | "?_" => `(?_)
    | _ => match x.toList with
      | '?' :: r => `(?$(nm (String.ofList r)):ident)
      | _ => match x.toNat? with
        | some k => pure (quote k)
        | none => pure ⟨nm x⟩
  let step (c : String) : MacroM (TSyntax `tactic) := do
    match c.splitOn " " with
    | "r" :: f :: as => `(tactic| with_reducible refine' $(Syntax.mkApp (nm f) (← as.mapM tm).toArray))
    | "R" :: f :: as => `(tactic| refine' $(Syntax.mkApp (nm f) (← as.mapM tm).toArray))
    | ["c", h, k] => `(tactic| case $(nm h):ident => walk_at $(quote k))
    | ["x", h, f] => `(tactic| case $(nm h):ident => exact $(nm f))
    | ["e", h, f] => `(tactic| case $(nm h):ident => exact $(nm f) (by assumption))
    | ["E", h, f, g] => `(tactic| case $(nm h):ident => exact $(nm f) ($(nm g) (by assumption)))
    | _ => `(tactic| walk_at $(quote c))
  let run (p : String) : MacroM (TSyntax `tactic) := do
    let z ← `(tactic| skip)
    (p.splitOn "; ").foldrM (fun c t => do let a ← step c; `(tactic| ($a:tactic; $t:tactic))) z
  let alts (ps : List String) : MacroM (TSyntax `tactic) := do
    let z ← `(tactic| fail)
    ps.foldrM (fun p t => do let a ← run p; `(tactic| first | $a:tactic | $t:tactic)) z
  let nth (k : Nat) (a b : String) : List String := (List.range k).map fun i => a ++ toString i ++ b
  match n with
  | "jnp" => `(tactic| dsimp only [andThen, turnPost, List.set, List.map, List.cons_append, List.nil_append, List.append_nil, Act.at, RetOK])
  | "skip" => `(tactic| skip)
  | "rf" => `(tactic| exact rfl)
  | "ru" => `(tactic| with_unfolding_all rfl)
  | "dec" => `(tactic| decide)
  | "dk" => `(tactic| decide +kernel)
  | "as" => `(tactic| assumption)
  | "jk" => `(tactic| intro _ $(nm "hGo"))
  | "jpair" => `(tactic| refine ⟨by walk_at "jlen", ?_⟩)
  | "jfn" => `(tactic| exact EnvIs.fn (by assumption) rfl)
  | "jkind" => `(tactic| exact EnvIs.kind (by assumption) rfl)
  | "jlen" => `(tactic| exact Nat.le_of_ble_eq_true rfl)
  | "jgo" => `(tactic| ((repeat (first | walk_at "js" | (walk_at "jnp"; walk_at "js"))); walk_at "jn"))
  | "jn" => alts ["jnp", "skip"]
  | "ix" => alts (nth 27 "r ix " " rfl")
  | "jname" => alts (["JV_nameT", "JV_nameO"].map fun f => "r " ++ f ++ " ?hk ?hi ?h0 ?_ ?hd ?hn; c hi ix; c h0 rf; c hk jfn; c hd dec; c hn dec")
  | "jnamew" => run "r JV_nameW ?hk ?hi ?h0 ?hw ?_ ?hd ?hn; c hi ix; c h0 rf; c hk jfn; c hd dec; c hn dec"
  | "jassign" => run "r JF_AssignL ?hk ?hi ?hl ?hs ?_; c hi ix; c hk jfn; c hl jkind; c hs rf; jk"
  | "jif" => run "r JF_IfK ?_; jk"
  | "jset" => alts ["R hGo _ _ _ ?jl ?_; c jl jlen", "R hGo _ _ _ ?_", "jpair"]
  | "awn" => run "r JV_AttrWsN ?hB ?hk ?hi ?h0 ?hd ?hn ?h1 ?ha ?hh ?hf ?_; c hB as; c hi ix; c hk jfn; c h0 rf; c hd dec; c hn dec; c h1 rf"
  | "mwn" => run "r JV_methodWsN ?hB ?hk ?hi ?h0 ?hd ?hn ?h1 ?h2 ?h3 ?h4 ?ha ?hh ?hf ?h5 ?_; c hB as; c hi ix; c hk jfn; c h0 rf; c hd dec; c hn dec; c h1 rf; c h2 rf; c h3 rf; c h4 rf; c h5 dk"
  | "ctail" => run "c ck jfn; c cx jkind; c ce rf; c cp rf; c cd dec"
  | "cal" => alts ["R callee_b", "R callee_t"]
  | "js" => alts ((("JF_cons JF_nil JF_Return JF_If JF_Break JB_Not JV_BinOp JV_int JV_bool JV_Sub JL_nil B_add B_sub B_adds T_bool T_int C_eq C_ne C_lt C_gt C_le C_ge C_eqs".splitOn " ").map fun f => "r " ++ f ++ " ?_") ++
      ["r JB_Compare ?_ ?hw; c hw ru", "r JV_Compare ?_ ?hw; c hw ru"] ++ (("lit_em lit_sp lit_tab lit_x lit_abcd".splitOn " ").map fun l => "r JV_strL " ++ l ++ " ?_") ++ ["jassign", "jname", "r JL_cons ?_ ?he; c he rf", "jset; jn"])
  | _ =>
    let k : String := String.ofList (n.toList.drop 2)
    let u : String := String.ofList (k.toList.filter (· != '_'))
    if n.startsWith "c_" then
      alts ["r JV_callG ?cB ?cE ?cv ?cc ?ck ?cx ?ce ?cp ?cd ?_; c cB as; e cE EnvIs.globals; e cv g_" ++ u ++ "; E cc callee_k k_" ++ u ++ "; ctail",
        "r JV_callB ?cB ?cE ?cv ?cb ?cc ?ck ?cx ?cn ?ce ?cp ?cd ?_; c cB as; e cE EnvIs.gb; e cv n_" ++ u ++ "; x cb b_" ++ u ++ "; c cc cal; c cn dec; ctail"]
    else if n.startsWith "m_" then
      let ty := if k == "append" || k == "pop" || k == "reverse" then "list" else if k == "bit_length" then "int" else "str"
      run ("r JV_method ?h1 ?h2 ?h3 ?h4 ?pa ?sl ?ty ?_; x pa PySem.F.plainAttrs_" ++ ty ++ "; x sl PySem.F.slot_" ++ ty ++ "_" ++ k ++ "; x ty PySem.F.type_" ++ ty ++ "_" ++ k ++ "; c h1 rf; c h2 rf; c h3 rf; c h4 rf")
    else Macro.throwUnsupported
noncomputable section
structure LB (B : Bs) : Prop where
  ok : B.Ok
  K : B.K = Mine.hd.heap_39 B.w.params
  bm : ∃ bm ob, B.mg "__builtins__" = some (.ref bm) ∧ bm ≠ builtinsNs ∧ B.H.get? bm = some ob ∧ ob.cls = .type "module" ∧ ob.dict = some builtinsNs ∧ ob.data = .plain
  t1 : CodeHd B.H 107 103
  t2 : CodeHd B.H 114 110
  pl : B.pl = [(103, .tab ⟨89, 4, 98, 28⟩ (Str.ofString "_int2digits.<locals>.inner")), (110, .tab ⟨104, 4, 109, 55⟩ (Str.ofString "_digits2int.<locals>.inner"))]
theorem mgI {B : Bs} (h : LB B) {n : Str} {v : Value} (e : nsIn (Mine.hd.heap_39 B.w.params) mainGlobals n = some (some v)) : B.mg n = some v := mg_of h.ok.kin h.ok.g (h.K ▸ e)
theorem mgN {B : Bs} (h : LB B) {n : Str} (e : nsIn (Mine.hd.heap_39 B.w.params) mainGlobals n = some none) : B.mg n = none := mg_none_of h.ok.kin h.ok.g (h.K ▸ e)
theorem keepI {B : Bs} (h : LB B) {v : Value} (e : keepIn (Mine.hd.heap_39 B.w.params) v = true) : keepIn B.K v = true := h.K ▸ e
section
variable {B : Bs} (h : LB B)
include h
theorem gDL : B.mg (Str.ofString "_DIV_LIMIT") = some (.int 4000 299) := mgI h (by kernel_rfl!)
end
theorem imul_spec {B : Bs} (hB : LB B) {a b : Int} (hm : IntMulOk a b) : FunJ B (.ref 150) 1 [.int a, .int b] (fun r => r = .int (a * b)) := by
  refine FunJ_of (n := 0) (ps := [Str.ofString "a", Str.ofString "b"]) (ls := []) hB.ok (by rw [hB.K]; exact rfl) (by rw [hB.K]; kernel_rfl!) rfl rfl rfl rfl rfl rfl rfl ?_ rfl ?_ ?_ ?_
  · exact len2 fun _ _ => rfl
  · decide +kernel
  · decide +kernel
  · intro A L env s₀ P G₀ hA hP E
    dsimp only at E
    walk_at "jn"
    refine JF_cons ?_
    refine JF_AugT (i := 0) (by walk_at "jfn") rfl (by walk_at "jkind") rfl fun _ hGo => ?_
    walk_at "jname"
    refine I_mul hm ?_
    walk_at "jset"
    walk_at "jn"
    refine JF_cons ?_
    refine JF_Return ?_
    walk_at "jname"
    walk_at "jn"
end
noncomputable section
theorem RepL.getV {G : PM} : ∀ {xs : List T} {vs : List Value} {i : Nat} {v : Value}, RepL G xs vs → vs[i]? = some v → ∃ x, xs[i]? = some x ∧ RepT G x v
  | [], vs, i, v, e, h => by obtain rfl : _ = [] := e; simp at h
  | x :: xs, vs, i, y, e, h => by
    obtain ⟨v, r, e1, e2, e3⟩ := e
    subst e1
    cases i with
    | zero => simp at h; subst h; exact ⟨x, rfl, e2⟩
    | succ i => simp at h ⊢; exact e3.getV h
theorem RepL.getA {G : PM} {xs : List T} {vs : Array Value} {i : Nat} {v : Value} (h : RepL G xs vs.toList) (e : vs[i]? = some v) : ∃ x, xs[i]? = some x ∧ RepT G x v := h.getV (by rw [Array.getElem?_toList]; exact e)
theorem RepL.size {G : PM} {xs : List T} {vs : Array Value} (h : RepL G xs vs.toList) : vs.size = xs.length := by rw [← h.length, Array.length_toList]
noncomputable def upT (a b : Int) : List T := (List.range (b - a).toNat).map fun i : Nat => T.int (a + (i : Int))
theorem upT_length (a b : Int) : (upT a b).length = (b - a).toNat := by simp [upT]
theorem upT_get {a b : Int} {i : Nat} (h : i < (b - a).toNat) : (upT a b)[i]? = some (.int (a + (i : Int))) := by simp [upT, h]
section
variable {B : Bs} {X : Act} {A : Around} {m : List S} {own : Own}
theorem src_lst {ts : List T} (hh : A.handled = none) : ∀ s G v, St B X m own G s → RepS G (.t (.lst ts)) (some v) → Src B X A own G s v ts := by
  intro s G v S hr Q hQ
  have hr := uT hr
  obtain ⟨a, o, vs, n, rfl, hG, ⟨hc, hdn⟩, hd, hl⟩ := hr
  have hL : s.heap.IsList a vs := ⟨o, S.le _ _ hG, hc, n, hd⟩
  have hne : a ≠ s.heap.objs.size := Nat.ne_of_lt (Heap.lt_size (S.le _ _ hG))
  refine wpAny_pyIter_list hL ?_
  have W := Walks.list (prog := B.prog) (w := B.w) hh s.heap.objs.size a hne vs
  rw [hl.size] at W
  exact hQ _ _ _ _ _ s.toks (.of W) ⟨⟨_, Heap.get?_push_size _ rfl, rfl, rfl⟩, hL.push _⟩ (fun b o _ e => Heap.get?_push_of_some _ e) (S.hid (get_size _)) (fun i h ⟨⟨o, ho, _⟩, _⟩ => ⟨o, ho⟩)
    (fun b hb => by
      rcases List.mem_cons.mp hb with rfl | hb
      · exact .inl rfl
      · rw [List.mem_singleton.mp hb]; exact .inr ⟨o, hG⟩) (fun i v _ e => hl.getA e) (Nat.le_refl _)
theorem src_rng {a b : Int} (hh : A.handled = none) (ha : -(2 ^ 62) ≤ a) (ha' : a < 2 ^ 62) (hb : -(2 ^ 62) ≤ b) (hb' : b < 2 ^ 62) : ∀ s G v, St B X m own G s → RepS G (.t (.rng a b)) (some v) → Src B X A own G s v (upT a b) := by
  intro s G v S hr Q hQ
  have hr := uT hr
  obtain ⟨r, t, u, w, rfl, hG⟩ := hr
  have hR : IsRange s.heap r a b 1 t u w := S.le _ _ hG
  refine wpAny_pyIter_range hR (small_one ha ha' hb hb') ?_
  have hsz : Builtin.Range.rangeSize a b 1 = ((b - a).toNat : Int) := by rw [rangeSize_one]; split <;> lia
  have W := Walks.range (prog := B.prog) (w := B.w) hh s.heap.objs.size a 1 (b - a).toNat
  rw [← upT_length] at W
  refine hQ _ _ _ _ _ s.toks (.of W) ?_ (fun b o _ e => Heap.get?_push_of_some _ e) (S.hid (get_size _)) (fun i h e => ⟨_, e⟩) (fun b hb => .inl (List.mem_singleton.mp hb)) ?_ (Nat.le_refl _)
  · have e1 : a + ((0 : Nat) : Int) * 1 = a := by simp
    have e2 : (((upT a b).length : Int) - ((0 : Nat) : Int)) = Builtin.Range.rangeSize a b 1 := by rw [hsz, upT_length]; simp
    rw [e1, e2]
    exact Heap.get?_push_size _ rfl
  · rintro i v hi ⟨t, rfl⟩
    rw [upT_length] at hi
    exact ⟨_, upT_get hi, by rw [Int.mul_one]; exact tInt⟩
theorem src_str {c : List Nat} (hh : A.handled = none) : ∀ s G v, St B X m own G s → RepS G (.t (.str c)) (some v) → Src B X A own G s v (c.map fun n => .str [n]) := by
  intro s G v S hr Q hQ
  obtain ⟨t, rfl⟩ := uStr hr
  have sign : ∀ i v, i < (c.map fun n => T.str [n]).length → SignAt ⟨c.toArray⟩ i v → ∃ x, (c.map fun n => T.str [n])[i]? = some x ∧ RepT G x v := by
    rintro i v _ ⟨k, u, e, rfl⟩
    have e' : c[i]? = some k := by simpa using e
    exact ⟨.str [k], by rw [List.getElem?_map, e']; rfl, tStr⟩
  cases ha : (⟨c.toArray⟩ : Str).cps.all (· < 128)
  · refine wpAny_pyIter_wide ha ?_
    have W := Walks.strWide (prog := B.prog) (w := B.w) hh s.heap.objs.size ⟨c.toArray⟩ t
    rw [show (⟨c.toArray⟩ : Str).cps.size = (c.map fun n => T.str [n]).length by simp] at W
    exact hQ _ _ _ _ _ s.toks (.of W) ⟨_, Heap.get?_push_size _ rfl, rfl, rfl⟩ (fun b o _ e => Heap.get?_push_of_some _ e) (S.hid (get_size _)) (fun i h ⟨o, ho, _⟩ => ⟨o, ho⟩) (fun b hb => .inl (List.mem_singleton.mp hb)) sign (Nat.le_refl _)
  · refine wpAny_pyIter_ascii ha ?_
    have W := Walks.strAscii (prog := B.prog) (w := B.w) hh s.heap.objs.size ⟨c.toArray⟩ t
    rw [show (⟨c.toArray⟩ : Str).cps.size = (c.map fun n => T.str [n]).length by simp] at W
    exact hQ _ _ _ _ _ s.toks (.of W) ⟨_, Heap.get?_push_size _ rfl, rfl, rfl⟩ (fun b o _ e => Heap.get?_push_of_some _ e) (S.hid (get_size _)) (fun i h ⟨o, ho, _⟩ => ⟨o, ho⟩) (fun b hb => .inl (List.mem_singleton.mp hb)) sign (Nat.le_refl _)
end
end
noncomputable section
noncomputable def Lst (own : Own) (sv : S) (ts : List T) : Prop := sv = .t (.lst ts) ∨ ∃ a, sv = .own a ∧ (a, O.lst ts) ∈ own
theorem Lst.is {B : Bs} {X : Act} {m : List S} {own : Own} {G : PM} {s : Shared} {sv : S} {ts : List T} {v : Value} (h : Lst own sv ts) (S : St B X m own G s) (hr : RepS G sv (some v)) :
    ∃ a vs, v = .ref a ∧ s.heap.IsList a vs ∧ RepL G ts vs.toList := by
  rcases h with rfl | ⟨a, rfl, hm⟩
  · have hr := uT hr
    refine aside fun Cg hCg => ?_
    obtain ⟨a, o, vs, n, rfl, hG, ⟨hc, hdn⟩, hd, hl⟩ := hr
    refine hCg ?_
    exact ⟨a, vs, rfl, ⟨o, S.le _ _ hG, hc, n, hd⟩, hl⟩
  · obtain ⟨ob, e, ⟨vs, n, rfl, hl⟩, _⟩ := S.ow _ (List.mem_append_left _ hm)
    exact ⟨a, vs, Option.some.inj hr, ⟨_, e, rfl, n, rfl⟩, hl⟩
theorem reps1 {G : PM} {a : S} {vs : List Value} (h : RepSs G [a] vs) : ∃ v, vs = [v] ∧ RepS G a (some v) := by
  cases h with | cons h h' => cases h' with | nil => exact ⟨_, rfl, h⟩
theorem reps2 {G : PM} {a b : S} {vs : List Value} (h : RepSs G [a, b] vs) : ∃ v u, vs = [v, u] ∧ RepS G a (some v) ∧ RepS G b (some u) := by
  cases h with | cons h h' => obtain ⟨u, rfl, r⟩ := reps1 h'; exact ⟨_, _, rfl, h, r⟩
theorem ints_at {G : PM} {ns : List Int} {vs : Array Value} {i : Nat} {v : Value} (h : RepL G (ns.map T.int) vs.toList) (e : vs[i]? = some v) : ∃ t, v = .int (ns.getD i 0) t := by
  obtain ⟨x, e1, e2⟩ := h.getA e
  rw [List.getElem?_map] at e1
  obtain ⟨n, hn, rfl⟩ := Option.map_eq_some_iff.mp e1
  obtain ⟨t, rfl⟩ := e2
  exact ⟨t, by simp [hn]⟩
theorem preSum_take (ns : List Int) : ∀ k, preSum (fun i => ns.getD i 0) k = (ns.take k).sum
  | 0 => by simp [preSum]
  | k + 1 => by
    rw [preSum, preSum_take ns k, List.take_add_one, List.sum_append]
    cases h : ns[k]? with
    | none => simp [h]
    | some x => simp [h]
theorem preSum_all (ns : List Int) : preSum (fun i => ns.getD i 0) ns.length = ns.sum := by rw [preSum_take, List.take_length]
theorem argBest_spec (val : Nat → Int) : ∀ k, argBest (fun i j => decide (val i > val j)) k ≤ k ∧ ∀ i, i ≤ k → val i ≤ val (argBest (fun i j => decide (val i > val j)) k)
  | 0 => ⟨Nat.le_refl _, fun i hi => by rw [Nat.le_zero.mp hi]; exact Int.le_refl _⟩
  | k + 1 => by
    obtain ⟨h1, h2⟩ := argBest_spec val k
    rw [argBest]
    split
    · rename_i h
      have h := of_decide_eq_true h
      refine ⟨Nat.le_refl _, fun i hi => ?_⟩
      rcases Nat.lt_or_ge k i with q | q
      · rw [show i = k + 1 by lia]; exact Int.le_refl _
      · exact Int.le_trans (h2 i q) (Int.le_of_lt h)
    · rename_i h
      have h : ¬ val (k + 1) > val (argBest (fun i j => decide (val i > val j)) k) := fun q => h (decide_eq_true q)
      refine ⟨Nat.le_succ_of_le h1, fun i hi => ?_⟩
      rcases Nat.lt_or_ge k i with q | q
      · rw [show i = k + 1 by lia]; exact Int.not_lt.mp h
      · exact h2 i q
section
variable {B : Bs} {X : Act} {A : Around} {m : List S} {own : Own} {R : S → List S → Own → Prop}
theorem C_len {sv : S} {ts : List T} (hl : Lst own sv ts) (hz : (ts.length : Int) < 2 ^ 62) (h : R (.t (.int ts.length)) m own) : JCall B X A (.builtin "len") [sv] m own R := by
  intro vs s G hS hrs Q hQ
  obtain ⟨v, rfl, hr⟩ := reps1 hrs
  obtain ⟨a, us, rfl, hL, hR⟩ := hl.is hS hr
  refine Calls.call_len_list hL (by rw [hR.size]; lia) ?_
  rw [hR.size]
  exact hQ _ _ _ _ _ _ (hS.tok _) (Le.refl G) (rT tInt) h
theorem C_lens {c : List Nat} (hz : (c.length : Int) < 2 ^ 62) (h : R (.t (.int c.length)) m own) : JCall B X A (.builtin "len") [.t (.str c)] m own R := by
  intro vs s G hS hrs Q hQ
  obtain ⟨v, rfl, hr⟩ := reps1 hrs
  obtain ⟨t, rfl⟩ := uStr hr
  refine PyProof.Rows.len_str (by simp [Str.length]; lia) ?_
  simp only [Str.length, List.size_toArray]
  exact hQ _ _ _ _ _ _ (hS.tok _) (Le.refl G) (rT tInt) h
theorem C_abs {a : Int} (h : R (.t (.int (if a < 0 then -a else a))) m own) : JCall B X A (.builtin "abs") [.t (.int a)] m own R := by
  intro vs s G hS hrs Q hQ
  obtain ⟨v, rfl, hr⟩ := reps1 hrs
  obtain ⟨t, rfl⟩ := uInt hr
  exact tok_in (PyProof.Rows.call_abs_int fun u tk htm => hQ _ _ _ _ _ _ (hS.tok _) (Le.refl G) (rT tInt) h)
theorem C_max2 (hA : A.handled = none) {a b : Int} (h : R (.t (.int (if b > a then b else a))) m own) : JCall B X A (.builtin "max") [.t (.int a), .t (.int b)] m own R := by
  intro vs s G hS hrs Q hQ
  obtain ⟨v, u, rfl, hr, hr'⟩ := reps2 hrs
  obtain ⟨t, rfl⟩ := uInt hr
  obtain ⟨t', rfl⟩ := uInt hr'
  refine tok_in (max_two_ints hA fun h' tk hk htm => ?_)
  have S' := hS.grow (tk := tk) hk (Le.refl G) (fun b o e => hk b o (hS.le b o e)) (fun _ _ _ e => e) (Nat.le_trans hS.hi htm)
  split
  · rename_i q; exact hQ _ _ _ _ _ _ S' (Le.refl G) (rT tInt) (by rw [if_pos q] at h; exact h)
  · rename_i q; exact hQ _ _ _ _ _ _ S' (Le.refl G) (rT tInt) (by rw [if_neg q] at h; exact h)
theorem C_range1 {b : Int} (h : R (.t (.rng 0 b)) m own) : JCall B X A (.type "range") [.t (.int b)] m own R := by
  intro vs s G hS hrs Q hQ
  obtain ⟨v, rfl, hr⟩ := reps1 hrs
  obtain ⟨t, rfl⟩ := uInt hr
  refine call_range_1 ?_
  obtain ⟨S', L'⟩ := hS.pushG (o := { cls := .type "range", data := .fields #[.int 0 s.toks, .int b t, .int 1 (s.toks + 1)] }) (tk := s.toks + 1 + 1) rfl
  exact hQ _ _ _ _ _ _ S' L' (rT (by exact ⟨_, _, _, _, rfl, put_self ..⟩)) h
theorem C_range2 {a b : Int} (h : R (.t (.rng a b)) m own) : JCall B X A (.type "range") [.t (.int a), .t (.int b)] m own R := by
  intro vs s G hS hrs Q hQ
  obtain ⟨v, u, rfl, hr, hr'⟩ := reps2 hrs
  obtain ⟨t, rfl⟩ := uInt hr
  obtain ⟨t', rfl⟩ := uInt hr'
  refine call_range_2 ?_
  obtain ⟨S', L'⟩ := hS.pushG (o := { cls := .type "range", data := .fields #[.int a t, .int b t', .int 1 s.toks] }) (tk := s.toks + 1) rfl
  exact hQ _ _ _ _ _ _ S' L' (rT (by exact ⟨_, _, _, _, rfl, put_self ..⟩)) h
theorem C_divmod {a b : Int} (hb : b ≠ 0) (hp : Builtin.divisionGoesByPylong a b = false) (h : R (.t (.tup [.int (a.fdiv b), .int (a.fmod b)])) m own) : JCall B X A (.builtin "divmod") [.t (.int a), .t (.int b)] m own R := by
  intro vs s G hS hrs Q hQ
  obtain ⟨v, u, rfl, hr, hr'⟩ := reps2 hrs
  obtain ⟨t, rfl⟩ := uInt hr
  obtain ⟨t', rfl⟩ := uInt hr'
  refine PyProof.Rows.divmod_int hb ?_ (.inl hp)
  obtain ⟨S', L'⟩ := hS.pushG (o := { cls := .type "tuple", data := .seq #[.int (a.fdiv b) s.toks, .int (a.fmod b) (s.toks + 1)] }) (tk := s.toks + 1 + 1) rfl
  exact hQ _ _ _ _ _ _ S' L' (rT (by exact ⟨_, _, _, _, rfl, put_self .., rfl, rfl, .cons tInt (.one tInt)⟩)) h
theorem C_tuple {sv : S} {ts : List T} (hl : Lst own sv ts) (hz : ts.length ≤ sizeLine) (h : R (.t (.tup ts)) m own) : JCall B X A (.type "tuple") [sv] m own R := by
  intro vs s G hS hrs Q hQ
  obtain ⟨v, rfl, hr⟩ := reps1 hrs
  obtain ⟨a, us, rfl, hL, hR⟩ := hl.is hS hr
  refine call_tuple_list hL (fun h' hk => ?_) (by rw [hR.size]; exact hz)
  have S1 := hS.grow (tk := s.toks) hk (Le.refl G) (fun b o e => hk b o (hS.le b o e)) (fun _ _ _ e => e) hS.hi
  obtain ⟨S', L'⟩ := S1.pushG (o := { cls := .type "tuple", data := .seq us }) (tk := s.toks) rfl
  exact hQ _ _ _ _ _ _ S' L' (rT (by exact ⟨_, _, _, _, rfl, put_self .., rfl, rfl, hR.mono L'⟩)) h
theorem walk_list {a : Addr} {us : Array Value} {s : Shared} (hA : A.handled = none) (hL : s.heap.IsList a us) {Q : Value → Shared → Prop}
    (h : ∀ I, I = s.heap.objs.size → Walks B.prog B.w A I [I, a] [I] us.size (fun i v => us[i]? = some v) (fun i h => h.IsListIter I a i ∧ h.IsList a us) →
      ((s.heap.push { cls := .type "list_iterator", data := .fields #[.ref a, .int 0 0] }).IsListIter I a 0 ∧ (s.heap.push { cls := .type "list_iterator", data := .fields #[.ref a, .int 0 0] }).IsList a us) →
      (∀ b ∈ [I, a], b < (s.heap.push { cls := .type "list_iterator", data := .fields #[.ref a, .int 0 0] }).objs.size) →
      Q (.ref I) { s with heap := s.heap.push { cls := .type "list_iterator", data := .fields #[.ref a, .int 0 0] } }) {E : Value → Shared → Prop} : wpAny (model B.prog B.w) A (pyIter (.ref a)) Q E s := by
  have hlt : a < s.heap.objs.size := by obtain ⟨_, e, _⟩ := hL; exact Heap.lt_size e
  refine wpAny_pyIter_list hL (h _ rfl (Walks.list hA _ a (Nat.ne_of_lt hlt) us) ⟨⟨_, Heap.get?_push_size _ rfl, rfl, rfl⟩, hL.push _⟩ fun b hb => ?_)
  rw [Heap.size_push]
  rcases List.mem_cons.mp hb with rfl | hb
  · exact Nat.lt_succ_self _
  · rw [List.mem_singleton.mp hb]; exact Nat.lt_succ_of_lt hlt
theorem C_sum (hA : A.handled = none) {sv : S} {ns : List Int} (hl : Lst own sv (ns.map T.int)) (h : R (.t (.int ns.sum)) m own) : JCall B X A (.builtin "sum") [sv] m own R := by
  intro vs s G hS hrs Q hQ
  obtain ⟨v, rfl, hr⟩ := reps1 hrs
  obtain ⟨a, us, rfl, hL, hR⟩ := hl.is hS hr
  refine tok_in (call_sum_walkG (walk_list (A := A.in1) hA hL fun I hI W st fp => ?_))
  refine ⟨I, _, _, _, _, _, fun i => ns.getD i 0, rfl, W, st, fp, fun i v e => ints_at hR e, fun h' tk t' hk htm => ?_⟩
  have hk' : ∀ b o, s.heap.get? b = some o → h'.get? b = some o := fun b o e => by
    refine hk b o (fun q => ?_) (Heap.get?_push_of_some _ e)
    rw [List.mem_singleton.mp q, hI, get_size] at e; cases e
  have S' := hS.grow (tk := tk) hk' (Le.refl G) (fun b o e => hk' b o (hS.le b o e)) (fun _ _ _ e => e) (Nat.le_trans hS.hi htm)
  have e : preSum (fun i => ns.getD i 0) us.size = ns.sum := by rw [hR.size, List.length_map, preSum_all]
  rw [e]
  exact hQ _ _ _ _ _ _ S' (Le.refl G) (rT tInt) h
theorem C_max (hA : A.handled = none) {sv : S} {ns : List Int} (hne : ns ≠ []) (hl : Lst own sv (ns.map T.int)) (h : ∀ M, M ∈ ns → (∀ x ∈ ns, x ≤ M) → R (.t (.int M)) m own) : JCall B X A (.builtin "max") [sv] m own R := by
  intro vs s G hS hrs Q hQ
  obtain ⟨v, rfl, hr⟩ := reps1 hrs
  obtain ⟨a, us, rfl, hL, hR⟩ := hl.is hS hr
  have hlen : 0 < ns.length := List.length_pos_iff.mpr hne
  have hsz : us.size = ns.length := by rw [hR.size, List.length_map]
  refine tok_in (call_max_walk (walk_list (A := A.in1) hA hL fun I hI W st fp => ?_))
  refine ⟨I, _, _, _, _, _, _, rfl, W, st, fp, by lia, CmpOf.ints_gt (fun i => ns.getD i 0) (fun i v e => ints_at hR e), fun v h' tk hP hk htm => ?_⟩
  have hk' : ∀ b o, s.heap.get? b = some o → h'.get? b = some o := fun b o e => by
    refine hk b o (fun q => ?_) (Heap.get?_push_of_some _ e)
    rw [List.mem_singleton.mp q, hI, get_size] at e; cases e
  have S' := hS.grow (tk := tk) hk' (Le.refl G) (fun b o e => hk' b o (hS.le b o e)) (fun _ _ _ e => e) (Nat.le_trans hS.hi htm)
  obtain ⟨t, rfl⟩ := ints_at hR hP
  obtain ⟨h1, h2⟩ := argBest_spec (fun i => ns.getD i 0) (us.size - 1)
  generalize argBest (fun i j => decide (ns.getD i 0 > ns.getD j 0)) (us.size - 1) = k at h1 h2 hP ⊢
  have hk1 : k < ns.length := by lia
  refine hQ _ _ _ _ _ _ S' (Le.refl G) (rT tInt) (h _ ?_ ?_)
  · rw [List.getD_eq_getElem?_getD, List.getElem?_eq_getElem hk1]; exact List.getElem_mem hk1
  · intro x hx
    obtain ⟨i, hi, rfl⟩ := List.mem_iff_getElem.mp hx
    have := h2 i (by lia)
    rw [List.getD_eq_getElem?_getD, List.getElem?_eq_getElem hi] at this
    exact this
theorem C_list {ts : List T} (hz : ts.length ≤ sizeLine) (h : ∀ D, R (.own D) m ((D, .lst ts) :: own)) : JCall B X A (.type "list") [.t (.tup ts)] m own R := by
  intro vs s G hS hrs Q hQ
  obtain ⟨v, rfl, hr⟩ := reps1 hrs
  have hr := uT hr
  obtain ⟨a, o, us, n, rfl, hG, hc, hd, hl⟩ := hr
  refine call_list_seq a (.inr rfl) (hS.le _ _ hG) hc hd (fun h' c' hk hD => ?_) (by rw [hl.size]; exact hz)
  have S' := hS.grow (tk := s.toks) hk (Le.refl G) (fun b o e => hk b o (hS.le b o e)) (fun _ _ _ e => e) hS.hi
  exact hQ _ _ _ _ _ _ (S'.adopt (x := .lst ts) (hS.hid (get_size _)) hD ⟨us, c', rfl, hl⟩) (Le.refl G) rO (h _)
theorem C_append {a : Addr} {xs : List T} {x : T} {pre post : Own} (hz : xs.length ≤ sizeLine) (h : R (.t .none) m (pre ++ (a, .lst (xs ++ [x])) :: post)) : JCall B X A (.builtin "list.append") [.own a, .t x] m (pre ++ (a, .lst xs) :: post) R := by
  intro vs s G hS hrs Q hQ
  obtain ⟨v, u, rfl, hr, hr'⟩ := reps2 hrs
  obtain ⟨ob, e, ⟨us, n, rfl, hl⟩, _⟩ := hS.ow (a, .lst xs) (by simp)
  rw [show v = .ref a from Option.some.inj hr]
  refine wpAny_list_append_plain (l := a) (items := us) ⟨n, e⟩ (fun h' hl' hs => ?_) (by rw [hl.size]; exact hz)
  obtain ⟨n', e'⟩ := hl'
  exact hQ _ _ _ _ _ _ (hS.turn (x' := .lst (xs ++ [x])) (tk := s.toks) hs e' ⟨_, n', rfl, repO_push hl (uT hr')⟩) (Le.refl G) (rT tNone) h
theorem C_bitlen {a : Int} (h : R (.t (.int (Builtin.Int.intBits a))) m own) : JCall B X A (.builtin "int.bit_length") [.t (.int a)] m own R := by
  intro vs s G hS hrs Q hQ
  obtain ⟨v, rfl, hr⟩ := reps1 hrs
  obtain ⟨t, rfl⟩ := uInt hr
  exact PyProof.Rows.call_int_bit_length (hQ _ _ _ _ _ _ (hS.tok _) (Le.refl G) (rT tInt) h)
theorem JV_method {o : Expr} {name : Str} {apos pos : Pos} {args : List Expr} {T id : String}
    (hbase : attributeBase o name X.env (eval o X.env) = eval o X.env)
    (hfew : ((backTo pos (starEach args X.env)).all (fun x => !x.1) && (backToKw pos (keywordEach [] X.env)).all (fun x => x.1.isSome)
      && decide (args.length + ([] : List Keyword).length + (if ([] : List Keyword).isEmpty then 0 else 1) < 30)) = true)
    (hline : (apos.endLine == pos.line) = true) (hplain : (backTo pos (starEach args X.env)).any (·.1) = false)
    (pa : PlainAttrs T) (slot : Slot T name id) (hty : typeOf (.builtin id) = pure (.type "method_descriptor"))
    (h : JV B X A m own (eval o X.env) fun sv m1 o1 => (∀ s G v, St B X m1 o1 G s → RepS G sv (some v) → s.TypeIs v T ∧ (∀ a, v = .ref a → ∃ ob, s.heap.get? a = some ob ∧ ob.dict = none)) ∧
      JL B X A m1 o1 (spliced (backTo pos (starEach args X.env))) fun as m2 o2 => JCall B X A (.builtin id) (sv :: as) m2 o2 R) :
    JV B X A m own (eval (.Call (.Attribute o name apos) args [] pos) X.env) R := by
  intro s G hS _ Q hQ
  refine wpAny_Call_method hbase hfew hline pa slot hty (h s G hS trivial _ fun v sv m1 o1 G1 s1 S1 L1 r1 h1 => ?_)
  obtain ⟨hT, h1⟩ := h1
  obtain ⟨t1, t2⟩ := hT s1 G1 v S1 r1
  refine ⟨t1, t2, Calls.callWith_builtin hplain (evalArgs_any hplain (h1 s1 G1 S1 trivial _ fun vs as m2 o2 G2 s2 S2 L2 r2 h2 => ?_))⟩
  exact h2 (v :: vs) s2 G2 S2 (.cons (r1.mono L2) r2) Q fun y z m3 o3 G3 s3 S3 L3 r3 h3 => hQ y z m3 o3 G3 s3 S3 (L1.trans (L2.trans L3)) r3 h3
theorem ty_str {c : List Nat} : ∀ s G v, St B X m own G s → RepS G (.t (.str c)) (some v) → s.TypeIs v "str" ∧ (∀ a, v = .ref a → ∃ ob, s.heap.get? a = some ob ∧ ob.dict = none) := by
  intro s G v _ hr
  obtain ⟨t, rfl⟩ := uStr hr
  exact ⟨typeIs_str s _ t, fun a e => by cases e⟩
theorem ty_int {c : Int} : ∀ s G v, St B X m own G s → RepS G (.t (.int c)) (some v) → s.TypeIs v "int" ∧ (∀ a, v = .ref a → ∃ ob, s.heap.get? a = some ob ∧ ob.dict = none) := by
  intro s G v _ hr
  obtain ⟨t, rfl⟩ := uInt hr
  exact ⟨typeIs_int s _ t, fun a e => by cases e⟩
theorem ty_own {a : Addr} {ts : List T} (hm : (a, O.lst ts) ∈ own) : ∀ s G v, St B X m own G s → RepS G (.own a) (some v) → s.TypeIs v "list" ∧ (∀ a, v = .ref a → ∃ ob, s.heap.get? a = some ob ∧ ob.dict = none) := by
  intro s G v S hr
  refine aside fun Cg hCg => ?_
  obtain ⟨ob, e, ⟨us, n, rfl, hl⟩, _⟩ := S.ow _ (List.mem_append_left _ hm)
  have : v = .ref a := Option.some.inj hr
  subst this
  refine hCg ?_
  exact ⟨⟨_, e, rfl⟩, fun b q => by cases q; exact ⟨_, e, rfl⟩⟩
end
end
noncomputable section
noncomputable def JItem (B : Bs) (X : Act) (A : Around) (value slice : Expr) (a b : S) (m : List S) (own : Own) (R : S → List S → Own → Prop) : Prop :=
  ∀ v u, J repV (fun G => RepS G a (some v) ∧ RepS G b (some u)) B X A m own (subscriptTail value slice v u) R
theorem subscripted_any (slice : Expr) (o i : Value) : ∃ ops, subscripted slice false o i = operate ops (getItem o i) := by
  cases slice with
  | Slice l u st p => cases st <;> exact ⟨_, rfl⟩
  | _ => exact ⟨_, rfl⟩
section
variable {B : Bs} {X : Act} {A : Around} {m : List S} {own : Own} {R : S → List S → Own → Prop}
theorem JV_Sub {value slice : Expr} {pos : Pos}
    (h : JV B X A m own (eval value X.env) fun a m1 o1 => JV B X A m1 o1 (eval slice X.env) fun b m2 o2 => JItem B X A value slice a b m2 o2 R) : JV B X A m own (eval (.Subscript value slice pos) X.env) R := by
  intro s G hS _ Q hQ
  refine PyProof.Rows.Subscript_ (h s G hS trivial _ fun v a m1 o1 G1 s1 S1 L1 r1 h1 => h1 s1 G1 S1 trivial _ fun u b m2 o2 G2 s2 S2 L2 r2 h2 => ?_)
  exact h2 v u s2 G2 S2 ⟨r1.mono L2, r2⟩ Q fun x y m3 o3 G3 s3 S3 L3 r3 h3 => hQ x y m3 o3 G3 s3 S3 (L1.trans (L2.trans L3)) r3 h3
theorem K_lst {value slice : Expr} {sv : S} {ts : List T} {i : Int} {y : T} (hl : Lst own sv ts) (h0 : 0 ≤ i) (hy : ts[i.toNat]? = some y) (hz : (ts.length : Int) < 2 ^ 62) (h : R (.t y) m own) :
    JItem B X A value slice sv (.t (.int i)) m own R := by
  rintro v u s G hS ⟨h1, h2⟩ Q hQ
  obtain ⟨a, us, rfl, hL, hR⟩ := hl.is hS h1
  obtain ⟨t, rfl⟩ := uInt h2
  obtain ⟨x, hx, rx⟩ := hR.get hy
  have hlt : i.toNat < ts.length := (List.getElem?_eq_some_iff.mp hy).1
  obtain ⟨ops, he⟩ := subscripted_any slice (.ref a) (.int i t)
  refine tail_any hL.typeIs slot_list_getitem.lookup (wpAny_getItem_list hL h0 (by lia) (by rw [← Array.getElem?_toList]; exact hx) ?_) he
  exact hQ _ _ _ _ _ _ hS (Le.refl G) (rT rx) h
theorem K_last {value slice : Expr} {sv : S} {ts : List T} {y : T} (hl : Lst own sv ts) (hy : ts.getLast? = some y) (hz : (ts.length : Int) < 2 ^ 62) (h : R (.t y) m own) :
    JItem B X A value slice sv (.t (.int (-1))) m own R := by
  rintro v u s G hS ⟨h1, h2⟩ Q hQ
  obtain ⟨a, us, rfl, hL, hR⟩ := hl.is hS h1
  obtain ⟨t, rfl⟩ := uInt h2
  rw [List.getLast?_eq_getElem?] at hy
  obtain ⟨x, hx, rx⟩ := hR.get hy
  have hlt : ts.length - 1 < ts.length := (List.getElem?_eq_some_iff.mp hy).1
  obtain ⟨ops, he⟩ := subscripted_any slice (.ref a) (.int (-1) t)
  have hs := hR.size
  refine tail_any hL.typeIs slot_list_getitem.lookup (wpAny_getItem_list_neg hL (by decide) (by lia) (by decide) (x := x) ?_ ?_) he
  · rw [← Array.getElem?_toList, hs, show ((-1 : Int) + (ts.length : Int)).toNat = ts.length - 1 by lia]; exact hx
  · exact hQ _ _ _ _ _ _ hS (Le.refl G) (rT rx) h
theorem K_tup {value slice : Expr} {ts : List T} {i : Int} {y : T} (h0 : 0 ≤ i) (hy : ts[i.toNat]? = some y) (hz : (ts.length : Int) < 2 ^ 62) (h : R (.t y) m own) :
    JItem B X A value slice (.t (.tup ts)) (.t (.int i)) m own R := by
  rintro v u s G hS ⟨h1, h2⟩ Q hQ
  have h1 := uT h1
  refine aside fun Cg hCg => ?_
  obtain ⟨a, o, us, n, rfl, hG, hc, hd, hR⟩ := h1
  obtain ⟨t, rfl⟩ := uInt h2
  obtain ⟨x, hx, rx⟩ := hR.get hy
  have hlt : i.toNat < ts.length := (List.getElem?_eq_some_iff.mp hy).1
  have hT : IsTup s.heap a us := ⟨o, hS.le _ _ hG, hc, n, hd⟩
  obtain ⟨ops, he⟩ := subscripted_any slice (.ref a) (.int i t)
  refine hCg ?_
  have hsz := hR.size
  refine tail_any hT.typeIs slot_tuple_getitem.lookup (PyProof.Rows.getItem_tuple hT (by lia) (by lia) (j := i.toNat) (x := x) ?_ (by rw [← Array.getElem?_toList]; exact hx) ?_) he
  · unfold seqIndex?
    rw [if_neg (show ¬ i < 0 by lia)]
    simp only [show (decide (0 ≤ i) && decide (i < (us.size : Int))) = true by simp; lia, if_true]
  · exact hQ _ _ _ _ _ _ hS (Le.refl G) (rT rx) h
theorem K_str {value slice : Expr} {c : List Nat} {i : Int} {y : Nat} (h0 : 0 ≤ i) (hy : c[i.toNat]? = some y) (hz : (c.length : Int) < 2 ^ 62) (h : R (.t (.str [y])) m own) :
    JItem B X A value slice (.t (.str c)) (.t (.int i)) m own R := by
  rintro v u s G hS ⟨h1, h2⟩ Q hQ
  obtain ⟨t', rfl⟩ := uStr h1
  obtain ⟨t, rfl⟩ := uInt h2
  have hlt : i.toNat < c.length := (List.getElem?_eq_some_iff.mp hy).1
  obtain ⟨ops, he⟩ := subscripted_any slice (.str ⟨c.toArray⟩ t') (.int i t)
  refine tail_any (typeIs_str s _ t') PyProof.Rows.slot_str_getitem.lookup (PyProof.Rows.getItem_str (c := y) (by simp; lia) ?_ ?_) he
  · unfold seqIndex?
    rw [if_neg (show ¬ i < 0 by lia)]
    simp only [Str.length, List.size_toArray, show (decide (0 ≤ i) && decide (i < (c.length : Int))) = true by simp; lia, if_true, Option.bind_some]
    simpa using hy
  · exact hQ _ _ _ _ _ _ (hS.tok _) (Le.refl G) (rT (tStr (c := [y]))) h
noncomputable def JPart (B : Bs) (X : Act) (A : Around) (m : List S) (own : Own) : Option Expr → (Option Int → List S → Own → Prop) → Prop
  | none, R => R none m own
  | some e, R => JV B X A m own (eval e X.env) fun sv m1 o1 => ∃ i, sv = .t (.int i) ∧ R (some i) m1 o1
noncomputable def repP (_ : PM) (p : Option Int) (v : Value) : Prop := ∃ q : Option (Int × Tok), v = partValue q ∧ p = q.map (·.1)
theorem J_part {e : Option Expr} {R : Option Int → List S → Own → Prop} (h : JPart B X A m own e R) : J repP yes B X A m own (evalPart e X.env) R := by
  intro s G hS _ Q hQ
  cases e with
  | none => exact wpAny_pure (hQ _ _ _ _ _ _ hS (Le.refl G) ⟨none, rfl, rfl⟩ h)
  | some e =>
    refine h s G hS trivial Q fun v sv m1 o1 G1 s1 S1 L1 r1 h1 => ?_
    obtain ⟨i, rfl, h1⟩ := h1
    obtain ⟨t, rfl⟩ := uInt r1
    exact hQ _ _ _ _ _ _ S1 L1 ⟨some (i, t), rfl, rfl⟩ h1
theorem isPart_of {q : Option (Int × Tok)} : IsPart (partValue q) (q.map (·.1)) := by
  cases q with
  | none => exact .none
  | some p => exact .int _ _
noncomputable def pickIdx (n : Nat) (lo hi st : Option Int) : List Nat := sliceRange (sliceBounds lo hi st n).1 (sliceBounds lo hi st n).2.1 (sliceBounds lo hi st n).2.2
theorem RepL.pick {G : PM} {ts : List T} {vs : Array Value} (h : RepL G ts vs.toList) : ∀ idx : List Nat, RepL G (idx.filterMap (ts[·]?)) (idx.filterMap (vs[·]?))
  | [] => RepL.nil
  | i :: idx => by
    have ih := RepL.pick h idx
    cases e : vs[i]? with
    | none =>
      have e' : ts[i]? = none := by
        rw [List.getElem?_eq_none_iff, ← h.size]
        exact Array.getElem?_eq_none_iff.mp e
      simp only [List.filterMap_cons, e, e']; exact ih
    | some v =>
      obtain ⟨x, hx, rx⟩ := h.getA e
      simp only [List.filterMap_cons, e, hx]; exact .cons rx ih
theorem JV_SliceO {value : Expr} {lower upper step : Option Expr} {p pos : Pos}
    (h : JV B X A m own (eval value X.env) fun a m1 o1 => JPart B X A m1 o1 lower fun l m2 o2 => JPart B X A m2 o2 upper fun u m3 o3 => JPart B X A m3 o3 step fun st m4 o4 =>
      ∃ ts, (Lst o4 a ts) ∧ ts.length ≤ sizeLine ∧ st ≠ some 0 ∧ ∀ D, R (.own D) m4 ((D, .lst ((pickIdx ts.length l u st).filterMap (ts[·]?))) :: o4)) :
    JV B X A m own (eval (.Subscript value (.Slice lower upper step p) pos) X.env) R := by
  intro s G hS _ Q hQ
  refine PyProof.Rows.Subscript_ (h s G hS trivial _ fun v a m1 o1 G1 s1 S1 L1 r1 h1 => wpAny_Slice (J_part h1 s1 G1 S1 trivial _ fun vl l m2 o2 G2 s2 S2 L2 r2 h2 =>
    J_part h2 s2 G2 S2 trivial _ fun vu u m3 o3 G3 s3 S3 L3 r3 h3 => J_part h3 s3 G3 S3 trivial _ fun vs st m4 o4 G4 s4 S4 L4 r4 h4 => ?_))
  refine aside fun Cg hCg => ?_
  obtain ⟨ts, hl, hz, hst, hR⟩ := h4
  obtain ⟨ql, rfl, rfl⟩ := r2
  obtain ⟨qu, rfl, rfl⟩ := r3
  obtain ⟨qs, rfl, rfl⟩ := r4
  obtain ⟨b, us, rfl, hL, hr⟩ := hl.is S4 (r1.mono (L2.trans (L3.trans L4)))
  have S5 := S4.push (o := { cls := .type "slice", data := .fields #[partValue ql, partValue qu, partValue qs] }) (tk := s4.toks)
  obtain ⟨ops, he⟩ := subscripted_any (.Slice lower upper step p) (.ref b) (.ref s4.heap.objs.size)
  refine hCg ?_
  refine tail_any (hL.push _).typeIs slot_list_getitem.lookup (wpAny_getItem_list_slice (hL.push _) (Heap.IsSliceOf.new ..) isPart_of isPart_of isPart_of hst ?_ (by rw [hr.size]; exact hz)) he
  have S6 := S5.pushO (o := { cls := .type "list", data := .seq (slicePick us (ql.map (·.1)) (qu.map (·.1)) (qs.map (·.1))) })
    (x := .lst ((pickIdx ts.length (ql.map (·.1)) (qu.map (·.1)) (qs.map (·.1))).filterMap (ts[·]?))) (tk := s4.toks) rfl ⟨_, _, rfl, by
      unfold slicePick
      rw [hr.size]
      exact hr.pick _⟩
  exact hQ _ _ _ _ _ _ S6 (L1.trans (L2.trans (L3.trans L4))) rO (hR _)
end
end
noncomputable section
open SeqAt in
theorem eqAt_of_rc {A : Around} {s : Shared} {a c : Addr} {b : Bool} (h : RcAt A s (.ref a) (.ref c) b) (hid : a = c → b = true) : EqAt A s (.ref a) (.ref c) b := fun prog w E Q hq => by
  unfold eqBool
  refine wpAny_holding ?_
  refine wpAny_ite_split (fun hab => ?_) (fun _ => wpAny_bind (h prog w E _ (wpAny_truthy_bool hq)))
  rw [hid (Value.ref.inj (eq_of_beq hab))] at hq
  exact wpAny_bind (wpAny_rule (wpAny_pure hq))
mutual
noncomputable def teq : T → T → Bool
  | .int a, .int b => a == b
  | .tup xs, .tup ys => teqL xs ys
  | .lst xs, .lst ys => teqL xs ys
  | _, _ => false
noncomputable def teqL : List T → List T → Bool
  | [], [] => true
  | x :: xs, y :: ys => teq x y && teqL xs ys
  | _, _ => false
end
theorem teq_int (a b : Int) : teq (.int a) (.int b) = (a == b) := rfl
theorem teq_tup (a b : List T) : teq (.tup a) (.tup b) = teqL a b := rfl
theorem teq_lst (a b : List T) : teq (.lst a) (.lst b) = teqL a b := rfl
theorem teqL_nc (y : T) (ys : List T) : teqL [] (y :: ys) = false := rfl
theorem teqL_cn (y : T) (ys : List T) : teqL (y :: ys) [] = false := rfl
theorem teqL_cons (x y : T) (xs ys : List T) : teqL (x :: xs) (y :: ys) = (teq x y && teqL xs ys) := rfl
inductive Cmp : Nat → T → T → Prop
  | int {n : Nat} (a b : Int) : Cmp n (.int a) (.int b)
  | tup {n : Nat} {xs ys : List T} (h : ∀ (j : Nat) (x y : T), xs[j]? = some x → ys[j]? = some y → Cmp n x y) : Cmp (n + 1) (.tup xs) (.tup ys)
  | lst {n : Nat} {xs ys : List T} (h : ∀ (j : Nat) (x y : T), xs[j]? = some x → ys[j]? = some y → Cmp n x y) : Cmp (n + 1) (.lst xs) (.lst ys)
theorem teqL_all : ∀ {xs ys : List T}, teqL xs ys = ((List.range (min xs.length ys.length)).all (fun j => teq (xs.getD j .none) (ys.getD j .none)) && xs.length == ys.length)
  | [], [] => rfl
  | [], y :: ys => by simp [teqL_nc]
  | x :: xs, [] => by simp [teqL_cn]
  | x :: xs, y :: ys => by
    rw [teqL_cons, teqL_all]
    simp only [List.length_cons, Nat.add_min_add_right]
    rw [List.range_succ_eq_map, List.all_cons, List.all_map]
    simp [Function.comp_def, Bool.and_assoc]
theorem RepL.at {G : PM} {xs : List T} {vs : List Value} {j : Nat} {v : Value} (h : RepL G xs vs) (e : vs[j]? = some v) : ∃ x, xs[j]? = some x ∧ RepT G x v := by
  have hj : j < xs.length := h.length ▸ (List.getElem?_eq_some_iff.mp e).1
  obtain ⟨v', e', r⟩ := h.get (List.getElem?_eq_getElem hj)
  cases e.symm.trans e'
  exact ⟨_, List.getElem?_eq_getElem hj, r⟩
theorem RepL.two {M : Bool → Prop} {G : PM} {xs ys : List T} {vs us : List Value} {j : Nat} {v u : Value} (h : RepL G xs vs) (k : RepL G ys us) (e : vs[j]? = some v) (f : us[j]? = some u)
    (ih : ∀ x y, xs[j]? = some x → ys[j]? = some y → RepT G x v → RepT G y u → M (teq x y)) : M (teq (xs.getD j .none) (ys.getD j .none)) := by
  obtain ⟨x, hx, rx⟩ := h.at e
  obtain ⟨y, hy, ry⟩ := k.at f
  rw [List.getD_eq_getElem?_getD, List.getD_eq_getElem?_getD, hx, hy]
  exact ih x y hx hy rx ry
noncomputable def Row (G : PM) (xs : List T) (v : Value) (P : Obj → Prop) : Prop := ∃ a o vs n, v = .ref a ∧ G.ob a = some o ∧ P o ∧ o.data = .seq vs n ∧ RepL G xs vs.toList
theorem row_teq {G : PM} {xs ys : List T} {v : Value} {P : Obj → Prop} (h : Row G xs v P) (k : Row G ys v P) (ih : ∀ (j : Nat) (x y : T), xs[j]? = some x → ys[j]? = some y → ∀ {v : Value}, RepT G x v → RepT G y v → teq x y = true) : teqL xs ys = true := by
  obtain ⟨a, o, vs, n, rfl, e1, _, e3, e4⟩ := h
  obtain ⟨a', o', vs', n', e, f1, _, f3, f4⟩ := k
  cases e
  cases e1.symm.trans f1
  cases e3.symm.trans f3
  rw [teqL_all, ← e4.length, ← f4.length, beq_self_eq_true, Bool.and_true, List.all_eq_true]
  intro j hj
  have hj : j < vs.toList.length := by rw [List.mem_range, Nat.min_self] at hj; exact hj
  exact RepL.two (M := (· = true)) e4 f4 (List.getElem?_eq_getElem hj) (List.getElem?_eq_getElem hj) fun x y hx hy => ih j x y hx hy
theorem teq_refl_of {n : Nat} {x y : T} (h : Cmp n x y) {G : PM} : ∀ {v : Value}, RepT G x v → RepT G y v → teq x y = true := by
  induction h with
  | int a b =>
    rintro v ⟨t, rfl⟩ ⟨u, e⟩
    cases e; exact beq_self_eq_true _
  | tup _ ih => exact fun h1 h2 => row_teq h1 h2 ih
  | lst _ ih => exact fun h1 h2 => row_teq h1 h2 ih
open SeqAt in
noncomputable def Held (A : Around) (s : Shared) (v u : Value) (b : Bool) : Prop := RcAt A s v u b ∧ RcNeAt A s v u (!b) ∧ EqAt A s v u b
open SeqAt in
theorem rcT {G : PM} {s : Shared} (le : ∀ b o, G.ob b = some o → s.heap.get? b = some o) {n : Nat} {x y : T} (hc : Cmp n x y) : ∀ {v u : Value}, RepT G x v → RepT G y u → ∀ {A : Around}, A.units + n < cLine → Held A s v u (teq x y) := by
  induction hc with
  | int a b =>
    rintro v u ⟨t, rfl⟩ ⟨t', rfl⟩ A _
    exact ⟨RcAt.int_int a t b t', RcNeAt.int_int _ _ _ _, EqAt.int_int a t b t'⟩
  | @tup n xs ys hc ih =>
    intro v u h1 h2 A hA
    have hid := fun e : v = u => teq_refl_of (Cmp.tup hc) h1 (e ▸ h2)
    obtain ⟨a, o, vs, m, rfl, e1, e2, e3, e4⟩ := h1
    obtain ⟨a', o', vs', m', rfl, f1, f2, f3, f4⟩ := h2
    have hA1 : A.units + 1 + n < cLine := by rw [Nat.add_assoc, Nat.add_comm 1]; exact hA
    have el : ∀ (j : Nat) (q1 : j < vs.size) (q2 : j < vs'.size), EqAt A.in1 s (vs[j]) (vs'[j]) (teq (xs.getD j .none) (ys.getD j .none)) := fun j q1 q2 =>
      RepL.two (M := EqAt A.in1 s _ _) e4 f4 (List.getElem?_eq_getElem (l := vs.toList) (i := j) q1) (List.getElem?_eq_getElem (l := vs'.toList) (i := j) q2) fun x y hx hy r r' => (ih j x y hx hy r r' (A := A.in1) hA1).2.2
    have hu : A.units < cLine := Nat.lt_of_le_of_lt (Nat.le_add_right ..) hA
    have g1 : s.heap.IsTuple a vs := ⟨o, le _ _ e1, e2, m, e3⟩
    have g2 : s.heap.IsTuple a' vs' := ⟨o', le _ _ f1, f2, m', f3⟩
    rw [teq_tup] at hid ⊢
    rw [teqL_all, ← e4.length, ← f4.length] at hid ⊢
    have key := RcAt.tuples (A := A) (e := fun j => teq (xs.getD j .none) (ys.getD j .none)) g1 g2 hu el
    exact ⟨key, RcNeAt.tuples (A := A) (e := fun j => teq (xs.getD j .none) (ys.getD j .none)) g1 g2 hu el, eqAt_of_rc key fun e => hid (by rw [e])⟩
  | @lst n xs ys hc ih =>
    intro v u h1 h2 A hA
    have hid := fun e : v = u => teq_refl_of (Cmp.lst hc) h1 (e ▸ h2)
    obtain ⟨a, o, vs, m, rfl, e1, e2, e3, e4⟩ := h1
    obtain ⟨a', o', vs', m', rfl, f1, f2, f3, f4⟩ := h2
    have hA1 : A.units + 1 + n < cLine := by rw [Nat.add_assoc, Nat.add_comm 1]; exact hA
    have hu : A.units < cLine := Nat.lt_of_le_of_lt (Nat.le_add_right ..) hA
    have g1 : s.heap.IsList a vs := ⟨o, le _ _ e1, e2.1, m, e3⟩
    have g2 : s.heap.IsList a' vs' := ⟨o', le _ _ f1, f2.1, m', f3⟩
    rw [teq_lst] at hid ⊢
    rw [teqL_all, ← e4.length, ← f4.length] at hid ⊢
    by_cases hsz : vs.size = vs'.size
    · have el : ∀ (j : Nat) (q1 : j < vs.size) (q2 : j < vs'.size), EqAt A.in1 s (vs[j]) (vs'[j]) (teq (xs.getD j .none) (ys.getD j .none)) := fun j q1 q2 =>
        RepL.two (M := EqAt A.in1 s _ _) e4 f4 (List.getElem?_eq_getElem (l := vs.toList) (i := j) q1) (List.getElem?_eq_getElem (l := vs'.toList) (i := j) q2) fun x y hx hy r r' => (ih j x y hx hy r r' (A := A.in1) hA1).2.2
      have e : ((List.range (min vs.toList.length vs'.toList.length)).all (fun j => teq (xs.getD j .none) (ys.getD j .none)) && vs.toList.length == vs'.toList.length) = (List.range vs.size).all fun j => teq (xs.getD j .none) (ys.getD j .none) := by
        show ((List.range (min vs.size vs'.size)).all _ && vs.size == vs'.size) = _
        rw [← hsz, beq_self_eq_true, Bool.and_true, Nat.min_self]
      rw [e] at hid ⊢
      have key := RcAt.lists (A := A) (e := fun j => teq (xs.getD j .none) (ys.getD j .none)) g1 g2 hsz hu el
      exact ⟨key, RcNeAt.lists (A := A) (e := fun j => teq (xs.getD j .none) (ys.getD j .none)) g1 g2 hsz hu el, eqAt_of_rc key fun e => hid (by rw [e])⟩
    · have e : ((List.range (min vs.toList.length vs'.toList.length)).all (fun j => teq (xs.getD j .none) (ys.getD j .none)) && vs.toList.length == vs'.toList.length) = false := by
        rw [show (vs.toList.length == vs'.toList.length) = false from beq_false_of_ne hsz, Bool.and_false]
      rw [e] at hid ⊢
      have key := RcAt.lists_lengths (A := A) g1 g2 (bne_iff_ne.mpr hsz) hu
      exact ⟨key, RcNeAt.lists_lengths (A := A) g1 g2 (bne_iff_ne.mpr hsz) hu, eqAt_of_rc key fun e => hid (by rw [e])⟩
section
variable {B : Bs} {X : Act} {A : Around} {m : List S} {own : Own} {R : S → List S → Own → Prop}
theorem C_eqT {n : Nat} {x y : T} (hc : Cmp n x y) (hd : A.units + n < cLine) (h : R (.t (.bool (teq x y))) m own) : JCmp B X A .Eq (.t x) (.t y) m own R := by
  rintro v u s G hS ⟨h1, h2⟩ Q hQ
  exact (rcT hS.le hc (uT h1) (uT h2) hd).1 B.prog B.w NoE Q (hQ _ _ _ _ _ _ hS (Le.refl G) (rT tBool) h)
theorem C_neT {n : Nat} {x y : T} (hc : Cmp n x y) (hd : A.units + n < cLine) (h : R (.t (.bool (!(teq x y)))) m own) : JCmp B X A .NotEq (.t x) (.t y) m own R := by
  rintro v u s G hS ⟨h1, h2⟩ Q hQ
  exact (rcT hS.le hc (uT h1) (uT h2) hd).2.1 B.prog B.w NoE Q (hQ _ _ _ _ _ _ hS (Le.refl G) (rT tBool) h)
theorem C_isnot_bool {a b : Bool} (h : R (.t (.bool (!(a == b)))) m own) : JCmp B X A .IsNot (.t (.bool a)) (.t (.bool b)) m own R := by
  rintro v u s G hS ⟨h1, h2⟩ Q hQ
  obtain rfl := uBool h1; obtain rfl := uBool h2
  show wpAny _ _ (do return .bool (!(← isSame (.bool a) (.bool b)))) Q NoE s
  have e : isSame (.bool a) (.bool b) = pure (Value.bool a == Value.bool b) := by cases a <;> cases b <;> rfl
  rw [e]
  refine wpAny_bind (wpAny_pure (wpAny_pure (hQ _ _ _ _ _ _ hS (Le.refl G) (rT tBool) ?_)))
  rw [show (Value.bool a == Value.bool b) = (a == b) by cases a <;> cases b <;> rfl]
  exact h
end
end
noncomputable section
section
variable {B : Bs} {X : Act} {A : Around} {m : List S} {own : Own}
theorem reps_len {G : PM} {as : List S} {vs : List Value} (h : RepSs G as vs) : vs.length = as.length := by
  induction h with
  | nil => rfl
  | cons _ _ ih => simp [ih]
inductive ListIn (K : List T → List S → Own → Prop) (as : List S) (m1 : List S) (o1 : Own) : Prop
  | mk (ts : List T) (e : as = ts.map .t) (hz : ts.length ≤ sizeLine) (h : K ts m1 o1)
theorem JV_List {elts : List Expr} {pos : Pos} {R : S → List S → Own → Prop}
    (h : JL B X A m own (spliced (backTo pos (starEach elts X.env))) (ListIn fun ts m1 o1 => ∀ D, R (.own D) m1 ((D, .lst ts) :: o1))) : JV B X A m own (eval (.List elts pos) X.env) R := by
  intro s G hS _ Q hQ
  refine wpAny_List (h s G hS trivial _ fun vs as m1 o1 G1 s1 S1 L1 r1 h1 => ?_)
  obtain ⟨ts, rfl, hz, h1⟩ := h1
  have hr := reps_of r1
  refine ⟨by rw [hr.length]; exact hz, hQ _ _ _ _ _ _ (S1.pushO (x := .lst ts) (tk := s1.toks) rfl ⟨vs.toArray, _, rfl, by simpa using hr⟩) L1 rO (h1 _)⟩
theorem JV_Tuple {elts : List Expr} {k : Nat} {pos : Pos} {R : S → List S → Own → Prop}
    (h : JL B X A m own (spliced (backTo pos (starEach elts X.env))) (ListIn fun ts m1 o1 => R (.t (.tup ts)) m1 o1)) : JV B X A m own (eval (.Tuple elts k pos) X.env) R := by
  intro s G hS _ Q hQ
  refine wpAny_Tuple (h s G hS trivial _ fun vs as m1 o1 G1 s1 S1 L1 r1 h1 => ?_)
  obtain ⟨ts, rfl, hz, h1⟩ := h1
  have hr := reps_of r1
  obtain ⟨S2, L2⟩ := S1.pushG (o := { cls := .type "tuple", data := .seq vs.toArray }) (tk := s1.toks) rfl
  refine ⟨by rw [hr.length]; exact hz, hQ _ _ _ _ _ _ S2 (L1.trans L2) (rT (by exact ⟨_, _, _, _, rfl, put_self .., rfl, rfl, by simpa using hr.mono L2⟩)) h1⟩
theorem IsList.exact {h : Heap} {a : Addr} {vs : Array Value} (x : h.IsList a vs) : ∃ d sl n, h.get? a = some { cls := .type "list", dict := d, data := .seq vs n, slots := sl } := by
  refine aside fun Cg hCg => ?_
  obtain ⟨⟨c, d, da, sl⟩, ho, hc, n, hd⟩ := x
  refine hCg ?_
  simp only at hc hd
  subst hc hd
  exact ⟨d, sl, n, ho⟩
theorem B_addl {sa sb : S} {xs ys : List T} (ha : Lst own sa xs) (hb : Lst own sb ys) (hz : xs.length + ys.length ≤ sizeLine) {R : S → List S → Own → Prop} (h : ∀ D, R (.own D) m ((D, .lst (xs ++ ys)) :: own)) : JBin B X A .Add sa sb m own R := by
  intro v u s G hS hx5 Q hQ
  refine aside fun Cg hCg => ?_
  obtain ⟨h1, h2⟩ := hx5
  obtain ⟨a, us, rfl, hL, hR⟩ := ha.is hS h1
  obtain ⟨b, ws, rfl, hL', hR'⟩ := hb.is hS h2
  obtain ⟨dd, sl, n, ho⟩ := IsList.exact hL
  obtain ⟨dd2, sl2, n2, ho2⟩ := IsList.exact hL'
  refine hCg ?_
  refine concat_meets ⟨_, ho, rfl⟩ ⟨_, ho2, rfl⟩ noFill_list_add seq_list_add PySem.F.slot_list_add PySem.F.entry_list_add (PySem.F.args_list_add_2 _ _) (list_addW a b us ws n n2 dd dd2 sl sl2 (by rw [hR.size, hR'.size]; exact hz)) ⟨ho, ho2, ?_⟩
  exact hQ _ _ _ _ _ _ (hS.pushO (x := .lst (xs ++ ys)) (tk := s.toks) rfl ⟨_, _, rfl, by rw [Array.toList_append]; exact hR.append hR'⟩) (Le.refl G) rO (h _)
theorem foldl_app (items : Array Value) : ∀ (n : Nat) (acc : Array Value), (List.foldl (fun x1 x2 => x1 ++ x2) acc (List.replicate n items)).toList = acc.toList ++ (List.replicate n items.toList).flatten
  | 0, acc => by simp
  | n + 1, acc => by rw [List.replicate_succ, List.foldl_cons, foldl_app items n, List.replicate_succ, List.flatten_cons, Array.toList_append, List.append_assoc]
theorem RepL.rep {G : PM} {ts : List T} {vs : List Value} (h : RepL G ts vs) : ∀ n : Nat, RepL G (List.replicate n ts).flatten (List.replicate n vs).flatten
  | 0 => RepL.nil
  | n + 1 => by rw [List.replicate_succ, List.replicate_succ, List.flatten_cons, List.flatten_cons]; exact h.append (RepL.rep h n)
theorem B_mull {D : Addr} {xs : List T} {x : Int} (ha : (D, O.lst xs) ∈ own) (hne : xs ≠ []) (hlo : -(2 ^ 63 : Int) ≤ x) (hhi : x < 2 ^ 63) (hz : xs.length * x.toNat ≤ 2 ^ 24) {R : S → List S → Own → Prop}
    (h : ∀ D, R (.own D) m ((D, .lst (List.replicate x.toNat xs).flatten) :: own)) : JBin B X A .Mult (.own D) (.t (.int x)) m own R := by
  rintro v u s G hS ⟨h1, h2⟩ Q hQ
  obtain ⟨ob, e, ⟨us, n, rfl, hR⟩, _⟩ := hS.ow _ (List.mem_append_left _ ha)
  have : v = .ref D := Option.some.inj h1
  subst this
  obtain ⟨t, rfl⟩ := uInt h2
  have hs := hR.size
  have hne' : us.isEmpty = false := by
    cases h : us.isEmpty with
    | false => rfl
    | true =>
      rw [Array.isEmpty_iff] at h; subst h
      have : xs.length = 0 := by rw [← hs]; rfl
      exact absurd (List.length_eq_zero_iff.mp this) hne
  refine wpAny_binaryOp_repeat_ref (T := "list") (U := "int") (by decide) ⟨_, e, rfl⟩ (fun s' => typeIs_int s' x t) noFill_list_mul PySem.F.fills_int_mul PySem.F.slot_int_rmul repeat_list PySem.F.slot_int_index.lookup
    (call_meets PySem.F.slot_int_rmul (typeIs_int s x t) PySem.F.entry_int_rmul (PySem.F.args_int_rmul_2 _ _) (int___rmul___int_list x t D us n)
      ⟨e, rfl, ⟨_, e, rfl⟩, call_meets PySem.F.slot_list_mul ⟨_, e, rfl⟩ PySem.F.entry_list_mul (PySem.F.args_list_mul_2 _ _)
        (AutoListH.list___mul___list_int_3 D us n x t (by simp [Builtin.List.listFitsIndex]; lia) (by rw [hs]; lia) (by simp [Builtin.List.listTooLong, sizeLine]; rw [hs]; lia)) ⟨e, ?_⟩⟩)
  rw [hne']
  refine hQ _ _ _ _ _ _ (hS.pushO (x := .lst (List.replicate x.toNat xs).flatten) (tk := s.toks) rfl ⟨_, _, rfl, ?_⟩) (Le.refl G) rO (h _)
  simp only [Bool.false_eq_true, if_false]
  rw [foldl_app]
  simpa using hR.rep x.toNat
theorem B_muls {c : Nat} {x : Int} (hlo : -(2 ^ 20 : Int) ≤ x) (hhi : x < 2 ^ 20) {R : S → List S → Own → Prop} (h : R (.t (.str (List.replicate x.toNat c))) m own) : JBin B X A .Mult (.t (.str [c])) (.t (.int x)) m own R := by
  rintro v u s G hS ⟨h1, h2⟩ Q hQ
  obtain ⟨t, rfl⟩ := uStr h1
  obtain ⟨t', rfl⟩ := uInt h2
  refine tok_in (SB.mul (mulOk_of 1 1048576 (Nat.le_refl 1) (by lia) (by lia) (by decide) (by decide)) fun t k htm => ?_)
  refine hQ _ _ _ _ _ _ (hS.tok k) (Le.refl G) (rT ?_) h
  have e := mul_one_list c x
  rw [← e]; exact tStr'
theorem C_pop {a : Addr} {xs : List T} {y : T} {pre post : Own} (hy : xs.getLast? = some y) (hz : xs.length ≤ sizeLine) {R : S → List S → Own → Prop} (h : R (.t y) m (pre ++ (a, .lst xs.dropLast) :: post)) : JCall B X A (.builtin "list.pop") [.own a] m (pre ++ (a, .lst xs) :: post) R := by
  intro vs s G hS hrs Q hQ
  obtain ⟨v, rfl, hr⟩ := reps1 hrs
  obtain ⟨ob, e, ⟨us, n, rfl, hl⟩, _⟩ := hS.ow (a, .lst xs) (by simp)
  rw [show v = .ref a from Option.some.inj hr]
  rw [List.getLast?_eq_getElem?] at hy
  obtain ⟨x, hx, rx⟩ := hl.get hy
  have hs := hl.size
  refine Copied.pop_at (y := x) e (by rw [← Array.getElem?_toList, hs]; exact hx) (fun h' hs' e' => ?_) (by rw [hs]; exact hz)
  refine hQ _ _ _ _ _ _ (hS.turn (x' := .lst xs.dropLast) (tk := s.toks) hs' e' ⟨_, _, rfl, ?_⟩) (Le.refl G) (rT rx) h
  rw [Array.toList_pop]
  have d1 : us.toList.dropLast = us.toList.take xs.length.pred := by rw [List.dropLast_eq_take, hl.length]; rfl
  rw [d1, List.dropLast_eq_take]
  have tk : ∀ (k : Nat) {xs : List T} {vs : List Value}, RepL G xs vs → RepL G (xs.take k) (vs.take k) := by
    intro k
    induction k with
    | zero => intro xs vs _; simpa using RepL.nil
    | succ k ih =>
      intro xs vs hh
      cases xs with
      | nil => obtain rfl : _ = [] := hh; simpa using RepL.nil
      | cons x xs => obtain ⟨v, r, rfl, r1, r2⟩ := hh.uncons; exact .cons r1 (ih r2)
  exact tk _ hl
theorem RepL.rev {G : PM} : ∀ {xs : List T} {vs : List Value}, RepL G xs vs → RepL G xs.reverse vs.reverse
  | [], _, h => by obtain rfl : _ = [] := h; exact RepL.nil
  | x :: xs, _, h => by obtain ⟨v, r, rfl, r1, r2⟩ := h.uncons; rw [List.reverse_cons, List.reverse_cons]; exact r2.rev.snoc r1
theorem C_reverse {a : Addr} {xs : List T} {pre post : Own} (hz : xs.length ≤ sizeLine) {R : S → List S → Own → Prop} (h : R (.t .none) m (pre ++ (a, .lst xs.reverse) :: post)) : JCall B X A (.builtin "list.reverse") [.own a] m (pre ++ (a, .lst xs) :: post) R := by
  intro vs s G hS hrs Q hQ
  obtain ⟨v, rfl, hr⟩ := reps1 hrs
  obtain ⟨ob, e, ⟨us, n, rfl, hl⟩, _⟩ := hS.ow (a, .lst xs) (by simp)
  rw [show v = .ref a from Option.some.inj hr]
  refine call_meets PySem.F.slot_list_reverse ⟨_, e, rfl⟩ PySem.F.entry_list_reverse (PySem.F.args_list_reverse_1 _) (AutoSeq1.list_reverse_list_0 a us n (by rw [hl.size]; exact hz)) ⟨e, ?_⟩
  refine hQ _ _ _ _ _ _ (hS.turn (x' := .lst xs.reverse) (tk := s.toks) (ob' := { cls := .type "list", data := .seq us.toList.reverse.toArray n }) (Heap.SameBut.update ..) ?_ ⟨_, _, rfl, by simpa using hl.rev⟩) (Le.refl G) (rT tNone) h
  rw [Heap.get?_update_self _ e (by rw [mapSeq_reverse]; rfl), mapSeq_reverse]
theorem JF_AssignSub {o i value : Expr} {pos' pos : Pos} {R : Fl → List S → Own → Prop} (hs : swapsWith value (some (.Subscript o i pos')) pos.line X.env = pure false)
    (h : JV B X A m own (eval value X.env) fun z m1 o1 => JV B X A m1 o1 (eval o X.env) fun ov m2 o2 => JV B X A m2 o2 (eval i X.env) fun iv m3 o3 =>
      ∃ y a k xs pre post, z = .t y ∧ ov = .own a ∧ iv = .t (.int k) ∧ o3 = pre ++ (a, .lst xs) :: post ∧ 0 ≤ k ∧ k.toNat < xs.length ∧ xs.length ≤ sizeLine ∧ R .next m3 (pre ++ (a, .lst (xs.set k.toNat y)) :: post)) :
    JF B X A m own (exec (.Assign [.Subscript o i pos'] value pos) X.env) R := by
  intro s G hS _ Q hQ
  refine wpAny_Assign_Subscript (h s G hS trivial _ fun v z m1 o1 G1 s1 S1 L1 r1 h1 => h1 s1 G1 S1 trivial _ fun w ov m2 o2 G2 s2 S2 L2 r2 h2 => h2 s2 G2 S2 trivial _ fun u iv m3 o3 G3 s3 S3 L3 r3 h3 => ?_) hs
  refine aside fun Cg hCg => ?_
  obtain ⟨y, a, k, xs, pre, post, rfl, rfl, rfl, rfl, h0, hk, hz, hR⟩ := h3
  obtain ⟨t, rfl⟩ := uInt r3
  have hw : w = .ref a := Option.some.inj r2
  subst hw
  obtain ⟨ob, e, ⟨us, n, rfl, hl⟩, _⟩ := S3.ow (a, .lst xs) (by simp)
  refine hCg ?_
  have hsz := hl.size
  have hsl : sizeLine = 2 ^ 24 := rfl
  refine ki_setAt (n := n) e h0 (by lia) (by lia) ?_
  refine hQ _ _ _ _ _ _ (S3.turn (x' := .lst (xs.set k.toNat y)) (tk := s3.toks) (ob' := _) (Heap.SameBut.update ..) (Heap.get?_update_self _ e rfl) ⟨_, _, rfl, ?_⟩) (L1.trans (L2.trans L3)) rNext hR
  show RepL G3 (xs.set k.toNat y) (us.setIfInBounds k.toNat v).toList
  rw [Array.toList_setIfInBounds]
  exact hl.set ((uT r1).mono (L2.trans L3))
theorem repL_strs {G : PM} : ∀ {cs : List (List Nat)} {vs : List Value}, RepL G (cs.map .str) vs → ∃ l : List (Str × Tok), strValues l = vs ∧ l.map (·.1) = cs.map fun c => (⟨c.toArray⟩ : Str)
  | [], _, h => by obtain rfl : _ = [] := h; exact ⟨[], rfl, rfl⟩
  | c :: cs, _, h => by
    obtain ⟨v, r, rfl, r1, r2⟩ := RepL.uncons h
    obtain ⟨t, rfl⟩ := r1
    obtain ⟨l, rfl, e⟩ := repL_strs r2
    exact ⟨(⟨c.toArray⟩, t) :: l, rfl, by simp [e]⟩
end
end
noncomputable section
noncomputable def JA (B : Bs) (X : Act) (A : Around) (f : Value → Sem Unit) (sv : S) (m : List S) (own : Own) (R : List S → Own → Prop) : Prop :=
  ∀ v, J repU (fun G => RepS G sv (some v)) B X A m own (f v) (fun _ => R)
noncomputable def JAs (B : Bs) (X : Act) (A : Around) (fs : List (Value → Sem Unit)) (ts : List T) (m : List S) (own : Own) (R : List S → Own → Prop) : Prop :=
  ∀ vs, J repU (fun G => RepL G ts vs) B X A m own (assignInOrder fs vs) (fun _ => R)
section
variable {B : Bs} {X : Act} {A : Around} {m : List S} {own : Own}
abbrev Loc (X : Act) (x : Str) : Prop := X.env.kindOf x = some .local ∨ (X.env.kindOf x = some .cell ∧ ∀ c, X.env.cells.lookup x = some c → X.P c = none)
theorem JA_Name {x : Str} {p : Pos} {i : Nat} {sv : S} {R : List S → Own → Prop} (hk : X.env.scope.kind = .function) (hi : X.names[i]? = some x) (hl : Loc X x) (hm : i < m.length) (h : R (m.set i sv) own) :
    JA B X A (assign (.Name x p) X.env) sv m own R := by
  intro v s G hS hr Q hQ
  exact wpAny_assign_Name (store_any hS hk hi hl hm hr fun s' S' => hQ _ () _ _ _ _ S' (Le.refl G) trivial h)
theorem JA_bind {x : Str} {i : Nat} {sv : S} {R : List S → Own → Prop} (hk : X.env.scope.kind = .function) (hi : X.names[i]? = some x) (hl : Loc X x) (hm : i < m.length) (h : R (m.set i sv) own) :
    JA B X A (fun v => bindName X.env x v) sv m own R := by
  intro v s G hS hr Q hQ
  exact bindName_ (store_any hS hk hi hl hm hr fun s' S' => hQ _ () _ _ _ _ S' (Le.refl G) trivial h)
theorem JAs_nil {R : List S → Own → Prop} (h : R m own) : JAs B X A [] [] m own R := by
  intro vs s G hS hr Q hQ
  exact wpAny_pure (hQ _ () _ _ _ _ hS (Le.refl G) trivial h)
theorem JAs_cons {f : Value → Sem Unit} {fs : List (Value → Sem Unit)} {t : T} {ts : List T} {R : List S → Own → Prop} (h : JA B X A f (.t t) m own fun m1 o1 => JAs B X A fs ts m1 o1 R) : JAs B X A (f :: fs) (t :: ts) m own R := by
  intro vs s G hS hr Q hQ
  obtain ⟨v, r, rfl, r1, r2⟩ := hr.uncons
  show wpAny _ _ (do holding r (f v); assignInOrder fs r) _ _ _
  exact wpAny_bind (wpAny_holding (h v s G hS (rT r1) _ fun _ _ m1 o1 G1 s1 S1 L1 _ h1 => h1 r s1 G1 S1 (r2.mono L1) Q fun a b m2 o2 G2 s2 S2 L2 r h2 => hQ a b m2 o2 G2 s2 S2 (L1.trans L2) r h2))
theorem tup_is {s : Shared} {G : PM} {ts : List T} {v : Value} (le : ∀ b o, G.ob b = some o → s.heap.get? b = some o) (h : RepT G (.tup ts) v) : ∃ a vs, v = .ref a ∧ s.heap.IsTuple a vs ∧ RepL G ts vs.toList := by
  refine aside fun Cg hCg => ?_
  obtain ⟨a, o, vs, n, rfl, e1, e2, e3, e4⟩ := h
  refine hCg ?_
  exact ⟨a, vs, rfl, ⟨o, le _ _ e1, e2, n, e3⟩, e4⟩
theorem JA_Tuple {elts : List Expr} {k : Nat} {pos : Pos} {ts : List T} {R : List S → Own → Prop} (hh : A.handled = none) (hn : (assignEach elts X.env).length = ts.length) (hstar : (assignEach elts X.env).findIdx? (·.1) = none)
    (h : JAs B X A ((assignEach elts X.env).map (·.2)) ts m own R) : JA B X A (assign (.Tuple elts k pos) X.env) (.t (.tup ts)) m own R := by
  intro v s G hS hr Q hQ
  obtain ⟨a, vs, rfl, hT, hR⟩ := tup_is hS.le (uT hr)
  refine wpAny_assign_Tuple hh hT (by rw [hn, hR.size]) hstar fun h' he => ?_
  have up : ∀ b o, s.heap.get? b = some o → h'.get? b = some o := fun b o e => he b o (Nat.ne_of_lt (Heap.lt_size e)) e
  have S1 := hS.grow (tk := s.toks) up (Le.refl G) (fun b o e => up b o (hS.le b o e)) (fun _ _ _ e => e) hS.hi
  exact h vs.toList _ G S1 hR Q hQ
theorem JF_AssignTup {elts : List Expr} {k : Nat} {tpos pos : Pos} {value : Expr} {R : Fl → List S → Own → Prop}
    (hs : swapsWithSole [.Tuple elts k tpos] value pos.line X.env = pure false) (hw : swappedStores [.Tuple elts k tpos] value X.env = pure none)
    (h : JV B X A m own (eval value X.env) fun sv m1 o1 => JA B X A (assign (.Tuple elts k tpos) X.env) sv m1 o1 (R .next)) : JF B X A m own (exec (.Assign [.Tuple elts k tpos] value pos) X.env) R := by
  intro s G hS _ Q hQ
  refine Assign_Tuple (h s G hS trivial _ fun v sv m1 o1 G1 s1 S1 L1 r1 h1 => ?_) hs hw
  exact h1 v s1 G1 S1 r1 _ fun _ _ m2 o2 G2 s2 S2 L2 _ h2 => hQ _ _ _ _ _ _ S2 (L1.trans L2) rNext h2
theorem JF_AssignSwap {elts : List Expr} {k : Nat} {tpos pos : Pos} {value : Expr} {names : List Str} {R : Fl → List S → Own → Prop} (hh : A.handled = none)
    (hs : swapsWithSole [.Tuple elts k tpos] value pos.line X.env = pure false) (hw : swappedStores [.Tuple elts k tpos] value X.env = pure (some names))
    (h : JV B X A m own (eval value X.env) fun sv m1 o1 => ∃ ts : List T, sv = .t (.tup ts) ∧ ts.length = names.length ∧ JAs B X A (names.reverse.map fun n => bindName X.env n) ts.reverse m1 o1 (R .next)) : JF B X A m own (exec (.Assign [.Tuple elts k tpos] value pos) X.env) R := by
  intro s G hS _ Q hQ
  refine Assign_Tuple_swapped (names := names) (h s G hS trivial _ fun v sv m1 o1 G1 s1 S1 L1 r1 h1 => ?_) hs hw
  refine aside fun Cg hCg => ?_
  obtain ⟨ts, rfl, hn, h1⟩ := h1
  obtain ⟨a, vs, rfl, hT, hR⟩ := tup_is S1.le (uT r1)
  refine hCg ?_
  rw [show names.length = vs.size by rw [hR.size, hn]]
  refine wpAny_unpackItems_tuple hh hT fun h' he => ?_
  have up : ∀ b o, s1.heap.get? b = some o → h'.get? b = some o := fun b o e => he b o (Nat.ne_of_lt (Heap.lt_size e)) e
  have S2 := S1.grow (tk := s1.toks) up (Le.refl G1) (fun b o e => up b o (S1.le b o e)) (fun _ _ _ e => e) S1.hi
  exact h1 _ _ G1 S2 hR.rev _ fun _ _ m2 o2 G2 s2 S2 L2 _ h2 => hQ _ _ _ _ _ _ S2 (L1.trans L2) rNext h2
theorem JF_Assign3 {t₁ t₂ t₃ value : Expr} {pos : Pos} {R : Fl → List S → Own → Prop}
    (he : (assignEach [t₁, t₂, t₃] X.env).map (·.2) = [assign t₁ X.env, assign t₂ X.env, assign t₃ X.env]) (hw : swappedStores [t₁, t₂, t₃] value X.env = pure none)
    (h : JV B X A m own (eval value X.env) fun sv m1 o1 => ∃ y, sv = .t y ∧ JA B X A (assign t₁ X.env) (.t y) m1 o1 fun m2 o2 => JA B X A (assign t₂ X.env) (.t y) m2 o2 fun m3 o3 => JA B X A (assign t₃ X.env) (.t y) m3 o3 (R .next)) :
    JF B X A m own (exec (.Assign [t₁, t₂, t₃] value pos) X.env) R := by
  intro s G hS _ Q hQ
  refine wpAny_Assign_three (h s G hS trivial _ fun v sv m1 o1 G1 s1 S1 L1 r1 h1 => ?_) he hw
  obtain ⟨y, rfl, h1⟩ := h1
  exact h1 v s1 G1 S1 r1 _ fun _ _ m2 o2 G2 s2 S2 L2 _ h2 => h2 v s2 G2 S2 (r1.mono L2) _ fun _ _ m3 o3 G3 s3 S3 L3 _ h3 => h3 v s3 G3 S3 (r1.mono (L2.trans L3)) _ fun _ _ m4 o4 G4 s4 S4 L4 _ h4 =>
    hQ _ _ _ _ _ _ S4 (L1.trans (L2.trans (L3.trans L4))) rNext h4
theorem JF_Expr {e : Expr} {pos : Pos} {R : Fl → List S → Own → Prop} (hi : interactive X.env = false) (hs : swapsWith e none pos.line X.env = pure false)
    (h : JV B X A m own (eval e X.env) fun sv m1 o1 => sv = .t .none ∧ R .next m1 o1) : JF B X A m own (exec (.Expr e pos) X.env) R := by
  intro s G hS _ Q hQ
  refine wpAny_Expr (h s G hS trivial _ fun v sv m1 o1 G1 s1 S1 L1 r1 h1 => ?_) hi hs
  obtain ⟨rfl, h1⟩ := h1
  have r1 := uT r1
  subst r1
  exact hQ _ _ _ _ _ _ S1 L1 rNext h1
theorem JV_And2 {x y : Expr} {pos : Pos} {R : S → List S → Own → Prop} (h : JV B X A m own (eval x X.env) fun sv m1 o1 => JTru B X A sv m1 o1 fun b m2 o2 => if b = true then JV B X A m2 o2 (eval y X.env) R else R sv m2 o2) :
    JV B X A m own (eval (.BoolOp .And [x, y] pos) X.env) R := by
  intro s G hS _ Q hQ
  refine wpAny_And2 (h s G hS trivial _ fun v sv m1 o1 G1 s1 S1 L1 r1 h1 => h1 v s1 G1 S1 r1 _ fun b b' m2 o2 G2 s2 S2 L2 r2 h2 => ?_)
  rw [show b = b' from r2]
  cases b' with
  | true => exact h2 s2 G2 S2 trivial Q fun a b m3 o3 G3 s3 S3 L3 r3 h3 => hQ a b m3 o3 G3 s3 S3 (L1.trans (L2.trans L3)) r3 h3
  | false => exact hQ _ _ _ _ _ _ S2 (L1.trans L2) (r1.mono L2) h2
theorem JF_While {test : Expr} {body : List Stmt} {pos : Pos} {R : Fl → List S → Own → Prop} (I : Nat → List S → Own → Prop) (n : Nat) (h0 : I n m own)
    (turn : ∀ n m1 o1, I n m1 o1 → JB B X A m1 o1 (isTrue test X.env (eval test X.env)) fun b m2 o2 => if b = true then JF B X A m2 o2 (execs body X.env) (turnPost (fun m3 o3 => ∃ k, k < n ∧ I k m3 o3) R) else R .next m2 o2) :
    JF B X A m own (exec (.While test body [] pos) X.env) R := by
  intro s G hS _ Q hQ
  refine wpAny_While (codeAny_whileLoop (fun n s' => ∃ m' o' G', St B X m' o' G' s' ∧ Le G G' ∧ I n m' o') ?_ n ⟨m, own, G, hS, Le.refl G, h0⟩)
  intro n s1 hx2
  refine aside fun Cg hCg => ?_
  obtain ⟨m1, o1, G1, S1, L1, hI⟩ := hx2
  refine hCg ?_
  refine noe (turn n m1 o1 hI s1 G1 S1 trivial _ fun b b' m2 o2 G2 s2 S2 L2 r2 h2 => ?_)
  rw [show b = b' from r2]
  cases b' with
  | false => exact noe (wpAny_execs_nil (hQ _ _ _ _ _ _ S2 (L1.trans L2) rNext h2))
  | true =>
    refine noe (h2 s2 G2 S2 trivial _ fun f fa m3 o3 G3 s3 S3 L3 r3 h3 => ?_)
    cases fa with
    | next => rw [show f = .next from r3]; obtain ⟨k, hk, hI'⟩ := h3; exact ⟨k, hk, m3, o3, G3, S3, L1.trans (L2.trans L3), hI'⟩
    | cont => rw [show f = .cont from r3]; obtain ⟨k, hk, hI'⟩ := h3; exact ⟨k, hk, m3, o3, G3, S3, L1.trans (L2.trans L3), hI'⟩
    | brk => rw [show f = .brk from r3]; exact hQ _ _ _ _ _ _ S3 (L1.trans (L2.trans L3)) rNext h3
    | ret sv => obtain ⟨u, e, r⟩ := r3; rw [e]; exact hQ _ _ _ _ _ _ S3 (L1.trans (L2.trans L3)) (rRet r) h3
noncomputable def SrcT (B : Bs) (X : Act) (A : Around) (own : Own) (G : PM) (s : Shared) (v : Value) (ts : List T) : Prop :=
  ∀ Q : Value → Shared → Prop, (∀ I fp P W h' tk, Wk B A I fp ts.length P W → W 0 h' → (∀ b o, b ≠ I → s.heap.get? b = some o → h'.get? b = some o) → Hid B X G own I → (∀ i h, W i h → ∃ ob, h.get? I = some ob) →
    (∀ b ∈ fp, b = I ∨ ∃ o, G.ob b = some o) → (∀ i v, i < ts.length → P i v → ∃ x, ts[i]? = some x ∧ RepT G x v) →
    (∀ i (s : Shared) T elts k pos Q E, W i s.heap → Q () s → wpAny (model B.prog B.w) A (letOwnedTupleGo (.Tuple elts k pos) (.ref I) (.ref T)) Q E s) → s.toks ≤ tk → Q (.ref I) { s with heap := h', toks := tk }) → wpAny (model B.prog B.w) A (pyIter v) Q NoE s
theorem srcT_lst {ts : List T} (hh : A.handled = none) : ∀ s G v, St B X m own G s → RepS G (.t (.lst ts)) (some v) → SrcT B X A own G s v ts := by
  intro s G v S hr Q hQ
  have hr := uT hr
  obtain ⟨a, o, vs, n, rfl, hG, ⟨hc, hdn⟩, hd, hl⟩ := hr
  have hL : s.heap.IsList a vs := ⟨o, S.le _ _ hG, hc, n, hd⟩
  have hne : a ≠ s.heap.objs.size := Nat.ne_of_lt (Heap.lt_size (S.le _ _ hG))
  refine wpAny_pyIter_list hL ?_
  have W := Walks.list (prog := B.prog) (w := B.w) hh s.heap.objs.size a hne vs
  rw [hl.size] at W
  exact hQ _ _ _ _ _ s.toks (.of W) ⟨⟨_, Heap.get?_push_size _ rfl, rfl, rfl⟩, hL.push _⟩ (fun b o _ e => Heap.get?_push_of_some _ e) (S.hid (get_size _)) (fun i h ⟨⟨o, ho, _⟩, _⟩ => ⟨o, ho⟩)
    (fun b hb => by
      rcases List.mem_cons.mp hb with rfl | hb
      · exact .inl rfl
      · rw [List.mem_singleton.mp hb]; exact .inr ⟨o, hG⟩) (fun i v _ e => hl.getA e) (fun i s T elts k pos Q E st q => wpAny_letOwnedTupleGo_listiter st.1 q) (Nat.le_refl _)
inductive LInv (B : Bs) (X : Act) (G1 : PM) (N : Nat) (I : Nat → List S → Own → Prop) (W : Nat → Heap → Prop) (d e : Addr) : Nat → Shared → Prop
  | mk {j n : Nat} {m2 : List S} {o2 : Own} {G2 : PM} {s : Shared} (hn : n = N + 1 - j) (hj : j ≤ N) (S2 : St B X m2 o2 G2 s) (L2 : Le G1 G2) (hI : I j m2 o2) (hw : W j s.heap) (hd : Hid B X G2 o2 d) (he : Hid B X G2 o2 e) : LInv B X G1 N I W d e n s
theorem loop_go {target : Expr} {body orelse : List Stmt} {R : Fl → List S → Own → Prop} {ts : List T} {I : Nat → List S → Own → Prop} {G1 : PM} {s1 : Shared} {m1 : List S} {o1 : Own} {d : Addr} {fp : List Addr} {P : Nat → Value → Prop} {W : Nat → Heap → Prop} {RR : Result → Shared → Prop}
    (S1 : St B X m1 o1 G1 s1) (wk : Wk B A d fp ts.length P W) (st0 : W 0 s1.heap) (hid : Hid B X G1 o1 d) (alive : ∀ i h, W i h → ∃ ob, h.get? d = some ob) (hfp : ∀ b ∈ fp, b = d ∨ ∃ o, G1.ob b = some o)
    (hP : ∀ i v, i < ts.length → P i v → ∃ x, ts[i]? = some x ∧ RepT G1 x v)
    (hgo : ∀ i (s : Shared) v Q E, W (i + 1) s.heap → i < ts.length → P i v → (∀ b o, G1.ob b = some o → s.heap.get? b = some o) → Q () s → wpAny (model B.prog B.w) A (letOwnedTupleGo target (.ref d) v) Q E s) (hI0 : I 0 m1 o1)
    (turn : ∀ P, (∀ x c, X.env.cells.lookup x = some c → P c = X.P c) → ∀ j y m2 o2, ts[j]? = some y → I j m2 o2 → JA B (X.at P) A (assign target X.env) (.t y) m2 o2 fun m3 o3 => JF B (X.at P) A m3 o3 (execs body X.env) (turnPost (I (j + 1)) R))
    (done : ∀ m2 o2, I ts.length m2 o2 → JF B X A m2 o2 (execs orelse X.env) R)
    (hQ : ∀ f fa m' o' G' s', St B X m' o' G' s' → Le G1 G' → RepF G' fa f → R fa m' o' → RR (.ok f) s') : codeAny (model B.prog B.w) A (.forLoop target (.ref d) body orelse X.env) RR s1 := by
  refine forLoopN (LInv B X G1 ts.length I W d d) (fun n s2 hx => ?_) (ts.length + 1) (.mk rfl (Nat.zero_le _) S1 (Le.refl _) hI0 st0 hid hid)
  cases hx with
  | @mk j _ m2 o2 G2 _ hn hj S2 L2 hI hw hd _ =>
  by_cases hlt : j < ts.length
  · refine tok_in (wk.item j s2 _ _ hlt hw (Nat.le_trans S2.lo S2.hi) fun y h2 tk2 hy hw2 up2 hm2 => ?_)
    obtain ⟨z, hz, rz⟩ := hP j y hlt hy
    obtain ⟨ob, hob⟩ := alive _ _ hw2
    have S2' := S2.hidden (h' := h2) (tk := tk2) (fun b o hb e => up2 b o (fun q => hb (List.mem_singleton.mp q)) e) hd.1 hd.2.1 hd.2.2.1 hd.2.2.2.1 hd.2.2.2.2
    refine hgo j _ y _ _ hw2 hlt hy (fun b o e => S2'.le b o (L2.up b o e)) (turn (AM.put X.P d ob) (fun x c e => if_neg (hd.2.2.2.1 x c e)) j z m2 o2 hz hI y _ G2 (S2'.hide hd hob) (rT (rz.mono L2)) _ fun _ _ m3 o3 G3 s3 S3 L3 _ hb => hb s3 G3 S3 trivial _ fun f fa m4 o4 G4 s4 S4h L4' r4 h4 => ?_)
    have L4 := L3.trans L4'
    obtain ⟨S4, hd4, ho4⟩ := S4h.unhide hd.2.1 (S2.g0none hd.1) hd.2.2.1 hd.2.2.2.1
    refine lo_end r4 h4 (fun hI4 => ⟨_, lo_lt hn hlt, .mk rfl hlt S4 (L2.trans L4) hI4 (wk.frame _ _ _ hw2 fun b hb o e => ?_) hd4 hd4⟩) fun f fa r h => hQ _ _ _ _ _ _ S4 (L2.trans L4) r h
    rcases hfp b hb with rfl | ⟨o', ho'⟩
    · rw [hob] at e; cases e; exact ho4
    · rw [show h2.get? b = some o' from S2'.le b o' (L2.up b o' ho')] at e; cases e
      exact S4.le b o (L4.up b o (L2.up b o ho'))
  · have hje : j = ts.length := by lia
    subst hje
    refine tok_in (wk.done s2 _ _ hw fun h2 tk2 up2 hm2 => ?_)
    exact done m2 o2 hI _ G2 (S2.hidden (h' := h2) (tk := tk2) (fun b o hb e => up2 b o (fun q => hb (List.mem_singleton.mp q)) e) hd.1 hd.2.1 hd.2.2.1 hd.2.2.2.1 hd.2.2.2.2) trivial _ fun f fa m4 o4 G4 s4 S4 L4 r4 h4 => hQ _ _ _ _ _ _ S4 (L2.trans L4) r4 h4
theorem JF_ForT {elts : List Expr} {tk' : Nat} {px pos : Pos} {iter : Expr} {body orelse : List Stmt} {R : Fl → List S → Own → Prop}
    (hs : ∀ x, foldedSetIterable iter X.env x = pure x)
    (h : JV B X A m own (eval iter X.env) fun xs m1 o1 => ∃ (tss : List (List T)) (I : Nat → List S → Own → Prop), (∀ s G v, St B X m1 o1 G s → RepS G xs (some v) → SrcT B X A o1 G s v (tss.map .tup)) ∧ I 0 m1 o1 ∧
      (∀ P j y m2 o2, tss[j]? = some y → I j m2 o2 → JA B (X.at P) A (assign (.Tuple elts tk' px) X.env) (.t (.tup y)) m2 o2 fun m3 o3 => JF B (X.at P) A m3 o3 (execs body X.env) (turnPost (I (j + 1)) R)) ∧
      (∀ m2 o2, I tss.length m2 o2 → JF B X A m2 o2 (execs orelse X.env) R)) :
    JF B X A m own (exec (.For (.Tuple elts tk' px) iter body orelse pos) X.env) R := by
  intro s G hS _ Q hQ
  refine wpAny_For (h s G hS trivial _ fun v xs m1 o1 G1 s1 S1 L1 r1 h1 => ?_) hs
  obtain ⟨tss, I, hsrc, hI0, turn, done⟩ := h1
  refine hsrc s1 G1 v S1 r1 _ fun d fp P W h' tk wk st0 up hid alive hfp hP hgo htk => ?_
  have pick : ∀ j z, (tss.map T.tup)[j]? = some z → ∃ y, tss[j]? = some y ∧ z = T.tup y := fun j z e => by
    rw [List.getElem?_map] at e
    obtain ⟨y, hy, e⟩ := Option.map_eq_some_iff.mp e
    exact ⟨y, hy, e.symm⟩
  refine loop_go (S1.hidden (h' := h') (tk := tk) up hid.1 hid.2.1 hid.2.2.1 hid.2.2.2.1 hid.2.2.2.2) wk st0 hid alive hfp hP (fun i s v Q E hw hi hv le q => ?_) hI0 (fun P _ j z m2 o2 hz hI => ?_) (fun m2 o2 hI => done m2 o2 (List.length_map T.tup ▸ hI))
    fun f fa m' o' G' s' S' L' r' hR => hQ _ _ _ _ _ _ S' (L1.trans L') r' hR
  · obtain ⟨z, hz, rz⟩ := hP i v hi hv
    obtain ⟨y, _, rfl⟩ := pick i z hz
    obtain ⟨ta, _, rfl, _⟩ := tup_is le rz
    exact hgo (i + 1) _ ta _ _ _ _ _ hw q
  · obtain ⟨y, hy, rfl⟩ := pick j z hz
    exact turn P j y m2 o2 hy hI
inductive ForOk (B : Bs) (X : Act) (A : Around) (k : Nat) (body orelse : List Stmt) (R : Fl → List S → Own → Prop) (xs : S) (m1 : List S) (o1 : Own) : Prop
  | mk (ts : List T) (I : Nat → List S → Own → Prop) (src : ∀ s G v, St B X m1 o1 G s → RepS G xs (some v) → Src B X A o1 G s v ts) (i0 : I 0 m1 o1)
      (turn : ∀ P j y m2 o2, ts[j]? = some y → I j m2 o2 → k < m2.length ∧ JF B (X.at P) A (m2.set k (.t y)) o2 (execs body X.env) (turnPost (I (j + 1)) R))
      (done : ∀ m2 o2, I ts.length m2 o2 → JF B X A m2 o2 (execs orelse X.env) R)
theorem JF_ForN {x : Str} {px pos : Pos} {iter : Expr} {body orelse : List Stmt} {k : Nat} {R : Fl → List S → Own → Prop} (hk : X.env.scope.kind = .function) (hi : X.names[k]? = some x)
    (hl : Loc X x)
    (hs : ∀ x, foldedSetIterable iter X.env x = pure x)
    (h : JV B X A m own (eval iter X.env) (ForOk B X A k body orelse R)) :
    JF B X A m own (exec (.For (.Name x px) iter body orelse pos) X.env) R := by
  intro s G hS _ Q hQ
  refine wpAny_For (h s G hS trivial _ fun v xs m1 o1 G1 s1 S1 L1 r1 h1 => ?_) hs
  obtain ⟨ts, I, hsrc, hI0, turn, done⟩ := h1
  refine hsrc s1 G1 v S1 r1 _ fun d fp P W h' tk wk st0 up hid alive hfp hP htk => ?_
  exact loop_go (S1.hidden (h' := h') (tk := tk) up hid.1 hid.2.1 hid.2.2.1 hid.2.2.2.1 hid.2.2.2.2) wk st0 hid alive hfp hP (fun _ _ _ _ _ _ _ _ _ q => wpAny_pure q) hI0
    (fun P hc j y m2 o2 hy hI => JA_Name hk hi (hl.imp id fun q => ⟨q.1, fun c e => (hc x c e).trans (q.2 c e)⟩) (turn P j y m2 o2 hy hI).1 (turn P j y m2 o2 hy hI).2) done
    fun f fa m' o' G' s' S' L' r' hR => hQ _ _ _ _ _ _ S' (L1.trans L') r' hR
theorem JF_For {x : Str} {px pos : Pos} {iter : Expr} {body orelse : List Stmt} {k : Nat} {R : Fl → List S → Own → Prop} (hk : X.env.scope.kind = .function) (hi : X.names[k]? = some x)
    (hl : X.env.kindOf x = some .local)
    (hs : ∀ x, foldedSetIterable iter X.env x = pure x)
    (h : JV B X A m own (eval iter X.env) (ForOk B X A k body orelse R)) :
    JF B X A m own (exec (.For (.Name x px) iter body orelse pos) X.env) R := JF_ForN hk hi (.inl hl) hs h
theorem glued_nil (p : Str) : ∀ (ps : List Str) (acc : Array Nat), (ps.foldl (fun acc p => acc ++ (⟨#[]⟩ : Str).cps ++ p.cps) acc).toList = acc.toList ++ (ps.map (·.cps.toList)).flatten
  | [], acc => by simp
  | q :: ps, acc => by rw [List.foldl_cons, glued_nil p ps]; simp
theorem join_flat (ts : List Str) : Txt.join ⟨#[]⟩ ts = ⟨((ts.map (·.cps.toList)).flatten).toArray⟩ := by
  unfold Txt.join Builtin.Str.glued
  cases ts with
  | nil => rfl
  | cons t ts =>
    congr 1
    apply Array.toList_inj.mp
    rw [List.drop_one, List.tail_cons, glued_nil t]
    simp
theorem joinOk_flat (ts : List Str) (h : (ts.map (·.length)).sum ≤ sizeLine) : JoinOk ⟨#[]⟩ ts = true := by
  unfold JoinOk
  have e : ∀ (ts : List Str) (a : Nat), ts.foldl (fun x1 x2 => x1 + x2.length + (⟨#[]⟩ : Str).length) a = a + (ts.map (·.length)).sum := by
    intro ts
    induction ts with
    | nil => intro a; simp
    | cons t ts ih => intro a; rw [List.foldl_cons, ih]; simp [Str.length]; lia
  have e' := e ts 0
  rw [List.foldl_toArray, e']
  simp only [Builtin.Str.tooLong, Bool.not_eq_true']
  exact decide_eq_false (by lia)
theorem C_join {sv : S} {cs : List (List Nat)} (hl : Lst own sv (cs.map .str)) (hz : (cs.map (·.length)).sum ≤ sizeLine) {R : S → List S → Own → Prop} (h : R (.t (.str cs.flatten)) m own) : JCall B X A (.builtin "str.join") [.t (.str []), sv] m own R := by
  intro vs s G hS hrs Q hQ
  obtain ⟨v, u, rfl, hr, hr'⟩ := reps2 hrs
  obtain ⟨t, rfl⟩ := uStr hr
  obtain ⟨a, us, rfl, hL, hR⟩ := hl.is hS hr'
  obtain ⟨l, e1, e2⟩ := repL_strs hR
  refine tok_in (SC.join (l := l) (texts := cs.map fun c => (⟨c.toArray⟩ : Str)) (by rw [e1]; simpa using hL) e2 (joinOk_flat _ ?_) fun t k htm => ?_)
  · rw [List.map_map]; simpa [Function.comp_def, Str.length] using hz
  · refine hQ _ _ _ _ _ _ (hS.tok k) (Le.refl G) (rT ?_) h
    rw [show (#[] : Array Nat) = ([] : List Nat).toArray from rfl, show (⟨([] : List Nat).toArray⟩ : Str) = ⟨#[]⟩ from rfl, join_flat, List.map_map]
    simp only [Function.comp_def, List.map_id']
    exact tStr
theorem cnt_count (c : Nat) : ∀ l : List Nat, cnt c l = (l.count c : Nat)
  | [] => rfl
  | n :: r => by
    rw [cnt_cons, cnt_count c r, List.count_cons]
    by_cases h : n = c
    · subst h; simp; lia
    · simp [h]
theorem C_count {w : List Nat} {c : Nat} {R : S → List S → Own → Prop} (h : R (.t (.int (w.count c : Nat))) m own) : JCall B X A (.builtin "str.count") [.t (.str w), .t (.str [c])] m own R := by
  intro vs s G hS hrs Q hQ
  obtain ⟨v, u, rfl, hr, hr'⟩ := reps2 hrs
  obtain ⟨t, rfl⟩ := uStr hr
  obtain ⟨t', rfl⟩ := uStr hr'
  refine SC.count (hQ _ _ _ _ _ _ (hS.tok _) (Le.refl G) (rT ?_) h)
  rw [show (⟨[c].toArray⟩ : Str) = ⟨#[c]⟩ from rfl, count_is, ← cnt_count c w]
  exact tInt
theorem JV_SliceFrom {value lower : Expr} {p pos : Pos} {R : S → List S → Own → Prop}
    (h : JV B X A m own (eval value X.env) fun a m1 o1 => JV B X A m1 o1 (eval lower X.env) fun b m2 o2 => ∃ w i, a = .t (.str w) ∧ b = .t (.int i) ∧ 0 ≤ i ∧ i ≤ w.length ∧ w.length ≤ sizeLine ∧ R (.t (.str (w.drop i.toNat))) m2 o2) :
    JV B X A m own (eval (.Subscript value (.Slice (some lower) none none p) pos) X.env) R := by
  intro s G hS _ Q hQ
  refine PyProof.Rows.Subscript_ (h s G hS trivial _ fun v a m1 o1 G1 s1 S1 L1 r1 h1 => wpAny_Slice (evalPart_some_step (h1 s1 G1 S1 trivial _ fun u b m2 o2 G2 s2 S2 L2 r2 h2 => evalPart_none_step (evalPart_none_step ?_))))
  obtain ⟨w, i, rfl, rfl, h0, hi, hz, hR⟩ := h2
  obtain ⟨t, rfl⟩ := uStr r1
  obtain ⟨t', rfl⟩ := uInt r2
  have S3 := S2.push (o := { cls := .type "slice", data := .fields #[.int i t', .none, .none] }) (tk := s2.toks)
  obtain ⟨ops, he⟩ := subscripted_any (.Slice (some lower) none none p) (.str ⟨w.toArray⟩ t) (.ref s2.heap.objs.size)
  refine tok_in (tail_any (typeIs_str _ _ _) PyProof.Rows.slot_str_getitem.lookup (wpAny_getItem_str_slice (l := some (i, t')) (u := none) (st := none) ⟨_, Heap.get?_push_size _ rfl, rfl, rfl⟩ rfl
    (post_val_or_str ⟨Nat.le_trans (Txt.slice_le _ (some i) none) (by simpa [Str.length] using hz), fun t'' k htm => hQ _ _ _ _ _ _ (S3.tok k) (L1.trans L2) (rT ?_) hR⟩)) he)
  have e := StrLaws.sliceText_from (x := ⟨w.toArray⟩) (i := i) ⟨h0, by simpa using hi⟩
  unfold StrLaws.sliceText at e
  have e2 : (if ((1 : Int) == 1 && (Builtin.Str.strSliceIndices (some i) none 1 (⟨w.toArray⟩ : Str).length).length == (⟨w.toArray⟩ : Str).length) = true then (⟨w.toArray⟩ : Str) else ⟨((Builtin.Str.strSliceIndices (some i) none 1 (⟨w.toArray⟩ : Str).length).filterMap ((⟨w.toArray⟩ : Str).cps[·]?)).toArray⟩) = ⟨(w.drop i.toNat).toArray⟩ := by
    rw [e]
    simp only [Str.mk.injEq]
    rw [List.take_of_length_le]
    rw [List.length_drop]
    simp
    lia
  exact e2 ▸ tStr
theorem JV_SliceTo {value upper : Expr} {p pos : Pos} {R : S → List S → Own → Prop}
    (h : JV B X A m own (eval value X.env) fun a m1 o1 => JV B X A m1 o1 (eval upper X.env) fun b m2 o2 => ∃ w i, a = .t (.str w) ∧ b = .t (.int i) ∧ 0 ≤ i ∧ i ≤ w.length ∧ w.length ≤ sizeLine ∧ R (.t (.str (w.take i.toNat))) m2 o2) :
    JV B X A m own (eval (.Subscript value (.Slice none (some upper) none p) pos) X.env) R := by
  intro s G hS _ Q hQ
  refine PyProof.Rows.Subscript_ (h s G hS trivial _ fun v a m1 o1 G1 s1 S1 L1 r1 h1 => wpAny_Slice (evalPart_none_step (evalPart_some_step (h1 s1 G1 S1 trivial _ fun u b m2 o2 G2 s2 S2 L2 r2 h2 => evalPart_none_step ?_))))
  obtain ⟨w, i, rfl, rfl, h0, hi, hz, hR⟩ := h2
  obtain ⟨t, rfl⟩ := uStr r1
  obtain ⟨t', rfl⟩ := uInt r2
  have S3 := S2.push (o := { cls := .type "slice", data := .fields #[.none, .int i t', .none] }) (tk := s2.toks)
  obtain ⟨ops, he⟩ := subscripted_any (.Slice none (some upper) none p) (.str ⟨w.toArray⟩ t) (.ref s2.heap.objs.size)
  refine tok_in (tail_any (typeIs_str _ _ _) PyProof.Rows.slot_str_getitem.lookup (wpAny_getItem_str_slice (l := none) (u := some (i, t')) (st := none) ⟨_, Heap.get?_push_size _ rfl, rfl, rfl⟩ rfl
    (post_val_or_str ⟨Nat.le_trans (Txt.slice_le _ none (some i)) (by simpa [Str.length] using hz), fun t'' k htm => hQ _ _ _ _ _ _ (S3.tok k) (L1.trans L2) (rT ?_) hR⟩)) he)
  have e := StrLaws.sliceText_to (x := ⟨w.toArray⟩) (j := i) ⟨h0, by simpa using hi⟩
  unfold StrLaws.sliceText at e
  have e2 : (if ((1 : Int) == 1 && (Builtin.Str.strSliceIndices none (some i) 1 (⟨w.toArray⟩ : Str).length).length == (⟨w.toArray⟩ : Str).length) = true then (⟨w.toArray⟩ : Str) else ⟨((Builtin.Str.strSliceIndices none (some i) 1 (⟨w.toArray⟩ : Str).length).filterMap ((⟨w.toArray⟩ : Str).cps[·]?)).toArray⟩) = ⟨(w.take i.toNat).toArray⟩ := by
    rw [e]
    simp
  exact e2 ▸ tStr
end
end
noncomputable section
theorem EnvIs.eq {env : Env} {sc : Scope} {cells : List (Str × Addr)} (E : EnvIs env sc cells) : env = ⟨sc, env.locals, mainGlobals, cells, env.qual, env.func, env.code, env.frame, builtinsNs⟩ := by
  obtain ⟨a, b, c, d⟩ := E
  cases env
  simp only at a b c d
  subst a b c d
  rfl
noncomputable def envK (sc : Scope) : Env := { scope := sc, locals := 0, globals := 0, cells := [] }
theorem EnvIs.comp {env : Env} {sc : Scope} {cells : List (Str × Addr)} (E : EnvIs env sc cells) (scope : Scope) (cl : List (Str × Addr)) (C : Addr) : EnvIs (compEnvC scope cl C env) (relabel scope (envK sc)) cl where
  scope := by
    show relabel scope env = _
    rw [E.eq]; rfl
  globals := E.globals
  builtins := E.builtins
  cells := rfl
noncomputable def SlotsOk (P : Str → S → Prop) : List Str → List S → Prop
  | n :: ns, s :: ss => P n s ∧ SlotsOk P ns ss
  | _, _ => True
theorem SlotsOk.get {P : Str → S → Prop} : ∀ {ns : List Str} {ss : List S}, SlotsOk P ns ss → ∀ (i : Nat) y sv, ns[i]? = some y → ss[i]? = some sv → P y sv
  | [], _, _, _, _, _, h, _ => by simp at h
  | _ :: _, [], _, _, _, _, _, h => by simp at h
  | n :: ns, s :: ss, h, 0, y, sv, e1, e2 => by
    simp at e1 e2; subst e1; subst e2
    exact h.1
  | n :: ns, s :: ss, h, i + 1, y, sv, e1, e2 => h.2.get i y sv (by simpa using e1) (by simpa using e2)
section
variable {B : Bs} (h : LB B)
include h
theorem g_Whitespace : B.mg (Str.ofString "Whitespace") = some (.ref 83) := mgI h (by kernel_rfl!)
theorem k_Whitespace : keepIn B.K (.ref 83) = true := keepI h (by kernel_rfl!)
theorem g_div2n1n : B.mg (Str.ofString "_div2n1n") = some (.ref 94) := mgI h (by kernel_rfl!)
theorem k_div2n1n : keepIn B.K (.ref 94) = true := keepI h (by kernel_rfl!)
theorem g_div3n2n : B.mg (Str.ofString "_div3n2n") = some (.ref 101) := mgI h (by kernel_rfl!)
theorem k_div3n2n : keepIn B.K (.ref 101) = true := keepI h (by kernel_rfl!)
theorem g_int2digits : B.mg (Str.ofString "_int2digits") = some (.ref 108) := mgI h (by kernel_rfl!)
theorem k_int2digits : keepIn B.K (.ref 108) = true := keepI h (by kernel_rfl!)
theorem g_digits2int : B.mg (Str.ofString "_digits2int") = some (.ref 115) := mgI h (by kernel_rfl!)
theorem k_digits2int : keepIn B.K (.ref 115) = true := keepI h (by kernel_rfl!)
theorem g_divmodpos : B.mg (Str.ofString "_divmod_pos") = some (.ref 122) := mgI h (by kernel_rfl!)
theorem k_divmodpos : keepIn B.K (.ref 122) = true := keepI h (by kernel_rfl!)
theorem g_concat : B.mg (Str.ofString "concat") = some (.ref 129) := mgI h (by kernel_rfl!)
theorem k_concat : keepIn B.K (.ref 129) = true := keepI h (by kernel_rfl!)
theorem g_countOf : B.mg (Str.ofString "countOf") = some (.ref 136) := mgI h (by kernel_rfl!)
theorem k_countOf : keepIn B.K (.ref 136) = true := keepI h (by kernel_rfl!)
theorem g_indexOf : B.mg (Str.ofString "indexOf") = some (.ref 143) := mgI h (by kernel_rfl!)
theorem k_indexOf : keepIn B.K (.ref 143) = true := keepI h (by kernel_rfl!)
theorem g_imul : B.mg (Str.ofString "imul") = some (.ref 150) := mgI h (by kernel_rfl!)
theorem k_imul : keepIn B.K (.ref 150) = true := keepI h (by kernel_rfl!)
theorem g_ipow : B.mg (Str.ofString "ipow") = some (.ref 157) := mgI h (by kernel_rfl!)
theorem k_ipow : keepIn B.K (.ref 157) = true := keepI h (by kernel_rfl!)
theorem g_lawruns : B.mg (Str.ofString "_law_runs") = some (.ref 162) := mgI h (by kernel_rfl!)
theorem k_lawruns : keepIn B.K (.ref 162) = true := keepI h (by kernel_rfl!)
theorem g_lawlead : B.mg (Str.ofString "_law_lead") = some (.ref 167) := mgI h (by kernel_rfl!)
theorem k_lawlead : keepIn B.K (.ref 167) = true := keepI h (by kernel_rfl!)
theorem g_lawcolumn : B.mg (Str.ofString "_law_column") = some (.ref 174) := mgI h (by kernel_rfl!)
theorem k_lawcolumn : keepIn B.K (.ref 174) = true := keepI h (by kernel_rfl!)
theorem g_lawunlike : B.mg (Str.ofString "_law_unlike") = some (.ref 179) := mgI h (by kernel_rfl!)
theorem k_lawunlike : keepIn B.K (.ref 179) = true := keepI h (by kernel_rfl!)
theorem g_lawwords : B.mg (Str.ofString "_law_words") = some (.ref 186) := mgI h (by kernel_rfl!)
theorem k_lawwords : keepIn B.K (.ref 186) = true := keepI h (by kernel_rfl!)
theorem g_lawrings : B.mg (Str.ofString "_law_rings") = some (.ref 191) := mgI h (by kernel_rfl!)
theorem k_lawrings : keepIn B.K (.ref 191) = true := keepI h (by kernel_rfl!)
theorem g_lawshares : B.mg (Str.ofString "_law_shares") = some (.ref 198) := mgI h (by kernel_rfl!)
theorem k_lawshares : keepIn B.K (.ref 198) = true := keepI h (by kernel_rfl!)
theorem n_len : B.mg (Str.ofString "len") = none := mgN h (by kernel_rfl!)
theorem n_sum : B.mg (Str.ofString "sum") = none := mgN h (by kernel_rfl!)
theorem n_max : B.mg (Str.ofString "max") = none := mgN h (by kernel_rfl!)
theorem n_abs : B.mg (Str.ofString "abs") = none := mgN h (by kernel_rfl!)
theorem n_divmod : B.mg (Str.ofString "divmod") = none := mgN h (by kernel_rfl!)
theorem n_hasattr : B.mg (Str.ofString "hasattr") = none := mgN h (by kernel_rfl!)
theorem n_iter : B.mg (Str.ofString "iter") = none := mgN h (by kernel_rfl!)
theorem n_range : B.mg (Str.ofString "range") = none := mgN h (by kernel_rfl!)
theorem n_tuple : B.mg (Str.ofString "tuple") = none := mgN h (by kernel_rfl!)
theorem n_list : B.mg (Str.ofString "list") = none := mgN h (by kernel_rfl!)
theorem n_enumerate : B.mg (Str.ofString "enumerate") = none := mgN h (by kernel_rfl!)
theorem n_reversed : B.mg (Str.ofString "reversed") = none := mgN h (by kernel_rfl!)
end
theorem b_len : bootBuiltins (Str.ofString "len") = some (.builtin "len") := by boot_by_name
theorem b_sum : bootBuiltins (Str.ofString "sum") = some (.builtin "sum") := by boot_by_name
theorem b_max : bootBuiltins (Str.ofString "max") = some (.builtin "max") := by boot_by_name
theorem b_abs : bootBuiltins (Str.ofString "abs") = some (.builtin "abs") := by boot_by_name
theorem b_divmod : bootBuiltins (Str.ofString "divmod") = some (.builtin "divmod") := by boot_by_name
theorem b_hasattr : bootBuiltins (Str.ofString "hasattr") = some (.builtin "hasattr") := by boot_by_name
theorem b_iter : bootBuiltins (Str.ofString "iter") = some (.builtin "iter") := by boot_by_name
theorem b_range : bootBuiltins (Str.ofString "range") = some (.type "range") := by boot_by_name
theorem b_tuple : bootBuiltins (Str.ofString "tuple") = some (.type "tuple") := by boot_by_name
theorem b_list : bootBuiltins (Str.ofString "list") = some (.type "list") := by boot_by_name
theorem b_enumerate : bootBuiltins (Str.ofString "enumerate") = some (.type "enumerate") := by boot_by_name
theorem b_reversed : bootBuiltins (Str.ofString "reversed") = some (.type "reversed") := by boot_by_name
theorem callee_b {B : Bs} {id : String} : Callee B (.builtin id) := .inl ⟨_, rfl⟩
theorem callee_t {B : Bs} {t : String} : Callee B (.type t) := .inr (.inl ⟨_, rfl⟩)
theorem callee_k {B : Bs} {a : Addr} (h : keepIn B.K (.ref a) = true) : Callee B (.ref a) := .inr (.inr ⟨_, rfl, h⟩)
theorem lit_em : (Str.ofString "").cps.toList = [] := by decide +kernel
theorem lit_sp : (Str.ofString " ").cps.toList = [32] := by decide +kernel
theorem lit_tab : (Str.ofString "\t").cps.toList = [9] := by decide +kernel
theorem lit_x : (Str.ofString "x\t ").cps.toList = [120, 9, 32] := by decide +kernel
theorem lit_abcd : (Str.ofString "abcd").cps.toList = [97, 98, 99, 100] := by decide +kernel
theorem JV_strL {B : Bs} {X : Act} {A : Around} {m : List S} {own : Own} {x : Str} {l : List Nat} (e : x.cps.toList = l) {k : Nat} {pos : Pos} {R : S → List S → Own → Prop} (h : R (.t (.str l)) m own) : JV B X A m own (eval (.Constant (.str x) k pos) X.env) R := JV_str (by rw [e]; exact h)
section
variable {B : Bs} {X : Act} {A : Around} {m : List S} {own : Own}
theorem JV_callG {x : Str} {pos cpos : Pos} {fv : Value} {args : List Expr} {R : S → List S → Own → Prop} (hB : LB B) (hg : X.env.globals = mainGlobals) (hv : B.mg x = some fv) (hc : Callee B fv) (hk : X.env.scope.kind = .function) (hx : X.env.kindOf x = some .globalImplicit)
    (he : eval (.Call (.Name x pos) args [] cpos) X.env = (do let v ← eval (.Name x pos) X.env; callWith cpos v [] (backTo cpos (starEach args X.env)) []))
    (hplain : (backTo cpos (starEach args X.env)).any (·.1) = false) (hd : (x == ("__debug__" : Str)) = false)
    (h : JL B X A m own (spliced (backTo cpos (starEach args X.env))) fun as m2 o2 => JCall B X A fv as m2 o2 R) : JV B X A m own (eval (.Call (.Name x pos) args [] cpos) X.env) R :=
  JV_call hB.ok he hplain (JV_glob (y := .con fv) hB.ok hv tCon hk hg hx ⟨fv, rfl, hc, h⟩ hd)
theorem JV_callB {x : Str} {pos cpos : Pos} {fv : Value} {args : List Expr} {R : S → List S → Own → Prop} (hB : LB B) (hg : X.env.globals = mainGlobals ∧ X.env.builtins = builtinsNs) (hv : B.mg x = none) (hb : bootBuiltins x = some fv) (hc : Callee B fv) (hk : X.env.scope.kind = .function) (hx : X.env.kindOf x = some .globalImplicit) (hn : x ≠ "__name__")
    (he : eval (.Call (.Name x pos) args [] cpos) X.env = (do let v ← eval (.Name x pos) X.env; callWith cpos v [] (backTo cpos (starEach args X.env)) []))
    (hplain : (backTo cpos (starEach args X.env)).any (·.1) = false) (hd : (x == ("__debug__" : Str)) = false)
    (h : JL B X A m own (spliced (backTo cpos (starEach args X.env))) fun as m2 o2 => JCall B X A fv as m2 o2 R) : JV B X A m own (eval (.Call (.Name x pos) args [] cpos) X.env) R :=
  JV_call hB.ok he hplain (JV_built hB.ok hv hb hn hk hg.1 hg.2 hx ⟨fv, rfl, hc, h⟩ hd)
end
end
noncomputable section
theorem noneBooked {B : Bs} (hB : LB B) {h : Heap} (hk : ∀ b o, B.H.get? b = some o → h.get? b = some o) : NoneBooked h := by
  have e : B.K.lookup 2 = some { cls := .none, data := .dict #[] } := by rw [hB.K]; rfl
  exact ⟨fun _ => none, ⟨_, #[], 0, hk _ _ (hB.ok.kin _ _ e), rfl, (by intro x hx; simp at hx), fun name => by rfl⟩, rfl⟩
section
variable {M : Model} {A : Around} {E : Value → Shared → Prop} {s : Shared}
theorem is_int {p q : Int} {t u : Tok} {Q : Value → Shared → Prop} (ht : t ≠ 0) (hu : u ≠ 0) (hne : t = u → p = q) (hs : p = q → smallInt p = true) (h : Q (.bool (p == q)) s) : wpAny M A (compareOp .Is (.int p t) (.int q u)) Q E s := by
  have ht' : (t == 0 || u == 0) = false := by simp [ht, hu]
  show wpAny _ _ (do return .bool (← isSame (.int p t) (.int q u))) Q E s
  refine wpAny_bind ?_
  show wpAny _ _ (if (p == q && smallInt p) = true then isSame.cachedInt t u else isSame.created (p == q) t u) _ _ _
  by_cases e : p = q
  · subst e
    rw [if_pos (by rw [hs rfl]; simp)]
    unfold isSame.cachedInt
    rw [ht', if_neg Bool.false_ne_true]
    refine wpAny_bind (wpAny_rule (wpAny_pure (wpAny_pure ?_)))
    simpa using h
  · have e' : (p == q) = false := by simpa using e
    rw [if_neg (by simp [e'])]
    unfold isSame.created
    refine wpAny_ite ?_
    rw [if_neg (by rw [ht']; exact Bool.false_ne_true)]
    refine wpAny_ite ?_
    rw [if_neg (by simp; exact fun q => e (hne q))]
    refine wpAny_ite ?_
    rw [if_pos (by simp [e'])]
    exact wpAny_pure (wpAny_pure (by rw [e'] at h; exact h))
theorem is_str {x y : Str} {t u : Tok} {Q : Value → Shared → Prop} (hb : NoneBooked s.heap) (ht : t ≠ 0) (hu : u ≠ 0) (hne : t = u → x = y) (h : ∀ r, (r = true → x = y) → Q (.bool r) s) : wpAny M A (compareOp .Is (.str x t) (.str y u)) Q E s := by
  have ht' : (t == 0 || u == 0) = false := by simp [ht, hu]
  show wpAny _ _ (do return .bool (← isSame (.str x t) (.str y u))) Q E s
  refine wpAny_bind ?_
  show wpAny _ _ (isSame.created (x == y) t u) _ _ _
  by_cases e : x = y
  · refine wpAny_mono (wpAny_isSame_str (y := x) (z := y) ht' hb fun b => ?_) (fun _ _ q => q) fun _ _ q => q
    exact wpAny_pure (h b fun _ => e)
  · have e' : (x == y) = false := by simpa using e
    unfold isSame.created
    refine wpAny_ite ?_
    rw [if_neg (by rw [ht']; exact Bool.false_ne_true)]
    refine wpAny_ite ?_
    rw [if_neg (by simp; exact fun q => e (hne q))]
    refine wpAny_ite ?_
    rw [if_pos (by simp [e'])]
    exact wpAny_pure (wpAny_pure (h false fun q => by cases q))
end
noncomputable def Cmps (B : Bs) (e b : T) (r : Bool) : Prop := ∀ (X : Act) (A : Around) (m : List S) (own : Own) (R : S → List S → Own → Prop),
  (R (.t (.bool r)) m own → JCmp B X A .Eq (.t e) (.t b) m own R) ∧ ((∀ r', (r' = true → r = true) → R (.t (.bool r')) m own) → JCmp B X A .Is (.t e) (.t b) m own R)
theorem cmps_int {B : Bs} {N : Nat} {i j : Int} (hs : i = j → -5 ≤ i ∧ i ≤ 256) : Cmps B (.oint N i) (.nint N j) (i == j) := by
  intro X A m own R
  refine ⟨fun h => ?_, fun h => ?_⟩
  · rintro v u s G hS ⟨h1, h2⟩ Q hQ
    have h1 := uT h1; have h2 := uT h2
    obtain ⟨t, a1, a2, rfl⟩ := h1
    obtain ⟨u, b1, b2, rfl⟩ := h2
    exact C_eq h _ _ s G hS ⟨rT tInt, rT tInt⟩ Q hQ
  · rintro v u s G hS ⟨h1, h2⟩ Q hQ
    have h1 := uT h1; have h2 := uT h2
    obtain ⟨t, a1, a2, rfl⟩ := h1
    obtain ⟨u, b1, b2, rfl⟩ := h2
    refine is_int (Nat.pos_iff_ne_zero.mp a1) (Nat.pos_iff_ne_zero.mp b1) (fun e => by have e : t = u := e; lia) (fun e => by have := hs e; simp [smallInt]; lia) ?_
    exact hQ _ _ _ _ _ _ hS (Le.refl G) (rT tBool) (h _ id)
theorem cmps_strs {B : Bs} (hB : LB B) {x y : List Nat} {e b : T} (he : ∀ G v, RepT G e v → ∃ t : Nat, t ≠ 0 ∧ v = .str ⟨x.toArray⟩ t) (hb : ∀ G v, RepT G b v → ∃ t : Nat, t ≠ 0 ∧ v = .str ⟨y.toArray⟩ t)
    (hne : ∀ G (t : Nat), RepT G e (.str ⟨x.toArray⟩ t) → RepT G b (.str ⟨y.toArray⟩ t) → x = y) : Cmps B e b (x == y) := by
  intro X A m own R
  refine ⟨fun h => ?_, fun h => ?_⟩
  · rintro v u s G hS ⟨h1, h2⟩ Q hQ
    obtain ⟨t, a1, rfl⟩ := he G _ (uT h1)
    obtain ⟨u, b1, rfl⟩ := hb G _ (uT h2)
    exact C_eqs h _ _ s G hS ⟨rT tStr, rT tStr⟩ Q hQ
  · rintro v u s G hS ⟨h1, h2⟩ Q hQ
    obtain ⟨t, a1, rfl⟩ := he G _ (uT h1)
    obtain ⟨u, b1, rfl⟩ := hb G _ (uT h2)
    refine is_str (noneBooked hB fun b o e => hS.le b o (hS.base b o e)) a1 b1 (fun q => ?_) fun r hr => ?_
    · have q : t = u := q
      subst q
      rw [hne G t (uT h1) (uT h2)]
    · exact hQ _ _ _ _ _ _ hS (Le.refl G) (rT tBool) (h _ fun q => by
        have := hr q
        simp only [Str.mk.injEq] at this
        have := congrArg Array.toList this
        simp at this
        simpa using this)
theorem cmps_str {B : Bs} (hB : LB B) {N : Nat} {x y : List Nat} : Cmps B (.nstr N x) (.ostr N y) (x == y) :=
  cmps_strs hB (fun G v h => by obtain ⟨t, a, b, c⟩ := h; exact ⟨t, by lia, c⟩) (fun G v h => by obtain ⟨t, a, b, c⟩ := h; exact ⟨t, by lia, c⟩) fun G t h1 h2 => by
    obtain ⟨t, a, b, c⟩ := h1
    obtain ⟨u, d, e, f⟩ := h2
    cases c; cases f
    lia
theorem cmps_self {B : Bs} (hB : LB B) {N : Nat} {x : List Nat} : Cmps B (.ostr N x) (.ostr N x) true := by
  have := cmps_strs (B := B) hB (x := x) (y := x) (e := .ostr N x) (b := .ostr N x) (fun G v h => by obtain ⟨t, a, b, c⟩ := h; exact ⟨t, by lia, c⟩) (fun G v h => by obtain ⟨t, a, b, c⟩ := h; exact ⟨t, by lia, c⟩) fun _ _ _ _ => rfl
  rw [show (x == x) = true by simp] at this
  exact this
section
variable {B : Bs} {X : Act} {m : List S} {own : Own} {G : PM} {s : Shared}
theorem St.raise {n : Nat} (x : St B X m own G s) (h1 : G.hi ≤ n) (h2 : n ≤ s.toks) : St B X m own ⟨G.ob, n⟩ s ∧ Le G ⟨G.ob, n⟩ := by
  have L : Le G ⟨G.ob, n⟩ := ⟨fun _ _ e => e, h1⟩
  exact ⟨{ x with
    hi := h2
    lo := Nat.le_trans x.lo h1
    g0 := x.g0.trans L
    vars := fun i y sv e1 e2 => let ⟨o, a, b⟩ := x.vars i y sv e1 e2; ⟨o, a, b.mono L⟩
    ow := fun p hp => let ⟨ob, a, b, c⟩ := x.ow p hp; ⟨ob, a, b.mono L, c⟩ }, L⟩
variable {A : Around} {R : S → List S → Own → Prop} {a b : Int}
theorem B_modT (hB : LB B) (hb : b ≠ 0) (hN : 0 < B.N) (h : R (.t (.tint (a.fmod b))) m own) : JBin B X A .Mod (.t (.int a)) (.t (.int b)) m own R := by
  rintro v u s G hS ⟨h1, h2⟩ Q hQ
  obtain ⟨t, rfl⟩ := uInt h1; obtain ⟨t', rfl⟩ := uInt h2
  have hl := hS.lo
  have hh := hS.hi
  obtain ⟨S1, L1⟩ := (hS.tok (s.toks + 1)).raise (n := s.toks + 1) (Nat.le_succ_of_le hh) (Nat.le_refl _)
  exact PyProof.Rows.mod_int' hb (hQ _ _ _ _ _ _ S1 L1 (rT (by exact ⟨s.toks, by lia, Nat.lt_succ_self _, rfl⟩)) h)
theorem JV_strT {x : Str} {l : List Nat} (e : x.cps.toList = l) {k : Nat} {pos : Pos} {R : S → List S → Own → Prop} (hN : 0 < B.N) (h : R (.t (.tstr l)) m own) : JV B X A m own (eval (.Constant (.str x) k pos) X.env) R := by
  intro s G hS _ Q hQ
  have hl := hS.lo
  have hh := hS.hi
  obtain ⟨S1, L1⟩ := (hS.tok (s.toks + 1)).raise (n := s.toks + 1) (Nat.le_succ_of_le hh) (Nat.le_refl _)
  exact wpAny_Constant_str (hQ _ _ _ _ _ _ S1 L1 (rT (by exact ⟨s.toks, by lia, Nat.lt_succ_self _, by rw [← e]⟩)) h)
theorem B_addsN {p q : List Nat} (hN : 0 < B.N) (hp : p ≠ []) (hq : q ≠ []) (hsz : p.length + q.length ≤ sizeLine) (h : R (.t (.nstr B.N (p ++ q))) m own) : JBin B X A .Add (.t (.str p)) (.t (.str q)) m own R := by
  rintro v u s G hS ⟨h1, h2⟩ Q hQ
  obtain ⟨t, rfl⟩ := uStr h1; obtain ⟨t', rfl⟩ := uStr h2
  have hl := hS.lo
  have hh := hS.hi
  refine PySem.P.add_str ?_
  have e1 : ((⟨p.toArray⟩ : Str).length == 0) = false := by simpa [Str.length] using hp
  have e2 : ((⟨q.toArray⟩ : Str).length == 0) = false := by simpa [Str.length] using hq
  rw [e1, e2]
  simp only [Bool.false_eq_true, if_false]
  refine ⟨by rw [str_append]; simpa [Str.length] using hsz, ?_⟩
  refine hQ _ _ _ _ _ _ (hS.tok _) (Le.refl G) (rT ?_) h
  rw [str_append]
  exact ⟨s.toks, by lia, by lia, rfl⟩
theorem B_addsT {p q : List Nat} (hN : 0 < B.N) (hq : q ≠ []) (hq1 : q.length = 1) (hsz : p.length + q.length ≤ sizeLine) (hpt : p = [] → R (.t (.str q)) m own) (h : p ≠ [] → R (.t (.tstr (p ++ q))) m own) : JBin B X A .Add (.t (.str p)) (.t (.str q)) m own R := by
  rintro v u s G hS ⟨h1, h2⟩ Q hQ
  obtain ⟨t, rfl⟩ := uStr h1; obtain ⟨t', rfl⟩ := uStr h2
  have hl := hS.lo
  have hh := hS.hi
  by_cases hp : p = []
  · subst hp
    refine PySem.P.add_str ?_
    have e1 : ((⟨([] : List Nat).toArray⟩ : Str).length == 0) = true := rfl
    rw [e1]
    exact hQ _ _ _ _ _ _ hS (Le.refl G) (rT tStr) (hpt rfl)
  · refine PySem.P.add_str ?_
    have e1 : ((⟨p.toArray⟩ : Str).length == 0) = false := by simpa [Str.length] using hp
    have e2 : ((⟨q.toArray⟩ : Str).length == 0) = false := by simpa [Str.length] using hq
    rw [e1, e2]
    simp only [Bool.false_eq_true, if_false]
    refine ⟨by rw [str_append]; simpa [Str.length] using hsz, ?_⟩
    obtain ⟨S1, L1⟩ := (hS.tok (s.toks + 1)).raise (n := s.toks + 1) (Nat.le_succ_of_le hh) (Nat.le_refl _)
    refine hQ _ _ _ _ _ _ S1 L1 (rT ?_) (h hp)
    rw [str_append]
    exact ⟨s.toks, by lia, Nat.lt_succ_self _, rfl⟩
end
end
noncomputable section
set_option maxRecDepth 512
theorem bitNot_def (x : Int) : Spec.bitNot x = -x - 1 := by unfold Spec.bitNot; lia
theorem bitAnd_nn {x y : Int} (hx : 0 ≤ x) (hy : 0 ≤ y) : Builtin.bitAnd x y = ((x.toNat &&& y.toNat : Nat) : Int) := by
  rw [← bitAnd_eq]; unfold Spec.bitAnd; rw [decide_eq_true hx, decide_eq_true hy]
theorem bitOr_nn {x y : Int} (hx : 0 ≤ x) (hy : 0 ≤ y) : Builtin.bitOr x y = ((x.toNat ||| y.toNat : Nat) : Int) := by
  rw [← bitOr_eq]; unfold Spec.bitOr Spec.bitAnd
  rw [decide_eq_false (show ¬ 0 ≤ Spec.bitNot x by rw [bitNot_def]; lia), decide_eq_false (show ¬ 0 ≤ Spec.bitNot y by rw [bitNot_def]; lia)]
  simp only [bitNot_def]
  rw [show (-(-x - 1) - 1) = x by lia, show (-(-y - 1) - 1) = y by lia]
  lia
theorem bitOr_low {r a : Int} {n : Nat} (hr : 0 ≤ r) (ha : 0 ≤ a) (hn : a < 2 ^ n) : Builtin.bitOr (r * 2 ^ n) a = r * 2 ^ n + a := by
  obtain ⟨r, rfl⟩ := Int.eq_ofNat_of_zero_le hr
  obtain ⟨a, rfl⟩ := Int.eq_ofNat_of_zero_le ha
  have hn' : a < 2 ^ n := by exact_mod_cast hn
  have e : ((r : Int) * 2 ^ n) = ((r * 2 ^ n : Nat) : Int) := by push_cast; rfl
  rw [e, bitOr_nn (Int.natCast_nonneg _) (Int.natCast_nonneg _), Int.toNat_natCast, Int.toNat_natCast, Nat.mul_comm r, ← Nat.two_pow_add_eq_or_of_lt hn']
  push_cast
  rfl
theorem bitAnd_mask {x : Int} {n : Nat} (hx : 0 ≤ x) : Builtin.bitAnd x (2 ^ n - 1) = x % 2 ^ n := by
  obtain ⟨x, rfl⟩ := Int.eq_ofNat_of_zero_le hx
  have h1 : 1 ≤ 2 ^ n := Nat.one_le_two_pow
  have e : ((2 : Int) ^ n - 1) = ((2 ^ n - 1 : Nat) : Int) := by push_cast [h1]; rfl
  rw [e, bitAnd_nn (Int.natCast_nonneg _) (Int.natCast_nonneg _), Int.toNat_natCast, Int.toNat_natCast, Nat.and_two_pow_sub_one_eq_mod]
  push_cast
  rfl
theorem bitXor_low {x : Int} {n : Nat} (hx : 0 ≤ x) : Builtin.bitXor x (x / 2 ^ n * 2 ^ n) = x % 2 ^ n := by
  obtain ⟨x, rfl⟩ := Int.eq_ofNat_of_zero_le hx
  rw [← bitXor_eq]
  unfold Spec.bitXor
  rw [bitOr_eq, bitAnd_eq]
  have e : ((x : Int) / 2 ^ n * 2 ^ n) = ((2 ^ n * (x / 2 ^ n) : Nat) : Int) := by push_cast; rw [Int.mul_comm]
  rw [e, bitOr_nn (Int.natCast_nonneg _) (Int.natCast_nonneg _), bitAnd_nn (Int.natCast_nonneg _) (Int.natCast_nonneg _), Int.toNat_natCast, Int.toNat_natCast]
  have hl : x % 2 ^ n < 2 ^ n := Nat.mod_lt _ (Nat.two_pow_pos n)
  have hx2 : x = 2 ^ n * (x / 2 ^ n) ||| x % 2 ^ n := by rw [← Nat.two_pow_add_eq_or_of_lt hl]; exact (Nat.div_add_mod x (2 ^ n)).symm
  have h1 : x ||| 2 ^ n * (x / 2 ^ n) = x := by
    apply Nat.eq_of_testBit_eq
    intro i
    have := congrArg (Nat.testBit · i) hx2
    simp only [Nat.testBit_or] at this ⊢
    cases h : (2 ^ n * (x / 2 ^ n)).testBit i
    · simp
    · rw [h] at this; simp at this; simp [this]
  have h2 : x &&& 2 ^ n * (x / 2 ^ n) = 2 ^ n * (x / 2 ^ n) := by
    apply Nat.eq_of_testBit_eq
    intro i
    have := congrArg (Nat.testBit · i) hx2
    simp only [Nat.testBit_or, Nat.testBit_and] at this ⊢
    cases h : (2 ^ n * (x / 2 ^ n)).testBit i
    · simp
    · rw [h] at this; simp at this; simp [this]
  rw [h1, h2]
  have := Nat.div_add_mod x (2 ^ n)
  have e2 : ((x : Int) % 2 ^ n) = ((x % 2 ^ n : Nat) : Int) := by push_cast; rfl
  rw [e2]
  lia
theorem fdiv_pow {x : Int} {n : Nat} : x.fdiv (2 ^ n) = x / 2 ^ n := Int.fdiv_eq_ediv_of_nonneg _ (Int.le_of_lt (Int.pow_pos (by decide)))
end
noncomputable section
set_option maxRecDepth 512
theorem intBits_def (x : Int) : Builtin.Int.intBits x = if x = 0 then 0 else x.natAbs.log2 + 1 := by
  unfold Builtin.Int.intBits
  by_cases h : x = 0 <;> simp [h]
theorem intBits_le {x : Int} {n : Nat} (h0 : 0 ≤ x) (h : x < 2 ^ n) : Builtin.Int.intBits x ≤ n := by
  rw [intBits_def]
  split
  · lia
  · rename_i hx
    obtain ⟨x, rfl⟩ := Int.eq_ofNat_of_zero_le h0
    have h' : x < 2 ^ n := by exact_mod_cast h
    have : x ≠ 0 := fun e => hx (by simp [e])
    have := (Nat.log2_lt this).mpr h'
    have e : ((x : Nat) : Int).natAbs = x := by simp
    rw [e]; lia
theorem intBits_ge {x : Int} {n : Nat} (h0 : 0 ≤ x) (h : Builtin.Int.intBits x ≤ n) : x < 2 ^ n := by
  rw [intBits_def] at h
  obtain ⟨x, rfl⟩ := Int.eq_ofNat_of_zero_le h0
  split at h
  · rename_i e; rw [e]; exact Int.pow_pos (by decide)
  · rename_i hx
    have hx' : x ≠ 0 := fun e => hx (by simp [e])
    have e : ((x : Nat) : Int).natAbs = x := by simp
    rw [e] at h
    have : x < 2 ^ n := (Nat.log2_lt hx').mp (by lia)
    exact_mod_cast this
theorem intBits_eq {x : Int} {n : Nat} (hn : 1 ≤ n) (h1 : 2 ^ (n - 1) ≤ x) (h2 : x < 2 ^ n) : Builtin.Int.intBits x = n := by
  have hp : (0 : Int) < 2 ^ (n - 1) := Int.pow_pos (by decide)
  have a := intBits_le (by lia) h2
  rcases Nat.lt_or_ge (Builtin.Int.intBits x) n with q | q
  · have := intBits_ge (n := n - 1) (x := x) (by lia) (by lia)
    lia
  · lia
theorem noPylong_near {a b : Int} {n : Nat} (hn : 1 ≤ n) (h1 : 2 ^ (n - 1) ≤ b) (h2 : b < 2 ^ n) (ha : 0 ≤ a) (h : Builtin.Int.intBits a ≤ n + 4000) : Builtin.divisionGoesByPylong a b = false := by
  have hb := intBits_eq hn h1 h2
  have hp : (0 : Int) < 2 ^ (n - 1) := Int.pow_pos (by decide)
  rw [intBits_def] at h hb
  rw [if_neg (by lia)] at hb
  unfold Builtin.divisionGoesByPylong
  simp only [beq_iff_eq]
  rw [if_neg (by lia : ¬ b = 0)]
  split
  · simp
  · rename_i hx
    rw [if_neg hx] at h
    have : a.natAbs.log2 / 30 + 1 ≤ b.natAbs.log2 / 30 + 1 + 150 := by lia
    simp only [Bool.and_eq_false_iff, decide_eq_false_iff_not]
    right; lia
end
noncomputable section
set_option maxRecDepth 512
theorem halves {a b p : Int} (hb : 0 < b) (hp : 0 < p) : a / b = (a / p / b) * p + ((a / p % b) * p + a % p) / b ∧ a % b = ((a / p % b) * p + a % p) % b := by
  have h1 := Int.mul_ediv_add_emod a p
  have h2 := Int.mul_ediv_add_emod (a / p) b
  have e : a = ((a / p % b) * p + a % p) + (a / p / b * p) * b := by
    have : p * (a / p) = (a / p % b) * p + (a / p / b * p) * b := by
      conv => lhs; rw [← h2]
      rw [Int.mul_add, Int.mul_comm p (a / p % b), Int.mul_comm b, Int.mul_comm p, Int.mul_assoc, Int.mul_assoc, Int.mul_comm b p]
      lia
    lia
  constructor
  · conv => lhs; rw [e]
    rw [Int.add_mul_ediv_right _ _ (by lia)]; lia
  · conv => lhs; rw [e]
    rw [Int.add_mul_emod_self_right]
theorem bitAnd_one {n : Nat} : Builtin.bitAnd (n : Int) 1 = ((n % 2 : Nat) : Int) := by
  have := bitAnd_mask (x := (n : Int)) (n := 1) (Int.natCast_nonneg _)
  rw [show ((2 : Int) ^ 1 - 1) = 1 by decide] at this
  rw [this]; push_cast; rfl
theorem pad_div {a b : Int} {e : Nat} (hb : 0 < b) : (a * 2 ^ e) / (b * 2 ^ e) = a / b ∧ (a * 2 ^ e) % (b * 2 ^ e) / 2 ^ e = a % b := by
  have hp : (0 : Int) < 2 ^ e := Int.pow_pos (by decide)
  constructor
  · exact Int.mul_ediv_mul_of_pos_left a b hp
  · rw [Int.mul_comm a, Int.mul_comm b, Int.mul_emod_mul_of_pos _ _ hp, Int.mul_comm]
    exact Int.mul_ediv_cancel _ (by lia)
end
noncomputable section
set_option maxRecDepth 512
theorem pow_add' (m n : Nat) : (2 : Int) ^ (m + n) = 2 ^ m * 2 ^ n := Int.pow_add 2 m n
theorem split_b {b : Int} {n e h : Nat} (hn : 1 ≤ n) (he : n + e = 2 * h) (h1 : 2 ^ (n - 1) ≤ b) (h2 : b < 2 ^ n) : 2 ^ (2 * h - 1) ≤ b * 2 ^ e ∧ b * 2 ^ e < 2 ^ (2 * h) := by
  have hp : (0 : Int) < 2 ^ e := Int.pow_pos (by decide)
  constructor
  · rw [show 2 * h - 1 = (n - 1) + e by lia, pow_add']
    exact Int.mul_le_mul_of_nonneg_right h1 (Int.le_of_lt hp)
  · rw [← he, pow_add']
    exact Int.mul_lt_mul_of_pos_right h2 hp
theorem split_a {a b : Int} {n e h : Nat} (he : n + e = 2 * h) (hb : 0 < b) (hab : a < 2 ^ n * b) : a * 2 ^ e < 2 ^ (2 * h) * (b * 2 ^ e) := by
  have hp : (0 : Int) < 2 ^ e := Int.pow_pos (by decide)
  have h1 := Int.mul_lt_mul_of_pos_right hab hp
  have h2 : (2 : Int) ^ n ≤ 2 ^ (2 * h) := by
    rw [← he, pow_add']
    have := Int.mul_le_mul_of_nonneg_left (show (1 : Int) ≤ 2 ^ e by lia) (Int.le_of_lt (show (0 : Int) < 2 ^ n from Int.pow_pos (by decide)))
    lia
  have h3 := Int.mul_le_mul_of_nonneg_right h2 (Int.le_of_lt (Int.mul_pos hb hp))
  rw [Int.mul_assoc] at h1
  lia
theorem half_top {b : Int} {h : Nat} (hh : 1 ≤ h) (h1 : 2 ^ (2 * h - 1) ≤ b) (h2 : b < 2 ^ (2 * h)) : 2 ^ (h - 1) ≤ b / 2 ^ h ∧ b / 2 ^ h < 2 ^ h := by
  have hp : (0 : Int) < 2 ^ h := Int.pow_pos (by decide)
  constructor
  · apply Int.le_ediv_of_mul_le hp
    rw [← pow_add', show h - 1 + h = 2 * h - 1 by lia]; exact h1
  · apply Int.ediv_lt_of_lt_mul hp
    rw [← pow_add', show h + h = 2 * h by lia]; exact h2
theorem bits_prod {x b : Int} {m n : Nat} (h0 : 0 ≤ x) (hx : x < 2 ^ m * b) (hb : b < 2 ^ n) : Builtin.Int.intBits x ≤ m + n := by
  refine intBits_le h0 ?_
  rw [pow_add']
  have := Int.mul_le_mul_of_nonneg_left (Int.le_of_lt hb) (Int.le_of_lt (show (0 : Int) < 2 ^ m from Int.pow_pos (by decide)))
  lia
end
noncomputable section
set_option maxRecDepth 512
noncomputable def digs (x : Int) (n k : Nat) : List Int := (List.range k).map fun i => x / 2 ^ (n * i) % 2 ^ n
theorem digs_length (x : Int) (n k : Nat) : (digs x n k).length = k := by simp [digs]
theorem pow_pos' (n : Nat) : (0 : Int) < 2 ^ n := Int.pow_pos (by decide)
theorem digit_low {x : Int} {n i k : Nat} (hi : i < k) : x % 2 ^ (n * k) / 2 ^ (n * i) % 2 ^ n = x / 2 ^ (n * i) % 2 ^ n := by
  have hp := pow_pos' (n * i)
  obtain ⟨j, rfl⟩ : ∃ j, k = i + 1 + j := ⟨k - i - 1, by lia⟩
  have e : (2 : Int) ^ (n * (i + 1 + j)) = 2 ^ (n * i) * (2 ^ n * 2 ^ (n * j)) := by
    rw [← pow_add', ← pow_add']; congr 1; rw [Nat.mul_add, Nat.mul_add]; lia
  have h1 := Int.mul_ediv_add_emod x (2 ^ (n * (i + 1 + j)))
  generalize x / 2 ^ (n * (i + 1 + j)) = q at h1
  generalize x % 2 ^ (n * (i + 1 + j)) = r at h1 ⊢
  rw [← h1, e, Int.mul_assoc, Int.add_comm, Int.add_mul_ediv_left _ _ (by lia), Int.mul_assoc, Int.add_mul_emod_self_left]
theorem digs_add {x : Int} {n k1 k2 : Nat} : digs x n (k1 + k2) = digs (x % 2 ^ (n * k1)) n k1 ++ digs (x / 2 ^ (n * k1)) n k2 := by
  unfold digs
  rw [List.range_add, List.map_append, List.map_map]
  congr 1
  · apply List.map_congr_left
    intro i hi
    exact (digit_low (List.mem_range.mp hi)).symm
  · apply List.map_congr_left
    intro i _
    show x / 2 ^ (n * (k1 + i)) % 2 ^ n = _
    rw [Nat.mul_add, pow_add', Int.ediv_ediv_of_nonneg (Int.le_of_lt (pow_pos' _))]
theorem digs_one {x : Int} {n : Nat} (h0 : 0 ≤ x) (h1 : x < 2 ^ n) : digs x n 1 = [x] := by
  show [x / 2 ^ (n * 0) % 2 ^ n] = [x]
  rw [Nat.mul_zero, Int.pow_zero, Int.ediv_one, Int.emod_eq_of_lt h0 h1]
noncomputable def put (xs : List T) (L : Nat) (ds : List T) : List T := xs.take L ++ ds ++ xs.drop (L + ds.length)
theorem put_length {xs : List T} {L : Nat} {ds : List T} (h : L + ds.length ≤ xs.length) : (put xs L ds).length = xs.length := by
  simp [put]; lia
theorem put_one {xs : List T} {L : Nat} {y : T} (h : L < xs.length) : xs.set L y = put xs L [y] := by
  rw [List.set_eq_take_append_cons_drop, if_pos h]; simp [put]
theorem put_put {xs : List T} {L : Nat} {d1 d2 : List T} (h : L + d1.length + d2.length ≤ xs.length) : put (put xs L d1) (L + d1.length) d2 = put xs L (d1 ++ d2) := by
  have e1 : (xs.take L ++ d1).length = L + d1.length := by simp; lia
  unfold put
  rw [← e1, List.take_left, ← List.drop_drop, List.drop_left, List.drop_drop, List.length_append]
  have e2 : (xs.take L).length = L := by simp; lia
  rw [e2]
  simp only [List.append_assoc]
  rw [Nat.add_assoc, List.length_append]
theorem put_all {xs ds : List T} (h : ds.length = xs.length) : put xs 0 ds = ds := by
  unfold put
  rw [Nat.zero_add, h, List.drop_length, List.take_zero, List.nil_append, List.append_nil]
noncomputable def valD (n : Nat) : List Int → Int
  | [] => 0
  | d :: r => d + valD n r * 2 ^ n
theorem valD_append (n : Nat) : ∀ a b : List Int, valD n (a ++ b) = valD n a + valD n b * 2 ^ (n * a.length)
  | [], b => by simp [valD]
  | d :: r, b => by
    rw [List.cons_append, valD, valD, valD_append n r b, Int.add_mul, Int.mul_assoc, ← pow_add', List.length_cons, Nat.mul_succ, Int.add_assoc]
theorem valD_one (n : Nat) (d : Int) : valD n [d] = d := by simp [valD]
theorem intBits_low {x : Int} (h0 : 0 < x) : 1 ≤ Builtin.Int.intBits x ∧ 2 ^ (Builtin.Int.intBits x - 1) ≤ x ∧ x < 2 ^ (Builtin.Int.intBits x) := by
  refine ⟨?_, ?_, intBits_ge (Int.le_of_lt h0) (Nat.le_refl _)⟩
  · rw [intBits_def, if_neg (by lia)]; lia
  · rw [intBits_def, if_neg (by lia), Nat.add_sub_cancel]
    have h1 := Nat.log2_self_le (n := x.natAbs) (by lia)
    have h2 : ((2 ^ x.natAbs.log2 : Nat) : Int) ≤ (x.natAbs : Int) := by exact_mod_cast h1
    rw [Int.natCast_pow] at h2
    have h3 : (x.natAbs : Int) = x := by lia
    rw [h3] at h2
    exact h2
theorem valD_bound {n : Nat} : ∀ {l : List Int}, (∀ d ∈ l, 0 ≤ d ∧ d < 2 ^ n) → 0 ≤ valD n l ∧ valD n l < 2 ^ (n * l.length)
  | [], _ => by simp [valD]
  | d :: r, h => by
    obtain ⟨h1, h2⟩ := valD_bound (l := r) fun x hx => h x (List.mem_cons_of_mem _ hx)
    obtain ⟨h3, h4⟩ := h d List.mem_cons_self
    have hp := pow_pos' n
    rw [valD, List.length_cons, Nat.mul_succ, pow_add']
    refine ⟨Int.add_nonneg h3 (Int.mul_nonneg h1 (Int.le_of_lt hp)), ?_⟩
    have h5 := Int.mul_le_mul_of_nonneg_right (show valD n r ≤ 2 ^ (n * r.length) - 1 by lia) (Int.le_of_lt hp)
    rw [Int.sub_mul, Int.one_mul] at h5
    lia
theorem step_div {A b d p : Int} (hb : 0 < b) (hp : 0 < p) (hd : 0 ≤ d) (hd' : d < p) : (A * p + d) / b = (A / b) * p + ((A % b) * p + d) / b ∧ (A * p + d) % b = ((A % b) * p + d) % b := by
  have h := halves (a := A * p + d) hb hp
  have e1 : (A * p + d) / p = A := by
    rw [Int.add_comm, Int.add_mul_ediv_right _ _ (by lia), Int.ediv_eq_zero_of_lt hd hd']; lia
  have e2 : (A * p + d) % p = d := by
    rw [Int.add_comm, Int.add_mul_emod_self_right, Int.emod_eq_of_lt hd hd']
  rw [e1, e2] at h
  exact h
end
noncomputable section
set_option maxRecDepth 512
noncomputable def evalP (q : Int) : List Int → Int
  | [] => 0
  | a :: p => a + q * evalP q p
noncomputable def addP : List Int → List Int → List Int
  | [], b => b
  | x :: a, [] => x :: a
  | x :: a, y :: b => (x + y) :: addP a b
noncomputable def mulP : List Int → List Int → List Int
  | [], _ => []
  | a :: p, b => addP (b.map (a * ·)) (0 :: mulP p b)
theorem evalP_add (q : Int) : ∀ a b : List Int, evalP q (addP a b) = evalP q a + evalP q b
  | [], b => (Int.zero_add _).symm
  | x :: a, [] => (Int.add_zero _).symm
  | x :: a, y :: b => by
    show x + y + q * evalP q (addP a b) = (x + q * evalP q a) + (y + q * evalP q b)
    rw [evalP_add q a b, Int.mul_add, Int.add_assoc, Int.add_assoc, Int.add_left_comm y]
theorem evalP_scale (q c : Int) : ∀ b : List Int, evalP q (b.map (c * ·)) = c * evalP q b
  | [] => (Int.mul_zero _).symm
  | y :: b => by
    show c * y + q * evalP q (b.map (c * ·)) = c * (y + q * evalP q b)
    rw [evalP_scale q c b, Int.mul_add, Int.mul_left_comm]
theorem evalP_mul (q : Int) : ∀ a b : List Int, evalP q (mulP a b) = evalP q a * evalP q b
  | [], b => (Int.zero_mul _).symm
  | x :: a, b => by
    show evalP q (addP (b.map (x * ·)) (0 :: mulP a b)) = (x + q * evalP q a) * evalP q b
    rw [evalP_add, evalP_scale]
    show _ + (0 + q * evalP q (mulP a b)) = _
    rw [evalP_mul q a b, Int.zero_add, Int.add_mul, Int.mul_assoc]
noncomputable def ones (l : List Int) : Bool := l.all fun c => decide (-1 ≤ c) && decide (c ≤ 1)
noncomputable def posL : List Int → Bool
  | [] => false
  | [c] => c == 1
  | c :: l => decide (-1 ≤ c) && decide (c ≤ 1) && posL l
theorem evalP_bd {q : Int} (hq : 2 ≤ q) : ∀ l : List Int, ones l = true → -(q ^ l.length) < evalP q l ∧ evalP q l < q ^ l.length
  | [], _ => by show -(q ^ 0) < 0 ∧ 0 < q ^ 0; rw [Int.pow_zero]; decide
  | c :: l, h => by
    rw [ones, List.all_cons, Bool.and_eq_true, Bool.and_eq_true, decide_eq_true_eq, decide_eq_true_eq] at h
    obtain ⟨a, b⟩ := evalP_bd hq l h.2
    show -(q ^ (l.length + 1)) < c + q * evalP q l ∧ c + q * evalP q l < q ^ (l.length + 1)
    have e : q ^ (l.length + 1) = q * q ^ l.length := by rw [Int.pow_succ, Int.mul_comm]
    rw [e]
    generalize evalP q l = x at *
    generalize q ^ l.length = y at *
    have h1 := Int.mul_le_mul_of_nonneg_left (show x ≤ y - 1 from Int.le_sub_one_of_lt b) (show 0 ≤ q by lia)
    have h2 := Int.mul_le_mul_of_nonneg_left (show -y + 1 ≤ x from a) (show 0 ≤ q by lia)
    rw [Int.mul_sub, Int.mul_one] at h1
    rw [Int.mul_add, Int.mul_one, Int.mul_neg] at h2
    obtain ⟨⟨h3, h4⟩, _⟩ := h
    clear a b
    constructor <;> lia
theorem evalP_pos {q : Int} (hq : 2 ≤ q) : ∀ l : List Int, posL l = true → 1 ≤ evalP q l
  | [c], h => by
    obtain rfl : c = 1 := eq_of_beq h
    show (1 : Int) ≤ 1 + q * 0
    rw [Int.mul_zero]; decide
  | c :: d :: l, h => by
    have h : (decide (-1 ≤ c) && decide (c ≤ 1) && posL (d :: l)) = true := h
    rw [Bool.and_eq_true, Bool.and_eq_true, decide_eq_true_eq] at h
    have a := evalP_pos hq (d :: l) h.2
    show 1 ≤ c + q * evalP q (d :: l)
    have h1 := Int.mul_le_mul_of_nonneg_left a (show 0 ≤ q by lia)
    rw [Int.mul_one] at h1
    have h2 := h.1.1
    lia
noncomputable def polyPhi : Nat → List Int
  | 0 => [1]
  | 1 => [-1, 1]
  | 2 => [1, 1]
  | 3 => [1, 1, 1]
  | 4 => [1, 0, 1]
  | 5 => [1, 1, 1, 1, 1]
  | 6 => [1, -1, 1]
  | _ => []
noncomputable def phi (q : Int) : Nat → Int
  | 0 => 1
  | 1 => q - 1
  | n + 2 => evalP q (polyPhi (n + 2))
theorem evalP_phi (q : Int) : ∀ k : Nat, evalP q (polyPhi k) = phi q k
  | 0 => by show 1 + q * 0 = 1; rw [Int.mul_zero, Int.add_zero]
  | 1 => by show -1 + q * (1 + q * 0) = q - 1; rw [Int.mul_zero, Int.add_zero, Int.mul_one, Int.add_comm]; rfl
  | _ + 2 => rfl
noncomputable def partL (size p : Nat) : List Int :=
  if p = 0 then -1 :: (List.replicate (size - 1) 0 ++ [1]) else
  if size = 4 ∧ p = 1 then [1, 1, 1, 1] else
  if size = 6 ∧ p = 1 then [1, 1, 1, 1, 1, 1] else
  if size = 6 ∧ p = 2 then [1, 0, 1, 0, 1] else polyPhi size
noncomputable def part (q : Int) (size p : Nat) : Int := evalP q (partL size p)
theorem tab2 {f : Nat → Nat → Bool} {P : Prop} {s p : Nat} (h : ((List.range 7).all fun s => (List.range 6).all (f s)) = true) (hs : s < 7) (hp : p < 6) (k : f s p = true → P) : P :=
  k (List.all_eq_true.mp (List.all_eq_true.mp h s (List.mem_range.mpr hs)) p (List.mem_range.mpr hp))
noncomputable def stepOk (size p : Nat) : Bool := !(decide (2 ≤ size) && decide (p + 1 < size)) || if size % (p + 1) = 0 then partL size p == mulP (partL size (p + 1)) (polyPhi (p + 1)) else partL size (p + 1) == partL size p
theorem part_step (q : Int) {size p : Nat} (h1 : 2 ≤ size) (h2 : size ≤ 6) (h3 : p + 1 < size) : (size % (p + 1) = 0 → part q size p = part q size (p + 1) * phi q (p + 1)) ∧ (size % (p + 1) ≠ 0 → part q size (p + 1) = part q size p) := by
  refine tab2 (f := stepOk) (s := size) (p := p) (by decide +kernel) (Nat.lt_succ_of_le h2) (by lia) fun h => ?_
  rw [stepOk, decide_eq_true h1, decide_eq_true h3, Bool.and_true, Bool.not_true, Bool.false_or] at h
  refine ⟨fun e => ?_, fun e => ?_⟩
  · rw [if_pos e] at h
    rw [part, eq_of_beq h, evalP_mul, evalP_phi]; rfl
  · rw [if_neg e] at h
    rw [part, eq_of_beq h]; rfl
theorem part_end (q : Int) {size : Nat} (h1 : 2 ≤ size) (h2 : size ≤ 6) : part q size (size - 1) = phi q size := by
  refine tab2 (f := fun s _ => !decide (2 ≤ s) || partL s (s - 1) == polyPhi s) (s := size) (p := 0) (by decide +kernel) (Nat.lt_succ_of_le h2) (by decide) fun h => ?_
  rw [decide_eq_true h1, Bool.not_true, Bool.false_or] at h
  rw [part, eq_of_beq h, evalP_phi]
theorem evalP_mono (q : Int) : ∀ n : Nat, evalP q (List.replicate n 0 ++ [1]) = q ^ n
  | 0 => by rw [Int.pow_zero]; show 1 + q * 0 = 1; rw [Int.mul_zero]; rfl
  | n + 1 => by
    show 0 + q * evalP q (List.replicate n 0 ++ [1]) = _
    rw [evalP_mono q n, Int.zero_add, Int.pow_succ, Int.mul_comm]
theorem part_zero (q : Int) {size : Nat} (h1 : 2 ≤ size) (_h2 : size ≤ 6) : part q size 0 = q ^ size - 1 := by
  obtain ⟨n, rfl⟩ : ∃ n, size = n + 1 := ⟨size - 1, by lia⟩
  show -1 + q * evalP q (List.replicate n 0 ++ [1]) = _
  rw [evalP_mono, Int.pow_succ, Int.mul_comm, Int.add_comm]; rfl
theorem pow_up {q : Int} (hq : 2 ≤ q) {a b : Nat} (h : a ≤ b) : q ^ a ≤ q ^ b := by
  obtain ⟨k, rfl⟩ : ∃ k, b = a + k := ⟨b - a, by lia⟩
  rw [Int.pow_add]
  have h1 : 0 < q ^ k := Int.pow_pos (by lia)
  have h2 := Int.mul_le_mul_of_nonneg_left (show 1 ≤ q ^ k from h1) (Int.le_of_lt (show 0 < q ^ a from Int.pow_pos (by lia)))
  rw [Int.mul_one] at h2
  exact h2
noncomputable def boundOk (s p : Nat) : Bool := !(decide (2 ≤ s) && !(p == 0)) || (posL (partL s p) && ones (partL s p) && decide ((partL s p).length ≤ 6))
theorem part_bound {q : Int} (hq : 2 ≤ q) {size p : Nat} (h1 : 2 ≤ size) (h2 : size ≤ 6) (h3 : p < 6) : 0 ≤ part q size p ∧ part q size p < q ^ 6 := by
  rcases Nat.eq_zero_or_pos p with rfl | hp
  · rw [part_zero q h1 h2]
    have a := pow_up hq h2
    have b := pow_up hq (Nat.zero_le size)
    rw [Int.pow_zero] at b
    constructor <;> lia
  · refine tab2 (f := boundOk) (s := size) (p := p) (by decide +kernel) (Nat.lt_succ_of_le h2) h3 fun h => ?_
    rw [boundOk, decide_eq_true h1, beq_false_of_ne (Nat.ne_of_gt hp), Bool.not_false, Bool.and_true, Bool.not_true, Bool.false_or, Bool.and_eq_true, Bool.and_eq_true, decide_eq_true_eq] at h
    obtain ⟨⟨a, b⟩, c⟩ := h
    exact ⟨Int.le_trans (by decide) (evalP_pos hq _ a), Int.lt_of_lt_of_le (evalP_bd hq _ b).2 (pow_up hq c)⟩
theorem phi_tab : ∀ p, p < 7 → 2 ≤ p → posL (polyPhi p) = true ∧ posL (polyPhi p).tail = true ∧ -1 ≤ (polyPhi p).headD 0 ∧ ones (polyPhi p) = true ∧ (polyPhi p).length ≤ 5 ∧ polyPhi p = (polyPhi p).headD 0 :: (polyPhi p).tail := by decide +kernel
theorem phi_bound {q : Int} (hq : 2 ≤ q) {p : Nat} (h1 : 1 ≤ p) (h2 : p ≤ 5) : q - 1 ≤ phi q p ∧ phi q p < q ^ 5 := by
  rcases Nat.eq_or_lt_of_le h1 with rfl | hp
  · show q - 1 ≤ q - 1 ∧ q - 1 < q ^ 5
    have a := pow_up hq (show 1 ≤ 5 by decide)
    rw [Int.pow_succ, Int.pow_zero, Int.one_mul] at a
    constructor <;> lia
  · obtain ⟨_, b, c, d, e, f⟩ := phi_tab p (by lia) hp
    rw [← evalP_phi]
    refine ⟨?_, Int.lt_of_lt_of_le (evalP_bd hq _ d).2 (pow_up hq e)⟩
    rw [f]
    have g := Int.mul_le_mul_of_nonneg_left (evalP_pos hq _ b) (show 0 ≤ q by lia)
    rw [Int.mul_one] at g
    show q - 1 ≤ (polyPhi p).headD 0 + q * evalP q (polyPhi p).tail
    generalize (polyPhi p).headD 0 = x at *
    generalize q * evalP q (polyPhi p).tail = y at *
    clear d e f b
    lia
noncomputable def sharesOf (q : Int) (n : Nat) : List Int := (List.range n).map (phi q)
theorem sharesOf_length (q : Int) (n : Nat) : (sharesOf q n).length = n := by simp [sharesOf]
theorem sharesOf_get (q : Int) {n i : Nat} (h : i < n) : (sharesOf q n)[i]? = some (phi q i) := by simp [sharesOf, h]
theorem sharesOf_succ (q : Int) (n : Nat) : sharesOf q (n + 1) = sharesOf q n ++ [phi q n] := by simp [sharesOf, List.range_succ]
theorem share_fits {w : Nat} (hw : 1 ≤ w) (hw2 : w ≤ 2405) {a b : Int} (h0 : 0 ≤ a) (ha : a < (2 ^ w) ^ 6) (hb : (2 : Int) ^ w - 1 ≤ b) (hb2 : b < (2 ^ w) ^ 5) :
    Builtin.Int.intBits b ≤ 19000 ∧ (Builtin.Int.intBits a + Builtin.Int.intBits b - 1) / Builtin.Int.intBits b ≤ 16 ∧ Builtin.Int.intBits a ≤ 200000 := by
  rw [← Int.pow_mul] at ha hb2
  have hp := pow_pos' w
  have h2 : (2 : Int) ^ 1 ≤ 2 ^ w := by
    obtain ⟨k, rfl⟩ : ∃ k, w = 1 + k := ⟨w - 1, by lia⟩
    rw [pow_add']
    have := pow_pos' k
    lia
  rw [Int.pow_one] at h2
  have hA := intBits_le h0 ha
  have hB := intBits_le (show 0 ≤ b by lia) hb2
  have hl := intBits_low (show 0 < b by lia)
  have hw' : w ≤ Builtin.Int.intBits b := by
    rcases Nat.lt_or_ge (Builtin.Int.intBits b) w with h | h
    · exfalso
      have h3 : b < 2 ^ (w - 1) := by
        have : (2 : Int) ^ (Builtin.Int.intBits b) ≤ 2 ^ (w - 1) := by
          obtain ⟨k, hk⟩ : ∃ k, w - 1 = Builtin.Int.intBits b + k := ⟨w - 1 - Builtin.Int.intBits b, by lia⟩
          rw [hk, pow_add']
          have h5 := pow_pos' k
          have := Int.mul_le_mul_of_nonneg_left (show (1 : Int) ≤ 2 ^ k by lia) (Int.le_of_lt (pow_pos' (Builtin.Int.intBits b)))
          lia
        lia
      have h4 : (2 : Int) ^ w = 2 * 2 ^ (w - 1) := by
        obtain ⟨k, rfl⟩ : ∃ k, w = 1 + k := ⟨w - 1, by lia⟩
        rw [pow_add', Nat.add_sub_cancel_left, Int.pow_one]
      have := pow_pos' (w - 1)
      lia
    · exact h
  refine ⟨by lia, ?_, by lia⟩
  rw [Nat.div_le_iff_le_mul (by lia)]
  lia
end
noncomputable section
set_option maxRecDepth 512
noncomputable def extK (cs : List Int) (w : List Nat) (k : Nat) : List (List Nat) := if ((w.count (97 + k) : Nat) : Int) < cs.getD k 0 then [w ++ [97 + k]] else []
noncomputable def ext (cs : List Int) (w : List Nat) : List (List Nat) := (List.range cs.length).flatMap (extK cs w)
noncomputable def wordsAt (cs : List Int) : Nat → List (List Nat)
  | 0 => [[]]
  | j + 1 => (wordsAt cs j).flatMap (ext cs)
theorem ext_len {cs : List Int} {w v : List Nat} (h : v ∈ ext cs w) : v.length = w.length + 1 := by
  obtain ⟨k, _, hk⟩ := List.mem_flatMap.mp h
  unfold extK at hk
  split at hk
  · rw [List.mem_singleton.mp hk, List.length_append]; rfl
  · cases hk
theorem wordsAt_len {cs : List Int} : ∀ {j : Nat} {w : List Nat}, w ∈ wordsAt cs j → w.length = j
  | 0, w, h => by rw [wordsAt] at h; rw [List.mem_singleton.mp h]; rfl
  | j + 1, w, h => by
    rw [wordsAt] at h
    obtain ⟨v, hv, hw⟩ := List.mem_flatMap.mp h
    rw [ext_len hw, wordsAt_len hv]
theorem flatMap_take {α β : Type} {f : α → List β} {l : List α} {i : Nat} {x : α} (h : l[i]? = some x) : (l.take (i + 1)).flatMap f = (l.take i).flatMap f ++ f x := by
  rw [List.take_add_one, h, List.flatMap_append]; simp
theorem extK_le (cs : List Int) (w : List Nat) (k : Nat) : (extK cs w k).length ≤ 1 := by
  unfold extK; split <;> simp
theorem flatMap_le {α β : Type} {f : α → List β} {b : Nat} : ∀ {l : List α}, (∀ x ∈ l, (f x).length ≤ b) → (l.flatMap f).length ≤ l.length * b
  | [], _ => by simp
  | x :: l, h => by
    rw [List.flatMap_cons, List.length_append, List.length_cons, Nat.succ_mul]
    have := flatMap_le (l := l) fun y hy => h y (List.mem_cons_of_mem _ hy)
    have := h x List.mem_cons_self
    lia
theorem ext_le (cs : List Int) (w : List Nat) : (ext cs w).length ≤ cs.length := by
  have := flatMap_le (f := extK cs w) (b := 1) (l := List.range cs.length) fun k _ => extK_le cs w k
  simpa [ext] using this
theorem wordsAt_le (cs : List Int) : ∀ j : Nat, (wordsAt cs j).length ≤ cs.length ^ j
  | 0 => by simp [wordsAt]
  | j + 1 => by
    rw [wordsAt, Nat.pow_succ]
    exact Nat.le_trans (flatMap_le fun w _ => ext_le cs w) (Nat.mul_le_mul_right _ (wordsAt_le cs j))
noncomputable def wT (j : Nat) (w : List Nat) : T := if j ≤ 1 then .str w else .tstr w
end
noncomputable section
set_option maxRecDepth 512
noncomputable def rot (c : Nat) (w : List Nat) : List Nat := w.drop c ++ w.take c
noncomputable def rotEq (n : Nat) (w : List Nat) : List Bool := (List.range n).map fun i => rot (i + 1) w == w
noncomputable def times (n : Nat) (w : List Nat) : Nat := (rotEq n w).count true
noncomputable def firstT (n : Nat) (w : List Nat) : Nat := (rotEq n w).findIdx id
theorem rotEq_length (n : Nat) (w : List Nat) : (rotEq n w).length = n := by simp [rotEq]
theorem times_le (n : Nat) (w : List Nat) : times n w ≤ n := by
  have := List.count_le_length (a := true) (l := rotEq n w)
  rwa [rotEq_length] at this
theorem rotEq_get {n : Nat} {w : List Nat} {i : Nat} (h : i < n) : (rotEq n w)[i]? = some (rot (i + 1) w == w) := by simp [rotEq, h]
theorem rot_whole {n : Nat} {w : List Nat} (h : w.length = n) : rot n w = w := by simp [rot, ← h]
theorem firstT_lt {n : Nat} {w : List Nat} (hn : 0 < n) (h : w.length = n) : firstT n w < n := by
  have : (rotEq n w).findIdx id < (rotEq n w).length := by
    rw [List.findIdx_lt_length]
    refine ⟨true, List.mem_of_getElem? (i := n - 1) ?_, rfl⟩
    rw [rotEq_get (by lia), show n - 1 + 1 = n by lia, rot_whole h]; simp
  rwa [rotEq_length] at this
theorem firstT_at {n : Nat} {w : List Nat} (hn : 0 < n) (h : w.length = n) : (rotEq n w)[firstT n w]? = some true := by
  have hl := firstT_lt hn h
  have hl' : (rotEq n w).findIdx id < (rotEq n w).length := by rw [rotEq_length]; exact hl
  have h1 := List.findIdx_getElem (w := hl')
  rw [firstT, List.getElem?_eq_getElem hl']
  exact congrArg some h1
theorem firstT_before {n : Nat} {w : List Nat} {j : Nat} (hj : j < firstT n w) : (rotEq n w)[j]? = some false := by
  have h1 := List.not_of_lt_findIdx hj
  have hl : j < (rotEq n w).length := Nat.lt_of_lt_of_le hj List.findIdx_le_length
  rw [List.getElem?_eq_getElem hl]
  exact congrArg some (by simpa using h1)
noncomputable def likeAt (n : Nat) (ws : List (List Nat)) : List Int := (List.range (n + 1)).map fun t => ((ws.countP fun w => times n w == t : Nat) : Int)
theorem likeAt_length (n : Nat) (ws : List (List Nat)) : (likeAt n ws).length = n + 1 := by simp [likeAt]
theorem likeAt_get {n : Nat} {ws : List (List Nat)} {t : Nat} (h : t ≤ n) : (likeAt n ws)[t]? = some ((ws.countP fun w => times n w == t : Nat) : Int) := by simp [likeAt, Nat.lt_succ_of_le h]
theorem likeAt_nil (n : Nat) : likeAt n [] = List.replicate (n + 1) 0 := by
  unfold likeAt
  simp only [List.countP_nil]
  exact (List.map_const' ..).trans (by rw [List.length_range]; rfl)
theorem likeAt_snoc {n : Nat} {ws : List (List Nat)} {w : List Nat} : likeAt n (ws ++ [w]) = (likeAt n ws).set (times n w) (((ws.countP fun v => times n v == times n w : Nat) : Int) + 1) := by
  apply List.ext_getElem?
  intro i
  rw [List.getElem?_set]
  have ht := times_le n w
  by_cases hi : i ≤ n
  · rw [likeAt_get hi, likeAt_get hi, likeAt_length, List.countP_append, List.countP_singleton]
    by_cases e : times n w = i
    · subst e; rw [if_pos rfl, if_pos (show times n w < n + 1 by lia)]; simp
    · have e' : (times n w == i) = false := by rw [beq_eq_false_iff_ne]; exact e
      rw [if_neg e, e']; simp
  · have h1 : (likeAt n (ws ++ [w]))[i]? = none := List.getElem?_eq_none (by rw [likeAt_length]; lia)
    have h2 : (likeAt n ws)[i]? = none := List.getElem?_eq_none (by rw [likeAt_length]; lia)
    rw [h1, h2, if_neg (by lia)]
noncomputable def ringsAt (n : Nat) (ws : List (List Nat)) : List Int := (List.range (n + 1)).map fun t : Nat => ((t : Int) * ((ws.countP fun w => times n w == t : Nat) : Int)).fdiv n
theorem ringsAt_length (n : Nat) (ws : List (List Nat)) : (ringsAt n ws).length = n + 1 := by simp [ringsAt]
noncomputable def figAt (n : Nat) (rs : List Int) (p : Nat) : Int := (((List.range n).filter fun i => p % (i + 1) == 0).map fun i => rs.getD (i + 1) 0).sum
noncomputable def figsAt (n : Nat) (ws : List (List Nat)) : List Int := (List.range n).map (figAt n (ringsAt n ws))
noncomputable def strip : Nat → List Int → List Int
  | 0, l => l
  | n + 1, l => if 1 < l.length ∧ l.getLast? = some 0 then strip n l.dropLast else l
noncomputable def figures (n : Nat) (ws : List (List Nat)) : List Int := strip n (figsAt n ws)
end
noncomputable section
set_option maxRecDepth 512
noncomputable def grow (c : List Int) (b : Nat) : List Int := if c.length ≤ b then c ++ List.replicate (b + 1 - c.length) 0 else c
noncomputable def bump (c : List Int) (b : Nat) : List Int := (grow c b).set b ((grow c b).getD b 0 + 1)
noncomputable def scanW : List Nat → List Int → Nat → Nat → Nat → List Int × Nat × Nat × Nat
  | [], c, b, n, t => (c, b, n, t)
  | x :: r, c, b, n, t => if x = 32 then scanW r c (b + 1) (n + 1) t else if x = 9 then scanW r (bump c b) 0 (n + 1) (t + 1) else (c, b, n, t)
theorem grow_len {c : List Int} {b : Nat} : b < (grow c b).length ∧ (grow c b).length ≤ max c.length (b + 1) := by
  unfold grow
  split
  · rw [List.length_append, List.length_replicate]; lia
  · lia
theorem bump_len {c : List Int} {b : Nat} : (bump c b).length ≤ max c.length (b + 1) := by
  rw [bump, List.length_set]; exact grow_len.2
noncomputable def normT (c : List Int) (b : Nat) : T := .tup [.tup (c.map .int), .int b]
noncomputable def wsOf (raw : List Nat) : T := .ws (.str raw) (scanW raw [] 0 0 0).2.2.1 (scanW raw [] 0 0 0).2.2.2 (normT (scanW raw [] 0 0 0).1 (scanW raw [] 0 0 0).2.1) (decide ((scanW raw [] 0 0 0).1.length ≤ 1))
noncomputable def runW (c : List Int) (b : Nat) : Int := if (b : Int) > (c.length : Int) - 1 then b else (c.length : Int) - 1
noncomputable def indentAt (c : List Int) (ts : Nat) (j : Nat) : Int := ((List.range j).map fun i => ((ts + i) / ts : Nat) * c.getD (ts + i) 0).sum
noncomputable def indentW (c : List Int) (b t : Nat) (ts : Nat) : Int := b + ts * (indentAt c ts (c.length - ts) + t)
theorem indentAt_succ (c : List Int) (ts j : Nat) : indentAt c ts (j + 1) = indentAt c ts j + ((ts + j) / ts : Nat) * c.getD (ts + j) 0 := by
  unfold indentAt
  rw [List.range_succ, List.map_append, List.sum_append]; simp
structure WS where
  raw : List Nat
  c : List Int
  b : Nat
  n : Nat
  t : Nat
noncomputable def WS.T (w : WS) : Mine.T := .ws (.str w.raw) w.n w.t (normT w.c w.b) (decide (w.c.length ≤ 1))
noncomputable def wsR (raw : List Nat) : WS := ⟨raw, (scanW raw [] 0 0 0).1, (scanW raw [] 0 0 0).2.1, (scanW raw [] 0 0 0).2.2.1, (scanW raw [] 0 0 0).2.2.2⟩
theorem wsR_T (raw : List Nat) : (wsR raw).T = wsOf raw := rfl
noncomputable def WS.run (w : WS) : Int := runW w.c w.b
noncomputable def WS.indent (w : WS) (ts : Nat) : Int := indentW w.c w.b w.t ts
noncomputable def witRow (v w : WS) (i : Nat) : Int × Int × Int := (1 + (i : Int), v.indent (i + 1), w.indent (i + 1))
noncomputable def witOf (v w : WS) (top : Nat) : List (Int × Int × Int) := ((List.range top).map (witRow v w)).filter fun r => r.2.1 != r.2.2
noncomputable def topOf (v w : WS) : Nat := ((if w.run > v.run then w.run else v.run) + 1).toNat
end
noncomputable section
set_option maxRecDepth 512
theorem pick_tab : ∀ m, m < 7 → 4 ≤ m → pickIdx m none (some 1) none = [0] ∧ pickIdx (m + 1) (some 1) none none = (List.range m).map (· + 1) := by decide +kernel
theorem pick_first {m : Nat} (h4 : 4 ≤ m) (h6 : m ≤ 6) : pickIdx m none (some 1) none = [0] := (pick_tab m (Nat.lt_succ_of_le h6) h4).1
theorem pick_rest {m : Nat} (h4 : 4 ≤ m) (h6 : m ≤ 6) : pickIdx (m + 1) (some 1) none none = (List.range m).map (· + 1) := (pick_tab m (Nat.lt_succ_of_le h6) h4).2
theorem filter_rest {α : Type} (l : List α) : ∀ m : Nat, ((List.range m).map (· + 1)).filterMap (l[·]?) = (l.drop 1).take m
  | 0 => by simp
  | m + 1 => by
    rw [List.range_succ, List.map_append, List.filterMap_append, filter_rest l m, List.take_add_one, List.getElem?_drop, Nat.add_comm 1 m]
    cases h : l[m + 1]? <;> simp [h]
noncomputable def cntAt (rs : List Int) (r : Nat) : Int := (((rs.map fun x => x == (r : Int)).count true : Nat) : Int)
noncomputable def cntsOf (rs : List Int) (M : Int) : List Int := (List.range (M.toNat + 1)).map (cntAt rs)
noncomputable def tailOf (bl : Nat) : List Nat := List.replicate bl 32 ++ [120, 9, 32]
noncomputable def turn1 (rs : List Int) : List Int := rs.drop 1 ++ rs.take 1
theorem rest_of {α : Type} {l : List α} {m : Nat} (h : l.length = m + 1) : ((List.range m).map (· + 1)).filterMap (l[·]?) = l.drop 1 := by
  rw [filter_rest]
  exact List.take_of_length_le (by rw [List.length_drop]; omega)
end
noncomputable section
theorem ha_kind : builtinKind "hasattr" = none := by decide +kernel
theorem ha_plain : plainId "hasattr" = true := by decide +kernel
theorem ha_entry : entryFor table "hasattr" = some Builtin.«hasattr» := entryFor_of_tree (by kernel_rfl)
theorem ha_args (a b : Value) : argsOk "hasattr" ⟨[a, b], []⟩ := by unfold argsOk; kernel_rfl
theorem md_type : typeOf (.builtin "list.__getitem__") = pure (.type "method_descriptor") := by show builtinType _ = _; rw [builtinType_eq_fast]; kernel_rfl
theorem wd_type : typeOf (.builtin "str.__getitem__") = pure (.type "wrapper_descriptor") := by show builtinType _ = _; rw [builtinType_eq_fast]; kernel_rfl
theorem slot_mdget : Slot "method_descriptor" "__get__" "method_descriptor.__get__" :=
  .of (owner := "method_descriptor") (n := "__get__") (by rw [typeLookup_type, builtinLookup_eq_fast]; kernel_rfl) (by decide +kernel) (by decide +kernel) (by decide +kernel)
    (by first | exact .inl (by decide +kernel) | exact .inr (by decide +kernel)) (by rw [isSubtype_type]; kernel_rfl)
theorem slot_wdget : Slot "wrapper_descriptor" "__get__" "wrapper_descriptor.__get__" :=
  .of (owner := "wrapper_descriptor") (n := "__get__") (by rw [typeLookup_type, builtinLookup_eq_fast]; kernel_rfl) (by decide +kernel) (by decide +kernel) (by decide +kernel)
    (by first | exact .inl (by decide +kernel) | exact .inr (by decide +kernel)) (by rw [isSubtype_type]; kernel_rfl)
theorem entry_mdget : entryFor table "method_descriptor.__get__" = some Builtin.«method_descriptor.__get__» := entryFor_of_tree (by kernel_rfl)
theorem entry_wdget : entryFor table "wrapper_descriptor.__get__" = some Builtin.«wrapper_descriptor.__get__» := entryFor_of_tree (by kernel_rfl)
theorem args_mdget (a b c : Value) : argsOk "method_descriptor.__get__" ⟨[a, b, c], []⟩ := by unfold argsOk; kernel_rfl
theorem args_wdget (a b c : Value) : argsOk "wrapper_descriptor.__get__" ⟨[a, b, c], []⟩ := by unfold argsOk; kernel_rfl
theorem lk_md_set : typeLookup (.type "method_descriptor") "__set__" = pure none := by rw [typeLookup_type, builtinLookup_eq_fast]; kernel_rfl
theorem lk_wd_set : typeLookup (.type "wrapper_descriptor") "__set__" = pure none := by rw [typeLookup_type, builtinLookup_eq_fast]; kernel_rfl
theorem lk_md_del : typeLookup (.type "method_descriptor") "__delete__" = pure none := by rw [typeLookup_type, builtinLookup_eq_fast]; kernel_rfl
theorem lk_wd_del : typeLookup (.type "wrapper_descriptor") "__delete__" = pure none := by rw [typeLookup_type, builtinLookup_eq_fast]; kernel_rfl
theorem owner_str : ".".intercalate ("str.__getitem__".cutAt '.').dropLast = "str" := by decide +kernel
theorem owner_list : ".".intercalate ("list.__getitem__".cutAt '.').dropLast = "list" := by decide +kernel
theorem sub_str' : isSubtype (.type "str") (.type (".".intercalate ("str.__getitem__".cutAt '.').dropLast)) = pure true := by rw [owner_str, isSubtype_type]; kernel_rfl
theorem sub_list' : isSubtype (.type "list") (.type (".".intercalate ("list.__getitem__".cutAt '.').dropLast)) = pure true := by rw [owner_list, isSubtype_type]; kernel_rfl
theorem told_list : Manifest.toldItsClass.contains "list.__getitem__" = false := by decide +kernel
section
variable {prog : Program} {w : World} {A : Around} {E : Value → Shared → Prop} {h : Heap} {g : Array GenState} {d : Drawn} {t : Nat} {os : OsState} {x : Str} {u : Tok}
theorem get_str {R : Result → Shared → Prop} (hq : ∀ v h' t', (∀ b o, h.get? b = some o → h'.get? b = some o) → R (.ok (.ret (.ref v))) ⟨h', g, d, t', os⟩) :
    codeAny (model prog w) A (.call (.builtin "wrapper_descriptor.__get__") ⟨[.builtin "str.__getitem__", .str x u, .type "str"], []⟩) R ⟨h, g, d, t, os⟩ := by
  have hT : (⟨h, g, d, t, os⟩ : Shared).TypeIs (.str x u) "str" := rfl
  have hT5 : (⟨h, g, d, t, os⟩ : Shared).TypeIs (.builtin "str.__getitem__") "wrapper_descriptor" := wd_type
  have f8 := sub_str'
  refine codeAny_call_builtin slot_wdget.plain entry_wdget (slot_wdget.check _ _ _ _ _ _ _ _ hT5 (args_wdget _ _ _) ?_)
  repeat (any_goals (first | assumption | wp_step))
  exact hq _ _ _ fun b o e => Heap.get?_push_of_some _ e
theorem ga_str {tk : Tok} {Q : Fin → Shared → Prop} (hq : ∀ v h' t', (∀ b o, h.get? b = some o → h'.get? b = some o) → Q (.done (.ret (.ref v))) ⟨h', g, d, t', os⟩) :
    wpAny (model prog w) A (Builtin.«object.__getattribute__» ⟨[.str x u, .str (Str.ofString "__getitem__") tk], []⟩) Q E ⟨h, g, d, t, os⟩ := by
  have hT : (⟨h, g, d, t, os⟩ : Shared).TypeIs (.str x u) "str" := rfl
  have hT5 : (⟨h, g, d, t, os⟩ : Shared).TypeIs (.builtin "str.__getitem__") "wrapper_descriptor" := wd_type
  have f4 := PySem.F.slot_str_getitem.lookup
  have f5 := wd_type
  have f6 := slot_wdget.lookup
  have f7 := lk_wd_set
  have f8 := lk_wd_del
  repeat (any_goals (first | assumption | wp_step))
  refine get_str fun v h' t' hk => ?_
  repeat (any_goals (first | assumption | wp_step))
  exact hq _ _ _ hk
theorem call_ga_str {tk : Tok} {R : Result → Shared → Prop} (hq : ∀ v h' t', (∀ b o, h.get? b = some o → h'.get? b = some o) → R (.ok (.ret (.ref v))) ⟨h', g, d, t', os⟩) :
    codeAny (model prog w) A (.call (.builtin "object.__getattribute__") ⟨[.str x u, .str (Str.ofString "__getitem__") tk], []⟩) R ⟨h, g, d, t, os⟩ :=
  codeAny_call_builtin PySem.F.slot_str_getattribute.plain PySem.F.entry_object_getattribute (PySem.F.slot_str_getattribute.check _ _ _ _ _ _ _ _ (show (⟨h, g, d, t, os⟩ : Shared).TypeIs (.str x u) "str" from rfl) (PySem.F.args_object_getattribute_2 _ _) (ga_str hq))
theorem by_str {tk : Tok} {Q : Value → Shared → Prop} (hq : ∀ v h' t', (∀ b o, h.get? b = some o → h'.get? b = some o) → Q (.ref v) ⟨h', g, d, t', os⟩) : wpAny (model prog w) A (getAttrBy (.str x u) (.str (Str.ofString "__getitem__") tk) false) Q E ⟨h, g, d, t, os⟩ := by
  have hT : (⟨h, g, d, t, os⟩ : Shared).TypeIs (.str x u) "str" := rfl
  have f2 := PySem.F.slot_str_getattribute.lookup
  have f3 := PySem.F.slot_str_getattribute.bind (.str x u)
  repeat (any_goals (first | assumption | wp_step))
  refine call_ga_str fun v h' t' hk => ?_
  repeat (any_goals (first | assumption | wp_step))
  exact hq _ _ _ hk
set_option maxHeartbeats 2000000 in
theorem has_str {tk : Tok} {Q : Value → Shared → Prop} (hq : ∀ h' t', (∀ b o, h.get? b = some o → h'.get? b = some o) → Q (.bool true) ⟨h', g, d, t', os⟩) :
    wpAny (model prog w) A (call (.builtin "hasattr") [.str x u, .str (Str.ofString "__getitem__") tk]) Q E ⟨h, g, d, t, os⟩ := by
  have hT : (⟨h, g, d, t, os⟩ : Shared).TypeIs (.str x u) "str" := rfl
  have f2 := PySem.F.slot_str_getattribute.lookup
  have f4 := PySem.F.slot_str_getitem.lookup
  refine call_function_entry ha_kind ha_plain ha_entry (ha_args _ _) ?_
  unfold Builtin.«hasattr»
  repeat (any_goals (first | assumption | with_reducible apply by_str | wp_step))
  intro v h' t' hk
  show wpAny _ _ (pure (some (Value.ref v))) _ _ _
  exact wpAny_pure (wpAny_pure ⟨_, rfl, hq _ _ hk⟩)
end
end
noncomputable section
section
variable {prog : Program} {w : World} {A : Around} {E : Value → Shared → Prop} {h : Heap} {g : Array GenState} {d : Drawn} {t : Nat} {os : OsState} {a : Addr} {o : Obj}
theorem get_list {R : Result → Shared → Prop} (hx : h.get? a = some o) (hc : o.cls = .type "list") (hq : ∀ v h' t', (∀ b o, h.get? b = some o → h'.get? b = some o) → R (.ok (.ret (.ref v))) ⟨h', g, d, t', os⟩) :
    codeAny (model prog w) A (.call (.builtin "method_descriptor.__get__") ⟨[.builtin "list.__getitem__", .ref a, .type "list"], []⟩) R ⟨h, g, d, t, os⟩ := by
  have hT : (⟨h, g, d, t, os⟩ : Shared).TypeIs (.ref a) "list" := ⟨_, hx, hc⟩
  have hT5 : (⟨h, g, d, t, os⟩ : Shared).TypeIs (.builtin "list.__getitem__") "method_descriptor" := md_type
  have f8 := sub_list'
  have f9 := told_list
  refine codeAny_call_builtin slot_mdget.plain entry_mdget (slot_mdget.check _ _ _ _ _ _ _ _ hT5 (args_mdget _ _ _) ?_)
  unfold Builtin.«method_descriptor.__get__»
  iterate 3 (any_goals (first | assumption | wp_step))
  show wpAny _ _ (pure (Value.builtin "list.__getitem__", some (Value.ref a), some (Value.type "list"))) _ _ _
  refine wpAny_pure ?_
  dsimp only
  rw [told_list, if_neg Bool.false_ne_true]
  repeat (any_goals (first | assumption | wp_step))
  exact hq _ _ _ fun b o e => Heap.get?_push_of_some _ e
set_option maxHeartbeats 2000000 in
theorem ga_list {tk : Tok} {Q : Fin → Shared → Prop} {vs : Array Value} {n : Nat} (hx : h.get? a = some o) (hc : o.cls = .type "list") (hdn : o.dict = none) (hdd : o.data = .seq vs n) (hq : ∀ v h' t', (∀ b o, h.get? b = some o → h'.get? b = some o) → Q (.done (.ret (.ref v))) ⟨h', g, d, t', os⟩) :
    wpAny (model prog w) A (Builtin.«object.__getattribute__» ⟨[.ref a, .str (Str.ofString "__getitem__") tk], []⟩) Q E ⟨h, g, d, t, os⟩ := by
  have hT : (⟨h, g, d, t, os⟩ : Shared).TypeIs (.ref a) "list" := ⟨_, hx, hc⟩
  have hT5 : (⟨h, g, d, t, os⟩ : Shared).TypeIs (.builtin "list.__getitem__") "method_descriptor" := md_type
  have f4 := PySem.F.slot_list_getitem.lookup
  have f5 := md_type
  have f6 := slot_mdget.lookup
  have f7 := lk_md_set
  have f8 := lk_md_del
  repeat (any_goals (first | assumption | wp_step))
  rw [hdd]
  repeat (any_goals (first | assumption | wp_step))
  rw [hc]
  dsimp only
  rw [hdn]
  show wpAny _ A (pure none) _ _ _
  refine wpAny_pure ?_
  repeat (any_goals (first | assumption | wp_step))
  refine get_list hx hc fun v h' t' hk => ?_
  repeat (any_goals (first | assumption | wp_step))
  exact hq _ _ _ hk
theorem call_ga_list {tk : Tok} {R : Result → Shared → Prop} {vs : Array Value} {n : Nat} (hx : h.get? a = some o) (hc : o.cls = .type "list") (hdn : o.dict = none) (hdd : o.data = .seq vs n) (hq : ∀ v h' t', (∀ b o, h.get? b = some o → h'.get? b = some o) → R (.ok (.ret (.ref v))) ⟨h', g, d, t', os⟩) :
    codeAny (model prog w) A (.call (.builtin "list.__getattribute__") ⟨[.ref a, .str (Str.ofString "__getitem__") tk], []⟩) R ⟨h, g, d, t, os⟩ :=
  codeAny_call_builtin PySem.F.slot_list_getattribute.plain PySem.F.entry_list_ga (PySem.F.slot_list_getattribute.check _ _ _ _ _ _ _ _ (show (⟨h, g, d, t, os⟩ : Shared).TypeIs (.ref a) "list" from ⟨_, hx, hc⟩) (PySem.F.args_list_getattribute_2 _ _) (ga_list hx hc hdn hdd hq))
theorem by_list {tk : Tok} {Q : Value → Shared → Prop} {vs : Array Value} {n : Nat} (hx : h.get? a = some o) (hc : o.cls = .type "list") (hdn : o.dict = none) (hdd : o.data = .seq vs n) (hq : ∀ v h' t', (∀ b o, h.get? b = some o → h'.get? b = some o) → Q (.ref v) ⟨h', g, d, t', os⟩) : wpAny (model prog w) A (getAttrBy (.ref a) (.str (Str.ofString "__getitem__") tk) false) Q E ⟨h, g, d, t, os⟩ := by
  have hT : (⟨h, g, d, t, os⟩ : Shared).TypeIs (.ref a) "list" := ⟨_, hx, hc⟩
  have f2 := PySem.F.slot_list_getattribute.lookup
  have f3 := PySem.F.slot_list_getattribute.bind (.ref a)
  repeat (any_goals (first | assumption | wp_step))
  refine call_ga_list hx hc hdn hdd fun v h' t' hk => ?_
  repeat (any_goals (first | assumption | wp_step))
  exact hq _ _ _ hk
set_option maxHeartbeats 2000000 in
theorem has_list {tk : Tok} {Q : Value → Shared → Prop} {vs : Array Value} {n : Nat} (hx : h.get? a = some o) (hc : o.cls = .type "list") (hdn : o.dict = none) (hdd : o.data = .seq vs n) (hq : ∀ h' t', (∀ b o, h.get? b = some o → h'.get? b = some o) → Q (.bool true) ⟨h', g, d, t', os⟩) :
    wpAny (model prog w) A (call (.builtin "hasattr") [.ref a, .str (Str.ofString "__getitem__") tk]) Q E ⟨h, g, d, t, os⟩ := by
  have hT : (⟨h, g, d, t, os⟩ : Shared).TypeIs (.ref a) "list" := ⟨_, hx, hc⟩
  have f2 := PySem.F.slot_list_getattribute.lookup
  have f4 := PySem.F.slot_list_getitem.lookup
  have f5 : isSubtype (.type "list") (.type "module") = pure false := by rw [isSubtype_type]; kernel_rfl
  refine call_function_entry ha_kind ha_plain ha_entry (ha_args _ _) ?_
  unfold Builtin.«hasattr»
  repeat (any_goals (first | assumption | with_reducible apply by_list hx hc hdn hdd | wp_step))
  intro v h' t' hk
  show wpAny _ _ (pure (some (Value.ref v))) _ _ _
  exact wpAny_pure (wpAny_pure ⟨_, rfl, hq _ _ hk⟩)
end
end
noncomputable section
noncomputable def colStep (size : Int) (col : Int) (n : Nat) : Int := if n = 9 then col.fdiv size * size + size else col + 1
noncomputable def colOf (size : Int) (c : List Nat) : Int := c.foldl (colStep size) 0
theorem colStep_bd {size col : Int} {n : Nat} (hs : 1 ≤ size) (h0 : 0 ≤ col) : 0 ≤ colStep size col n ∧ colStep size col n ≤ col + size := by
  unfold colStep
  split
  · have h1 := Int.mul_fdiv_add_fmod col size
    have h2 := Int.fmod_nonneg_of_pos col (show 0 < size by lia)
    have h3 := Int.fmod_lt_of_pos col (show 0 < size by lia)
    rw [Int.mul_comm] at h1
    constructor <;> lia
  · constructor <;> lia
theorem colFold_bd {size : Int} (hs : 1 ≤ size) : ∀ (c : List Nat) (col : Int), 0 ≤ col → 0 ≤ c.foldl (colStep size) col ∧ c.foldl (colStep size) col ≤ col + c.length * size
  | [], col, h0 => by simp [h0]
  | n :: c, col, h0 => by
    obtain ⟨h1, h2⟩ := colStep_bd (n := n) hs h0
    obtain ⟨h3, h4⟩ := colFold_bd hs c _ h1
    rw [List.foldl_cons]
    refine ⟨h3, ?_⟩
    rw [List.length_cons]
    have : ((c.length + 1 : Nat) : Int) * size = c.length * size + size := by push_cast; rw [Int.add_mul]; lia
    lia
theorem foldl_take_succ {α β : Type} (f : β → α → β) (b : β) {l : List α} {j : Nat} {x : α} (h : l[j]? = some x) : (l.take (j + 1)).foldl f b = f ((l.take j).foldl f b) x := by
  rw [List.take_add_one, h, List.foldl_append]; rfl
theorem column_spec {B : Bs} (hB : LB B) {c : List Nat} {size : Int} (hs : 1 ≤ size) (hs' : size ≤ 1000) (hc : c.length ≤ 1000) : FunJ B (.ref 174) 1 [.str c, .int size] (fun r => r = .int (colOf size c)) := by
  refine FunJ_of (n := 0) (ps := [Str.ofString "lead", Str.ofString "size"]) (ls := [Str.ofString "column", Str.ofString "sign"]) hB.ok (by rw [hB.K]; exact rfl) (by rw [hB.K]; kernel_rfl!) rfl rfl rfl rfl rfl rfl rfl ?_ rfl ?_ ?_ ?_
  · exact len2 fun _ _ => rfl
  · decide +kernel
  · decide +kernel
  · intro A L env s₀ P G₀ hA hP E
    dsimp only at E
    walk_at "jn"
    walk_at "jgo"
    refine JF_For (k := 3) (by walk_at "jfn") rfl (by walk_at "jkind") (fun _ => rfl) ?_
    walk_at "jname"
    refine ⟨c.map fun n => .str [n], fun j m2 o2 => o2 = [] ∧ ∃ s, m2 = [.t (.str c), .t (.int size), .t (.int ((c.take j).foldl (colStep size) 0)), s], src_str hA.1, ⟨rfl, _, rfl⟩, ?_, ?_⟩
    · rintro P j y m2 o2 hj ⟨rfl, s, rfl⟩
      rw [List.getElem?_map] at hj
      obtain ⟨n, hn, rfl⟩ := Option.map_eq_some_iff.mp hj
      walk_at "jset"
      walk_at "jn"
      walk_at "jgo"
      have hb := colFold_bd hs (c.take j) 0 (Int.le_refl 0)
      have hl : ((c.take j).length : Int) * size ≤ 1000 * 1000 := Int.mul_le_mul (by simp; lia) hs' (by lia) (by lia)
      have hst := foldl_take_succ (colStep size) 0 hn
      generalize (c.take j).foldl (colStep size) 0 = col at hb hst ⊢
      have hq := Int.mul_fdiv_add_fmod col size
      have hq2 := Int.fmod_nonneg_of_pos col (show 0 < size by lia)
      have hq3 := Int.fdiv_nonneg hb.1 (show 0 ≤ size by lia)
      have hq4 : col.fdiv size ≤ col := by
        have : 1 * col.fdiv size ≤ size * col.fdiv size := Int.mul_le_mul_of_nonneg_right hs hq3
        lia
      split
      · rename_i q
        obtain rfl : n = 9 := by simpa using q
        walk_at "jgo"
        refine B_floordiv (by lia) (PyProof.noPylong_small (by lia)) ?_
        walk_at "jgo"
        refine B_mul (IntMulOk.of_right (intBits_le_64 (by lia) (by lia))) ?_
        walk_at "jgo"
        refine ⟨rfl, .t (.str [9]), ?_⟩
        rw [hst]; rfl
      · rename_i q
        have q : n ≠ 9 := by simpa using q
        walk_at "jgo"
        refine ⟨rfl, .t (.str [n]), ?_⟩
        rw [hst]
        unfold colStep
        rw [if_neg q]
    · rintro m2 o2 ⟨rfl, s, rfl⟩
      walk_at "jgo"
      rw [List.length_map, List.take_length]; rfl
end
noncomputable section
noncomputable def SubOk : List (Str × Addr) → List (Str × Addr) → Prop
  | [], _ => True
  | p :: r, cells => cells.lookup p.1 = some p.2 ∧ SubOk r cells
theorem SubOk.sub : ∀ {cl cells : List (Str × Addr)}, SubOk cl cells → ∀ y c, cl.lookup y = some c → cells.lookup y = some c
  | [], _, _, y, c, h => by simp at h
  | (n, a) :: r, cells, h, y, c, e => by
    rw [List.lookup_cons] at e
    split at e
    · rename_i q
      have := eq_of_beq q; subst this
      cases e; exact h.1
    · exact SubOk.sub h.2 y c e
theorem compOk {X : Act} {sc : Scope} {cells : List (Str × Addr)} {scope : Scope} {cl : List (Str × Addr)} {names : List Str} {x : Str} {k : Nat} {iter : Expr} (E : EnvIs X.env sc cells)
    (h1 : closureFor scope ⟨sc, X.env.locals, mainGlobals, cells, X.env.qual, X.env.func, X.env.code, X.env.frame, builtinsNs⟩ = pure cl)
    (h2 : ∀ y ∈ scope.names, y.2 ≠ .cell) (h3 : scope.kind = .function) (h4 : ∀ y ∈ scope.names, y.2 = .local → scope.names.lookup y.1 = some .local) (h5 : scope.names.lookup x = some .local) (h6 : SubOk cl cells) (h7 : names.Nodup) (h8 : names[k]? = some x)
    (h9 : ∀ x, foldedSetIterable iter X.env x = pure x) : CompOk X scope cl names x k iter where
  clos := by rw [E.eq]; exact h1
  cell := h2
  kind := h3
  locs := h4
  hx := h5
  sub := by rw [E.cells]; exact h6.sub
  nd := h7
  hi := h8
  hs := h9
noncomputable def CSlot (X : Act) (scope : Scope) (cl : List (Str × Addr)) (m : List S) (y : Str) (sv : S) : Prop :=
  (scope.names.lookup y = some .local ∧ sv = .undef) ∨
      (((compEnvC scope cl 0 X.env).kindOf y = some .cell ∨ (compEnvC scope cl 0 X.env).kindOf y = some .free) ∧ (X.env.kindOf y = some .cell ∨ X.env.kindOf y = some .free) ∧ cl.lookup y = X.env.cells.lookup y ∧ ∃ j : Nat, X.names[j]? = some y ∧ m[j]? = some sv)
theorem slotU {X : Act} {scope : Scope} {cl : List (Str × Addr)} {m : List S} {y : Str} (h : scope.names.lookup y = some .local) : CSlot X scope cl m y .undef := .inl ⟨h, rfl⟩
theorem slotC {X : Act} {scope : Scope} {cl : List (Str × Addr)} {m : List S} {y : Str} {sv : S} {sc : Scope} {cells : List (Str × Addr)} (E : EnvIs X.env sc cells) (j : Nat)
    (h1 : (relabel scope (envK sc)).names.lookup y = some .cell) (h2 : sc.names.lookup y = some .cell) (h3 : cl.lookup y = cells.lookup y) (h4 : X.names[j]? = some y) (h5 : m[j]? = some sv) : CSlot X scope cl m y sv :=
  .inr ⟨.inl ((E.comp scope cl 0).kind h1), .inl (E.kind h2), by rw [E.cells]; exact h3, j, h4, h5⟩
theorem cturn0 {B : Bs} {X : Act} {A : Around} {m : List S} {o : Own} {elt : Expr} {K : Option T → Own → Prop} {scope : Scope} {cl : List (Str × Addr)} {names : List Str} {C : Addr} {h : Heap} {P : AM} {sc : Scope} {cells : List (Str × Addr)} (E : EnvIs X.env sc cells)
    (hh : EnvIs (compEnvC scope cl C X.env) (relabel scope (envK sc)) cl → JV B ⟨compEnvC scope cl C X.env, names, X.s₀, P, X.G₀⟩ A m o (eval elt (compEnvC scope cl C X.env)) fun sv m2 o2 => m2 = m ∧ ∃ z, sv = .t z ∧ K (some z) o2) :
    CTurn B ((X.under h (compEnvC scope cl C X.env) names).at P) A m o [] elt K := ⟨rfl, hh (E.comp scope cl C)⟩
theorem cturn1 {B : Bs} {X : Act} {A : Around} {m : List S} {o : Own} {elt c : Expr} {K : Option T → Own → Prop} {scope : Scope} {cl : List (Str × Addr)} {names : List Str} {C : Addr} {h : Heap} {P : AM} {sc : Scope} {cells : List (Str × Addr)} (E : EnvIs X.env sc cells)
    (hh : EnvIs (compEnvC scope cl C X.env) (relabel scope (envK sc)) cl → JB B ⟨compEnvC scope cl C X.env, names, X.s₀, P, X.G₀⟩ A m o (isTrue c (compEnvC scope cl C X.env) (eval c (compEnvC scope cl C X.env))) fun b m1 o1 => m1 = m ∧
      if b = true then JV B ⟨compEnvC scope cl C X.env, names, X.s₀, P, X.G₀⟩ A m1 o1 (eval elt (compEnvC scope cl C X.env)) (fun sv m2 o2 => m2 = m ∧ ∃ z, sv = .t z ∧ K (some z) o2) else K none o1) :
    CTurn B ((X.under h (compEnvC scope cl C X.env) names).at P) A m o [c] elt K := hh (E.comp scope cl C)
noncomputable def leadOf (ns : List Int) : List Nat := (ns.map fun r => List.replicate r.toNat 32 ++ [9]).flatten
theorem lead_spec {B : Bs} (hB : LB B) {ns : List Int} (hn : ∀ r ∈ ns, 0 ≤ r ∧ r ≤ 1000) (hc : ns.length ≤ 1000) : FunJ B (.ref 167) 1 [.lst (ns.map .int)] (fun r => r = .str (leadOf ns)) := by
  refine FunJ_of (n := 0) (ps := [Str.ofString "runs"]) (ls := []) hB.ok (by rw [hB.K]; exact rfl) (by rw [hB.K]; kernel_rfl!) rfl rfl rfl rfl rfl rfl rfl ?_ rfl ?_ ?_ ?_
  · exact len1 fun _ => rfl
  · decide +kernel
  · decide +kernel
  · intro A L env s₀ P G₀ hA hP E
    dsimp only at E
    walk_at "jn"
    walk_at "jgo"
    walk_at "m_join"
    walk_at "jgo"
    refine ⟨ty_str, ?_⟩
    walk_at "jgo"
    refine JV_Comp (cl := []) (names := [Str.ofString "run"]) (k := 0) (compOk E rfl (by decide +kernel) rfl (by decide +kernel) rfl trivial (by decide +kernel) rfl (fun _ => rfl)) ?_
    walk_at "jname"
    refine ⟨ns.map .int, [.undef], fun j acc o => o = [] ∧ acc = (ns.take j).map fun r => .str (List.replicate r.toNat 32 ++ [9]), src_lst hA.1, ⟨?_, by walk_at "jlen", ?_, ⟨rfl, rfl⟩, ?_⟩, ?_⟩
    · rw [List.length_map]; exact Nat.le_trans hc (by decide)
    · exact SlotsOk.get (P := CSlot _ _ _ _) ⟨slotU rfl, trivial⟩
    · rintro C h P' j y o acc hj ⟨rfl, rfl⟩ hacc
      rw [List.getElem?_map] at hj
      obtain ⟨r, hr, rfl⟩ := Option.map_eq_some_iff.mp hj
      obtain ⟨hr0, hr1⟩ := hn r (List.mem_of_getElem? hr)
      refine cturn0 E fun E' => ?_
      dsimp only at E' ⊢
      walk_at "jgo"
      refine B_muls (by lia) (by lia) ?_
      walk_at "jgo"
      refine B_adds (by have : sizeLine = 2 ^ 24 := rfl; simp; lia) ?_
      refine ⟨rfl, _, rfl, rfl, ?_⟩
      rw [List.take_add_one, hr, List.map_append]; rfl
    · rintro acc o ⟨rfl, rfl⟩ hacc
      walk_at "jgo"
      have e : ((ns.take (ns.map T.int).length).map fun r => T.str (List.replicate r.toNat 32 ++ [9])) = (ns.map fun r => List.replicate r.toNat 32 ++ [9]).map .str := by
        rw [List.length_map, List.take_length, List.map_map]; rfl
      rw [e]
      refine C_join (.inl rfl) ?_ ?_
      · rw [List.map_map]
        have : ∀ l : List Int, (∀ r ∈ l, 0 ≤ r ∧ r ≤ 1000) → (l.map ((fun x => x.length) ∘ fun r => List.replicate r.toNat 32 ++ [9])).sum ≤ l.length * 1001 := by
          intro l
          induction l with
          | nil => intro _; simp
          | cons r l ih =>
            intro h
            have h1 := ih fun r hr => h r (List.mem_cons_of_mem _ hr)
            have h2 := h r List.mem_cons_self
            simp only [List.map_cons, List.sum_cons, Function.comp_apply, List.length_append, List.length_replicate, List.length_cons, List.length_nil]
            lia
        have h1 := this ns hn
        have : sizeLine = 2 ^ 24 := rfl
        lia
      · walk_at "jn"
        rfl
end
noncomputable section
theorem upT_inv {a b : Int} {j : Nat} {y : T} (h : (upT a b)[j]? = some y) : (j : Int) < b - a ∧ y = .int (a + (j : Int)) := by
  unfold upT at h
  rw [List.getElem?_map] at h
  obtain ⟨k, hk, rfl⟩ := Option.map_eq_some_iff.mp h
  obtain ⟨hlt, e⟩ := List.getElem?_eq_some_iff.mp hk
  simp at hlt e
  subst e
  exact ⟨by lia, rfl⟩
noncomputable def rowT (r : Int × Int × Int) : T := .tup [.int r.1, .int r.2.1, .int r.2.2]
noncomputable def rowAt (one other : List Nat) (i : Nat) : Int × Int × Int := (1 + (i : Int), colOf (1 + (i : Int)) one, colOf (1 + (i : Int)) other)
noncomputable def rowsOf (one other : List Nat) (top : Nat) : List (Int × Int × Int) := (List.range top).map (rowAt one other)
noncomputable def unlikeOf (one other : List Nat) (top : Nat) : List (Int × Int × Int) := (rowsOf one other top).filter fun r => r.2.1 != r.2.2
theorem unlike_spec {B : Bs} (hB : LB B) {one other : List Nat} {top : Nat} (ht : top ≤ 500) (h1 : one.length ≤ 1000) (h2 : other.length ≤ 1000) :
    FunJ B (.ref 179) 2 [.str one, .str other, .int top] (fun r => r = .lst ((unlikeOf one other top).map rowT)) := by
  refine FunJ_of (n := 1) (ps := [Str.ofString "one", Str.ofString "other", Str.ofString "top"]) (ls := [Str.ofString "rows"]) hB.ok (by rw [hB.K]; exact rfl) (by rw [hB.K]; kernel_rfl!) rfl rfl rfl rfl rfl rfl rfl ?_ rfl ?_ ?_ ?_
  · exact len3 fun _ _ _ => rfl
  · decide +kernel
  · decide +kernel
  · intro A L env s₀ P G₀ hA hP E
    dsimp only at E
    walk_at "jn"
    walk_at "jgo"
    refine JF_freezeAt (i := 3) ?_
    with_reducible refine JF_AssignCompO (cl := [(Str.ofString "other", L + 1 + 1), (Str.ofString "one", L + 1)]) (names := [Str.ofString "size", Str.ofString "one", Str.ofString "other"]) (k := 0) (i := 3) (compOk E ?a1 ?a2 ?a3 ?a4 ?a5 ?a6 ?a7 ?a8 ?a9) ?b1 ?b2 ?b3 ?b4 ?_
    case a1 => exact rfl
    case a2 => decide +kernel
    case a3 => exact rfl
    case a4 => decide +kernel
    case a5 => exact rfl
    case a6 => exact ⟨rfl, rfl, trivial⟩
    case a7 => decide +kernel
    case a8 => exact rfl
    case a9 => exact fun _ => rfl
    case b1 => rw [E.eq]; rfl
    case b2 => walk_at "jfn"
    case b3 => exact rfl
    case b4 => walk_at "jkind"
    walk_at "c_range"
    walk_at "jgo"
    refine C_range2 ?_
    refine ex3 (upT 1 (top + 1)) [.undef, .t (.str one), .t (.str other)] (fun j acc o => o = [] ∧ acc = (List.range j).map (fun i => rowT (rowAt one other i))) ⟨src_rng hA.1 (by lia) (by lia) (by lia) (by lia), ⟨?_, by walk_at "jlen", ?_, ⟨rfl, rfl⟩, ?_⟩, by walk_at "jlen", ?_⟩
    · rw [upT_length]; have : sizeLine = 2 ^ 24 := rfl; lia
    · exact SlotsOk.get (P := CSlot _ _ _ _) ⟨slotU rfl, slotC E 0 rfl rfl rfl rfl rfl, slotC E 1 rfl rfl rfl rfl rfl, trivial⟩
    · rintro C h P' j y o acc hj ⟨rfl, rfl⟩ hacc
      obtain ⟨hlt, rfl⟩ := upT_inv hj
      refine cturn0 E fun E' => ?_
      dsimp only at E' ⊢
      refine JV_Tuple ?_
      walk_at "jgo"
      walk_at "c__law_column"
      walk_at "jgo"
      refine C_funE (args := [.str one, .int (1 + (j : Int))]) (column_spec hB (by lia) (by lia) h1) hA ?_
      walk_at "jgo"
      walk_at "c__law_column"
      walk_at "jgo"
      refine C_funE (args := [.str other, .int (1 + (j : Int))]) (column_spec hB (by lia) (by lia) h2) hA ?_
      walk_at "jgo"
      refine ⟨[_, _, _], rfl, Nat.le_of_ble_eq_true rfl, rfl, _, rfl, rfl, ?_⟩
      rw [List.range_succ, List.map_append]; rfl
    · rintro D acc o ⟨rfl, rfl⟩ hacc
      refine ⟨rfl, D, _, [], rfl, rfl, ?_⟩
      have e : (List.range (upT 1 ((top : Int) + 1)).length).map (fun i => rowT (rowAt one other i)) = (rowsOf one other top).map rowT := by
        rw [upT_length, show (((top : Int) + 1) - 1).toNat = top by lia]
        unfold rowsOf
        rw [List.map_map]; rfl
      rw [e]
      walk_at "jn"
      walk_at "jgo"
      with_reducible refine JV_Comp (cl := []) (names := [Str.ofString "row"]) (k := 0) (compOk E ?a1 ?a2 ?a3 ?a4 ?a5 ?a6 ?a7 ?a8 ?a9) ?_
      case a1 => exact rfl
      case a2 => decide +kernel
      case a3 => exact rfl
      case a4 => decide +kernel
      case a5 => exact rfl
      case a6 => exact trivial
      case a7 => decide +kernel
      case a8 => exact rfl
      case a9 => exact fun _ => rfl
      walk_at "jgo"
      refine ⟨((rowsOf one other top).map rowT), [.undef], (fun j acc o => o = [] ∧ acc = (((rowsOf one other top).take j).filter fun r => r.2.1 != r.2.2).map rowT), src_lst hA.1, ⟨?_, by walk_at "jlen", ?_, ⟨rfl, rfl⟩, ?_⟩, ?_⟩
      · rw [List.length_map, rowsOf, List.length_map, List.length_range]; have : sizeLine = 2 ^ 24 := rfl; lia
      · exact SlotsOk.get (P := CSlot _ _ _ _) ⟨slotU rfl, trivial⟩
      · rintro C h P' j y o acc hj ⟨rfl, rfl⟩ hacc
        rw [List.getElem?_map] at hj
        obtain ⟨r, hr, rfl⟩ := Option.map_eq_some_iff.mp hj
        refine cturn1 E fun E' => ?_
        dsimp only [rowT] at E' ⊢
        walk_at "jgo"
        refine K_tup (y := .int r.2.1) (by decide) rfl (by simp only [List.length_cons, List.length_nil]; decide) ?_
        walk_at "jgo"
        refine K_tup (y := .int r.2.2) (by decide) rfl (by simp only [List.length_cons, List.length_nil]; decide) ?_
        walk_at "jgo"
        refine ⟨rfl, ?_⟩
        rw [List.take_add_one, hr, List.filter_append, List.map_append]
        split
        · rename_i q
          walk_at "jgo"
          refine ⟨rfl, _, rfl, rfl, ?_⟩
          simp at q
          simp [q, rowT]
        · rename_i q
          refine ⟨rfl, ?_⟩
          simp at q
          simp [q]
      · rintro acc o ⟨rfl, rfl⟩ hacc
        walk_at "jn"
        unfold unlikeOf
        rw [List.length_map, List.take_length]
end
noncomputable section
theorem countOf_spec {B : Bs} (hB : LB B) {es : List T} {b : T} {rs : List Bool} (hl : rs.length = es.length) (hc : ∀ (j : Nat) e, es[j]? = some e → ∃ r, rs[j]? = some r ∧ Cmps B e b r) :
    FunJ B (.ref 136) 1 [.lst es, b] (fun r => r = .int ((rs.count true : Nat) : Int)) := by
  refine FunJ_of (n := 0) (ps := [Str.ofString "a", Str.ofString "b"]) (ls := [Str.ofString "count", Str.ofString "i"]) hB.ok (by rw [hB.K]; exact rfl) (by rw [hB.K]; kernel_rfl!) rfl rfl rfl rfl rfl rfl rfl ?_ rfl ?_ ?_ ?_
  · exact len2 fun _ _ => rfl
  · decide +kernel
  · decide +kernel
  · intro A L env s₀ P G₀ hA hP E
    dsimp only at E
    walk_at "jn"
    walk_at "jgo"
    refine JF_For (k := 3) (by walk_at "jfn") rfl (by walk_at "jkind") (fun _ => rfl) ?_
    walk_at "jname"
    refine ⟨es, fun j m2 o2 => o2 = [] ∧ ∃ s, m2 = [.t (.lst es), .t b, .t (.int (((rs.take j).count true : Nat) : Int)), s], src_lst hA.1, ⟨rfl, _, rfl⟩, ?_, ?_⟩
    · rintro P j y m2 o2 hj ⟨rfl, s, rfl⟩
      obtain ⟨r, hr, hcm⟩ := hc j y hj
      have hcount : ((rs.take (j + 1)).count true : Nat) = (rs.take j).count true + (if r = true then 1 else 0) := by
        rw [List.take_add_one, hr, List.count_append]
        cases r <;> simp
      walk_at "jset"
      walk_at "jn"
      walk_at "jgo"
      refine JB_Or (op := .Or) ?_
      refine JB_or_cons ?_
      walk_at "jgo"
      have key : ∀ r', (r' = true → r = true) → True := fun _ _ => trivial
      refine (hcm _ _ _ _ _).2 fun r' hr' => ?_
      walk_at "jgo"
      split
      · rename_i q
        have e := hr' q
        subst e
        rw [if_pos rfl]
        walk_at "jgo"
        refine JF_AugT (i := 2) (by walk_at "jfn") rfl (by walk_at "jkind") rfl fun _ hGo => ?_
        walk_at "jgo"
        refine I_add ?_
        walk_at "jgo"
        refine ⟨rfl, .t y, ?_⟩
        rw [hcount]; rfl
      · walk_at "jgo"
        refine JB_or_cons ?_
        walk_at "jgo"
        refine (hcm _ _ _ _ _).1 ?_
        walk_at "jgo"
        split
        · rename_i q
          subst q
          rw [if_pos rfl]
          walk_at "jgo"
          refine JF_AugT (i := 2) (by walk_at "jfn") rfl (by walk_at "jkind") rfl fun _ hGo => ?_
          walk_at "jgo"
          refine I_add ?_
          walk_at "jgo"
          refine ⟨rfl, .t y, ?_⟩
          rw [hcount]; rfl
        · rename_i q
          refine JB_or_nil ?_
          rw [if_neg Bool.false_ne_true]
          walk_at "jgo"
          refine ⟨rfl, .t y, ?_⟩
          rw [hcount, if_neg q]; rfl
    · rintro m2 o2 ⟨rfl, s, rfl⟩
      walk_at "jgo"
      rw [← hl, List.take_length]
end
noncomputable section
theorem ipow_spec {B : Bs} (hB : LB B) {a b : Int} (hn : 0 ≤ b) (hsz : (Builtin.Int.intBits a : Int) * b ≤ 2 ^ 27) : FunJ B (.ref 157) 1 [.int a, .int b] (fun r => r = .int (a ^ b.toNat)) := by
  refine FunJ_of (n := 0) (ps := [Str.ofString "a", Str.ofString "b"]) (ls := []) hB.ok (by rw [hB.K]; exact rfl) (by rw [hB.K]; kernel_rfl!) rfl rfl rfl rfl rfl rfl rfl ?_ rfl ?_ ?_ ?_
  · exact len2 fun _ _ => rfl
  · decide +kernel
  · decide +kernel
  · intro A L env s₀ P G₀ hA hP E
    dsimp only at E
    walk_at "jn"
    walk_at "jgo"
    refine JF_AugT (i := 0) (by walk_at "jfn") rfl (by walk_at "jkind") rfl fun _ hGo => ?_
    walk_at "jgo"
    refine I_pow hn hsz ?_
    walk_at "jgo"
theorem cells_ge : ∀ (names : List (Str × NameKind)) (n : Nat) (acc : List (Str × Addr)), (∀ p ∈ acc, n₀ ≤ p.2) → n₀ ≤ n → ∀ p ∈ cellsFrom n names acc, n₀ ≤ p.2
  | [], _, _, h, _, p, hp => h p hp
  | (name, kind) :: r, n, acc, h, hn, p, hp => by
    unfold cellsFrom at hp
    split at hp
    · refine cells_ge r (n + 1) _ (fun q hq => ?_) (Nat.le_succ_of_le hn) p hp
      rcases List.mem_cons.mp hq with rfl | hq
      · exact hn
      · exact h q hq
    · exact cells_ge r n acc h hn p hp
theorem cells_above {env : Env} {sc : Scope} {names : List (Str × NameKind)} {L : Nat} (E : EnvIs env sc (cellsFrom (L + 1) names [])) {x : Str} {c : Addr} (h : env.cells.lookup x = some c) : L < c := by
  rw [E.cells] at h
  exact cells_ge (n₀ := L + 1) names (L + 1) [] (fun _ h => nomatch h) (Nat.le_refl _) _ (mem_of_lookup h)
theorem map_pick (ns : List Int) (idx : List Nat) : idx.filterMap ((ns.map T.int)[·]?) = (idx.filterMap (ns[·]?)).map T.int := by
  induction idx with
  | nil => rfl
  | cons i r ih =>
    simp only [List.filterMap_cons, List.getElem?_map]
    cases h : ns[i]? with
    | none => simpa using ih
    | some x => simpa using ih
theorem six_at {j : Nat} (h : j < 6) : [T.int 0, .int 1, .int 0, .int 1, .int 2, .int 2][j]? = some (.int (([0, 1, 0, 1, 2, 2] : List Int).getD j 0)) := by
  show (([0, 1, 0, 1, 2, 2] : List Int).map T.int)[j]? = _
  rw [List.getElem?_map, List.getD_eq_getElem?_getD, List.getElem?_eq_getElem (show j < ([0, 1, 0, 1, 2, 2] : List Int).length from h)]; rfl
theorem runs_spec {B : Bs} (hB : LB B) (hN : 0 < B.N) {ns : List Int} {many : Nat} (h4 : 4 ≤ many) (h6 : many ≤ 6) (hc : ns.length ≤ 1000) :
    FunJ B (.ref 162) 1 [.lst (ns.map .int), .int many] (fun r => ∃ rs : List Int, rs.length = many ∧ (∀ x ∈ rs, 0 ≤ x ∧ x < 8 - many) ∧ r = .lst (rs.map .tint)) := by
  refine FunJ_of (n := 0) (ps := [Str.ofString "script", Str.ofString "many"]) (ls := [Str.ofString "grounds"]) hB.ok (by rw [hB.K]; exact rfl) (by rw [hB.K]; kernel_rfl!) rfl rfl rfl rfl rfl rfl rfl ?_ rfl ?_ ?_ ?_
  · exact len2 fun _ _ => rfl
  · decide +kernel
  · decide +kernel
  · intro A L env s₀ P G₀ hA hP E
    dsimp only at E
    walk_at "jn"
    walk_at "jgo"
    refine JF_freezeAt (i := 2) ?_
    refine JF_AssignC (i := 2) (by walk_at "jfn") rfl (by walk_at "jkind") (fun c hc => hP c (cells_above E hc)) rfl fun _ hGo => ?_
    refine JV_List ?_
    walk_at "jgo"
    refine ⟨[.int 0, .int 1, .int 0, .int 1, .int 2, .int 2], rfl, Nat.le_of_ble_eq_true rfl, fun D => hGo _ _ _ (by walk_at "jlen") ⟨rfl, D, _, [], rfl, rfl, ?_⟩⟩
    walk_at "jn"
    walk_at "jgo"
    with_reducible refine JV_Comp (cl := [(Str.ofString "script", L + 1), (Str.ofString "many", L + 1 + 1), (Str.ofString "grounds", L + 1 + 1 + 1)]) (names := [Str.ofString "place", Str.ofString "grounds", Str.ofString "many", Str.ofString "script"]) (k := 0) (compOk E ?a1 ?a2 ?a3 ?a4 ?a5 ?a6 ?a7 ?a8 ?a9) ?_
    case a1 => exact rfl
    case a2 => decide +kernel
    case a3 => exact rfl
    case a4 => decide +kernel
    case a5 => exact rfl
    case a6 => exact ⟨rfl, rfl, rfl, trivial⟩
    case a7 => decide +kernel
    case a8 => exact rfl
    case a9 => exact fun _ => rfl
    walk_at "c_range"
    walk_at "jgo"
    refine C_range1 ?_
    refine ⟨(upT 0 many), [.undef, .t (.lst [.int 0, .int 1, .int 0, .int 1, .int 2, .int 2]), .t (.int many), .t (.lst (ns.map .int))], (fun j acc o => o = [] ∧ ∃ rs : List Int, rs.length = j ∧ (∀ x ∈ rs, 0 ≤ x ∧ x < 8 - many) ∧ acc = rs.map .tint), src_rng hA.1 (by lia) (by lia) (by lia) (by lia), ⟨?_, by walk_at "jlen", ?_, ⟨rfl, [], rfl, (fun _ h => nomatch h), rfl⟩, ?_⟩, ?_⟩
    · rw [upT_length]; have : sizeLine = 2 ^ 24 := rfl; lia
    · exact SlotsOk.get (P := CSlot _ _ _ _) ⟨slotU rfl, slotC E 2 rfl rfl rfl rfl rfl, slotC E 1 rfl rfl rfl rfl rfl, slotC E 0 rfl rfl rfl rfl rfl, trivial⟩
    · rintro C h P' j y o acc hj ⟨rfl, rs, hr1, hr2, rfl⟩ hacc
      obtain ⟨hlt, rfl⟩ := upT_inv hj
      rw [Int.zero_add]
      refine cturn0 E fun E' => ?_
      dsimp only at E' ⊢
      walk_at "jgo"
      have hj6 : j < 6 := by lia
      obtain ⟨g, hg⟩ : ∃ g : Int, [T.int 0, .int 1, .int 0, .int 1, .int 2, .int 2][((j : Nat) : Int).toNat]? = some (.int g) := by
        rw [Int.toNat_natCast]
        exact ⟨_, six_at hj6⟩
      refine K_lst (.inl rfl) (by lia) hg (by simp only [List.length_cons, List.length_nil]; decide) ?_
      walk_at "jgo"
      walk_at "c_sum"
      refine JL_cons ?_ rfl
      refine JV_freeze ?_
      refine JV_SliceO ?_
      walk_at "jgo"
      dsimp only [JPart]
      walk_at "jgo"
      refine ⟨_, rfl, ?_⟩
      walk_at "jgo"
      refine ⟨_, rfl, ?_⟩
      refine ⟨_, .inl rfl, by rw [List.length_map]; have : sizeLine = 2 ^ 24 := rfl; lia, (fun q => by have q := Option.some.inj q; lia), fun D => ⟨D, _, [], rfl, rfl, ?_⟩⟩
      rw [map_pick]
      walk_at "jgo"
      refine C_sum hA.1 (.inl rfl) ?_
      walk_at "jgo"
      refine B_modT hB (by lia) hN ?_
      refine ⟨rfl, _, rfl, rfl, rs ++ [_], by rw [List.length_append, hr1]; rfl, ?_, by rw [List.map_append]; rfl⟩
      intro x hx
      rcases List.mem_append.mp hx with hx | hx
      · exact hr2 x hx
      · rw [List.mem_singleton.mp hx]
        exact ⟨Int.fmod_nonneg_of_pos _ (by lia), Int.fmod_lt_of_pos _ (by lia)⟩
    · rintro acc o ⟨rfl, rs, hr1, hr2, rfl⟩ hacc
      walk_at "jn"
      rw [upT_length] at hr1
      exact ⟨rs, by lia, hr2, rfl⟩
end
noncomputable section
section
variable {B : Bs} {X : Act} {A : Around} {m : List S} {own : Own}
noncomputable def upN (N : Nat) (a b : Int) : List T := (List.range (b - a).toNat).map fun i : Nat => T.nint N (a + (i : Int))
theorem upN_length (N : Nat) (a b : Int) : (upN N a b).length = (b - a).toNat := by simp [upN]
theorem upN_get {N : Nat} {a b : Int} {i : Nat} (h : i < (b - a).toNat) : (upN N a b)[i]? = some (.nint N (a + (i : Int))) := by simp [upN, h]
theorem upN_inv {N : Nat} {a b : Int} {j : Nat} {y : T} (h : (upN N a b)[j]? = some y) : (j : Int) < b - a ∧ y = .nint N (a + (j : Int)) := by
  unfold upN at h
  rw [List.getElem?_map] at h
  obtain ⟨k, hk, rfl⟩ := Option.map_eq_some_iff.mp h
  obtain ⟨hlt, e⟩ := List.getElem?_eq_some_iff.mp hk
  simp at hlt e
  subst e
  exact ⟨by lia, rfl⟩
theorem src_rngN {a b : Int} (hh : A.handled = none) (hN : 0 < B.N) (ha : -(2 ^ 62) ≤ a) (ha' : a < 2 ^ 62) (hb : -(2 ^ 62) ≤ b) (hb' : b < 2 ^ 62) : ∀ s G v, St B X m own G s → RepS G (.t (.rng a b)) (some v) → Src B X A own G s v (upN B.N a b) := by
  intro s G v S hr Q hQ
  have hr := uT hr
  obtain ⟨r, t, u, w, rfl, hG⟩ := hr
  have hR : IsRange s.heap r a b 1 t u w := S.le _ _ hG
  refine wpAny_pyIter_range hR (small_one ha ha' hb hb') ?_
  have hsz : Builtin.Range.rangeSize a b 1 = ((b - a).toNat : Int) := by rw [rangeSize_one]; split <;> lia
  have W := Walks.range (prog := B.prog) (w := B.w) hh s.heap.objs.size a 1 (b - a).toNat
  have W' : Wk B A s.heap.objs.size [s.heap.objs.size] (b - a).toNat (fun i v => ∃ t : Nat, B.N ≤ t ∧ v = .int (a + i * 1) t) (fun i h => IsRangeIter h s.heap.objs.size (a + (i : Nat) * 1) (((b - a).toNat : Int) - (i : Nat)) 1) := {
    frame := W.frame
    item := fun i s Q E hi st hs hQ => by
      refine wpAny_pyNext_range_item st (by lia) fun h' hit' hs' => ?_
      refine hQ _ h' _ ⟨_, hs, rfl⟩ ?_ fun b o hb e => hs'.extBut b o (fun h => hb (by simp [h])) e
      have e1 : a + ((i + 1 : Nat) : Int) * 1 = a + (i : Int) * 1 + 1 := by push_cast; lia
      have e2 : (((b - a).toNat : Nat) : Int) - ((i + 1 : Nat) : Int) = (((b - a).toNat : Nat) : Int) - (i : Int) - 1 := by push_cast; lia
      rw [e1, e2]; exact hit'
    done := W.done
    self := W.self }
  rw [← upN_length B.N] at W'
  refine hQ _ _ _ _ _ s.toks W' ?_ (fun b o _ e => Heap.get?_push_of_some _ e) (S.hid (get_size _)) (fun i h e => ⟨_, e⟩) (fun b hb => .inl (List.mem_singleton.mp hb)) ?_ (Nat.le_refl _)
  · have e1 : a + ((0 : Nat) : Int) * 1 = a := by simp
    have e2 : (((upN B.N a b).length : Int) - ((0 : Nat) : Int)) = Builtin.Range.rangeSize a b 1 := by rw [hsz, upN_length]; simp
    rw [e1, e2]
    exact Heap.get?_push_size _ rfl
  · rintro i v hi ⟨t, ht, rfl⟩
    rw [upN_length] at hi
    exact ⟨_, upN_get hi, by rw [Int.mul_one]; exact ⟨t, by lia, ht, rfl⟩⟩
abbrev Bs.withN (B : Bs) (N : Nat) : Bs := { B with N := N }
theorem LB.withN {B : Bs} (h : LB B) (N : Nat) : LB (B.withN N) := ⟨⟨h.ok.kin, h.ok.g, h.ok.b, h.ok.builtins, h.ok.nolimit, h.ok.plnd⟩, h.K, h.bm, h.t1, h.t2, h.pl⟩
theorem St.withN {G : PM} {s : Shared} {N : Nat} (S : St B X m own G s) (h : N ≤ G.hi) : St (B.withN N) X m own G s :=
  { same := S.same, hi := S.hi, lo := h, le := S.le, base := S.base, g0 := S.g0, prot := S.prot, apart := S.apart, ns := S.ns, GL := S.GL, PL := S.PL, cells := S.cells, vars := S.vars, ow := S.ow, nodup := S.nodup, names := S.names, cinj := S.cinj }
theorem St.fromN {G : PM} {s : Shared} {N : Nat} (S : St (B.withN N) X m own G s) (h : B.N ≤ G.hi) : St B X m own G s :=
  { same := S.same, hi := S.hi, lo := h, le := S.le, base := S.base, g0 := S.g0, prot := S.prot, apart := S.apart, ns := S.ns, GL := S.GL, PL := S.PL, cells := S.cells, vars := S.vars, ow := S.ow, nodup := S.nodup, names := S.names, cinj := S.cinj }
theorem St.slots {G : PM} {s : Shared} {m' : List S} (S : St B X m own G s) (h : ∀ (i : Nat) sv', m'[i]? = some sv' → ∃ sv, m[i]? = some sv ∧ ∀ o, RepS G sv o → RepS G sv' o) : St B X m' own G s :=
  { same := S.same, hi := S.hi, lo := S.lo, le := S.le, base := S.base, g0 := S.g0, prot := S.prot, apart := S.apart, ns := S.ns, GL := S.GL, PL := S.PL, cells := S.cells,
    vars := fun i x sv' e1 e2 => by
      obtain ⟨sv, e3, f⟩ := h i sv' e2
      obtain ⟨o, a, b⟩ := S.vars i x sv e1 e3
      exact ⟨o, a, f o b⟩
    ow := S.ow, nodup := S.nodup, names := S.names, cinj := S.cinj }
theorem oint_of {G : PM} : ∀ {ns : List Int} {vs : List Value}, RepL G (ns.map .tint) vs → RepL G (ns.map (.oint G.hi)) vs
  | [], _, h => h
  | n :: ns, _, h => by
    obtain ⟨v, r, rfl, r1, r2⟩ := RepL.uncons h
    refine .cons ?_ (oint_of r2)
    obtain ⟨t, a, b, c⟩ := r1
    exact ⟨t, a, b, c⟩
theorem ostr_of {G : PM} : ∀ {ns : List (List Nat)} {vs : List Value}, RepL G (ns.map .tstr) vs → RepL G (ns.map (.ostr G.hi)) vs
  | [], _, h => h
  | n :: ns, _, h => by
    obtain ⟨v, r, rfl, r1, r2⟩ := RepL.uncons h
    refine .cons ?_ (ostr_of r2)
    obtain ⟨t, a, b, c⟩ := r1
    exact ⟨t, a, b, c⟩
theorem int_of_o {G : PM} {N : Nat} : ∀ {ns : List Int} {vs : List Value}, RepL G (ns.map (.oint N)) vs → RepL G (ns.map .int) vs
  | [], _, h => h
  | n :: ns, _, h => by
    obtain ⟨v, r, rfl, r1, r2⟩ := RepL.uncons h
    refine .cons ?_ (int_of_o r2)
    obtain ⟨t, a, b, c⟩ := r1
    exact ⟨t, c⟩
theorem lst_mono {G : PM} {xs ys : List T} (h : ∀ vs, RepL G xs vs → RepL G ys vs) {o : Option Value} (hr : RepS G (.t (.lst xs)) o) : RepS G (.t (.lst ys)) o := by
  obtain ⟨v, rfl, hr⟩ := hr
  refine aside fun Cg hCg => ?_
  obtain ⟨a, ob, vs, n, e1, e2, e3, e4, e5⟩ := hr
  refine hCg ?_
  exact ⟨v, rfl, by exact ⟨a, ob, vs, n, e1, e2, e3, e4, h _ e5⟩⟩
theorem JF_newN {t : Sem Flow} {R : Fl → List S → Own → Prop} (hN : 0 < B.N) (f : Nat → List S) (hf : ∀ G : PM, ∀ (i : Nat) sv', (f G.hi)[i]? = some sv' → ∃ sv, m[i]? = some sv ∧ ∀ o, RepS G sv o → RepS G sv' o)
    (h : ∀ N, B.N ≤ N → 0 < N → JF (B.withN N) X A (f N) own t R) : JF B X A m own t R := by
  intro s G hS _ Q hQ
  have hl := hS.lo
  refine h G.hi hl (by lia) s G ((hS.withN (Nat.le_refl _)).slots (hf G)) trivial Q fun v b m' o' G' s' S' L' r' h' => ?_
  exact hQ v b m' o' G' s' (S'.fromN (Nat.le_trans hl L'.hi)) L' r' h'
end
end
noncomputable section
section
variable {B : Bs} {X : Act} {A : Around} {m : List S} {own : Own} {R : S → List S → Own → Prop}
theorem C_hasS {a : T} (ha : ∀ (G : PM) v, RepT G a v → ∃ x t, v = .str x t) (h : R (.t (.bool true)) m own) : JCall B X A (.builtin "hasattr") [.t a, .t (.str (Str.ofString "__getitem__").cps.toList)] m own R := by
  intro vs s G hS hrs Q hQ
  obtain ⟨v, u, rfl, hr, hr'⟩ := reps2 hrs
  obtain ⟨x, t, rfl⟩ := ha G v (uT hr)
  obtain ⟨t', rfl⟩ := uStr hr'
  have e : (⟨(Str.ofString "__getitem__").cps.toList.toArray⟩ : Str) = Str.ofString "__getitem__" := by simp
  rw [e]
  refine tok_in ?_
  obtain ⟨hp, g, d, tk, os⟩ := s
  refine has_str fun h' t' hk hm => ?_
  exact hQ _ _ _ _ _ _ (hS.grow hk (Le.refl G) (fun b o e => hk b o (hS.le b o e)) (fun _ _ _ e => e) (Nat.le_trans hS.hi hm)) (Le.refl G) (rT tBool) h
theorem C_hasL {xs : List T} (h : R (.t (.bool true)) m own) : JCall B X A (.builtin "hasattr") [.t (.lst xs), .t (.str (Str.ofString "__getitem__").cps.toList)] m own R := by
  intro vs s G hS hrs Q hQ
  obtain ⟨v, u, rfl, hr, hr'⟩ := reps2 hrs
  have hr := uT hr
  obtain ⟨a, o, vs, n, rfl, e1, ⟨e2, e3⟩, e4, e5⟩ := hr
  obtain ⟨t', rfl⟩ := uStr hr'
  have e : (⟨(Str.ofString "__getitem__").cps.toList.toArray⟩ : Str) = Str.ofString "__getitem__" := by simp
  rw [e]
  have e1' := hS.le _ _ e1
  refine tok_in ?_
  obtain ⟨hp, g, d, tk, os⟩ := s
  refine has_list e1' e2 e3 e4 fun h' t' hk hm => ?_
  exact hQ _ _ _ _ _ _ (hS.grow hk (Le.refl G) (fun b o e => hk b o (hS.le b o e)) (fun _ _ _ e => e) (Nat.le_trans hS.hi hm)) (Le.refl G) (rT tBool) h
end
theorem concat_body {B : Bs} (hB : LB B) {a b : T} {Rr : T → Prop}
    (hhas : ∀ X A m own R, R (.t (.bool true)) m own → JCall B X A (.builtin "hasattr") [.t a, .t (.str (Str.ofString "__getitem__").cps.toList)] m own R)
    (hadd : ∀ X A m own R, (∀ r m' own', RetOK Rr (.ret r) m' own' → R r m' own') → own = [] → JBin B X A .Add (.t a) (.t b) m own R) : FunJ B (.ref 129) 1 [a, b] Rr := by
  refine FunJ_of (n := 0) (ps := [Str.ofString "a", Str.ofString "b"]) (ls := [Str.ofString "msg"]) hB.ok (by rw [hB.K]; exact rfl) (by rw [hB.K]; kernel_rfl!) rfl rfl rfl rfl rfl rfl rfl ?_ rfl ?_ ?_ ?_
  · exact len2 fun _ _ => rfl
  · decide +kernel
  · decide +kernel
  · intro A L env s₀ P G₀ hA hP E
    dsimp only at E
    walk_at "jn"
    walk_at "jgo"
    refine JB_value ?_ rfl
    walk_at "c_hasattr"
    walk_at "jgo"
    refine JV_str ?_
    walk_at "jgo"
    refine hhas _ _ _ _ _ ?_
    walk_at "jgo"
    rw [if_neg (by decide)]
    walk_at "jgo"
    refine hadd _ _ _ _ _ (fun r m' own' hr => hr) rfl
theorem concat_str {B : Bs} (hB : LB B) {x y : List Nat} (hz : x.length + y.length ≤ sizeLine) : FunJ B (.ref 129) 1 [.str x, .str y] (fun r => r = .str (x ++ y)) :=
  concat_body hB (fun X A m own R h => C_hasS (fun G v h => by obtain ⟨t, rfl⟩ := h; exact ⟨_, t, rfl⟩) h) fun X A m own R h _ => B_adds hz (h _ _ _ rfl)
theorem concat_strN {B : Bs} (hB : LB B) (hN : 0 < B.N) {x y : List Nat} (hx : x ≠ []) (hy : y ≠ []) (hz : x.length + y.length ≤ sizeLine) : FunJ B (.ref 129) 1 [.str x, .str y] (fun r => r = .nstr B.N (x ++ y)) :=
  concat_body hB (fun X A m own R h => C_hasS (fun G v h => by obtain ⟨t, rfl⟩ := h; exact ⟨_, t, rfl⟩) h) fun X A m own R h _ => B_addsN hN hx hy hz (h _ _ _ rfl)
theorem concat_lst {B : Bs} (hB : LB B) {xs ys : List T} (hz : xs.length + ys.length ≤ sizeLine) : FunJ B (.ref 129) 1 [.lst xs, .lst ys] (fun r => r = .lst (xs ++ ys)) :=
  concat_body hB (fun X A m own R h => C_hasL h) fun X A m own R h e => by subst e; exact B_addl (.inl rfl) (.inl rfl) hz fun D => h _ _ _ ⟨_, [], rfl, rfl⟩
end
noncomputable section
section
variable {B : Bs} {X : Act} {A : Around} {m : List S} {own : Own}
theorem JV_weak {t : Sem Value} {R : S → List S → Own → Prop} (h : JV B X A m own t fun sv m1 o1 => ∃ sv', (∀ (G : PM) o, RepS G sv o → RepS G sv' o) ∧ R sv' m1 o1) : JV B X A m own t R := by
  intro s G hS _ Q hQ
  refine h s G hS trivial Q fun v sv m1 o1 G1 s1 S1 L1 r1 h1 => ?_
  obtain ⟨sv', f, h1⟩ := h1
  exact hQ _ _ _ _ _ _ S1 L1 (f _ _ r1) h1
theorem JV_nameW {x : Str} {pos : Pos} {i : Nat} {y : T} {y' : S} {R : S → List S → Own → Prop} (hk : X.env.scope.kind = .function) (hi : X.names[i]? = some x) (hm : m[i]? = some (.t y))
    (w : ∀ (G : PM) o, RepS G (.t y) o → RepS G y' o) (h : R y' m own) (hd : (x == ("__debug__" : Str)) = false) (hn : (x == ("__classdict__" : Str)) = false) : JV B X A m own (eval (.Name x pos) X.env) R :=
  JV_weak (JV_nameT hk hi hm ⟨y', w, h⟩ hd hn)
theorem wk_ostr {N : Nat} {w : List Nat} : ∀ (G : PM) o, RepS G (.t (.ostr N w)) o → RepS G (.t (.str w)) o := by
  rintro G _ ⟨v, rfl, h⟩
  obtain ⟨t, a, b, rfl⟩ := h
  exact rT tStr
theorem wk_tstr {w : List Nat} : ∀ (G : PM) o, RepS G (.t (.tstr w)) o → RepS G (.t (.str w)) o := by
  rintro G _ ⟨v, rfl, h⟩
  obtain ⟨t, a, b, rfl⟩ := h
  exact rT tStr
theorem JV_SliceWhole {value upper : Expr} {p pos : Pos} {R : S → List S → Own → Prop}
    (h : JV B X A m own (eval value X.env) fun a m1 o1 => JV B X A m1 o1 (eval upper X.env) fun b m2 o2 => ∃ N w, a = .t (.ostr N w) ∧ b = .t (.int (w.length : Nat)) ∧ w.length ≤ sizeLine ∧ R (.t (.ostr N w)) m2 o2) :
    JV B X A m own (eval (.Subscript value (.Slice none (some upper) none p) pos) X.env) R := by
  intro s G hS _ Q hQ
  refine PyProof.Rows.Subscript_ (h s G hS trivial _ fun v a m1 o1 G1 s1 S1 L1 r1 h1 => wpAny_Slice (evalPart_none_step (evalPart_some_step (h1 s1 G1 S1 trivial _ fun u b m2 o2 G2 s2 S2 L2 r2 h2 => evalPart_none_step ?_))))
  obtain ⟨N, w, rfl, rfl, hz, hR⟩ := h2
  have r1' := uT r1
  obtain ⟨t, a1, a2, rfl⟩ := r1'
  obtain ⟨t', rfl⟩ := uInt r2
  have S3 := S2.push (o := { cls := .type "slice", data := .fields #[.none, .int (w.length : Nat) t', .none] }) (tk := s2.toks)
  obtain ⟨ops, he⟩ := subscripted_any (.Slice none (some upper) none p) (.str ⟨w.toArray⟩ t) (.ref s2.heap.objs.size)
  refine tail_any (typeIs_str _ _ _) PyProof.Rows.slot_str_getitem.lookup (wpAny_getItem_str_slice (l := none) (u := some ((w.length : Nat), t')) (st := none) ⟨_, Heap.get?_push_size _ rfl, rfl, rfl⟩ rfl ?_) he
  have e : sliceMade ⟨w.toArray⟩ t none (some (((w.length : Nat) : Int), t')) none = .val (.str ⟨w.toArray⟩ t) := by
    unfold sliceMade
    rw [if_pos]
    simp only [Option.map_none, Option.getD_none, beq_self_eq_true, Bool.true_and]
    unfold slicePicked
    simp only [Option.map_some, Option.map_none, Option.getD_none]
    rw [StrLaws.sliceIdx_none_lo]
    simp [Builtin.Str.strSliceIndices, Str.length, sliceRange]
    repeat' split
    all_goals lia
  rw [e]
  exact hQ _ _ _ _ _ _ S3 (L1.trans L2) (rT (by exact ⟨t, a1, a2, rfl⟩)) hR
end
theorem concat_self {B : Bs} (hB : LB B) {N : Nat} {w : List Nat} : FunJ B (.ref 129) 1 [.str [], .ostr N w] (fun r => r = .ostr N w) :=
  concat_body hB (fun X A m own R h => C_hasS (fun G v h => by obtain ⟨t, rfl⟩ := h; exact ⟨_, t, rfl⟩) h) fun X A m own R h _ => by
    rintro v u s G hS ⟨h1, h2⟩ Q hQ
    obtain ⟨t, rfl⟩ := uStr h1
    have h2' := uT h2
    obtain ⟨t', a, b, rfl⟩ := h2'
    refine PySem.P.add_str ?_
    have e1 : ((⟨([] : List Nat).toArray⟩ : Str).length == 0) = true := rfl
    rw [e1]
    exact hQ _ _ _ _ _ _ hS (Le.refl G) (rT (by exact ⟨t', a, b, rfl⟩)) (h _ _ _ rfl)
end
noncomputable section
section
variable {B : Bs} {X : Act} {A : Around} {m : List S} {own : Own} {G : PM} {s : Shared}
theorem St₀.hidden2 {d1 d2 : Addr} {h' : Heap} {tk : Nat} (S : St₀ B X m own G s) (hd : ∀ b o, b ≠ d1 → b ≠ d2 → s.heap.get? b = some o → h'.get? b = some o) (hG : G.ob d1 = none ∧ G.ob d2 = none) (hP : X.P d1 = none ∧ X.P d2 = none) (hL : d1 ≠ X.env.locals ∧ d2 ≠ X.env.locals)
    (hc : ∀ x c, X.env.cells.lookup x = some c → c ≠ d1 ∧ c ≠ d2) (ho : ∀ p ∈ own, p.1 ≠ d1 ∧ p.1 ≠ d2) (ht : s.toks ≤ tk) : St₀ B X m own G { s with heap := h', toks := tk } where
  hi := Nat.le_trans S.hi ht
  lo := S.lo
  same := let ⟨_, _, e⟩ := S.same; ⟨h', tk, by rw [e]⟩
  le := fun b o e => hd b o (fun q => by rw [q, hG.1] at e; cases e) (fun q => by rw [q, hG.2] at e; cases e) (S.le b o e)
  base := S.base
  g0 := S.g0
  prot := fun b o e => hd b o (fun q => by rw [q, hP.1] at e; cases e) (fun q => by rw [q, hP.2] at e; cases e) (S.prot b o e)
  apart := S.apart
  ns := let ⟨mc, o, es, ep, e, r⟩ := S.ns; ⟨mc, o, es, ep, hd _ _ hL.1.symm hL.2.symm e, r⟩
  GL := S.GL
  PL := S.PL
  cells := fun y c e => let ⟨⟨o, ho⟩, p⟩ := S.cells y c e; ⟨⟨o, hd _ _ (hc y c e).1 (hc y c e).2 ho⟩, p⟩
  vars := fun j y sv' e1 e2 => by
    obtain ⟨o, a, b⟩ := S.vars j y sv' e1 e2
    refine ⟨o, ?_, b⟩
    rcases a with ⟨hl', mc', ⟨o, es, ep, e, r⟩, ho⟩ | ⟨hk, c, hc', ⟨o', ho', r⟩⟩
    · exact .inl ⟨hl', _, ⟨o, es, ep, hd _ _ hL.1.symm hL.2.symm e, r⟩, ho⟩
    · exact .inr ⟨hk, c, hc', ⟨o', hd _ _ (hc y c hc').1 (hc y c hc').2 ho', r⟩⟩
  ow := fun p hp => by
    obtain ⟨ob, a, r⟩ := S.ow p hp
    exact ⟨ob, hd _ _ (ho p hp).1 (ho p hp).2 a, r⟩
  nodup := S.nodup
  names := S.names
  cinj := S.cinj
theorem St.hid2 {d1 d2 : Addr} {h' : Heap} {tk : Nat} (S : St B X m own G s) (hd : ∀ b o, b ≠ d1 → b ≠ d2 → s.heap.get? b = some o → h'.get? b = some o) (h1 : Hid B X G own d1) (h2 : Hid B X G own d2) (ht : s.toks ≤ tk) : St B X m own G { s with heap := h', toks := tk } :=
  St₀.hidden2 S hd ⟨h1.1, h2.1⟩ ⟨h1.2.1, h2.2.1⟩ ⟨h1.2.2.1, h2.2.2.1⟩ (fun x c e => ⟨h1.2.2.2.1 x c e, h2.2.2.2.1 x c e⟩) (fun p hp => ⟨h1.2.2.2.2 p hp, h2.2.2.2.2 p hp⟩) ht
noncomputable def SrcE (B : Bs) (X : Act) (A : Around) (own : Own) (G : PM) (s : Shared) (v : Value) (n : Nat) (Y : Nat → T → Prop) : Prop :=
  ∀ Q : Value → Shared → Prop, (∀ e it fp Pt W Mid h' tk, WalksT B.prog B.w A e fp [e, it] n Pt W Mid → e ≠ it → W 0 h' → (∀ b o, b ≠ e → b ≠ it → s.heap.get? b = some o → h'.get? b = some o) → Hid B X G own e → Hid B X G own it →
    (∀ i h, W i h → (∃ o, h.get? e = some o) ∧ ∃ o, h.get? it = some o) → (∀ b ∈ fp, b = e ∨ b = it ∨ ∃ o, G.ob b = some o) → s.toks ≤ tk →
    (∀ i vals, i < n → Pt i vals → ∃ t x, vals = #[.int i t, x] ∧ ∃ y, Y i y ∧ RepT G y x) → Q (.ref e) { s with heap := h', toks := tk }) → wpAny (model B.prog B.w) A (call (.type "enumerate") [v]) Q NoE s
theorem srcE_lst {ts : List T} (hh : A.handled = none) : ∀ s G v, St B X m own G s → RepS G (.t (.lst ts)) (some v) → SrcE B X A own G s v ts.length (fun i y => ts[i]? = some y) := by
  intro s G v S hr Q hQ
  have hr := uT hr
  refine aside fun Cg hCg => ?_
  obtain ⟨a, o, vs, n, rfl, hG, ⟨hc, hdn⟩, hd, hl⟩ := hr
  refine hCg ?_
  have hL : s.heap.IsList a vs := ⟨o, S.le _ _ hG, hc, n, hd⟩
  have hne : a ≠ s.heap.objs.size := Nat.ne_of_lt (Heap.lt_size (S.le _ _ hG))
  have hne' : a ≠ s.heap.objs.size + 1 := Nat.ne_of_lt (Nat.lt_succ_of_lt (Heap.lt_size (S.le _ _ hG)))
  refine call_enumerate_list hL fun h' he hit hsz hk => ?_
  have dead1 : s.heap.get? (s.heap.objs.size + 1) = none := Heap.get?_none_of_le (Nat.le_succ _)
  have W := WalksT.enumerate (prog := B.prog) (w := B.w) hh (s.heap.objs.size + 1) s.heap.objs.size a (Nat.succ_ne_self _) hne' hne vs
  rw [hl.size] at W
  refine hQ _ _ _ _ _ _ h' s.toks W (Nat.succ_ne_self _) ⟨⟨_, he⟩, hit, hL.at fun o e => hk _ _ e⟩ (fun b o _ _ e => hk b o e) (S.hid dead1) (S.hid (get_size _)) (fun i h ⟨⟨_, h1⟩, h2, _⟩ => ⟨⟨_, h1⟩, let ⟨o, h3, _⟩ := h2; ⟨o, h3⟩⟩) (fun b hb => ?_) (Nat.le_refl _) ?_
  · simp only [List.mem_cons, List.not_mem_nil, or_false] at hb
    rcases hb with rfl | rfl | rfl
    · exact .inl rfl
    · exact .inr (.inl rfl)
    · exact .inr (.inr ⟨o, hG⟩)
  · rintro i vals hi ⟨t, x, hx, rfl⟩
    obtain ⟨y, hy, ry⟩ := hl.getA hx
    exact ⟨t, x, rfl, y, hy, ry⟩
end
section
variable {B : Bs} {X : Act} {A : Around} {m : List S} {own : Own}
theorem for_call {target arg : Expr} {fn : String} {fpos cpos pos : Pos} {body orelse : List Stmt} {Q : Flow → Shared → Prop} {R1 : S → List S → Own → Prop} {G : PM} {s : Shared} (hB : B.Ok) (hk : X.env.scope.kind = .function)
    (hv : B.mg (Str.ofString fn) = none) (hb : bootBuiltins (Str.ofString fn) = some (.type fn)) (hn : Str.ofString fn ≠ "__name__") (hd : (Str.ofString fn == ("__debug__" : Str)) = false) (hg : X.env.globals = mainGlobals ∧ X.env.builtins = builtinsNs) (hx : X.env.kindOf (Str.ofString fn) = some .globalImplicit)
    (he : eval (.Call (.Name (Str.ofString fn) fpos) [arg] [] cpos) X.env = (do let v ← eval (.Name (Str.ofString fn) fpos) X.env; callWith cpos v [] (backTo cpos (starEach [arg] X.env)) []))
    (hse : starEach [arg] X.env = (false, eval arg X.env) :: starEach [] X.env)
    (hs : ∀ x, foldedSetIterable (.Call (.Name (Str.ofString fn) fpos) [arg] [] cpos) X.env x = pure x)
    (h : JV B X A m own (eval arg X.env) R1) (hS : St B X m own G s)
    (k : ∀ v sv m1 o1 G1 s1, St B X m1 o1 G1 s1 → Le G G1 → RepS G1 sv (some v) → R1 sv m1 o1 → wpAny (model B.prog B.w) A (call (.type fn) [v]) (fun x s₁ => wpAny (model B.prog B.w) A (pyIter x) (fun it s₂ =>
      codeAny (model B.prog B.w) A (.forLoop target it body orelse X.env) (fun r s' => match r with | .ok f => Q f s' | .error e => cameBackBy (model B.prog B.w) A X.env NoE e s') s₂) NoE s₁) NoE s1) :
    wpAny (model B.prog B.w) A (exec (.For target (.Call (.Name (Str.ofString fn) fpos) [arg] [] cpos) body orelse pos) X.env) Q NoE s := by
  refine wpAny_For ?_ hs
  rw [he]
  refine wpAny_bind (JV_built (v := .type fn) hB hv hb hn hk hg.1 hg.2 hx (R := fun sv m1 o1 => sv = .t (.con (.type fn)) ∧ m = m1 ∧ own = o1) ⟨rfl, rfl, rfl⟩ hd s G hS trivial _ fun fv fs m0 o0 G0 s0 S0 L0 r0 h0 => ?_)
  obtain ⟨rfl, rfl, rfl⟩ := h0
  have hfv : fv = .type fn := by have := uT r0; exact this
  subst hfv
  refine PyProof.Rows.callWith_type (by rw [hse]; rfl) (evalArgs_any (by rw [hse]; rfl) ?_)
  exact wpAny_items_cons (h s0 G0 S0 trivial _ fun v sv m1 o1 G1 s1 S1 L1 r1 h1 => wpAny_items_nil (k v sv m1 o1 G1 s1 S1 (L0.trans L1) r1 h1)) hse
theorem enum_turn {x1 x2 : Str} {p1 p2 px : Pos} {tk' : Nat} {body : List Stmt} {k1 k2 : Nat} {RB : Fl → List S → Own → Prop} {e it Ta : Addr} {oe oi : Obj} {y1 y2 : T} {vals : Array Value} {G2 : PM} {s3 : Shared} {m2 : List S} {o2 : Own} {Qf : Flow → Shared → Prop}
    (hh : A.handled = none) (hk : X.env.scope.kind = .function) (hi1 : X.names[k1]? = some x1) (hl1 : X.env.kindOf x1 = some .local) (hi2 : X.names[k2]? = some x2) (hl2 : X.env.kindOf x2 = some .local)
    (hae : (assignEach [.Name x1 p1, .Name x2 p2] X.env) = [(false, assign (.Name x1 p1) X.env), (false, assign (.Name x2 p2) X.env)]) (hne : e ≠ it)
    (S4 : St B X m2 o2 G2 s3) (hd : Hid B X G2 o2 e) (hd' : Hid B X G2 o2 it) (hoe : s3.heap.get? e = some oe) (hoi : s3.heap.get? it = some oi) (hT : s3.heap.IsTuple Ta vals) (hr : RepL G2 [y1, y2] vals.toList)
    (q1 : k1 < m2.length) (q2 : k2 < m2.length) (hb : JF B (X.at (AM.put (AM.put X.P e oe) it oi)) A ((m2.set k1 (.t y1)).set k2 (.t y2)) o2 (execs body X.env) RB)
    (hQ : ∀ f fa m4 o4 G4 s4, St B X m4 o4 G4 s4 → Le G2 G4 → Hid B X G4 o4 e → Hid B X G4 o4 it → s4.heap.get? e = some oe → s4.heap.get? it = some oi → RepF G4 fa f → RB fa m4 o4 → Qf f s4) :
    loAsg B A (.Tuple [.Name x1 p1, .Name x2 p2] tk' px) body X.env Qf (.ref Ta) () s3 := by
  have S5 := (S4.hide hd hoe).hide (d := it) (ob := oi) ⟨hd'.1, (if_neg hne.symm).trans hd'.2.1, hd'.2.2.1, hd'.2.2.2.1, hd'.2.2.2.2⟩ hoi
  have hn : [y1, y2].length = vals.size := by have := hr.length; rw [Array.length_toList] at this; exact this.symm
  refine wpAny_assign_Tuple hh hT (by rw [hae]; exact hn) (by rw [hae]; rfl) fun h4 he4 => ?_
  have up4 : ∀ b o, s3.heap.get? b = some o → h4.get? b = some o := fun b o q => he4 b o (Nat.ne_of_lt (Heap.lt_size q)) q
  have S6 := S5.grow (h' := h4) (tk := s3.toks) up4 (Le.refl G2) (fun b o q => up4 b o (S5.le b o q)) (fun _ _ _ q => q) S5.hi
  rw [hae]
  let X5 : Act := (X.at (AM.put X.P e oe)).at (AM.put (AM.put X.P e oe) it oi)
  have asg : JAs B X5 A [assign (.Name x1 p1) X5.env, assign (.Name x2 p2) X5.env] [y1, y2] m2 o2 fun m3 o3 => JF B X5 A m3 o3 (execs body X5.env) RB :=
    JAs_cons (JA_Name hk hi1 (.inl hl1) q1 (JAs_cons (JA_Name hk hi2 (.inl hl2) (by rw [List.length_set]; exact q2) (JAs_nil hb))))
  refine asg _ _ G2 S6 hr _ fun _ _ m3 o3 G3 s3 S7 L3 _ hb' => hb' s3 G3 S7 trivial _ fun f fa m4 o4 G4 s4 S8 L4' r4 h4' => ?_
  obtain ⟨u1, u2, u3⟩ := S8.unhide ((if_neg hne.symm).trans hd'.2.1) (S4.g0none hd'.1) hd'.2.2.1 hd'.2.2.2.1
  obtain ⟨w1, w2, w3⟩ := u1.unhide hd.2.1 (S4.g0none hd.1) hd.2.2.1 hd.2.2.2.1
  exact hQ f fa m4 o4 G4 s4 w1 (L3.trans L4') w2 ⟨u2.1, hd'.2.1, u2.2.2⟩ w3 u3 r4 h4'
theorem JF_ForE {x1 x2 : Str} {p1 p2 px pos cpos fpos : Pos} {tk' : Nat} {arg : Expr} {body orelse : List Stmt} {k1 k2 : Nat} {R : Fl → List S → Own → Prop} (hh : A.handled = none) (hB : B.Ok)
    (hk : X.env.scope.kind = .function) (hi1 : X.names[k1]? = some x1) (hl1 : X.env.kindOf x1 = some .local) (hi2 : X.names[k2]? = some x2) (hl2 : X.env.kindOf x2 = some .local)
    (hv : B.mg (Str.ofString "enumerate") = none) (hb : bootBuiltins (Str.ofString "enumerate") = some (.type "enumerate")) (hg : X.env.globals = mainGlobals ∧ X.env.builtins = builtinsNs) (hx : X.env.kindOf (Str.ofString "enumerate") = some .globalImplicit)
    (he : eval (.Call (.Name (Str.ofString "enumerate") fpos) [arg] [] cpos) X.env = (do let v ← eval (.Name (Str.ofString "enumerate") fpos) X.env; callWith cpos v [] (backTo cpos (starEach [arg] X.env)) []))
    (hse : starEach [arg] X.env = (false, eval arg X.env) :: starEach [] X.env)
    (hs : ∀ x, foldedSetIterable (.Call (.Name (Str.ofString "enumerate") fpos) [arg] [] cpos) X.env x = pure x)
    (hae : (assignEach [.Name x1 p1, .Name x2 p2] X.env) = [(false, assign (.Name x1 p1) X.env), (false, assign (.Name x2 p2) X.env)])
    (h : JV B X A m own (eval arg X.env) fun sv m1 o1 => ∃ (n : Nat) (Y : Nat → T → Prop) (I : Nat → List S → Own → Prop), (∀ s G v, St B X m1 o1 G s → RepS G sv (some v) → SrcE B X A o1 G s v n Y) ∧ I 0 m1 o1 ∧
      (∀ P j y m2 o2, j < n → Y j y → I j m2 o2 → k1 < m2.length ∧ k2 < m2.length ∧ JF B (X.at P) A ((m2.set k1 (.t (.int j))).set k2 (.t y)) o2 (execs body X.env) (turnPost (I (j + 1)) R)) ∧
      (∀ m2 o2, I n m2 o2 → JF B X A m2 o2 (execs orelse X.env) R)) :
    JF B X A m own (exec (.For (.Tuple [.Name x1 p1, .Name x2 p2] tk' px) (.Call (.Name (Str.ofString "enumerate") fpos) [arg] [] cpos) body orelse pos) X.env) R := by
  intro s G hS _ Q hQ
  refine for_call hB hk hv hb (by decide) (by decide) hg hx he hse hs h hS fun v sv m1 o1 G1 s1 S1 L1 r1 h1 => ?_
  obtain ⟨n, Y, I, hsrc, hI0, turn, done⟩ := h1
  refine hsrc s1 G1 v S1 r1 _ fun e it fp Pt W Mid h' tk wk hne w0 up hide hidi alive hfp htk hP => ?_
  refine wk.self 0 _ _ _ w0 ?_
  refine forLoopN (LInv B X G1 n I W e it) (fun k s2 hx => ?_) (n + 1) (.mk rfl (Nat.zero_le _) (S1.hid2 up hide hidi htk) (Le.refl _) hI0 w0 hide hidi)
  cases hx with
  | @mk j _ m2 o2 G2 _ hn hj S2 L2 hI hw hd hd' =>
  by_cases hlt : j < n
  · refine tok_in (wk.item j s2 _ _ hlt hw fun Ta vals h2 tk2 hpt hTs hT hm2 up2 htk2 => ?_)
    refine wk.go _ _ _ _ _ _ _ _ hm2 fun h3 hw3 up3 => ?_
    have S4 := (S2.hid2 (fun b o h1 h2 q => up2 b o (ne2 h1 h2) q) hd hd' htk2).hid2 (h' := h3) (tk := tk2) (fun b o h1 h2 q => up3 b o (ne2 h1 h2) q) hd hd' (Nat.le_refl _)
    obtain ⟨t, x, rfl, y, hy, ry⟩ := hP j vals hlt hpt
    obtain ⟨⟨oe, hoe⟩, ⟨oi, hoi⟩⟩ := alive _ _ hw3
    obtain ⟨q1, q2, hb⟩ := turn (AM.put (AM.put X.P e oe) it oi) j y m2 o2 hlt hy hI
    refine enum_turn hh hk hi1 hl1 hi2 hl2 hae hne S4 hd hd' hoe hoi (let ⟨o, ho, r⟩ := hT; ⟨o, up3 Ta o (wk.apart _ _ _ hm2) ho, r⟩) (.cons tInt (.cons (ry.mono L2) .nil)) q1 q2 hb fun f fa m4 o4 G4 s4 w1 L4 w2 u2 w3 u3 r4 h4' => ?_
    refine lo_end r4 h4' (fun hI4 => ⟨_, lo_lt hn hlt, .mk rfl hlt w1 (L2.trans L4) hI4 (wk.frame _ _ _ hw3 fun b hb o q => ?_) w2 u2⟩) fun f fa r h => hQ _ _ _ _ _ _ w1 (L1.trans (L2.trans L4)) r h
    rcases hfp b hb with rfl | rfl | ⟨o', ho'⟩
    · rw [hoe] at q; cases q; exact w3
    · rw [hoi] at q; cases q; exact u3
    · rw [show h3.get? b = some o' from S4.le b o' (L2.up b o' ho')] at q; cases q
      exact w1.le b o (L4.up b o (L2.up b o ho'))
  · have hje : j = n := Nat.le_antisymm hj (Nat.not_lt.mp hlt)
    subst hje
    refine tok_in (wk.done s2 _ _ hw fun h2 tk2 up2 htk2 => ?_)
    exact done m2 o2 hI _ G2 (S2.hid2 (h' := h2) (tk := tk2) (fun b o h1 h2 q => up2 b o (ne2 h1 h2) q) hd hd' htk2) trivial _ fun f fa m4 o4 G4 s4 S4 L4 r4 h4 => hQ _ _ _ _ _ _ S4 (L1.trans (L2.trans L4)) r4 h4
end
end
noncomputable section
theorem indexOf_spec {B : Bs} (hB : LB B) {es : List T} {b : T} {rs : List Bool} {k : Nat} (hk : rs[k]? = some true) (hlt : ∀ j, j < k → rs[j]? = some false) (hl : rs.length = es.length)
    (hc : ∀ (j : Nat) e, es[j]? = some e → ∃ r, rs[j]? = some r ∧ Cmps B e b r) : FunJ B (.ref 143) 1 [.lst es, b] (fun r => r = .int (k : Nat)) := by
  refine FunJ_of (n := 0) (ps := [Str.ofString "a", Str.ofString "b"]) (ls := [Str.ofString "i", Str.ofString "j"]) hB.ok (by rw [hB.K]; exact rfl) (by rw [hB.K]; kernel_rfl!) rfl rfl rfl rfl rfl rfl rfl ?_ rfl ?_ ?_ ?_
  · exact len2 fun _ _ => rfl
  · decide +kernel
  · decide +kernel
  · intro A L env s₀ P G₀ hA hP E
    dsimp only at E
    walk_at "jn"
    walk_at "jgo"
    refine JF_ForE (k1 := 2) (k2 := 3) hA.1 hB.ok (by walk_at "jfn") rfl (by walk_at "jkind") rfl (by walk_at "jkind") (n_enumerate hB) b_enumerate ⟨E.globals, E.builtins⟩ (by walk_at "jkind") rfl rfl (fun _ => rfl) rfl ?_
    walk_at "jname"
    have hkl : k < es.length := by rw [← hl]; exact (List.getElem?_eq_some_iff.mp hk).1
    refine ⟨es.length, fun i y => es[i]? = some y, fun j m2 o2 => j ≤ k ∧ o2 = [] ∧ ∃ s1 s2, m2 = [.t (.lst es), .t b, s1, s2], srcE_lst hA.1, ⟨Nat.zero_le _, rfl, _, _, rfl⟩, ?_, ?_⟩
    · rintro P j y m2 o2 hj hy ⟨hjk, rfl, s1, s2, rfl⟩
      obtain ⟨r, hr, hcm⟩ := hc j y hy
      refine ⟨by walk_at "jlen", by walk_at "jlen", ?_⟩
      walk_at "jn"
      walk_at "jgo"
      refine JB_Or (op := .Or) ?_
      refine JB_or_cons ?_
      walk_at "jgo"
      have fin : r = true → j = k := fun e => by
        subst e
        rcases Nat.lt_or_ge j k with q | q
        · rw [hlt j q] at hr; cases hr
        · lia
      refine (hcm _ _ _ _ _).2 fun r' hr' => ?_
      walk_at "jgo"
      split
      · rename_i q
        have e := fin (hr' q)
        subst e
        rw [if_pos rfl]
        walk_at "jgo"
      · refine JB_or_cons ?_
        walk_at "jgo"
        refine (hcm _ _ _ _ _).1 ?_
        walk_at "jgo"
        split
        · rename_i q
          have e := fin q
          subst e
          rw [if_pos rfl]
          walk_at "jgo"
        · rename_i q
          refine JB_or_nil ?_
          rw [if_neg Bool.false_ne_true]
          walk_at "jgo"
          refine ⟨?_, rfl, _, _, rfl⟩
          rcases Nat.lt_or_ge j k with q' | q'
          · exact q'
          · have : j = k := by lia
            subst this
            rw [hk] at hr
            cases hr
            exact absurd rfl q
    · rintro m2 o2 ⟨hle, _⟩
      lia
end
noncomputable section
theorem div3_spec {B : Bs} (hB : LB B) {d : Nat} {a12 a3 b b1 b2 : Int} {n : Nat} (h12 : 0 ≤ a12) (hab : a12 < b) (h3 : 0 ≤ a3) (h3' : a3 < 2 ^ n) (hb1 : 0 < b1) (hb2 : 0 ≤ b2) (hb2' : b2 < 2 ^ n) (hb : b = b1 * 2 ^ n + b2)
    (hn : n ≤ 20000) (hbits : ∀ x : Int, 0 ≤ x → x < 2 ^ n * b → Builtin.Int.intBits x ≤ 2 ^ 20)
    (h21 : a12 < 2 ^ n * b1 → FunJ B (.ref 94) d [.int a12, .int b1, .int n] (fun r => r = .tup [.int (a12 / b1), .int (a12 % b1)])) :
    FunJ B (.ref 101) (d + 1) [.int a12, .int a3, .int b, .int b1, .int b2, .int n] (fun r => r = .tup [.int ((a12 * 2 ^ n + a3) / b), .int ((a12 * 2 ^ n + a3) % b)]) := by
  refine FunJ_of (n := d) (ps := [Str.ofString "a12", Str.ofString "a3", Str.ofString "b", Str.ofString "b1", Str.ofString "b2", Str.ofString "n"]) (ls := [Str.ofString "q", Str.ofString "r"]) hB.ok (by rw [hB.K]; exact rfl) (by rw [hB.K]; kernel_rfl!) rfl rfl rfl rfl rfl rfl rfl ?_ rfl ?_ ?_ ?_
  · exact len6 fun _ _ _ _ _ _ => rfl
  · decide +kernel
  · decide +kernel
  · intro A L env s₀ P G₀ hA hP E
    dsimp only at E
    have hp : (0 : Int) < 2 ^ n := Int.pow_pos (by decide)
    have hb0 : 0 < b := by omega
    have hble : b ≤ 2 ^ n * b := by have := Int.mul_le_mul_of_nonneg_right (show (1 : Int) ≤ 2 ^ n by lia) (Int.le_of_lt hb0); lia
    have hb1le : b1 ≤ b1 * 2 ^ n := by have := Int.mul_le_mul_of_nonneg_left (show (1 : Int) ≤ 2 ^ n by lia) (Int.le_of_lt hb1); lia
    have hn' : ((n : Nat) : Int).toNat = n := Int.toNat_natCast n
    walk_at "jn"
    refine JF_cons ?_
    refine J.mono (R := fun f m1 o1 => f = .next ∧ o1 = [] ∧ ∃ q r : Int, m1 = [.t (.int a12), .t (.int a3), .t (.int b), .t (.int b1), .t (.int b2), .t (.int n), .t (.int q), .t (.int r)] ∧
      0 ≤ q ∧ q < 2 ^ n * b ∧ 0 ≤ r ∧ r < 2 ^ n * b ∧ q * b1 + r = a12 ∧ r * 2 ^ n + a3 - q * b2 < b) ?_ ?_
    · walk_at "jgo"
      refine B_shr (by omega) ?_
      walk_at "jgo"
      rw [hn', fdiv_pow]
      split
      · rename_i hq
        have hq : a12 / 2 ^ n = b1 := by simpa using hq
        have hdm := Int.mul_ediv_add_emod a12 (2 ^ n)
        have hm0 := Int.emod_nonneg a12 (show (2 : Int) ^ n ≠ 0 by lia)
        have hm1 := Int.emod_lt_of_pos a12 hp
        rw [hq, Int.mul_comm] at hdm
        walk_at "jgo"
        refine JF_AssignSwap (names := [Str.ofString "q", Str.ofString "r"]) hA.1 rfl (by rw [E.eq]; rfl) ?_
        refine JV_Tuple ?_
        walk_at "jgo"
        refine B_shl (by omega) (by have : Builtin.Int.intBits 1 = 1 := by decide +kernel
                                    rw [this]; lia) ?_
        walk_at "jgo"
        refine B_shl (by lia) ?_ ?_
        · have := hbits b1 (by lia) (by lia); lia
        walk_at "jgo"
        rw [hn', Int.one_mul]
        refine ⟨[.int (2 ^ n - 1), .int (a12 - b1 * 2 ^ n + b1)], rfl, Nat.le_of_ble_eq_true rfl, _, rfl, rfl, ?_⟩
        refine JAs_cons (JA_bind (i := 7) (by walk_at "jfn") rfl (.inl (by walk_at "jkind")) (by walk_at "jlen") ?_)
        refine JAs_cons (JA_bind (i := 6) (by walk_at "jfn") rfl (.inl (by walk_at "jkind")) (by walk_at "jlen") ?_)
        refine JAs_nil ?_
        walk_at "jn"
        walk_at "jgo"
        have hpb : 2 ^ n ≤ 2 ^ n * b := by have := Int.mul_le_mul_of_nonneg_left (show (1 : Int) ≤ b by lia) (Int.le_of_lt hp); lia
        refine ⟨rfl, rfl, 2 ^ n - 1, a12 - b1 * 2 ^ n + b1, rfl, by lia, by lia, by lia, by lia, ?_, ?_⟩
        · rw [Int.sub_mul, Int.one_mul, Int.mul_comm (2 ^ n) b1]; lia
        · have h4 : (a12 - b1 * 2 ^ n + b1) ≤ b1 + b2 - 1 := by lia
          have h5 := Int.mul_le_mul_of_nonneg_right h4 (Int.le_of_lt hp)
          have h6 : (b1 + b2 - 1) * 2 ^ n = b1 * 2 ^ n + b2 * 2 ^ n - 2 ^ n := by rw [Int.sub_mul, Int.add_mul, Int.one_mul]
          have h7 : (2 ^ n - 1) * b2 = b2 * 2 ^ n - b2 := by rw [Int.sub_mul, Int.one_mul, Int.mul_comm (2 ^ n) b2]
          lia
      · rename_i hq
        have hq : ¬ a12 / 2 ^ n = b1 := by simpa using hq
        have hlt12 : a12 < 2 ^ n * b1 := by
          have h4 : a12 / 2 ^ n ≤ b1 := by
            have : a12 < (b1 + 1) * 2 ^ n := by rw [Int.add_mul, Int.one_mul]; lia
            have := Int.ediv_lt_of_lt_mul hp this
            lia
          have h5 : a12 / 2 ^ n < b1 := by lia
          have := Int.lt_mul_of_ediv_lt hp h5
          rw [Int.mul_comm]; exact this
        have hdm := Int.mul_ediv_add_emod a12 b1
        have hm0 := Int.emod_nonneg a12 (show b1 ≠ 0 by lia)
        have hm1 := Int.emod_lt_of_pos a12 hb1
        have hd0 := Int.ediv_nonneg h12 (Int.le_of_lt hb1)
        have hd1 : a12 / b1 ≤ a12 := Int.ediv_le_self _ h12
        walk_at "jgo"
        refine JF_AssignTup rfl (by rw [E.eq]; rfl) ?_
        walk_at "c__div2n1n"
        walk_at "jgo"
        refine C_funE (args := [.int a12, .int b1, .int n]) (h21 hlt12) hA ?_
        refine JA_Tuple hA.1 rfl rfl ?_
        refine JAs_cons (JA_Name (i := 6) (by walk_at "jfn") rfl (.inl (by walk_at "jkind")) (by walk_at "jlen") ?_)
        refine JAs_cons (JA_Name (i := 7) (by walk_at "jfn") rfl (.inl (by walk_at "jkind")) (by walk_at "jlen") ?_)
        refine JAs_nil ?_
        walk_at "jn"
        walk_at "jgo"
        refine ⟨rfl, rfl, a12 / b1, a12 % b1, rfl, hd0, by lia, hm0, by lia, by rw [Int.mul_comm]; exact hdm, ?_⟩
        have h6 := Int.mul_le_mul_of_nonneg_right (show a12 % b1 ≤ b1 - 1 by lia) (Int.le_of_lt hp)
        rw [Int.sub_mul, Int.one_mul] at h6
        have h7 := Int.mul_nonneg hd0 hb2
        lia
    · rintro f m1 o1 ⟨rfl, rfl, q, r, rfl, hq0, hq1, hr0, hr1, hqr, hlt⟩
      walk_at "jn"
      walk_at "jgo"
      refine B_shl (by lia) ?_ ?_
      · have := hbits r hr0 hr1; lia
      walk_at "jgo"
      rw [hn']
      refine B_or ?_
      rw [bitOr_low hr0 h3 h3']
      walk_at "jgo"
      refine B_mul (.of_bits (hbits q hq0 hq1) (hbits b2 hb2 (by lia))) ?_
      walk_at "jgo"
      refine JF_While (fun k m2 o2 => o2 = [] ∧ ∃ q r : Int, m2 = [.t (.int a12), .t (.int a3), .t (.int b), .t (.int b1), .t (.int b2), .t (.int n), .t (.int q), .t (.int r)] ∧ k = (-r).toNat ∧ q * b + r = a12 * 2 ^ n + a3 ∧ r < b)
        (-(r * 2 ^ n + a3 - q * b2)).toNat ⟨rfl, q, _, rfl, rfl, ?_, hlt⟩ ?_
      · rw [hb, ← hqr, Int.mul_add, Int.add_mul, Int.mul_assoc]; lia
      · rintro k m2 o2 ⟨rfl, q, r, rfl, rfl, hA1, hlt1⟩
        walk_at "jgo"
        split
        · rename_i hneg
          have hneg : r < 0 := by simpa using hneg
          walk_at "jgo"
          refine JF_AugT (i := 6) (by walk_at "jfn") rfl (by walk_at "jkind") rfl fun _ hGo => ?_
          walk_at "jgo"
          refine I_sub ?_
          walk_at "jgo"
          refine JF_AugT (i := 7) (by walk_at "jfn") rfl (by walk_at "jkind") rfl fun _ hGo => ?_
          walk_at "jgo"
          refine I_add ?_
          walk_at "jgo"
          refine ⟨(-(r + b)).toNat, by lia, rfl, q - 1, r + b, rfl, rfl, ?_, by lia⟩
          rw [Int.sub_mul]; lia
        · rename_i hneg
          have hneg : 0 ≤ r := by simpa using hneg
          walk_at "jgo"
          refine JV_Tuple ?_
          walk_at "jgo"
          refine ⟨[.int q, .int r], rfl, Nat.le_of_ble_eq_true rfl, ?_⟩
          walk_at "jn"
          have e1 : (a12 * 2 ^ n + a3) / b = q := by
            rw [← hA1, Int.add_comm, Int.add_mul_ediv_right _ _ (by lia), Int.ediv_eq_zero_of_lt hneg hlt1]; lia
          have e2 : (a12 * 2 ^ n + a3) % b = r := by
            rw [← hA1, Int.add_comm, Int.add_mul_emod_self_right, Int.emod_eq_of_lt hneg hlt1]
          rw [e1, e2]
end
noncomputable section
set_option maxHeartbeats 4000000 in
theorem div2_step {B : Bs} (hB : LB B) {d n : Nat} {a b : Int} (hn : n ≤ 19000) (hn1 : 1 ≤ n) (ha : 0 ≤ a) (hab : a < 2 ^ n * b) (hb1 : 2 ^ (n - 1) ≤ b) (hb2 : b < 2 ^ n)
    (ih : 4000 < n → ∀ (h : Nat) (x y : Int), 2 * h ≤ n + 1 → 1 ≤ h → 0 ≤ x → x < 2 ^ h * y → 2 ^ (h - 1) ≤ y → y < 2 ^ h → FunJ B (.ref 94) d [.int x, .int y, .int h] (fun r => r = .tup [.int (x / y), .int (x % y)])) :
    FunJ B (.ref 94) (d + 2) [.int a, .int b, .int n] (fun r => r = .tup [.int (a / b), .int (a % b)]) := by
  have hp : (0 : Int) < 2 ^ n := Int.pow_pos (by decide)
  have hp1 : (0 : Int) < 2 ^ (n - 1) := Int.pow_pos (by decide)
  refine FunJ_of (n := d + 1) (ps := [Str.ofString "a", Str.ofString "b", Str.ofString "n"]) (ls := [Str.ofString "pad", Str.ofString "half_n", Str.ofString "mask", Str.ofString "b1", Str.ofString "b2", Str.ofString "q1", Str.ofString "r", Str.ofString "q2"]) hB.ok (by rw [hB.K]; exact rfl) (by rw [hB.K]; kernel_rfl!) rfl rfl rfl rfl rfl rfl rfl ?_ rfl ?_ ?_ ?_
  · exact len3 fun _ _ _ => rfl
  · decide +kernel
  · decide +kernel
  · intro A L env s₀ P G₀ hA hP E
    dsimp only at E
    walk_at "jn"
    refine JF_cons ?_
    walk_at "jif"
    refine JB_Compare ?_ (by with_unfolding_all rfl)
    refine JV_BinOp ?_
    walk_at "m_bit_length"
    walk_at "jname"
    refine ⟨ty_int, ?_⟩
    walk_at "jgo"
    refine C_bitlen ?_
    walk_at "jgo"
    refine JV_glob (y := .int 4000) hB.ok (gDL hB) tInt (by walk_at "jfn") E.globals (by walk_at "jkind") ?_ (by decide)
    walk_at "jgo"
    split
    · rename_i hle
      have hle : (Builtin.Int.intBits a : Int) - n ≤ 4000 := by simpa using hle
      walk_at "jgo"
      walk_at "c_divmod"
      walk_at "jgo"
      refine C_divmod (by lia) (noPylong_near hn1 hb1 hb2 ha (by lia)) ?_
      walk_at "jn"
      rw [Int.fdiv_eq_ediv_of_nonneg _ (by lia), Int.fmod_eq_emod_of_nonneg _ (by lia)]
    · rename_i hle
      have hbits := bits_prod ha hab hb2
      have hbn : 4000 < n := by
        have hle : ¬ (Builtin.Int.intBits a : Int) - n ≤ 4000 := by simpa using hle
        lia
      walk_at "jgo"
      refine B_and ?_
      rw [bitAnd_one]
      walk_at "jset"
      walk_at "jn"
      refine JF_cons ?_
      refine J.mono (R := fun f m1 o1 => f = .next ∧ o1 = [] ∧ ∃ (e h : Nat) (a' b' : Int), n + e = 2 * h ∧ e ≤ 1 ∧ a' = a * 2 ^ e ∧ b' = b * 2 ^ e ∧ m1 = [.t (.int a'), .t (.int b'), .t (.int ((2 * h : Nat) : Int)), .t (.int e), .undef, .undef, .undef, .undef, .undef, .undef, .undef]) ?_ ?_
      · walk_at "jif"
        refine JB_value ?_ rfl
        walk_at "jgo"
        split
        · rename_i hq
          have hq : n % 2 = 1 := by simp at hq; lia
          rw [hq]
          walk_at "jgo"
          refine JF_AugT (i := 0) (by walk_at "jfn") rfl (by walk_at "jkind") rfl fun _ hGo => ?_
          walk_at "jgo"
          refine I_shl (by lia) (by lia) ?_
          walk_at "jgo"
          refine JF_AugT (i := 1) (by walk_at "jfn") rfl (by walk_at "jkind") rfl fun _ hGo => ?_
          walk_at "jgo"
          refine I_shl (by lia) (by have := intBits_le (show 0 ≤ b by lia) hb2; lia) ?_
          walk_at "jgo"
          refine JF_AugT (i := 2) (by walk_at "jfn") rfl (by walk_at "jkind") rfl fun _ hGo => ?_
          walk_at "jgo"
          refine I_add ?_
          walk_at "jgo"
          refine ⟨rfl, rfl, 1, (n + 1) / 2, _, _, by lia, Nat.le_refl _, rfl, rfl, ?_⟩
          rw [show (((2 * ((n + 1) / 2) : Nat)) : Int) = (n : Int) + 1 by lia]; rfl
        · rename_i hq
          have hq : n % 2 = 0 := by simp at hq; lia
          rw [hq]
          walk_at "jgo"
          refine ⟨rfl, rfl, 0, n / 2, _, _, by lia, Nat.zero_le _, rfl, rfl, ?_⟩
          rw [show (((2 * (n / 2) : Nat)) : Int) = (n : Int) by lia, Int.pow_zero, Int.mul_one, Int.mul_one]
      · rintro f m1 o1 ⟨rfl, rfl, e, h, a', b', hnh, he1, hae, hbe, rfl⟩
        have hpe : (0 : Int) < 2 ^ e := Int.pow_pos (by decide)
        have hph : (0 : Int) < 2 ^ h := Int.pow_pos (by decide)
        have hb0 : 0 < b := by lia
        have hh1 : 1 ≤ h := by lia
        have hsb := split_b hn1 hnh hb1 hb2
        have hsa := split_a hnh hb0 hab
        have ha' : 0 ≤ a * 2 ^ e := Int.mul_nonneg ha (Int.le_of_lt hpe)
        have hb' : 0 < b * 2 ^ e := Int.mul_pos hb0 hpe
        rw [← hae] at hsa ha'
        rw [← hbe] at hsb hsa hb'
        have hht := half_top hh1 hsb.1 hsb.2
        have hb1p : 0 < b' / 2 ^ h := by have : (0 : Int) < 2 ^ (h - 1) := Int.pow_pos (by decide); lia
        have hsp : ∀ {a12 a3 : Int}, 0 ≤ a12 → a12 < b' → 0 ≤ a3 → a3 < 2 ^ h → FunJ B (.ref 101) (d + 1) [.int a12, .int a3, .int b', .int (b' / 2 ^ h), .int (b' % 2 ^ h), .int h] (fun r => r = .tup [.int ((a12 * 2 ^ h + a3) / b'), .int ((a12 * 2 ^ h + a3) % b')]) := fun h1 h2 h3 h4 =>
          div3_spec hB h1 h2 h3 h4 hb1p (Int.emod_nonneg _ (by lia)) (Int.emod_lt_of_pos _ hph) (by rw [Int.mul_comm]; exact (Int.mul_ediv_add_emod _ _).symm) (by lia)
            (fun x hx hx' => Nat.le_trans (bits_prod hx hx' hsb.2) (by lia)) (fun hlt => ih hbn h _ _ (by lia) hh1 h1 hlt hht.1 hht.2)
        have hq1 : a' / 2 ^ (2 * h) * 2 ^ h + a' / 2 ^ h % 2 ^ h = a' / 2 ^ h := by
          rw [show 2 * h = h + h by lia, pow_add', ← Int.ediv_ediv_of_nonneg (Int.le_of_lt hph), Int.mul_comm]
          exact Int.mul_ediv_add_emod _ _
        have hlt1 : a' / 2 ^ (2 * h) < b' := Int.ediv_lt_of_lt_mul (Int.pow_pos (by decide)) (by rw [Int.mul_comm]; exact hsa)
        have hH := halves (a := a') hb' hph
        have hr0 := Int.emod_nonneg (a' / 2 ^ h) (show b' ≠ 0 by lia)
        have hr1 := Int.emod_lt_of_pos (a' / 2 ^ h) hb'
        have hm0 := Int.emod_nonneg a' (show (2 : Int) ^ h ≠ 0 by lia)
        have hm1 := Int.emod_lt_of_pos a' hph
        have hq0 : 0 ≤ a' / 2 ^ h / b' := Int.ediv_nonneg (Int.ediv_nonneg ha' (Int.le_of_lt hph)) (Int.le_of_lt hb')
        have hq2 : 0 ≤ (a' / 2 ^ h % b' * 2 ^ h + a' % 2 ^ h) / b' := Int.ediv_nonneg (Int.add_nonneg (Int.mul_nonneg hr0 (Int.le_of_lt hph)) hm0) (Int.le_of_lt hb')
        have hq3 : (a' / 2 ^ h % b' * 2 ^ h + a' % 2 ^ h) / b' < 2 ^ h := by
          apply Int.ediv_lt_of_lt_mul hb'
          have h1 := Int.mul_le_mul_of_nonneg_right (show a' / 2 ^ h % b' ≤ b' - 1 by lia) (Int.le_of_lt hph)
          rw [Int.sub_mul, Int.one_mul] at h1
          rw [Int.mul_comm (2 ^ h) b']
          lia
        have hqb : Builtin.Int.intBits (a' / 2 ^ h / b') ≤ 2 * h := by
          refine intBits_le hq0 ?_
          have h1 : a' / 2 ^ h / b' ≤ a' / b' := by
            rw [hH.1]
            have := Int.mul_le_mul_of_nonneg_left (show (1 : Int) ≤ 2 ^ h by lia) hq0
            lia
          have h2 : a' / b' < 2 ^ (2 * h) := Int.ediv_lt_of_lt_mul hb' hsa
          lia
        have hpd := pad_div (a := a) (b := b) (e := e) hb0
        rw [← hae, ← hbe] at hpd
        walk_at "jn"
        walk_at "jgo"
        refine B_shr (by lia) ?_
        walk_at "jgo"
        rw [show ((((2 * h : Nat) : Int)).fdiv (2 ^ (1 : Int).toNat)) = (h : Int) by
          rw [show ((1 : Int).toNat) = 1 from rfl, fdiv_pow, Int.pow_one]; lia]
        refine B_shl (by omega) (by have : Builtin.Int.intBits 1 = 1 := by decide +kernel
                                    rw [this]; lia) ?_
        walk_at "jgo"
        rw [Int.toNat_natCast, Int.one_mul]
        refine JF_AssignSwap (names := [Str.ofString "b1", Str.ofString "b2"]) hA.1 rfl (by rw [E.eq]; rfl) ?_
        refine JV_Tuple ?_
        walk_at "jgo"
        refine B_shr (by lia) ?_
        walk_at "jgo"
        rw [Int.toNat_natCast, fdiv_pow]
        refine B_and ?_
        rw [bitAnd_mask (Int.le_of_lt hb')]
        walk_at "jgo"
        refine ⟨[.int (b' / 2 ^ h), .int (b' % 2 ^ h)], rfl, Nat.le_of_ble_eq_true rfl, _, rfl, rfl, ?_⟩
        refine JAs_cons (JA_bind (i := 7) (by walk_at "jfn") rfl (.inl (by walk_at "jkind")) (by walk_at "jlen") ?_)
        refine JAs_cons (JA_bind (i := 6) (by walk_at "jfn") rfl (.inl (by walk_at "jkind")) (by walk_at "jlen") ?_)
        refine JAs_nil ?_
        walk_at "jn"
        walk_at "jgo"
        refine JF_AssignTup rfl (by rw [E.eq]; rfl) ?_
        walk_at "c__div3n2n"
        walk_at "jgo"
        refine B_shr (by lia) ?_
        walk_at "jgo"
        refine B_shr (by lia) ?_
        walk_at "jgo"
        rw [Int.toNat_natCast, Int.toNat_natCast, fdiv_pow, fdiv_pow]
        refine B_and ?_
        rw [bitAnd_mask (Int.ediv_nonneg ha' (Int.le_of_lt hph))]
        walk_at "jgo"
        refine C_fun (args := [.int (a' / 2 ^ (2 * h)), .int (a' / 2 ^ h % 2 ^ h), .int b', .int (b' / 2 ^ h), .int (b' % 2 ^ h), .int h])
          (hsp (Int.ediv_nonneg ha' (Int.le_of_lt (Int.pow_pos (by decide)))) hlt1 (Int.emod_nonneg _ (by lia)) (Int.emod_lt_of_pos _ hph)) hA ?_
        rintro _ rfl
        rw [hq1]
        refine JA_Tuple hA.1 rfl rfl ?_
        refine JAs_cons (JA_Name (i := 8) (by walk_at "jfn") rfl (.inl (by walk_at "jkind")) (by walk_at "jlen") ?_)
        refine JAs_cons (JA_Name (i := 9) (by walk_at "jfn") rfl (.inl (by walk_at "jkind")) (by walk_at "jlen") ?_)
        refine JAs_nil ?_
        walk_at "jn"
        walk_at "jgo"
        refine JF_AssignTup rfl (by rw [E.eq]; rfl) ?_
        walk_at "c__div3n2n"
        walk_at "jgo"
        refine B_and ?_
        rw [bitAnd_mask ha']
        walk_at "jgo"
        refine C_fun (args := [.int (a' / 2 ^ h % b'), .int (a' % 2 ^ h), .int b', .int (b' / 2 ^ h), .int (b' % 2 ^ h), .int h])
          (hsp hr0 hr1 hm0 hm1) hA ?_
        rintro _ rfl
        refine JA_Tuple hA.1 rfl rfl ?_
        refine JAs_cons (JA_Name (i := 10) (by walk_at "jfn") rfl (.inl (by walk_at "jkind")) (by walk_at "jlen") ?_)
        refine JAs_cons (JA_Name (i := 9) (by walk_at "jfn") rfl (.inl (by walk_at "jkind")) (by walk_at "jlen") ?_)
        refine JAs_nil ?_
        walk_at "jn"
        rw [← hH.2]
        refine JF_cons ?_
        refine J.mono (R := fun f m1 o1 => f = .next ∧ o1 = [] ∧ m1 = [.t (.int a'), .t (.int b'), .t (.int ((2 * h : Nat) : Int)), .t (.int e), .t (.int h), .t (.int (2 ^ h - 1)), .t (.int (b' / 2 ^ h)), .t (.int (b' % 2 ^ h)), .t (.int (a' / 2 ^ h / b')), .t (.int (a % b)), .t (.int ((a' / 2 ^ h % b' * 2 ^ h + a' % 2 ^ h) / b'))]) ?_ ?_
        · walk_at "jif"
          refine JB_value ?_ rfl
          walk_at "jgo"
          split
          · rename_i hq
            have hq : e = 1 := by simp at hq; lia
            walk_at "jgo"
            refine JF_AugT (i := 9) (by walk_at "jfn") rfl (by walk_at "jkind") rfl fun _ hGo => ?_
            walk_at "jgo"
            refine I_shr (by lia) ?_
            walk_at "jgo"
            refine ⟨rfl, rfl, ?_⟩
            rw [show ((1 : Int).toNat) = 1 from rfl, fdiv_pow, ← hpd.2, hq]
          · rename_i hq
            have hq : e = 0 := by simp at hq; lia
            walk_at "jgo"
            refine ⟨rfl, rfl, ?_⟩
            rw [← hpd.2, hq, Int.pow_zero, Int.ediv_one]
        · rintro f m1 o1 ⟨rfl, rfl, rfl⟩
          walk_at "jn"
          walk_at "jgo"
          refine JV_Tuple ?_
          walk_at "jgo"
          refine B_shl (by lia) (by lia) ?_
          walk_at "jgo"
          refine B_or ?_
          rw [Int.toNat_natCast, bitOr_low hq0 hq2 hq3, ← hH.1, hpd.1]
          walk_at "jgo"
          exact ⟨[.int (a / b), .int (a % b)], rfl, Nat.le_of_ble_eq_true rfl, rfl⟩
theorem div2_spec {B : Bs} (hB : LB B) : ∀ (k n : Nat) (a b : Int), n ≤ 4000 * 2 ^ k → n ≤ 19000 → 1 ≤ n → 0 ≤ a → a < 2 ^ n * b → 2 ^ (n - 1) ≤ b → b < 2 ^ n →
    FunJ B (.ref 94) (2 * k + 2) [.int a, .int b, .int n] (fun r => r = .tup [.int (a / b), .int (a % b)])
  | 0, n, a, b, hk, hn, hn1, ha, hab, hb1, hb2 => div2_step hB hn hn1 ha hab hb1 hb2 fun h => absurd h (by lia)
  | k + 1, n, a, b, hk, hn, hn1, ha, hab, hb1, hb2 => div2_step hB hn hn1 ha hab hb1 hb2 fun _ h x y h2 h1 hx hxy hy hy2 =>
    div2_spec hB k h x y (by rw [Nat.pow_succ] at hk; lia) (by lia) h1 hx hxy hy hy2
end
noncomputable section
theorem zip_rev_out {x : Str} : ∀ {ps : List Str} {vs : List Value}, x ∉ ps → (ps.zip vs).reverse.lookup x = none
  | [], _, _ => rfl
  | _ :: _, [], _ => rfl
  | p :: ps, v :: vs, h => by
    have hp : (x == p) = false := by
      rw [beq_eq_false_iff_ne]; exact fun q => h (q ▸ List.mem_cons_self)
    rw [List.zip_cons_cons, List.reverse_cons, List.lookup_append, zip_rev_out fun q => h (List.mem_cons_of_mem _ q)]
    simp [List.lookup, hp]
theorem zip_rev_in {x : Str} {v : Value} : ∀ {ps : List Str} {vs : List Value} {i : Nat}, ps.Nodup → ps[i]? = some x → vs[i]? = some v → (ps.zip vs).reverse.lookup x = some v
  | [], _, _, _, h, _ => by simp at h
  | _ :: _, [], _, _, _, h => by simp at h
  | p :: ps, u :: vs, i, nd, h1, h2 => by
    rw [List.nodup_cons] at nd
    rw [List.zip_cons_cons, List.reverse_cons, List.lookup_append]
    cases i with
    | zero =>
      simp at h1 h2; subst h1; subst h2
      rw [zip_rev_out nd.1]; simp [List.lookup]
    | succ i => rw [zip_rev_in nd.2 (by simpa using h1) (by simpa using h2)]; rfl
section
variable {B : Bs} {X : Act} {A : Around} {m : List S} {own : Own}
theorem St.underV {G : PM} {s : Shared} {env : Env} {names : List Str} {mC : List S} {mc : Str → Option Value} (S : St B X m own G s) (hC : Hid B X G own env.locals) (hns : s.heap.Ns env.locals mc) (hcl : ∀ x c, env.cells.lookup x = some c → X.env.cells.lookup x = some c)
    (hnd : names.Nodup)
    (hv : ∀ (i : Nat) x sv, names[i]? = some x → mC[i]? = some sv → (env.kindOf x = some .local ∧ RepS G sv (mc x)) ∨
      ((env.kindOf x = some .cell ∨ env.kindOf x = some .free) ∧ ∃ c o, env.cells.lookup x = some c ∧ s.heap.IsCell c o ∧ RepS G sv o)) :
    St B (X.under s.heap env names) mC own G s :=
  have S0 := St.under (mC := []) S hC hns hcl hnd (fun i x sv _ e => by simp at e)
  { S0 with
    vars := fun i x sv e1 e2 => by
      rcases hv i x sv e1 e2 with ⟨a, b⟩ | ⟨a, c, o, b1, b2, b3⟩
      · exact ⟨mc x, .inl ⟨a, mc, hns, rfl⟩, b⟩
      · exact ⟨o, .inr ⟨a, c, b1, b2⟩, b3⟩ }
theorem JF_Def {name qual : Str} {params : Arguments} {body : List Stmt} {scope : Scope} {pos : Pos} {cl : List (Str × Addr)} {c P : Addr} {i : Nat} {R : Fl → List S → Own → Prop} (hB : LB B)
    (hC : CodeHd B.H c P) (hp : (P, O.tab pos qual) ∈ B.pl) (hd0 : params.defaults = []) (hk0 : params.kw_defaults = []) (ha : annTrees params none X.env = [])
    (hq : qualnameIn X.env name name = qual) (hcl : closureFor scope X.env = pure cl) (hge : X.env.globals = mainGlobals) (hcd : X.env.code = .ref c)
    (hk : X.env.scope.kind = .function) (hi : X.names[i]? = some name) (hl : X.env.kindOf name = some .local ∨ (X.env.kindOf name = some .cell ∧ ∀ c, X.env.cells.lookup name = some c → X.P c = none))
    (him : i < m.length) (h : R .next (m.set i (.t (.fn name qual params body scope cl))) own) :
    JF B X A m own (exec (.FunctionDef name params body [] none [] scope none name pos) X.env) R := by
  intro s G hS _ Q hQ
  refine nestDef_K hd0 hk0 ha ?_
  rw [hq]
  refine aside fun Cg hCg => ?_
  obtain ⟨bm, ob, b1, b2, b3, b4, b5, b6⟩ := hB.bm
  obtain ⟨obP, hP, ⟨ps, hobP, hps⟩, hGP, hXP, hPL, hPc⟩ := hS.ow (P, .tab pos qual) (List.mem_append_right _ hp)
  refine hCg ?_
  dsimp only at hP hGP hXP hPL hPc
  subst hobP
  have up : ∀ b o, B.H.get? b = some o → s.heap.get? b = some o := fun b o e => hS.le b o (hS.base b o e)
  have hg : s.heap.Ns mainGlobals B.mg := hB.ok.g.keeps up
  have hBP : B.H.get? P = none := by
    cases e : B.H.get? P with
    | none => rfl
    | some o => have := hS.base P o e; rw [hGP] at this; cases this
  have hgP : mainGlobals ≠ P := fun q => by
    refine aside fun Cg hCg => ?_
    obtain ⟨o, es, ep, e, hd, _⟩ := hB.ok.g
    refine hCg ?_
    rw [q, hBP] at e; cases e
  have hbP : bm ≠ P := fun q => by rw [q, hBP] at b3; cases b3
  have hbG : bm ≠ mainGlobals := fun q => by
    obtain ⟨o, es, ep, e, hd, _⟩ := hB.ok.g
    rw [q, e] at b3; cases b3; rw [hd] at b6; cases b6
  have ht : TriplesOk ps.toList := by
    rcases hps with rfl | ⟨c', o', vs, t, rfl, _⟩ <;> exact True.intro
  have fin : ∀ (f : Addr) doc pm c' ctv o' vs t (G' : PM) (s' : Shared), St B X m own G' s' → Le G G' → G'.ob f = some (fnMade name qual params body scope cl doc pm c' ctv) → G'.ob c' = some o' → o'.data = .fields vs → vs[1]? = some (.str qual t) →
      wpAny (model B.prog B.w) A (storeName X.env name (.ref f)) (fun _ s'' => Q .next s'') NoE s' := fun f doc pm c' ctv o' vs t G' s' S' L e1 e2 e3 e4 =>
    store_any S' hk hi hl him (rT (by exact .mk f doc pm c' ctv o' vs t e1 e2 e3 e4)) fun s3 S3 => hQ _ _ _ _ _ _ S3 L rNext h
  have plq : ∀ p ∈ B.pl, p.1 = P → p = (P, O.tab pos qual) := fun p hp' e => by
    have : ∀ (l : Own), (l.map (·.1)).Nodup → ∀ p ∈ l, ∀ q ∈ l, p.1 = q.1 → p = q := by
      intro l
      induction l with
      | nil => intro _ p hp; cases hp
      | cons x l ih =>
        intro nd p hp q hq e
        rw [List.map_cons, List.nodup_cons] at nd
        rcases List.mem_cons.mp hp with e1 | hp1
        · rcases List.mem_cons.mp hq with e2 | hq1
          · rw [e1, e2]
          · exact absurd (show x.1 ∈ l.map (·.1) from e1 ▸ e ▸ List.mem_map_of_mem hq1) nd.1
        · rcases List.mem_cons.mp hq with e2 | hq1
          · exact absurd (show x.1 ∈ l.map (·.1) from e2 ▸ e ▸ List.mem_map_of_mem hp1) nd.1
          · exact ih nd.2 p hp1 q hq1 e
    exact this B.pl hB.ok.plnd p hp' _ hp e
  have Gnone : ∀ b, s.heap.objs.size ≤ b → G.ob b = none := fun b hb => by
    cases e : G.ob b with
    | none => rfl
    | some o => exact absurd (Heap.lt_size (hS.le b o e)) (Nat.not_lt.mpr hb)
  rcases hps with rfl | ⟨c', o', vs, t, rfl, e1, e2, e3⟩
  · refine tok_in (makeFunction_K (mg := B.mg) hcl hge hg hcd (hC.keeps up) hP ht rfl hgP ⟨bm, ob, b1, b2, hbG, hbP, up _ _ b3, b4, b5, b6⟩ fun c' ctv doc h' tk hx hge' hlt hrec htb htm => ?_)
    refine aside fun Cg hCg => ?_
    obtain ⟨c₂, oc, vs, t, e2, hoc, hd, hv⟩ := hrec
    cases e2
    refine hCg ?_
    generalize hfo : fnMade name qual params body scope cl doc ((B.mg "__name__").getD .none) c' ctv = fo
    have hfree : fo.isFreed = false := by rw [← hfo]; rfl
    generalize hf : h'.objs.size = f at *
    have hfG : G.ob f = none := Gnone _ (by lia)
    have hcG : G.ob c' = none := Gnone _ hge'
    have hfc : f ≠ c' := by lia
    have hfG' : (PM.put G c' oc).ob f = none := by show AM.put G.ob c' oc f = none; rw [AM.put, if_neg hfc]; exact hfG
    have hgetf : (h'.push fo).get? f = some fo := by rw [← hf]; exact Heap.get?_push_size _ hfree
    have hgetc : (h'.push fo).get? c' = some oc := Heap.get?_push_of_some _ hoc
    have L1 : Le G (PM.put (PM.put G c' oc) f fo) := (put_le hcG).trans (put_le hfG')
    refine fin f doc ((B.mg "__name__").getD .none) c' ctv oc vs t (PM.put (PM.put G c' oc) f fo) _ (hS.growP (G' := PM.put (PM.put G c' oc) f fo) (h' := h'.push fo) (tk := tk) (fun b o hb e => ?_) L1 (fun b o e => ?_) (fun b o e e' => ?_) (Nat.le_trans hS.hi htm) (fun p hp' => ?_)) L1 ?_ ?_ hd hv
    · exact Heap.get?_push_of_some _ (hx b o (fun q => hb _ hp q.symm) e)
    · have e : AM.put (AM.put G.ob c' oc) f fo b = some o := e
      rw [AM.put] at e
      split at e
      · rename_i hb; rw [hb]; cases e; exact hgetf
      · rw [AM.put] at e
        split at e
        · rename_i hb; rw [hb]; cases e; exact hgetc
        · exact Heap.get?_push_of_some _ (hx b o (fun q => by rw [q] at e; rw [hGP] at e; cases e) (hS.le b o e))
    · have hb := Heap.lt_size e
      show AM.put (AM.put G.ob c' oc) f fo b = none
      rw [AM.put, if_neg (Nat.ne_of_lt (Nat.lt_of_lt_of_le hb (Nat.le_trans hge' (Nat.le_of_lt hlt)))), AM.put, if_neg (Nat.ne_of_lt (Nat.lt_of_lt_of_le hb hge'))]; exact e'
    · obtain ⟨o₀, a1, a2, a3, _⟩ := hS.ow p (List.mem_append_right _ hp')
      have hps := Heap.lt_size a1
      refine ⟨?_, ?_⟩
      · show AM.put (AM.put G.ob c' oc) f fo p.1 = none
        rw [AM.put, if_neg (Nat.ne_of_lt (Nat.lt_of_lt_of_le hps (Nat.le_trans hge' (Nat.le_of_lt hlt)))), AM.put, if_neg (Nat.ne_of_lt (Nat.lt_of_lt_of_le hps hge'))]; exact a3
      · by_cases q : p.1 = P
        · rw [plq p hp' q]
          refine ⟨_, Heap.get?_push_of_some _ htb, _, rfl, .inr ⟨c', oc, vs, t, rfl, ?_, hd, hv⟩⟩
          show AM.put (AM.put G.ob c' oc) f fo c' = some oc
          rw [AM.put, if_neg hfc.symm, AM.put, if_pos rfl]
        · exact ⟨o₀, Heap.get?_push_of_some _ (hx _ _ q a1), a2.mono L1⟩
    · show AM.put (AM.put G.ob c' oc) f fo f = some _
      rw [AM.put, if_pos rfl, ← hfo]
    · show AM.put (AM.put G.ob c' oc) f fo c' = some oc
      rw [AM.put, if_neg hfc.symm, AM.put, if_pos rfl]
  · refine tok_in (makeFunction_hit (mg := B.mg) hcl hge hg hcd (hC.keeps up) hP ht (cv := .ref c') (by simp [codeAmong, rawInt]) ⟨bm, ob, b1, b2, hbG, hbP, up _ _ b3, b4, b5, b6⟩ fun ctv doc h' tk hx hsz htm => ?_)
    generalize hfo : ({ cls := Value.type "function", data := Data.func (fnX name qual params body scope cl Value.none Value.none doc ((B.mg (Str.ofString "__name__")).getD Value.none) none (Value.ref c') ctv) } : Obj) = fo
    have hfree : fo.isFreed = false := by rw [← hfo]; rfl
    have hfG : G.ob h'.objs.size = none := Gnone _ hsz
    refine fin h'.objs.size doc ((B.mg "__name__").getD .none) c' ctv o' vs t (PM.put G h'.objs.size fo) _ (hS.growP (G' := PM.put G h'.objs.size fo) (h' := h'.push fo) (tk := tk) (fun b o hb e => Heap.get?_push_of_some _ (hx b o e)) (put_le hfG) (fun b o e => ?_) (fun b o e e' => ?_) (Nat.le_trans hS.hi htm) (fun p hp' => ?_)) (put_le hfG) ?_ ((put_le hfG).up _ _ e1) e2 e3
    · have e : AM.put G.ob h'.objs.size fo b = some o := e
      rw [AM.put] at e
      split at e
      · rename_i hb; rw [hb]; cases e; exact Heap.get?_push_size _ hfree
      · exact Heap.get?_push_of_some _ (hx b o (hS.le b o e))
    · have hb := Heap.lt_size e
      show AM.put G.ob h'.objs.size fo b = none
      rw [AM.put, if_neg (Nat.ne_of_lt (Nat.lt_of_lt_of_le hb hsz))]; exact e'
    · obtain ⟨o₀, a1, a2, a3, _⟩ := hS.ow p (List.mem_append_right _ hp')
      have hps := Heap.lt_size a1
      refine ⟨?_, o₀, Heap.get?_push_of_some _ (hx _ _ a1), a2.mono (put_le hfG)⟩
      show AM.put G.ob h'.objs.size fo p.1 = none
      rw [AM.put, if_neg (Nat.ne_of_lt (Nat.lt_of_lt_of_le hps hsz))]; exact a3
    · show AM.put G.ob h'.objs.size fo h'.objs.size = some _
      rw [AM.put, if_pos rfl, ← hfo]
noncomputable def JCallF (B : Bs) (X : Act) (A : Around) (y : T) (as : List S) (m : List S) (own : Own) (R : S → List S → Own → Prop) : Prop :=
  ∀ fv vs, J repV (fun G => RepSs G as vs ∧ RepT G y fv) B X A m own (call fv vs) R
theorem JV_callFn {x : Str} {pos cpos : Pos} {args : List Expr} {j : Nat} {name qual : Str} {params : Arguments} {body : List Stmt} {scope : Scope} {cl : List (Str × Addr)} {R : S → List S → Own → Prop}
    (hk : X.env.scope.kind = .function) (hi : X.names[j]? = some x) (hm : m[j]? = some (.t (.fn name qual params body scope cl))) (hd : (x == ("__debug__" : Str)) = false) (hn : (x == ("__classdict__" : Str)) = false)
    (he : eval (.Call (.Name x pos) args [] cpos) X.env = (do let v ← eval (.Name x pos) X.env; callWith cpos v [] (backTo cpos (starEach args X.env)) []))
    (hplain : (backTo cpos (starEach args X.env)).any (·.1) = false)
    (h : JL B X A m own (spliced (backTo cpos (starEach args X.env))) fun as m2 o2 => JCallF B X A (.fn name qual params body scope cl) as m2 o2 R) :
    JV B X A m own (eval (.Call (.Name x pos) args [] cpos) X.env) R := by
  intro s G hS _ Q hQ
  rw [he]
  refine wpAny_bind (JV_nameT hk hi hm (R := fun sv m1 o1 => sv = .t (.fn name qual params body scope cl) ∧ m1 = m ∧ o1 = own) ⟨rfl, rfl, rfl⟩ hd hn s G hS trivial _ fun v sv m1 o1 G1 s1 S1 L1 r1 h1 => ?_)
  obtain ⟨rfl, rfl, rfl⟩ := h1
  have r1 := uT r1
  have r1' := r1
  refine aside fun Cg hCg => ?_
  obtain ⟨f, doc, pm, c', ctv, o', vs, t, e1, _⟩ := r1'
  refine hCg ?_
  have fin := h s1 G1 S1 trivial (fun vs s2 => FnAt f s2.heap ∧ wpAny (model B.prog B.w) A (call (.ref f) vs) Q NoE s2) fun vs as m2 o2 G2 s2 S2 L2 r2 h2 =>
    ⟨⟨_, _, _, _, S2.le _ _ (L2.up _ _ e1)⟩, h2 _ vs s2 G2 S2 ⟨r2, r1.mono L2⟩ Q fun y z m3 o3 G3 s3 S3 L3 r3 h3 => hQ y z m3 o3 G3 s3 S3 (L1.trans (L2.trans L3)) r3 h3⟩
  exact callWith_of (P := FnAt f) (by rw [hplain]; rfl) keeps_F (evalArgs_any hplain (wpAny_mono fin (fun vs s2 q => q) fun _ _ y => y))
noncomputable def NSlot (X : Act) (scope : Scope) (cl : List (Str × Addr)) (m : List S) (y : Str) (sv : S) : Prop :=
  (scope.names.lookup y = some .local ∧ sv = .undef) ∨ (scope.names.lookup y = some .free ∧ (X.env.kindOf y = some .cell ∨ X.env.kindOf y = some .free) ∧ cl.lookup y = X.env.cells.lookup y ∧ ∃ j : Nat, X.names[j]? = some y ∧ m[j]? = some sv)
theorem C_clos {name qual : Str} {params : Arguments} {body : List Stmt} {scope : Scope} {cl : List (Str × Addr)} {ps rs : List Str} {ms : List S} {args : List T} {n : Nat} {R : S → List S → Own → Prop} (hB : B.Ok) (hA : Room (n + 1) A)
    (hsub : ∀ y c, cl.lookup y = some c → X.env.cells.lookup y = some c) (hcell : ∀ x ∈ scope.names, x.2 ≠ .cell) (hco : scope.isCoroutine = false) (hgen : scope.isGenerator = false) (hk : scope.kind = .function)
    (hbind : ∀ doc pm c' ctv (vs : List Value), vs.length = ps.length → bindArgs (fnX name qual params body scope cl .none .none doc pm none (.ref c') ctv) ⟨vs, []⟩ = pure (ps.zip vs)) (hlen : args.length = ps.length) (hnd : (ps ++ rs).Nodup)
    (hps : ∀ x ∈ ps, scope.names.lookup x = some .local) (hsl : SlotsOk (NSlot X scope cl m) rs ms)
    (h : ∀ env s₀ P G₀, EnvIs env scope cl → Room n (A.deeper env) → JF B ⟨env, ps ++ rs, s₀, P, G₀⟩ (A.deeper env) (args.map .t ++ ms) own (execs body env) fun f m1 o1 => ∃ sv, R sv m o1 ∧ (f = .ret sv ∨ f = .next ∧ sv = .t .none)) :
    JCallF B X A (.fn name qual params body scope cl) (args.map .t) m own R := by
  intro fv vs s G hS hr Q hQ
  obtain ⟨hr, hf⟩ := hr
  refine aside fun Cg hCg => ?_
  obtain ⟨f, doc, pm, c', ctv, o', vs', t, e1, e2, e3, e4⟩ := hf
  refine hCg ?_
  have hrl := reps_of hr
  have hvl : vs.length = ps.length := by rw [hrl.length, hlen]
  have nd := List.nodup_append.mp hnd
  refine wpAny_call (codeAny_call_function (by have := hA.2.1; lia) (hS.le _ _ e1) rfl hco hgen rfl ⟨c', o', vs', t, rfl, hS.le _ _ e2, e3, e4⟩ ?_)
  rw [hbind doc pm c' ctv vs hvl]
  refine wpAny_pure (tok_in (wpAny_newFunctionEnv hcell (fun x hx => hps _ (List.of_mem_zip (show (x.1, x.2) ∈ ps.zip vs from hx)).1) (fun h₁ hns hsb htm => ?_) hk))
  generalize hCn : s.heap.objs.size = C at *
  have hCs : s.heap.get? C = none := hCn ▸ get_size s.heap
  have HC := hS.hid hCs
  have ups : ∀ b o, s.heap.get? b = some o → h₁.get? b = some o := fun b o e => hsb.extBut b o (fun q => by rw [q, hCs] at e; cases e) (Heap.get?_push_of_some _ e)
  refine ⟨hB.nolimit.keeps fun b o e => ups b o (hS.le b o (hS.base b o e)), codeAny_func ?_⟩
  have S1 : St B X m own G { s with heap := h₁, toks := s.toks + (ps.zip vs).length } := hS.grow ups (Le.refl G) (fun b o e => ups b o (hS.le b o e)) (fun _ _ _ e => e) (Nat.le_trans hS.hi (Nat.le_add_right ..))
  generalize hs1 : ({ s with heap := h₁, toks := s.toks + (ps.zip vs).length } : Shared) = s1 at S1 ⊢
  have hh1 : s1.heap = h₁ := by rw [← hs1]
  generalize henv : newEnv (fnX name qual params body scope cl .none .none doc pm none (.ref c') ctv).scope C (fnX name qual params body scope cl .none .none doc pm none (.ref c') ctv).globals (fnX name qual params body scope cl .none .none doc pm none (.ref c') ctv).closure
    ((fnX name qual params body scope cl .none .none doc pm none (.ref c') ctv).qualname ++ ".<locals>.") (some f) (fnX name qual params body scope cl .none .none doc pm none (.ref c') ctv).code none (fnX name qual params body scope cl .none .none doc pm none (.ref c') ctv).builtins = env
  have E : EnvIs env scope cl := by rw [← henv]; exact ⟨rfl, rfl, rfl, rfl⟩
  have hloc : env.locals = C := by rw [← henv]; rfl
  have S2 : St B (X.under s1.heap env (ps ++ rs)) (args.map .t ++ ms) own G s1 := by
    refine S1.underV (mc := fun x => (ps.zip vs).reverse.lookup x) (by rw [hloc]; exact HC) (by rw [hloc, hh1]; exact hns) (by rw [E.cells]; exact hsub) hnd fun i x sv a1 a2 => ?_
    by_cases hip : i < ps.length
    · have a1' : ps[i]? = some x := by rw [← a1]; exact (List.getElem?_append_left hip).symm
      have hia : i < (args.map Mine.S.t).length := by simp; lia
      rw [List.getElem?_append_left hia, List.getElem?_map] at a2
      obtain ⟨y, hy, rfl⟩ := Option.map_eq_some_iff.mp a2
      obtain ⟨v, hv, hr'⟩ := hrl.get hy
      exact .inl ⟨E.kind (hps x (List.mem_of_getElem? a1')), by rw [zip_rev_in nd.1 a1' hv]; exact rT hr'⟩
    · have hip' : ps.length ≤ i := Nat.not_lt.mp hip
      have hia : (args.map Mine.S.t).length ≤ i := by simp; lia
      rw [List.getElem?_append_right hia] at a2
      rw [List.getElem?_append_right hip'] at a1
      have a2 : ms[i - ps.length]? = some sv := by rw [← a2]; simp [hlen]
      have hxr : x ∈ rs := List.mem_of_getElem? a1
      have hxp : x ∉ ps := fun q => nd.2.2 x q x hxr rfl
      rcases hsl.get _ x sv a1 a2 with ⟨q1, rfl⟩ | ⟨q1, q2, q3, j, q4, q5⟩
      · exact .inl ⟨E.kind q1, by rw [zip_rev_out hxp]; rfl⟩
      · obtain ⟨o, w, r⟩ := S1.vars j x sv q4 q5
        rcases w with ⟨hl, _⟩ | ⟨_, c, hc, hcc⟩
        · rcases q2 with q2 | q2 <;> (rw [hl] at q2; cases q2)
        · exact .inr ⟨.inr (E.kind q1), c, o, by rw [E.cells]; exact q3.trans hc, hcc, r⟩
  refine wpAny_mono (h env X.s₀ _ X.G₀ E hA.deeper s1 G S2 trivial _ fun fl fa m' o' G' s' S' L' r' h' => ?_) (fun _ _ y => y) fun _ _ y => y.elim
  obtain ⟨sv, hR, hfl⟩ := h'
  have S3 := S1.over S' L'
  rcases hfl with rfl | ⟨rfl, rfl⟩
  · obtain ⟨v, rfl, rv⟩ := r'
    exact hQ _ _ _ _ _ _ S3 L' rv hR
  · rw [show fl = .next from r']
    exact hQ _ _ _ _ _ _ S3 L' (rT tNone) hR
end
end
noncomputable section
section
variable {B : Bs} {X : Act} {A : Around} {m : List S} {own : Own}
theorem srcR_lst {ts : List T} (hh : A.handled = none) : ∀ s G v, St B X m own G s → RepS G (.t (.lst ts)) (some v) → ∀ Q : Value → Shared → Prop,
    (∀ I fp P W h' tk, Wk B A I fp ts.length P W → W 0 h' → (∀ b o, b ≠ I → s.heap.get? b = some o → h'.get? b = some o) → Hid B X G own I → (∀ i h, W i h → ∃ ob, h.get? I = some ob) →
    (∀ b ∈ fp, b = I ∨ ∃ o, G.ob b = some o) → (∀ i v, i < ts.length → P i v → ∃ x, ts.reverse[i]? = some x ∧ RepT G x v) → s.toks ≤ tk → wpAny (model B.prog B.w) A (pyIter (.ref I)) Q NoE { s with heap := h', toks := tk }) → wpAny (model B.prog B.w) A (call (.type "reversed") [v]) (fun v s => wpAny (model B.prog B.w) A (pyIter v) Q NoE s) NoE s := by
  intro s G v S hr Q hQ
  have hr := uT hr
  refine aside fun Cg hCg => ?_
  obtain ⟨a, o, vs, n, rfl, hG, ⟨hc, hdn⟩, hd, hl⟩ := hr
  refine hCg ?_
  have hL : s.heap.IsList a vs := ⟨o, S.le _ _ hG, hc, n, hd⟩
  have hne : a ≠ s.heap.objs.size := Nat.ne_of_lt (Heap.lt_size (S.le _ _ hG))
  refine call_reversed_list hL ?_
  have W := Walks.listRev (prog := B.prog) (w := B.w) hh s.heap.objs.size a hne vs
  have hsz := hl.size
  rw [hsz] at W
  rw [hsz]
  refine hQ s.heap.objs.size _ _ _ _ s.toks (.of W) ⟨Nat.zero_le _, ⟨_, Heap.get?_push_size _ rfl, rfl, by rw [show ((ts.length : Int) - 1 - ((0 : Nat) : Int)) = (ts.length : Int) - 1 by lia]; rfl⟩, hL.push _⟩ (fun b o _ e => Heap.get?_push_of_some _ e) (S.hid (get_size _)) (fun i h ⟨_, ⟨o, ho, _⟩, _⟩ => ⟨o, ho⟩)
    (fun b hb => ?_) (fun i v hi e => ?_) (Nat.le_refl _)
  · rcases List.mem_cons.mp hb with rfl | hb
    · exact .inl rfl
    · rw [List.mem_singleton.mp hb]; exact .inr ⟨o, hG⟩
  · obtain ⟨x, hx, rx⟩ := hl.getA e
    exact ⟨x, by rw [List.getElem?_reverse hi]; exact hx, rx⟩
theorem JF_ForR {x : Str} {px pos cpos fpos : Pos} {arg : Expr} {body orelse : List Stmt} {k : Nat} {R : Fl → List S → Own → Prop} (hh : A.handled = none) (hB : B.Ok) (hk : X.env.scope.kind = .function) (hi : X.names[k]? = some x)
    (hl : X.env.kindOf x = some .local)
    (hv : B.mg (Str.ofString "reversed") = none) (hb : bootBuiltins (Str.ofString "reversed") = some (.type "reversed")) (hg : X.env.globals = mainGlobals ∧ X.env.builtins = builtinsNs) (hx : X.env.kindOf (Str.ofString "reversed") = some .globalImplicit)
    (he : eval (.Call (.Name (Str.ofString "reversed") fpos) [arg] [] cpos) X.env = (do let v ← eval (.Name (Str.ofString "reversed") fpos) X.env; callWith cpos v [] (backTo cpos (starEach [arg] X.env)) []))
    (hse : starEach [arg] X.env = (false, eval arg X.env) :: starEach [] X.env)
    (hs : ∀ x, foldedSetIterable (.Call (.Name (Str.ofString "reversed") fpos) [arg] [] cpos) X.env x = pure x)
    (h : JV B X A m own (eval arg X.env) fun xs m1 o1 => ∃ (ts : List T) (I : Nat → List S → Own → Prop), xs = .t (.lst ts) ∧ I 0 m1 o1 ∧
      (∀ P j y m2 o2, ts.reverse[j]? = some y → I j m2 o2 → k < m2.length ∧ JF B (X.at P) A (m2.set k (.t y)) o2 (execs body X.env) (turnPost (I (j + 1)) R)) ∧
      (∀ m2 o2, I ts.length m2 o2 → JF B X A m2 o2 (execs orelse X.env) R)) :
    JF B X A m own (exec (.For (.Name x px) (.Call (.Name (Str.ofString "reversed") fpos) [arg] [] cpos) body orelse pos) X.env) R := by
  intro s G hS _ Q hQ
  refine for_call hB hk hv hb (by decide) (by decide) hg hx he hse hs h hS fun v sv m1 o1 G1 s1 S1 L1 r1 h1 => ?_
  obtain ⟨ts, I, rfl, hI0, turn, done⟩ := h1
  refine srcR_lst hh s1 G1 v S1 r1 _ fun d fp P W h' tk wk st0 up hid alive hfp hP htk => ?_
  refine wk.self 0 _ _ _ st0 ?_
  have hr := List.length_reverse (as := ts)
  exact loop_go (ts := ts.reverse) (S1.hidden (h' := h') (tk := tk) up hid.1 hid.2.1 hid.2.2.1 hid.2.2.2.1 hid.2.2.2.2) (hr.symm ▸ wk) st0 hid alive hfp (hr.symm ▸ hP) (fun _ _ _ _ _ _ _ _ _ q => wpAny_pure q) hI0
    (fun P _ j y m2 o2 hy hI => JA_Name hk hi (.inl hl) (turn P j y m2 o2 hy hI).1 (turn P j y m2 o2 hy hI).2) (fun m2 o2 hI => done m2 o2 (hr ▸ hI))
    fun f fa m' o' G' s' S' L' r' hR => hQ _ _ _ _ _ _ S' (L1.trans L') r' hR
end
theorem FunJ_ofC {B : Bs} {f : Addr} {fd : FuncData} {oc : Value} {od : Option Addr} {osl : Array (Option Value)} {body : List Stmt} {ps ls : List Str} {args : List T} {n : Nat} {Rr : T → Prop}
    (hB : B.Ok) (hK : B.K.lookup f = some ⟨oc, od, .func fd, osl⟩) (hcd : codeIn B.K fd.code fd.qualname = true) (hbody : fd.body = .stmts body) (hclo : fd.closure = [])
    (hco : fd.scope.isCoroutine = false) (hgen : fd.scope.isGenerator = false) (hk : fd.scope.kind = .function) (hgl : fd.globals = mainGlobals) (hbu : fd.builtins = builtinsNs)
    (hbind : ∀ vs : List Value, vs.length = ps.length → bindArgs fd ⟨vs, []⟩ = pure (ps.zip vs)) (hlen : args.length = ps.length) (hnd : (ps ++ ls).Nodup)
    (hkinds : ∀ x ∈ ps ++ ls, fd.scope.names.lookup x = some .local ∨ fd.scope.names.lookup x = some .cell)
    (h : ∀ (A : Around) (L : Addr) (env : Env) (s₀ : Shared) (P : AM) (G₀ : PM), Room n A → (∀ c, L < c → P c = none) → EnvIs env fd.scope (cellsFrom (L + 1) fd.scope.names []) → env.code = fd.code → env.qual = fd.qualname ++ ".<locals>." →
      JF B ⟨env, ps ++ ls, s₀, P, G₀⟩ A (args.map .t ++ ls.map fun _ => .undef) [] (execs body env) (RetOK Rr)) : FunJ B (.ref f) (n + 1) args Rr :=
  FunJ_of_def hB hK hcd hbody hclo hco hgen hk hbind hlen hnd hkinds fun A L s₀ P G₀ hA hP => h A L _ s₀ P G₀ hA hP ⟨rfl, hgl, hbu, rfl⟩ rfl rfl
theorem EnvIs.quiet {env : Env} {sc : Scope} {cells : List (Str × Addr)} (E : EnvIs env sc cells) (h : sc.kind = .function) : interactive env = false := by
  rw [E.eq]
  simp [interactive, h]
theorem JF_key {B : Bs} {X : Act} {A : Around} {m : List S} {own : Own} {t : Sem Flow} {R : Fl → List S → Own → Prop} {i : Nat} {y : T} (_hm : m[i]? = some (.t y)) (Spec : T → Prop) (h1 : Spec y) (h2 : Spec y → JF B X A m own t R) : JF B X A m own t R := h2 h1
noncomputable def FSlot (X : Act) (cl : List (Str × Addr)) (m : List S) (y : Str) (sv : S) : Prop := (X.env.kindOf y = some .cell ∨ X.env.kindOf y = some .free) ∧ cl.lookup y = X.env.cells.lookup y ∧ ∃ j : Nat, X.names[j]? = some y ∧ m[j]? = some sv
theorem FSlot.n {X : Act} {cl : List (Str × Addr)} {m : List S} {y : Str} {sv : S} {scope : Scope} (h : FSlot X cl m y sv) (e : scope.names.lookup y = some .free) : NSlot X scope cl m y sv := .inr ⟨e, h⟩
theorem nslotU {X : Act} {cl : List (Str × Addr)} {m : List S} {y : Str} {scope : Scope} (e : scope.names.lookup y = some .local) : NSlot X scope cl m y .undef := .inl ⟨e, rfl⟩
end
noncomputable section
set_option maxHeartbeats 4000000 in
theorem i2d_spec {B : Bs} (hB : LB B) {a : Int} {n k : Nat} (h0 : 0 ≤ a) (hn : 1 ≤ n) (hn2 : n ≤ 20000) (hk : k = (Builtin.Int.intBits a + n - 1) / n) (hk2 : k ≤ 16) (hb : Builtin.Int.intBits a ≤ 200000) :
    FunJ B (.ref 108) 6 [.int a, .int n] (fun r => r = .lst ((digs a n k).map .int)) := by
  have hak : a < 2 ^ (n * k) := by
    refine intBits_ge h0 ?_
    have h1 := Nat.div_add_mod (Builtin.Int.intBits a + n - 1) n
    have h2 := Nat.mod_lt (Builtin.Int.intBits a + n - 1) (show 0 < n by lia)
    rw [← hk] at h1
    lia
  refine FunJ_ofC (n := 5) (ps := [Str.ofString "a", Str.ofString "n"]) (ls := [Str.ofString "a_digits", Str.ofString "inner"]) hB.ok (by rw [hB.K]; exact rfl) (by rw [hB.K]; kernel_rfl!) rfl rfl rfl rfl rfl rfl rfl ?_ rfl ?_ ?_ ?_
  · exact len2 fun _ _ => rfl
  · decide +kernel
  · decide +kernel
  · intro A L env s₀ P G₀ hA hP E hcode hqual
    dsimp only at E
    replace hcode : env.code = .ref 107 := hcode
    replace hqual : env.qual = Str.ofString "_int2digits" ++ ".<locals>." := hqual
    walk_at "jn"
    refine JF_cons ?_
    refine JF_AssignC (i := 2) (by walk_at "jfn") rfl (by walk_at "jkind") (fun c hc => hP c (cells_above E hc)) rfl fun _ hGo => ?_
    refine JV_BinOp ?_
    refine JV_List ?_
    walk_at "jgo"
    refine ⟨[.int 0], rfl, Nat.le_of_ble_eq_true rfl, fun D1 => ?_⟩
    walk_at "jgo"
    walk_at "m_bit_length"
    walk_at "jname"
    refine ⟨ty_int, ?_⟩
    walk_at "jgo"
    refine C_bitlen ?_
    walk_at "jgo"
    refine B_floordiv (by lia) (PyProof.noPylong_small (by lia)) ?_
    walk_at "jn"
    rw [show (((Builtin.Int.intBits a : Int) + n - 1).fdiv n) = (k : Int) by
      rw [Int.fdiv_eq_ediv_of_nonneg _ (by lia), hk, show ((Builtin.Int.intBits a : Int) + n - 1) = ((Builtin.Int.intBits a + n - 1 : Nat) : Int) by lia]; rfl]
    refine B_mull (List.mem_cons_self ..) (by simp) (by lia) (by lia) (by simp; lia) fun D => ?_
    walk_at "jn"
    walk_at "jgo"
    refine JF_Def (i := 3) (P := 103) (c := 107) (qual := Str.ofString "_int2digits.<locals>.inner") (cl := [(Str.ofString "n", L + 1), (Str.ofString "inner", L + 1 + 1 + 1), (Str.ofString "a_digits", L + 1 + 1)]) hB hB.t1 (by rw [hB.pl]; exact List.mem_cons_self ..) rfl rfl rfl ?_ ?_ E.globals hcode (by walk_at "jfn") rfl (.inr ⟨by walk_at "jkind", fun c hc => hP c (cells_above E hc)⟩) (by walk_at "jlen") ?_
    · show (if env.kindOf (Str.ofString "inner") == some .globalExplicit then Str.ofString "inner" else env.qual ++ Str.ofString "inner") = _
      rw [hqual, show env.kindOf (Str.ofString "inner") = some .cell from E.kind rfl]
      decide +kernel
    · rw [E.eq]; rfl
    walk_at "jn"
    refine JF_key (i := 3) rfl (fun y => ∀ nm q p b sc cl, y = .fn nm q p b sc cl → ∀ (d k : Nat), 1 ≤ k → k ≤ 2 ^ d → ∀ (X : Act) (A : Around) (m : List S) (x : Int) (Lo : Nat) (lo hi : Int) (xs : List T) (rest : Own) (R : S → List S → Own → Prop), Room (d + 1) A →
      (∀ y c, cl.lookup y = some c → X.env.cells.lookup y = some c) → FSlot X cl m (Str.ofString "a_digits") (.own D) → FSlot X cl m (Str.ofString "inner") (.t y) → FSlot X cl m (Str.ofString "n") (.t (.int n)) →
      0 ≤ x → x < 2 ^ (n * k) → lo = Lo → hi = Lo + k → Lo + k ≤ xs.length → xs.length ≤ 16 → R (.t .none) m ((D, .lst (put xs Lo ((digs x n k).map .int))) :: rest) → JCallF B X A y [.t (.int x), .t (.int lo), .t (.int hi)] m ((D, .lst xs) :: rest) R) ?_ ?_
    · rintro _ _ _ _ _ _ e
      cases e
      intro d
      induction d using Nat.strongRecOn with
      | _ d ih =>
      intro k hk1 hkd X A m x Lo lo hi xs rest R hA hsub hf1 hf2 hf3 hx0 hx1 hlo hhi hlen hxs hR
      refine C_clos (args := [.int x, .int lo, .int hi]) (ps := [Str.ofString "x", Str.ofString "L", Str.ofString "R"]) (rs := [Str.ofString "mid", Str.ofString "shift", Str.ofString "upper", Str.ofString "lower", Str.ofString "a_digits", Str.ofString "inner", Str.ofString "n"])
        (ms := [.undef, .undef, .undef, .undef, .own D, .t _, .t (.int n)]) hB.ok hA hsub (by decide +kernel) rfl rfl rfl ?_ rfl (by decide +kernel) (by decide +kernel) ⟨nslotU rfl, nslotU rfl, nslotU rfl, nslotU rfl, hf1.n rfl, hf2.n rfl, hf3.n rfl, trivial⟩ ?_
      · exact fun _ _ _ _ => len3 fun _ _ _ => rfl
      intro env' s₀' P' G₀' E' hA'
      walk_at "jn"
      walk_at "jgo"
      split
      · rename_i hq
        have hq : k = 1 := by simp at hq; lia
        subst hq
        walk_at "jgo"
        refine JF_AssignSub rfl ?_
        walk_at "jgo"
        refine ex6 _ _ _ xs [] rest ⟨rfl, rfl, rfl, rfl, by lia, by lia, by have : sizeLine = 2 ^ 24 := rfl; lia, ?_⟩
        walk_at "jn"
        refine JF_cons ?_
        refine JF_ReturnNone ?_
        refine ⟨.t .none, ?_, .inl rfl⟩
        rw [show lo.toNat = Lo by lia, put_one (by lia)]
        rw [digs_one hx0 (by rw [Nat.mul_one] at hx1; exact hx1)] at hR
        exact hR
      · rename_i hq
        have hq : 2 ≤ k := by
          rcases Nat.lt_or_ge 1 k with h | h
          · exact h
          · exact absurd (show (lo + 1 == hi) = true by rw [beq_iff_eq]; lia) hq
        obtain ⟨k1, k2, rfl, hk1', hk2', hke⟩ : ∃ k1 k2, k = k1 + k2 ∧ 1 ≤ k1 ∧ k1 ≤ k2 ∧ k2 ≤ k1 + 1 := ⟨k / 2, k - k / 2, by lia, by lia, by lia, by lia⟩
        have hd : 1 ≤ d := by
          rcases Nat.eq_zero_or_pos d with rfl | h
          · simp at hkd; lia
          · exact h
        have hdd : 2 ^ d = 2 * 2 ^ (d - 1) := by rw [← Nat.pow_succ']; congr 1; lia
        have hpk := pow_pos' (n * k1)
        have hu0 := Int.ediv_nonneg hx0 (Int.le_of_lt hpk)
        have hu1 : x / 2 ^ (n * k1) < 2 ^ (n * k2) := Int.ediv_lt_of_lt_mul hpk (by rw [← pow_add', ← Nat.mul_add, Nat.add_comm k2]; exact hx1)
        have hl0 := Int.emod_nonneg x (show (2 : Int) ^ (n * k1) ≠ 0 by lia)
        have hl1 := Int.emod_lt_of_pos x hpk
        have hnk : n * k1 ≤ 20000 * 16 := Nat.mul_le_mul hn2 (by lia)
        have hnk2 : n * k2 ≤ 20000 * 16 := Nat.mul_le_mul hn2 (by lia)
        walk_at "jgo"
        refine B_shr (by lia) ?_
        walk_at "jn"
        rw [show ((lo + hi).fdiv (2 ^ (1 : Int).toNat)) = lo + (k1 : Int) by
          rw [show ((1 : Int).toNat) = 1 from rfl, fdiv_pow, Int.pow_one]; lia]
        walk_at "jgo"
        refine B_mul (IntMulOk.of_right (intBits_le_64 (by lia) (by lia))) ?_
        walk_at "jn"
        rw [show (lo + (k1 : Int) - lo) * (n : Int) = ((n * k1 : Nat) : Int) by rw [show lo + (k1 : Int) - lo = k1 by lia, Int.mul_comm]; rfl]
        walk_at "jgo"
        refine B_shr (by lia) ?_
        walk_at "jn"
        rw [Int.toNat_natCast, fdiv_pow]
        walk_at "jgo"
        refine B_shl (by lia) (by have := intBits_le hu0 hu1; lia) ?_
        walk_at "jn"
        rw [Int.toNat_natCast]
        refine B_xor ?_
        rw [bitXor_low hx0]
        walk_at "jgo"
        refine JF_Expr (E'.quiet rfl) rfl ?_
        refine JV_callFn (j := 8) (by walk_at "jfn") rfl rfl (by decide) (by decide) rfl rfl ?_
        walk_at "jgo"
        refine ih (d - 1) (by lia) k1 hk1' (by lia) _ _ _ _ Lo _ _ xs rest _ (by rw [show d - 1 + 1 = d by lia]; exact hA') (fun y c h => by rw [E'.cells]; exact h) ⟨.inr (E'.kind rfl), by rw [E'.cells], 7, rfl, rfl⟩ ⟨.inr (E'.kind rfl), by rw [E'.cells], 8, rfl, rfl⟩ ⟨.inr (E'.kind rfl), by rw [E'.cells], 9, rfl, rfl⟩ hl0 hl1 hlo (by lia) (by lia) hxs ?_
        refine ⟨rfl, ?_⟩
        walk_at "jn"
        walk_at "jgo"
        have hpl : (put xs Lo ((digs (x % 2 ^ (n * k1)) n k1).map T.int)).length = xs.length := put_length (by rw [List.length_map, digs_length]; lia)
        refine JF_Expr (E'.quiet rfl) rfl ?_
        refine JV_callFn (j := 8) (by walk_at "jfn") rfl rfl (by decide) (by decide) rfl rfl ?_
        walk_at "jgo"
        refine ih (d - 1) (by lia) k2 (by lia) (by lia) _ _ _ _ (Lo + k1) _ _ _ rest _ (by rw [show d - 1 + 1 = d by lia]; exact hA') (fun y c h => by rw [E'.cells]; exact h) ⟨.inr (E'.kind rfl), by rw [E'.cells], 7, rfl, rfl⟩ ⟨.inr (E'.kind rfl), by rw [E'.cells], 8, rfl, rfl⟩ ⟨.inr (E'.kind rfl), by rw [E'.cells], 9, rfl, rfl⟩ hu0 hu1 (by lia) (by lia) (by lia) (by lia) ?_
        refine ⟨rfl, ?_⟩
        walk_at "jn"
        walk_at "jgo"
        refine ⟨.t .none, ?_, .inr ⟨rfl, rfl⟩⟩
        have hpp := put_put (xs := xs) (L := Lo) (d1 := (digs (x % 2 ^ (n * k1)) n k1).map T.int) (d2 := (digs (x / 2 ^ (n * k1)) n k2).map T.int) (by rw [List.length_map, List.length_map, digs_length, digs_length]; lia)
        rw [List.length_map, digs_length, ← List.map_append, ← digs_add] at hpp
        rw [hpp]
        exact hR
    · intro key
      replace key := key _ _ _ _ _ _ rfl 4 k
      walk_at "jgo"
      refine JB_value ?_ rfl
      walk_at "jgo"
      have hrep : (List.replicate ((k : Int)).toNat [T.int 0]).flatten.length = k := by simp
      split
      · rename_i hq
        have hq : a ≠ 0 := by simpa using hq
        have hbp : 1 ≤ Builtin.Int.intBits a := (intBits_low (by lia)).1
        have hk1 : 1 ≤ k := by rw [hk]; exact (Nat.le_div_iff_mul_le (by lia)).mpr (by lia)
        walk_at "jgo"
        refine JF_Expr (E.quiet rfl) rfl ?_
        refine JV_callFn (j := 3) (by walk_at "jfn") rfl rfl (by decide) (by decide) rfl rfl ?_
        walk_at "jgo"
        walk_at "c_len"
        walk_at "jgo"
        refine C_len (.inr ⟨D, rfl, List.mem_cons_self ..⟩) (by rw [hrep]; lia) ?_
        walk_at "jgo"
        rw [hrep]
        refine key hk1 (by lia) _ _ _ _ 0 _ _ _ _ _ hA (by rw [E.cells]; exact SubOk.sub ⟨rfl, rfl, rfl, trivial⟩) ⟨.inl (E.kind rfl), by rw [E.cells]; rfl, 2, rfl, rfl⟩ ⟨.inl (E.kind rfl), by rw [E.cells]; rfl, 3, rfl, rfl⟩ ⟨.inl (E.kind rfl), by rw [E.cells]; rfl, 1, rfl, rfl⟩ h0 hak rfl (by lia) (by lia) (by lia) ?_
        refine ⟨rfl, ?_⟩
        walk_at "jn"
        walk_at "jgo"
        refine ex2 _ _ ⟨rfl, ?_⟩
        rw [put_all (by rw [List.length_map, digs_length, hrep])]
      · rename_i hq
        have hq : a = 0 := by simpa using hq
        have hk0 : k = 0 := by
          rw [hk, hq, show Builtin.Int.intBits 0 = 0 by decide +kernel, Nat.zero_add]
          exact Nat.div_eq_of_lt (by lia)
        subst hk0
        walk_at "jgo"
        exact ex2 _ _ ⟨rfl, rfl⟩
end
noncomputable section
section
variable {B : Bs} {X : Act} {A : Around} {m : List S} {own : Own}
theorem JV_IfExp {test body orelse : Expr} {pos : Pos} {R : S → List S → Own → Prop} (h : JB B X A m own (isTrue test X.env (eval test X.env)) fun b m1 o1 => if b = true then JV B X A m1 o1 (eval body X.env) R else JV B X A m1 o1 (eval orelse X.env) R) :
    JV B X A m own (eval (.IfExp test body orelse pos) X.env) R := by
  intro s G hS _ Q hQ
  refine wpAny_IfExp (h s G hS trivial _ fun b b' m1 o1 G1 s1 S1 L1 r1 h1 => ?_)
  rw [show b = b' from r1]
  cases b' with
  | true => exact h1 s1 G1 S1 trivial Q fun a b m2 o2 G2 s2 S2 L2 r2 h2 => hQ a b m2 o2 G2 s2 S2 (L1.trans L2) r2 h2
  | false => exact h1 s1 G1 S1 trivial Q fun a b m2 o2 G2 s2 S2 L2 r2 h2 => hQ a b m2 o2 G2 s2 S2 (L1.trans L2) r2 h2
theorem T_list {sv : S} {ts : List T} {R : Bool → List S → Own → Prop} (hl : Lst own sv ts) (hz : (ts.length : Int) < 2 ^ 63) (h : R (!ts.isEmpty) m own) : JTru B X A sv m own R := by
  rintro v s G hS h1 Q hQ
  obtain ⟨a, vs, rfl, hL, hR⟩ := hl.is hS h1
  have hsz := hR.size
  refine wpAny_truthy_list hL (by rw [hsz]; exact hz) ?_
  have e : vs.isEmpty = ts.isEmpty := by
    rw [Bool.eq_iff_iff]
    simp only [Array.isEmpty_iff_size_eq_zero, List.isEmpty_iff_length_eq_zero, hsz]
  rw [e]
  exact hQ _ _ _ _ _ _ (hS.tok _ (by show s.toks ≤ s.toks + 1 + 1; omega)) (Le.refl G) rfl h
end
end
noncomputable section
set_option maxHeartbeats 4000000 in
theorem d2i_spec {B : Bs} (hB : LB B) {ds : List Int} {n : Nat} (hn2 : n ≤ 20000) (hk2 : ds.length ≤ 16) (hds : ∀ d ∈ ds, 0 ≤ d ∧ d < 2 ^ n) :
    FunJ B (.ref 115) 6 [.lst (ds.map .int), .int n] (fun r => r = .int (valD n ds)) := by
  refine FunJ_ofC (n := 5) (ps := [Str.ofString "digits", Str.ofString "n"]) (ls := [Str.ofString "inner"]) hB.ok (by rw [hB.K]; exact rfl) (by rw [hB.K]; kernel_rfl!) rfl rfl rfl rfl rfl rfl rfl ?_ rfl ?_ ?_ ?_
  · exact len2 fun _ _ => rfl
  · decide +kernel
  · decide +kernel
  · intro A L env s₀ P G₀ hA hP E hcode hqual
    dsimp only at E
    replace hcode : env.code = .ref 114 := hcode
    replace hqual : env.qual = Str.ofString "_digits2int" ++ ".<locals>." := hqual
    walk_at "jn"
    refine JF_cons ?_
    refine JF_Def (i := 2) (P := 110) (c := 114) (qual := Str.ofString "_digits2int.<locals>.inner") (cl := [(Str.ofString "n", L + 1 + 1), (Str.ofString "inner", L + 1 + 1 + 1), (Str.ofString "digits", L + 1)]) hB hB.t2 (by rw [hB.pl]; exact List.mem_cons_of_mem _ (List.mem_cons_self ..)) rfl rfl rfl ?_ ?_ E.globals hcode (by walk_at "jfn") rfl (.inr ⟨by walk_at "jkind", fun c hc => hP c (cells_above E hc)⟩) (by walk_at "jlen") ?_
    · show (if env.kindOf (Str.ofString "inner") == some .globalExplicit then Str.ofString "inner" else env.qual ++ Str.ofString "inner") = _
      rw [hqual, show env.kindOf (Str.ofString "inner") = some .cell from E.kind rfl]
      decide +kernel
    · rw [E.eq]; rfl
    walk_at "jn"
    refine JF_key (i := 2) rfl (fun y => ∀ nm q p b sc cl, y = .fn nm q p b sc cl → ∀ (d k : Nat), 1 ≤ k → k ≤ 2 ^ d → ∀ (X : Act) (A : Around) (m : List S) (Lo : Nat) (lo hi : Int) (own : Own) (R : S → List S → Own → Prop), Room (d + 1) A →
      (∀ y c, cl.lookup y = some c → X.env.cells.lookup y = some c) → FSlot X cl m (Str.ofString "digits") (.t (.lst (ds.map .int))) → FSlot X cl m (Str.ofString "inner") (.t y) → FSlot X cl m (Str.ofString "n") (.t (.int n)) →
      lo = Lo → hi = Lo + k → Lo + k ≤ ds.length → R (.t (.int (valD n ((ds.drop Lo).take k)))) m own → JCallF B X A y [.t (.int lo), .t (.int hi)] m own R) ?_ ?_
    · rintro _ _ _ _ _ _ e
      cases e
      intro d
      induction d using Nat.strongRecOn with
      | _ d ih =>
      intro k hk1 hkd X A m Lo lo hi own R hA hsub hf1 hf2 hf3 hlo hhi hlen hR
      refine C_clos (args := [.int lo, .int hi]) (ps := [Str.ofString "L", Str.ofString "R"]) (rs := [Str.ofString "mid", Str.ofString "shift", Str.ofString "digits", Str.ofString "inner", Str.ofString "n"])
        (ms := [.undef, .undef, .t (.lst (ds.map .int)), .t _, .t (.int n)]) hB.ok hA hsub (by decide +kernel) rfl rfl rfl ?_ rfl (by decide +kernel) (by decide +kernel) ⟨nslotU rfl, nslotU rfl, hf1.n rfl, hf2.n rfl, hf3.n rfl, trivial⟩ ?_
      · exact fun _ _ _ _ => len2 fun _ _ => rfl
      intro env' s₀' P' G₀' E' hA'
      walk_at "jn"
      walk_at "jgo"
      split
      · rename_i hq
        have hq : k = 1 := by simp at hq; lia
        subst hq
        walk_at "jgo"
        obtain ⟨y, hy⟩ : ∃ y, ds[Lo]? = some y := ⟨ds[Lo], List.getElem?_eq_getElem (by lia)⟩
        refine K_lst (y := .int y) (.inl rfl) (by lia) (by rw [show lo.toNat = Lo by lia, List.getElem?_map, hy]; rfl) (by rw [List.length_map]; lia) ?_
        refine ⟨.t (.int y), ?_, .inl rfl⟩
        have e : (ds.drop Lo).take 1 = [y] := by
          rw [List.take_one, List.head?_drop, hy]; rfl
        rw [e, valD_one] at hR
        exact hR
      · rename_i hq
        have hq : 2 ≤ k := by
          rcases Nat.lt_or_ge 1 k with h | h
          · exact h
          · exact absurd (show (lo + 1 == hi) = true by rw [beq_iff_eq]; lia) hq
        obtain ⟨k1, k2, rfl, hk1', hk2', hke⟩ : ∃ k1 k2, k = k1 + k2 ∧ 1 ≤ k1 ∧ k1 ≤ k2 ∧ k2 ≤ k1 + 1 := ⟨k / 2, k - k / 2, by lia, by lia, by lia, by lia⟩
        have hd : 1 ≤ d := by
          rcases Nat.eq_zero_or_pos d with rfl | h
          · simp at hkd; lia
          · exact h
        have hdd : 2 ^ d = 2 * 2 ^ (d - 1) := by rw [← Nat.pow_succ']; congr 1; lia
        have hnk : n * k1 ≤ 20000 * 16 := Nat.mul_le_mul hn2 (by lia)
        have hnk2 : n * k2 ≤ 20000 * 16 := Nat.mul_le_mul hn2 (by lia)
        have hl2 : ((ds.drop (Lo + k1)).take k2).length = k2 := by rw [List.length_take, List.length_drop]; lia
        have hl1 : ((ds.drop Lo).take k1).length = k1 := by rw [List.length_take, List.length_drop]; lia
        have hvb := valD_bound (n := n) (l := (ds.drop (Lo + k1)).take k2) fun x hx => hds x (List.mem_of_mem_drop (List.mem_of_mem_take hx))
        rw [hl2] at hvb
        walk_at "jgo"
        refine B_shr (by lia) ?_
        walk_at "jn"
        rw [show ((lo + hi).fdiv (2 ^ (1 : Int).toNat)) = lo + (k1 : Int) by
          rw [show ((1 : Int).toNat) = 1 from rfl, fdiv_pow, Int.pow_one]; lia]
        walk_at "jgo"
        refine B_mul (IntMulOk.of_right (intBits_le_64 (by lia) (by lia))) ?_
        walk_at "jn"
        rw [show (lo + (k1 : Int) - lo) * (n : Int) = ((n * k1 : Nat) : Int) by rw [show lo + (k1 : Int) - lo = k1 by lia, Int.mul_comm]; rfl]
        walk_at "jgo"
        refine JV_callFn (j := 5) (by walk_at "jfn") rfl rfl (by decide) (by decide) rfl rfl ?_
        walk_at "jgo"
        refine ih (d - 1) (by lia) k2 (by lia) (by lia) _ _ _ (Lo + k1) _ _ _ _ (by rw [show d - 1 + 1 = d by lia]; exact hA') (fun y c h => by rw [E'.cells]; exact h) ⟨.inr (E'.kind rfl), by rw [E'.cells], 4, rfl, rfl⟩ ⟨.inr (E'.kind rfl), by rw [E'.cells], 5, rfl, rfl⟩ ⟨.inr (E'.kind rfl), by rw [E'.cells], 6, rfl, rfl⟩ (by lia) (by lia) (by lia) ?_
        walk_at "jgo"
        refine B_shl (by lia) (by have := intBits_le hvb.1 hvb.2; lia) ?_
        walk_at "jn"
        rw [Int.toNat_natCast]
        refine JV_callFn (j := 5) (by walk_at "jfn") rfl rfl (by decide) (by decide) rfl rfl ?_
        walk_at "jgo"
        refine ih (d - 1) (by lia) k1 (by lia) (by lia) _ _ _ Lo _ _ _ _ (by rw [show d - 1 + 1 = d by lia]; exact hA') (fun y c h => by rw [E'.cells]; exact h) ⟨.inr (E'.kind rfl), by rw [E'.cells], 4, rfl, rfl⟩ ⟨.inr (E'.kind rfl), by rw [E'.cells], 5, rfl, rfl⟩ ⟨.inr (E'.kind rfl), by rw [E'.cells], 6, rfl, rfl⟩ (by lia) (by lia) (by lia) ?_
        walk_at "jgo"
        refine ⟨_, ?_, .inl rfl⟩
        have e : (ds.drop Lo).take (k1 + k2) = (ds.drop Lo).take k1 ++ (ds.drop (Lo + k1)).take k2 := by rw [List.take_add, List.drop_drop]
        rw [e, valD_append, hl1, Int.add_comm] at hR
        exact hR
    · intro key
      replace key := key _ _ _ _ _ _ rfl 4 ds.length
      walk_at "jgo"
      refine JV_IfExp ?_
      refine JB_value ?_ rfl
      walk_at "jgo"
      refine T_list (.inl rfl) (by rw [List.length_map]; lia) ?_
      split
      · rename_i hq
        have hq : 1 ≤ ds.length := by
          cases ds with
          | nil => simp at hq
          | cons _ _ => simp
        refine JV_callFn (j := 2) (by walk_at "jfn") rfl rfl (by decide) (by decide) rfl rfl ?_
        walk_at "jgo"
        walk_at "c_len"
        walk_at "jgo"
        refine C_len (.inl rfl) (by rw [List.length_map]; lia) ?_
        walk_at "jgo"
        rw [List.length_map]
        refine key hq (by lia) _ _ _ 0 _ _ _ _ hA (by rw [E.cells]; exact SubOk.sub ⟨rfl, rfl, rfl, trivial⟩) ⟨.inl (E.kind rfl), by rw [E.cells]; rfl, 0, rfl, rfl⟩ ⟨.inl (E.kind rfl), by rw [E.cells]; rfl, 2, rfl, rfl⟩ ⟨.inl (E.kind rfl), by rw [E.cells]; rfl, 1, rfl, rfl⟩ rfl (by lia) (by lia) ?_
        walk_at "jn"
        rw [List.drop_zero, List.take_length]
      · rename_i hq
        have hq : ds = [] := by
          cases ds with
          | nil => rfl
          | cons _ _ => simp at hq
        subst hq
        walk_at "jgo"
        rfl
end
noncomputable section
set_option maxHeartbeats 4000000 in
theorem dmp_spec {B : Bs} (hB : LB B) {a b : Int} (h0 : 0 ≤ a) (hb0 : 0 < b) (hn2 : Builtin.Int.intBits b ≤ 19000) (hk2 : (Builtin.Int.intBits a + Builtin.Int.intBits b - 1) / Builtin.Int.intBits b ≤ 16) (hba : Builtin.Int.intBits a ≤ 200000) :
    FunJ B (.ref 122) 9 [.int a, .int b] (fun r => r = .tup [.int (a / b), .int (a % b)]) := by
  obtain ⟨hn1, hbl, hbh⟩ := intBits_low hb0
  generalize hn : Builtin.Int.intBits b = n at *
  obtain ⟨K, hK⟩ : ∃ K, K = (Builtin.Int.intBits a + n - 1) / n := ⟨_, rfl⟩
  rw [← hK] at hk2
  have hak : a < 2 ^ (n * K) := by
    refine intBits_ge h0 ?_
    have h1 := Nat.div_add_mod (Builtin.Int.intBits a + n - 1) n
    have h2 := Nat.mod_lt (Builtin.Int.intBits a + n - 1) (show 0 < n by lia)
    rw [← hK] at h1
    lia
  have hpn := pow_pos' n
  refine FunJ_of (n := 8) (ps := [Str.ofString "a", Str.ofString "b"]) (ls := [Str.ofString "n", Str.ofString "a_digits", Str.ofString "r", Str.ofString "q_digits", Str.ofString "a_digit", Str.ofString "q_digit", Str.ofString "q"]) hB.ok (by rw [hB.K]; exact rfl) (by rw [hB.K]; kernel_rfl!) rfl rfl rfl rfl rfl rfl rfl ?_ rfl ?_ ?_ ?_
  · exact len2 fun _ _ => rfl
  · decide +kernel
  · decide +kernel
  · intro A L env s₀ P G₀ hA hP E
    dsimp only at E
    walk_at "jn"
    walk_at "jgo"
    walk_at "m_bit_length"
    walk_at "jname"
    refine ⟨ty_int, ?_⟩
    walk_at "jgo"
    refine C_bitlen ?_
    rw [hn]
    walk_at "jgo"
    walk_at "c__int2digits"
    walk_at "jgo"
    refine C_funE (args := [.int a, .int n]) (i2d_spec hB h0 hn1 (by lia) hK hk2 hba) (hA.le (by walk_at "jlen")) ?_
    walk_at "jgo"
    refine JV_List ?_
    walk_at "jgo"
    refine ⟨[], rfl, Nat.le_of_ble_eq_true rfl, fun D => ?_⟩
    walk_at "jgo"
    refine JF_ForR (k := 6) hA.1 hB.ok (by walk_at "jfn") rfl (by walk_at "jkind") (n_reversed hB) b_reversed ⟨E.globals, E.builtins⟩ (by walk_at "jkind") rfl rfl (fun _ => rfl) ?_
    walk_at "jname"
    refine ex2 ((digs a n K).map .int) (fun j m o => ∃ (qs : List Int) (y6 y7 : S), qs.length = j ∧ (∀ q ∈ qs, 0 ≤ q ∧ q < 2 ^ n) ∧ valD n qs.reverse = a / 2 ^ (n * (K - j)) / b ∧
      m = [.t (.int a), .t (.int b), .t (.int n), .t (.lst ((digs a n K).map .int)), .t (.int (a / 2 ^ (n * (K - j)) % b)), .own D, y6, y7, .undef] ∧ o = [(D, .lst (qs.map .int))]) ⟨rfl, ?_, ?_, ?_⟩
    · have e : a / 2 ^ (n * (K - 0)) = 0 := by rw [Nat.sub_zero]; exact Int.ediv_eq_zero_of_lt h0 hak
      dsimp only
      rw [e, Int.zero_ediv, Int.zero_emod]
      exact ex3 [] (.undef) (.undef) ⟨rfl, (fun _ h => nomatch h), rfl, rfl, rfl⟩
    · rintro P' j y m o hj ⟨qs, y6, y7, hql, hqs, hqv, rfl, rfl⟩
      have hjK : j < K := by
        have := (List.getElem?_eq_some_iff.mp hj).1
        simpa [digs_length] using this
      obtain ⟨i, hi⟩ : ∃ i, K - j = i + 1 ∧ K - (j + 1) = i := ⟨K - j - 1, by lia, by lia⟩
      have hyy : y = .int (a / 2 ^ (n * i) % 2 ^ n) := by
        rw [List.getElem?_reverse (by simpa [digs_length] using hjK), List.getElem?_map] at hj
        rw [List.length_map, digs_length, show K - 1 - j = i by lia] at hj
        unfold digs at hj
        rw [List.getElem?_map, List.getElem?_range (by lia)] at hj
        exact (Option.some.inj hj).symm
      subst hyy
      rw [hi.1] at hqv
      dsimp only
      rw [hi.1, hi.2]
      generalize hA1 : a / 2 ^ (n * (i + 1)) = A1 at *
      generalize hA0 : a / 2 ^ (n * i) = A0 at *
      have hAA : A0 = A1 * 2 ^ n + A0 % 2 ^ n := by
        have h1 := Int.mul_ediv_add_emod A0 (2 ^ n)
        have h2 : A0 / 2 ^ n = A1 := by rw [← hA0, ← hA1, Nat.mul_succ, pow_add', Int.ediv_ediv_of_nonneg (Int.le_of_lt (pow_pos' _))]
        rw [h2, Int.mul_comm] at h1
        exact h1.symm
      have hd0 := Int.emod_nonneg A0 (show (2 : Int) ^ n ≠ 0 by lia)
      have hd1 := Int.emod_lt_of_pos A0 hpn
      generalize A0 % 2 ^ n = d at *
      have hr0 := Int.emod_nonneg A1 (show b ≠ 0 by lia)
      have hr1 := Int.emod_lt_of_pos A1 hb0
      have hst := step_div (A := A1) (d := d) hb0 hpn hd0 hd1
      rw [← hAA] at hst
      have hx0 : 0 ≤ A1 % b * 2 ^ n + d := Int.add_nonneg (Int.mul_nonneg hr0 (Int.le_of_lt hpn)) hd0
      have hx1 : A1 % b * 2 ^ n + d < 2 ^ n * b := by
        have h1 := Int.mul_le_mul_of_nonneg_right (show A1 % b ≤ b - 1 by lia) (Int.le_of_lt hpn)
        rw [Int.sub_mul, Int.one_mul, Int.mul_comm b] at h1
        lia
      have hq0 := Int.ediv_nonneg hx0 (Int.le_of_lt hb0)
      have hq1 : (A1 % b * 2 ^ n + d) / b < 2 ^ n := Int.ediv_lt_of_lt_mul hb0 hx1
      walk_at "jset"
      walk_at "jn"
      refine JF_cons ?_
      refine JF_AssignTup rfl (by rw [E.eq]; rfl) ?_
      walk_at "c__div2n1n"
      walk_at "jgo"
      refine B_shl (by lia) (by have := intBits_le hr0 (show A1 % b < 2 ^ n by lia); lia) ?_
      walk_at "jn"
      rw [Int.toNat_natCast]
      walk_at "jgo"
      refine C_funE (args := [.int (A1 % b * 2 ^ n + d), .int b, .int n]) (div2_spec hB 3 n _ _ (by lia) hn2 hn1 hx0 hx1 hbl hbh) hA ?_
      rw [← hst.2]
      refine JA_Tuple hA.1 rfl rfl ?_
      refine JAs_cons (JA_Name (i := 7) (by walk_at "jfn") rfl (.inl (by walk_at "jkind")) (by walk_at "jlen") ?_)
      refine JAs_cons (JA_Name (i := 4) (by walk_at "jfn") rfl (.inl (by walk_at "jkind")) (by walk_at "jlen") ?_)
      refine JAs_nil ?_
      walk_at "jn"
      walk_at "jgo"
      refine JF_Expr (E.quiet rfl) rfl ?_
      walk_at "m_append"
      walk_at "jname"
      refine ⟨ty_own (List.mem_singleton.mpr rfl), ?_⟩
      walk_at "jgo"
      refine C_append (pre := []) (post := []) (by rw [List.length_map]; have : sizeLine = 2 ^ 24 := rfl; lia) ?_
      walk_at "jgo"
      refine ⟨rfl, ?_⟩
      walk_at "jn"
      refine JF_nil ?_
      walk_at "jn"
      refine ex3 (qs ++ [(A1 % b * 2 ^ n + d) / b]) _ _ ⟨by rw [List.length_append, hql]; rfl, ?_, ?_, rfl, by rw [List.map_append]; rfl⟩
      · intro q hq
        rcases List.mem_append.mp hq with hq | hq
        · exact hqs q hq
        · rw [List.mem_singleton.mp hq]; exact ⟨hq0, hq1⟩
      · rw [List.reverse_append, List.reverse_singleton, List.singleton_append, valD, hqv, hst.1, Int.add_comm]
    · rintro m o ⟨qs, y6, y7, hql, hqs, hqv, rfl, rfl⟩
      rw [List.length_map, digs_length] at hql hqv
      rw [List.length_map, digs_length]
      have e : a / 2 ^ (n * (K - K)) = a := by rw [Nat.sub_self, Nat.mul_zero, Int.pow_zero, Int.ediv_one]
      rw [e] at hqv ⊢
      refine JF_nil ?_
      walk_at "jn"
      walk_at "jgo"
      refine JF_Expr (E.quiet rfl) rfl ?_
      walk_at "m_reverse"
      walk_at "jname"
      refine ⟨ty_own (List.mem_singleton.mpr rfl), ?_⟩
      walk_at "jgo"
      refine C_reverse (pre := []) (post := []) (by rw [List.length_map]; have : sizeLine = 2 ^ 24 := rfl; lia) ?_
      walk_at "jgo"
      refine ⟨rfl, ?_⟩
      walk_at "jn"
      walk_at "jgo"
      walk_at "c__digits2int"
      refine JL_cons ?_ rfl
      refine JV_freeze ?_
      walk_at "jgo"
      refine ⟨D, _, [], rfl, rfl, ?_⟩
      rw [← List.map_reverse]
      walk_at "jgo"
      refine C_funE (args := [.lst (qs.reverse.map .int), .int n]) (d2i_spec hB (by lia) (by rw [List.length_reverse]; lia) (fun d hd => hqs d (List.mem_reverse.mp hd))) (hA.le (by walk_at "jlen")) ?_
      rw [hqv]
      walk_at "jgo"
      refine JV_Tuple ?_
      walk_at "jgo"
      exact ⟨[.int (a / b), .int (a % b)], rfl, Nat.le_of_ble_eq_true rfl, rfl⟩
end
noncomputable section
set_option maxHeartbeats 4000000 in
theorem shares_spec {B : Bs} (hB : LB B) {w top : Nat} (hw : 1 ≤ w) (hw2 : w ≤ 2405) (ht : 2 ≤ top) (ht2 : top ≤ 6) :
    FunJ B (.ref 198) 10 [.int (2 ^ w), .int top] (fun r => r = .lst ((sharesOf (2 ^ w) (top + 1)).map .int)) := by
  have hq : (2 : Int) ≤ 2 ^ w := by
    obtain ⟨k, rfl⟩ : ∃ k, w = 1 + k := ⟨w - 1, by lia⟩
    rw [pow_add', Int.pow_one]
    have := pow_pos' k
    lia
  have hqb : Builtin.Int.intBits (2 ^ w) ≤ w + 1 := intBits_le (by lia) (by rw [Int.pow_succ]; lia)
  generalize hqe : (2 : Int) ^ w = q at *
  refine FunJ_of (n := 9) (ps := [Str.ofString "base", Str.ofString "top"]) (ls := [Str.ofString "shares", Str.ofString "size", Str.ofString "share", Str.ofString "part", Str.ofString "left"]) hB.ok (by rw [hB.K]; exact rfl) (by rw [hB.K]; kernel_rfl!) rfl rfl rfl rfl rfl rfl rfl ?_ rfl ?_ ?_ ?_
  · exact len2 fun _ _ => rfl
  · decide +kernel
  · decide +kernel
  · intro A L env s₀ P G₀ hA hP E
    dsimp only at E
    walk_at "jn"
    walk_at "jgo"
    refine JV_List ?_
    walk_at "jgo"
    refine ⟨[.int 1, .int (q - 1)], rfl, Nat.le_of_ble_eq_true rfl, fun D => ?_⟩
    walk_at "jgo"
    refine JF_For (k := 3) (by walk_at "jfn") rfl (by walk_at "jkind") (fun _ => rfl) ?_
    walk_at "c_range"
    walk_at "jgo"
    refine C_range2 ?_
    refine ⟨(upT 2 (top + 1)), (fun j m o => ∃ y3 y4 y5 y6 : S, m = [.t (.int q), .t (.int top), .own D, y3, y4, y5, y6] ∧ o = [(D, .lst ((sharesOf q (2 + j)).map .int))]), src_rng hA.1 (by lia) (by lia) (by lia) (by lia), ⟨_, _, _, _, rfl, rfl⟩, ?_, ?_⟩
    · rintro P' j y m o hj ⟨y3, y4, y5, y6, rfl, rfl⟩
      obtain ⟨hlt, rfl⟩ := upT_inv hj
      obtain ⟨sz, hsz⟩ : ∃ sz, sz = 2 + j := ⟨_, rfl⟩
      have hs1 : 2 ≤ sz := by lia
      have hs2 : sz ≤ 6 := by lia
      dsimp only
      rw [show (2 + (j : Int)) = (sz : Int) by lia, show 2 + j = sz by lia, show 2 + (j + 1) = sz + 1 by lia]
      walk_at "jset"
      walk_at "jn"
      walk_at "jgo"
      refine B_pow (by lia) (by rw [← Int.natCast_mul]; have := Nat.mul_le_mul (show Builtin.Int.intBits q ≤ 2406 by lia) hs2; lia) ?_
      walk_at "jgo"
      rw [Int.toNat_natCast, ← part_zero q hs1 hs2]
      refine JF_For (k := 5) (by walk_at "jfn") rfl (by walk_at "jkind") (fun _ => rfl) ?_
      walk_at "c_range"
      walk_at "jgo"
      refine C_range2 ?_
      refine ⟨(upT 1 sz), (fun i m o => ∃ y5 y6 : S, m = [.t (.int q), .t (.int top), .own D, .t (.int sz), .t (.int (part q sz i)), y5, y6] ∧ o = [(D, .lst ((sharesOf q sz).map .int))]), src_rng hA.1 (by lia) (by lia) (by lia) (by lia), ⟨_, _, rfl, rfl⟩, ?_, ?_⟩
      · rintro P'' i y m o hi ⟨y5, y6, rfl, rfl⟩
        obtain ⟨hlt', rfl⟩ := upT_inv hi
        have hip : i + 1 < sz := by lia
        rw [show (1 + (i : Int)) = ((i + 1 : Nat) : Int) by lia]
        have hst := part_step q hs1 hs2 hip
        walk_at "jset"
        walk_at "jn"
        walk_at "jgo"
        refine B_mod (by lia) ?_
        walk_at "jgo"
        rw [show ((sz : Int).fmod ((i + 1 : Nat) : Int)) = ((sz % (i + 1) : Nat) : Int) by rw [Int.fmod_eq_emod_of_nonneg _ (by lia)]; rfl]
        split
        · rename_i hz
          have hz : sz % (i + 1) = 0 := by rw [beq_iff_eq] at hz; lia
          have hst := hst.1 hz
          have hpb := part_bound (p := i) hq hs1 hs2 (by lia)
          have hfb := phi_bound hq (show 1 ≤ i + 1 by lia) (show i + 1 ≤ 5 by lia)
          have hfit := share_fits hw hw2 hpb.1 (by rw [hqe]; exact hpb.2) (by rw [hqe]; exact hfb.1) (by rw [hqe]; exact hfb.2)
          have hph : 0 < phi q (i + 1) := by lia
          walk_at "jgo"
          refine JF_AssignTup rfl (by rw [E.eq]; rfl) ?_
          walk_at "c__divmod_pos"
          walk_at "jgo"
          refine K_lst (y := .int (phi q (i + 1))) (.inr ⟨D, rfl, List.mem_singleton.mpr rfl⟩) (by lia) (by rw [Int.toNat_natCast, List.getElem?_map, sharesOf_get q hip]; rfl) (by rw [List.length_map, sharesOf_length]; lia) ?_
          walk_at "jgo"
          refine C_funE (args := [.int (part q sz i), .int (phi q (i + 1))]) (dmp_spec hB hpb.1 hph hfit.1 hfit.2.1 hfit.2.2) hA ?_
          rw [hst, Int.mul_ediv_cancel _ (by lia), Int.mul_emod_left]
          refine JA_Tuple hA.1 rfl rfl ?_
          refine JAs_cons (JA_Name (i := 4) (by walk_at "jfn") rfl (.inl (by walk_at "jkind")) (by walk_at "jlen") ?_)
          refine JAs_cons (JA_Name (i := 6) (by walk_at "jfn") rfl (.inl (by walk_at "jkind")) (by walk_at "jlen") ?_)
          refine JAs_nil ?_
          walk_at "jn"
          walk_at "jgo"
          rw [if_neg (by decide)]
          walk_at "jgo"
          exact ex2 _ _ ⟨rfl, rfl⟩
        · rename_i hz
          have hz : sz % (i + 1) ≠ 0 := fun q => hz (by rw [q]; rfl)
          have hst := hst.2 hz
          walk_at "jgo"
          rw [hst]
          exact ex2 _ _ ⟨rfl, rfl⟩
      · rintro m o ⟨y5, y6, rfl, rfl⟩
        have e : (upT 1 (sz : Int)).length = sz - 1 := by rw [upT_length]; lia
        rw [e, part_end q hs1 hs2]
        refine JF_nil ?_
        walk_at "jn"
        walk_at "jgo"
        refine JF_Expr (E.quiet rfl) rfl ?_
        walk_at "m_append"
        walk_at "jname"
        refine ⟨ty_own (List.mem_singleton.mpr rfl), ?_⟩
        walk_at "jgo"
        refine C_append (pre := []) (post := []) (by rw [List.length_map, sharesOf_length]; have : sizeLine = 2 ^ 24 := rfl; lia) ?_
        walk_at "jgo"
        refine ⟨rfl, ?_⟩
        walk_at "jn"
        walk_at "jgo"
        refine ex4 _ _ _ _ ⟨rfl, ?_⟩
        rw [sharesOf_succ, List.map_append]; rfl
    · rintro m o ⟨y3, y4, y5, y6, rfl, rfl⟩
      have e : (upT 2 ((top : Int) + 1)).length = top - 1 := by rw [upT_length]; lia
      rw [e, show 2 + (top - 1) = top + 1 by lia]
      refine JF_nil ?_
      walk_at "jn"
      walk_at "jgo"
      exact ex2 _ _ ⟨rfl, rfl⟩
end
noncomputable section
theorem JF_weakAt {B : Bs} {X : Act} {A : Around} {m : List S} {own : Own} {t : Sem Flow} {R : Fl → List S → Own → Prop} (i : Nat) {sv : S} (sv' : S) (hm : m[i]? = some sv) (hw : ∀ (G : PM) o, RepS G sv o → RepS G sv' o) (h : JF B X A (m.set i sv') own t R) : JF B X A m own t R := by
  intro s G hS _ Q hQ
  refine h s G (hS.slots fun j sj hj => ?_) trivial Q hQ
  by_cases e : i = j
  · subst e
    rw [List.getElem?_set_self (by exact (List.getElem?_eq_some_iff.mp hm).1)] at hj
    cases hj
    exact ⟨sv, hm, hw G⟩
  · rw [List.getElem?_set_ne e] at hj
    exact ⟨sj, hj, fun _ r => r⟩
end
noncomputable section
theorem abcd_at : ∀ k, k < 4 → ([97, 98, 99, 100] : List Nat)[k]? = some (97 + k) := by decide
theorem wk_wT {j : Nat} {w : List Nat} : ∀ (G : PM) o, RepS G (.t (wT j w)) o → RepS G (.t (.str w)) o := by
  intro G o h
  unfold wT at h
  split at h
  · exact h
  · exact wk_tstr G o h
theorem concat_wT {B : Bs} (hB : LB B) (hN : 0 < B.N) {x : List Nat} {c j : Nat} (hj : x.length = j) (hz : j ≤ 1000) : FunJ B (.ref 129) 1 [.str x, .str [c]] (fun r => r = wT (j + 1) (x ++ [c])) := by
  refine concat_body hB (fun X A m own R h => C_hasS (fun G v h => by obtain ⟨t, rfl⟩ := h; exact ex2 _ t (rfl)) h) fun X A m own R h _ => B_addsT hN (by simp) rfl (by have : sizeLine = 2 ^ 24 := rfl; simp; lia) (fun e => h _ _ _ ?_) (fun e => h _ _ _ ?_)
  · subst e
    simp at hj; subst hj
    rfl
  · show T.tstr (x ++ [c]) = _
    have : 1 ≤ j := by
      rw [← hj]
      cases x with
      | nil => exact absurd rfl e
      | cons _ _ => simp
    rw [wT, if_neg (by lia)]
set_option maxHeartbeats 4000000 in
theorem words_spec {B : Bs} (hB : LB B) (hN : 0 < B.N) {cs : List Int} (hk : cs.length ≤ 4) (hs0 : 0 ≤ cs.sum) (hs : cs.sum ≤ 6) :
    FunJ B (.ref 186) 2 [.lst (cs.map .int)] (fun r => r = .lst ((wordsAt cs cs.sum.toNat).map (wT cs.sum.toNat))) := by
  refine FunJ_of (n := 1) (ps := [Str.ofString "counts"]) (ls := [Str.ofString "words", Str.ofString "step", Str.ofString "longer", Str.ofString "word", Str.ofString "kind"]) hB.ok (by rw [hB.K]; exact rfl) (by rw [hB.K]; kernel_rfl!) rfl rfl rfl rfl rfl rfl rfl ?_ rfl ?_ ?_ ?_
  · exact len1 fun _ => rfl
  · decide +kernel
  · decide +kernel
  · intro A L env s₀ P G₀ hA hP E
    dsimp only at E
    have hsl : sizeLine = 2 ^ 24 := rfl
    walk_at "jn"
    refine JF_cons ?_
    refine JF_freezeAt (i := 1) ?_
    walk_at "jassign"
    refine JV_List ?_
    walk_at "jgo"
    refine ⟨[.str []], rfl, Nat.le_of_ble_eq_true rfl, fun D => hGo _ _ _ (by walk_at "jlen") ⟨rfl, D, _, [], rfl, rfl, ?_⟩⟩
    walk_at "jn"
    refine JF_cons ?_
    refine JF_For (k := 2) (by walk_at "jfn") rfl (by walk_at "jkind") (fun _ => rfl) ?_
    walk_at "c_range"
    walk_at "jgo"
    walk_at "c_sum"
    walk_at "jgo"
    refine C_sum hA.1 (.inl rfl) ?_
    walk_at "jgo"
    refine C_range1 ?_
    refine ⟨(upT 0 cs.sum), (fun j m o => ∃ y2 y3 y4 y5 : S, m = [.t (.lst (cs.map .int)), .t (.lst ((wordsAt cs j).map (wT j))), y2, y3, y4, y5] ∧ o = []), src_rng hA.1 (by lia) (by lia) (by lia) (by lia), ⟨_, _, _, _, rfl, rfl⟩, ?_, ?_⟩
    · rintro P' j y m o hj ⟨y2, y3, y4, y5, rfl, rfl⟩
      obtain ⟨hlt, rfl⟩ := upT_inv hj
      walk_at "jset"
      walk_at "jn"
      walk_at "jgo"
      refine JV_List ?_
      walk_at "jgo"
      refine ⟨[], rfl, Nat.le_of_ble_eq_true rfl, fun D => ?_⟩
      walk_at "jgo"
      refine JF_For (k := 4) (by walk_at "jfn") rfl (by walk_at "jkind") (fun _ => rfl) ?_
      walk_at "jname"
      refine ⟨((wordsAt cs j).map (wT j)), (fun i m o => ∃ y4 y5 : S, m = [.t (.lst (cs.map .int)), .t (.lst ((wordsAt cs j).map (wT j))), .t (.int (0 + j)), .own D, y4, y5] ∧ o = [(D, .lst ((((wordsAt cs j).take i).flatMap (ext cs)).map (wT (j + 1))))]), src_lst hA.1, ⟨_, _, rfl, rfl⟩, ?_, ?_⟩
      · rintro P'' i y m o hi ⟨y4, y5, rfl, rfl⟩
        rw [List.getElem?_map] at hi
        obtain ⟨w, hw, rfl⟩ := Option.map_eq_some_iff.mp hi
        have hwl := wordsAt_len (List.mem_of_getElem? hw)
        have hb1 : (((wordsAt cs j).take i).flatMap (ext cs)).length ≤ 4 ^ 6 * 4 := by
          have h1 := flatMap_le (f := ext cs) (b := cs.length) (l := (wordsAt cs j).take i) fun x _ => ext_le cs x
          have h2 : ((wordsAt cs j).take i).length ≤ (wordsAt cs j).length := by rw [List.length_take]; lia
          have h3 := wordsAt_le cs j
          have h4 : cs.length ^ j ≤ 4 ^ 6 := Nat.le_trans (Nat.pow_le_pow_left hk j) (Nat.pow_le_pow_right (by decide) (by lia))
          have h5 := Nat.mul_le_mul (Nat.le_trans h2 (Nat.le_trans h3 h4)) hk
          lia
        walk_at "jset"
        walk_at "jn"
        refine JF_weakAt 4 (.t (.str w)) rfl wk_wT ?_
        walk_at "jn"
        refine JF_cons ?_
        refine JF_For (k := 5) (by walk_at "jfn") rfl (by walk_at "jkind") (fun _ => rfl) ?_
        walk_at "c_range"
        walk_at "jgo"
        walk_at "c_len"
        walk_at "jgo"
        refine C_len (.inl rfl) (by rw [List.length_map]; lia) ?_
        walk_at "jgo"
        refine C_range1 ?_
        rw [List.length_map]
        refine ⟨(upT 0 cs.length), (fun k m o => ∃ y5 : S, m = [.t (.lst (cs.map .int)), .t (.lst ((wordsAt cs j).map (wT j))), .t (.int (0 + j)), .own D, .t (.str w), y5] ∧ o = [(D, .lst ((((wordsAt cs j).take i).flatMap (ext cs) ++ (List.range k).flatMap (extK cs w)).map (wT (j + 1))))]), src_rng hA.1 (by lia) (by lia) (by lia) (by lia), ⟨_, rfl, by rw [List.range_zero, List.flatMap_nil, List.append_nil]⟩, ?_, ?_⟩
        · rintro P3 k y m o hk' ⟨y5, rfl, rfl⟩
          obtain ⟨hlt', rfl⟩ := upT_inv hk'
          have hk4 : k < 4 := by lia
          have hkc : k < cs.length := by lia
          have hab : [97, 98, 99, 100][((0 : Int) + (k : Int)).toNat]? = some (97 + k) := by
            rw [Int.zero_add, Int.toNat_natCast]
            exact abcd_at k hk4
          have hb2 := flatMap_le (f := extK cs w) (b := 1) (l := List.range k) fun k _ => extK_le cs w k
          rw [List.length_range] at hb2
          have hrk : (List.range (k + 1)).flatMap (extK cs w) = (List.range k).flatMap (extK cs w) ++ extK cs w k := by rw [List.range_succ, List.flatMap_append]; simp
          walk_at "jset"
          walk_at "jn"
          walk_at "jgo"
          walk_at "m_count"
          walk_at "jname"
          refine ⟨ty_str, ?_⟩
          walk_at "jgo"
          refine K_str (by lia) hab (by decide) ?_
          walk_at "jgo"
          refine C_count ?_
          walk_at "jgo"
          refine K_lst (y := .int (cs.getD k 0)) (.inl rfl) (by lia) (by rw [Int.zero_add, Int.toNat_natCast, List.getElem?_map, List.getD_eq_getElem?_getD, List.getElem?_eq_getElem hkc]; rfl) (by rw [List.length_map]; lia) ?_
          walk_at "jgo"
          split
          · rename_i hq
            have hq : ((w.count (97 + k) : Nat) : Int) < cs.getD k 0 := by simpa using hq
            walk_at "jgo"
            refine JF_Expr (E.quiet rfl) rfl ?_
            walk_at "m_append"
            walk_at "jname"
            refine ⟨ty_own (List.mem_singleton.mpr rfl), ?_⟩
            refine JL_cons ?_ rfl
            walk_at "c_concat"
            walk_at "jgo"
            refine K_str (by lia) hab (by decide) ?_
            walk_at "jgo"
            refine C_funE (args := [.str w, .str [97 + k]]) (concat_wT hB hN hwl (by lia)) hA ?_
            walk_at "jgo"
            refine C_append (pre := []) (post := []) (by rw [List.length_map, List.length_append]; lia) ?_
            walk_at "jgo"
            refine ⟨rfl, ?_⟩
            walk_at "jn"
            walk_at "jgo"
            refine ⟨_, rfl, ?_⟩
            rw [hrk, extK, if_pos hq, ← List.append_assoc]
            simp only [List.map_append]; rfl
          · rename_i hq
            have hq : ¬ ((w.count (97 + k) : Nat) : Int) < cs.getD k 0 := by simpa using hq
            walk_at "jgo"
            refine ⟨_, rfl, ?_⟩
            rw [hrk, extK, if_neg hq, List.append_nil]
        · rintro m o ⟨y5, rfl, rfl⟩
          refine JF_nil ?_
          walk_at "jn"
          refine JF_nil ?_
          walk_at "jn"
          refine ex2 _ _ ⟨rfl, ?_⟩
          rw [flatMap_take hw, upT_length, Int.sub_zero, Int.toNat_natCast]; rfl
      · rintro m o ⟨y4, y5, rfl, rfl⟩
        refine JF_nil ?_
        walk_at "jn"
        refine JF_cons ?_
        refine JF_freezeAt (i := 1) ?_
        walk_at "jassign"
        walk_at "jname"
        refine hGo _ _ _ (by walk_at "jlen") ⟨rfl, D, _, [], rfl, rfl, ?_⟩
        walk_at "jn"
        refine JF_nil ?_
        walk_at "jn"
        refine ⟨.t (.int (0 + j)), .own D, y4, y5, ?_, rfl⟩
        rw [List.length_map, List.take_length, wordsAt]
    · rintro m o ⟨y2, y3, y4, y5, rfl, rfl⟩
      refine JF_nil ?_
      walk_at "jn"
      walk_at "jgo"
      rw [upT_length, Int.sub_zero]
end
noncomputable section
theorem newEnv_one {M : Model} {A : Around} {E : Value → Shared → Prop} {s : Shared} {x : Str} {scope : Scope} {globals : Addr} {closure : List (Str × Addr)} {qual : Str} {outer : Env} {Q : Env → Shared → Prop}
    (hc1 : ∀ n acc, cellsFrom n scope.names acc = (x, n) :: acc) (hc2 : ∀ h, pushCells h scope.names = h.push { cls := .type "cell", data := .cell none })
    (hQ : Q { scope := scope, locals := s.heap.objs.size, globals := globals, cells := (x, s.heap.objs.size + 1) :: closure, qual := qual, func := none, code := outer.code, frame := outer.frame, builtins := outer.builtins }
      { s with heap := (s.heap.push { cls := .type "dict", data := .dict #[] }).push { cls := .type "cell", data := .cell none } }) :
    wpAny M A (newFunctionEnv scope globals closure [] qual none .none (some outer)) Q E s := by
  simp only [newFunctionEnv, Option.isSome_some, if_true]
  refine wpAny_bind (wpAny_alloc ?_)
  refine wpAny_bind (wpAny_layCells _ (fun name kind cells => by cases hkc : kind == NameKind.cell <;> simp [hkc]) _ _ _ _ ?_)
  rw [hc1, hc2, show ({ s with heap := s.heap.push { cls := .type "dict", data := .dict #[] } } : Shared).heap.objs.size = s.heap.objs.size + 1 from Heap.size_push ..]
  rw [List.forIn_nil]
  exact wpAny_bind (wpAny_pure (wpAny_pure hQ))
section
variable {B : Bs} {X : Act} {A : Around} {m : List S} {own : Own} {G : PM} {s : Shared} {env : Env} {names : List Str}
theorem under_hidC {a : Addr} {h : Heap} (H : Hid B X G own a) (hC : a ≠ env.locals) (hcl : ∀ x c, env.cells.lookup x = some c → c ≠ a) : Hid B (X.under h env names) G own a := by
  refine aside fun Cg hCg => ?_
  obtain ⟨h1, h2, h3, h4, h5⟩ := H
  refine hCg ?_
  refine ⟨h1, ?_, hC, hcl, h5⟩
  rw [under_out]
  · exact h2
  · rintro (q | ⟨x, e⟩)
    · exact h3 q
    · exact h4 x a e rfl
theorem St.underC {mC : List S} {mc : Str → Option Value} (S : St B X m own G s) (hC : Hid B X G own env.locals) (hns : s.heap.Ns env.locals mc) (hcl : ∀ x c, env.cells.lookup x = some c → X.env.cells.lookup x = some c ∨ (Hid B X G own c ∧ ∃ o, s.heap.get? c = some o)) (hinj : ∀ x y c, env.cells.lookup x = some c → env.cells.lookup y = some c → x = y)
    (hnd : names.Nodup)
    (hv : ∀ (i : Nat) x sv, names[i]? = some x → mC[i]? = some sv → (env.kindOf x = some .local ∧ sv = .undef ∧ mc x = none) ∨
      ((env.kindOf x = some .cell ∨ env.kindOf x = some .free) ∧ ∃ c o, env.cells.lookup x = some c ∧ s.heap.IsCell c o ∧ RepS G sv o)) :
    St B (X.under s.heap env names) mC own G s := by
  obtain ⟨h1, h2, h3, h4, h5⟩ := hC
  have outC : ¬ (env.locals = X.env.locals ∨ ∃ x, X.env.cells.lookup x = some env.locals) := by
    rintro (q | ⟨x, e⟩)
    · exact h3 q
    · exact h4 x _ e rfl
  exact {
    same := S.same
    hi := S.hi
    lo := S.lo
    le := S.le
    base := S.base
    g0 := S.g0
    prot := fun b o e => by
      by_cases q : b = X.env.locals ∨ ∃ x, X.env.cells.lookup x = some b
      · rw [under_in q] at e; exact e
      · rw [under_out q] at e; exact S.prot b o e
    apart := fun b o e e' => by
      by_cases q : b = X.env.locals ∨ ∃ x, X.env.cells.lookup x = some b
      · rcases q with rfl | ⟨x, hx⟩
        · exact S.GL
        · cases hP : X.P b with
          | none => exact (S.cells x b hx).2 hP
          | some o' => exact S.apart b o' hP e'
      · rw [under_out q] at e; exact S.apart b o e e'
    ns := ⟨mc, hns⟩
    GL := h1
    PL := by
      show (X.under s.heap env names).P env.locals = none
      rw [under_out outC]; exact h2
    cells := fun x c e => by
      rcases hcl x c e with hcl | ⟨hH, hal⟩
      rotate_left
      · exact ⟨hal, fun _ => hH.1⟩
      refine ⟨(S.cells x c hcl).1, fun q => ?_⟩
      have q' : (X.under s.heap env names).P c = none := q
      rw [under_in (.inr ⟨x, hcl⟩)] at q'
      obtain ⟨⟨o, ho⟩, _⟩ := S.cells x c hcl
      rw [q'] at ho; cases ho
    vars := fun i x sv e1 e2 => by
      rcases hv i x sv e1 e2 with ⟨a, rfl, b⟩ | ⟨a, c, o, b1, b2, b3⟩
      · exact ⟨none, .inl ⟨a, mc, hns, b⟩, rfl⟩
      · exact ⟨o, .inr ⟨a, c, b1, b2⟩, b3⟩
    ow := fun p hp => by
      obtain ⟨o, a, b, c, d, e, f⟩ := S.ow p hp
      refine ⟨o, a, b, c, ?_, h5 p hp, fun x c' hx => ?_⟩
      · show (X.under s.heap env names).P p.1 = none
        rw [under_out]
        · exact d
        · rintro (q | ⟨x, hx⟩)
          · exact e q
          · exact f x _ hx rfl
      · rcases hcl x c' hx with q | ⟨q, _⟩
        · exact f x c' q
        · exact q.2.2.2.2 p hp
    nodup := S.nodup
    names := hnd
    cinj := hinj }
end
section
variable {B : Bs} {X : Act} {A : Around} {m : List S} {own : Own} {G : PM}
theorem comp_coreC {elt iter : Expr} {x : Str} {px pos : Pos} {ifs : List Expr} {scope : Scope} {cl : List (Str × Addr)} {names : List Str} {mC : List S} {k : Nat} {s : Shared} {d : Addr} {fp : List Addr} {P : Nat → Value → Prop} {W : Nat → Heap → Prop}
    {ts : List T} {I : Nat → List T → Own → Prop} {RR : Value → Addr → Result → Shared → Prop}
    (S : St B X m own G s) (wk : Wk B A d fp ts.length P W) (w0 : W 0 s.heap) (hd : Hid B X G own d) (alive : ∀ i h, W i h → ∃ ob, h.get? d = some ob) (hfp : ∀ b ∈ fp, b = d ∨ ∃ o, G.ob b = some o)
    (hP : ∀ i v, i < ts.length → P i v → ∃ x, ts[i]? = some x ∧ RepT G x v) (hsz : ts.length ≤ sizeLine)
    (hc1 : ∀ n acc, cellsFrom n scope.names acc = (x, n) :: acc) (hc2 : ∀ h, pushCells h scope.names = h.push { cls := .type "cell", data := .cell none }) (hkind : scope.kind = .function) (hx : (compEnvC scope cl 0 X.env).kindOf x = some .cell) (hcl : ∀ y c, cl.lookup y = some c → X.env.cells.lookup y = some c)
    (hnd : names.Nodup) (hi : names[k]? = some x) (hkl : k < mC.length)
    (hv : ∀ (i : Nat) y sv, names[i]? = some y → mC[i]? = some sv → (scope.names.lookup y = some .local ∧ sv = .undef) ∨ (y = x ∧ sv = .undef) ∨
      (y ≠ x ∧ ((compEnvC scope cl 0 X.env).kindOf y = some .cell ∨ (compEnvC scope cl 0 X.env).kindOf y = some .free) ∧ (X.env.kindOf y = some .cell ∨ X.env.kindOf y = some .free) ∧ cl.lookup y = X.env.cells.lookup y ∧ ∃ j : Nat, X.names[j]? = some y ∧ m[j]? = some sv))
    (i0 : I 0 [] own)
    (turn : ∀ C h P j y o acc, ts[j]? = some y → I j acc o → acc.length ≤ j →
      CTurn B ((X.under h (compEnvC scope ((x, C + 1) :: cl) C X.env) names).at P) A (mC.set k (.t y)) o ifs elt fun z o' => I (j + 1) (acc ++ z.toList) o')
    (fin : ∀ D C own' G' s' acc mc, St B X m ((D, .lst acc) :: own') G' s' → Le G G' → I ts.length acc own' → acc.length ≤ ts.length → Hid B X G' ((D, .lst acc) :: own') C → s'.heap.Ns C mc → RR (.ref D) C (.ok .next) s') :
    wpAny (model B.prog B.w) A (newList []) (fun acc s₃ => wpAny (model B.prog B.w) A (newFunctionEnv scope X.env.globals cl [] X.env.qual none .none (some X.env)) (fun cenv s₄ =>
      codeAny (model B.prog B.w) A (.compStart (.ListComp elt [⟨.Name x px, iter, ifs, 0⟩] scope pos) 0 (.ref d) acc { cenv with scope := relabel scope X.env }) (RR acc cenv.locals) s₄) NoE s₃) NoE s := by
  refine wpAny_newObj_type (newEnv_one hc1 hc2 ?_)
  dsimp only
  generalize hDo : ({ cls := .type "list", dict := none, data := .seq ([] : List Value).toArray } : Obj) = Do
  have hfree : Do.isFreed = false := by rw [← hDo]; rfl
  generalize hDn : s.heap.objs.size = D at *
  have hDs : s.heap.get? D = none := hDn ▸ get_size s.heap
  have HD := S.hid hDs
  have SD := S.push (o := Do) (tk := s.toks)
  generalize hH2 : s.heap.push Do = H2 at *
  have hDo2 : H2.get? D = some Do := by rw [← hH2, ← hDn]; exact Heap.get?_push_size _ hfree
  generalize hCn : H2.objs.size = C at *
  have hC2 : H2.get? C = none := hCn ▸ get_size H2
  have hCs : s.heap.get? C = none := by
    cases e : s.heap.get? C with
    | none => rfl
    | some o => rw [show H2.get? C = some o from hH2 ▸ Heap.get?_push_of_some _ e] at hC2; cases hC2
  have HC := S.hid hCs
  generalize hH1 : (H2.push { cls := .type "dict", data := .dict #[] }).push { cls := .type "cell", data := .cell none } = h₁
  have hC1s : (H2.push { cls := .type "dict", data := .dict #[] }).objs.size = C + 1 := by rw [Heap.size_push, hCn]
  have hns₁ : h₁.Ns C (fun _ => none) := by rw [← hH1, ← hCn]; exact (Heap.Ns.new H2 (.type "dict")).push _
  have hcc₁ : h₁.IsCell (C + 1) none := by rw [← hH1, ← hC1s]; exact ⟨_, Heap.get?_push_size _ rfl, rfl⟩
  have hK2 : H2.get? (C + 1) = none := Heap.get?_none_of_le (by rw [hCn]; exact Nat.le_succ _)
  have hKs : s.heap.get? (C + 1) = none := by
    cases e : s.heap.get? (C + 1) with
    | none => rfl
    | some o => rw [show H2.get? (C + 1) = some o from hH2 ▸ Heap.get?_push_of_some _ e] at hK2; cases hK2
  have HK := S.hid hKs
  have hCD : C ≠ D := fun q => by rw [q, hDo2] at hC2; cases hC2
  obtain ⟨obd, hobd⟩ := alive _ _ w0
  have hdC : d ≠ C := fun q => by rw [q, hCs] at hobd; cases hobd
  have hdK : d ≠ C + 1 := fun q => by rw [q, hKs] at hobd; cases hobd
  have hDK : D ≠ C + 1 := fun q => by rw [← q, hDo2] at hK2; cases hK2
  have hdD : d ≠ D := fun q => by rw [q, hDs] at hobd; cases hobd
  have up : ∀ b o, b ≠ C → H2.get? b = some o → h₁.get? b = some o := fun b o hb e => by rw [← hH1]; exact Heap.get?_push_of_some _ (Heap.get?_push_of_some _ e)
  have ups : ∀ b o, s.heap.get? b = some o → h₁.get? b = some o := fun b o e => up b o (fun q => by rw [q, hCs] at e; cases e) (hH2 ▸ Heap.get?_push_of_some _ e)
  have S1 : St B X m own G { s with heap := h₁, toks := s.toks } := S.grow ups (Le.refl G) (fun b o e => ups b o (S.le b o e)) (fun _ _ _ e => e) S.hi
  generalize hs1 : ({ s with heap := h₁, toks := s.toks } : Shared) = s1 at S1 ⊢
  have hh1 : s1.heap = h₁ := by rw [← hs1]
  have hKal : ∃ o, s1.heap.get? (C + 1) = some o := by rw [hh1]; obtain ⟨o, ho, _⟩ := hcc₁; exact ⟨o, ho⟩
  let env' := compEnvC scope ((x, C + 1) :: cl) C X.env
  have hlx : ∀ y c, env'.cells.lookup y = some c → (y = x ∧ c = C + 1) ∨ (y ≠ x ∧ cl.lookup y = some c) := fun y c e => by
    have e : List.lookup y ((x, C + 1) :: cl) = some c := e
    rw [List.lookup_cons] at e
    split at e
    · rename_i q; cases e; exact .inl ⟨eq_of_beq q, rfl⟩
    · rename_i q; exact .inr ⟨fun r => by rw [r] at q; simp at q, e⟩
  have hlx2 : ∀ y, y ≠ x → env'.cells.lookup y = cl.lookup y := fun y hy => by
    show List.lookup y ((x, C + 1) :: cl) = _
    rw [List.lookup_cons, show (y == x) = false by rw [beq_eq_false_iff_ne]; exact hy]
  have hcl' : ∀ y c, env'.cells.lookup y = some c → X.env.cells.lookup y = some c ∨ (Hid B X G own c ∧ ∃ o, s1.heap.get? c = some o) := fun y c e => by
    rcases hlx y c e with ⟨_, rfl⟩ | ⟨_, e⟩
    · exact .inr ⟨HK, hKal⟩
    · exact .inl (hcl y c e)
  have hoff : ∀ {a : Addr}, Hid B X G own a → a ≠ C + 1 → ∀ y c, env'.cells.lookup y = some c → c ≠ a := fun {a} H hne y c e => by
    rcases hlx y c e with ⟨_, rfl⟩ | ⟨_, e⟩
    · exact hne.symm
    · exact H.2.2.2.1 y c (hcl y c e)
  have hinj : ∀ y z c, env'.cells.lookup y = some c → env'.cells.lookup z = some c → y = z := fun y z c e1 e2 => by
    have fresh : ∀ w c', cl.lookup w = some c' → c' ≠ C + 1 := fun w c' e => HK.2.2.2.1 w c' (hcl w c' e)
    rcases hlx y c e1 with ⟨r1, q1⟩ | ⟨_, r1⟩
    · rcases hlx z c e2 with ⟨r2, q2⟩ | ⟨_, r2⟩
      · rw [r1, r2]
      · exact absurd q1 (fresh z c r2)
    · rcases hlx z c e2 with ⟨r2, q2⟩ | ⟨_, r2⟩
      · exact absurd q2 (fresh y c r1)
      · exact S.cinj y z c (hcl y c r1) (hcl z c r2)
  have hvC : ∀ (i : Nat) y sv, names[i]? = some y → mC[i]? = some sv → (env'.kindOf y = some .local ∧ sv = .undef ∧ (none : Option Value) = none) ∨
      ((env'.kindOf y = some .cell ∨ env'.kindOf y = some .free) ∧ ∃ c o, env'.cells.lookup y = some c ∧ s1.heap.IsCell c o ∧ RepS G sv o) := fun i y sv e1 e2 => by
    rcases hv i y sv e1 e2 with ⟨a, b⟩ | ⟨rfl, rfl⟩ | ⟨ne, a, a', b, j, c1, c2⟩
    · exact .inl ⟨lookup_relabel_local a, b, rfl⟩
    · refine .inr ⟨.inl hx, C + 1, none, ?_, by rw [hh1]; exact hcc₁, rfl⟩
      show List.lookup y ((y, C + 1) :: cl) = _
      rw [List.lookup_cons, beq_self_eq_true]
    · obtain ⟨o, w, r⟩ := S1.vars j y sv c1 c2
      rcases w with ⟨hl, _⟩ | ⟨_, c, hc, hcc⟩
      · rcases a' with a' | a' <;> (rw [hl] at a'; cases a')
      · exact .inr ⟨a, c, o, (hlx2 y ne).trans (b.trans hc), hcc, r⟩
  have S2 := S1.underC (env := env') (names := names) (mC := mC) (mc := fun _ => none) HC (by rw [hh1]; exact hns₁) hcl' hinj hnd (fun i y sv e1 e2 => by
    rcases hvC i y sv e1 e2 with ⟨a, b, _⟩ | r
    · exact .inl ⟨a, b, rfl⟩
    · exact .inr r)
  have Hd2 := under_hidC (h := s1.heap) (env := env') (names := names) hd hdC (hoff hd hdK)
  have HD2 := under_hidC (h := s1.heap) (env := env') (names := names) HD hCD.symm (hoff HD hDK)
  have hobd1 : s1.heap.get? d = some obd := hh1 ▸ ups d obd hobd
  have hD1 : s1.heap.get? D = some Do := hh1 ▸ up D Do hCD.symm hDo2
  exact comp_loop S1 S2 wk (wk.frame _ _ _ w0 fun b hb o e => hh1 ▸ ups b o e) alive hfp hP hsz HC HD Hd2 HD2 hCD hdD (hD1.trans (congrArg some hDo.symm)) hkind hi hkl (.inr ⟨hx, fun c hc => by
    obtain ⟨_, rfl⟩ | ⟨q, _⟩ := hlx x c hc
    · refine ⟨?_, hdK.symm, hDK.symm⟩
      rw [under_out]
      · exact HK.2.1
      · rintro (q | ⟨y, q⟩)
        · exact HK.2.2.1 q
        · exact HK.2.2.2.1 y _ q rfl
    · exact absurd rfl q⟩) rfl i0 (fun P j y o acc => turn C s1.heap P j y o acc) (fin D C)
end
end
noncomputable section
structure CompOkC (X : Act) (scope : Scope) (cl : List (Str × Addr)) (names : List Str) (x : Str) (k : Nat) (iter : Expr) : Prop where
  clos : closureFor scope X.env = pure cl
  c1 : ∀ n acc, cellsFrom n scope.names acc = (x, n) :: acc
  c2 : ∀ h, pushCells h scope.names = h.push { cls := .type "cell", data := .cell none }
  kind : scope.kind = .function
  locs : ∀ y ∈ scope.names, y.2 = .local → scope.names.lookup y.1 = some .local
  hx : (compEnvC scope cl 0 X.env).kindOf x = some .cell
  sub : ∀ y c, cl.lookup y = some c → X.env.cells.lookup y = some c
  nd : names.Nodup
  hi : names[k]? = some x
  hs : ∀ x, foldedSetIterable iter X.env x = pure x
noncomputable def CSlotX (X : Act) (scope : Scope) (cl : List (Str × Addr)) (x : Str) (m : List S) (y : Str) (sv : S) : Prop :=
  (scope.names.lookup y = some .local ∧ sv = .undef) ∨ (y = x ∧ sv = .undef) ∨
      (y ≠ x ∧ ((compEnvC scope cl 0 X.env).kindOf y = some .cell ∨ (compEnvC scope cl 0 X.env).kindOf y = some .free) ∧ (X.env.kindOf y = some .cell ∨ X.env.kindOf y = some .free) ∧ cl.lookup y = X.env.cells.lookup y ∧ ∃ j : Nat, X.names[j]? = some y ∧ m[j]? = some sv)
structure CSpecC (B : Bs) (X : Act) (A : Around) (scope : Scope) (cl : List (Str × Addr)) (names : List Str) (x : Str) (k : Nat) (ifs : List Expr) (elt : Expr) (m : List S) (own : Own) (mC : List S) (ts : List T) (I : Nat → List T → Own → Prop) : Prop where
  size : ts.length ≤ sizeLine
  kl : k < mC.length
  slots : ∀ (i : Nat) y sv, names[i]? = some y → mC[i]? = some sv → CSlotX X scope cl x m y sv
  i0 : I 0 [] own
  turn : ∀ C h P j y o acc, ts[j]? = some y → I j acc o → acc.length ≤ j →
      CTurn B ((X.under h (compEnvC scope ((x, C + 1) :: cl) C X.env) names).at P) A (mC.set k (.t y)) o ifs elt fun z o' => I (j + 1) (acc ++ z.toList) o'
section
variable {B : Bs} {X : Act} {A : Around} {m : List S} {own : Own}
theorem comp_glueC {elt iter : Expr} {x : Str} {px pos : Pos} {ifs : List Expr} {scope : Scope} {cl : List (Str × Addr)} {names : List Str} {mC : List S} {k : Nat} {ts : List T} {I : Nat → List T → Own → Prop} {RR : Value → Addr → Result → Shared → Prop}
    (ok : CompOkC X scope cl names x k iter) (spec : CSpecC B X A scope cl names x k ifs elt m own mC ts I) {G : PM} {s : Shared} {v : Value} (S : St B X m own G s) (src : Src B X A own G s v ts)
    (fin : ∀ D C own' G' s' acc mc, St B X m ((D, .lst acc) :: own') G' s' → Le G G' → I ts.length acc own' → acc.length ≤ ts.length → Hid B X G' ((D, .lst acc) :: own') C → s'.heap.Ns C mc → RR (.ref D) C (.ok .next) s') :
    wpAny (model B.prog B.w) A (pyIter v) (fun it s₂ => wpAny (model B.prog B.w) A (newList []) (fun acc s₃ => wpAny (model B.prog B.w) A (newFunctionEnv scope X.env.globals cl [] X.env.qual none .none (some X.env)) (fun cenv s₄ =>
      codeAny (model B.prog B.w) A (.compStart (.ListComp elt [⟨.Name x px, iter, ifs, 0⟩] scope pos) 0 it acc { cenv with scope := relabel scope X.env }) (RR acc cenv.locals) s₄) NoE s₃) NoE s₂) NoE s := by
  refine src _ fun d fp P W h' tk wk st0 up hid alive hfp hP htk => ?_
  have S1 := S.hidden (h' := h') (tk := tk) up hid.1 hid.2.1 hid.2.2.1 hid.2.2.2.1 hid.2.2.2.2
  exact comp_coreC S1 wk st0 hid alive hfp hP spec.size ok.c1 ok.c2 ok.kind ok.hx ok.sub ok.nd ok.hi spec.kl spec.slots spec.i0 spec.turn fin
theorem JF_AssignCompOC {elt iter : Expr} {x y : Str} {px py pos spos : Pos} {ifs : List Expr} {scope : Scope} {cl : List (Str × Addr)} {names : List Str} {k i : Nat} {R : Fl → List S → Own → Prop} (ok : CompOkC X scope cl names x k iter)
    (hsw : swapsWith (.ListComp elt [⟨.Name x px, iter, ifs, 0⟩] scope pos) (some (.Name y py)) spos.line X.env = pure true) (hk : X.env.scope.kind = .function) (hi : X.names[i]? = some y) (hl : X.env.kindOf y = some .local)
    (h : JV B X A m own (eval iter X.env) fun xs m1 o1 => ∃ ts mC I, (∀ s G v, St B X m1 o1 G s → RepS G xs (some v) → Src B X A o1 G s v ts) ∧ CSpecC B X A scope cl names x k ifs elt m1 o1 mC ts I ∧ i < m1.length ∧
      (∀ D acc o2, I ts.length acc o2 → acc.length ≤ ts.length → R .next (m1.set i (.own D)) ((D, .lst acc) :: o2))) :
    JF B X A m own (exec (.Assign [.Name y py] (.ListComp elt [⟨.Name x px, iter, ifs, 0⟩] scope pos) spos) X.env) R := by
  intro s G hS _ Q hQ
  rw [exec_Assign_Name_used _ _ _ _ hsw]
  refine wpAny_bind (wpAny_standAt (wpAny_bind ?_))
  show wpAny _ A (do let _ ← comprehension (.ListComp elt [⟨.Name x px, iter, ifs, 0⟩] scope pos) scope X.env _ (newList []) false (eval iter X.env) (some (assign (.Name y py) X.env))) _ _ s
  refine wpAny_bind (wpAny_mono (wpAny_comprehension_free (use := some (assign (.Name y py) X.env)) (Q := fun _ s' => Q .next s') rfl ok.hs ok.clos ok.kind ok.locs (h s G hS trivial _ fun v xs m1 o1 G1 s1 S1 L1 r1 h1 => ?_))
    (fun _ s' hq => wpAny_pure (wpAny_pure hq)) fun _ _ e => e)
  refine aside fun Cg hCg => ?_
  obtain ⟨ts, mC, I, src, spec, hil, fin⟩ := h1
  refine hCg ?_
  refine wpAny_mono (comp_glueC (RR := fun acc C => compPost (model B.prog B.w) A NoE (some (assign (.Name y py) X.env)) (fun _ s' => Q .next s') acc C) ok spec S1 (src s1 G1 v S1 r1) fun D C own' G' s' acc mc S2 L2 hI hl' hC hn => ?_) (fun _ _ y => y) fun _ _ y => y.elim
  show wpAny _ A (assign (.Name y py) X.env (.ref D)) _ _ _
  refine aside fun Cg hCg => ?_
  obtain ⟨obC, es, ep, eC, rC⟩ := hn
  refine hCg ?_
  have S3 := S2.hide hC eC
  refine wpAny_assign_Name (store_any (X := X.at (AM.put X.P C obC)) S3 hk hi (.inl hl) hil rO fun s4 S4 => ?_)
  obtain ⟨S5, hC5, eC5⟩ := S4.unhide hC.2.1 (S2.g0none hC.1) hC.2.2.1 hC.2.2.2.1
  refine ⟨mc, ⟨obC, es, ep, eC5, rC⟩, fun h' hs' => ?_⟩
  exact hQ _ _ _ _ _ _ (S5.hidden (h' := h') (tk := s4.toks) (fun b o hb e => (hs'.2 b hb).trans e) hC5.1 hC5.2.1 hC5.2.2.1 hC5.2.2.2.1 hC5.2.2.2.2) (L1.trans L2) rNext (fin D acc own' hI hl')
end
end
noncomputable section
section
variable {B : Bs} {X : Act} {A : Around} {m : List S} {own : Own}
theorem JV_NegInt {x : Expr} {pos : Pos} {R : S → List S → Own → Prop} (h : JV B X A m own (eval x X.env) fun sv m1 o1 => ∃ i : Int, sv = .t (.int i) ∧ R (.t (.int (-i))) m1 o1) : JV B X A m own (eval (.UnaryOp .USub x pos) X.env) R := by
  intro s G hS _ Q hQ
  refine wpAny_UnaryOp (h s G hS trivial _ fun v sv m1 o1 G1 s1 S1 L1 r1 h1 => ?_)
  obtain ⟨i, rfl, hR⟩ := h1
  obtain ⟨t, rfl⟩ := uInt r1
  exact neg_int (hQ _ _ _ _ _ _ (S1.tok _ (Nat.le_succ _)) L1 (rT tInt) hR)
theorem JF_ExprI {e : Expr} {pos : Pos} {R : Fl → List S → Own → Prop} (hi : interactive X.env = false) (hs : swapsWith e none pos.line X.env = pure false)
    (h : JV B X A m own (eval e X.env) fun sv m1 o1 => (∃ i : Int, sv = .t (.int i)) ∧ R .next m1 o1) : JF B X A m own (exec (.Expr e pos) X.env) R := by
  intro s G hS _ Q hQ
  refine wpAny_Expr (h s G hS trivial _ fun v sv m1 o1 G1 s1 S1 L1 r1 h1 => ?_) hi hs
  obtain ⟨⟨i, rfl⟩, h1⟩ := h1
  obtain ⟨t, rfl⟩ := uInt r1
  exact hQ _ _ _ _ _ _ S1 L1 rNext h1
end
end
noncomputable section
noncomputable def ringK (n : Nat) (ws : List (List Nat)) (t : Nat) : Int := ((t : Int) * ((ws.countP fun w => times n w == t : Nat) : Int)).fdiv n
theorem CSlot.x {X : Act} {scope : Scope} {cl : List (Str × Addr)} {m : List S} {x y : Str} {sv : S} (h : CSlot X scope cl m y sv) (ne : y ≠ x) : CSlotX X scope cl x m y sv := h.imp id fun h => .inr ⟨ne, h⟩
noncomputable def turnedT (N n : Nat) (w : List Nat) (i : Nat) : T := if i + 1 = n then .ostr N w else .nstr N (rot (i + 1) w)
theorem turned_cmps {B : Bs} (hB : LB B) {n : Nat} {w : List Nat} (hw : w.length = n) {j : Nat} {e : T} (h : ((List.range n).map (turnedT B.N n w))[j]? = some e) : ∃ r, (rotEq n w)[j]? = some r ∧ Cmps B e (.ostr B.N w) r := by
  rw [List.getElem?_map] at h
  obtain ⟨i, hi, rfl⟩ := Option.map_eq_some_iff.mp h
  have hij := List.getElem?_eq_some_iff.mp hi
  obtain ⟨h1, h2⟩ := hij
  rw [List.length_range] at h1
  rw [List.getElem_range] at h2
  subst h2
  refine ⟨_, rotEq_get h1, ?_⟩
  unfold turnedT
  split
  · rename_i q
    rw [q, rot_whole hw, beq_self_eq_true]
    exact cmps_self hB
  · exact cmps_str hB
set_option maxHeartbeats 8000000 in
theorem rings_spec {B : Bs} (hB : LB B) (hN : 0 < B.N) {n : Nat} {ws : List (List Nat)} (hn : 2 ≤ n) (hn2 : n ≤ 6) (hws : ∀ w ∈ ws, w.length = n) (hlen : ws.length ≤ 10000) (hper : ∀ w ∈ ws, times n w * (firstT n w + 1) = n) :
    FunJ B (.ref 191) 2 [.lst (ws.map .tstr), .int n] (fun r => r = .lst ((figures n ws).map .int)) := by
  refine FunJ_of (n := 1) (ps := [Str.ofString "words", Str.ofString "many"]) (ls := [Str.ofString "like", Str.ofString "word", Str.ofString "turned", Str.ofString "times", Str.ofString "rings", Str.ofString "figures"]) hB.ok (by rw [hB.K]; exact rfl) (by rw [hB.K]; kernel_rfl!) rfl rfl rfl rfl rfl rfl rfl ?_ rfl ?_ ?_ ?_
  · exact len2 fun _ _ => rfl
  · decide +kernel
  · decide +kernel
  · intro A L env s₀ P G₀ hA hP E
    dsimp only at E
    have hsl : sizeLine = 2 ^ 24 := rfl
    walk_at "jn"
    refine JF_newN hN (fun N => [.t (.lst (ws.map (.ostr N))), .t (.int n), .undef, .undef, .undef, .undef, .undef, .undef]) (fun G i sv' hi => ?_) fun N hNN hN' => ?_
    · match i with
      | 0 => cases hi; exact ⟨_, rfl, fun o h => lst_mono (fun vs h => ostr_of h) h⟩
      | 1 => cases hi; exact ⟨_, rfl, fun o h => h⟩
      | 2 => cases hi; exact ⟨_, rfl, fun o h => h⟩
      | 3 => cases hi; exact ⟨_, rfl, fun o h => h⟩
      | 4 => cases hi; exact ⟨_, rfl, fun o h => h⟩
      | 5 => cases hi; exact ⟨_, rfl, fun o h => h⟩
      | 6 => cases hi; exact ⟨_, rfl, fun o h => h⟩
      | 7 => cases hi; exact ⟨_, rfl, fun o h => h⟩
      | _ + 8 => cases hi
    have hB' := hB.withN N
    have hBN : (B.withN N).N = N := rfl
    have hN1 : 0 < (B.withN N).N := hN'
    generalize B.withN N = B' at *
    subst hBN
    clear hNN hN'
    refine JF_cons ?_
    refine JF_AssignC (i := 2) (by walk_at "jfn") rfl (by walk_at "jkind") (fun c hc => hP c (cells_above E hc)) rfl fun _ hGo => ?_
    refine JV_BinOp ?_
    refine JV_List ?_
    walk_at "jgo"
    refine ⟨[.int 0], rfl, Nat.le_of_ble_eq_true rfl, fun D1 => ?_⟩
    walk_at "jgo"
    refine B_mull (List.mem_cons_self ..) (by simp) (by lia) (by lia) (by simp; lia) fun D => ?_
    walk_at "jn"
    have e0 : (List.replicate (((n : Int) + 1)).toNat [T.int 0]).flatten = (likeAt n []).map .int := by
      rw [likeAt_nil, show (((n : Int) + 1)).toNat = n + 1 by lia]; simp
    rw [e0]
    walk_at "jgo"
    refine JF_ForN (k := 3) (by walk_at "jfn") rfl (.inr ⟨by walk_at "jkind", fun c hc => hP c (cells_above E hc)⟩) (fun _ => rfl) ?_
    walk_at "jname"
    refine ⟨(ws.map (.ostr B'.N)), (fun j m o => ∃ y3 y4 y5 : S, m = [.t (.lst (ws.map (.ostr B'.N))), .t (.int n), .own D, y3, y4, y5, .undef, .undef] ∧ o = [(D, .lst ((likeAt n (ws.take j)).map .int)), (D1, .lst [.int 0])]), src_lst hA.1, ⟨_, _, _, rfl, rfl⟩, ?_, ?_⟩
    · rintro P' j y m o hj ⟨y3, y4, y5, rfl, rfl⟩
      rw [List.getElem?_map] at hj
      obtain ⟨w, hw, rfl⟩ := Option.map_eq_some_iff.mp hj
      have hwm := List.mem_of_getElem? hw
      have hwl := hws w hwm
      walk_at "jset"
      walk_at "jn"
      refine JF_cons ?_
      refine JF_freezeAt (i := 4) ?_
      with_reducible refine JF_AssignCompO (cl := [(Str.ofString "word", L + 1 + 1 + 1)]) (names := [Str.ofString "cut", Str.ofString "word"]) (k := 0) (i := 4) (compOk E ?a1 ?a2 ?a3 ?a4 ?a5 ?a6 ?a7 ?a8 ?a9) ?b1 ?b2 ?b3 ?b4 ?_
      case a1 => exact rfl
      case a2 => decide +kernel
      case a3 => exact rfl
      case a4 => decide +kernel
      case a5 => exact rfl
      case a6 => exact ⟨rfl, trivial⟩
      case a7 => decide +kernel
      case a8 => exact rfl
      case a9 => exact fun _ => rfl
      case b1 => rw [E.eq]; rfl
      case b2 => walk_at "jfn"
      case b3 => exact rfl
      case b4 => walk_at "jkind"
      walk_at "c_range"
      walk_at "jgo"
      refine C_range2 ?_
      refine ex3 (upT 1 (n + 1)) [.undef, .t (.ostr B'.N w)] (fun i acc o => o = [(D, .lst ((likeAt n (ws.take j)).map .int)), (D1, .lst [.int 0])] ∧ acc = (List.range i).map (turnedT B'.N n w)) ⟨src_rng hA.1 (by lia) (by lia) (by lia) (by lia), ⟨?_, by walk_at "jlen", ?_, ⟨rfl, rfl⟩, ?_⟩, by walk_at "jlen", ?_⟩
      · rw [upT_length]; lia
      · exact SlotsOk.get (P := CSlot _ _ _ _) ⟨slotU rfl, slotC E 3 rfl rfl rfl rfl rfl, trivial⟩
      · rintro C h P'' i y o acc hi ⟨rfl, rfl⟩ hacc
        obtain ⟨hlt, rfl⟩ := upT_inv hi
        refine cturn0 E fun E' => ?_
        dsimp only at E' ⊢
        have hr : (List.range (i + 1)).map (turnedT B'.N n w) = (List.range i).map (turnedT B'.N n w) ++ [turnedT B'.N n w i] := by rw [List.range_succ, List.map_append]; rfl
        rw [hr]
        walk_at "c_concat"
        refine JL_cons ?_ rfl
        refine JV_SliceFrom ?_
        walk_at "jnamew"
        case hw => exact wk_ostr
        walk_at "jname"
        refine ex2 w _ ⟨rfl, rfl, by lia, by lia, by lia, ?_⟩
        rw [show ((1 : Int) + (i : Int)).toNat = i + 1 by lia]
        refine JL_cons ?_ rfl
        by_cases hin : i + 1 = n
        · refine JV_SliceWhole ?_
          walk_at "jname"
          walk_at "jname"
          refine ex2 _ w ⟨rfl, by rw [hwl, show (1 : Int) + (i : Int) = (n : Int) by lia], by lia, ?_⟩
          walk_at "jgo"
          rw [List.drop_eq_nil_of_le (by lia)]
          refine C_funE (args := [.str [], .ostr B'.N w]) (concat_self hB') hA ?_
          refine ⟨rfl, _, rfl, rfl, ?_⟩
          rw [turnedT, if_pos hin]; rfl
        · refine JV_SliceTo ?_
          walk_at "jnamew"
          case hw => exact wk_ostr
          walk_at "jname"
          refine ex2 w _ ⟨rfl, rfl, by lia, by lia, by lia, ?_⟩
          rw [show ((1 : Int) + (i : Int)).toNat = i + 1 by lia]
          walk_at "jgo"
          refine C_funE (args := [.str (w.drop (i + 1)), .str (w.take (i + 1))]) (concat_strN hB' hN1 (fun q => by have := congrArg List.length q; rw [List.length_drop, List.length_nil] at this; lia) (fun q => by have := congrArg List.length q; rw [List.length_take, List.length_nil] at this; lia) (by simp; lia)) hA ?_
          refine ⟨rfl, _, rfl, rfl, ?_⟩
          rw [turnedT, if_neg hin]; rfl
      · rintro Dt acc o ⟨rfl, rfl⟩ hacc
        rw [upT_length, show ((n : Int) + 1 - 1).toNat = n by lia]
        walk_at "jn"
        refine ⟨rfl, Dt, _, _, rfl, rfl, ?_⟩
        walk_at "jn"
        walk_at "jgo"
        walk_at "c_countOf"
        walk_at "jgo"
        refine C_funE (args := [.lst ((List.range n).map (turnedT B'.N n w)), .ostr B'.N w]) (countOf_spec hB' (rs := rotEq n w) (by simp [rotEq_length]) (fun j e h => turned_cmps hB' hwl h)) hA ?_
        have htl := times_le n w
        have hfl := firstT_lt (by lia) hwl
        have hpw := hper w hwm
        change times n w ≤ n at htl
        walk_at "jgo"
        walk_at "c_indexOf"
        walk_at "jgo"
        refine C_funE (args := [.lst ((List.range n).map (turnedT B'.N n w)), .ostr B'.N w]) (indexOf_spec hB' (rs := rotEq n w) (firstT_at (by lia) hwl) (fun j hj => firstT_before hj) (by simp [rotEq_length]) (fun j e h => turned_cmps hB' hwl h)) hA ?_
        rw [show List.count true (rotEq n w) = times n w from rfl]
        walk_at "jgo"
        refine B_mul (IntMulOk.of_right (intBits_le_64 (by lia) (by lia))) ?_
        walk_at "jgo"
        rw [show ((times n w : Nat) : Int) * (((firstT n w : Nat) : Int) + 1) = (n : Int) by have := congrArg (Nat.cast (R := Int)) hpw; push_cast at this; exact this, if_neg (by simp)]
        walk_at "jgo"
        refine JF_AssignSub rfl ?_
        have hge : ((likeAt n (ws.take j)).map T.int)[((times n w : Nat) : Int).toNat]? = some (.int (((ws.take j).countP fun v => times n v == times n w : Nat) : Int)) := by
          rw [Int.toNat_natCast, List.getElem?_map, likeAt_get htl]; rfl
        walk_at "jgo"
        refine K_lst (.inr ⟨D, rfl, List.mem_cons_self ..⟩) (by lia) hge (by rw [List.length_map, likeAt_length]; lia) ?_
        walk_at "jgo"
        refine ex6 _ _ _ _ [] [(D1, .lst [.int 0])] ⟨rfl, rfl, rfl, rfl, by lia, by rw [List.length_map, likeAt_length]; lia, by rw [List.length_map, likeAt_length]; lia, ?_⟩
        walk_at "jn"
        refine JF_nil ?_
        walk_at "jn"
        refine ex3 _ _ _ ⟨rfl, ?_⟩
        rw [List.take_add_one, hw, Option.toList_some, likeAt_snoc, List.map_set, Int.toNat_natCast]
    · rintro m o ⟨y3, y4, y5, rfl, rfl⟩
      rw [List.length_map, List.take_length]
      refine JF_nil ?_
      walk_at "jn"
      refine JF_cons ?_
      refine JF_AssignC (i := 6) (by walk_at "jfn") rfl (by walk_at "jkind") (fun c hc => hP c (cells_above E hc)) (by rw [E.eq]; rfl) fun _ hGo => ?_
      with_reducible refine JV_Comp (cl := [(Str.ofString "many", L + 1), (Str.ofString "like", L + 1 + 1)]) (names := [Str.ofString "same", Str.ofString "like", Str.ofString "many"]) (k := 0) (compOk E ?a1 ?a2 ?a3 ?a4 ?a5 ?a6 ?a7 ?a8 ?a9) ?_
      case a1 => exact rfl
      case a2 => decide +kernel
      case a3 => exact rfl
      case a4 => decide +kernel
      case a5 => exact rfl
      case a6 => exact ⟨rfl, rfl, trivial⟩
      case a7 => decide +kernel
      case a8 => exact rfl
      case a9 => exact fun _ => rfl
      walk_at "c_range"
      walk_at "jgo"
      refine C_range1 ?_
      refine ⟨(upT 0 (n + 1)), [.undef, .own D, .t (.int n)], (fun i acc o => o = [(D, .lst ((likeAt n ws).map .int)), (D1, .lst [.int 0])] ∧ acc = ((List.range i).map (ringK n ws)).map .int), src_rng hA.1 (by lia) (by lia) (by lia) (by lia), ⟨?_, by walk_at "jlen", ?_, ⟨rfl, rfl⟩, ?_⟩, ?_⟩
      · rw [upT_length]; lia
      · exact SlotsOk.get (P := CSlot _ _ _ _) ⟨slotU rfl, slotC E 2 rfl rfl rfl rfl rfl, slotC E 1 rfl rfl rfl rfl rfl, trivial⟩
      · rintro C h P'' i y o acc hi ⟨rfl, rfl⟩ hacc
        obtain ⟨hlt, rfl⟩ := upT_inv hi
        refine cturn0 E fun E' => ?_
        dsimp only at E' ⊢
        have hcl := List.countP_le_length (p := fun v => times n v == i) (l := ws)
        have hmm : (i : Int) * ((ws.countP fun v => times n v == i : Nat) : Int) ≤ 6 * 10000 := Int.mul_le_mul (by lia) (by lia) (by lia) (by lia)
        have hmm0 : 0 ≤ (i : Int) * ((ws.countP fun v => times n v == i : Nat) : Int) := Int.mul_nonneg (by lia) (by lia)
        walk_at "jgo"
        refine K_lst (y := .int ((ws.countP fun v => times n v == i : Nat) : Int)) (.inr ⟨D, rfl, List.mem_cons_self ..⟩) (by lia) (by rw [Int.zero_add, Int.toNat_natCast, List.getElem?_map, likeAt_get (by lia)]; rfl) (by rw [List.length_map, likeAt_length]; lia) ?_
        refine B_mul (IntMulOk.of_right (intBits_le_64 (by lia) (by lia))) ?_
        walk_at "jgo"
        rw [Int.zero_add]
        refine B_floordiv (by lia) (PyProof.noPylong_small (by lia)) ?_
        refine ⟨rfl, _, rfl, rfl, ?_⟩
        rw [List.range_succ, List.map_append, List.map_append]; rfl
      · rintro acc o ⟨rfl, rfl⟩ hacc
        have hrl : ((List.range (upT 0 ((n : Int) + 1)).length).map (ringK n ws)) = ringsAt n ws := by rw [upT_length, show ((n : Int) + 1 - 0).toNat = n + 1 by lia]; rfl
        rw [hrl]
        have hrsl := ringsAt_length n ws
        generalize hrs : ringsAt n ws = rs at *
        walk_at "jn"
        walk_at "jgo"
        with_reducible refine JF_AssignCompOC (cl := [(Str.ofString "rings", L + 1 + 1 + 1 + 1), (Str.ofString "many", L + 1)]) (names := [Str.ofString "place", Str.ofString "many", Str.ofString "rings"]) (k := 0) (i := 7) ⟨?a1, ?a2, ?a3, ?a4, ?a5, ?a6, ?a7, ?a8, ?a9, ?a10⟩ ?b1 ?b2 ?b3 ?b4 ?_
        case a1 => rw [E.eq]; exact rfl
        case a2 => exact fun _ _ => rfl
        case a3 => exact fun _ => rfl
        case a4 => exact rfl
        case a5 => decide +kernel
        case a6 => exact (E.comp _ _ 0).kind rfl
        case a7 => rw [E.cells]; exact SubOk.sub ⟨rfl, rfl, trivial⟩
        case a8 => decide +kernel
        case a9 => exact rfl
        case a10 => exact fun _ => rfl
        case b1 => rw [E.eq]; rfl
        case b2 => walk_at "jfn"
        case b3 => exact rfl
        case b4 => walk_at "jkind"
        walk_at "c_range"
        walk_at "jgo"
        refine C_range1 ?_
        refine ex3 (upT 0 n) [.undef, .t (.int n), .t (.lst (rs.map .int))] (fun p acc o => o = [(D, .lst ((likeAt n ws).map .int)), (D1, .lst [.int 0])] ∧ acc = ((List.range p).map (figAt n rs)).map .int) ⟨src_rng hA.1 (by lia) (by lia) (by lia) (by lia), ⟨?_, by walk_at "jlen", ?_, ⟨rfl, rfl⟩, ?_⟩, by walk_at "jlen", ?_⟩
        · rw [upT_length]; lia
        · exact SlotsOk.get (P := CSlotX _ _ _ _ _) ⟨.inr (.inl ⟨rfl, rfl⟩), CSlot.x (slotC E 1 rfl rfl rfl rfl rfl) (by decide), CSlot.x (slotC E 6 rfl rfl rfl rfl rfl) (by decide), trivial⟩
        · rintro C h P'' p y o acc hp ⟨rfl, rfl⟩ hacc
          obtain ⟨hlt, rfl⟩ := upT_inv hp
          refine cturn0 E fun E' => ?_
          dsimp only at E' ⊢
          walk_at "c_sum"
          refine JL_cons ?_ rfl
          with_reducible refine JV_Comp (cl := [(Str.ofString "rings", L + 1 + 1 + 1 + 1), (Str.ofString "place", C + 1)]) (names := [Str.ofString "same", Str.ofString "place", Str.ofString "rings"]) (k := 0) (compOk E' ?a1 ?a2 ?a3 ?a4 ?a5 ?a6 ?a7 ?a8 ?a9) ?_
          case a1 => exact rfl
          case a2 => decide +kernel
          case a3 => exact rfl
          case a4 => decide +kernel
          case a5 => exact rfl
          case a6 => exact ⟨rfl, rfl, trivial⟩
          case a7 => decide +kernel
          case a8 => exact rfl
          case a9 => exact fun _ => rfl
          walk_at "c_range"
          walk_at "jgo"
          refine C_range2 ?_
          refine ⟨(upT 1 (n + 1)), [.undef, .t (.int (0 + p)), .t (.lst (rs.map .int))], (fun i acc o => o = [(D, .lst ((likeAt n ws).map .int)), (D1, .lst [.int 0])] ∧ acc = (((List.range i).filter fun i => p % (i + 1) == 0).map fun i => rs.getD (i + 1) 0).map .int), src_rng hA.1 (by lia) (by lia) (by lia) (by lia), ⟨?_, by walk_at "jlen", ?_, ⟨rfl, rfl⟩, ?_⟩, ?_⟩
          · rw [upT_length]; lia
          · exact SlotsOk.get (P := CSlot _ _ _ _) ⟨slotU rfl, slotC E' 0 rfl rfl rfl rfl rfl, slotC E' 2 rfl rfl rfl rfl rfl, trivial⟩
          · rintro C2 h2 P3 i y o acc hi ⟨rfl, rfl⟩ hacc
            obtain ⟨hlt', rfl⟩ := upT_inv hi
            refine cturn1 E' fun E'' => ?_
            dsimp only at E'' ⊢
            walk_at "jgo"
            refine B_mod (by lia) ?_
            walk_at "jgo"
            have hpm : ((0 : Int) + (p : Int)).fmod (1 + (i : Int)) = ((p % (i + 1) : Nat) : Int) := by
              rw [Int.zero_add, show (1 : Int) + (i : Int) = ((i + 1 : Nat) : Int) by lia, Int.fmod_eq_emod_of_nonneg _ (by lia)]; rfl
            rw [hpm]
            have hrr : ((List.range (i + 1)).filter fun i => p % (i + 1) == 0) = ((List.range i).filter fun i => p % (i + 1) == 0) ++ (if p % (i + 1) == 0 then [i] else []) := by
              rw [List.range_succ, List.filter_append]; simp [List.filter_cons]
            rw [hrr]
            refine ⟨rfl, ?_⟩
            split
            · rename_i hq
              have hq : p % (i + 1) = 0 := by rw [beq_iff_eq] at hq; lia
              walk_at "jgo"
              refine K_lst (y := .int (rs.getD (i + 1) 0)) (.inl rfl) (by lia) (by rw [show ((1 : Int) + (i : Int)).toNat = i + 1 by lia, List.getElem?_map, List.getD_eq_getElem?_getD, List.getElem?_eq_getElem (by lia)]; rfl) (by rw [List.length_map]; lia) ?_
              refine ⟨rfl, _, rfl, rfl, ?_⟩
              rw [hq]; simp
            · rename_i hq
              have hq : ¬ p % (i + 1) = 0 := fun q => hq (by rw [q]; rfl)
              refine ⟨rfl, ?_⟩
              have hq' : (p % (i + 1) == 0) = false := by rw [beq_eq_false_iff_ne]; exact hq
              rw [hq']; simp
          · rintro acc o ⟨rfl, rfl⟩ hacc
            rw [upT_length, show ((n : Int) + 1 - 1).toNat = n by lia]
            walk_at "jgo"
            refine C_sum hA.1 (.inl rfl) ?_
            refine ⟨rfl, _, rfl, rfl, ?_⟩
            rw [List.range_succ, List.map_append, List.map_append]; rfl
        · rintro F acc o ⟨rfl, rfl⟩ hacc
          have hfl : ((List.range (upT 0 (n : Int)).length).map (figAt n rs)) = figsAt n ws := by rw [upT_length, show ((n : Int) - 0).toNat = n by lia, figsAt, hrs]
          rw [hfl]
          have hfll : (figsAt n ws).length = n := by simp [figsAt]
          walk_at "jn"
          refine JF_cons ?_
          refine JF_While (fun k m o => ∃ l : List Int, l.length = k ∧ k ≤ n ∧ strip k l = figures n ws ∧ m = [.t (.lst (ws.map (.ostr B'.N))), .t (.int n), .own D, y3, y4, y5, .t (.lst (rs.map .int)), .own F] ∧ o = [(F, .lst (l.map .int)), (D, .lst ((likeAt n ws).map .int)), (D1, .lst [.int 0])]) n ⟨_, hfll, Nat.le_refl _, rfl, rfl, rfl⟩ ?_
          rintro k m o ⟨l, hl, hkn, hst, rfl, rfl⟩
          refine JB_Or ?_
          refine JB_and_cons ?_
          walk_at "jgo"
          walk_at "c_len"
          walk_at "jgo"
          refine C_len (.inr ⟨F, rfl, List.mem_cons_self ..⟩) (by rw [List.length_map]; lia) ?_
          walk_at "jgo"
          rw [List.length_map]
          split
          · rename_i h1
            have h1 : 1 < l.length := by simp at h1; lia
            refine JB_and_cons ?_
            obtain ⟨z, hz⟩ : ∃ z, l.getLast? = some z := ⟨l[l.length - 1], by rw [List.getLast?_eq_getElem?, List.getElem?_eq_getElem (by lia)]⟩
            walk_at "jgo"
            refine JV_NegInt ?_
            walk_at "jgo"
            refine ⟨1, rfl, ?_⟩
            refine K_last (y := .int z) (.inr ⟨F, rfl, List.mem_cons_self ..⟩) (by rw [List.getLast?_map, hz]; rfl) (by rw [List.length_map]; lia) ?_
            walk_at "jgo"
            split
            · rename_i h2
              have h2 : z = 0 := by simpa using h2
              subst h2
              refine JB_and_nil ?_
              rw [if_pos rfl]
              walk_at "jgo"
              refine JF_ExprI (E.quiet rfl) rfl ?_
              walk_at "m_pop"
              walk_at "jname"
              refine ⟨ty_own (List.mem_cons_self ..), ?_⟩
              walk_at "jgo"
              refine C_pop (pre := []) (post := [(D, .lst ((likeAt n ws).map .int)), (D1, .lst [.int 0])]) (y := .int 0) (by rw [List.getLast?_map, hz]; rfl) (by rw [List.length_map]; lia) ?_
              refine ⟨⟨0, rfl⟩, ?_⟩
              refine JF_nil ?_
              walk_at "jn"
              refine ⟨k - 1, by lia, l.dropLast, by rw [List.length_dropLast, hl], by lia, ?_, rfl, by rw [List.map_dropLast]⟩
              rw [← hst]
              obtain ⟨k', rfl⟩ : ∃ k', k = k' + 1 := ⟨k - 1, by lia⟩
              rw [strip, if_pos ⟨h1, hz⟩, Nat.add_sub_cancel]
            · rename_i h2
              have h2 : ¬ z = 0 := by simpa using h2
              rw [if_neg (by decide)]
              walk_at "jn"
              walk_at "jgo"
              refine ex2 _ _ ⟨rfl, ?_⟩
              have : strip k l = l := by
                match k with
                | 0 => rfl
                | k + 1 => rw [strip, if_neg (fun q => h2 (by have := q.2; rw [hz] at this; exact Option.some.inj this))]
              rw [← hst, this]
          · rename_i h1
            have h1 : ¬ 1 < l.length := fun q => h1 (by simp; lia)
            rw [if_neg (by decide)]
            walk_at "jn"
            walk_at "jgo"
            refine ex2 _ _ ⟨rfl, ?_⟩
            have : strip k l = l := by
              match k with
              | 0 => rfl
              | k + 1 => rw [strip, if_neg (fun q => h1 q.1)]
            rw [← hst, this]
end
noncomputable section
section
variable {B : Bs} (h : LB B)
include h
theorem ws_dict : hasDictIn B.K 83 = true := by rw [h.K]; kernel_rfl!
theorem ws_get : findIn B.K (.ref 83) "__getattribute__" = some (some (.builtin "object.__getattribute__")) := by rw [h.K]; kernel_rfl!
theorem ws_ga : findIn B.K (.ref 83) "__getattr__" = some none := by rw [h.K]; kernel_rfl!
theorem ws_set : findIn B.K (.ref 83) "__setattr__" = some (some (.builtin "object.__setattr__")) := by rw [h.K]; kernel_rfl!
theorem ws_plain : plainOver B.K 83 = true := by rw [h.K]; kernel_rfl!
theorem ws_makes : makesIn B.K 83 = true := by rw [h.K]; kernel_rfl!
theorem ws_raw : findIn B.K (.ref 83) (Str.ofString "raw") = some none := by rw [h.K]; kernel_rfl!
theorem ws_n : findIn B.K (.ref 83) (Str.ofString "n") = some none := by rw [h.K]; kernel_rfl!
theorem ws_nt : findIn B.K (.ref 83) (Str.ofString "nt") = some none := by rw [h.K]; kernel_rfl!
theorem ws_norm : findIn B.K (.ref 83) (Str.ofString "norm") = some none := by rw [h.K]; kernel_rfl!
theorem ws_simple : findIn B.K (.ref 83) (Str.ofString "is_simple") = some none := by rw [h.K]; kernel_rfl!
end
theorem instObj_at {h : Heap} {x dx : Addr} {od : Obj} (h1 : h.get? x = some (instObj 83 dx)) (h2 : h.get? dx = some od) : InstAt h x (instObj 83 dx) 83 (some od) := ⟨h1, rfl, rfl, h2⟩
noncomputable def handT : T → Bool
  | .con _ => false
  | _ => true
theorem handed_T {y : T} (hy : handT y = true) {G : PM} {v : Value} (hr : RepT G y v) : handedIn v = true := by
  cases y
  case con => cases hy
  case none => cases (show v = .none from hr); rfl
  case bool b => cases (show v = .bool b from hr); rfl
  case int => obtain ⟨_, rfl⟩ := hr; rfl
  case str => obtain ⟨_, rfl⟩ := hr; rfl
  case tup => obtain ⟨_, _, _, _, rfl, _⟩ := hr; rfl
  case lst => obtain ⟨_, _, _, _, rfl, _⟩ := hr; rfl
  case ws => obtain ⟨_, _, _, _, _, _, rfl, _⟩ := hr; rfl
  case rng => obtain ⟨_, _, _, _, rfl, _⟩ := hr; rfl
  case tint => obtain ⟨_, _, _, rfl⟩ := hr; rfl
  case nint => obtain ⟨_, _, _, rfl⟩ := hr; rfl
  case oint => obtain ⟨_, _, _, rfl⟩ := hr; rfl
  case tstr => obtain ⟨_, _, _, rfl⟩ := hr; rfl
  case nstr => obtain ⟨_, _, _, rfl⟩ := hr; rfl
  case ostr => obtain ⟨_, _, _, rfl⟩ := hr; rfl
  case fn => cases (show FnR _ _ _ _ _ _ _ _ from hr); rfl
noncomputable def fld (n : Str) : List (Str × T) → Option T
  | [] => none
  | (k, x) :: r => if k == n then some x else fld n r
theorem isStr_str (k n : Str) (t : Tok) : (Value.str k t).isStr n = (k == n) := rfl
theorem getL_fld {G : PM} {n : Str} {y : T} : ∀ {fs : List (Str × T)} {es : List DictEntry}, RepE G fs es → fld n fs = some y → ∃ v, getL n es = some (some v) ∧ RepT G y v
  | [], _, _, h => by cases h
  | (k, x) :: r, es, hr, h => by
    obtain ⟨a, t, v, es', rfl, r1, r2⟩ := hr
    rw [fld] at h
    cases hk : k == n with
    | true =>
      rw [hk, if_pos rfl] at h; cases h
      refine ⟨v, ?_, r1⟩
      unfold getL
      rw [List.find?_cons, isStr_str, hk]
    | false =>
      rw [hk, if_neg (by decide)] at h
      obtain ⟨u, e1, e2⟩ := getL_fld r2 h
      refine ⟨u, ?_, e2⟩
      unfold getL at e1 ⊢
      rw [List.find?_cons, isStr_str, hk]
      simp only [List.any_cons] at e1 ⊢
      exact e1
theorem WsEs.rep {k kt : Int} {sm : Bool} {v1 v4 : Value} {es : List DictEntry} (w : WsEs k kt sm v1 v4 es) {G : PM} {raw norm : T} (e3 : RepT G raw v1) (e4 : RepT G norm v4) :
    RepE G [(Str.ofString "raw", raw), (Str.ofString "n", .int k), (Str.ofString "nt", .int kt), (Str.ofString "norm", norm), (Str.ofString "is_simple", .bool sm)] es := by
  cases w
  exact ⟨_, _, _, _, rfl, e3, _, _, _, _, rfl, tInt, _, _, _, _, rfl, tInt, _, _, _, _, rfl, e4, _, _, _, _, rfl, tBool, rfl⟩
theorem WsEs.lookNone {k kt : Int} {sm : Bool} {v1 v4 : Value} {es : List DictEntry} (w : WsEs k kt sm v1 v4 es) {n : Str} {N : Nat}
    (hn : [Str.ofString "raw", Str.ofString "n", Str.ofString "nt", Str.ofString "norm", Str.ofString "is_simple"].all (fun k => !(k == n)) = true) : shadowIn (some (dictOf es N)) n = some false := by
  cases w
  simp only [List.all_cons, List.all_nil, Bool.and_true, Bool.and_eq_true, Bool.not_eq_true'] at hn
  obtain ⟨q1, q2, q3, q4, q5⟩ := hn
  show (lookIn n (dictOf _ N)).map _ = _
  rw [lookIn_dict]
  unfold getL
  simp only [List.find?_cons, isStr_str, q1, q2, q3, q4, q5, List.find?_nil]
  rfl
section
variable {B : Bs} {X : Act} {A : Around} {m : List S} {own : Own}
theorem kin_of (hB : B.Ok) {G : PM} {s : Shared} (S : St B X m own G s) : B.K.In s.heap := fun a o e => S.le a o (S.base a o (hB.kin a o e))
theorem JV_AttrOwn {o : Expr} {n : Str} {pos : Pos} {y : T} {R : S → List S → Own → Prop} (hB : LB B) (hbase : attributeBase o n X.env (eval o X.env) = eval o X.env) (ha : findIn B.K (.ref 83) n = some none) (hy : handT y = true)
    (h : JV B X A m own (eval o X.env) fun sv m1 o1 => ∃ x dx fs, sv = .own x ∧ (x, O.raw (instObj 83 dx)) ∈ o1 ∧ (dx, O.flds fs) ∈ o1 ∧ fld n fs = some y ∧ R (.t y) m1 o1) :
    JV B X A m own (eval (.Attribute o n pos) X.env) R := by
  intro s G hS _ Q hQ
  rw [arm_eval_Attribute, hbase]
  refine wpAny_bind (h s G hS trivial _ fun v sv m1 o1 G1 s1 S1 L1 r1 h1 => wpAny_bind (wpAny_standAt (wpAny_bind (wpAny_holding ?_))))
  refine aside fun Cg hCg => ?_
  obtain ⟨x, dx, fs, rfl, hx, hdx, hf, hR⟩ := h1
  obtain ⟨ob, e1, rfl, _⟩ := S1.ow _ (List.mem_append_left _ hx)
  obtain ⟨ob2, f1, ⟨es, N, rfl, f2⟩, _⟩ := S1.ow _ (List.mem_append_left _ hdx)
  obtain ⟨u, g1, g2⟩ := getL_fld f2 hf
  have hv : v = .ref x := Option.some.inj r1
  subst hv
  refine hCg ?_
  refine get_value (kin_of hB.ok S1) (instObj_at e1 f1) (ws_get hB) (findObj_own (ws_dict hB) ha rfl g1) (handed_T hy g2) ?_
  exact wpAny_bind (wpAny_letTemporaryGo (wpAny_pure (hQ _ _ _ _ _ _ (S1.tok _) L1 (rT g2) hR)))
theorem JV_AttrWs {o : Expr} {n : Str} {pos : Pos} {R : S → List S → Own → Prop} (hB : LB B) (hbase : attributeBase o n X.env (eval o X.env) = eval o X.env) (ha : findIn B.K (.ref 83) n = some none)
    (h : JV B X A m own (eval o X.env) fun sv m1 o1 => ∃ raw k kt norm sm y, sv = .t (.ws raw k kt norm sm) ∧ handT y = true ∧ fld n [(Str.ofString "raw", raw), (Str.ofString "n", .int k), (Str.ofString "nt", .int kt), (Str.ofString "norm", norm), (Str.ofString "is_simple", .bool sm)] = some y ∧ R (.t y) m1 o1) :
    JV B X A m own (eval (.Attribute o n pos) X.env) R := by
  intro s G hS _ Q hQ
  rw [arm_eval_Attribute, hbase]
  refine wpAny_bind (h s G hS trivial _ fun v sv m1 o1 G1 s1 S1 L1 r1 h1 => wpAny_bind (wpAny_standAt (wpAny_bind (wpAny_holding ?_))))
  refine aside fun Cg hCg => ?_
  obtain ⟨raw, k, kt, norm, sm, y, rfl, hy, hf, hR⟩ := h1
  refine hCg ?_
  have r1 := uT r1
  refine aside fun Cg hCg => ?_
  obtain ⟨x, dx, es, N, v1, v4, rfl, e1, e2, w, e3, e4⟩ := r1
  obtain ⟨u, g1, g2⟩ := getL_fld (w.rep e3 e4) hf
  refine hCg ?_
  refine get_value (kin_of hB.ok S1) (instObj_at (S1.le _ _ e1) (S1.le _ _ e2)) (ws_get hB) (findObj_own (ws_dict hB) ha rfl g1) (handed_T hy g2) ?_
  exact wpAny_bind (wpAny_letTemporaryGo (wpAny_pure (hQ _ _ _ _ _ _ (S1.tok _) L1 (rT g2) hR)))
theorem JV_AttrCls {o : Expr} {n : Str} {pos : Pos} {c : List Nat} {t : Tok} {R : S → List S → Own → Prop} (hB : LB B) (hbase : attributeBase o n X.env (eval o X.env) = eval o X.env)
    (hr : readsIn B.K 83 (.type "type") = true) (e : findCls B.K (.ref 83) (.type "type") n = some (.val (.str ⟨c.toArray⟩ t)))
    (h : JV B X A m own (eval o X.env) fun sv m1 o1 => sv = .t (.con (.ref 83)) ∧ R (.t (.str c)) m1 o1) :
    JV B X A m own (eval (.Attribute o n pos) X.env) R := by
  intro s G hS _ Q hQ
  rw [arm_eval_Attribute, hbase]
  refine wpAny_bind (h s G hS trivial _ fun v sv m1 o1 G1 s1 S1 L1 r1 h1 => wpAny_bind (wpAny_standAt (wpAny_bind (wpAny_holding ?_))))
  obtain ⟨rfl, hR⟩ := h1
  have hv : v = .ref 83 := by have := uT r1; exact this
  subst hv
  refine cls_value (kin_of hB.ok S1) hr e rfl ?_
  exact wpAny_bind (wpAny_letTemporaryGo (wpAny_pure (hQ _ _ _ _ _ _ (S1.tok _) L1 (rT tStr) hR)))
theorem JV_methodWs {o : Expr} {n : Str} {apos pos : Pos} {args : List Expr} {f : Addr} {R : S → List S → Own → Prop} (hB : LB B)
    (hbase : attributeBase o n X.env (eval o X.env) = eval o X.env)
    (hfew : methodCallForm (args.length + ([] : List Keyword).length) (backTo pos (starEach args X.env)) (backToKw pos (keywordEach [] X.env)) = true)
    (hline : (apos.endLine == pos.line) = true) (hplain : (backTo pos (starEach args X.env)).any (·.1) = false)
    (hf : findIn B.K (.ref 83) n = some (some (.ref f))) (ht : typeIn B.K (.ref f) = some (.type "function")) (hk : keepIn B.K (.ref f) = true)
    (hn : [Str.ofString "raw", Str.ofString "n", Str.ofString "nt", Str.ofString "norm", Str.ofString "is_simple"].all (fun k => !(k == n)) = true)
    (h : JV B X A m own (eval o X.env) fun sv m1 o1 => ∃ raw k kt norm sm, sv = .t (.ws raw k kt norm sm) ∧
      JL B X A m1 o1 (spliced (backTo pos (starEach args X.env))) fun as m2 o2 => JCall B X A (.ref f) (.t (.ws raw k kt norm sm) :: as) m2 o2 R) :
    JV B X A m own (eval (.Call (.Attribute o n apos) args [] pos) X.env) R := by
  intro s G hS _ Q hQ
  rw [arm_eval_Call, hbase]
  refine wpAny_bind (h s G hS trivial _ fun v sv m1 o1 G1 s1 S1 L1 r1 h1 => wpAny_bind (wpAny_standAt ?_))
  obtain ⟨raw, k, kt, norm, sm, rfl, h1⟩ := h1
  have hpos : methodCallPos true o X.env apos pos = pure pos := by unfold methodCallPos; simp [hline]
  unfold methodCall
  rw [hfew]
  have r1' := uT r1
  have r1 := uT r1
  refine aside fun Cg hCg => ?_
  obtain ⟨x, dx, es, N, v1, v4, rfl, e1, e2, w, e3, e4⟩ := r1
  refine hCg ?_
  refine wpAny_bind (wpAny_holding ?_)
  refine method_fn (kin_of hB.ok S1) (instObj_at (S1.le _ _ e1) (S1.le _ _ e2)) (ws_get hB) (ws_ga hB) hf ht ?_ ?_
  · exact w.lookNone hn
  · refine wpAny_bind (wpAny_of_eq hpos ?_)
    refine callWith_of (P := fun h => B.K.In h) (by rw [hplain]; rfl) (keeps_K hk) (evalArgs_any hplain ?_)
    refine h1 s1 G1 S1 trivial _ fun vs as m2 o2 G2 s2 S2 L2 r2 h2 => ⟨kin_of hB.ok S2, ?_⟩
    exact h2 (.ref x :: vs) s2 G2 S2 (.cons (rT (r1'.mono L2)) r2) Q fun y z m3 o3 G3 s3 S3 L3 r3 h3 => hQ y z m3 o3 G3 s3 S3 (L1.trans (L2.trans L3)) r3 h3
theorem JV_AttrWsN {x n : Str} {px pos : Pos} {raw : T} {k kt : Int} {norm : T} {sm : Bool} {y : T} {i : Nat} {R : S → List S → Own → Prop} (hB : LB B) (hk : X.env.scope.kind = .function) (hi : X.names[i]? = some x) (hm : m[i]? = some (.t (.ws raw k kt norm sm)))
    (hd : (x == ("__debug__" : Str)) = false) (hn : (x == ("__classdict__" : Str)) = false)
    (hbase : attributeBase (.Name x px) n X.env (eval (.Name x px) X.env) = eval (.Name x px) X.env) (ha : findIn B.K (.ref 83) n = some none) (hh : handT y = true)
    (hf : fld n [(Str.ofString "raw", raw), (Str.ofString "n", .int k), (Str.ofString "nt", .int kt), (Str.ofString "norm", norm), (Str.ofString "is_simple", .bool sm)] = some y) (h : R (.t y) m own) :
    JV B X A m own (eval (.Attribute (.Name x px) n pos) X.env) R := JV_AttrWs hB hbase ha (JV_nameT hk hi hm ⟨_, _, _, _, _, y, rfl, hh, hf, h⟩ hd hn)
theorem JV_methodWsN {x n : Str} {px apos pos : Pos} {args : List Expr} {f : Addr} {raw : T} {k kt : Int} {norm : T} {sm : Bool} {i : Nat} {R : S → List S → Own → Prop} (hB : LB B) (hx : X.env.scope.kind = .function) (hi : X.names[i]? = some x) (hm : m[i]? = some (.t (.ws raw k kt norm sm)))
    (hd : (x == ("__debug__" : Str)) = false) (hn' : (x == ("__classdict__" : Str)) = false)
    (hbase : attributeBase (.Name x px) n X.env (eval (.Name x px) X.env) = eval (.Name x px) X.env)
    (hfew : methodCallForm (args.length + ([] : List Keyword).length) (backTo pos (starEach args X.env)) (backToKw pos (keywordEach [] X.env)) = true)
    (hline : (apos.endLine == pos.line) = true) (hplain : (backTo pos (starEach args X.env)).any (·.1) = false)
    (hf : findIn B.K (.ref 83) n = some (some (.ref f))) (ht : typeIn B.K (.ref f) = some (.type "function")) (hk : keepIn B.K (.ref f) = true)
    (hn : [Str.ofString "raw", Str.ofString "n", Str.ofString "nt", Str.ofString "norm", Str.ofString "is_simple"].all (fun k => !(k == n)) = true)
    (h : JL B X A m own (spliced (backTo pos (starEach args X.env))) fun as m2 o2 => JCall B X A (.ref f) (.t (.ws raw k kt norm sm) :: as) m2 o2 R) :
    JV B X A m own (eval (.Call (.Attribute (.Name x px) n apos) args [] pos) X.env) R := JV_methodWs hB hbase hfew hline hplain hf ht hk hn (JV_nameT hx hi hm ⟨_, _, _, _, _, rfl, h⟩ hd hn')
end
end
noncomputable section
section
variable {B : Bs} {X : Act} {A : Around} {m : List S} {own : Own}
theorem St.sub {own' : Own} {G : PM} {s : Shared} (h : own'.Sublist own) (S : St B X m own G s) : St B X m own' G s :=
  { S with
    ow := fun p hp => S.ow p ((h.append_right B.pl).subset hp)
    nodup := ((h.append_right B.pl).map _).nodup S.nodup }
theorem J.drop {α β : Type} {rep : PM → β → α → Prop} {pre : PM → Prop} {t : Sem α} {R : β → List S → Own → Prop} {own' : Own} (h : own'.Sublist own) (hj : J rep pre B X A m own' t R) : J rep pre B X A m own t R :=
  fun s G hS hp Q hQ => hj s G (hS.sub h) hp Q hQ
theorem St₀.freezeAny {a : Addr} {x : O} {pre post : Own} {G : PM} {s : Shared} (S : St₀ B X m (pre ++ (a, x) :: post) G s) :
    ∃ ob, s.heap.get? a = some ob ∧ RepO G x ob ∧ G.ob a = none ∧ St₀ B X m (pre ++ post) (PM.put G a ob) s ∧ Le G (PM.put G a ob) := by
  refine aside fun Cg hCg => ?_
  obtain ⟨ob, a1, a2, a3, a4, a5, a6⟩ := S.ow (a, x) (by simp)
  refine hCg ?_
  have nd := S.nodup
  rw [List.map_append, List.map_cons, List.nodup_append, List.nodup_cons] at nd
  obtain ⟨n1, ⟨n2, n3⟩, n4⟩ := nd
  have rest : ∀ p ∈ pre ++ post, p.1 ≠ a := fun p hp q => by
    rcases List.mem_append.mp hp with hp | hp
    · exact n4 p.1 (List.mem_map_of_mem hp) a List.mem_cons_self q
    · exact n2 (List.mem_map.mpr ⟨p, hp, q⟩)
  have hle := put_le (o := ob) a3
  have ne : ∀ b, b ≠ a → (PM.put G a ob).ob b = G.ob b := fun b q => if_neg (c := b = a) q
  have S0 := St₀.mk (B := B) (X := X) (m := m) (own := pre ++ post) (G := PM.put G a ob) (s := s) S.same S.hi S.lo
    (fun b o e => by
      by_cases q : b = a
      · rw [q, put_self] at e; cases e; rw [q]; exact a1
      · rw [ne b q] at e; exact S.le b o e)
    (fun b o e => hle.up b o (S.base b o e)) (S.g0.trans hle) S.prot
    (fun b o e e' => by rw [ne b (fun q => by rw [q, a4] at e; cases e)]; exact S.apart b o e e')
    S.ns (by rw [ne _ a5.symm]; exact S.GL) S.PL
    (fun y c e => let ⟨h, p⟩ := S.cells y c e; ⟨h, fun q => by rw [ne c (a6 y c e).symm]; exact p q⟩)
    (fun j y sv e1 e2 => let ⟨o, v, r⟩ := S.vars j y sv e1 e2; ⟨o, v, r.mono hle⟩)
    (fun p hp => by
      obtain ⟨ob', c1, c2, c3, c4⟩ := S.ow p (by rcases List.mem_append.mp hp with h | h <;> simp [h])
      exact ⟨ob', c1, c2.mono hle, by rw [ne _ (rest p hp)]; exact c3, c4⟩)
    (by rw [List.map_append, List.nodup_append]; exact ⟨n1, n3, fun x hx y hy => n4 x hx y (List.mem_cons_of_mem _ hy)⟩) S.names S.cinj
  exact ⟨ob, a1, a2, a3, S0, hle⟩
theorem St.freezeAny {a : Addr} {x : O} {pre post : Own} {G : PM} {s : Shared} (S : St B X m (pre ++ (a, x) :: post) G s) :
    ∃ ob, s.heap.get? a = some ob ∧ RepO G x ob ∧ G.ob a = none ∧ St B X m (pre ++ post) (PM.put G a ob) s ∧ Le G (PM.put G a ob) := by
  have S' : St₀ B X m (pre ++ (a, x) :: (post ++ B.pl)) G s := by
    have := S
    unfold St at this
    rwa [List.append_assoc, List.cons_append] at this
  obtain ⟨ob, h1, h2, h3, h4, h5⟩ := S'.freezeAny
  refine ⟨ob, h1, h2, h3, ?_, h5⟩
  show St₀ B X m ((pre ++ post) ++ B.pl) _ s
  rw [List.append_assoc]
  exact h4
theorem RepSs.get {G : PM} {as : List S} {vs : List Value} (h : RepSs G as vs) : ∀ {i : Nat} {a : S}, as[i]? = some a → ∃ v, vs[i]? = some v ∧ RepS G a (some v) := by
  induction h with
  | nil => intro i a e; cases e
  | cons h _ ih =>
    intro i a e
    cases i with
    | zero => cases e; exact ⟨_, rfl, h⟩
    | succ i => exact ih e
theorem code_defO {f : Addr} {fd : FuncData} {oc : Value} {od : Option Addr} {osl : Array (Option Value)} {body : List Stmt} {ps ls : List Str} {args : List S} {n : Nat} {R : S → List S → Own → Prop}
    (hB : B.Ok) (hA : Room (n + 1) A) (hK : B.K.lookup f = some ⟨oc, od, .func fd, osl⟩) (hcd : codeIn B.K fd.code fd.qualname = true) (hbody : fd.body = .stmts body) (hclo : fd.closure = [])
    (hco : fd.scope.isCoroutine = false) (hgen : fd.scope.isGenerator = false) (hk : fd.scope.kind = .function) (hgl : fd.globals = mainGlobals) (hbu : fd.builtins = builtinsNs)
    (hcell : ∀ x ∈ fd.scope.names, x.2 ≠ .cell) (hbind : ∀ vs : List Value, vs.length = ps.length → bindArgs fd ⟨vs, []⟩ = pure (ps.zip vs)) (hlen : args.length = ps.length) (hnd : (ps ++ ls).Nodup)
    (hloc : ∀ x ∈ ps ++ ls, fd.scope.names.lookup x = some .local)
    (h : ∀ env s₀ P G₀, EnvIs env fd.scope [] → Room n (A.deeper env) → JF B ⟨env, ps ++ ls, s₀, P, G₀⟩ (A.deeper env) (args ++ ls.map fun _ => .undef) own (execs body env) fun f m1 o1 => ∃ sv, R sv m o1 ∧ (f = .ret sv ∨ f = .next ∧ sv = .t .none)) :
    ∀ (s : Shared) (G : PM) (vs : List Value), St B X m own G s → RepSs G args vs → ∀ RR : Result → Shared → Prop, (∀ v b m' own' G' s', St B X m' own' G' s' → Le G G' → RepS G' b (some v) → R b m' own' → RR (.ok (.ret v)) s') →
      codeAny (model B.prog B.w) A (.call (.ref f) ⟨vs, []⟩) RR s := by
  intro s G vs hS hr RR hQ
  have hvl : vs.length = ps.length := by rw [reps_len hr, hlen]
  have nd := List.nodup_append.mp hnd
  have kin := kin_of hB hS
  refine codeAny_call_function (by have := hA.2.1; lia) (kin _ _ hK) rfl hco hgen hbody (codeRec_of kin hcd) ?_
  rw [hbind vs hvl, hclo]
  refine wpAny_pure (tok_in (wpAny_newFunctionEnv hcell (fun x hx => hloc _ (List.mem_append_left _ (List.of_mem_zip (show (x.1, x.2) ∈ ps.zip vs from hx)).1)) (fun h₁ hns hsb htm => ?_) hk))
  generalize hCn : s.heap.objs.size = C at *
  have hCs : s.heap.get? C = none := hCn ▸ get_size s.heap
  have HC := hS.hid hCs
  have ups : ∀ b o, s.heap.get? b = some o → h₁.get? b = some o := fun b o e => hsb.extBut b o (fun q => by rw [q, hCs] at e; cases e) (Heap.get?_push_of_some _ e)
  refine ⟨hB.nolimit.keeps fun b o e => ups b o (hS.le b o (hS.base b o e)), codeAny_func ?_⟩
  have S1 : St B X m own G { s with heap := h₁, toks := s.toks + (ps.zip vs).length } := hS.grow ups (Le.refl G) (fun b o e => ups b o (hS.le b o e)) (fun _ _ _ e => e) (Nat.le_trans hS.hi (Nat.le_add_right ..))
  generalize hs1 : ({ s with heap := h₁, toks := s.toks + (ps.zip vs).length } : Shared) = s1 at S1 ⊢
  have hh1 : s1.heap = h₁ := by rw [← hs1]
  generalize henv : newEnv fd.scope C fd.globals ([] : List (Str × Addr)) (fd.qualname ++ ".<locals>.") (some f) fd.code none fd.builtins = env
  have E : EnvIs env fd.scope [] := by rw [← henv]; exact ⟨rfl, hgl, hbu, rfl⟩
  have hlc : env.locals = C := by rw [← henv]; rfl
  have S2 : St B (X.under s1.heap env (ps ++ ls)) (args ++ ls.map fun _ => Mine.S.undef) own G s1 := by
    refine S1.underV (mc := fun x => (ps.zip vs).reverse.lookup x) (by rw [hlc]; exact HC) (by rw [hlc, hh1]; exact hns) (by rw [E.cells]; intro x c e; simp at e) hnd fun i x sv a1 a2 => ?_
    have hx : x ∈ ps ++ ls := List.mem_of_getElem? a1
    refine .inl ⟨E.kind (hloc x hx), ?_⟩
    by_cases hip : i < ps.length
    · have a1' : ps[i]? = some x := by rw [← a1]; exact (List.getElem?_append_left hip).symm
      rw [List.getElem?_append_left (by lia)] at a2
      obtain ⟨v, hv, hr'⟩ := hr.get a2
      rw [zip_rev_in nd.1 a1' hv]; exact hr'
    · have hip' : ps.length ≤ i := Nat.not_lt.mp hip
      rw [List.getElem?_append_right (by lia), List.getElem?_map] at a2
      obtain ⟨_, _, rfl⟩ := Option.map_eq_some_iff.mp a2
      rw [List.getElem?_append_right hip'] at a1
      have hxl : x ∈ ls := List.mem_of_getElem? a1
      rw [zip_rev_out fun q => nd.2.2 x q x hxl rfl]; rfl
  refine wpAny_mono (h env X.s₀ _ X.G₀ E hA.deeper s1 G S2 trivial _ fun fl fa m' o' G' s' S' L' r' h' => ?_) (fun _ _ y => y) fun _ _ y => y.elim
  obtain ⟨sv, hR, hfl⟩ := h'
  have S3 := S1.over S' L'
  rcases hfl with rfl | ⟨rfl, rfl⟩
  · obtain ⟨v, rfl, rv⟩ := r'
    exact hQ _ _ _ _ _ _ S3 L' rv hR
  · rw [show fl = .next from r']
    exact hQ _ _ _ _ _ _ S3 L' (rT tNone) hR
end
end
noncomputable section
theorem RepE.snoc {G : PM} {n : Str} {y : T} {h : Int} {t : Tok} {v : Value} (hr : RepT G y v) : ∀ {fs : List (Str × T)} {es : List DictEntry}, RepE G fs es → RepE G (fs ++ [(n, y)]) (es ++ [⟨h, .str n t, v⟩])
  | [], _, e => by cases e; exact ⟨h, t, v, [], rfl, hr, rfl⟩
  | (_, _) :: _, _, e => by
    obtain ⟨a, k, u, es', e1, e2, e3⟩ := e
    subst e1; exact ⟨a, k, u, _, rfl, e2, e3.snoc hr⟩
theorem RepE.length {G : PM} : ∀ {fs : List (Str × T)} {es : List DictEntry}, RepE G fs es → es.length = fs.length
  | [], _, e => by cases e; rfl
  | (_, _) :: _, _, e => by
    obtain ⟨_, _, _, es', e1, _, e3⟩ := e
    subst e1; simp [e3.length]
theorem RepE.noRef {G : PM} : ∀ {fs : List (Str × T)} {es : List DictEntry}, RepE G fs es → es.any (·.refKey) = false
  | [], _, e => by cases e; rfl
  | (_, _) :: _, _, e => by
    obtain ⟨_, _, _, es', e1, _, e3⟩ := e
    subst e1
    rw [List.any_cons, e3.noRef]; rfl
theorem RepE.put {G : PM} {n : Str} {hsh : Int} {key v : Value} : ∀ {fs : List (Str × T)} {es : List DictEntry}, RepE G fs es → fld n fs = none → putL n hsh key v es = es ++ [⟨hsh, key, v⟩] ∧ putN n es k = k + 1
  | [], _, e, _ => by cases e; exact ⟨rfl, rfl⟩
  | (q, x) :: r, _, e, h => by
    obtain ⟨a, t, u, es', e1, _, e3⟩ := e
    subst e1
    rw [fld] at h
    cases hk : q == n with
    | true => rw [hk, if_pos rfl] at h; cases h
    | false =>
      rw [hk, if_neg (by decide)] at h
      obtain ⟨h1, h2⟩ := RepE.put (hsh := hsh) (key := key) (v := v) (k := k) e3 h
      constructor
      · rw [putL, isStr_str, hk, if_neg (by decide), h1]; rfl
      · unfold putN at h2 ⊢
        rw [List.any_cons, isStr_str, hk, Bool.false_or]
        exact h2
theorem Room.under {n : Nat} {A : Around} {c : Code} (h : Room (n + 1) A) (h1 : c.weight ≤ 1) (h2 : c.cUnits ≤ 8) : Room n (A.under c) := by
  obtain ⟨a, b, d⟩ := h
  refine ⟨a, ?_, ?_⟩
  · show A.depth + c.weight + n < _; lia
  · show A.units + c.cUnits + 8 * n < _; lia
theorem ws_rep {G : PM} {x dx : Addr} {raw norm : T} {k kt : Int} {sm : Bool} {es : List DictEntry} {N : Nat} (hx : G.ob x = some (instObj 83 dx)) (hd : G.ob dx = some (dictOf es N))
    (h : RepE G [(Str.ofString "raw", raw), (Str.ofString "n", .int k), (Str.ofString "nt", .int kt), (Str.ofString "norm", norm), (Str.ofString "is_simple", .bool sm)] es) : RepT G (.ws raw k kt norm sm) (.ref x) := by
  obtain ⟨h1, k1, v1, es1, rfl, r1, h2, k2, v2, es2, rfl, r2, h3, k3, v3, es3, rfl, r3, h4, k4, v4, es4, rfl, r4, h5, k5, v5, es5, rfl, r5, rfl⟩ := h
  obtain ⟨t2, rfl⟩ := r2
  obtain ⟨t3, rfl⟩ := r3
  subst r5
  exact ⟨_, _, _, N, v1, v4, rfl, hx, hd, .mk .., r1, r4⟩
section
variable {B : Bs} {X : Act} {A : Around} {m : List S} {own : Own}
theorem JF_SetAttr {o value : Expr} {n : Str} {p' pos : Pos} {R : Fl → List S → Own → Prop} (hB : LB B) (hs : swapsWith value (some (.Attribute o n p')) pos.line X.env = pure false) (ht : takerIn B.K 83 n = some none)
    (h : JV B X A m own (eval value X.env) fun z m1 o1 => JV B X A m1 o1 (eval o X.env) fun ov m2 o2 => ∃ y x dx fs pre post, z = .t y ∧ ov = .own x ∧ (x, O.raw (instObj 83 dx)) ∈ o2 ∧ o2 = pre ++ (dx, .flds fs) :: post ∧ fs.length ≤ 10 ∧ fld n fs = none ∧
      R .next m2 (pre ++ (dx, .flds (fs ++ [(n, y)])) :: post)) :
    JF B X A m own (exec (.Assign [.Attribute o n p'] value pos) X.env) R := by
  intro s G hS _ Q hQ
  refine plainObj_wpAny_Assign_Attribute (h s G hS trivial _ fun v z m1 o1 G1 s1 S1 L1 r1 h1 => h1 s1 G1 S1 trivial _ fun w ov m2 o2 G2 s2 S2 L2 r2 h2 => ?_) hs
  refine aside fun Cg hCg => ?_
  obtain ⟨y, x, dx, fs, pre, post, rfl, rfl, hx, rfl, hfl, hfn, hR⟩ := h2
  have hw : w = .ref x := Option.some.inj r2
  subst hw
  have r1 := (uT r1).mono L2
  obtain ⟨ob, e1, rfl, _⟩ := S2.ow _ (List.mem_append_left _ hx)
  obtain ⟨ob2, D, ⟨es, N, rfl, f2⟩, _⟩ := S2.ow (dx, .flds fs) (by simp)
  have X2 := kin_of hB.ok S2
  have I := instObj_at e1 D
  obtain ⟨hp, g, dr, tk, os⟩ := s2
  refine hCg ?_
  replace X2 : B.K.In hp := X2
  replace e1 : hp.get? x = some (instObj 83 dx) := e1
  replace D : hp.get? dx = some (dictOf es N) := D
  replace I : InstAt hp x (instObj 83 dx) 83 (some (dictOf es N)) := I
  refine set_plain X2 I (ws_set hB) (osa_open (s := ⟨hp, g, dr, tk + 1, os⟩) X2 I (ws_plain hB) ht fun b => ?_)
  obtain ⟨cd, hc, hd'⟩ := any_some (ws_dict hB)
  dsimp only
  refine wpAny_bind (wpAny_pure (wpAny_bind (wpAny_bind (wpAny_loadPart e1 (wpAny_bind ((looks_clsIn X2 hc).here ?_))))))
  rw [hd']
  refine wpAny_pure (a := some dx) (wpAny_bind (wpAny_pure (wpAny_bind ?_)))
  unfold nsSet
  refine wpAny_bind (wpAny_bind (wpAny_askSetting (wpAny_pure (wpAny_bind (wpAny_mkText (wpAny_bind (wpAny_loadPart D ?_)))))))
  dsimp only
  have hnr : (!(es.toArray.any (·.key.isStr n)) && es.toArray.any (·.refKey)) = false := by
    rw [← Array.any_toList, ← Array.any_toList, f2.noRef, Bool.and_false]
  rw [aRefKeyMayBeTheName_at, hnr]
  refine wpAny_updatePart D ?_
  obtain ⟨q1, q2⟩ := f2.put (hsh := PyData.keyHash B.w.params n) (key := .str n (tk + 1)) (v := v) (k := N) hfn
  have hod : Obj.putName n (PyData.keyHash B.w.params n) (.str n (tk + 1)) v (dictOf es N) = dictOf (es ++ [⟨PyData.keyHash B.w.params n, .str n (tk + 1), v⟩]) (N + 1) := by rw [putName_dict, q1, q2]
  have D' : (hp.update dx (Obj.putName n (PyData.keyHash B.w.params n) (.str n (tk + 1)) v)).get? dx = some (dictOf (es ++ [⟨PyData.keyHash B.w.params n, .str n (tk + 1), v⟩]) (N + 1)) := by
    rw [← hod]; exact Heap.get?_update_self _ D (by rw [hod]; rfl)
  refine wpAny_bind (wpAny_lookBehind D' (pastItsLine_dict (by rw [List.size_toArray, sizeLine_eq, List.length_append, f2.length]; simp; lia)) ?_)
  refine wpAny_pure ?_
  refine hQ _ _ _ _ _ _ (S2.turn (x' := .flds (fs ++ [(n, y)])) (h' := hp.update dx (Obj.putName n (PyData.keyHash B.w.params n) (.str n (tk + 1)) v)) (tk := tk + 1 + 1) (Heap.SameBut.update ..) D' ⟨_, _, rfl, f2.snoc r1⟩ (by show tk ≤ tk + 1 + 1; lia)) (L1.trans L2) rNext hR
theorem C_make {a : S} {n : Nat} {R : S → List S → Own → Prop} (hB : LB B) (hA : Room (n + 1) A) (hi : findIn B.K (.ref 83) "__init__" = some (some (.ref 38))) (hf : typeIn B.K (.ref 38) = some (.type "function"))
    (h : ∀ (A : Around) (x dx : Addr), Room n A → ∀ (s : Shared) (G : PM) (vs : List Value), St B X m ((x, .raw (instObj 83 dx)) :: (dx, .flds []) :: own) G s → RepSs G [.own x, a] vs → ∀ RR : Result → Shared → Prop,
      (∀ v m' own' G' s' raw k kt norm sm, v = .none → St B X m' ((x, .raw (instObj 83 dx)) :: (dx, .flds [(Str.ofString "raw", raw), (Str.ofString "n", .int k), (Str.ofString "nt", .int kt), (Str.ofString "norm", norm), (Str.ofString "is_simple", .bool sm)]) :: own') G' s' → Le G G' → R (.t (.ws raw k kt norm sm)) m' own' → RR (.ok (.ret v)) s') →
      codeAny (model B.prog B.w) A (.call (.ref 38) ⟨vs, []⟩) RR s) :
    JCall B X A (.ref 83) [a] m own R := by
  intro vs s G hS hrs Q hQ
  obtain ⟨v, rfl, hr⟩ := reps1 hrs
  have X2 := kin_of hB.ok hS
  obtain ⟨hp, g, d, tk, os⟩ := s
  refine wpAny_call (make_core (makes_of X2 (ws_makes hB)) (looks_findIn X2 hi) (fun self => bind_fn X2 self hf) (.inl rfl) ?_)
  have S1 := hS.pushO (o := emptyDict) (x := .flds []) (tk := tk) rfl ⟨[], 0, rfl, rfl⟩
  have S2 := S1.pushO (o := instObj 83 hp.objs.size) (x := .raw (instObj 83 hp.objs.size)) (tk := tk) rfl rfl
  rw [show (hp.push emptyDict).objs.size = hp.objs.size + 1 from Heap.size_push ..] at S2
  refine h _ (hp.objs.size + 1) hp.objs.size (hA.under (Nat.le_of_ble_eq_true rfl) (Nat.le_of_ble_eq_true rfl)) _ G _ S2 (.cons rO (.cons hr .nil)) _ fun v' m' own' G' s' raw k kt norm sm hv' S3 L3 hR => ?_
  subst hv'
  refine ⟨rfl, ?_⟩
  refine aside fun Cg hCg => ?_
  obtain ⟨ob, f1, f2, f3, S4, L4⟩ := St.freezeAny (pre := []) S3
  obtain ⟨ob2, g1, g2, g3, S5, L5⟩ := St.freezeAny (pre := []) S4
  refine hCg ?_
  rw [show ob = instObj 83 hp.objs.size from f2] at *
  obtain ⟨es, N, rfl, hes⟩ := g2
  exact hQ _ _ _ _ _ _ S5 (L3.trans (L4.trans L5)) (rT (ws_rep (L5.up _ _ (put_self ..)) (put_self ..) (hes.mono L5))) hR
end
end
noncomputable section
theorem ws_init {B : Bs} (h : LB B) : findIn B.K (.ref 83) "__init__" = some (some (.ref 38)) := by rw [h.K]; kernel_rfl!
theorem ty_init {B : Bs} (h : LB B) : typeIn B.K (.ref 38) = some (.type "function") := by rw [h.K]; kernel_rfl!
theorem ws_reads {B : Bs} (h : LB B) : readsIn B.K 83 (.type "type") = true := by rw [h.K]; kernel_rfl!
theorem ws_S {B : Bs} (h : LB B) : findCls B.K (.ref 83) (.type "type") (Str.ofString "S") = some (.val (.str ⟨[32].toArray⟩ 209)) := by rw [h.K]; kernel_rfl!
theorem ws_T {B : Bs} (h : LB B) : findCls B.K (.ref 83) (.type "type") (Str.ofString "T") = some (.val (.str ⟨[9].toArray⟩ 210)) := by rw [h.K]; kernel_rfl!
theorem tk_raw {B : Bs} (h : LB B) : takerIn B.K 83 (Str.ofString "raw") = some none := by rw [h.K]; kernel_rfl!
theorem tk_n {B : Bs} (h : LB B) : takerIn B.K 83 (Str.ofString "n") = some none := by rw [h.K]; kernel_rfl!
theorem tk_nt {B : Bs} (h : LB B) : takerIn B.K 83 (Str.ofString "nt") = some none := by rw [h.K]; kernel_rfl!
theorem tk_norm {B : Bs} (h : LB B) : takerIn B.K 83 (Str.ofString "norm") = some none := by rw [h.K]; kernel_rfl!
theorem tk_simple {B : Bs} (h : LB B) : takerIn B.K 83 (Str.ofString "is_simple") = some none := by rw [h.K]; kernel_rfl!
noncomputable def InitPost (raw : List Nat) (x dx : Addr) (m : List S) (own : Own) (b : S) (m' : List S) (own' : Own) : Prop := b = .t .none ∧ m' = m ∧ ∃ D c k n t, scanW raw [] 0 0 0 = (c, k, n, t) ∧ own' = (D, .lst (c.map .int)) :: (x, .raw (instObj 83 dx)) ::
  (dx, .flds [(Str.ofString "raw", .str raw), (Str.ofString "n", .int n), (Str.ofString "nt", .int t), (Str.ofString "norm", normT c k), (Str.ofString "is_simple", .bool (decide (c.length ≤ 1)))]) :: own
abbrev InitOwn (raw : List Nat) (x dx : Addr) (own : Own) : Own := (x, .raw (instObj 83 dx)) :: (dx, .flds [(Str.ofString "raw", .str raw)]) :: own
abbrev InitSlots (raw : List Nat) (x D : Addr) (k n t : Nat) (y : S) : List S := [.own x, .t (.str raw), .t (.str [32]), .t (.str [9]), .own D, .t (.int (k : Nat)), .t (.int (n : Nat)), .t (.int (t : Nat)), y]
noncomputable def InitMid (raw : List Nat) (x dx : Addr) (own : Own) (f : Fl) (m' : List S) (o' : Own) : Prop := f = .next ∧ ∃ D c k n t y, scanW raw [] 0 0 0 = (c, k, n, t) ∧ c.length ≤ 1001 ∧ m' = InitSlots raw x D k n t y ∧ o' = (D, .lst (c.map .int)) :: InitOwn raw x dx own
noncomputable def InitInv (raw : List Nat) (x dx : Addr) (own : Own) (i : Nat) (m' : List S) (o' : Own) : Prop := ∃ D c k n t y, scanW raw [] 0 0 0 = scanW (raw.drop i) c k n t ∧ k ≤ i ∧ c.length ≤ i + 1 ∧ m' = InitSlots raw x D k n t y ∧ o' = (D, .lst (c.map .int)) :: InitOwn raw x dx own
set_option maxHeartbeats 8000000 in
theorem init_code {B : Bs} (hB : LB B) {X : Act} {A : Around} {m : List S} {own : Own} {raw : List Nat} (hz : raw.length ≤ 1000) {x dx : Addr} (hA : Room 1 A) :
    ∀ (s : Shared) (G : PM) (vs : List Value), St B X m ((x, .raw (instObj 83 dx)) :: (dx, .flds []) :: own) G s → RepSs G [.own x, .t (.str raw)] vs → ∀ RR : Result → Shared → Prop,
      (∀ v b m' own' G' s', St B X m' own' G' s' → Le G G' → RepS G' b (some v) → InitPost raw x dx m own b m' own' → RR (.ok (.ret v)) s') →
      codeAny (model B.prog B.w) A (.call (.ref 38) ⟨vs, []⟩) RR s := by
  refine code_defO (n := 0) (ps := [Str.ofString "self", Str.ofString "ws"]) (ls := [Str.ofString "S", Str.ofString "T", Str.ofString "count", Str.ofString "b", Str.ofString "n", Str.ofString "nt", Str.ofString "ch"])
    (R := InitPost raw x dx m own)
    hB.ok hA (by rw [hB.K]; exact rfl) (by rw [hB.K]; kernel_rfl!) rfl rfl rfl rfl rfl rfl rfl ?_ ?_ rfl ?_ ?_ ?_
  · decide +kernel
  · exact len2 fun _ _ => rfl
  · decide +kernel
  · decide +kernel
  · intro env s₀ P G₀ E hA'
    dsimp only at E
    have hsl : sizeLine = 2 ^ 24 := rfl
    walk_at "jn"
    refine JF_cons ?_
    refine JF_SetAttr hB (by rw [E.eq]; rfl) (tk_raw hB) ?_
    walk_at "jname"
    walk_at "jname"
    refine ex6 (.str raw) x dx [] [(x, .raw (instObj 83 dx))] own ⟨rfl, rfl, List.mem_cons_self .., rfl, by decide, rfl, ?_⟩
    walk_at "jn"
    refine JF_cons ?_
    refine JF_AssignSwap (names := [Str.ofString "S", Str.ofString "T"]) hA'.1 rfl (by rw [E.eq]; rfl) ?_
    refine JV_Tuple ?_
    refine JL_cons ?_ rfl
    refine JV_AttrCls hB rfl (ws_reads hB) (ws_S hB) ?_
    refine JV_glob (y := .con (.ref 83)) hB.ok (g_Whitespace hB) tCon (by walk_at "jfn") E.globals (by walk_at "jkind") ?_ (by decide)
    refine ⟨rfl, ?_⟩
    refine JL_cons ?_ rfl
    refine JV_AttrCls hB rfl (ws_reads hB) (ws_T hB) ?_
    refine JV_glob (y := .con (.ref 83)) hB.ok (g_Whitespace hB) tCon (by walk_at "jfn") E.globals (by walk_at "jkind") ?_ (by decide)
    refine ⟨rfl, ?_⟩
    refine JL_nil ?_
    refine ⟨[.str [32], .str [9]], rfl, Nat.le_of_ble_eq_true rfl, _, rfl, rfl, ?_⟩
    refine JAs_cons (JA_bind (i := 3) (by walk_at "jfn") rfl (.inl (by walk_at "jkind")) (by walk_at "jlen") ?_)
    refine JAs_cons (JA_bind (i := 2) (by walk_at "jfn") rfl (.inl (by walk_at "jkind")) (by walk_at "jlen") ?_)
    refine JAs_nil ?_
    walk_at "jn"
    walk_at "jgo"
    refine JV_List ?_
    walk_at "jgo"
    refine ⟨[], rfl, Nat.le_of_ble_eq_true rfl, fun D0 => ?_⟩
    walk_at "jgo"
    refine JF_Assign3 rfl rfl ?_
    walk_at "jgo"
    refine ⟨.int 0, rfl, ?_⟩
    refine JA_Name (i := 5) (by walk_at "jfn") rfl (.inl (by walk_at "jkind")) (by walk_at "jlen") ?_
    refine JA_Name (i := 6) (by walk_at "jfn") rfl (.inl (by walk_at "jkind")) (by walk_at "jlen") ?_
    refine JA_Name (i := 7) (by walk_at "jfn") rfl (.inl (by walk_at "jkind")) (by walk_at "jlen") ?_
    walk_at "jn"
    refine JF_cons ?_
    refine J.mono (R := InitMid raw x dx own) ?_ ?_
    · refine JF_For (k := 8) (by walk_at "jfn") rfl (by walk_at "jkind") (fun _ => rfl) ?_
      refine JV_AttrOwn (y := .str raw) hB rfl (ws_raw hB) rfl ?_
      walk_at "jname"
      refine ex3 x dx _ ⟨rfl, List.mem_cons_of_mem _ (List.mem_cons_self ..), List.mem_cons_of_mem _ (List.mem_cons_of_mem _ (List.mem_cons_self ..)), rfl, ?_⟩
      refine ⟨raw.map fun n => .str [n], InitInv raw x dx own, src_str hA'.1, ex6 D0 [] 0 0 0 .undef ⟨rfl, Nat.le_refl _, Nat.zero_le _, rfl, rfl⟩, ?_, ?_⟩
      · rintro P' i y m' o' hi ⟨D, c, k, n, t, y8, hsc, hk, hcl, rfl, rfl⟩
        rw [List.getElem?_map] at hi
        obtain ⟨ch, hch, rfl⟩ := Option.map_eq_some_iff.mp hi
        have hil : i < raw.length := (List.getElem?_eq_some_iff.mp hch).1
        have hdr : raw.drop i = ch :: raw.drop (i + 1) := by
          rw [List.drop_eq_getElem_cons hil]
          congr 1
          exact (List.getElem?_eq_some_iff.mp hch).2
        rw [hdr, scanW] at hsc
        walk_at "jset"
        walk_at "jn"
        walk_at "jgo"
        split
        · rename_i h1
          have h1 : ch = 32 := by simpa using h1
          rw [if_pos h1] at hsc
          walk_at "jgo"
          exact ex6 D c (k + 1) (n + 1) t _ ⟨hsc, by lia, by lia, rfl, rfl⟩
        · rename_i h1
          have h1 : ¬ ch = 32 := by simpa using h1
          rw [if_neg h1] at hsc
          walk_at "jgo"
          split
          · rename_i h2
            have h2 : ch = 9 := by simpa using h2
            rw [if_pos h2] at hsc
            have hgl := grow_len (c := c) (b := k)
            have hbl := bump_len (c := c) (b := k)
            walk_at "jn"
            refine JF_cons ?_
            walk_at "jassign"
            refine JV_BinOp ?_
            walk_at "jname"
            refine JV_int ?_
            refine B_add ?_
            walk_at "jset"
            walk_at "jn"
            refine JF_cons ?_
            walk_at "jassign"
            refine JV_BinOp ?_
            walk_at "jname"
            refine JV_int ?_
            refine B_add ?_
            walk_at "jset"
            walk_at "jn"
            refine JF_cons ?_
            refine J.mono (R := fun (f : Fl) (m' : List S) (o' : Own) => f = .next ∧ ∃ D' g, m' = [.own x, .t (.str raw), .t (.str [32]), .t (.str [9]), .own D', .t (.int (k : Nat)), .t (.int ((n : Nat) + 1)), .t (.int ((t : Nat) + 1)), .t (.str [ch])] ∧
              o' = (D', .lst ((grow c k).map .int)) :: (g ++ (x, .raw (instObj 83 dx)) :: (dx, .flds [(Str.ofString "raw", .str raw)]) :: own)) ?_ ?_
            · walk_at "jgo"
              walk_at "c_len"
              walk_at "jgo"
              refine C_len (.inr ⟨D, rfl, List.mem_cons_self ..⟩) (by rw [List.length_map]; lia) ?_
              walk_at "jgo"
              rw [List.length_map]
              split
              · rename_i h3
                have h3 : c.length ≤ k := by simp at h3; lia
                walk_at "jgo"
                refine JV_List ?_
                walk_at "jgo"
                refine ⟨[.int 0], rfl, Nat.le_of_ble_eq_true rfl, fun D1 => ?_⟩
                walk_at "jgo"
                walk_at "c_len"
                walk_at "jgo"
                refine C_len (.inr ⟨D, rfl, List.mem_cons_of_mem _ (List.mem_cons_self ..)⟩) (by rw [List.length_map]; lia) ?_
                walk_at "jgo"
                rw [List.length_map]
                refine B_mull (List.mem_cons_self ..) (by simp) (by lia) (by lia) (by simp; lia) fun D2 => ?_
                refine B_addl (.inr ⟨D, rfl, List.mem_cons_of_mem _ (List.mem_cons_of_mem _ (List.mem_cons_self ..))⟩) (.inr ⟨D2, rfl, List.mem_cons_self ..⟩) (by simp; lia) fun D3 => ?_
                walk_at "jgo"
                refine ⟨rfl, D3, [(D2, .lst (List.replicate (((k : Int) - (c.length : Int) + 1)).toNat [T.int 0]).flatten), (D1, .lst [.int 0]), (D, .lst (c.map .int))], rfl, ?_⟩
                have e : (grow c k).map T.int = c.map T.int ++ (List.replicate (((k : Int) - (c.length : Int) + 1)).toNat [T.int 0]).flatten := by
                  rw [grow, if_pos h3, List.map_append, show (((k : Int) - (c.length : Int) + 1)).toNat = k + 1 - c.length by lia]
                  simp
                rw [e]; rfl
              · rename_i h3
                have h3 : ¬ c.length ≤ k := fun q => h3 (by simp; lia)
                walk_at "jgo"
                refine ⟨rfl, D, [], rfl, ?_⟩
                rw [grow, if_neg h3]; rfl
            · rintro f m' o' ⟨rfl, D', g, rfl, rfl⟩
              walk_at "jn"
              refine J.drop (own' := (D', .lst ((grow c k).map .int)) :: (x, .raw (instObj 83 dx)) :: (dx, .flds [(Str.ofString "raw", .str raw)]) :: own) (.cons_cons _ (List.sublist_append_right ..)) ?_
              walk_at "jgo"
              refine JF_AssignSub rfl ?_
              walk_at "jgo"
              refine K_lst (y := .int ((grow c k).getD k 0)) (.inr ⟨D', rfl, List.mem_cons_self ..⟩) (by lia) (by rw [Int.toNat_natCast, List.getElem?_map, List.getD_eq_getElem?_getD, List.getElem?_eq_getElem hgl.1]; rfl) (by rw [List.length_map]; lia) ?_
              walk_at "jgo"
              refine ex6 _ _ _ _ [] _ ⟨rfl, rfl, rfl, rfl, by lia, by rw [List.length_map, Int.toNat_natCast]; exact hgl.1, by rw [List.length_map]; lia, ?_⟩
              walk_at "jn"
              walk_at "jgo"
              refine ex6 D' (bump c k) 0 (n + 1) (t + 1) _ ⟨hsc, by lia, by lia, rfl, ?_⟩
              rw [bump, List.map_set, Int.toNat_natCast]
          · rename_i h2
            have h2 : ¬ ch = 9 := by simpa using h2
            rw [if_neg h2] at hsc
            walk_at "jgo"
            exact ⟨rfl, ex6 D c k n t _ ⟨hsc, by lia, rfl, rfl⟩⟩
      · rintro m' o' ⟨D, c, k, n, t, y, hsc, hk, hcl, rfl, rfl⟩
        rw [List.length_map] at hsc hcl
        rw [List.drop_length, scanW] at hsc
        refine JF_nil ?_
        exact ⟨rfl, ex6 D c k n t _ ⟨hsc, by lia, rfl, rfl⟩⟩
    · rintro f m' o' ⟨rfl, D, c, k, n, t, y, hsc, hcl, rfl, rfl⟩
      walk_at "jn"
      refine JF_cons ?_
      refine JF_SetAttr hB (by rw [E.eq]; rfl) (tk_n hB) ?_
      walk_at "jname"
      walk_at "jname"
      refine ex6 _ x dx _ [_, (x, .raw (instObj 83 dx))] own ⟨rfl, rfl, List.mem_cons_of_mem _ (List.mem_cons_self ..), rfl, Nat.le_of_ble_eq_true rfl, rfl, ?_⟩
      walk_at "jn"
      refine JF_cons ?_
      refine JF_SetAttr hB (by rw [E.eq]; rfl) (tk_nt hB) ?_
      walk_at "jname"
      walk_at "jname"
      refine ex6 _ x dx _ [_, (x, .raw (instObj 83 dx))] own ⟨rfl, rfl, List.mem_cons_of_mem _ (List.mem_cons_self ..), rfl, Nat.le_of_ble_eq_true rfl, rfl, ?_⟩
      walk_at "jn"
      refine JF_cons ?_
      refine JF_SetAttr hB (by rw [E.eq]; rfl) (tk_norm hB) ?_
      refine JV_Tuple ?_
      refine JL_cons ?_ rfl
      walk_at "c_tuple"
      walk_at "jgo"
      refine C_tuple (.inr ⟨D, rfl, List.mem_cons_self ..⟩) (by rw [List.length_map]; lia) ?_
      walk_at "jgo"
      refine ⟨[.tup (c.map .int), .int k], rfl, Nat.le_of_ble_eq_true rfl, ?_⟩
      walk_at "jname"
      refine ex6 _ x dx _ [_, (x, .raw (instObj 83 dx))] own ⟨rfl, rfl, List.mem_cons_of_mem _ (List.mem_cons_self ..), rfl, Nat.le_of_ble_eq_true rfl, rfl, ?_⟩
      walk_at "jn"
      refine JF_cons ?_
      refine JF_SetAttr hB (by rw [E.eq]; rfl) (tk_simple hB) ?_
      walk_at "jgo"
      walk_at "c_len"
      walk_at "jgo"
      refine C_len (.inr ⟨D, rfl, List.mem_cons_self ..⟩) (by rw [List.length_map]; lia) ?_
      walk_at "jgo"
      refine ex6 _ x dx _ [_, (x, .raw (instObj 83 dx))] own ⟨rfl, rfl, List.mem_cons_of_mem _ (List.mem_cons_self ..), rfl, Nat.le_of_ble_eq_true rfl, rfl, ?_⟩
      walk_at "jn"
      refine JF_nil ?_
      refine ⟨.t .none, ⟨rfl, rfl, ex5 D c k n t ⟨hsc, ?_⟩⟩, .inr ⟨rfl, rfl⟩⟩
      rw [List.length_map]
      have e : decide ((c.length : Int) ≤ 1) = decide (c.length ≤ 1) := by rw [decide_eq_decide]; lia
      rw [e]; rfl
theorem ws_make {B : Bs} (hB : LB B) {X : Act} {A : Around} {m : List S} {own : Own} {raw : List Nat} {R : S → List S → Own → Prop} (hz : raw.length ≤ 1000) (hA : Room 2 A) (h : R (.t (wsOf raw)) m own) : JCall B X A (.ref 83) [.t (.str raw)] m own R := by
  refine C_make (n := 1) hB hA (ws_init hB) (ty_init hB) fun A' x dx hA' s G vs hS hr RR hQ => ?_
  refine init_code hB hz hA' s G vs hS hr RR fun v b m' own' G' s' S' L' rb hb => ?_
  obtain ⟨rfl, rfl, D, c, k, n, t, hsc, rfl⟩ := hb
  have hv : v = .none := by have := uT rb; exact this
  refine hQ v m' own G' s' _ _ _ _ _ hv (S'.sub (.cons _ (List.Sublist.refl _))) L' ?_
  have e : wsOf raw = .ws (.str raw) n t (normT c k) (decide (c.length ≤ 1)) := by unfold wsOf; rw [hsc]
  rw [← e]; exact h
end
noncomputable section
section
variable {B : Bs} {X : Act} {A : Around} {m : List S} {own : Own}
theorem C_lenT {ts : List T} {R : S → List S → Own → Prop} (hz : (ts.length : Int) < 2 ^ 62) (h : R (.t (.int ts.length)) m own) : JCall B X A (.builtin "len") [.t (.tup ts)] m own R := by
  intro vs s G hS hrs Q hQ
  obtain ⟨v, rfl, hr⟩ := reps1 hrs
  have hr := uT hr
  obtain ⟨a, o, us, n, rfl, hG, hc, hd, hl⟩ := hr
  have hsz := hl.size
  refine PyProof.Rows.len_tuple (items := us) ⟨o, hS.le _ _ hG, hc, n, hd⟩ (by omega) ?_
  rw [hsz]
  exact hQ _ _ _ _ _ _ (hS.tok _) (Le.refl G) (rT tInt) h
end
end
noncomputable section
theorem ws_long {B : Bs} (h : LB B) : findIn B.K (.ref 83) (Str.ofString "longest_run_of_spaces") = some (some (.ref 45)) := by rw [h.K]; kernel_rfl!
theorem ws_ind {B : Bs} (h : LB B) : findIn B.K (.ref 83) (Str.ofString "indent_level") = some (some (.ref 52)) := by rw [h.K]; kernel_rfl!
theorem ws_eq {B : Bs} (h : LB B) : findIn B.K (.ref 83) (Str.ofString "equal") = some (some (.ref 59)) := by rw [h.K]; kernel_rfl!
theorem ws_wit {B : Bs} (h : LB B) : findIn B.K (.ref 83) (Str.ofString "not_equal_witness") = some (some (.ref 66)) := by rw [h.K]; kernel_rfl!
theorem ty_45 {B : Bs} (h : LB B) : typeIn B.K (.ref 45) = some (.type "function") := by rw [h.K]; kernel_rfl!
theorem ty_52 {B : Bs} (h : LB B) : typeIn B.K (.ref 52) = some (.type "function") := by rw [h.K]; kernel_rfl!
theorem ty_59 {B : Bs} (h : LB B) : typeIn B.K (.ref 59) = some (.type "function") := by rw [h.K]; kernel_rfl!
theorem ty_66 {B : Bs} (h : LB B) : typeIn B.K (.ref 66) = some (.type "function") := by rw [h.K]; kernel_rfl!
theorem k_45 {B : Bs} (h : LB B) : keepIn B.K (.ref 45) = true := by rw [h.K]; kernel_rfl!
theorem k_52 {B : Bs} (h : LB B) : keepIn B.K (.ref 52) = true := by rw [h.K]; kernel_rfl!
theorem k_59 {B : Bs} (h : LB B) : keepIn B.K (.ref 59) = true := by rw [h.K]; kernel_rfl!
theorem k_66 {B : Bs} (h : LB B) : keepIn B.K (.ref 66) = true := by rw [h.K]; kernel_rfl!
set_option maxHeartbeats 4000000 in
theorem long_spec {B : Bs} (hB : LB B) {w : WS} (hc : w.c.length ≤ 2000) (hb : w.b ≤ 2000) : FunJ B (.ref 45) 1 [w.T] (fun r => r = .int w.run) := by
  refine FunJ_of (n := 0) (ps := [Str.ofString "self"]) (ls := [Str.ofString "count", Str.ofString "trailing"]) hB.ok (by rw [hB.K]; exact rfl) (by rw [hB.K]; kernel_rfl!) rfl rfl rfl rfl rfl rfl rfl ?_ rfl ?_ ?_ ?_
  · exact len1 fun _ => rfl
  · decide +kernel
  · decide +kernel
  · intro A L env s₀ P G₀ hA hP E
    dsimp only at E
    walk_at "jn"
    refine JF_cons ?_
    refine JF_AssignTup rfl (by rw [E.eq]; rfl) ?_
    walk_at "awn"
    case ha => exact ws_norm hB
    case hf => exact (rfl : _ = some (normT w.c w.b))
    case hh => exact rfl
    refine JA_Tuple hA.1 rfl rfl ?_
    refine JAs_cons (JA_Name (i := 1) (by walk_at "jfn") rfl (.inl (by walk_at "jkind")) (by walk_at "jlen") ?_)
    refine JAs_cons (JA_Name (i := 2) (by walk_at "jfn") rfl (.inl (by walk_at "jkind")) (by walk_at "jlen") ?_)
    refine JAs_nil ?_
    walk_at "jn"
    walk_at "jgo"
    walk_at "c_max"
    walk_at "jgo"
    walk_at "c_len"
    walk_at "jgo"
    refine C_lenT (by rw [List.length_map]; lia) ?_
    walk_at "jgo"
    rw [List.length_map]
    refine C_max2 hA.1 ?_
    walk_at "jgo"
    rfl
set_option maxHeartbeats 4000000 in
theorem indent_spec {B : Bs} (hB : LB B) {w : WS} {ts : Nat} (hts : 1 ≤ ts) (hts2 : ts ≤ 2000) (hc : w.c.length ≤ 2000) : FunJ B (.ref 52) 1 [w.T, .int ts] (fun r => r = .int (w.indent ts)) := by
  refine FunJ_of (n := 0) (ps := [Str.ofString "self", Str.ofString "tabsize"]) (ls := [Str.ofString "count", Str.ofString "trailing", Str.ofString "il", Str.ofString "i"]) hB.ok (by rw [hB.K]; exact rfl) (by rw [hB.K]; kernel_rfl!) rfl rfl rfl rfl rfl rfl rfl ?_ rfl ?_ ?_ ?_
  · exact len2 fun _ _ => rfl
  · decide +kernel
  · decide +kernel
  · intro A L env s₀ P G₀ hA hP E
    dsimp only at E
    walk_at "jn"
    refine JF_cons ?_
    refine JF_AssignTup rfl (by rw [E.eq]; rfl) ?_
    walk_at "awn"
    case ha => exact ws_norm hB
    case hf => exact (rfl : _ = some (normT w.c w.b))
    case hh => exact rfl
    refine JA_Tuple hA.1 rfl rfl ?_
    refine JAs_cons (JA_Name (i := 2) (by walk_at "jfn") rfl (.inl (by walk_at "jkind")) (by walk_at "jlen") ?_)
    refine JAs_cons (JA_Name (i := 3) (by walk_at "jfn") rfl (.inl (by walk_at "jkind")) (by walk_at "jlen") ?_)
    refine JAs_nil ?_
    walk_at "jn"
    walk_at "jgo"
    refine JF_For (k := 5) (by walk_at "jfn") rfl (by walk_at "jkind") (fun _ => rfl) ?_
    walk_at "c_range"
    walk_at "jgo"
    walk_at "c_len"
    walk_at "jgo"
    refine C_lenT (by rw [List.length_map]; lia) ?_
    walk_at "jgo"
    rw [List.length_map]
    refine C_range2 ?_
    refine ⟨(upT ts w.c.length), (fun j m o => ∃ y5 : S, m = [.t w.T, .t (.int ts), .t (.tup (w.c.map .int)), .t (.int w.b), .t (.int (indentAt w.c ts j)), y5] ∧ o = []), src_rng hA.1 (by lia) (by lia) (by lia) (by lia), ⟨_, rfl, rfl⟩, ?_, ?_⟩
    · rintro P' j y m o hj ⟨y5, rfl, rfl⟩
      obtain ⟨hlt, rfl⟩ := upT_inv hj
      have hidx : ts + j < w.c.length := by lia
      walk_at "jset"
      walk_at "jn"
      walk_at "jgo"
      refine B_floordiv (by lia) (PyProof.noPylong_small (by lia)) ?_
      walk_at "jgo"
      have hd : ((ts : Int) + (j : Int)).fdiv (ts : Int) = (((ts + j) / ts : Nat) : Int) := by rw [Int.fdiv_eq_ediv_of_nonneg _ (by lia)]; rfl
      rw [hd]
      have hdl : (ts + j) / ts ≤ 4000 := Nat.le_trans (Nat.div_le_self ..) (by lia)
      refine K_tup (y := .int (w.c.getD (ts + j) 0)) (by lia) (by rw [show ((ts : Int) + (j : Int)).toNat = ts + j by lia, List.getElem?_map, List.getD_eq_getElem?_getD, List.getElem?_eq_getElem hidx]; rfl) (by rw [List.length_map]; lia) ?_
      refine B_mul (IntMulOk.of_left (by generalize (ts + j) / ts = q at hdl; exact intBits_le_64 (by lia) (by lia))) ?_
      walk_at "jgo"
      rw [indentAt_succ]
      exact ⟨_, rfl, rfl⟩
    · rintro m o ⟨y5, rfl, rfl⟩
      rw [upT_length, show ((w.c.length : Int) - (ts : Int)).toNat = w.c.length - ts by lia]
      refine JF_nil ?_
      walk_at "jn"
      walk_at "jgo"
      walk_at "awn"
      case ha => exact ws_nt hB
      case hf => exact (rfl : _ = some (T.int w.t))
      case hh => exact rfl
      refine B_add ?_
      refine B_mul (IntMulOk.of_left (intBits_le_64 (by lia) (by lia))) ?_
      walk_at "jgo"
      rfl
theorem cmp_ints {n : Nat} (a b : List Int) (j : Nat) (x y : T) (h : (a.map T.int)[j]? = some x) (k : (b.map T.int)[j]? = some y) : Cmp n x y := by
  rw [List.getElem?_map] at h k
  obtain ⟨i, _, rfl⟩ := Option.map_eq_some_iff.mp h
  obtain ⟨i', _, rfl⟩ := Option.map_eq_some_iff.mp k
  exact .int i i'
theorem cmp_norm (c c' : List Int) (b b' : Nat) : Cmp 2 (normT c b) (normT c' b') :=
  .tup fun j x y h k => match j, h, k with
    | 0, h, k => by cases h; cases k; exact .tup (cmp_ints c c')
    | 1, h, k => by cases h; cases k; exact .int _ _
    | j + 2, h, _ => nomatch h
theorem teq_ints : ∀ a b : List Int, teqL (a.map T.int) (b.map T.int) = (a == b)
  | [], [] => rfl
  | [], _ :: _ => rfl
  | _ :: _, [] => rfl
  | x :: a, y :: b => by rw [List.map_cons, List.map_cons, teqL_cons, teq_int, teq_ints a b]; rfl
theorem teq_norm (c c' : List Int) (b b' : Nat) : teq (normT c b) (normT c' b') = (c == c' && b == b') := by
  show (teqL (c.map T.int) (c'.map T.int) && (((b : Int) == b') && true)) = _
  rw [teq_ints, Bool.and_true]
  congr 1
  rw [Bool.eq_iff_iff]; simp only [beq_iff_eq]
  exact Int.ofNat_inj
set_option maxHeartbeats 4000000 in
theorem equal_spec {B : Bs} (hB : LB B) {v w : WS} : FunJ B (.ref 59) 2 [v.T, w.T] (fun r => r = .bool (v.c == w.c && v.b == w.b)) := by
  refine FunJ_of (n := 1) (ps := [Str.ofString "self", Str.ofString "other"]) (ls := []) hB.ok (by rw [hB.K]; exact rfl) (by rw [hB.K]; kernel_rfl!) rfl rfl rfl rfl rfl rfl rfl ?_ rfl ?_ ?_ ?_
  · exact len2 fun _ _ => rfl
  · decide +kernel
  · decide +kernel
  · intro A L env s₀ P G₀ hA hP E
    dsimp only at E
    walk_at "jn"
    walk_at "jgo"
    walk_at "awn"
    case ha => exact ws_norm hB
    case hf => exact (rfl : _ = some (normT v.c v.b))
    case hh => exact rfl
    walk_at "awn"
    case ha => exact ws_norm hB
    case hf => exact (rfl : _ = some (normT w.c w.b))
    case hh => exact rfl
    refine C_eqT (cmp_norm ..) (by have := hA.2.2; simp only [cLine] at *; lia) ?_
    rw [teq_norm]
set_option maxHeartbeats 8000000 in
theorem wit_spec {B : Bs} (hB : LB B) {v w : WS} (hv1 : v.c.length ≤ 1000) (hv2 : v.b ≤ 1000) (hw1 : w.c.length ≤ 1000) (hw2 : w.b ≤ 1000) :
    FunJ B (.ref 66) 2 [v.T, w.T] (fun r => r = .lst ((witOf v w (topOf v w)).map rowT)) := by
  have hrv : -1 ≤ v.run ∧ v.run ≤ 1000 := by unfold WS.run runW; split <;> lia
  have hrw : -1 ≤ w.run ∧ w.run ≤ 1000 := by unfold WS.run runW; split <;> lia
  refine FunJ_of (n := 1) (ps := [Str.ofString "self", Str.ofString "other"]) (ls := [Str.ofString "n", Str.ofString "a", Str.ofString "ts"]) hB.ok (by rw [hB.K]; exact rfl) (by rw [hB.K]; kernel_rfl!) rfl rfl rfl rfl rfl rfl rfl ?_ rfl ?_ ?_ ?_
  · exact len2 fun _ _ => rfl
  · decide +kernel
  · decide +kernel
  · intro A L env s₀ P G₀ hA hP E
    dsimp only at E
    have hsl : sizeLine = 2 ^ 24 := rfl
    walk_at "jn"
    walk_at "jgo"
    walk_at "c_max"
    refine JL_cons ?_ rfl
    walk_at "mwn"
    case ha => exact ws_long hB
    case hh => exact ty_45 hB
    case hf => exact k_45 hB
    walk_at "jgo"
    refine C_funE (args := [v.T]) (long_spec hB (by lia) (by lia)) hA ?_
    refine JL_cons ?_ rfl
    walk_at "mwn"
    case ha => exact ws_long hB
    case hh => exact ty_45 hB
    case hf => exact k_45 hB
    walk_at "jgo"
    refine C_funE (args := [w.T]) (long_spec hB (by lia) (by lia)) hA ?_
    walk_at "jgo"
    refine C_max2 hA.1 ?_
    walk_at "jgo"
    have htop : ((if w.run > v.run then w.run else v.run) + 1) = (topOf v w : Int) := by unfold topOf; rw [Int.toNat_of_nonneg]; split <;> lia
    rw [htop]
    have htl : topOf v w ≤ 1001 := by
      have : (topOf v w : Int) ≤ 1001 := by rw [← htop]; split <;> lia
      lia
    generalize topOf v w = top at *
    refine JV_List ?_
    walk_at "jgo"
    refine ⟨[], rfl, Nat.le_of_ble_eq_true rfl, fun D => ?_⟩
    walk_at "jgo"
    refine JF_For (k := 4) (by walk_at "jfn") rfl (by walk_at "jkind") (fun _ => rfl) ?_
    walk_at "c_range"
    walk_at "jgo"
    refine C_range2 ?_
    refine ⟨(upT 1 (top + 1)), (fun j m o => ∃ y4 : S, m = [.t v.T, .t w.T, .t (.int top), .own D, y4] ∧ o = [(D, .lst ((witOf v w j).map rowT))]), src_rng hA.1 (by lia) (by lia) (by lia) (by lia), ⟨_, rfl, rfl⟩, ?_, ?_⟩
    · rintro P' j y m o hj ⟨y4, rfl, rfl⟩
      obtain ⟨hlt, rfl⟩ := upT_inv hj
      have hwl : (witOf v w j).length ≤ j := by
        unfold witOf
        exact Nat.le_trans (List.length_filter_le ..) (by simp)
      have hws : witOf v w (j + 1) = witOf v w j ++ (if v.indent (j + 1) != w.indent (j + 1) then [witRow v w j] else []) := by
        unfold witOf
        rw [List.range_succ, List.map_append, List.filter_append]
        simp [List.filter_cons, witRow]
      dsimp only
      rw [hws]
      rw [show (1 : Int) + (j : Int) = ((j + 1 : Nat) : Int) by lia]
      walk_at "jset"
      walk_at "jn"
      walk_at "jgo"
      walk_at "mwn"
      case ha => exact ws_ind hB
      case hh => exact ty_52 hB
      case hf => exact k_52 hB
      walk_at "jgo"
      refine C_funE (args := [v.T, .int ((j + 1 : Nat) : Int)]) (indent_spec hB (by lia) (by lia) (by lia)) hA ?_
      walk_at "jgo"
      walk_at "mwn"
      case ha => exact ws_ind hB
      case hh => exact ty_52 hB
      case hf => exact k_52 hB
      walk_at "jgo"
      refine C_funE (args := [w.T, .int ((j + 1 : Nat) : Int)]) (indent_spec hB (by lia) (by lia) (by lia)) hA ?_
      walk_at "jgo"
      split
      · rename_i hq
        walk_at "jgo"
        refine JF_Expr (E.quiet rfl) rfl ?_
        walk_at "m_append"
        walk_at "jname"
        refine ⟨ty_own (List.mem_singleton.mpr rfl), ?_⟩
        refine JL_cons ?_ rfl
        refine JV_Tuple ?_
        walk_at "jgo"
        walk_at "mwn"
        case ha => exact ws_ind hB
        case hh => exact ty_52 hB
        case hf => exact k_52 hB
        walk_at "jgo"
        refine C_funE (args := [v.T, .int ((j + 1 : Nat) : Int)]) (indent_spec hB (by lia) (by lia) (by lia)) hA ?_
        walk_at "jgo"
        walk_at "mwn"
        case ha => exact ws_ind hB
        case hh => exact ty_52 hB
        case hf => exact k_52 hB
        walk_at "jgo"
        refine C_funE (args := [w.T, .int ((j + 1 : Nat) : Int)]) (indent_spec hB (by lia) (by lia) (by lia)) hA ?_
        walk_at "jgo"
        refine ⟨[.int ((j + 1 : Nat) : Int), .int (v.indent (j + 1)), .int (w.indent (j + 1))], rfl, Nat.le_of_ble_eq_true rfl, ?_⟩
        walk_at "jgo"
        refine C_append (pre := []) (post := []) (by rw [List.length_map]; lia) ?_
        walk_at "jgo"
        refine ⟨rfl, ?_⟩
        walk_at "jn"
        walk_at "jgo"
        refine ⟨_, rfl, ?_⟩
        rw [List.map_append, List.map_singleton, rowT, witRow]
        rw [show (1 : Int) + (j : Int) = ((j + 1 : Nat) : Int) by lia]
      · rename_i hq
        walk_at "jgo"
        refine ⟨_, rfl, ?_⟩
        rw [List.append_nil]
    · rintro m o ⟨y4, rfl, rfl⟩
      rw [upT_length, show ((top : Int) + 1 - 1).toNat = top by lia]
      refine JF_nil ?_
      walk_at "jn"
      walk_at "jgo"
      exact ex2 _ _ ⟨rfl, rfl⟩
end
noncomputable section
section
variable {prog : Program} {w : World} {A : Around} {E : Value → Shared → Prop} {s : Shared}
theorem pyIter_sit {it : Addr} {x : Str} {t : Tok} {i : Nat} {Q : Value → Shared → Prop} (hit : s.heap.IsStrIter it "str_ascii_iterator" x t i) (h : Q (.ref it) s) : wpAny (model prog w) A (pyIter (.ref it)) Q E s := by
  refine wpAny_pyIter_slot hit.typeIs F.slot_str_ascii_iterator_iter (wpAny_call_entry F.slot_str_ascii_iterator_iter hit.typeIs F.entry_str_ascii_iterator_iter ?_ (F.args_str_ascii_iterator_iter_1 _))
  show wpAny _ _ (ret (.ref it)) _ _ s
  exact wpAny_pure ⟨_, rfl, "str_ascii_iterator", _, hit.typeIs, F.slot_str_ascii_iterator_next.lookup, h⟩
theorem iter_kind : builtinKind "iter" = none := by decide +kernel
theorem iter_plain : plainId "iter" = true := by decide +kernel
theorem iter_entry : entryFor table "iter" = some Builtin.«iter» := entryFor_of_tree (by kernel_rfl)
theorem iter_args (a : Value) : argsOk "iter" ⟨[a], []⟩ := by unfold argsOk; kernel_rfl
theorem call_iter_str {x : Str} {t : Tok} {Q : Value → Shared → Prop} (ha : x.cps.all (· < 128) = true)
    (h : Q (.ref s.heap.objs.size) { s with heap := s.heap.push { cls := .type "str_ascii_iterator", data := .fields #[.str x t, .int 0 0] } }) : wpAny (model prog w) A (call (.builtin "iter") [.str x t]) Q E s := by
  refine Calls.call_function_entry iter_kind iter_plain iter_entry (iter_args _) ?_
  unfold Builtin.«iter»
  refine wpAny_bind (wpAny_of_eq (a := [Value.str x t]) (by kernel_rfl) ?_)
  exact wpAny_bind (wpAny_pyIter_ascii ha (wpAny_pure ⟨_, rfl, h⟩))
theorem called_any {cls : Value} {Q : Bool → Shared → Prop} (h : ∀ b, Q b s) : wpAny (model prog w) A (Builtin.SmallTypes.calledThroughType cls) Q E s := by
  unfold Builtin.SmallTypes.calledThroughType
  exact wpAny_bind (wpAny_stack_any fun st => wpAny_pure (h _))
open AutoSeq1 (wpAny_loadPart') in
set_option maxHeartbeats 1000000 in
theorem meets_enum_sit (it : Addr) (o : Obj) (x : Str) (t : Tok) (i : Nat) (hc : o.cls = .type "str_ascii_iterator") (hd : o.data = .fields #[.str x t, .int i 0]) :
    Meets (Builtin.«enumerate.__new__» ⟨[.type "enumerate", .ref it], []⟩) (fun _ R s => s.heap.get? it = some o ∧
      R (.ok (.ret (.ref s.heap.objs.size))) { s with heap := s.heap.push { cls := .type "enumerate", data := .fields #[.none, .bool false, .ref it, rawInt 0, .none, .none] } }) :=
  .of_wp fun prog w A R s h => by
    obtain ⟨hp, g, d, tk, os⟩ := s
    obtain ⟨hl, h⟩ := h
    obtain ⟨oc, od, oda, osl⟩ := o
    dsimp only at hc hd
    subst hc hd
    have hsub := sub_enumerate
    have hit : Heap.IsStrIter (Shared.heap ⟨hp, g, d, tk, os⟩) it "str_ascii_iterator" x t i := ⟨_, hl, rfl, rfl⟩
    wp_walk using wpAny_loadPart' hl, called_any
    intro b
    cases b
    · wp_walk using wpAny_loadPart' hl, pyIter_sit hit
      exact ⟨_, rfl, h⟩
    · wp_walk using wpAny_loadPart' hl, pyIter_sit hit
      exact ⟨_, rfl, h⟩
theorem call_enum_sit {prog : Program} {w : World} {A : Around} {E : Value → Shared → Prop} {s : Shared} {it : Addr} {x : Str} {t : Tok} {i : Nat} {Q : Value → Shared → Prop} (hit : s.heap.IsStrIter it "str_ascii_iterator" x t i)
    (h : ∀ h', IsEnum h' s.heap.objs.size it 0 .none → (∀ b o, s.heap.get? b = some o → h'.get? b = some o) → Q (.ref s.heap.objs.size) { s with heap := h' }) :
    wpAny (model prog w) A (call (.type "enumerate") [.ref it]) Q E s := by
  obtain ⟨o, ho, hc, hd⟩ := hit
  refine callType_new F.called_enumerate (by decide) (F.typeCall_enumerate_1 _) (F.newCall_enumerate_1 _) (fun obj => F.args_object_init_2 obj _) F.entry_enumerate_new
    (meets_enum_sit it o x t i hc hd) ⟨ho, ?_⟩
  have he : IsEnum (s.heap.push { cls := .type "enumerate", data := .fields #[.none, .bool false, .ref it, rawInt 0, .none, .none] }) s.heap.objs.size it 0 .none := Heap.get?_push_size _ rfl
  exact ⟨⟨_, he, rfl⟩, h _ he fun b o y => Heap.get?_push_of_some _ y⟩
section
variable {prog : Program} {w : World} {A : Around} {E : Value → Shared → Prop} {s : Shared}
theorem enum_draw {e it : Addr} {x : Str} {t : Tok} {k c : Nat} {i : Nat} {old : Value} {Q : Value → Shared → Prop} (he : IsEnum s.heap e it i old) (hit : s.heap.IsStrIter it "str_ascii_iterator" x t k) (hx : x.cps[k]? = some c) (hne : e ≠ it)
    (hQ : ∀ h', IsEnumOut h' e it ((i : Int) + 1) (.str ⟨#[c]⟩ s.toks) s.heap.objs.size → h'.IsStrIter it "str_ascii_iterator" x t (k + 1) →
      h'.IsTuple s.heap.objs.size #[.int i (s.toks + 1), .str ⟨#[c]⟩ s.toks] → (∀ b o, b ≠ e → b ≠ it → s.heap.get? b = some o → h'.get? b = some o) →
      Q (.ref s.heap.objs.size) { s with heap := h', toks := s.toks + 2 }) :
    wpAny (model prog w) A (Builtin.«enumerate.__next__» ⟨[.ref e], []⟩) (fun fin s' => ∃ v, fin = .done (.ret v) ∧ Q v s') E s := by
  have hel := Heap.lt_size he
  obtain ⟨h0, g, d, tk, os⟩ := s
  dsimp only at hel
  show wpAny _ _ (field (.ref e) 2 >>= _) _ _ _
  refine wpAny_bind (wpAny_field he rfl (x := .ref it) rfl (wpAny_bind (wpAny_nextOf_ascii_item hit hx fun h1 hit1 hs1 => ?_)))
  dsimp only at hit1 hs1
  have he1 : IsEnum h1 e it i old := (hs1.2 e hne).trans he
  show wpAny _ _ (field (.ref e) 3 >>= _) _ _ ⟨h1, g, d, tk + 1, os⟩
  refine wpAny_bind (wpAny_field he1 rfl (x := rawInt i) rfl ?_)
  show wpAny _ _ (field (.ref e) 4 >>= _) _ _ ⟨h1, g, d, tk + 1, os⟩
  refine wpAny_bind (wpAny_field he1 rfl (x := .none) rfl ?_)
  show wpAny _ _ (mkInt i >>= _) _ _ ⟨h1, g, d, tk + 1, os⟩
  refine wpAny_bind (wpAny_mkInt ?_)
  show wpAny _ _ (setField (.ref e) 3 (rawInt ((i : Int) + 1)) >>= _) _ _ ⟨h1, g, d, tk + 1 + 1, os⟩
  refine wpAny_bind (wpAny_setField_rec he1 (by simp) fun h2 he2 hs2 => ?_)
  replace he2 : IsEnum h2 e it ((i : Int) + 1) old := he2
  show wpAny _ _ (setField (.ref e) 4 .none >>= _) _ _ ⟨h2, g, d, tk + 1 + 1, os⟩
  refine wpAny_bind (wpAny_setField_rec he2 (by simp) fun h3 he3 hs3 => ?_)
  replace he3 : IsEnum h3 e it ((i : Int) + 1) old := he3
  replace hs2 : Heap.SameBut e h1 h2 := hs2
  replace hs3 : Heap.SameBut e h2 h3 := hs3
  show wpAny _ _ (newTuple [.int i (tk + 1), .str ⟨#[c]⟩ tk] >>= _) _ _ ⟨h3, g, d, tk + 1 + 1, os⟩
  refine wpAny_bind (wpAny_newTuple ?_)
  have hz3 : h3.objs.size = h0.objs.size := hs3.1.trans (hs2.1.trans hs1.1)
  have up3 : ∀ b o, b ≠ e → b ≠ it → h0.get? b = some o → h3.get? b = some o := fun b o q1 q2 y => (hs3.2 b q1).trans ((hs2.2 b q1).trans ((hs1.2 b q2).trans y))
  have it3 : h3.IsStrIter it "str_ascii_iterator" x t (k + 1) := let ⟨o, y, r⟩ := hit1; ⟨o, (hs3.2 it hne.symm).trans ((hs2.2 it hne.symm).trans y), r⟩
  have he4 : IsEnum (h3.push { cls := .type "tuple", data := .seq #[.int i (tk + 1), .str ⟨#[c]⟩ tk] }) e it ((i : Int) + 1) old := Heap.get?_push_of_some _ he3
  have tu4 : (h3.push { cls := .type "tuple", data := .seq #[.int i (tk + 1), .str ⟨#[c]⟩ tk] }).get? h0.objs.size = some { cls := .type "tuple", data := .seq #[.int i (tk + 1), .str ⟨#[c]⟩ tk] } := by
    rw [← hz3]; exact Heap.get?_push_size _ rfl
  have up4 : ∀ b o, b ≠ e → b ≠ it → h0.get? b = some o → (h3.push { cls := .type "tuple", data := .seq #[.int i (tk + 1), .str ⟨#[c]⟩ tk] }).get? b = some o := fun b o q1 q2 y => Heap.get?_push_of_some _ (up3 b o q1 q2 y)
  have it4 : (h3.push { cls := .type "tuple", data := .seq #[.int i (tk + 1), .str ⟨#[c]⟩ tk] }).IsStrIter it "str_ascii_iterator" x t (k + 1) := let ⟨o, y, r⟩ := it3; ⟨o, Heap.get?_push_of_some _ y, r⟩
  show wpAny _ _ (Builtin.SmallTypes.ownedTupleIsFree (.ref e) >>= _) _ _ _
  rw [show (Shared.heap ⟨h3, g, d, tk + 1 + 1, os⟩).objs.size = h0.objs.size from hz3]
  generalize h3.push { cls := .type "tuple", data := .seq #[.int i (tk + 1), .str ⟨#[c]⟩ tk] } = h4 at he4 tu4 up4 it4
  have hTe : h0.objs.size ≠ e := Nat.ne_of_gt hel
  refine wpAny_bind ?_
  unfold Builtin.SmallTypes.ownedTupleIsFree
  refine wpAny_bind (wpAny_field he4 rfl (x := .none) rfl (wpAny_pure ?_))
  simp only [if_true]
  refine wpAny_bind (wpAny_rule (wpAny_bind (wpAny_field he4 rfl (x := old) rfl ?_)))
  refine wpAny_bind (wpAny_setField_rec he4 (by simp) fun h5 he5 hs5 => ?_)
  replace hs5 : Heap.SameBut e h4 h5 := hs5
  replace he5 : IsEnum h5 e it ((i : Int) + 1) (.str ⟨#[c]⟩ tk) := he5
  refine wpAny_bind ?_
  unfold Builtin.SmallTypes.ownedTupleHandOut
  refine wpAny_bind (wpAny_setField_rec he5 (by simp) fun h6 he6 hs6 => ?_)
  replace hs6 : Heap.SameBut e h5 h6 := hs6
  replace he6 : IsEnumOut h6 e it ((i : Int) + 1) (.str ⟨#[c]⟩ tk) h0.objs.size := he6
  refine wpAny_setField_rec he6 (by simp) fun h7 he7 hs7 => ?_
  replace hs7 : Heap.SameBut e h6 h7 := hs7
  replace he7 : IsEnumOut h7 e it ((i : Int) + 1) (.str ⟨#[c]⟩ tk) h0.objs.size := he7
  have same : ∀ b, b ≠ e → h7.get? b = h4.get? b := fun b q => (hs7.2 b q).trans ((hs6.2 b q).trans (hs5.2 b q))
  refine wpAny_bind (wpAny_letGo (wpAny_pure ⟨_, rfl, hQ h7 he7 ?_ ⟨_, (same _ hTe).trans tu4, rfl, _, rfl⟩ fun b o q1 q2 y => (same b q1).trans (up4 b o q1 q2 y)⟩))
  obtain ⟨o, y, r⟩ := it4
  exact ⟨o, (same it hne.symm).trans y, r⟩
theorem enum_next {e it : Addr} {x : Str} {t : Tok} {k c : Nat} {i : Nat} {old : Value} {Q : Option Value → Shared → Prop} (he : IsEnum s.heap e it i old) (hit : s.heap.IsStrIter it "str_ascii_iterator" x t k) (hx : x.cps[k]? = some c) (hne : e ≠ it)
    (hQ : ∀ h', IsEnumOut h' e it ((i : Int) + 1) (.str ⟨#[c]⟩ s.toks) s.heap.objs.size → h'.IsStrIter it "str_ascii_iterator" x t (k + 1) →
      h'.IsTuple s.heap.objs.size #[.int i (s.toks + 1), .str ⟨#[c]⟩ s.toks] → (∀ b o, b ≠ e → b ≠ it → s.heap.get? b = some o → h'.get? b = some o) →
      Q (some (.ref s.heap.objs.size)) { s with heap := h', toks := s.toks + 2 }) :
    wpAny (model prog w) A (pyNext (.ref e)) Q E s := by
  have hT : s.TypeIs (.ref e) "enumerate" := ⟨_, he, rfl⟩
  unfold pyNext
  exact wpAny_bind (wpAny_attempt (wpAny_callSpecial?_slot (name := Str.ofString "__next__") hT F.slot_enumerate_next
    (wpAny_call_entry F.slot_enumerate_next hT F.entry_enumerate_next (enum_draw he hit hx hne fun h' a b c d => wpAny_pure (hQ h' a b c d)) (F.args_enumerate_next_1 _))))
end
end
end
noncomputable section
section
variable {B : Bs} {X : Act} {A : Around} {m : List S} {own : Own}
theorem C_iter {c : List Nat} {R : S → List S → Own → Prop} (hc : c.all (· < 128) = true) (h : ∀ D, R (.own D) m ((D, .sit c 0) :: own)) : JCall B X A (.builtin "iter") [.t (.str c)] m own R := by
  intro vs s G hS hrs Q hQ
  obtain ⟨v, rfl, hr⟩ := reps1 hrs
  obtain ⟨t, rfl⟩ := uStr hr
  refine call_iter_str (by simpa using hc) ?_
  exact hQ _ _ _ _ _ _ (hS.pushO (o := { cls := .type "str_ascii_iterator", data := .fields #[.str ⟨c.toArray⟩ t, .int 0 0] }) (x := .sit c 0) (tk := s.toks) rfl ⟨t, rfl, rfl⟩) (Le.refl G) rO (h _)
theorem JF_ForEI {x1 x2 : Str} {p1 p2 px pos cpos fpos : Pos} {tk' : Nat} {arg : Expr} {body orelse : List Stmt} {k1 k2 : Nat} {R : Fl → List S → Own → Prop} (hh : A.handled = none) (hB : B.Ok) (hN : 0 < B.N)
    (hk : X.env.scope.kind = .function) (hi1 : X.names[k1]? = some x1) (hl1 : X.env.kindOf x1 = some .local) (hi2 : X.names[k2]? = some x2) (hl2 : X.env.kindOf x2 = some .local)
    (hv : B.mg (Str.ofString "enumerate") = none) (hb : bootBuiltins (Str.ofString "enumerate") = some (.type "enumerate")) (hg : X.env.globals = mainGlobals ∧ X.env.builtins = builtinsNs) (hx : X.env.kindOf (Str.ofString "enumerate") = some .globalImplicit)
    (he : eval (.Call (.Name (Str.ofString "enumerate") fpos) [arg] [] cpos) X.env = (do let v ← eval (.Name (Str.ofString "enumerate") fpos) X.env; callWith cpos v [] (backTo cpos (starEach [arg] X.env)) []))
    (hse : starEach [arg] X.env = (false, eval arg X.env) :: starEach [] X.env)
    (hs : ∀ x, foldedSetIterable (.Call (.Name (Str.ofString "enumerate") fpos) [arg] [] cpos) X.env x = pure x)
    (hae : (assignEach [.Name x1 p1, .Name x2 p2] X.env) = [(false, assign (.Name x1 p1) X.env), (false, assign (.Name x2 p2) X.env)])
    (h : JV B X A m own (eval arg X.env) fun sv m1 o1 => ∃ (a : Addr) (c : List Nat) (k n : Nat) (post : Own) (I : Nat → List S → Prop), sv = .own a ∧ o1 = (a, .sit c k) :: post ∧ k + n ≤ c.length ∧ I 0 m1 ∧
      (∀ P j y m2, j < n → c[k + j]? = some y → I j m2 → k1 < m2.length ∧ k2 < m2.length ∧ JF B (X.at P) A ((m2.set k1 (.t (.int j))).set k2 (.t (.nstr B.N [y]))) post (execs body X.env)
        (fun f m3 o3 => o3 = post ∧ ((f = .next ∧ I (j + 1) m3) ∨ ∃ v, f = .ret v ∧ R (.ret v) m3 ((a, .sit c (k + j + 1)) :: post)))) ∧
      (∀ m2, ¬ I n m2)) :
    JF B X A m own (exec (.For (.Tuple [.Name x1 p1, .Name x2 p2] tk' px) (.Call (.Name (Str.ofString "enumerate") fpos) [arg] [] cpos) body orelse pos) X.env) R := by
  intro s G hS _ Q hQ
  refine for_call hB hk hv hb (by decide) (by decide) hg hx he hse hs h hS fun v sv m1 o1 G1 s1 S1 L1 r1 h1 => ?_
  refine aside fun Cg hCg => ?_
  obtain ⟨a, c, k, n, post, I, rfl, rfl, hkn, hI0, turn, done⟩ := h1
  refine hCg ?_
  have hva : v = .ref a := Option.some.inj r1
  subst hva
  refine aside fun Cg hCg => ?_
  obtain ⟨oa, a1, ⟨t, a2, a3⟩, a4, a5, a6, a7⟩ := S1.ow (a, .sit c k) (by simp)
  refine hCg ?_
  have hit : s1.heap.IsStrIter a "str_ascii_iterator" ⟨c.toArray⟩ t k := ⟨oa, a1, a2, a3⟩
  have S1p : St B X m1 post G1 s1 := S1.sub (.cons _ (List.Sublist.refl _))
  have hida : Hid B X G1 post a := ⟨a4, a5, a6, fun x c' e q => a7 x c' e q.symm, fun p hp q => by
    have nd := S1.nodup
    rw [List.cons_append, List.map_cons, List.nodup_cons] at nd
    exact nd.1 (List.mem_map.mpr ⟨p, hp, q⟩)⟩
  refine call_enum_sit hit fun h' hen up => ?_
  have hide := S1p.hid (get_size s1.heap)
  have hne : s1.heap.objs.size ≠ a := Nat.ne_of_gt (Heap.lt_size a1)
  generalize s1.heap.objs.size = e at *
  have S1' : St B X m1 post G1 { s1 with heap := h' } := S1p.grow (h' := h') (tk := s1.toks) up (Le.refl G1) (fun b o q => up b o (S1p.le b o q)) (fun _ _ _ q => q) S1p.hi
  have hit' : h'.IsStrIter a "str_ascii_iterator" ⟨c.toArray⟩ t k := ⟨oa, up _ _ a1, a2, a3⟩
  refine wpAny_pyIter_enum hen ?_
  refine forLoopN (LInv B X G1 n (fun j m o => o = post ∧ I j m) (fun j h => (∃ old, IsEnum h e a (j : Int) old) ∧ h.IsStrIter a "str_ascii_iterator" ⟨c.toArray⟩ t (k + j)) e a) (fun kk s2 hx => ?_) (n + 1)
    (.mk rfl (Nat.zero_le _) S1' (Le.refl _) ⟨rfl, hI0⟩ ⟨⟨_, hen⟩, hit'⟩ hide hida)
  cases hx with
  | @mk j _ m2 o2 G2 _ hn hj S2 L2 hI hw hd hd' =>
  obtain ⟨rfl, hI⟩ := hI
  by_cases hlt : j < n
  · obtain ⟨⟨old, hen2⟩, hit2⟩ := hw
    have hkj : k + j < c.length := by lia
    have hy : c[k + j]? = some c[k + j] := List.getElem?_eq_getElem hkj
    generalize c[k + j] = y at hy
    refine enum_next hen2 hit2 (by simpa using hy) hne fun h2 hen3 hit3 htu up2 => ?_
    refine wpAny_letOwnedTupleGo_enum hen3 fun h3 hen4 hs4 => ?_
    have S4 := (S2.hid2 (h' := h2) (tk := s2.toks + 2) up2 hd hd' (Nat.le_add_right ..)).hid2 (h' := h3) (tk := s2.toks + 2) (fun b o q1 q2 q => (hs4.2 b q1).trans q) hd hd' (Nat.le_refl _)
    have hTe : s2.heap.objs.size ≠ e := Nat.ne_of_gt (Heap.lt_size hen2)
    obtain ⟨oi, hoi, hir⟩ := hit3
    obtain ⟨q1, q2, hb⟩ := turn (AM.put (AM.put X.P e _) a oi) j y m2 hlt hy hI
    have hhi := Nat.le_trans S2.lo S2.hi
    refine enum_turn hh hk hi1 hl1 hi2 hl2 hae hne S4 hd hd' hen4 ((hs4.2 a hne.symm).trans hoi) (let ⟨o, ho, r⟩ := htu; ⟨o, (hs4.2 _ hTe).trans ho, r⟩) (y1 := .int j) (y2 := .nstr B.N [y]) (.cons tInt (.cons (by exact ⟨s2.toks, Nat.lt_of_lt_of_le hN hhi, hhi, rfl⟩) .nil)) q1 q2 hb fun f fa m4 o4 G4 s4 w1 L4 w2 u2 w3 u3 r4 h4' => ?_
    obtain ⟨rfl, h4'⟩ := h4'
    rcases h4' with ⟨rfl, hI4⟩ | ⟨v, rfl, hR⟩
    · cases (show f = .next from r4)
      exact ⟨_, lo_lt hn hlt, .mk rfl hlt w1 (L2.trans L4) ⟨rfl, hI4⟩ ⟨⟨_, w3⟩, ⟨oi, u3, hir⟩⟩ w2 u2⟩
    · obtain ⟨u, rfl, r⟩ := r4
      exact hQ _ _ _ _ _ _ (w1.adopt (x := .sit c (k + j + 1)) u2 u3 ⟨t, hir⟩) (L1.trans (L2.trans L4)) (rRet r) hR
  · exact absurd (Nat.le_antisymm hj (Nat.not_lt.mp hlt) ▸ hI) (done m2)
end
end
noncomputable section
set_option maxHeartbeats 4000000 in
theorem index_it {B : Bs} (hB : LB B) (hN : 0 < B.N) {X : Act} {A : Around} {m : List S} {own : Own} {a : Addr} {c : List Nat} {k r z : Nat} {R : S → List S → Own → Prop} (hA : Room 1 A) (hc : c.length ≤ 100000) (hr : c[k + r]? = some z) (hlt : ∀ j, j < r → c[k + j]? ≠ some z)
    (hR : R (.t (.int r)) m ((a, .sit c (k + r + 1)) :: own)) : JCall B X A (.ref 143) [.own a, .t (.tstr [z])] m ((a, .sit c k) :: own) R := by
  intro vs s G hS hrs Q hQ
  refine wpAny_call (code_defO (n := 0) (ps := [Str.ofString "a", Str.ofString "b"]) (ls := [Str.ofString "i", Str.ofString "j"]) (R := R) hB.ok hA (by rw [hB.K]; exact rfl) (by rw [hB.K]; kernel_rfl!) rfl rfl rfl rfl rfl rfl rfl ?_ ?_ rfl ?_ ?_ ?_ s G vs hS hrs _ fun v b m' own' G' s' S' L' rb hb => hQ v b m' own' G' s' S' L' rb hb)
  · decide +kernel
  · exact len2 fun _ _ => rfl
  · decide +kernel
  · decide +kernel
  · intro env s₀ P G₀ E hA'
    dsimp only at E
    walk_at "jn"
    refine JF_newN hN (fun N => [.own a, .t (.ostr N [z]), .undef, .undef]) (fun G i sv' hi => ?_) fun N hNN hN' => ?_
    · match i with
      | 0 => cases hi; exact ⟨_, rfl, fun o h => h⟩
      | 1 => cases hi; exact ⟨_, rfl, fun o h => by
          obtain ⟨v, rfl, h⟩ := h
          exact ⟨v, rfl, by exact h⟩⟩
      | 2 => cases hi; exact ⟨_, rfl, fun o h => h⟩
      | 3 => cases hi; exact ⟨_, rfl, fun o h => h⟩
      | _ + 4 => cases hi
    have hB' := hB.withN N
    have hBN : (B.withN N).N = N := rfl
    have hN1 : 0 < (B.withN N).N := hN'
    generalize B.withN N = B' at *
    subst hBN
    clear hNN hN'
    refine JF_cons ?_
    refine JF_ForEI (k1 := 2) (k2 := 3) hA'.1 hB'.ok hN1 (by walk_at "jfn") rfl (by walk_at "jkind") rfl (by walk_at "jkind") (n_enumerate hB') b_enumerate ⟨E.globals, E.builtins⟩ (by walk_at "jkind") rfl rfl (fun _ => rfl) rfl ?_
    walk_at "jname"
    have hkr : k + r < c.length := (List.getElem?_eq_some_iff.mp hr).1
    refine ex6 a c k (r + 1) own (fun j m2 => j ≤ r ∧ ∃ s1 s2, m2 = [.own a, .t (.ostr B'.N [z]), s1, s2]) ⟨rfl, rfl, by omega, ⟨Nat.zero_le _, _, _, rfl⟩, ?_, ?_⟩
    · rintro P j y m2 hj hy ⟨hjk, s1, s2, rfl⟩
      have hcm : Cmps B' (.nstr B'.N [y]) (.ostr B'.N [z]) ([y] == [z]) := cmps_str hB'
      refine ⟨by walk_at "jlen", by walk_at "jlen", ?_⟩
      walk_at "jn"
      walk_at "jgo"
      refine JB_Or (op := .Or) ?_
      refine JB_or_cons ?_
      walk_at "jgo"
      have fin : ([y] == [z]) = true → j = r := fun e => by
        have e : y = z := by simpa using e
        subst e
        rcases Nat.lt_or_ge j r with q | q
        · exact absurd hy (hlt j q)
        · omega
      refine (hcm _ _ _ _ _).2 fun r' hr' => ?_
      walk_at "jgo"
      split
      · rename_i q
        have e := fin (hr' q)
        subst e
        rw [if_pos rfl]
        walk_at "jgo"
        exact ⟨rfl, .inr ⟨_, rfl, _, hR, .inl rfl⟩⟩
      · refine JB_or_cons ?_
        walk_at "jgo"
        refine (hcm _ _ _ _ _).1 ?_
        walk_at "jgo"
        split
        · rename_i q
          have e := fin q
          subst e
          rw [if_pos rfl]
          walk_at "jgo"
          exact ⟨rfl, .inr ⟨_, rfl, _, hR, .inl rfl⟩⟩
        · rename_i q
          refine JB_or_nil ?_
          rw [if_neg Bool.false_ne_true]
          walk_at "jgo"
          refine ⟨rfl, .inl ⟨rfl, ?_, _, _, rfl⟩⟩
          rcases Nat.lt_or_ge j r with q' | q'
          · exact q'
          · have : j = r := by omega
            subst this
            rw [hr] at hy
            cases hy
            exact absurd (by simp) q
    · rintro m2 ⟨hle, _⟩
      omega
end
noncomputable section
theorem JF_newNAt {B : Bs} {X : Act} {A : Around} {m : List S} {own : Own} {t : Sem Flow} {R : Fl → List S → Own → Prop} (hN : 0 < B.N) (i : Nat) {sv : S} (sv' : Nat → S) (hm : m[i]? = some sv) (hw : ∀ (G : PM) o, RepS G sv o → RepS G (sv' G.hi) o)
    (h : ∀ N, B.N ≤ N → 0 < N → JF (B.withN N) X A (m.set i (sv' N)) own t R) : JF B X A m own t R := by
  refine JF_newN hN (fun N => m.set i (sv' N)) (fun G j sj hj => ?_) h
  by_cases e : i = j
  · subst e
    rw [List.getElem?_set_self (List.getElem?_eq_some_iff.mp hm).1] at hj
    cases hj
    exact ⟨sv, hm, hw G⟩
  · rw [List.getElem?_set_ne e] at hj
    exact ⟨sj, hj, fun _ r => r⟩
end
noncomputable section
noncomputable def wideOf (m : Nat) (cs : List Int) : List Nat := List.replicate m 32 ++ List.replicate cs.length 9
noncomputable def lateOf (m : Nat) (cs : List Int) : List Nat := List.replicate cs.length 9 ++ List.replicate (m + 1) 32
noncomputable def rowsW (m : Nat) (cs : List Int) : List (Int × Int × Int) := unlikeOf (wideOf m cs) (leadOf cs) (m + 1)
noncomputable def expOf (r : Int × Int × Int) : Int := (r.2.1 - r.2.2).fdiv r.1
noncomputable def prodRows (q : Int) (rows : List (Int × Int × Int)) : Int := rows.foldl (fun n r => n * phi q r.1.toNat ^ (expOf r).toNat) 1
noncomputable def SmallW (x : WS) : Prop := x.c.length ≤ 1000 ∧ x.b ≤ 1000
noncomputable def dgOf : Nat → Nat
  | 2 => 2
  | 3 => 3
  | 4 => 3
  | 5 => 5
  | 6 => 3
  | _ => 1
noncomputable def degRows (rows : List (Int × Int × Int)) : Nat := (rows.map fun r => dgOf r.1.toNat * (expOf r).toNat).sum
structure PlainLaw (rs : List Int) (m bl w : Nat) (cs : List Int) : Prop where
  c1 : 1 ≤ cs.length ∧ cs.length ≤ 4
  c2 : ∀ c ∈ cs, 0 ≤ c ∧ c ≤ 6
  c3 : cs.sum = m
  pg : (wsR (leadOf rs ++ tailOf bl)).c = cs ∧ (wsR (leadOf rs ++ tailOf bl)).b = bl
  tn : (wsR (leadOf (turn1 rs) ++ tailOf bl)).c = cs ∧ (wsR (leadOf (turn1 rs) ++ tailOf bl)).b = bl
  ix : ∀ (j : Nat) (r : Int), rs[j]? = some r → (leadOf rs)[(leadOf (rs.take j)).length + r.toNat]? = some 9 ∧ ∀ i, i < r.toNat → (leadOf rs)[(leadOf (rs.take j)).length + i]? ≠ some 9
  pn : (wsR (leadOf cs)).n = (leadOf cs).length
  ps : ¬ (wsR (leadOf cs)).c.length ≤ 1
  ls : (wsR (lateOf m cs)).c.length ≤ 1
  s1 : SmallW (wsR (wideOf m cs))
  s2 : SmallW (wsR (leadOf cs))
  s3 : SmallW (wsR (lateOf m cs))
  s4 : SmallW (wsR (leadOf cs ++ [32]))
  w1 : witOf (wsR (wideOf m cs)) (wsR (leadOf cs)) (topOf (wsR (wideOf m cs)) (wsR (leadOf cs))) = rowsW m cs
  w2 : witOf (wsR (wideOf m cs)) (wsR (lateOf m cs)) (topOf (wsR (wideOf m cs)) (wsR (lateOf m cs))) = unlikeOf (wideOf m cs) (lateOf m cs) (m + 2)
  w3 : ∀ M, M ∈ cs → (∀ x ∈ cs, x ≤ M) → witOf (wsR (leadOf cs)) (wsR (leadOf cs ++ [32])) (topOf (wsR (leadOf cs)) (wsR (leadOf cs ++ [32]))) = unlikeOf (leadOf cs) (leadOf cs ++ [32]) (M.toNat + 1)
  e1 : ((wsR (leadOf cs)).c == (wsR (leadOf cs ++ [32])).c && (wsR (leadOf cs)).b == (wsR (leadOf cs ++ [32])).b) = false
  e2 : ((wsR (wideOf m cs)).c == (wsR (leadOf cs)).c && (wsR (wideOf m cs)).b == (wsR (leadOf cs)).b) = ((wordsAt cs m).length == 1)
  pr : ∀ x ∈ wordsAt cs m, times m x * (firstT m x + 1) = m
  rw : ∀ r ∈ rowsW m cs, 2 ≤ r.1 ∧ r.1 ≤ m ∧ 0 ≤ expOf r
  rl : (rowsW m cs).length ≤ 20
  dg : degRows (rowsW m cs) ≤ 60
  fin : digs (prodRows (2 ^ w) (rowsW m cs) % (2 ^ (w * m) - 1)) w ((Builtin.Int.intBits (prodRows (2 ^ w) (rowsW m cs) % (2 ^ (w * m) - 1)) + w - 1) / w) = figures m (wordsAt cs m)
theorem leadOf_cons (r : Int) (l : List Int) : leadOf (r :: l) = List.replicate r.toNat 32 ++ [9] ++ leadOf l := by simp [leadOf]
theorem leadOf_append (a b : List Int) : leadOf (a ++ b) = leadOf a ++ leadOf b := by simp [leadOf]
theorem leadOf_take {rs : List Int} {j : Nat} {r : Int} (h : rs[j]? = some r) : (leadOf (rs.take (j + 1))).length = (leadOf (rs.take j)).length + r.toNat + 1 := by
  rw [List.take_add_one, h, Option.toList_some, leadOf_append, List.length_append, leadOf_cons]
  simp [leadOf]; lia
theorem leadOf_ascii : ∀ l : List Int, (leadOf l).all (· < 128) = true
  | [] => rfl
  | r :: l => by
    rw [leadOf_cons, List.all_append, List.all_append, leadOf_ascii l]
    simp
theorem leadOf_len {b : Nat} : ∀ {l : List Int}, (∀ r ∈ l, r ≤ b) → (leadOf l).length ≤ l.length * (b + 1)
  | [], _ => by simp [leadOf]
  | r :: l, h => by
    have h1 := leadOf_len (b := b) (l := l) fun x hx => h x (List.mem_cons_of_mem _ hx)
    have h2 := h r List.mem_cons_self
    have e : (r :: l).length * (b + 1) = l.length * (b + 1) + (b + 1) := by rw [List.length_cons, Nat.succ_mul]
    rw [leadOf_cons, List.length_append, List.length_append, List.length_replicate, e]
    simp only [List.length_cons, List.length_nil]
    lia
theorem hrl_pick {rs : List Int} {m : Nat} (h : rs.length = m) (h4 : 4 ≤ m) (h6 : m ≤ 6) : (pickIdx (rs.map T.int).length none (some 1) none).filterMap (rs[·]?) = rs.take 1 := by
  rw [List.length_map, h, pick_first h4 h6]
  cases rs with
  | nil => simp at h; lia
  | cons r rs => simp
theorem rest_pick {rs : List Int} {m : Nat} (h : rs.length = m) (h4 : 4 ≤ m) (h6 : m ≤ 6) : (pickIdx (rs.map T.int ++ (rs.take 1).map T.int).length (some 1) none none).filterMap ((rs ++ rs.take 1)[·]?) = turn1 rs := by
  have hl : (rs ++ rs.take 1).length = m + 1 := by rw [List.length_append, List.length_take]; lia
  rw [← List.map_append, List.length_map, hl, pick_rest h4 h6, rest_of hl, List.drop_append_of_le_length (by lia)]; rfl
theorem teq_row (r s : Int × Int × Int) : teq (rowT r) (rowT s) = (r == s) := by
  obtain ⟨a, b, c⟩ := r
  obtain ⟨d, e, f⟩ := s
  show (a == d && (b == e && (c == f && true))) = _
  rw [Bool.and_true]
  rfl
theorem cmp_row (r s : Int × Int × Int) : Cmp 1 (rowT r) (rowT s) := .tup (cmp_ints [r.1, r.2.1, r.2.2] [s.1, s.2.1, s.2.2])
theorem cmp_rows (a b : List (Int × Int × Int)) (j : Nat) (x y : T) (h : (a.map rowT)[j]? = some x) (k : (b.map rowT)[j]? = some y) : Cmp 1 x y := by
  rw [List.getElem?_map] at h k
  obtain ⟨i, _, rfl⟩ := Option.map_eq_some_iff.mp h
  obtain ⟨i', _, rfl⟩ := Option.map_eq_some_iff.mp k
  exact cmp_row i i'
theorem teq_rows : ∀ a : List (Int × Int × Int), teqL (a.map rowT) (a.map rowT) = true
  | [] => rfl
  | x :: a => by rw [List.map_cons, teqL_cons, teq_row, teq_rows a, beq_self_eq_true]; rfl
theorem dg_pos : ∀ k, k < 7 → 2 ≤ k → 1 ≤ dgOf k := by decide
theorem dg_tab : ∀ k, k < 7 → 2 ≤ k → (polyPhi k).length ≤ dgOf k ∧ dgOf k ≤ 5 := by decide +kernel
theorem phi_le {q : Int} (hq : 2 ≤ q) {k : Nat} (h2 : 2 ≤ k) (h6 : k ≤ 6) : 1 ≤ phi q k ∧ phi q k ≤ q ^ dgOf k ∧ dgOf k ≤ 5 := by
  obtain ⟨a, _, _, b, _, _⟩ := phi_tab k (Nat.lt_succ_of_le h6) h2
  obtain ⟨c, d⟩ := dg_tab k (Nat.lt_succ_of_le h6) h2
  rw [← evalP_phi]
  exact ⟨evalP_pos hq _ a, Int.le_trans (Int.le_of_lt (evalP_bd hq _ b).2) (pow_up hq c), d⟩
theorem one_le_pow {x : Int} (h : 1 ≤ x) (n : Nat) : 1 ≤ x ^ n := by
  have : 0 < x ^ n := Int.pow_pos (show 0 < x by lia)
  lia
theorem pow_le_pow {x y : Int} (h : 0 ≤ x) (hxy : x ≤ y) : ∀ n : Nat, x ^ n ≤ y ^ n
  | 0 => by simp
  | n + 1 => by
    rw [Int.pow_succ, Int.pow_succ]
    exact Int.mul_le_mul (pow_le_pow h hxy n) hxy h (Int.pow_nonneg (by lia))
theorem prodRows_step (q : Int) {rows : List (Int × Int × Int)} {j : Nat} {r : Int × Int × Int} (h : rows[j]? = some r) : prodRows q (rows.take (j + 1)) = prodRows q (rows.take j) * phi q r.1.toNat ^ (expOf r).toNat := by
  unfold prodRows
  rw [List.take_add_one, h, Option.toList_some, List.foldl_append]; rfl
theorem degRows_step {rows : List (Int × Int × Int)} {j : Nat} {r : Int × Int × Int} (h : rows[j]? = some r) : degRows (rows.take (j + 1)) = degRows (rows.take j) + dgOf r.1.toNat * (expOf r).toNat := by
  unfold degRows
  rw [List.take_add_one, h, Option.toList_some, List.map_append, List.sum_append]; simp
theorem degRows_le {rows : List (Int × Int × Int)} (j : Nat) : degRows (rows.take j) ≤ degRows rows := by
  have e : degRows rows = degRows (rows.take j) + degRows (rows.drop j) := by
    conv => lhs; rw [← List.take_append_drop j rows]
    unfold degRows
    rw [List.map_append, List.sum_append]
  lia
theorem prod_bound {q : Int} (hq : 2 ≤ q) {rows : List (Int × Int × Int)} (hr : ∀ r ∈ rows, 2 ≤ r.1 ∧ r.1 ≤ 6 ∧ 0 ≤ expOf r) : ∀ j, 1 ≤ prodRows q (rows.take j) ∧ prodRows q (rows.take j) ≤ q ^ degRows (rows.take j)
  | 0 => by simp [prodRows, degRows]
  | j + 1 => by
    obtain ⟨h1, h2⟩ := prod_bound hq hr j
    cases h : rows[j]? with
    | none =>
      have : rows.take (j + 1) = rows.take j := by rw [List.take_add_one, h]; simp
      rw [this]; exact ⟨h1, h2⟩
    | some r =>
      obtain ⟨r1, r2, r3⟩ := hr r (List.mem_of_getElem? h)
      obtain ⟨p1, p2, p3⟩ := phi_le hq (k := r.1.toNat) (by lia) (by lia)
      rw [prodRows_step q h, degRows_step h, Int.pow_add, Int.pow_mul]
      have p4 := one_le_pow p1 (expOf r).toNat
      have p5 := pow_le_pow (show 0 ≤ phi q r.1.toNat by lia) p2 (expOf r).toNat
      refine ⟨?_, Int.mul_le_mul h2 p5 (by lia) (Int.pow_nonneg (by lia))⟩
      have := Int.mul_le_mul h1 p4 (by lia) (by lia)
      lia
theorem bits_le_pow {x : Int} {w k : Nat} (h0 : 0 ≤ x) (h : x ≤ (2 ^ w) ^ k) : Builtin.Int.intBits x ≤ w * k + 1 := by
  refine intBits_le h0 ?_
  rw [← Int.pow_mul] at h
  rw [Int.pow_succ]
  have := pow_pos' (w * k)
  lia
end
noncomputable section
theorem JF_AssignPos {B : Bs} {X : Act} {A : Around} {m : List S} {own : Own} {x : Str} {p pos : Pos} {value : Expr} {rest : List Stmt} {i : Nat} {R : Fl → List S → Own → Prop} (hk : X.env.scope.kind = .function) (hi : X.names[i]? = some x)
    (hl : X.env.kindOf x = some .local) (hs : swapsWith value (some (.Name x p)) pos.line X.env = pure false)
    (h : JV B X A m own (eval value X.env) fun a m1 o1 => i < m1.length ∧ ∀ N, B.N ≤ N → 0 < N → JF (B.withN N) X A (m1.set i a) o1 (execs rest X.env) R) : JF B X A m own (execs (.Assign [.Name x p] value pos :: rest) X.env) R := by
  intro s G hS _ Q hQ
  refine wpAny_execs_cons (wpAny_Assign_Name (h s G hS trivial _ fun v a m1 o1 G1 s1 S1 L1 r1 h1 => ?_) hs)
  obtain ⟨hil, h1⟩ := h1
  obtain ⟨mc, hmc⟩ := S1.ns
  refine wpAny_storeName_local hl hmc (fun h' hn hs => ?_) ?_
  · have S2 := S1.storeL (tk := s1.toks + 1) hl hi r1 hmc hn hs
    have hhi := S1.hi
    have hlo := S1.lo
    obtain ⟨S3, L3⟩ := S2.raise (n := max G1.hi 1) (by lia) (by show max G1.hi 1 ≤ s1.toks + 1; lia)
    have S4 := S3.withN (N := max G1.hi 1) (Nat.le_refl _)
    refine h1 (max G1.hi 1) (by lia) (by lia) _ _ S4 trivial Q fun b c m4 o4 G4 s4 S5 L4 r4 h4 => ?_
    have h5 : max G1.hi 1 ≤ G4.hi := L4.hi
    exact hQ b c m4 o4 G4 s4 (S5.fromN (by lia)) (L1.trans (L3.trans L4)) r4 h4
  · show (X.env.scope.kind == .class || (X.env.scope.kind == .module && _)) = false
    rw [hk]; rfl
end
noncomputable section
noncomputable def FunC (B : Bs) (fv : Value) (n : Nat) (args : List T) (Rr : T → Prop) : Prop :=
  ∀ (A : Around) (s : Shared) (G : PM) (vs : List Value), Room n A → (∀ b o, G.ob b = some o → s.heap.get? b = some o) → (∀ b o, B.H.get? b = some o → G.ob b = some o) → G.hi ≤ s.toks → B.N ≤ G.hi → PlOk B G s.heap → RepL G args vs →
    ∀ RR : Result → Shared → Prop, (∀ v r G' h' tk, (∀ b o, (∀ p ∈ B.pl, p.1 ≠ b) → s.heap.get? b = some o → h'.get? b = some o) → Le G G' → (∀ b o, G'.ob b = some o → h'.get? b = some o) → (∀ b o, s.heap.get? b = some o → G.ob b = none → G'.ob b = none) →
      G'.hi ≤ tk → PlOk B G' h' → RepT G' r v → Rr r → RR (.ok (.ret v)) { s with heap := h', toks := tk }) → codeAny (model B.prog B.w) A (.call fv ⟨vs, []⟩) RR s
theorem FunC_of_def {B : Bs} {f : Addr} {fd : FuncData} {oc : Value} {od : Option Addr} {osl : Array (Option Value)} {body : List Stmt} {ps ls : List Str} {args : List T} {n : Nat} {Rr : T → Prop}
    (hB : B.Ok) (hK : B.K.lookup f = some ⟨oc, od, .func fd, osl⟩) (hcd : codeIn B.K fd.code fd.qualname = true) (hbody : fd.body = .stmts body) (hclo : fd.closure = [])
    (hco : fd.scope.isCoroutine = false) (hgen : fd.scope.isGenerator = false) (hk : fd.scope.kind = .function)
    (hbind : ∀ vs : List Value, vs.length = ps.length → bindArgs fd ⟨vs, []⟩ = pure (ps.zip vs)) (hlen : args.length = ps.length) (hnd : (ps ++ ls).Nodup)
    (hkinds : ∀ x ∈ ps ++ ls, fd.scope.names.lookup x = some .local ∨ fd.scope.names.lookup x = some .cell)
    (h : ∀ (A : Around) (L : Addr) (s₀ : Shared) (P : AM) (G₀ : PM), Room n A → (∀ c, L < c → P c = none) →
      JF B ⟨callEnvC fd L f, ps ++ ls, s₀, P, G₀⟩ A (args.map .t ++ ls.map fun _ => .undef) [] (execs body (callEnvC fd L f)) (RetOK Rr)) : FunC B (.ref f) (n + 1) args Rr := by
  intro A s G vs hA le base hhi hlo hpl hr RR hQ
  have hvl : vs.length = ps.length := by rw [hr.length, hlen]
  have up : ∀ b o, B.H.get? b = some o → s.heap.get? b = some o := fun b o e => le b o (base b o e)
  have hcells : ∀ x, fd.scope.names.lookup x = some .cell → ((cellsFrom (s.heap.objs.size + 1) fd.scope.names []).lookup x).isSome = true := fun x e => cellsFrom_some _ _ _ (.inl e)
  refine (call_cellsT (binds := ps.zip vs) (by have := hA.2.1; lia) (up _ _ (hB.kin _ _ hK)) rfl (hB.nolimit.keeps up) ((codeRec_of hB.kin hcd).keeps up) hbody (hbind vs hvl) hclo ?_ (fun s₁ htk ic => ?_) hco hgen hk)
  · intro x hx
    have : x.1 ∈ ps := (List.of_mem_zip (show (x.1, x.2) ∈ ps.zip vs from hx)).1
    rcases hkinds x.1 (List.mem_append_left _ this) with q | q
    · exact .inl q
    · exact .inr ⟨q, hcells _ q⟩
  have none_up : ∀ c, s.heap.objs.size ≤ c → s.heap.get? c = none := fun c hc => by
    cases e : s.heap.get? c with
    | none => rfl
    | some o => exact absurd (Heap.lt_size e) (Nat.not_lt.mpr hc)
  have Gnone : ∀ c, s.heap.get? c = none → G.ob c = none := fun c hc => by
    cases e : G.ob c with
    | none => rfl
    | some o => rw [le c o e] at hc; cases hc
  have cells_up : ∀ x c, (callEnvC fd s.heap.objs.size f).cells.lookup x = some c → s.heap.get? c = none := fun x c e => none_up c (Nat.le_of_lt (ic.above x c (mem_of_lookup e)))
  have nd := List.nodup_append.mp hnd
  let P0 : AM := fun b => if b ∈ B.pl.map (·.1) then none else s.heap.get? b
  have P0_some : ∀ b o, P0 b = some o → s.heap.get? b = some o := fun b o e => by
    dsimp only [P0] at e
    split at e
    · cases e
    · exact e
  have P0_none : ∀ b, s.heap.get? b = none → P0 b = none := fun b e => by
    cases q : P0 b with
    | none => rfl
    | some o => rw [P0_some b o q] at e; cases e
  have P0_pl : ∀ p ∈ B.pl, P0 p.1 = none := fun p hp => if_pos (List.mem_map_of_mem hp)
  have P0_up : ∀ b o, (∀ p ∈ B.pl, p.1 ≠ b) → s.heap.get? b = some o → P0 b = some o := fun b o hb e => by
    refine (if_neg fun q => ?_).trans e
    obtain ⟨p, hp, q⟩ := List.mem_map.mp q
    exact hb p hp q
  let X : Act := ⟨callEnvC fd s.heap.objs.size f, ps ++ ls, s, P0, G⟩
  have S0 : St B X (args.map Mine.S.t ++ ls.map fun _ => Mine.S.undef) [] G s₁ := {
    same := ic.toInCall.same
    hi := Nat.le_trans hhi htk
    lo := hlo
    le := fun b o e => ic.toInCall.keep b o (le b o e)
    base := base
    g0 := Le.refl G
    prot := fun b o e => ic.toInCall.keep b o (P0_some b o e)
    apart := fun b o _ e => e
    ns := ⟨_, ic.toInCall.ns⟩
    GL := Gnone _ (get_size s.heap)
    PL := P0_none _ (get_size s.heap)
    cells := fun x c e => ⟨let ⟨o, ho, _⟩ := ic.cell x c e; ⟨o, ho⟩, fun _ => Gnone c (cells_up x c e)⟩
    vars := fun i x sv e1 e2 => by
      have hx : x ∈ ps ++ ls := List.mem_of_getElem? e1
      by_cases hip : i < ps.length
      · have e1' : ps[i]? = some x := by rw [← e1]; exact (List.getElem?_append_left hip).symm
        have hia : i < (args.map Mine.S.t).length := by simp; lia
        rw [List.getElem?_append_left hia, List.getElem?_map] at e2
        obtain ⟨y, hy, rfl⟩ := Option.map_eq_some_iff.mp e2
        obtain ⟨v, hv, hr'⟩ := hr.get hy
        refine ⟨some v, ?_, rT hr'⟩
        rcases hkinds x hx with q | q
        · exact .inl ⟨q, _, ic.toInCall.ns, bindL_in q nd.1 e1' hv⟩
        · have hc := hcells x q
          obtain ⟨c, hc⟩ := Option.isSome_iff_exists.mp hc
          have := ic.cell x c hc
          rw [bindC_in (by show ¬ fd.scope.names.lookup x = _; rw [q]; intro e; cases e) nd.1 e1' hv] at this
          exact .inr ⟨.inl q, c, hc, this⟩
      · have hip' : ps.length ≤ i := Nat.not_lt.mp hip
        have hia : (args.map Mine.S.t).length ≤ i := by simp; lia
        rw [List.getElem?_append_right hia, List.getElem?_map] at e2
        obtain ⟨y, hy, rfl⟩ := Option.map_eq_some_iff.mp e2
        rw [show (X.names : List Str) = ps ++ ls from rfl, List.getElem?_append_right hip'] at e1
        have hxl : x ∈ ls := List.mem_of_getElem? e1
        have hxp : x ∉ ps := fun q => nd.2.2 x q x hxl rfl
        refine ⟨none, ?_, rfl⟩
        rcases hkinds x hx with q | q
        · exact .inl ⟨q, _, ic.toInCall.ns, bindL_out hxp⟩
        · have hc := hcells x q
          obtain ⟨c, hc⟩ := Option.isSome_iff_exists.mp hc
          have := ic.cell x c hc
          rw [bindC_out hxp] at this
          exact .inr ⟨.inl q, c, hc, this⟩
    ow := fun p hp => by
      rw [List.nil_append] at hp
      obtain ⟨e1, ob, e2, e3⟩ := hpl p hp
      exact ⟨ob, ic.toInCall.keep _ _ e2, e3, e1, P0_pl p hp, (fun q => by rw [show p.1 = s.heap.objs.size from q, get_size] at e2; cases e2), (fun x c e q => by rw [q, cells_up x c e] at e2; cases e2)⟩
    nodup := hB.plnd
    names := hnd
    cinj := fun x y c e1 e2 => name_of_addr ic.apart (mem_of_lookup e1) (mem_of_lookup e2) }
  refine wpAny_mono (h (A.deeper _) s.heap.objs.size s P0 G hA.deeper (fun c hc => P0_none c (none_up c (Nat.le_of_lt hc))) s₁ G S0 trivial _ fun fl fa m' o' G' s' S' L' r' h' => ?_) (fun _ _ y => y) fun _ _ y => y.elim
  have fin : ∀ v r G2, St B X m' o' G' s' → (∃ o2, St B X m' o2 G2 s') → Le G G2 → RepT G2 r v → Rr r → RR (.ok (.ret v)) s' := fun v r G2 S1 S2 L2 hr hR => by
    obtain ⟨o2, S2⟩ := S2
    obtain ⟨h', tk, e⟩ := S1.same
    subst e
    refine hQ v r G2 h' tk (fun b o hb e => S2.prot b o (P0_up b o hb e)) L2 S2.le (fun b o e e' => ?_) S2.hi (fun p hp => let ⟨ob, a, b, c, _⟩ := S2.ow p (List.mem_append_right _ hp); ⟨c, ob, a, b⟩) hr hR
    by_cases hb : ∀ p ∈ B.pl, p.1 ≠ b
    · exact S2.apart b o (P0_up b o hb e) e'
    · refine Classical.byContradiction fun q => hb fun p hp e1 => q ?_
      obtain ⟨_, _, _, c, _⟩ := S2.ow p (List.mem_append_right _ hp)
      rw [← e1]; exact c
  cases fa with
  | next =>
    rw [show fl = .next from r']
    exact fin .none .none G' S' ⟨_, S'⟩ L' tNone h'
  | brk => exact h'.elim
  | cont => exact h'.elim
  | ret sv =>
    obtain ⟨v, rfl, rv⟩ := r'
    cases sv with
    | undef => exact h'.elim
    | t r => exact fin v r G' S' ⟨_, S'⟩ L' (uT rv) h'
    | own a =>
      refine aside fun Cg hCg => ?_
      obtain ⟨xs, o2, rfl, hR⟩ := h'
      obtain ⟨G2, S2, L2, r2⟩ := St.freeze (pre := []) (i := 0) S'
      refine hCg ?_
      have e : v = .ref a := Option.some.inj rv
      exact fin v (.lst xs) G2 S' ⟨_, S2⟩ (L'.trans L2) (e ▸ r2) hR
theorem FunC_of {B : Bs} {f : Addr} {fd : FuncData} {oc : Value} {od : Option Addr} {osl : Array (Option Value)} {body : List Stmt} {ps ls : List Str} {args : List T} {n : Nat} {Rr : T → Prop}
    (hB : B.Ok) (hK : B.K.lookup f = some ⟨oc, od, .func fd, osl⟩) (hcd : codeIn B.K fd.code fd.qualname = true) (hbody : fd.body = .stmts body) (hclo : fd.closure = [])
    (hco : fd.scope.isCoroutine = false) (hgen : fd.scope.isGenerator = false) (hk : fd.scope.kind = .function) (hgl : fd.globals = mainGlobals) (hbu : fd.builtins = builtinsNs)
    (hbind : ∀ vs : List Value, vs.length = ps.length → bindArgs fd ⟨vs, []⟩ = pure (ps.zip vs)) (hlen : args.length = ps.length) (hnd : (ps ++ ls).Nodup)
    (hkinds : ∀ x ∈ ps ++ ls, fd.scope.names.lookup x = some .local ∨ fd.scope.names.lookup x = some .cell)
    (h : ∀ (A : Around) (L : Addr) (env : Env) (s₀ : Shared) (P : AM) (G₀ : PM), Room n A → (∀ c, L < c → P c = none) → EnvIs env fd.scope (cellsFrom (L + 1) fd.scope.names []) →
      JF B ⟨env, ps ++ ls, s₀, P, G₀⟩ A (args.map .t ++ ls.map fun _ => .undef) [] (execs body env) (RetOK Rr)) : FunC B (.ref f) (n + 1) args Rr :=
  FunC_of_def hB hK hcd hbody hclo hco hgen hk hbind hlen hnd hkinds fun A L s₀ P G₀ hA hP => h A L _ s₀ P G₀ hA hP ⟨rfl, hgl, hbu, rfl⟩
end
noncomputable section
theorem scan_blanks (k : Nat) (r : List Nat) : ∀ (c : List Int) (b n t : Nat), scanW (List.replicate k 32 ++ r) c b n t = scanW r c (b + k) (n + k) t := by
  induction k with
  | zero => intro c b n t; simp
  | succ k ih =>
    intro c b n t
    rw [List.replicate_succ, List.cons_append, scanW, if_pos rfl, ih]
    congr 1 <;> lia
theorem scan_lead (r : List Nat) : ∀ (ns : List Nat) (c : List Int) (n t : Nat), ∃ n' t', scanW (leadOf (ns.map Int.ofNat) ++ r) c 0 n t = scanW r (ns.foldl bump c) 0 n' t'
  | [], c, n, t => ⟨n, t, rfl⟩
  | x :: ns, c, n, t => by
    obtain ⟨n', t', h⟩ := scan_lead r ns (bump c x) (n + x + 1) (t + 1)
    refine ⟨n', t', ?_⟩
    rw [List.map_cons, leadOf_cons, List.append_assoc, List.append_assoc, show (Int.ofNat x).toNat = x from rfl, scan_blanks, List.singleton_append, scanW, if_neg (by decide), if_pos rfl, Nat.zero_add, h]
    rfl
theorem scan_tail (bl : Nat) (c : List Int) (n t : Nat) : (scanW (tailOf bl) c 0 n t).1 = c ∧ (scanW (tailOf bl) c 0 n t).2.1 = bl := by
  unfold tailOf
  rw [scan_blanks, scanW, if_neg (by decide), if_neg (by decide), Nat.zero_add]
  exact ⟨rfl, rfl⟩
theorem grow_getD (c : List Int) (b i : Nat) : (grow c b).getD i 0 = c.getD i 0 := by
  unfold grow
  split
  · rw [List.getD_eq_getElem?_getD, List.getD_eq_getElem?_getD, List.getElem?_append]
    split
    · rfl
    · rename_i h
      rw [List.getElem?_replicate, List.getElem?_eq_none (by lia)]
      split <;> rfl
  · rfl
theorem bump_getD (c : List Int) (b i : Nat) : (bump c b).getD i 0 = c.getD i 0 + (if b = i then 1 else 0) := by
  unfold bump
  rw [List.getD_eq_getElem?_getD, List.getElem?_set, ← grow_getD c b i]
  by_cases h : b = i
  · subst h
    rw [if_pos rfl, if_pos grow_len.1, if_pos rfl]; rfl
  · rw [if_neg h, if_neg h, ← List.getD_eq_getElem?_getD]; lia
theorem fold_bump_getD (i : Nat) : ∀ (ns : List Nat) (c : List Int), (ns.foldl bump c).getD i 0 = c.getD i 0 + (ns.count i : Nat)
  | [], c => by simp
  | x :: ns, c => by
    rw [List.foldl_cons, fold_bump_getD i ns, bump_getD, List.count_cons]
    by_cases h : x = i
    · subst h; simp; lia
    · simp [h]
theorem fold_bump_len : ∀ (ns : List Nat) (c : List Int), (ns.foldl bump c).length = ns.foldl (fun l x => max l (x + 1)) c.length
  | [], c => rfl
  | x :: ns, c => by
    rw [List.foldl_cons, fold_bump_len ns, List.foldl_cons]
    congr 1
    rw [bump, List.length_set]
    unfold grow
    split
    · rw [List.length_append, List.length_replicate]; lia
    · lia
theorem fold_max {M : Nat} : ∀ (ns : List Nat) (l : Nat), (∀ x ∈ ns, x ≤ M) → l ≤ M + 1 → ns.foldl (fun l x => max l (x + 1)) l ≤ M + 1 ∧ l ≤ ns.foldl (fun l x => max l (x + 1)) l ∧ (M ∈ ns → ns.foldl (fun l x => max l (x + 1)) l = M + 1)
  | [], l, _, hl => ⟨hl, Nat.le_refl _, fun h => nomatch h⟩
  | x :: ns, l, h, hl => by
    have hx := h x List.mem_cons_self
    obtain ⟨a, b, c⟩ := fold_max (M := M) ns (max l (x + 1)) (fun y hy => h y (List.mem_cons_of_mem _ hy)) (by lia)
    rw [List.foldl_cons]
    refine ⟨a, by lia, fun hm => ?_⟩
    rcases List.mem_cons.mp hm with rfl | hm
    · lia
    · exact c hm
noncomputable def nats (rs : List Int) : List Nat := rs.map Int.toNat
theorem nats_back {rs : List Int} (h : ∀ x ∈ rs, 0 ≤ x) : (nats rs).map Int.ofNat = rs := by
  unfold nats
  rw [List.map_map]
  conv => rhs; rw [← List.map_id rs]
  apply List.map_congr_left
  intro x hx
  have := h x hx
  show ((x.toNat : Nat) : Int) = x
  lia
theorem cnt_nats {rs : List Int} (h : ∀ x ∈ rs, 0 ≤ x) (i : Nat) : cntAt rs i = ((nats rs).count i : Nat) := by
  unfold cntAt nats
  congr 1
  induction rs with
  | nil => rfl
  | cons x rs ih =>
    have hx := h x List.mem_cons_self
    rw [List.map_cons, List.map_cons, List.count_cons, List.count_cons, ih fun y hy => h y (List.mem_cons_of_mem _ hy)]
    congr 1
    have e : (x == (i : Int)) = (x.toNat == i) := by rw [Bool.eq_iff_iff, beq_iff_eq, beq_iff_eq]; lia
    rw [e]
    cases x.toNat == i <;> rfl
theorem fold_cnts {rs : List Int} {M : Int} (h : ∀ x ∈ rs, 0 ≤ x) (hM : M ∈ rs) (hx : ∀ x ∈ rs, x ≤ M) : (nats rs).foldl bump [] = cntsOf rs M := by
  have hM0 := h M hM
  have hl : ((nats rs).foldl bump []).length = M.toNat + 1 := by
    rw [fold_bump_len]
    refine (fold_max (M := M.toNat) (nats rs) 0 (fun y hy => ?_) (by lia)).2.2 (List.mem_map_of_mem hM)
    obtain ⟨x, hx', rfl⟩ := List.mem_map.mp hy
    have := hx x hx'
    lia
  apply List.ext_getElem?
  intro i
  by_cases hi : i < M.toNat + 1
  · have h1 := fold_bump_getD i (nats rs) []
    rw [List.getD_eq_getElem?_getD, List.getElem?_eq_getElem (by lia)] at h1
    rw [List.getElem?_eq_getElem (by lia)]
    unfold cntsOf
    rw [List.getElem?_map, List.getElem?_range hi]
    congr 1
    rw [cnt_nats h]
    simpa using h1
  · rw [List.getElem?_eq_none (by lia), List.getElem?_eq_none (by simp [cntsOf]; lia)]
theorem page_scan {rs : List Int} {M : Int} {bl : Nat} (h : ∀ x ∈ rs, 0 ≤ x) (hM : M ∈ rs) (hx : ∀ x ∈ rs, x ≤ M) : (wsR (leadOf rs ++ tailOf bl)).c = cntsOf rs M ∧ (wsR (leadOf rs ++ tailOf bl)).b = bl := by
  obtain ⟨n', t', e⟩ := scan_lead (tailOf bl) (nats rs) [] 0 0
  rw [nats_back h, fold_cnts h hM hx] at e
  unfold wsR
  dsimp only
  rw [e]
  exact scan_tail bl _ n' t'
theorem turn_cnts {rs : List Int} (M : Int) : cntsOf (turn1 rs) M = cntsOf rs M := by
  unfold cntsOf
  apply List.map_congr_left
  intro i _
  unfold cntAt turn1
  rw [List.map_append, List.count_append, Nat.add_comm, ← List.count_append, ← List.map_append, List.take_append_drop]
theorem turn_mem {rs : List Int} {x : Int} : x ∈ turn1 rs ↔ x ∈ rs := by
  unfold turn1
  rw [List.mem_append, or_comm, ← List.mem_append, List.take_append_drop]
theorem index_lead {rs : List Int} {j : Nat} {r : Int} (h : rs[j]? = some r) : (leadOf rs)[(leadOf (rs.take j)).length + r.toNat]? = some 9 ∧ ∀ i, i < r.toNat → (leadOf rs)[(leadOf (rs.take j)).length + i]? ≠ some 9 := by
  have hj := (List.getElem?_eq_some_iff.mp h)
  obtain ⟨hlt, he⟩ := hj
  have e : rs = rs.take j ++ r :: rs.drop (j + 1) := by
    conv => lhs; rw [← List.take_append_drop j rs, List.drop_eq_getElem_cons hlt, he]
  have e2 : leadOf rs = leadOf (rs.take j) ++ (List.replicate r.toNat 32 ++ ([9] ++ leadOf (rs.drop (j + 1)))) := by
    conv => lhs; rw [e]
    rw [leadOf_append, leadOf_cons, List.append_assoc]
  rw [e2]
  constructor
  · rw [List.getElem?_append_right (by lia), Nat.add_sub_cancel_left, List.getElem?_append_right (by simp)]
    simp
  · intro i hi
    rw [List.getElem?_append_right (by lia), Nat.add_sub_cancel_left, List.getElem?_append_left (by simpa using hi), List.getElem?_replicate, if_pos hi]
    simp
theorem sum_map_count (K : Nat) : ∀ ns : List Nat, (∀ x ∈ ns, x < K) → ((List.range K).map fun i => ns.count i).sum = ns.length
  | [], _ => by
    simp only [List.count_nil]
    induction K with
    | zero => rfl
    | succ k ih => rw [List.range_succ, List.map_append, List.sum_append, ih (fun _ h => nomatch h)]; rfl
  | x :: ns, h => by
    have ih := sum_map_count K ns fun y hy => h y (List.mem_cons_of_mem _ hy)
    have hx := h x List.mem_cons_self
    have e : ((List.range K).map fun i => (x :: ns).count i) = (List.range K).map fun i => ns.count i + (if x == i then 1 else 0) := by
      apply List.map_congr_left
      intro i _
      rw [List.count_cons]
    have e2 : ∀ (l : List Nat) (f g : Nat → Nat), (l.map fun i => f i + g i).sum = (l.map f).sum + (l.map g).sum := by
      intro l f g
      induction l with
      | nil => rfl
      | cons a l ih => simp only [List.map_cons, List.sum_cons, ih]; lia
    have e3 : ∀ K : Nat, x < K → ((List.range K).map fun i => if x == i then 1 else 0).sum = 1 := by
      intro K
      induction K with
      | zero => intro h; lia
      | succ k ih =>
        intro h
        rw [List.range_succ, List.map_append, List.sum_append]
        by_cases hk : x = k
        · subst hk
          have : ((List.range x).map fun i => if x == i then 1 else 0) = (List.range x).map fun _ => 0 := by
            apply List.map_congr_left
            intro i hi
            have := List.mem_range.mp hi
            rw [if_neg (by simp; lia)]
          rw [this]
          have z : ∀ l : List Nat, (l.map fun _ => 0).sum = 0 := by
            intro l; induction l with
            | nil => rfl
            | cons a l ih => rw [List.map_cons, List.sum_cons, ih]
          rw [z]; simp
        · rw [ih (by lia)]; simp [hk]
    rw [e, e2, ih, e3 K hx, List.length_cons]
noncomputable def natCnts (rs : List Int) (M : Int) : List Nat := (List.range (M.toNat + 1)).map fun i => (nats rs).count i
theorem cnts_nat {rs : List Int} {M : Int} (h : ∀ x ∈ rs, 0 ≤ x) : cntsOf rs M = (natCnts rs M).map Int.ofNat := by
  unfold cntsOf natCnts
  rw [List.map_map]
  apply List.map_congr_left
  intro i _
  exact cnt_nats h i
theorem natCnts_sum {rs : List Int} {M : Int} (h : ∀ x ∈ rs, 0 ≤ x) (hx : ∀ x ∈ rs, x ≤ M) : (natCnts rs M).sum = rs.length := by
  unfold natCnts
  rw [sum_map_count (M.toNat + 1) (nats rs) fun y hy => ?_]
  · simp [nats]
  · obtain ⟨x, hx', rfl⟩ := List.mem_map.mp hy
    have := hx x hx'
    have := h x hx'
    lia
theorem natCnts_last {rs : List Int} {M : Int} (hM : M ∈ rs) : (natCnts rs M).getLast? ≠ some 0 := by
  unfold natCnts
  rw [List.range_succ, List.map_append, List.getLast?_append]
  simp only [List.map_cons, List.map_nil, List.getLast?_singleton, Option.some_or]
  intro q
  have : 0 < (nats rs).count M.toNat := List.count_pos_iff.mpr (List.mem_map_of_mem hM)
  have := Option.some.inj q
  lia
noncomputable def comps : Nat → Nat → List (List Nat)
  | 0, 0 => [[]]
  | 0, _ + 1 => []
  | k + 1, s => (List.range (s + 1)).flatMap fun a => (comps k (s - a)).map (a :: ·)
theorem comps_mem : ∀ {k s : Nat} {v : List Nat}, v.length = k → v.sum = s → v ∈ comps k s
  | 0, s, [], _, hs => by simp at hs; subst hs; simp [comps]
  | k + 1, s, a :: v, hl, hs => by
    rw [List.sum_cons] at hs
    rw [comps, List.mem_flatMap]
    exact ⟨a, List.mem_range.mpr (by lia), List.mem_map.mpr ⟨v, comps_mem (by simpa using hl) (by lia), rfl⟩⟩
end
noncomputable section
noncomputable def powP (p : List Int) : Nat → List Int
  | 0 => [1]
  | n + 1 => mulP p (powP p n)
theorem evalP_pow (q : Int) (p : List Int) : ∀ n : Nat, evalP q (powP p n) = evalP q p ^ n
  | 0 => by simp [powP, evalP]
  | n + 1 => by rw [powP, evalP_mul, evalP_pow q p n, Int.pow_succ, Int.mul_comm]
noncomputable def polyRows (rows : List (Int × Int × Int)) : List Int := rows.foldl (fun p r => mulP p (powP (polyPhi r.1.toNat) (expOf r).toNat)) [1]
theorem evalP_rows (q : Int) (rows : List (Int × Int × Int)) : evalP q (polyRows rows) = prodRows q rows := by
  have : ∀ (rows : List (Int × Int × Int)) (p : List Int) (n : Int), evalP q p = n → evalP q (rows.foldl (fun p r => mulP p (powP (polyPhi r.1.toNat) (expOf r).toNat)) p) = rows.foldl (fun n r => n * phi q r.1.toNat ^ (expOf r).toNat) n := by
    intro rows
    induction rows with
    | nil => intro p n h; exact h
    | cons r rows ih =>
      intro p n h
      rw [List.foldl_cons, List.foldl_cons]
      exact ih _ _ (by rw [evalP_mul, evalP_pow, evalP_phi, h])
  exact this rows [1] 1 (by simp [evalP])
theorem evalP_append (q : Int) : ∀ a b : List Int, evalP q (a ++ b) = evalP q a + q ^ a.length * evalP q b
  | [], b => by simp [evalP]
  | x :: a, b => by rw [List.cons_append, evalP, evalP_append q a b, evalP, List.length_cons, Int.pow_succ, Int.mul_add, Int.mul_comm (q ^ a.length) q, Int.mul_assoc]; lia
noncomputable def foldP (m : Nat) : Nat → List Int → List Int
  | 0, p => p
  | n + 1, p => if p.length ≤ m then p else foldP m n (addP (p.take m) (p.drop m))
theorem foldP_mod (q : Int) (m : Nat) : ∀ (n : Nat) (p : List Int), ∃ k, evalP q p = evalP q (foldP m n p) + (q ^ m - 1) * k
  | 0, p => ⟨0, by simp [foldP]⟩
  | n + 1, p => by
    rw [foldP]
    split
    · exact ⟨0, by simp⟩
    · rename_i h
      obtain ⟨k, hk⟩ := foldP_mod q m n (addP (p.take m) (p.drop m))
      refine ⟨k + evalP q (p.drop m), ?_⟩
      have e := evalP_append q (p.take m) (p.drop m)
      rw [List.take_append_drop, List.length_take, Nat.min_eq_left (by lia)] at e
      rw [evalP_add] at hk
      rw [Int.mul_add, Int.sub_mul, Int.sub_mul, Int.one_mul, Int.one_mul]
      rw [Int.sub_mul, Int.one_mul] at hk
      lia
noncomputable def padP (m : Nat) (p : List Int) : List Int := p ++ List.replicate (m - p.length) 0
theorem evalP_zeros (q : Int) : ∀ n : Nat, evalP q (List.replicate n 0) = 0
  | 0 => rfl
  | n + 1 => by rw [List.replicate_succ, evalP, evalP_zeros q n]; simp
theorem evalP_pad (q : Int) (m : Nat) (p : List Int) : evalP q (padP m p) = evalP q p := by
  unfold padP
  rw [evalP_append, evalP_zeros]; simp
theorem evalP_valD (n : Nat) : ∀ l : List Int, evalP (2 ^ n) l = valD n l
  | [] => rfl
  | d :: r => by rw [evalP, evalP_valD n r, valD, Int.mul_comm]
theorem valD_zeros (n : Nat) (k : Nat) : valD n (List.replicate k 0) = 0 := by rw [← evalP_valD, evalP_zeros]
theorem valD_top {n : Nat} : ∀ {l : List Int}, (∀ d ∈ l, 0 ≤ d ∧ d ≤ 2 ^ n - 2) → valD n l ≤ 2 ^ (n * l.length) - 1 ∧ (l ≠ [] → valD n l ≤ 2 ^ (n * l.length) - 2)
  | [], _ => by simp [valD]
  | d :: r, h => by
    have h1 := (valD_top (l := r) fun x hx => h x (List.mem_cons_of_mem _ hx)).1
    have h2 := h d List.mem_cons_self
    have hp := pow_pos' n
    rw [valD, List.length_cons, Nat.mul_succ, pow_add']
    have h3 := Int.mul_le_mul_of_nonneg_right h1 (Int.le_of_lt hp)
    rw [Int.sub_mul, Int.one_mul] at h3
    exact ⟨by lia, fun _ => by lia⟩
theorem digs_valD {n : Nat} : ∀ {l : List Int}, (∀ d ∈ l, 0 ≤ d ∧ d < 2 ^ n) → digs (valD n l) n l.length = l
  | [], _ => rfl
  | d :: r, h => by
    have ih := digs_valD (n := n) (l := r) fun x hx => h x (List.mem_cons_of_mem _ hx)
    obtain ⟨h1, h2⟩ := h d List.mem_cons_self
    have hp := pow_pos' n
    rw [List.length_cons, Nat.add_comm, digs_add, Nat.mul_one, valD]
    have e1 : (d + valD n r * 2 ^ n) % 2 ^ n = d := by rw [Int.add_mul_emod_self_right, Int.emod_eq_of_lt h1 h2]
    have e2 : (d + valD n r * 2 ^ n) / 2 ^ n = valD n r := by rw [Int.add_mul_ediv_right _ _ (by lia), Int.ediv_eq_zero_of_lt h1 h2, Int.zero_add]
    rw [e1, e2, ih, digs_one h1 h2]; rfl
theorem fin_of {m w k : Nat} {rows : List (Int × Int × Int)} {S : List Int} {z : Int} (hw : 6 ≤ w) (hm : 1 ≤ m) (h : padP m (foldP m 40 (polyRows rows)) = S ++ List.replicate k 0) (hl : (S ++ List.replicate k 0).length = m)
    (hf : ∀ f ∈ S, 0 ≤ f ∧ f ≤ 62) (hz : S.getLast? = some z) (hz0 : z ≠ 0) :
    digs (prodRows (2 ^ w) rows % (2 ^ (w * m) - 1)) w ((Builtin.Int.intBits (prodRows (2 ^ w) rows % (2 ^ (w * m) - 1)) + w - 1) / w) = S := by
  have hq : (64 : Int) ≤ 2 ^ w := by
    obtain ⟨j, rfl⟩ : ∃ j, w = 6 + j := ⟨w - 6, by lia⟩
    rw [pow_add']
    have := pow_pos' j
    have e : (2 : Int) ^ 6 = 64 := by decide
    rw [e]; lia
  obtain ⟨c, hc⟩ := foldP_mod (2 ^ w) m 40 (polyRows rows)
  rw [evalP_rows, ← evalP_pad (2 ^ w) m, h, evalP_valD, valD_append, valD_zeros, Int.zero_mul, Int.add_zero, ← Int.pow_mul] at hc
  have hf2 : ∀ d ∈ S ++ List.replicate k 0, 0 ≤ d ∧ d ≤ 2 ^ w - 2 := fun d hd => by
    rcases List.mem_append.mp hd with hd | hd
    · have := hf d hd; lia
    · rw [List.eq_of_mem_replicate hd]; lia
  have htop := (valD_top hf2).2 (fun q => by rw [q] at hl; simp at hl; lia)
  rw [hl, valD_append, valD_zeros, Int.zero_mul, Int.add_zero] at htop
  have hb := valD_bound (n := w) (l := S) fun d hd => by have := hf d hd; lia
  have hV : prodRows (2 ^ w) rows % (2 ^ (w * m) - 1) = valD w S := by
    rw [hc, Int.add_mul_emod_self_left, Int.emod_eq_of_lt hb.1 (by lia)]
  rw [hV]
  have hK : (Builtin.Int.intBits (valD w S) + w - 1) / w = S.length := by
    obtain ⟨S', rfl⟩ := List.getLast?_eq_some_iff.mp hz
    have hzb := hf z (by simp)
    have hup := intBits_le hb.1 hb.2
    have hlow : w * S'.length + 1 ≤ Builtin.Int.intBits (valD w (S' ++ [z])) := by
      rcases Nat.lt_or_ge (w * S'.length) (Builtin.Int.intBits (valD w (S' ++ [z]))) with q | q
      · exact q
      · have h1 := intBits_ge hb.1 q
        have hb' := valD_bound (n := w) (l := S') fun d hd => by have := hf d (List.mem_append_left _ hd); lia
        rw [valD_append, valD_one] at h1
        have hp := pow_pos' (w * S'.length)
        have := Int.mul_le_mul_of_nonneg_right (show 1 ≤ z by lia) (Int.le_of_lt hp)
        lia
    rw [List.length_append] at hup ⊢
    simp only [List.length_cons, List.length_nil, Nat.mul_add, Nat.mul_one, Nat.zero_add] at hup ⊢
    generalize Builtin.Int.intBits (valD w (S' ++ [z])) = b at *
    apply Nat.div_eq_of_lt_le
    · rw [Nat.add_mul, Nat.one_mul, Nat.mul_comm]; lia
    · rw [Nat.succ_mul, Nat.add_mul, Nat.one_mul, Nat.mul_comm S'.length w]; lia
  rw [hK]
  exact digs_valD fun d hd => by have := hf d hd; lia
end
noncomputable section
noncomputable def casted (v : List Nat) : List Int := v.map Int.ofNat
noncomputable def smallB (x : WS) : Bool := decide (x.c.length ≤ 1000) && decide (x.b ≤ 1000)
noncomputable def good1 (m : Nat) (cs : List Int) : Bool :=
  decide ((wsR (leadOf cs)).n = (leadOf cs).length) && !decide ((wsR (leadOf cs)).c.length ≤ 1) && decide ((wsR (lateOf m cs)).c.length ≤ 1) &&
  smallB (wsR (wideOf m cs)) && smallB (wsR (leadOf cs)) && smallB (wsR (lateOf m cs)) && smallB (wsR (leadOf cs ++ [32]))
noncomputable def good2 (m : Nat) (cs : List Int) : Bool :=
  decide (witOf (wsR (wideOf m cs)) (wsR (leadOf cs)) (topOf (wsR (wideOf m cs)) (wsR (leadOf cs))) = rowsW m cs) &&
  decide (witOf (wsR (wideOf m cs)) (wsR (lateOf m cs)) (topOf (wsR (wideOf m cs)) (wsR (lateOf m cs))) = unlikeOf (wideOf m cs) (lateOf m cs) (m + 2)) &&
  (cs.all fun M => !(cs.all fun x => decide (x ≤ M)) || decide (witOf (wsR (leadOf cs)) (wsR (leadOf cs ++ [32])) (topOf (wsR (leadOf cs)) (wsR (leadOf cs ++ [32]))) = unlikeOf (leadOf cs) (leadOf cs ++ [32]) (M.toNat + 1)))
noncomputable def good3 (m : Nat) (cs : List Int) : Bool :=
  !((wsR (leadOf cs)).c == (wsR (leadOf cs ++ [32])).c && (wsR (leadOf cs)).b == (wsR (leadOf cs ++ [32])).b) &&
  (((wsR (wideOf m cs)).c == (wsR (leadOf cs)).c && (wsR (wideOf m cs)).b == (wsR (leadOf cs)).b) == ((wordsAt cs m).length == 1)) &&
  ((wordsAt cs m).all fun x => decide (times m x * (firstT m x + 1) = m)) &&
  ((rowsW m cs).all fun r => decide (2 ≤ r.1) && decide (r.1 ≤ m) && decide (0 ≤ expOf r)) && decide ((rowsW m cs).length ≤ 20) && decide (degRows (rowsW m cs) ≤ 60)
noncomputable def good4 (m : Nat) (cs : List Int) : Bool :=
  decide (padP m (foldP m 40 (polyRows (rowsW m cs))) = figures m (wordsAt cs m) ++ List.replicate (m - (figures m (wordsAt cs m)).length) 0) && decide ((figures m (wordsAt cs m)).length ≤ m) &&
  ((figures m (wordsAt cs m)).all fun f => decide (0 ≤ f) && decide (f ≤ 62)) && (match (figures m (wordsAt cs m)).getLast? with | some z => !decide (z = 0) | none => false)
noncomputable def good (m : Nat) (cs : List Int) : Bool := good1 m cs && good2 m cs && good3 m cs && good4 m cs
noncomputable def allGood (m k : Nat) : Bool := (comps k m).all fun v => (v.getLast? == some 0) || good m (casted v)
theorem g41 : allGood 4 1 = true := by decide +kernel
theorem g42 : allGood 4 2 = true := by decide +kernel
theorem g43 : allGood 4 3 = true := by decide +kernel
theorem g44 : allGood 4 4 = true := by decide +kernel
theorem g51 : allGood 5 1 = true := by decide +kernel
theorem g52 : allGood 5 2 = true := by decide +kernel
theorem g53 : allGood 5 3 = true := by decide +kernel
theorem g61 : allGood 6 1 = true := by decide +kernel
theorem g62 : allGood 6 2 = true := by decide +kernel
end
noncomputable section
theorem all_good {m k : Nat} {v : List Nat} (h4 : 4 ≤ m) (h6 : m ≤ 6) (hk1 : 1 ≤ k) (hk : k ≤ 8 - m) (hl : v.length = k) (hs : v.sum = m) (hz : v.getLast? ≠ some 0) : good m (casted v) = true := by
  have e : allGood m k = true := by
    clear hl hs hz
    obtain rfl | rfl | rfl : m = 4 ∨ m = 5 ∨ m = 6 := by lia
    · obtain rfl | rfl | rfl | rfl : k = 1 ∨ k = 2 ∨ k = 3 ∨ k = 4 := by lia
      · exact g41
      · exact g42
      · exact g43
      · exact g44
    · obtain rfl | rfl | rfl : k = 1 ∨ k = 2 ∨ k = 3 := by lia
      · exact g51
      · exact g52
      · exact g53
    · obtain rfl | rfl : k = 1 ∨ k = 2 := by lia
      · exact g61
      · exact g62
  have h1 := List.all_eq_true.mp e v (comps_mem hl hs)
  rw [Bool.or_eq_true] at h1
  rcases h1 with h1 | h1
  · exact absurd (by simpa using h1) hz
  · exact h1
theorem le_sum : ∀ {v : List Nat} {a : Nat}, a ∈ v → a ≤ v.sum
  | b :: v, a, h => by
    rw [List.sum_cons]
    rcases List.mem_cons.mp h with rfl | h
    · lia
    · have := le_sum h; lia
theorem sum_cast (v : List Nat) : (v.map Int.ofNat).sum = (v.sum : Nat) := by
  induction v with
  | nil => rfl
  | cons a v ih =>
    rw [List.map_cons, List.sum_cons, ih, List.sum_cons]
    show ((a : Nat) : Int) + _ = _
    lia
theorem smallB_iff {x : WS} (h : smallB x = true) : SmallW x := by
  unfold smallB at h
  rw [Bool.and_eq_true, decide_eq_true_eq, decide_eq_true_eq] at h
  exact h
theorem plain_law (rs : List Int) (m bl w : Nat) (M : Int) (h4 : 4 ≤ m) (h6 : m ≤ 6) (_hbl : bl ≤ 2) (hw : 6 ≤ w) (_hw2 : w ≤ 2405) (hl : rs.length = m) (hrs : ∀ x ∈ rs, 0 ≤ x ∧ x < 8 - m) (hM : M ∈ rs) (hMx : ∀ x ∈ rs, x ≤ M) :
    PlainLaw rs m bl w (cntsOf rs M) := by
  have h0 : ∀ x ∈ rs, 0 ≤ x := fun x hx => (hrs x hx).1
  have hM0 := hrs M hM
  have ht0 : ∀ x ∈ turn1 rs, 0 ≤ x := fun x hx => h0 x (turn_mem.mp hx)
  have hpg := page_scan (bl := bl) h0 hM hMx
  have htn := page_scan (rs := turn1 rs) (M := M) (bl := bl) ht0 (turn_mem.mpr hM) fun x hx => hMx x (turn_mem.mp hx)
  rw [turn_cnts] at htn
  have hv := cnts_nat (M := M) h0
  have hvl : (natCnts rs M).length = M.toNat + 1 := by simp [natCnts]
  have hvs := natCnts_sum h0 hMx
  have hvz := natCnts_last hM
  rw [hl] at hvs
  generalize natCnts rs M = v at *
  have hg := all_good h4 h6 (show 1 ≤ M.toNat + 1 by lia) (show M.toNat + 1 ≤ 8 - m by lia) hvl hvs hvz
  rw [show casted v = cntsOf rs M from hv.symm] at hg
  have hcl : (cntsOf rs M).length = M.toNat + 1 := by rw [hv, List.length_map, hvl]
  have hc2 : ∀ c ∈ cntsOf rs M, 0 ≤ c ∧ c ≤ 6 := fun c hc => by
    rw [hv] at hc
    obtain ⟨a, ha, rfl⟩ := List.mem_map.mp hc
    have := le_sum ha
    show 0 ≤ ((a : Nat) : Int) ∧ ((a : Nat) : Int) ≤ 6
    lia
  have hc3 : (cntsOf rs M).sum = m := by rw [hv, sum_cast, hvs]
  generalize cntsOf rs M = cs at *
  unfold good at hg
  simp only [Bool.and_eq_true] at hg
  obtain ⟨⟨⟨g1, g2⟩, g3⟩, g4⟩ := hg
  unfold good1 at g1
  unfold good2 at g2
  unfold good3 at g3
  unfold good4 at g4
  simp only [Bool.and_eq_true, decide_eq_true_eq] at g1 g2 g3 g4
  obtain ⟨⟨⟨⟨⟨⟨a1, a2⟩, a3⟩, a4⟩, a5⟩, a6⟩, a7⟩ := g1
  obtain ⟨⟨b1, b2⟩, b3⟩ := g2
  obtain ⟨⟨⟨⟨⟨d1, d2⟩, d3⟩, d4⟩, d5⟩, d6⟩ := g3
  obtain ⟨⟨⟨f1, f2⟩, f3⟩, f4⟩ := g4
  refine ⟨by lia, hc2, hc3, hpg, htn, fun j r hr => index_lead hr, a1, ?_, a3, smallB_iff a4, smallB_iff a5, smallB_iff a6, smallB_iff a7, b1, b2, fun Mc hMc hMcx => ?_, ?_, ?_, fun x hx => ?_, fun r hr => ?_, d5, d6, ?_⟩
  · simpa using a2
  · have := List.all_eq_true.mp b3 Mc hMc
    rw [Bool.or_eq_true] at this
    rcases this with h | h
    · exfalso
      rw [Bool.not_eq_true', List.all_eq_false] at h
      obtain ⟨x, hx, hx2⟩ := h
      exact hx2 (decide_eq_true (hMcx x hx))
    · exact of_decide_eq_true h
  · rw [Bool.not_eq_true'] at d1; exact d1
  · exact eq_of_beq d2
  · exact of_decide_eq_true (List.all_eq_true.mp d3 x hx)
  · have := List.all_eq_true.mp d4 r hr
    simp only [Bool.and_eq_true, decide_eq_true_eq] at this
    exact ⟨this.1.1, this.1.2, this.2⟩
  · cases hz : (figures m (wordsAt cs m)).getLast? with
    | none => rw [hz] at f4; cases f4
    | some z =>
      rw [hz] at f4
      have hz0 : z ≠ 0 := by simpa using f4
      refine fin_of hw (by lia) f1 ?_ (fun f hf => ?_) hz hz0
      · rw [List.length_append, List.length_replicate]; lia
      · have := List.all_eq_true.mp f3 f hf
        simp only [Bool.and_eq_true, decide_eq_true_eq] at this
        exact this
end
noncomputable section
theorem wk_runs {N : Nat} {rs : List Int} : ∀ (G : PM) o, RepS G (.t (.lst (rs.map (.oint N)))) o → RepS G (.t (.lst (rs.map .int))) o := fun _ _ h => lst_mono (fun _ h => int_of_o h) h
noncomputable def totOf (ns : List Int) : Int := if ns.sum < 0 then -ns.sum else ns.sum
noncomputable def manyOf (ns : List Int) : Nat := 4 + ((totOf ns) / 9 % 3).toNat
noncomputable def widthOf (ns : List Int) : Nat := 6 + ((totOf ns) / 64 % 2400).toNat
noncomputable def blanksOf (ns : List Int) : Nat := ((totOf ns) / 3 % 3).toNat
set_option maxHeartbeats 40000000 in
theorem law_walk {B : Bs} (hB : LB B) {ns : List Int} (hns : ns.length ≤ 1000)
    (hplain : ∀ (rs : List Int) (m bl w : Nat) (M : Int), 4 ≤ m → m ≤ 6 → bl ≤ 2 → 6 ≤ w → w ≤ 2405 → rs.length = m → (∀ x ∈ rs, 0 ≤ x ∧ x < 8 - m) → M ∈ rs → (∀ x ∈ rs, x ≤ M) → PlainLaw rs m bl w (cntsOf rs M)) : FunC B (.ref 203) 11 [.lst (ns.map .int)] (fun r => r = .bool true) := by
  have hsl : sizeLine = 2 ^ 24 := rfl
  refine FunC_of (n := 10) (ps := [Str.ofString "script"]) (ls := [Str.ofString "total", Str.ofString "many", Str.ofString "width", Str.ofString "blanks", Str.ofString "runs", Str.ofString "page", Str.ofString "turned", Str.ofString "asked", Str.ofString "counts", Str.ofString "wide", Str.ofString "narrow", Str.ofString "late", Str.ofString "whole", Str.ofString "parts", Str.ofString "simple", Str.ofString "beside", Str.ofString "witness", Str.ofString "words", Str.ofString "shares", Str.ofString "number", Str.ofString "size", Str.ofString "far", Str.ofString "near", Str.ofString "ring", Str.ofString "laps", Str.ofString "left"])
    hB.ok (by rw [hB.K]; exact rfl) (by rw [hB.K]; kernel_rfl!) rfl rfl rfl rfl rfl rfl rfl ?_ rfl ?_ ?_ ?_
  · exact len1 fun _ => rfl
  · decide +kernel
  · decide +kernel
  · intro A L env s₀ P G₀ hA hP E
    dsimp only at E
    have ht0 : 0 ≤ totOf ns := by unfold totOf; split <;> lia
    have hm1 : ((manyOf ns : Nat) : Int) = 4 + (totOf ns) / 9 % 3 := by unfold manyOf; lia
    have hm4 : 4 ≤ manyOf ns := by lia
    have hm6 : manyOf ns ≤ 6 := by lia
    have hw1 : ((widthOf ns : Nat) : Int) = 6 + (totOf ns) / 64 % 2400 := by unfold widthOf; lia
    have hw2 : 6 ≤ widthOf ns ∧ widthOf ns ≤ 2405 := by lia
    have hb1 : ((blanksOf ns : Nat) : Int) = (totOf ns) / 3 % 3 := by unfold blanksOf; lia
    have hb2 : blanksOf ns ≤ 2 := by lia
    generalize manyOf ns = m at *
    generalize widthOf ns = w at *
    generalize blanksOf ns = bl at *
    walk_at "jn"
    refine JF_AssignPos (i := 1) (by walk_at "jfn") rfl (by walk_at "jkind") rfl ?_
    walk_at "c_abs"
    refine JL_cons ?_ rfl
    walk_at "c_sum"
    walk_at "jgo"
    refine C_sum hA.1 (.inl rfl) ?_
    walk_at "jgo"
    refine C_abs ?_
    refine ⟨by walk_at "jlen", fun N hNN hN => ?_⟩
    replace hB := hB.withN N
    have hBN : (B.withN N).N = N := rfl
    replace hN : 0 < (B.withN N).N := hN
    generalize B.withN N = B at *
    subst hBN
    clear hNN
    walk_at "jn"
    rw [show (if ns.sum < 0 then -ns.sum else ns.sum) = totOf ns from rfl]
    generalize totOf ns = tot at *
    walk_at "jgo"
    refine B_floordiv (by lia) (PyProof.noPylong_small (by decide)) ?_
    walk_at "jgo"
    refine B_mod (by lia) ?_
    walk_at "jgo"
    rw [Int.fdiv_eq_ediv_of_nonneg _ (by lia), Int.fmod_eq_emod_of_nonneg _ (by lia), ← hm1]
    refine B_floordiv (by lia) (PyProof.noPylong_small (by decide)) ?_
    walk_at "jgo"
    refine B_mod (by lia) ?_
    walk_at "jgo"
    rw [Int.fdiv_eq_ediv_of_nonneg _ (by lia), Int.fmod_eq_emod_of_nonneg _ (by lia), ← hw1]
    refine B_floordiv (by lia) (PyProof.noPylong_small (by decide)) ?_
    walk_at "jgo"
    refine B_mod (by lia) ?_
    walk_at "jgo"
    rw [Int.fdiv_eq_ediv_of_nonneg _ (by lia), Int.fmod_eq_emod_of_nonneg _ (by lia), ← hb1]
    refine JF_AssignC (i := 5) (by walk_at "jfn") rfl (by walk_at "jkind") (fun c hc => hP c (cells_above E hc)) rfl fun _ hGo => ?_
    walk_at "c__law_runs"
    walk_at "jgo"
    refine C_fun (args := [.lst (ns.map .int), .int m]) (runs_spec hB hN hm4 hm6 hns) (hA.le (by walk_at "jlen")) ?_
    rintro _ ⟨rs, hrl, hrs, rfl⟩
    walk_at "jset"
    walk_at "jn"
    refine JF_newNAt hN 5 (fun N => .t (.lst (rs.map (.oint N)))) rfl (fun G o h => lst_mono (fun _ h => oint_of h) h) fun N hNN hN' => ?_
    have hB' := hB.withN N
    have hBN : (B.withN N).N = N := rfl
    have hN1 : 0 < (B.withN N).N := hN'
    generalize B.withN N = B' at *
    subst hBN
    clear hNN hN'
    have hll := leadOf_len (b := 7) (l := rs) fun r hr => by have := hrs r hr; lia
    have hrs' : ∀ r ∈ rs, 0 ≤ r ∧ r ≤ 1000 := fun r hr => by have := hrs r hr; lia
    walk_at "jn"
    refine JF_cons ?_
    walk_at "jassign"
    walk_at "c_Whitespace"
    refine JL_cons ?_ rfl
    walk_at "c_concat"
    refine JL_cons ?_ rfl
    walk_at "c__law_lead"
    refine JL_cons ?_ rfl
    walk_at "jnamew"
    case hw => exact wk_runs
    walk_at "jgo"
    refine C_funE (args := [.lst (rs.map .int)]) (lead_spec hB' hrs' (by lia)) (hA.le (by walk_at "jlen")) ?_
    walk_at "jgo"
    refine B_muls (by lia) (by lia) ?_
    walk_at "jgo"
    rw [Int.toNat_natCast]
    refine B_adds (by simp; lia) ?_
    rw [show List.replicate bl 32 ++ [120, 9, 32] = tailOf bl from rfl]
    have htl : (tailOf bl).length ≤ 5 := by simp [tailOf]; lia
    walk_at "jgo"
    refine C_funE (args := [.str (leadOf rs), .str (tailOf bl)]) (concat_str hB' (by lia)) (hA.le (by walk_at "jlen")) ?_
    walk_at "jgo"
    refine ws_make hB' (by rw [List.length_append]; lia) (hA.le (by walk_at "jlen")) ?_
    walk_at "jn"
    walk_at "jset"
    walk_at "jn"
    refine JF_cons ?_
    walk_at "jassign"
    walk_at "c_Whitespace"
    refine JL_cons ?_ rfl
    walk_at "c_concat"
    refine JL_cons ?_ rfl
    walk_at "c__law_lead"
    refine JL_cons ?_ rfl
    refine JV_freeze ?_
    refine JV_SliceO ?_
    walk_at "c_concat"
    refine JL_cons ?_ rfl
    walk_at "jnamew"
    case hw => exact wk_runs
    refine JL_cons ?_ rfl
    refine JV_freeze ?_
    refine JV_SliceO ?_
    walk_at "jnamew"
    case hw => exact wk_runs
    try dsimp only [JPart]
    walk_at "jgo"
    refine ⟨_, rfl, ?_⟩
    refine ⟨_, .inl rfl, by rw [List.length_map]; lia, (fun q => by cases q), fun D => ⟨D, _, [], rfl, rfl, ?_⟩⟩
    rw [map_pick, hrl_pick hrl hm4 hm6]
    walk_at "jgo"
    refine C_funE (args := [.lst (rs.map .int), .lst ((rs.take 1).map .int)]) (concat_lst hB' (by simp; lia)) (hA.le (by walk_at "jlen")) ?_
    try dsimp only [JPart]
    walk_at "jgo"
    refine ⟨_, rfl, ?_⟩
    refine ⟨_, .inl rfl, by simp; lia, (fun q => by cases q), fun D => ⟨D, _, [], rfl, rfl, ?_⟩⟩
    have hrp := rest_pick hrl hm4 hm6
    have htm := map_pick (rs ++ rs.take 1) (pickIdx (rs.map T.int ++ (rs.take 1).map T.int).length (some 1) none none)
    rw [hrp, List.map_append] at htm
    rw [htm]
    have htl1 : (turn1 rs).length = m := by simp [turn1]; lia
    have hts : ∀ r ∈ turn1 rs, 0 ≤ r ∧ r ≤ 7 := fun r hr => by
      have : r ∈ rs := by
        rcases List.mem_append.mp hr with h | h
        · exact List.mem_of_mem_drop h
        · exact List.mem_of_mem_take h
      have := hrs r this
      lia
    have hll1 := leadOf_len (b := 7) (l := turn1 rs) fun r hr => (hts r hr).2
    walk_at "jgo"
    refine C_funE (args := [.lst ((turn1 rs).map .int)]) (lead_spec hB' (fun r hr => by have := hts r hr; lia) (by lia)) (hA.le (by walk_at "jlen")) ?_
    walk_at "jgo"
    refine B_muls (by lia) (by lia) ?_
    walk_at "jgo"
    rw [Int.toNat_natCast]
    refine B_adds (by simp; lia) ?_
    rw [show List.replicate bl 32 ++ [120, 9, 32] = tailOf bl from rfl]
    walk_at "jgo"
    refine C_funE (args := [.str (leadOf (turn1 rs)), .str (tailOf bl)]) (concat_str hB' (by lia)) (hA.le (by walk_at "jlen")) ?_
    walk_at "jgo"
    refine ws_make hB' (by rw [List.length_append]; lia) (hA.le (by walk_at "jlen")) ?_
    walk_at "jn"
    walk_at "jset"
    rw [← wsR_T, ← wsR_T]
    have hun : A.units + 80 < cLine := hA.2.2
    walk_at "jn"
    refine JF_cons ?_
    walk_at "jif"
    refine JB_Compare ?_ (by with_unfolding_all rfl)
    walk_at "awn"
    case ha => exact ws_norm hB'
    case hf => exact (rfl : _ = some (normT (wsR (leadOf rs ++ tailOf bl)).c (wsR (leadOf rs ++ tailOf bl)).b))
    case hh => exact rfl
    refine JV_Tuple ?_
    refine JL_cons ?_ rfl
    walk_at "c_tuple"
    refine JL_cons ?_ rfl
    with_reducible refine JV_Comp (cl := [(Str.ofString "runs", L + 1)]) (names := [Str.ofString "run", Str.ofString "runs"]) (k := 0) (compOk E ?a1 ?a2 ?a3 ?a4 ?a5 ?a6 ?a7 ?a8 ?a9) ?_
    case a1 => exact rfl
    case a2 => decide +kernel
    case a3 => exact rfl
    case a4 => decide +kernel
    case a5 => exact rfl
    case a6 => exact ⟨rfl, trivial⟩
    case a7 => decide +kernel
    case a8 => exact rfl
    case a9 => exact fun _ => rfl
    walk_at "c_range"
    walk_at "jgo"
    walk_at "c_max"
    refine JL_cons ?_ rfl
    walk_at "jnamew"
    case hw => exact wk_runs
    walk_at "jgo"
    refine C_max hA.1 (fun q => by rw [q] at hrl; simp at hrl; lia) (.inl rfl) fun M hM hMx => ?_
    have pl := hplain rs m bl w M hm4 hm6 hb2 hw2.1 hw2.2 hrl hrs hM hMx
    clear hplain
    have hM0 := hrs M hM
    walk_at "jgo"
    refine C_range1 ?_
    refine ⟨upN B'.N 0 (M + 1), [.undef, .t (.lst (rs.map (.oint B'.N)))], fun j acc o => o = [] ∧ acc = ((List.range j).map (cntAt rs)).map .int, src_rngN hA.1 hN1 (by lia) (by lia) (by lia) (by lia), ⟨?_, by walk_at "jlen", ?_, ⟨rfl, rfl⟩, ?_⟩, ?_⟩
    · rw [upN_length]; lia
    · exact SlotsOk.get (P := CSlot _ _ _ _) ⟨slotU rfl, slotC E 5 rfl rfl rfl rfl rfl, trivial⟩
    · rintro C h P' j y o acc hj ⟨rfl, rfl⟩ hacc
      obtain ⟨hlt, rfl⟩ := upN_inv hj
      refine cturn0 E fun E' => ?_
      dsimp only at E' ⊢
      walk_at "c_countOf"
      walk_at "jgo"
      refine C_fun (args := [.lst (rs.map (.oint B'.N)), .nint B'.N (0 + j)]) (countOf_spec hB' (rs := rs.map fun x => x == (j : Int)) (by simp) fun i e he => ?_) (hA.le (by walk_at "jlen")) ?_
      · rw [List.getElem?_map] at he
        obtain ⟨x, hx, rfl⟩ := Option.map_eq_some_iff.mp he
        have hxb := hrs x (List.mem_of_getElem? hx)
        refine ⟨x == (j : Int), by rw [List.getElem?_map, hx]; rfl, ?_⟩
        have := cmps_int (B := B') (N := B'.N) (i := x) (j := 0 + j) (fun _ => by lia)
        rw [Int.zero_add] at this ⊢
        exact this
      rintro _ rfl
      refine ⟨rfl, _, rfl, rfl, ?_⟩
      rw [List.range_succ, List.map_append, List.map_append]; rfl
    rintro acc o ⟨rfl, rfl⟩ hacc
    rw [upN_length, show (M + 1 - 0).toNat = M.toNat + 1 by lia, show (List.range (M.toNat + 1)).map (cntAt rs) = cntsOf rs M from rfl]
    generalize cntsOf rs M = cs at *
    walk_at "jgo"
    refine C_tuple (.inl rfl) (by rw [List.length_map]; have := pl.c1; lia) ?_
    walk_at "jgo"
    refine ⟨[.tup (cs.map .int), .int bl], rfl, Nat.le_of_ble_eq_true rfl, ?_⟩
    refine C_neT (x := normT (wsR (leadOf rs ++ tailOf bl)).c (wsR (leadOf rs ++ tailOf bl)).b) (y := normT cs bl) (cmp_norm ..) (by lia) ?_
    rw [teq_norm, pl.pg.1, pl.pg.2, beq_self_eq_true, beq_self_eq_true]
    walk_at "jgo"
    rw [if_neg (by decide)]
    walk_at "jgo"
    refine JF_AssignC (i := 8) (by walk_at "jfn") rfl (by walk_at "jkind") (fun c hc => hP c (cells_above E hc)) rfl fun _ hGo => ?_
    walk_at "c_iter"
    refine JL_cons ?_ rfl
    walk_at "c__law_lead"
    refine JL_cons ?_ rfl
    walk_at "jnamew"
    case hw => exact wk_runs
    walk_at "jgo"
    refine C_funE (args := [.lst (rs.map .int)]) (lead_spec hB' hrs' (by lia)) (hA.le (by walk_at "jlen")) ?_
    walk_at "jgo"
    refine C_iter (leadOf_ascii rs) fun Da => ?_
    walk_at "jset"
    walk_at "jn"
    refine JF_cons ?_
    refine J.mono (R := fun f m' o' => f = .next ∧ m' = [.t (.lst (ns.map .int)), .t (.int tot), .t (.int m), .t (.int w), .t (.int bl), .t (.lst (rs.map (.oint B'.N))), .t (wsR (leadOf rs ++ tailOf bl)).T, .t (wsR (leadOf (turn1 rs) ++ tailOf bl)).T, .own Da, .undef, .undef, .undef, .undef, .undef, .undef, .undef, .undef, .undef, .undef, .undef, .undef, .undef, .undef, .undef, .undef, .undef, .undef]) ?_ ?_
    · walk_at "jif"
      refine JB_Or (op := .Or) ?_
      refine JB_or_cons ?_
      refine JB_Compare ?_ (by with_unfolding_all rfl)
      with_reducible refine JV_Comp (cl := [(Str.ofString "asked", L + 1 + 1)]) (names := [Str.ofString "run", Str.ofString "asked"]) (k := 0) (compOk E ?a1 ?a2 ?a3 ?a4 ?a5 ?a6 ?a7 ?a8 ?a9) ?_
      case a1 => exact rfl
      case a2 => decide +kernel
      case a3 => exact rfl
      case a4 => decide +kernel
      case a5 => exact rfl
      case a6 => exact ⟨rfl, trivial⟩
      case a7 => decide +kernel
      case a8 => exact rfl
      case a9 => exact fun _ => rfl
      walk_at "jname"
      refine ⟨rs.map (.oint B'.N), [.undef, .own Da], fun j acc o => o = [(Da, .sit (leadOf rs) (leadOf (rs.take j)).length)] ∧ acc = (rs.take j).map .int, src_lst hA.1, ⟨?_, by walk_at "jlen", ?_, ⟨rfl, rfl⟩, ?_⟩, ?_⟩
      · rw [List.length_map]; lia
      · exact SlotsOk.get (P := CSlot _ _ _ _) ⟨slotU rfl, slotC E 8 rfl rfl rfl rfl rfl, trivial⟩
      · rintro C h P' j y o acc hj ⟨rfl, rfl⟩ hacc
        rw [List.getElem?_map] at hj
        obtain ⟨r, hr, rfl⟩ := Option.map_eq_some_iff.mp hj
        have hr0 := hrs r (List.mem_of_getElem? hr)
        obtain ⟨i1, i2⟩ := pl.ix j r hr
        refine cturn0 E fun E' => ?_
        dsimp only at E' ⊢
        walk_at "c_indexOf"
        refine JL_cons ?_ rfl
        walk_at "jname"
        refine JL_cons ?_ rfl
        refine JV_strT lit_tab hN1 ?_
        refine JL_nil ?_
        refine index_it hB' hN1 (hA.le (by walk_at "jlen")) (by lia) i1 i2 ?_
        refine ⟨rfl, _, rfl, ?_, ?_⟩
        · rw [leadOf_take hr]
        · rw [List.take_add_one, hr, List.map_append]
          simp only [Option.toList_some, List.map_cons, List.map_nil]
          rw [Int.toNat_of_nonneg hr0.1]
      · rintro acc o ⟨rfl, rfl⟩ hacc
        rw [List.length_map, List.take_length]
        walk_at "jnamew"
        case hw => exact wk_runs
        refine C_neT (n := 1) (.lst (cmp_ints _ _)) (by lia) ?_
        rw [teq_lst, teq_ints, beq_self_eq_true]
        walk_at "jgo"
        rw [if_neg (by decide)]
        refine JB_or_cons ?_
        refine JB_Compare ?_ (by with_unfolding_all rfl)
        walk_at "mwn"
        case ha => exact ws_eq hB'
        case hh => exact ty_59 hB'
        case hf => exact k_59 hB'
        walk_at "jgo"
        refine C_funE (args := [(wsR (leadOf rs ++ tailOf bl)).T, (wsR (leadOf (turn1 rs) ++ tailOf bl)).T]) (equal_spec hB') (hA.le (by walk_at "jlen")) ?_
        rw [pl.pg.1, pl.pg.2, pl.tn.1, pl.tn.2, beq_self_eq_true, beq_self_eq_true]
        walk_at "jgo"
        refine C_isnot_bool ?_
        walk_at "jgo"
        rw [if_neg (by decide)]
        refine JB_or_nil ?_
        walk_at "jset"
        rw [if_neg (by decide)]
        walk_at "jgo"
        exact ⟨rfl, rfl⟩
    · rintro f m' o' ⟨rfl, rfl⟩
      walk_at "jn"
      refine J.drop (own' := []) (List.nil_sublist _) ?_
      refine JF_cons ?_
      refine JF_freezeAt (i := 9) ?_
      walk_at "jassign"
      walk_at "c_list"
      refine JL_cons ?_ rfl
      refine JV_Sub ?_
      walk_at "awn"
      case ha => exact ws_norm hB'
      case hf => exact (rfl : _ = some (normT (wsR (leadOf rs ++ tailOf bl)).c (wsR (leadOf rs ++ tailOf bl)).b))
      case hh => exact rfl
      rw [pl.pg.1, pl.pg.2]
      walk_at "jgo"
      refine K_tup (y := .tup (cs.map .int)) (by lia) rfl (by simp only [List.length_cons, List.length_nil]; decide) ?_
      walk_at "jgo"
      refine C_list (by rw [List.length_map]; have := pl.c1; lia) fun Dc => ?_
      refine hGo _ _ _ (by walk_at "jlen") ⟨rfl, Dc, _, [], rfl, rfl, ?_⟩
      have hc1 := pl.c1
      have hc2 := pl.c2
      have hc2' : ∀ c ∈ cs, 0 ≤ c ∧ c ≤ 1000 := fun c hc => by have := hc2 c hc; lia
      have hcl := leadOf_len (b := 6) (l := cs) fun c hc => (hc2 c hc).2
      walk_at "jn"
      refine JF_cons ?_
      walk_at "jassign"
      refine JV_BinOp ?_
      refine JV_BinOp ?_
      refine JV_strL lit_sp ?_
      walk_at "jgo"
      refine B_muls (by lia) (by lia) ?_
      refine JV_BinOp ?_
      refine JV_strL lit_tab ?_
      walk_at "c_len"
      walk_at "jgo"
      refine C_len (.inl rfl) (by rw [List.length_map]; lia) ?_
      rw [List.length_map]
      refine B_muls (by lia) (by lia) ?_
      rw [Int.toNat_natCast, Int.toNat_natCast]
      refine B_adds (by simp; lia) ?_
      rw [show List.replicate m 32 ++ List.replicate cs.length 9 = wideOf m cs from rfl]
      walk_at "jset"
      walk_at "jn"
      refine JF_cons ?_
      walk_at "jassign"
      walk_at "c__law_lead"
      walk_at "jgo"
      refine C_funE (args := [.lst (cs.map .int)]) (lead_spec hB' hc2' (by lia)) (hA.le (by walk_at "jlen")) ?_
      walk_at "jset"
      walk_at "jn"
      refine JF_cons ?_
      walk_at "jassign"
      refine JV_BinOp ?_
      refine JV_BinOp ?_
      refine JV_strL lit_tab ?_
      walk_at "c_len"
      walk_at "jgo"
      refine C_len (.inl rfl) (by rw [List.length_map]; lia) ?_
      rw [List.length_map]
      refine B_muls (by lia) (by lia) ?_
      refine JV_BinOp ?_
      refine JV_strL lit_sp ?_
      walk_at "jgo"
      refine B_muls (by lia) (by lia) ?_
      rw [Int.toNat_natCast, show (((m : Int) + 1)).toNat = m + 1 by lia]
      refine B_adds (by simp; lia) ?_
      rw [show List.replicate cs.length 9 ++ List.replicate (m + 1) 32 = lateOf m cs from rfl]
      walk_at "jset"
      have hwdl : (wideOf m cs).length ≤ 20 := by simp [wideOf]; lia
      have hltl : (lateOf m cs).length ≤ 20 := by simp [lateOf]; lia
      walk_at "jn"
      refine JF_cons ?_
      walk_at "jassign"
      walk_at "c_Whitespace"
      walk_at "jgo"
      refine ws_make hB' (by lia) (hA.le (by walk_at "jlen")) ?_
      walk_at "jset"
      walk_at "jn"
      refine JF_cons ?_
      walk_at "jassign"
      walk_at "c_Whitespace"
      walk_at "jgo"
      refine ws_make hB' (by lia) (hA.le (by walk_at "jlen")) ?_
      walk_at "jset"
      walk_at "jn"
      refine JF_cons ?_
      walk_at "jassign"
      walk_at "c_Whitespace"
      walk_at "jgo"
      refine ws_make hB' (by lia) (hA.le (by walk_at "jlen")) ?_
      walk_at "jset"
      walk_at "jn"
      refine JF_cons ?_
      walk_at "jassign"
      walk_at "c_Whitespace"
      refine JL_cons ?_ rfl
      refine JV_BinOp ?_
      walk_at "jname"
      refine JV_strL lit_sp ?_
      refine B_adds (by simp; lia) ?_
      refine JL_nil ?_
      refine ws_make hB' (by simp; lia) (hA.le (by walk_at "jlen")) ?_
      walk_at "jset"
      rw [← wsR_T, ← wsR_T, ← wsR_T, ← wsR_T]
      walk_at "jn"
      refine JF_cons ?_
      walk_at "jif"
      refine JB_Or (op := .Or) ?_
      refine JB_or_cons ?_
      refine JB_Compare ?_ (by with_unfolding_all rfl)
      walk_at "awn"
      case ha => exact ws_n hB'
      case hf => exact (rfl : _ = some (T.int (wsR (leadOf cs)).n))
      case hh => exact rfl
      walk_at "c_len"
      walk_at "jgo"
      refine C_lens (by lia) ?_
      rw [pl.pn]
      walk_at "jgo"
      rw [if_neg (by simp)]
      refine JB_or_cons ?_
      refine JB_Compare ?_ (by with_unfolding_all rfl)
      walk_at "awn"
      case ha => exact ws_simple hB'
      case hf => exact (rfl : _ = some (T.bool (decide ((wsR (leadOf cs)).c.length ≤ 1))))
      case hh => exact rfl
      walk_at "jgo"
      rw [decide_eq_false pl.ps]
      refine C_isnot_bool ?_
      walk_at "jgo"
      rw [if_neg (by decide)]
      refine JB_or_cons ?_
      refine JB_Compare ?_ (by with_unfolding_all rfl)
      walk_at "awn"
      case ha => exact ws_simple hB'
      case hf => exact (rfl : _ = some (T.bool (decide ((wsR (lateOf m cs)).c.length ≤ 1))))
      case hh => exact rfl
      walk_at "jgo"
      rw [decide_eq_true pl.ls]
      refine C_isnot_bool ?_
      walk_at "jgo"
      rw [if_neg (by decide)]
      refine JB_or_nil ?_
      walk_at "jset"
      rw [if_neg (by decide)]
      walk_at "jn"
      refine JF_nil ?_
      walk_at "jn"
      refine JF_cons ?_
      walk_at "jassign"
      walk_at "mwn"
      case ha => exact ws_wit hB'
      case hh => exact ty_66 hB'
      case hf => exact k_66 hB'
      walk_at "jgo"
      refine C_funE (args := [(wsR (wideOf m cs)).T, (wsR (leadOf cs)).T]) (wit_spec hB' pl.s1.1 pl.s1.2 pl.s2.1 pl.s2.2) (hA.le (by walk_at "jlen")) ?_
      rw [pl.w1]
      walk_at "jset"
      walk_at "jn"
      refine JF_cons ?_
      walk_at "jif"
      refine JB_Compare ?_ (by with_unfolding_all rfl)
      walk_at "jname"
      walk_at "c__law_unlike"
      walk_at "jgo"
      refine C_funE (args := [.str (wideOf m cs), .str (leadOf cs), .int ((m + 1 : Nat) : Int)]) (unlike_spec hB' (by lia) (by lia) (by lia)) (hA.le (by walk_at "jlen")) ?_
      rw [show unlikeOf (wideOf m cs) (leadOf cs) (m + 1) = rowsW m cs from rfl]
      refine C_neT (n := 2) (.lst (cmp_rows _ _)) (by lia) ?_
      rw [teq_lst, teq_rows]
      walk_at "jgo"
      rw [if_neg (by decide)]
      walk_at "jgo"
      walk_at "mwn"
      case ha => exact ws_wit hB'
      case hh => exact ty_66 hB'
      case hf => exact k_66 hB'
      walk_at "jgo"
      refine C_funE (args := [(wsR (wideOf m cs)).T, (wsR (lateOf m cs)).T]) (wit_spec hB' pl.s1.1 pl.s1.2 pl.s3.1 pl.s3.2) (hA.le (by walk_at "jlen")) ?_
      rw [pl.w2]
      walk_at "c__law_unlike"
      walk_at "jgo"
      refine C_funE (args := [.str (wideOf m cs), .str (lateOf m cs), .int ((m + 2 : Nat) : Int)]) (unlike_spec hB' (by lia) (by lia) (by lia)) (hA.le (by walk_at "jlen")) ?_
      refine C_neT (n := 2) (.lst (cmp_rows _ _)) (by lia) ?_
      rw [teq_lst, teq_rows]
      walk_at "jgo"
      rw [if_neg (by decide)]
      walk_at "jgo"
      walk_at "mwn"
      case ha => exact ws_wit hB'
      case hh => exact ty_66 hB'
      case hf => exact k_66 hB'
      walk_at "jgo"
      refine C_funE (args := [(wsR (leadOf cs)).T, (wsR (leadOf cs ++ [32])).T]) (wit_spec hB' pl.s2.1 pl.s2.2 pl.s4.1 pl.s4.2) (hA.le (by walk_at "jlen")) ?_
      walk_at "c__law_unlike"
      walk_at "jgo"
      refine B_adds (by simp; lia) ?_
      walk_at "jgo"
      walk_at "c_max"
      walk_at "jgo"
      refine C_max hA.1 (fun q => by rw [q] at hc1; simp at hc1) (.inl rfl) fun Mc hMc hMcx => ?_
      have hMc0 := hc2 Mc hMc
      rw [pl.w3 Mc hMc hMcx]
      walk_at "jgo"
      rw [show Mc + 1 = ((Mc.toNat + 1 : Nat) : Int) by lia]
      refine C_funE (args := [.str (leadOf cs), .str (leadOf cs ++ [32]), .int ((Mc.toNat + 1 : Nat) : Int)]) (unlike_spec hB' (by lia) (by lia) (by simp; lia)) (hA.le (by walk_at "jlen")) ?_
      refine C_neT (n := 2) (.lst (cmp_rows _ _)) (by lia) ?_
      rw [teq_lst, teq_rows]
      walk_at "jgo"
      rw [if_neg (by decide)]
      walk_at "jgo"
      walk_at "c__law_words"
      walk_at "jgo"
      refine C_funE (args := [.lst (cs.map .int)]) (words_spec hB' hN1 hc1.2 (by rw [pl.c3]; lia) (by rw [pl.c3]; lia)) (hA.le (by walk_at "jlen")) ?_
      have hwt : (wordsAt cs cs.sum.toNat).map (wT cs.sum.toNat) = (wordsAt cs m).map .tstr := by
        rw [pl.c3, Int.toNat_natCast]
        apply List.map_congr_left
        intro x _
        rw [wT, if_neg (by lia)]
      rw [hwt]
      walk_at "jset"
      walk_at "jn"
      refine JF_cons ?_
      walk_at "jif"
      refine JB_Or (op := .Or) ?_
      refine JB_or_cons ?_
      refine JB_Compare ?_ (by with_unfolding_all rfl)
      walk_at "mwn"
      case ha => exact ws_eq hB'
      case hh => exact ty_59 hB'
      case hf => exact k_59 hB'
      walk_at "jgo"
      refine C_funE (args := [(wsR (leadOf cs)).T, (wsR (leadOf cs ++ [32])).T]) (equal_spec hB') (hA.le (by walk_at "jlen")) ?_
      rw [pl.e1]
      walk_at "jgo"
      refine C_isnot_bool ?_
      walk_at "jgo"
      rw [if_neg (by decide)]
      refine JB_or_cons ?_
      refine JB_Compare ?_ (by with_unfolding_all rfl)
      walk_at "mwn"
      case ha => exact ws_eq hB'
      case hh => exact ty_59 hB'
      case hf => exact k_59 hB'
      walk_at "jgo"
      refine C_funE (args := [(wsR (wideOf m cs)).T, (wsR (leadOf cs)).T]) (equal_spec hB') (hA.le (by walk_at "jlen")) ?_
      rw [pl.e2]
      have hwll : (wordsAt cs m).length ≤ 4096 := by
        have h1 := wordsAt_le cs m
        have h2 : cs.length ^ m ≤ 4 ^ 6 := Nat.le_trans (Nat.pow_le_pow_left hc1.2 m) (Nat.pow_le_pow_right (by decide) hm6)
        lia
      walk_at "jgo"
      walk_at "c_len"
      walk_at "jgo"
      refine C_len (.inl rfl) (by rw [List.length_map]; lia) ?_
      rw [List.length_map]
      walk_at "jgo"
      have hle1 : (((wordsAt cs m).length : Int) == 1) = ((wordsAt cs m).length == 1) := by
        rw [Bool.eq_iff_iff, beq_iff_eq, beq_iff_eq]; lia
      rw [hle1]
      refine C_isnot_bool ?_
      rw [beq_self_eq_true]
      walk_at "jgo"
      rw [if_neg (by decide)]
      refine JB_or_nil ?_
      walk_at "jset"
      rw [if_neg (by decide)]
      walk_at "jgo"
      walk_at "c__law_shares"
      walk_at "jgo"
      refine B_pow (by omega) (by have : Builtin.Int.intBits 2 = 2 := by decide +kernel
                                  rw [this]; lia) ?_
      rw [Int.toNat_natCast]
      walk_at "jgo"
      refine C_funE (args := [.int (2 ^ w), .int m]) (shares_spec hB' (by lia) hw2.2 (by lia) hm6) hA ?_
      walk_at "jset"
      walk_at "jn"
      refine JF_cons ?_
      walk_at "jif"
      refine JB_Compare ?_ (by with_unfolding_all rfl)
      walk_at "jname"
      refine JV_freeze ?_
      refine JV_List ?_
      refine JL_nil ?_
      refine ⟨[], rfl, Nat.le_of_ble_eq_true rfl, fun D => ⟨D, _, [], rfl, rfl, ?_⟩⟩
      refine C_eqT (n := 1) (.lst (cmp_ints _ [])) (by lia) ?_
      have hte : teq (.lst ((sharesOf (2 ^ w) (m + 1)).map T.int)) (.lst []) = false := by
        rw [teq_lst, show ([] : List T) = ([] : List Int).map T.int from rfl, teq_ints, sharesOf_succ]; simp
      rw [hte]
      walk_at "jgo"
      rw [if_neg (by decide)]
      walk_at "jgo"
      have hq2 : (2 : Int) ≤ 2 ^ w := by
        obtain ⟨k, rfl⟩ : ∃ k, w = 1 + k := ⟨w - 1, by lia⟩
        rw [pow_add', Int.pow_one]
        have := pow_pos' k
        lia
      have hrw : ∀ r ∈ rowsW m cs, 2 ≤ r.1 ∧ r.1 ≤ 6 ∧ 0 ≤ expOf r := fun r hr => by have := pl.rw r hr; lia
      have hpb := prod_bound hq2 hrw
      have hdeg := pl.dg
      have hw60 : w * 60 ≤ 2405 * 60 := Nat.mul_le_mul_right _ hw2.2
      refine JF_ForT (fun _ => rfl) ?_
      walk_at "jname"
      have hrt : (rowsW m cs).map rowT = ((rowsW m cs).map fun r => [T.int r.1, .int r.2.1, .int r.2.2]).map .tup := by rw [List.map_map]; rfl
      refine ⟨(rowsW m cs).map fun r => [T.int r.1, .int r.2.1, .int r.2.2], fun j m' o' => ∃ y1 y2 y3 : S, o' = [] ∧ m' = [.t (.lst (ns.map .int)), .t (.int tot), .t (.int m), .t (.int w), .t (.int bl), .t (.lst (rs.map (.oint B'.N))), .t (wsR (leadOf rs ++ tailOf bl)).T, .t (wsR (leadOf (turn1 rs) ++ tailOf bl)).T, .own Da, .t (.lst (cs.map .int)), .t (.str (wideOf m cs)), .t (.str (leadOf cs)), .t (.str (lateOf m cs)), .t (wsR (wideOf m cs)).T, .t (wsR (leadOf cs)).T, .t (wsR (lateOf m cs)).T, .t (wsR (leadOf cs ++ [32])).T, .t (.lst ((rowsW m cs).map rowT)), .t (.lst ((wordsAt cs m).map .tstr)), .t (.lst ((sharesOf (2 ^ w) (m + 1)).map .int)), .t (.int (prodRows (2 ^ w) ((rowsW m cs).take j))), y1, y2, y3, .undef, .undef, .undef],
        fun s G v S h => srcT_lst hA.1 s G v S (by rw [← hrt]; exact h), ⟨_, _, _, rfl, rfl⟩, ?_, ?_⟩
      · rintro P' j y m' o' hj ⟨y1, y2, y3, rfl, rfl⟩
        rw [List.getElem?_map] at hj
        obtain ⟨r, hr, rfl⟩ := Option.map_eq_some_iff.mp hj
        obtain ⟨r1, r2, r3⟩ := pl.rw r (List.mem_of_getElem? hr)
        obtain ⟨p1, p2, p3⟩ := phi_le hq2 (k := r.1.toNat) (by lia) (by lia)
        have hds := degRows_step hr
        have hdl := degRows_le (rows := rowsW m cs) (j + 1)
        have hpj := hpb j
        have hnb := bits_le_pow (show 0 ≤ prodRows (2 ^ w) ((rowsW m cs).take j) by lia) hpj.2
        have hnb' : w * degRows ((rowsW m cs).take j) ≤ w * 60 := Nat.mul_le_mul_left _ (by lia)
        have hdg1 : 1 ≤ dgOf r.1.toNat := dg_pos _ (by lia) (by lia)
        have hel : (expOf r).toNat ≤ 60 := by
          have := Nat.mul_le_mul_right (expOf r).toNat hdg1
          lia
        have hpk := bits_le_pow (show 0 ≤ phi (2 ^ w) r.1.toNat by lia) p2
        have hpk' : w * dgOf r.1.toNat ≤ 2405 * 5 := Nat.mul_le_mul hw2.2 p3
        have hpe := bits_le_pow (k := dgOf r.1.toNat * (expOf r).toNat) (w := w) (show 0 ≤ phi (2 ^ w) r.1.toNat ^ (expOf r).toNat from Int.pow_nonneg (by lia)) (by rw [Int.pow_mul]; exact pow_le_pow (by lia) p2 _)
        have hpe' : w * (dgOf r.1.toNat * (expOf r).toNat) ≤ w * 60 := Nat.mul_le_mul_left _ (by lia)
        have hps := prodRows_step (2 ^ w) hr
        refine JA_Tuple hA.1 rfl rfl ?_
        refine JAs_cons (JA_Name (i := 21) (by walk_at "jfn") rfl (.inl (by walk_at "jkind")) (by walk_at "jlen") ?_)
        refine JAs_cons (JA_Name (i := 22) (by walk_at "jfn") rfl (.inl (by walk_at "jkind")) (by walk_at "jlen") ?_)
        refine JAs_cons (JA_Name (i := 23) (by walk_at "jfn") rfl (.inl (by walk_at "jkind")) (by walk_at "jlen") ?_)
        refine JAs_nil ?_
        walk_at "jn"
        refine JF_cons ?_
        walk_at "jassign"
        walk_at "c_imul"
        refine JL_cons ?_ rfl
        walk_at "jname"
        refine JL_cons ?_ rfl
        walk_at "c_ipow"
        refine JL_cons ?_ rfl
        walk_at "jgo"
        refine K_lst (y := .int (phi (2 ^ w) r.1.toNat)) (.inl rfl) (by lia) (by rw [List.getElem?_map, sharesOf_get _ (show r.1.toNat < m + 1 by lia)]; rfl) (by rw [List.length_map, sharesOf_length]; lia) ?_
        walk_at "jgo"
        refine B_floordiv (by lia) (PyProof.noPylong_small (by lia)) ?_
        rw [show ((r.2.1 - r.2.2).fdiv r.1) = expOf r from rfl]
        walk_at "jgo"
        refine C_fun (args := [.int (phi (2 ^ w) r.1.toNat), .int (expOf r)]) (ipow_spec hB' r3 ?_) (hA.le (by walk_at "jlen")) ?_
        · have h1 : Builtin.Int.intBits (phi (2 ^ w) r.1.toNat) * (expOf r).toNat ≤ 12026 * 60 := Nat.mul_le_mul (by lia) hel
          have h2 : ((Builtin.Int.intBits (phi (2 ^ w) r.1.toNat) : Int) * expOf r) = ((Builtin.Int.intBits (phi (2 ^ w) r.1.toNat) * (expOf r).toNat : Nat) : Int) := by
            rw [Int.natCast_mul, Int.toNat_of_nonneg r3]
          rw [h2]; lia
        rintro _ rfl
        walk_at "jgo"
        refine C_funE (args := [.int (prodRows (2 ^ w) ((rowsW m cs).take j)), .int (phi (2 ^ w) r.1.toNat ^ (expOf r).toNat)]) (imul_spec hB' (IntMulOk.of_bits (by lia) (by lia))) (hA.le (by walk_at "jlen")) ?_
        rw [← hps]
        walk_at "jset"
        walk_at "jn"
        refine JF_nil ?_
        exact ⟨_, _, _, rfl, rfl⟩
      · rintro m' o' ⟨y1, y2, y3, rfl, rfl⟩
        rw [List.length_map, List.take_length]
        have hpl := hpb (rowsW m cs).length
        rw [List.take_length] at hpl
        have hnb := bits_le_pow (show 0 ≤ prodRows (2 ^ w) (rowsW m cs) by lia) hpl.2
        have hnb' : w * degRows (rowsW m cs) ≤ w * 60 := Nat.mul_le_mul_left _ (by lia)
        have hfin := pl.fin
        generalize prodRows (2 ^ w) (rowsW m cs) = num at *
        have hwm : w * 4 ≤ w * m := Nat.mul_le_mul_left _ hm4
        have hwm2 : w * m ≤ 2405 * 6 := Nat.mul_le_mul hw2.2 hm6
        have hring : Builtin.Int.intBits (2 ^ (w * m) - 1) = w * m := by
          refine intBits_eq (by lia) ?_ (by lia)
          obtain ⟨k, hk⟩ : ∃ k, w * m = k + 1 := ⟨w * m - 1, by lia⟩
          rw [hk, Nat.add_sub_cancel, Int.pow_succ]
          have := pow_pos' k
          lia
        have hR1 : (2 : Int) ^ (w * m) ≥ 2 := by
          obtain ⟨k, hk⟩ : ∃ k, w * m = k + 1 := ⟨w * m - 1, by lia⟩
          rw [hk, Int.pow_succ]
          have := pow_pos' k
          lia
        refine JF_nil ?_
        walk_at "jn"
        walk_at "jgo"
        refine B_mul (IntMulOk.of_right (intBits_le_64 (by lia) (by lia))) ?_
        have hwmi : ((w : Int) * (m : Int)) = ((w * m : Nat) : Int) := (Int.natCast_mul ..).symm
        rw [hwmi]
        refine B_pow (by omega) (by have : Builtin.Int.intBits 2 = 2 := by decide +kernel
                                    rw [this]; lia) ?_
        rw [Int.toNat_natCast]
        generalize hRR : (2 : Int) ^ (w * m) = Rg at *
        walk_at "jgo"
        refine JF_AssignTup rfl (by rw [E.eq]; rfl) ?_
        walk_at "c__divmod_pos"
        walk_at "jgo"
        refine C_fun (args := [.int num, .int (Rg - 1)]) (dmp_spec hB' (by lia) (by lia) (by rw [hring]; lia) ?_ (by lia)) (hA.le (by walk_at "jlen")) ?_
        · rw [hring, Nat.div_le_iff_le_mul (by lia)]; lia
        rintro _ rfl
        refine JA_Tuple hA.1 rfl rfl ?_
        refine JAs_cons (JA_Name (i := 25) (by walk_at "jfn") rfl (.inl (by walk_at "jkind")) (by walk_at "jlen") ?_)
        refine JAs_cons (JA_Name (i := 26) (by walk_at "jfn") rfl (.inl (by walk_at "jkind")) (by walk_at "jlen") ?_)
        refine JAs_nil ?_
        walk_at "jn"
        have hl0 := Int.emod_nonneg num (show Rg - 1 ≠ 0 by lia)
        have hl1 := Int.emod_lt_of_pos num (show 0 < Rg - 1 by lia)
        have hlb := intBits_le hl0 (show num % (Rg - 1) < 2 ^ (w * m) by lia)
        have hqb : Builtin.Int.intBits (num / (Rg - 1)) ≤ 2 ^ 20 := by
          have h1 : num / (Rg - 1) ≤ num := Int.ediv_le_self _ (by lia)
          have h2 := bits_le_pow (w := w) (k := 60) (x := num / (Rg - 1)) (Int.ediv_nonneg (by lia) (by lia)) ?_
          · lia
          · refine Int.le_trans h1 (Int.le_trans hpl.2 ?_)
            obtain ⟨k, hk⟩ : ∃ k, 60 = degRows (rowsW m cs) + k := ⟨60 - degRows (rowsW m cs), by lia⟩
            rw [hk, Int.pow_add]
            have h3 := one_le_pow (show (1 : Int) ≤ 2 ^ w by lia) k
            have h4 := one_le_pow (show (1 : Int) ≤ 2 ^ w by lia) (degRows (rowsW m cs))
            have := Int.mul_le_mul_of_nonneg_left h3 (show 0 ≤ ((2 : Int) ^ w) ^ degRows (rowsW m cs) by lia)
            lia
        refine JF_cons ?_
        refine JF_Return ?_
        refine JV_And2 ?_
        refine JV_Compare ?_ (by with_unfolding_all rfl)
        refine JV_BinOp ?_
        refine JV_BinOp ?_
        walk_at "jname"
        walk_at "jname"
        refine B_mul (IntMulOk.of_bits hqb (by rw [hring]; lia)) ?_
        walk_at "jname"
        refine B_add ?_
        walk_at "jname"
        refine C_eq ?_
        have hdm := Int.mul_ediv_add_emod num (Rg - 1)
        rw [Int.mul_comm] at hdm
        rw [hdm, beq_self_eq_true]
        refine T_bool ?_
        rw [if_pos rfl]
        refine JV_Compare ?_ (by with_unfolding_all rfl)
        walk_at "c__int2digits"
        walk_at "jgo"
        refine C_fun (args := [.int (num % (Rg - 1)), .int w]) (i2d_spec hB' hl0 (by lia) (by lia) rfl ?_ (by lia)) (hA.le (by walk_at "jlen")) ?_
        · rw [Nat.div_le_iff_le_mul (by lia)]
          have : w * m ≤ w * 6 := Nat.mul_le_mul_left _ hm6
          lia
        rintro _ rfl
        walk_at "c__law_rings"
        walk_at "jgo"
        refine C_funE (args := [.lst ((wordsAt cs m).map .tstr), .int m]) (rings_spec hB' hN1 (by lia) hm6 (fun x hx => wordsAt_len hx) (by lia) pl.pr) (hA.le (by walk_at "jlen")) ?_
        rw [hfin]
        refine C_eqT (n := 1) (.lst (cmp_ints _ _)) (by lia) ?_
        rw [teq_lst, teq_ints, beq_self_eq_true]
end
noncomputable section
theorem wellInts {P : Params} {h : Heap} : ∀ {ns : List Int} {vs : List Value} {G : PM}, WellAll P h vs (ns.map .int) → RepL G (ns.map .int) vs
  | [], _, _, w => by cases w; exact rfl
  | n :: ns, _, G, w => by
    cases w with
    | cons hv hr =>
      cases hv with
      | int _ t => exact ⟨_, _, rfl, ⟨t, rfl⟩, wellInts hr⟩
theorem ofPyInts (ns : List Int) : ofPys (ns.map .int) = ns.map .int := by
  rw [ofPys_eq, List.map_map]; rfl
theorem law_run {w : World} {s₁ : Shared} {mg mb : Str → Option Value} {p : Program} {loose : List Str} {mean : ExcName → Option Value} {D fa : Addr} {ns : List Int}
    (KX : (hd.heap_39 w.params).In s₁.heap) (T : Top p loose mean mg mb s₁.heap) (hT : TabsAt [(114, 110), (107, 103)] s₁.heap) (hm : mg (Str.ofString "law") = some (.ref fa)) (hg : s₁.gens = #[])
    (hn : ns.length ≤ 1000) (W : Well w.params s₁.heap (.ref D) (ofPy (.list (ns.map .int)))) {RR : Result → Shared → Prop}
    (h : ∀ s', (∀ b o, (ghostOf s₁.heap [(114, 110), (107, 103)]).get? b = some o → s'.heap.get? b = some o) → s'.os = s₁.os → s'.gens = #[] → GrownAll [(114, 110), (107, 103)] s'.heap → RR (.ok (.ret (.bool true))) s') :
    codeAny (model PySem.Challenge.rw_ti0048_01.row.prog w) callerA (.call (.ref fa) ⟨[.ref D], []⟩) RR s₁ := by
  have hf : fa = 203 := by
    have e := mg_of KX T.g (show nsIn (Mine.hd.heap_39 w.params) mainGlobals (Str.ofString "law") = some (some (.ref 203)) by kernel_rfl!)
    rw [hm] at e
    cases e
    rfl
  subst hf
  have hTP := ghost_top hT T
  have hcds := ghost_code hT
  let B : Bs := { prog := PySem.Challenge.rw_ti0048_01.row.prog, w := w, K := Mine.hd.heap_39 w.params, mg := mg, mb := mb, H := ghostOf s₁.heap [(114, 110), (107, 103)], N := 0, pl := [(103, .tab ⟨89, 4, 98, 28⟩ (Str.ofString "_int2digits.<locals>.inner")), (110, .tab ⟨104, 4, 109, 55⟩ (Str.ofString "_digits2int.<locals>.inner"))] }
  have hB : LB B := { ok := ⟨ghost_K hT KX (by kernel_rfl!), ghost_ns hT T.g, ghost_ns hT T.b, T.builtins, hTP.nolimit, (show ([103, 110] : List Addr).Nodup by decide)⟩, K := rfl, bm := hTP.bmain, t1 := hcds.2.1, t2 := hcds.1, pl := rfl }
  have hw : ∃ vs : List Value, s₁.heap.get? D = some { cls := .type "list", data := .seq vs.toArray } ∧ WellAll w.params s₁.heap vs (ns.map .int) := by
    rw [ofPy, ofPyInts] at W
    cases W with
    | list e r => exact ⟨_, e, r⟩
  obtain ⟨vs, hD, hvs⟩ := hw
  have hpl : PlOk B ⟨(ghostOf s₁.heap [(114, 110), (107, 103)]).get?, 0⟩ s₁.heap := by
    intro q hq
    rcases List.mem_cons.mp hq with rfl | hq
    · exact ⟨hideAll_none _ (by decide), _, (hT (107, 103) (by decide)).2, _, rfl, .inl rfl⟩
    · rcases List.mem_cons.mp hq with rfl | hq
      · exact ⟨hideAll_none _ (by decide), _, (hT (114, 110) (by decide)).2, _, rfl, .inl rfl⟩
      · cases hq
  refine law_walk hB hn plain_law callerA s₁ ⟨(ghostOf s₁.heap [(114, 110), (107, 103)]).get?, 0⟩ [.ref D] ⟨rfl, by decide, by decide⟩ (fun b o e => of_hideAll _ e) (fun b o e => e) (Nat.zero_le _) (Nat.le_refl _) hpl ?_ RR ?_
  · exact RepL.one ⟨D, _, vs.toArray, 0, rfl, ghost_get hT hD (fun q => by cases q), ⟨rfl, rfl⟩, rfl, wellInts hvs⟩
  · intro v r G' h' tk hk hle hle' _ _ hp hr hR
    rw [hR] at hr
    have hv : v = .bool true := hr
    rw [hv]
    refine h _ (fun b o e => hle' b o (hle.up b o e)) rfl hg ?_
    have p1 := hp _ (.head _)
    have p2 := hp _ (.tail _ (.head _))
    obtain ⟨_, o1, e1, ps1, q1, _⟩ := p1
    obtain ⟨_, o2, e2, ps2, q2, _⟩ := p2
    exact ⟨⟨ps2, q2 ▸ e2⟩, ⟨ps1, q1 ▸ e1⟩, trivial⟩
end
end Mine
set_option maxRecDepth 100000 in
set_option maxHeartbeats 8000000 in
theorem PySem.Challenge.cw_ti0048_01_holds : PySem.Challenge.rw_ti0048_01.Holds := by
  refine Mine.hd ?_
  k_fill
  intro w s₀ s₁ mg mb G Y fa o pm cd doc dV kV ho hd hcd hD hmg hg args vals as hpre hlay hrd hwl hlo
  have KX := km_in_of Y
  km_tabs Y
  refine Ground.open G ?_
  intro T B D TE TW
  try (refine guard_noD D (by decide +kernel) ?_; clear D)
  km_lay T hmg ho hd cd
  have hmg' := hmg
  clear hmg
  wrow_args hpre hlay hrd hwl hlo
  first | refine callC_kw (enter_call ?_) | refine enter_call ?_
  w_top on
  kn_posts
  rename_i ns hs hlay0 hL1 hr1 hl2 w4 w3 D2 vals2 as2 hL ra w1 r0 hI hr hcond hct
  refine Mine.law_run KX T hT9 hmg' hg (by omega) w1 fun s' hk hos hgn hgr => ⟨⟨.inl ⟨.bool true, .bool true, [], rfl, raisesW_false (by wrow_none_raised), .bool true, ?_, fun _ => ⟨List.nodup_nil, fun _ q => by cases q⟩⟩, hk, hos, hgn⟩, hgr⟩
  kc_post
