import PyProof.Rows.All
import Wide.All
import OpenK.AllK
import Wide.FinOn
import Lean
import PySem.Challenge.RW_wn0049_02
set_option Elab.async false
set_option linter.unusedVariables false
set_option linter.unusedSimpArgs false
set_option genSizeOf false
set_option genInjectivity false
section
open PySem
namespace Mine
/-- deep values: what never changes any more -/
inductive V where
  | none
  | bool (b : Bool)
  | int (i : Int)
  | str (s : Str)
  | fn (a : Addr)
  | ty (n : String)
  | lst (vs : List V)
  | tup (vs : List V)
  | dct (kvs : List (Int × V))
/-- what an expression hands back: a deep value, or one of the frame's own lists that still turn -/
inductive D where
  | v (x : V)
  | loc (n : Nat)
/-- what the frame owns: a block's names, a cell, a list that turns -/
inductive Th where
  | fr (m : List (Str × D))
  | ce (c : Option D)
  | lst (vs : List V)
noncomputable abbrev Sg := List Th
structure Gm where
  scope : Scope
  fid : Nat
  cl : List (Str × Nat)
structure Cx where
  glob : Str → Option V
  F : Addr → List V → V → Prop
  gen : Addr → Bool
noncomputable def biTab : List (Str × Value) := [(Str.ofString "len", .builtin "len"), (Str.ofString "int", .type "int"), (Str.ofString "hex", .builtin "hex"), (Str.ofString "type", .type "type"),
  (Str.ofString "min", .builtin "min"), (Str.ofString "sum", .builtin "sum"), (Str.ofString "sorted", .builtin "sorted"), (Str.ofString "all", .builtin "all"),
  (Str.ofString "list", .type "list"), (Str.ofString "range", .type "range"), (Str.ofString "enumerate", .type "enumerate")]
noncomputable def Gm.kindOf (Γ : Gm) (x : Str) : Option NameKind := Γ.scope.names.lookup x
noncomputable def setL (m : List (Str × D)) (x : Str) (d : D) : List (Str × D) :=
  match m with
  | [] => [(x, d)]
  | (y, e) :: r => if y = x then (y, d) :: r else (y, e) :: setL r x d
noncomputable def lim : Nat := 1000000
noncomputable def dget (kvs : List (Int × V)) (k : Int) : Option V := (kvs.find? fun kv => kv.1 = k).map (·.2)
noncomputable def bigBits : Nat := 2 ^ 60
/-- a place, from the front or from behind -/
noncomputable def place (n : Nat) (k : Int) : Option Nat :=
  if 0 ≤ k then (if k < n then some k.toNat else none) else (if -(n : Int) ≤ k then some (k + n).toNat else none)
noncomputable def strAt (s : Str) (k : Nat) : Option Str := (s.cps[k]?).map fun c => ⟨#[c]⟩
noncomputable def sliceL {α : Type} (xs : List α) (lo hi : Option Int) : List α :=
  (xs.drop (lo.elim 0 (clipAt xs.length))).take (hi.elim xs.length (clipAt xs.length) - lo.elim 0 (clipAt xs.length))
noncomputable def insI (x : Int) : List Int → List Int
  | [] => [x]
  | y :: r => if x ≤ y then x :: y :: r else y :: insI x r
noncomputable def sortI : List Int → List Int
  | [] => []
  | x :: r => insI x (sortI r)
noncomputable def small40 (i : Int) : Bool := decide (i.natAbs < 1099511627776)
/-- the first place where it is so -/
noncomputable def idxB {α : Type} (p : α → Bool) : List α → Nat → Option Nat
  | [], _ => none
  | y :: r, k => if p y then some k else idxB p r (k + 1)
/-- a range's ints -/
noncomputable def rangeV (a c : Int) (n : Nat) : List V := (List.range n).map fun (k : Nat) => V.int (a + (k : Int) * c)
noncomputable def rangeN (a b c : Int) : Nat := ((b - a + c - 1) / c).toNat
noncomputable def rangeOk (a b c : Int) : Bool := decide (0 < c) && decide (a.natAbs < lim) && decide (b.natAbs < lim) && decide (c.natAbs < lim)
noncomputable def enumL : List V → Nat → List V
  | [], _ => []
  | x :: r, k => .tup [.int k, x] :: enumL r (k + 1)
noncomputable def rescope (sc : Scope) (out : Scope) : Scope :=
  { sc with names := sc.names.map fun (n, k) => if (k == .free && out.kind == .function && out.names.lookup n == some .cell) then (n, .cell) else (n, k) }
noncomputable def freesOf (Γ : Gm) : List (Str × NameKind) → List (Str × Nat) → Option (List (Str × Nat))
  | [], acc => some acc
  | (n, k) :: r, acc => if k == .free then (Γ.cl.lookup n).bind fun c => freesOf Γ r ((n, c) :: acc) else freesOf Γ r acc
noncomputable def ownCells : List (Str × NameKind) → Nat → List (Str × Nat) → List (Str × Nat)
  | [], _, acc => acc
  | (n, k) :: r, i, acc => if k == .cell then ownCells r (i + 1) ((n, i) :: acc) else ownCells r i acc
noncomputable def cellCount (ns : List (Str × NameKind)) : Nat := (ns.filter (·.2 == .cell)).length
/-- the shape of a comprehension's scope that is served -/
noncomputable def compOk (sc : Scope) : Bool :=
  decide (sc.kind = .function) && (sc.names.all fun x => x.2 != .local || sc.names.lookup x.1 == some .local)
/-- a block opened -/
noncomputable def opened (ns : List (Str × NameKind)) : List Th := .fr [] :: List.replicate (cellCount ns) (.ce none)
noncomputable def compGm (Γ : Gm) (b : Nat) (sc : Scope) (fr : List (Str × Nat)) : Gm := { scope := rescope sc Γ.scope, fid := b, cl := ownCells sc.names (b + 1) fr }
noncomputable def isTup : Expr → Bool
  | .Tuple _ _ _ => true
  | _ => false
noncomputable def isStar : Expr → Bool
  | .Starred _ _ => true
  | _ => false
/-- the shape of a method's call that is served -/
noncomputable def methOk (o : Expr) (ap : Pos) (args : List Expr) (p : Pos) : Bool :=
  (ap.endLine == p.line) && decide (args.length < 29) && (match o with | .Call (.Name _ _) [] [] _ => false | _ => true)
inductive Fl where
  | next
  | brk
  | ret (v : V)
/-- where a generator of _grouping_intervals stands -/
structure GSt where
  rest : List V
  last : Option Int
  inf : Bool
noncomputable def genNext (g : GSt) : Option (Option (Int × GSt)) :=
  match g.inf with
  | true => g.last.map fun l => some (l, g)
  | false => match g.rest with
    | [] => some none
    | .int x :: r => if x = 127 then some none
        else if x = 0 then g.last.map fun l => some (l, { g with rest := r, inf := true })
        else some (some (x, { rest := r, last := some x, inf := false }))
    | _ => none
noncomputable def loops : Nat := 5000
/-- a def, as the evaluator sees it -/
structure Fn where
  addr : Addr
  params : List Str
  body : List Stmt
  scope : Scope
noncomputable def fnGm (f : Fn) : Gm := { scope := f.scope, fid := 0, cl := ownCells f.scope.names 1 [] }
end Mine
end
section
open PySem
namespace Mine
variable {prog : Program} {w : World}
noncomputable abbrev G := Addr → Option Obj
mutual
/-- the value v is the deep value x, in the part g of a heap -/
noncomputable def Rep (prog : Program) (w : World) (g : G) (v : Value) : V → Prop
  | .none => v = .none
  | .bool b => v = .bool b
  | .int i => ∃ t, v = .int i t
  | .str s => ∃ t, v = .str s t ∧ s.length ≤ sizeLine
  | .fn a => v = .ref a
  | .ty n => v = .type n
  | .lst xs => ∃ a n vs, v = .ref a ∧ g a = some { cls := .type "list", data := .seq vs n } ∧ vs.size ≤ sizeLine ∧ Reps prog w g vs.toList xs
  | .tup xs => ∃ a n vs, v = .ref a ∧ g a = some { cls := .type "tuple", data := .seq vs n } ∧ vs.size ≤ sizeLine ∧ Reps prog w g vs.toList xs
  | .dct kvs => ∃ a o ks, v = .ref a ∧ g a = some o ∧ o.IsDictOf (intKind prog w) ks ∧ (a == sysModules) = false ∧ ks.length ≤ sizeLine ∧ RepK prog w g ks kvs
noncomputable def Reps (prog : Program) (w : World) (g : G) (vs : List Value) : List V → Prop
  | [] => vs = []
  | x :: xs => ∃ v r, vs = v :: r ∧ Rep prog w g v x ∧ Reps prog w g r xs
noncomputable def RepK (prog : Program) (w : World) (g : G) (ks : List (Int × Value)) : List (Int × V) → Prop
  | [] => ks = []
  | kx :: xs => ∃ v r, ks = (kx.1, v) :: r ∧ Rep prog w g v kx.2 ∧ RepK prog w g r xs
end
noncomputable def Sub (g g' : G) : Prop := ∀ a o, g a = some o → g' a = some o
theorem Sub.refl (g : G) : Sub g g := fun _ _ e => e
theorem Sub.trans {g g' g'' : G} (x : Sub g g') (y : Sub g' g'') : Sub g g'' := fun a o e => y a o (x a o e)
mutual
theorem Rep.mono {g g' : G} (hs : Sub g g') : ∀ {x : V} {v : Value}, Rep prog w g v x → Rep prog w g' v x
  | .none, _, h => h
  | .bool _, _, h => h
  | .int _, _, h => h
  | .str _, _, h => h
  | .fn _, _, h => h
  | .ty _, _, h => h
  | .lst _, _, ⟨a, n, vs, e, hg, hz, hr⟩ => ⟨a, n, vs, e, hs a _ hg, hz, Reps.mono hs hr⟩
  | .tup _, _, ⟨a, n, vs, e, hg, hz, hr⟩ => ⟨a, n, vs, e, hs a _ hg, hz, Reps.mono hs hr⟩
  | .dct _, _, ⟨a, o, ks, e, hg, hd, hm, hz, hr⟩ => ⟨a, o, ks, e, hs a o hg, hd, hm, hz, RepK.mono hs hr⟩
theorem Reps.mono {g g' : G} (hs : Sub g g') : ∀ {xs : List V} {vs : List Value}, Reps prog w g vs xs → Reps prog w g' vs xs
  | [], _, h => h
  | _ :: _, _, ⟨v, r, e, h1, h2⟩ => ⟨v, r, e, Rep.mono hs h1, Reps.mono hs h2⟩
theorem RepK.mono {g g' : G} (hs : Sub g g') : ∀ {xs : List (Int × V)} {vs : List (Int × Value)}, RepK prog w g vs xs → RepK prog w g' vs xs
  | [], _, h => h
  | _ :: _, _, ⟨v, r, e, h1, h2⟩ => ⟨v, r, e, Rep.mono hs h1, RepK.mono hs h2⟩
end
theorem Reps.length {g : G} : ∀ {xs : List V} {vs : List Value}, Reps prog w g vs xs → vs.length = xs.length
  | [], _, h => congrArg List.length h
  | _ :: _, _, ⟨_, _, e, _, h⟩ => (congrArg List.length e).trans (congrArg Nat.succ (Reps.length h))
theorem RepK.length {g : G} : ∀ {xs : List (Int × V)} {vs : List (Int × Value)}, RepK prog w g vs xs → vs.length = xs.length
  | [], _, h => congrArg List.length h
  | _ :: _, _, ⟨_, _, e, _, h⟩ => (congrArg List.length e).trans (congrArg Nat.succ (RepK.length h))
theorem Reps.get {g : G} : ∀ {xs : List V} {vs : List Value}, Reps prog w g vs xs → ∀ {i : Nat} {x : V}, xs[i]? = some x → ∃ v, vs[i]? = some v ∧ Rep prog w g v x
  | _ :: _, _, ⟨v, _, e, h, _⟩, 0, _, q => ⟨v, congrArg (·[0]?) e, Option.some.inj q ▸ h⟩
  | _ :: _, _, ⟨_, _, e, _, h⟩, i + 1, _, q => let ⟨u, hu, hr⟩ := Reps.get (i := i) h q; ⟨u, (congrArg (·[i + 1]?) e).trans hu, hr⟩
theorem Reps.append {g : G} : ∀ {xs ys : List V} {vs us : List Value}, Reps prog w g vs xs → Reps prog w g us ys → Reps prog w g (vs ++ us) (xs ++ ys)
  | [], _, _, us, h, h' => (show _ = [] from h) ▸ h'
  | _ :: _, _, _, us, ⟨v, r, e, h1, h2⟩, h' => ⟨v, r ++ us, congrArg (· ++ us) e, h1, Reps.append h2 h'⟩
theorem Reps.one {g : G} {v : Value} {x : V} (h : Rep prog w g v x) : Reps prog w g [v] [x] := ⟨v, [], rfl, h, rfl⟩
theorem Reps.of_get {g : G} : ∀ {xs : List V} {vs : List Value}, vs.length = xs.length → (∀ (i : Nat) (v : Value) (x : V), vs[i]? = some v → xs[i]? = some x → Rep prog w g v x) → Reps prog w g vs xs
  | [], _, hl, _ => List.eq_nil_of_length_eq_zero hl
  | x :: _, v :: vs, hl, h => ⟨v, vs, rfl, h 0 v x rfl rfl, Reps.of_get (Nat.succ.inj hl) fun i u y hu hy => h (i + 1) u y hu hy⟩
/-- the heap but for what is hidden -/
noncomputable def vis (h : Heap) (X : List Addr) : G := fun a => if a ∈ X then none else h.get? a
theorem vis_some {h : Heap} {X : List Addr} {a : Addr} {o : Obj} : vis h X a = some o ↔ a ∉ X ∧ h.get? a = some o := by
  unfold vis
  split
  · rename_i e; simp [e]
  · rename_i e; simp [e]
theorem vis_get {h : Heap} {X : List Addr} {a : Addr} {o : Obj} (e : vis h X a = some o) : h.get? a = some o := (vis_some.mp e).2
theorem vis_nil (h : Heap) : vis h [] = h.get? := by funext a; simp [vis]
theorem vis_sub_get (h : Heap) (X : List Addr) : Sub (vis h X) h.get? := fun _ _ e => vis_get e
theorem vis_shrink {h : Heap} {X Y : List Addr} (hs : ∀ a, a ∈ Y → a ∈ X) : Sub (vis h X) (vis h Y) := fun a o e =>
  vis_some.mpr ⟨fun hm => (vis_some.mp e).1 (hs a hm), vis_get e⟩
/-- what is turned is hidden, what is hidden anew is fresh -/
theorem vis_step {h h' : Heap} {X Y : List Addr} (hk : ∀ a o, a ∉ X → h.get? a = some o → h'.get? a = some o) (hf : ∀ a, a ∈ Y → a ∈ X ∨ h.get? a = none) : Sub (vis h X) (vis h' Y) := fun a o e => by
  obtain ⟨hn, hg⟩ := vis_some.mp e
  refine vis_some.mpr ⟨fun hm => ?_, hk a o hn hg⟩
  rcases hf a hm with x | x
  · exact hn x
  · rw [x] at hg; cases hg
/-- nothing that stood is turned -/
structure Kp (s s' : Shared) : Prop where
  heap : ∀ a o, s.heap.get? a = some o → s'.heap.get? a = some o
  gens : ∀ (i : Nat) (st : GenState), s.gens[i]? = some st → s'.gens[i]? = some st
  drawn : PyProof.Rows.AllBare s.gens → PyProof.Rows.AllBare s'.gens
  os : s'.os = s.os
theorem Kp.refl (s : Shared) : Kp s s := ⟨fun _ _ e => e, fun _ _ e => e, id, rfl⟩
theorem Kp.trans {s s' s'' : Shared} (x : Kp s s') (y : Kp s' s'') : Kp s s'' := ⟨fun a o e => y.heap a o (x.heap a o e), fun i st e => y.gens i st (x.gens i st e), fun h => y.drawn (x.drawn h), y.os.trans x.os⟩
theorem Kp.of {s : Shared} {h : Heap} {t : Nat} (hk : ∀ a o, s.heap.get? a = some o → h.get? a = some o) : Kp s { s with heap := h, toks := t } := ⟨hk, fun _ _ e => e, id, rfl⟩
theorem Kp.tok (s : Shared) (t : Nat) : Kp s { s with toks := t } := .of fun _ _ e => e
theorem Kp.push (s : Shared) (o : Obj) : Kp s { s with heap := s.heap.push o } := .of fun _ _ e => Heap.get?_push_of_some o e
theorem Kp.sub {s s' : Shared} (x : Kp s s') (X : List Addr) : Sub (vis s.heap X) (vis s'.heap X) := fun a o e => vis_some.mpr ⟨(vis_some.mp e).1, x.heap a o (vis_get e)⟩
/-- only what is in X is turned -/
structure Stp (X : List Addr) (s s' : Shared) : Prop where
  heap : ∀ a o, a ∉ X → s.heap.get? a = some o → s'.heap.get? a = some o
  gens : ∀ (i : Nat) (st : GenState), s.gens[i]? = some st → s'.gens[i]? = some st
  drawn : PyProof.Rows.AllBare s.gens → PyProof.Rows.AllBare s'.gens
  os : s'.os = s.os
theorem Kp.stp {s s' : Shared} (x : Kp s s') (X : List Addr) : Stp X s s' := ⟨fun a o _ e => x.heap a o e, x.gens, x.drawn, x.os⟩
theorem Stp.refl (X : List Addr) (s : Shared) : Stp X s s := (Kp.refl s).stp X
theorem Stp.trans {X : List Addr} {s s' s'' : Shared} (x : Stp X s s') (y : Stp X s' s'') : Stp X s s'' :=
  ⟨fun a o n e => y.heap a o n (x.heap a o n e), fun i st e => y.gens i st (x.gens i st e), fun h => y.drawn (x.drawn h), y.os.trans x.os⟩
theorem Stp.kp {s s' : Shared} (x : Stp [] s s') : Kp s s' := ⟨fun a o e => x.heap a o (by simp) e, x.gens, x.drawn, x.os⟩
/-- where the frame's own objects lie -/
structure Lay where
  out : List Addr
  its : List Addr
  own : List Addr
noncomputable def Lay.X (L : Lay) : List Addr := L.out ++ L.its ++ L.own
theorem mem_X {L : Lay} {a : Addr} : a ∈ L.X ↔ (a ∈ L.out ∨ a ∈ L.its) ∨ a ∈ L.own := List.mem_append.trans (or_congr_left List.mem_append)
theorem X_out {L : Lay} {a : Addr} (h : a ∈ L.out) : a ∈ L.X := mem_X.mpr (.inl (.inl h))
theorem X_its {L : Lay} {a : Addr} (h : a ∈ L.its) : a ∈ L.X := mem_X.mpr (.inl (.inr h))
theorem X_own {L : Lay} {a : Addr} (h : a ∈ L.own) : a ∈ L.X := mem_X.mpr (.inr h)
noncomputable def RepD (prog : Program) (w : World) (g : G) (φ : List Addr) (v : Value) : D → Prop
  | .v x => Rep prog w g v x
  | .loc n => ∃ a, φ[n]? = some a ∧ v = .ref a
/-- both lists tell the same places, as far as the first goes -/
noncomputable def Pre (φ φ' : List Addr) : Prop := ∀ (n : Nat) (a : Addr), φ[n]? = some a → φ'[n]? = some a
theorem Pre.refl (φ : List Addr) : Pre φ φ := fun _ _ e => e
theorem Pre.append (φ ψ : List Addr) : Pre φ (φ ++ ψ) := fun n a e => (List.getElem?_append_left (List.getElem?_eq_some_iff.mp e).1).trans e
theorem RepD.mono {g g' : G} {φ φ' : List Addr} (hs : Sub g g') (hp : Pre φ φ') {v : Value} : ∀ {d : D}, RepD prog w g φ v d → RepD prog w g' φ' v d
  | .v _, h => Rep.mono hs h
  | .loc n, ⟨a, ha, e⟩ => ⟨a, hp n a ha, e⟩
inductive All2 {α β : Type} (P : α → β → Prop) : List α → List β → Prop
  | nil : All2 P [] []
  | cons {a b as bs} : P a b → All2 P as bs → All2 P (a :: as) (b :: bs)
section
variable {α β : Type} {P P' : α → β → Prop}
theorem All2.length {as : List α} {bs : List β} (h : All2 P as bs) : as.length = bs.length := by
  induction h with
  | nil => rfl
  | cons _ _ ih => exact congrArg Nat.succ ih
theorem All2.imp {as : List α} {bs : List β} (h : All2 P as bs) : (∀ a b, a ∈ as → P a b → P' a b) → All2 P' as bs := by
  induction h with
  | nil => exact fun _ => .nil
  | cons h1 _ ih => exact fun hi => .cons (hi _ _ (List.mem_cons_self ..) h1) (ih fun a b m => hi a b (List.mem_cons_of_mem _ m))
theorem All2.get {as : List α} {bs : List β} (h : All2 P as bs) : ∀ {i : Nat} {b : β}, bs[i]? = some b → ∃ a, as[i]? = some a ∧ P a b := by
  induction h with
  | nil => exact fun e => nomatch e
  | cons h1 _ ih => exact fun {i b} e => match i, e with
    | 0, e => ⟨_, rfl, Option.some.inj e ▸ h1⟩
    | i + 1, e => ih (i := i) e
theorem All2.append {as as' : List α} {bs bs' : List β} (h : All2 P as bs) (h' : All2 P as' bs') : All2 P (as ++ as') (bs ++ bs') := by
  induction h with
  | nil => exact h'
  | cons h1 _ ih => exact .cons h1 ih
theorem All2.set {as : List α} {bs : List β} (h : All2 P as bs) : ∀ {i : Nat} {a : α} {b : β}, as.Nodup → as[i]? = some a → P' a b → (∀ a' b', a' ∈ as → a' ≠ a → P a' b' → P' a' b') → All2 P' as (bs.set i b) := by
  induction h with
  | nil => exact fun _ e => nomatch e
  | cons h1 h2 ih => exact fun {i a b} nd e hp hi => match i, e with
    | 0, e => by
      cases e
      exact .cons hp (h2.imp fun a' b' m => hi a' b' (List.mem_cons_of_mem _ m) fun e => (List.nodup_cons.mp nd).1 (e ▸ m))
    | i + 1, e => .cons (hi _ _ (List.mem_cons_self ..) (fun q => (List.nodup_cons.mp nd).1 (q ▸ List.mem_of_getElem? (i := i) e)) h1) (ih (i := i) (List.nodup_cons.mp nd).2 e hp fun a' b' m => hi a' b' (List.mem_cons_of_mem _ m))
end
theorem Reps.all2 {g : G} : ∀ {xs : List V} {vs : List Value}, Reps prog w g vs xs → All2 (Rep prog w g) vs xs
  | [], _, h => (show _ = [] from h) ▸ .nil
  | _ :: _, _, ⟨_, _, e, h1, h2⟩ => e ▸ .cons h1 (Reps.all2 h2)
theorem All2.reps {g : G} {vs : List Value} {xs : List V} (h : All2 (Rep prog w g) vs xs) : Reps prog w g vs xs := by
  induction h with
  | nil => rfl
  | cons h _ ih => exact ⟨_, _, rfl, h, ih⟩
/-- a thing of the frame's own stands at a -/
noncomputable def ThAt (prog : Program) (w : World) (g : G) (φ : List Addr) (h : Heap) (a : Addr) : Th → Prop
  | .fr m => ∃ f, h.Ns a f ∧ ∀ x d, m.lookup x = some d → ∃ v, f x = some v ∧ RepD prog w g φ v d
  | .ce c => ∃ ov, h.IsCell a ov ∧ ∀ d, c = some d → ∃ v, ov = some v ∧ RepD prog w g φ v d
  | .lst xs => ∃ vs, h.PlainList a vs ∧ vs.size ≤ sizeLine ∧ Reps prog w g vs.toList xs
theorem ThAt.imp {g g' : G} {φ φ' : List Addr} {h h' : Heap} {a : Addr} (hs : Sub g g') (hp : Pre φ φ') (ha : ∀ o, h.get? a = some o → h'.get? a = some o) : ∀ {t : Th}, ThAt prog w g φ h a t → ThAt prog w g' φ' h' a t
  | .fr _, ⟨f, hn, hf⟩ => ⟨f, hn.at' ha, fun x d e => (hf x d e).imp fun _ r => ⟨r.1, r.2.mono hs hp⟩⟩
  | .ce _, ⟨ov, hc, hf⟩ => ⟨ov, hc.imp fun _ r => ⟨ha _ r.1, r.2⟩, fun d e => (hf d e).imp fun _ r => ⟨r.1, r.2.mono hs hp⟩⟩
  | .lst _, ⟨vs, hl, hz, hr⟩ => ⟨vs, hl.at ha, hz, hr.mono hs⟩
theorem ThAt.ext {g : G} {φ : List Addr} {h : Heap} {a : Addr} : ∀ {t : Th}, ThAt prog w g φ h a t → ∃ o, h.get? a = some o
  | .fr _, ⟨_, ⟨o, _, _, e, _⟩, _⟩ => ⟨o, e⟩
  | .ce _, ⟨_, ⟨o, e, _⟩, _⟩ => ⟨o, e⟩
  | .lst _, ⟨_, ⟨_, e⟩, _⟩ => ⟨_, e⟩
/-- the frame that σ tells lies so in the heap -/
structure Rel (prog : Program) (w : World) (h₀ : Heap) (L : Lay) (σ : Sg) (h : Heap) : Prop where
  base : Sub h₀.get? (vis h L.X)
  nodup : L.own.Nodup
  apart : ∀ a, a ∈ L.own → ¬ (a ∈ L.out ∨ a ∈ L.its)
  ext : ∀ a, a ∈ L.out ∨ a ∈ L.its → ∃ o, h.get? a = some o
  own : All2 (ThAt prog w (vis h L.X) L.own h) L.own σ
section
variable {h₀ : Heap} {L : Lay} {σ : Sg}
theorem Rel.extO {h : Heap} (R : Rel prog w h₀ L σ h) {a : Addr} (ha : a ∈ L.own) : ∃ o, h.get? a = some o :=
  let ⟨i, e⟩ := List.getElem?_of_mem ha
  let ⟨_, e', t⟩ := R.own.get (List.getElem?_eq_getElem (R.own.length ▸ (List.getElem?_eq_some_iff.mp e).1))
  (Option.some.inj (e'.symm.trans e)) ▸ t.ext
theorem Rel.extX {h : Heap} (R : Rel prog w h₀ L σ h) {a : Addr} (ha : a ∈ L.X) : ∃ o, h.get? a = some o := (mem_X.mp ha).elim (R.ext a) R.extO
theorem Rel.old {h : Heap} (R : Rel prog w h₀ L σ h) {a : Addr} (hn : h.get? a = none) : a ∉ L.X := fun ha => let ⟨_, e⟩ := R.extX ha; nomatch hn.symm.trans e
theorem Rel.sub {h : Heap} (_ : Rel prog w h₀ L σ h) : Sub (vis h L.X) h.get? := vis_sub_get _ _
/-- what is hidden turns; some more is hidden, or less -/
theorem Rel.step {T its : List Addr} {h h' : Heap} (R : Rel prog w h₀ L σ h) (st : ∀ a o, a ∉ T → h.get? a = some o → h'.get? a = some o) (hT : ∀ a, a ∈ T → a ∈ L.its) (hx : ∀ a, a ∈ L.out ∨ a ∈ its → a ∈ T → ∃ o, h'.get? a = some o)
    (hi : ∀ a, a ∈ its → a ∈ L.its ∨ h.get? a = none ∧ ∃ o, h'.get? a = some o) : Rel prog w h₀ ⟨L.out, its, L.own⟩ σ h' :=
  have sub : Sub (vis h L.X) (vis h' (Lay.mk L.out its L.own).X) := vis_step (fun a o n e => st a o (fun m => n (X_its (hT a m))) e) fun a m => (mem_X.mp m).elim (·.elim (fun m => .inl (X_out m)) fun m => (hi a m).imp X_its And.left) fun m => .inl (X_own m)
  have old : ∀ a, a ∈ L.out ∨ a ∈ its → a ∈ L.out ∨ a ∈ L.its → ∃ o, h'.get? a = some o := fun a m m' => (Classical.em (a ∈ T)).elim (hx a m) fun t => (R.ext a m').imp fun o e => st a o t e
  ⟨R.base.trans sub, R.nodup, fun a m q => q.elim (fun q => R.apart a m (.inl q)) fun q => (hi a q).elim (fun q => R.apart a m (.inr q)) fun q => R.old q.1 (X_own m),
    fun a m => m.elim (fun q => old a m (.inl q)) fun q => (hi a q).elim (fun q => old a m (.inr q)) And.right,
    R.own.imp fun a _ m t => t.imp sub (.refl _) fun o e => st a o (fun n => R.apart a m (.inr (hT a n))) e⟩
theorem Rel.keep {s s' : Shared} (R : Rel prog w h₀ L σ s.heap) (k : Kp s s') : Rel prog w h₀ L σ s'.heap :=
  R.step (T := []) (fun a o _ e => k.heap a o e) (fun _ h => absurd h List.not_mem_nil) (fun _ _ h => absurd h List.not_mem_nil) fun a m => .inl m
/-- things laid anew are the frame's own from now on -/
theorem Rel.push {its as : List Addr} {ths : List Th} {s s' : Shared} (R : Rel prog w h₀ L σ s.heap) (k : Kp s s') (fr : ∀ a, a ∈ as → s.heap.get? a = none) (nd : as.Nodup)
    (hi : ∀ a, a ∈ its → ((a ∈ L.its ∨ s.heap.get? a = none) ∧ ∃ o, s'.heap.get? a = some o) ∧ a ∉ as)
    (t : All2 (ThAt prog w (vis s'.heap (Lay.mk L.out its (L.own ++ as)).X) (L.own ++ as) s'.heap) as ths) : Rel prog w h₀ ⟨L.out, its, L.own ++ as⟩ (σ ++ ths) s'.heap :=
  have sub : Sub (vis s.heap L.X) (vis s'.heap (Lay.mk L.out its (L.own ++ as)).X) := vis_step (fun a o _ e => k.heap a o e) fun a m => (mem_X.mp m).elim (·.elim (fun m => .inl (X_out m)) fun m => (hi a m).1.1.imp_left X_its) fun m => (List.mem_append.mp m).imp X_own (fr a)
  ⟨R.base.trans sub, List.nodup_append.mpr ⟨R.nodup, nd, fun a ha b hb e => R.old (fr b hb) (X_own (e ▸ ha))⟩,
    fun a m q => (List.mem_append.mp m).elim (fun m => q.elim (fun q => R.apart a m (.inl q)) fun q => (hi a q).1.1.elim (fun q => R.apart a m (.inr q)) fun q => R.old q (X_own m)) fun m => q.elim (fun q => R.old (fr a m) (X_out q)) fun q => (hi a q).2 m,
    fun a m => m.elim (fun m => (R.ext a (.inl m)).imp fun o e => k.heap a o e) fun m => (hi a m).1.2,
    (R.own.imp fun a _ _ t => t.imp sub (.append _ _) fun o e => k.heap a o e).append t⟩
end
/-- only t is turned -/
noncomputable def But (t : Addr) (h h' : Heap) : Prop := ∀ a o, a ≠ t → h.get? a = some o → h'.get? a = some o
theorem But.of {t : Addr} {h h' : Heap} (x : Heap.SameBut t h h') : But t h h' := fun a o n e => x.extBut a o n e
theorem But.sub {t : Addr} {h h' : Heap} (x : But t h h') {X : List Addr} (ht : t ∈ X) : Sub (vis h X) (vis h' X) := fun a o e =>
  let ⟨hn, hg⟩ := vis_some.mp e
  vis_some.mpr ⟨hn, x a o (fun e => hn (e ▸ ht)) hg⟩
theorem But.stp {t : Addr} {s : Shared} {h' : Heap} (x : But t s.heap h') {T : List Addr} (ht : t ∈ T) (n : Nat) : Stp T s { s with heap := h', toks := n } := ⟨fun a o m e => x a o (fun q => m (q ▸ ht)) e, fun _ _ e => e, id, rfl⟩
/-- a thing of the frame's own turns -/
theorem Rel.set {h₀ : Heap} {L : Lay} {σ : Sg} {h h' : Heap} {i : Nat} {a : Addr} {th : Th} (R : Rel prog w h₀ L σ h) (ha : L.own[i]? = some a) (b : But a h h') (t : ThAt prog w (vis h' L.X) L.own h' a th) : Rel prog w h₀ L (σ.set i th) h' :=
  have m := List.mem_of_getElem? ha
  have sub := b.sub (X_own m)
  ⟨R.base.trans sub, R.nodup, R.apart, fun a' q => (R.ext a' q).imp fun o e => b a' o (fun z => R.apart a m (z ▸ q)) e, R.own.set R.nodup ha t fun a' _ _ ne t => t.imp sub (.refl _) fun o e => b a' o ne e⟩
/-- the environment is that of Γ -/
structure EnvR (Γ : Gm) (φ : List Addr) (env : Env) : Prop where
  scope : env.scope = Γ.scope
  kind : Γ.scope.kind = .function
  loc : φ[Γ.fid]? = some env.locals
  globals : env.globals = mainGlobals
  cells : ∀ x c, Γ.cl.lookup x = some c → ∃ a, φ[c]? = some a ∧ env.cells.lookup x = some a
  builtins : env.builtins = builtinsNs
theorem EnvR.kindOf {Γ : Gm} {φ : List Addr} {env : Env} (R : EnvR Γ φ env) (x : Str) : env.kindOf x = Γ.kindOf x := congrArg (fun s : Scope => s.names.lookup x) R.scope
theorem EnvR.kindE {Γ : Gm} {φ : List Addr} {env : Env} (R : EnvR Γ φ env) : env.scope.kind = .function := R.scope ▸ R.kind
theorem EnvR.more {Γ : Gm} {φ φ' : List Addr} {env : Env} (R : EnvR Γ φ env) (p : Pre φ φ') : EnvR Γ φ' env :=
  ⟨R.scope, R.kind, p _ _ R.loc, R.globals, fun x c e => (R.cells x c e).imp fun _ r => ⟨p _ _ r.1, r.2⟩, R.builtins⟩
structure Room (k : Nat) (A : Around) : Prop where
  handled : A.handled = none
  depth : A.depth + k < 600
  units : A.units + 20 * k + 20 < cLine
theorem Room.units6 {k : Nat} {A : Around} (r : Room k A) : A.units + 6 < cLine := by have := r.units; omega
theorem Room.less {k : Nat} {A : Around} (r : Room (k + 1) A) : Room k A := ⟨r.handled, Nat.lt_of_succ_lt r.depth, by have := r.units; omega⟩
theorem Room.unit {k : Nat} {A : Around} (r : Room k A) : A.units < cLine := Nat.lt_of_le_of_lt (Nat.le_add_right _ _) r.units6
/-- a call of the def at a, with such arguments, hands back r and turns nothing -/
noncomputable def CallOK (prog : Program) (w : World) (h₀ : Heap) (k : Nat) (a : Addr) (args : List V) (r : V) : Prop :=
  ∀ (A : Around) (s : Shared) (X : List Addr) (vals : List Value) (Q E : Value → Shared → Prop), Room k A → Sub h₀.get? (vis s.heap X) → (∀ b, b ∈ X → ∃ o, s.heap.get? b = some o) →
    Reps prog w (vis s.heap X) vals args → (∀ v s', Kp s s' → Rep prog w (vis s'.heap X) v r → Q v s') →
    wpAny (model prog w) A (call (.ref a) vals) Q E s
/-- a def stands there -/
noncomputable def DefHere (h₀ : Heap) (a : Addr) : Prop := ∃ o fd, h₀.get? a = some o ∧ o.data = .func fd
noncomputable abbrev nLast : Str := "last_interval"
noncomputable abbrev nInt : Str := "interval"
noncomputable abbrev nGrp : Str := "grouping"
noncomputable abbrev nMax : Str := "CHAR_MAX"
/-- the places in the generator's text -/
structure GPos where
  (a1 a2 a3 b0 b1 b2 c0 c1 c2 c3 c4 c5 d0 d1 d2 d3 d4 d5 e0 e1 e2 e3 e4 e5 f0 f1 f2 f3 f4 g0 g1 g2 g3 k1 k2 k3 k4 : Pos)
  (n1 n2 n3 n4 : Nat)
  (raise : List Stmt)
noncomputable def yLoop (P : GPos) : List Stmt := [.Expr (.Yield (some (.Name nLast P.g0)) P.g1) P.g2]
noncomputable def yWhile (P : GPos) : Stmt := .While (.Constant (.bool true) P.n4 P.f3) (yLoop P) [] P.f4
noncomputable def gTail (P : GPos) : List Stmt := [.Expr (.Yield (some (.Name nInt P.k1)) P.k2) P.k3, .Assign [.Name nLast P.k4] (.Name nInt P.e5) P.g3]
noncomputable def gZero (P : GPos) : Stmt := .If (.Compare (.Name nInt P.d1) [.Eq] [.Constant (.int 0) P.n2 P.d2] P.d3) [.If (.Compare (.Name nLast P.e0) [.Is] [.Constant .none P.n3 P.e1] P.e2) P.raise [] P.e3, yWhile P] [] P.d4
noncomputable def gBody (P : GPos) : List Stmt := .If (.Compare (.Name nInt P.c1) [.Eq] [.Name nMax P.c2] P.c3) [.Return none P.c4] [] P.c5 :: gZero P :: gTail P
noncomputable def gAll (P : GPos) : List Stmt := [.Assign [.Name nLast P.a1] (.Constant .none P.n1 P.a2) P.a3, .For (.Name nInt P.b0) (.Name nGrp P.b1) (gBody P) [] P.b2]
/-- the generator function stands at its place -/
structure GenTop (h₀ : Heap) (a : Addr) : Prop where
  at' : ∃ o fd P, h₀.get? a = some o ∧ o.data = .func fd ∧ fd.body = .stmts (gAll P) ∧ fd.scope.kind = .function ∧ fd.scope.isCoroutine = false ∧ fd.scope.isGenerator = true ∧
    (∀ x ∈ fd.scope.names, x.2 ≠ .cell) ∧ fd.scope.names.lookup nLast = some .local ∧ fd.scope.names.lookup nInt = some .local ∧ fd.scope.names.lookup nGrp = some .local ∧ fd.scope.names.lookup nMax = some .globalImplicit ∧
    fd.globals = mainGlobals ∧ h₀.CodeRec fd.code fd.qualname ∧ ∀ v, bindArgs fd ⟨[v], []⟩ = pure [(nGrp, v)]
  max : ∃ mg t, h₀.Ns mainGlobals mg ∧ mg nMax = some (.int 127 t)
/-- the facts of the top that the evaluator leans on -/
structure TopOK (prog : Program) (w : World) (C : Cx) (h₀ : Heap) : Prop where
  nolimit : h₀.NoLimit
  glob : ∀ x v, C.glob x = some v → ∃ mg cv, h₀.Ns mainGlobals mg ∧ mg x = some cv ∧ Rep prog w h₀.get? cv v
  bi : ∀ x bv, C.glob x = none → biTab.lookup x = some bv → (∃ mg, h₀.Ns mainGlobals mg ∧ mg x = none) ∧ ∃ mb, h₀.Ns builtinsNs mb ∧ mb x = some bv
  big : ∃ a o, 1 ≤ a ∧ h₀.get? a = some o
  gen : ∀ a, C.gen a = true → GenTop h₀ a
/-- where an expression is read -/
structure Fx (prog : Program) (w : World) (h₀ : Heap) (C : Cx) (K : Nat) (Γ : Gm) (φ : List Addr) (env : Env) (A : Around) : Prop where
  top : TopOK prog w C h₀
  fok : ∀ a args r, C.F a args r → DefHere h₀ a ∧ CallOK prog w h₀ K a args r
  er : EnvR Γ φ env
  room : Room (K + 1) A
theorem Fx.more {h₀ : Heap} {C : Cx} {K : Nat} {Γ : Gm} {φ φ' : List Addr} {env : Env} {A : Around} (X : Fx prog w h₀ C K Γ φ env A) (p : Pre φ φ') : Fx prog w h₀ C K Γ φ' env A := ⟨X.top, X.fok, X.er.more p, X.room⟩
end Mine
end
section
open PySem PySem.W PyProof.Rows PySem.SeqAt
namespace Mine
variable {prog : Program} {w : World} {h₀ : Heap} {C : Cx} {K : Nat} {Γ : Gm} {L : Lay} {env : Env} {σ σ' : Sg} {s : Shared} {A : Around} {E : Value → Shared → Prop}
/-- what is there, with its ground -/
noncomputable def optC {α : Type} (o : Option α) : Option {x // o = some x} := match o with
  | some x => some ⟨x, rfl⟩
  | none => none
/-! names -/
noncomputable def LoadOK (C : Cx) (Γ : Gm) (σ : Sg) (x : Str) (d : D) : Prop := (x == ("__debug__" : Str)) = false ∧
  ∀ {prog : Program} {w : World} {h₀ : Heap} {K : Nat} {L : Lay} {env : Env} {A : Around} {s : Shared} {E Q : Value → Shared → Prop}, Fx prog w h₀ C K Γ L.own env A → Rel prog w h₀ L σ s.heap →
    (∀ v, RepD prog w (vis s.heap L.X) L.own v d → Q v s) → wpAny (model prog w) A (loadName env x) Q E s
noncomputable def NameOK (C : Cx) (Γ : Gm) (σ : Sg) (x : Str) (d : D) : Prop :=
  ∀ {prog : Program} {w : World} {h₀ : Heap} {K : Nat} {L : Lay} {env : Env} {A : Around} {s : Shared} {E Q : Value → Shared → Prop}, Fx prog w h₀ C K Γ L.own env A → Rel prog w h₀ L σ s.heap →
    (∀ v, RepD prog w (vis s.heap L.X) L.own v d → Q v s) → ∀ p, wpAny (model prog w) A (eval (.Name x p) env) Q E s
theorem Rel.nsBase {h : Heap} (R : Rel prog w h₀ L σ h) {a : Addr} {m} (x : h₀.Ns a m) : h.Ns a m := x.at' fun o e => vis_get (R.base a o e)
theorem load_local {x : Str} {m : List (Str × D)} {d : D} (hd : (x == ("__debug__" : Str)) = false) (hk : Γ.kindOf x = some .local) (hm : σ[Γ.fid]? = some (.fr m)) (hx : m.lookup x = some d) : LoadOK C Γ σ x d := ⟨hd, fun X R hQ => by
  obtain ⟨a, ha, f, hn, hf⟩ := R.own.get hm
  obtain ⟨v, hv, hr⟩ := hf _ _ hx
  exact wpAny_loadName_local X.er.kindE ((X.er.kindOf x).trans hk) (Option.some.inj (ha.symm.trans X.er.loc) ▸ hn) hv (hQ v hr)⟩
theorem cell_at {x : Str} {c : Nat} {d : D} {φ : List Addr} {h : Heap} {g : G} (er : EnvR Γ φ env) (o : All2 (ThAt prog w g φ h) φ σ) (hc : Γ.cl.lookup x = some c) (hm : σ[c]? = some (.ce (some d))) : ∃ a v, env.cells.lookup x = some a ∧ h.IsCell a (some v) ∧ RepD prog w g φ v d := by
  obtain ⟨a, ha, ov, hn, hf⟩ := o.get hm
  obtain ⟨v, rfl, hr⟩ := hf d rfl
  obtain ⟨a', ha', hl⟩ := er.cells _ _ hc
  exact ⟨a, v, Option.some.inj (ha'.symm.trans ha) ▸ hl, hn, hr⟩
theorem load_cell {x : Str} {c : Nat} {d : D} (hd : (x == ("__debug__" : Str)) = false) (hk : Γ.kindOf x = some .cell) (hc : Γ.cl.lookup x = some c) (hm : σ[c]? = some (.ce (some d))) : LoadOK C Γ σ x d := ⟨hd, fun X R hQ => by
  obtain ⟨a, v, hl, hn, hr⟩ := cell_at X.er R.own hc hm
  exact wpAny_loadName_cell X.er.kindE ((X.er.kindOf x).trans hk) hl hn (hQ v hr)⟩
theorem load_free {x : Str} {c : Nat} {d : D} (hd : (x == ("__debug__" : Str)) = false) (h2 : (x == ("__classdict__" : Str)) = false) (hk : Γ.kindOf x = some .free) (hc : Γ.cl.lookup x = some c) (hm : σ[c]? = some (.ce (some d))) : LoadOK C Γ σ x d := ⟨hd, fun X R hQ => by
  obtain ⟨a, v, hl, hn, hr⟩ := cell_at X.er R.own hc hm
  exact wpAny_loadName_free X.er.kindE ((X.er.kindOf x).trans hk) hl hn (hQ v hr) h2⟩
theorem name_load {x : Str} {d : D} (h : LoadOK C Γ σ x d) : NameOK C Γ σ x d := fun X R hQ p => wpAny_Name (h.2 X R hQ) h.1
theorem name_glob {x : Str} {y : V} (hd : (x == ("__debug__" : Str)) = false) (hk : Γ.kindOf x = some .globalImplicit) (hg : C.glob x = some y) : NameOK C Γ σ x (.v y) := fun X R hQ p => by
  obtain ⟨mg, cv, h1, h2, h3⟩ := X.top.glob _ _ hg
  exact Calls.Name_function_global X.er.kindE ((X.er.kindOf x).trans hk) (Calls.loadGlobal_global (X.er.globals ▸ R.nsBase h1) h2 (hQ cv (h3.mono R.base))) hd
noncomputable def loadC (C : Cx) (Γ : Gm) (σ : Sg) (x : Str) : Option (Subtype (LoadOK C Γ σ x)) :=
  if hd : (x == ("__debug__" : Str)) = false ∧ (x == ("__classdict__" : Str)) = false then
    (optC (Γ.kindOf x)).bind fun k => match k with
    | ⟨.local, hk⟩ => (optC (σ[Γ.fid]?)).bind fun t => match t with
      | ⟨.fr m, hm⟩ => (optC (m.lookup x)).map fun d => ⟨_, load_local hd.1 hk hm d.2⟩
      | _ => none
    | ⟨.cell, hk⟩ => (optC (Γ.cl.lookup x)).bind fun c => (optC (σ[c.1]?)).bind fun t => match t with
      | ⟨.ce (some d), hm⟩ => some ⟨d, load_cell hd.1 hk c.2 hm⟩
      | _ => none
    | ⟨.free, hk⟩ => (optC (Γ.cl.lookup x)).bind fun c => (optC (σ[c.1]?)).bind fun t => match t with
      | ⟨.ce (some d), hm⟩ => some ⟨d, load_free hd.1 hd.2 hk c.2 hm⟩
      | _ => none
    | _ => none
  else none
noncomputable def nameC (C : Cx) (Γ : Gm) (σ : Sg) (x : Str) : Option (Subtype (NameOK C Γ σ x)) :=
  ((loadC C Γ σ x).map fun d => ⟨d.1, name_load d.2⟩).or (if hd : (x == ("__debug__" : Str)) = false ∧ Γ.kindOf x = some .globalImplicit then (optC (C.glob x)).map fun y => ⟨_, name_glob hd.1 hd.2 y.2⟩ else none)
/-! stores -/
theorem mem_drop {α : Type} {l : List α} {i b : Nat} {a : α} (h : l[i]? = some a) (hb : b ≤ i) : a ∈ l.drop b :=
  List.mem_of_getElem? (i := i - b) (List.getElem?_drop.trans ((congrArg (l[·]?) (Nat.add_sub_cancel' hb)).trans h))
theorem lookup_setL (x y : Str) (d : D) : ∀ m : List (Str × D), (setL m x d).lookup y = if y = x then some d else m.lookup y
  | [] => by
    simp only [setL, List.lookup]
    by_cases e : y = x
    · simp [e]
    · simp [e, beq_eq_false_iff_ne.mpr e]
  | (z, e) :: r => by
    simp only [setL]
    split
    · rename_i hz; subst hz
      by_cases hy : y = z
      · simp [hy]
      · simp [List.lookup_cons, hy, beq_eq_false_iff_ne.mpr hy]
    · rename_i hz
      rw [List.lookup_cons, List.lookup_cons, lookup_setL x y d r]
      by_cases hy : y = z
      · subst hy; simp [hz]
      · simp [beq_eq_false_iff_ne.mpr hy]
/-- a name's store turns what lies at b or behind -/
noncomputable def StOK (Γ : Gm) (b : Nat) (σ : Sg) (x : Str) (d : D) (σ' : Sg) : Prop :=
  ∀ {prog : Program} {w : World} {h₀ : Heap} {L : Lay} {env : Env} {A : Around} {s : Shared} {E : Value → Shared → Prop} {Q : Unit → Shared → Prop} {v : Value}, EnvR Γ L.own env → Rel prog w h₀ L σ s.heap →
    RepD prog w (vis s.heap L.X) L.own v d → (∀ s', Stp (L.own.drop b) s s' → Rel prog w h₀ L σ' s'.heap → Q () s') → wpAny (model prog w) A (storeName env x v) Q E s
theorem st_local {b : Nat} {x : Str} {d : D} {m : List (Str × D)} (hk : Γ.kindOf x = some .local) (hm : σ[Γ.fid]? = some (.fr m)) (hb : b ≤ Γ.fid) : StOK Γ b σ x d (σ.set Γ.fid (.fr (setL m x d))) :=
  fun {_ _ _ _ env _ _ _ _ v} er R rd hQ => by
    obtain ⟨a, ha, f, hn, hf⟩ := R.own.get hm
    have hl : a = env.locals := Option.some.inj (ha.symm.trans er.loc)
    subst hl
    refine wpAny_storeName_local ((er.kindOf x).trans hk) hn (fun h' hn' hs' => ?_) (by rw [er.kindE]; rfl)
    have b' := But.of hs'
    have sub := b'.sub (X_own (List.mem_of_getElem? ha))
    refine hQ _ (b'.stp (mem_drop ha hb) _) (R.set ha b' ⟨_, hn', fun y d' hy => ?_⟩)
    rw [lookup_setL] at hy
    by_cases e : y = x
    · rw [if_pos e] at hy; cases hy; exact ⟨v, if_pos e, rd.mono sub (.refl _)⟩
    · rw [if_neg e] at hy
      exact (hf y d' hy).imp fun _ r => ⟨(if_neg e).trans r.1, r.2.mono sub (.refl _)⟩
theorem st_cell {b c : Nat} {x : Str} {d : D} {o : Option D} (hk : Γ.kindOf x = some .cell) (hc : Γ.cl.lookup x = some c) (hm : σ[c]? = some (.ce o)) (hb : b ≤ c) : StOK Γ b σ x d (σ.set c (.ce (some d))) :=
  fun {_ _ _ _ env _ _ _ _ v} er R rd hQ => by
    obtain ⟨a, ha, ov, hn, _⟩ := R.own.get hm
    obtain ⟨a', ha', hl⟩ := er.cells _ _ hc
    cases Option.some.inj (ha.symm.trans ha')
    refine wpAny_storeName_cell er.kindE ((er.kindOf x).trans hk) hl hn fun h' hn' hs' => ?_
    have b' := But.of hs'
    exact hQ _ (b'.stp (mem_drop ha hb) _) (R.set ha b' ⟨_, hn', fun d' e => ⟨v, rfl, Option.some.inj e ▸ rd.mono (b'.sub (X_own (List.mem_of_getElem? ha))) (.refl _)⟩⟩)
noncomputable def stC (Γ : Gm) (b : Nat) (σ : Sg) (x : Str) (d : D) : Option (Subtype (StOK Γ b σ x d)) :=
  (optC (Γ.kindOf x)).bind fun k => match k with
  | ⟨.local, hk⟩ => (optC (σ[Γ.fid]?)).bind fun t => match t with
    | ⟨.fr m, hm⟩ => if hb : b ≤ Γ.fid then some ⟨_, st_local hk hm hb⟩ else none
    | _ => none
  | ⟨.cell, hk⟩ => (optC (Γ.cl.lookup x)).bind fun c => (optC (σ[c.1]?)).bind fun t => match t with
    | ⟨.ce o, hm⟩ => if hb : b ≤ c.1 then some ⟨_, st_cell hk c.2 hm hb⟩ else none
    | _ => none
  | _ => none
/-! targets -/
theorem Stp.sub {T X : List Addr} {s s' : Shared} (x : Stp T s s') (hT : ∀ a, a ∈ T → a ∈ X) : Sub (vis s.heap X) (vis s'.heap X) := fun a o e =>
  let ⟨hn, hg⟩ := vis_some.mp e
  vis_some.mpr ⟨hn, x.heap a o (fun hm => hn (hT a hm)) hg⟩
theorem drop_X {b : Nat} {a : Addr} (h : a ∈ L.own.drop b) : a ∈ L.X := X_own (List.mem_of_mem_drop h)
noncomputable def Tgt (t : Expr) : Prop := (∃ es n p, t = .Tuple es n p) ∨ ∃ y p, t = .Name y p
structure AsgOK (Γ : Gm) (b : Nat) (σ : Sg) (t : Expr) (x : V) (σ' : Sg) : Prop where
  tgt : Tgt t
  run : ∀ {prog : Program} {w : World} {h₀ : Heap} {L : Lay} {env : Env} {A : Around} {s : Shared} {E : Value → Shared → Prop} {Q : Unit → Shared → Prop} {v : Value}, A.handled = none → EnvR Γ L.own env → Rel prog w h₀ L σ s.heap →
    Rep prog w (vis s.heap L.X) v x → (∀ s', Stp (L.own.drop b) s s' → Rel prog w h₀ L σ' s'.heap → Q () s') → wpAny (model prog w) A (assign t env v) Q E s
theorem asg_name {b : Nat} {x : Str} {p : Pos} {y : V} (h : StOK Γ b σ x (.v y) σ') : AsgOK Γ b σ (.Name x p) y σ' := ⟨.inr ⟨x, p, rfl⟩, fun _ er R r hQ => wpAny_assign_Name (h er R r hQ)⟩
structure NamesOK (Γ : Gm) (b : Nat) (σ : Sg) (es : List Expr) (xs : List V) (σ' : Sg) : Prop where
  len : es.length = xs.length
  each : ∀ env, (assignEach es env).length = es.length ∧ (assignEach es env).findIdx? (·.1) = none
  run : ∀ {prog : Program} {w : World} {h₀ : Heap} {L : Lay} {env : Env} {A : Around} {s : Shared} {E : Value → Shared → Prop} {Q : Unit → Shared → Prop} {vs : List Value}, EnvR Γ L.own env → Rel prog w h₀ L σ s.heap →
    Reps prog w (vis s.heap L.X) vs xs → (∀ s', Stp (L.own.drop b) s s' → Rel prog w h₀ L σ' s'.heap → Q () s') → wpAny (model prog w) A (assignInOrder ((assignEach es env).map (·.2)) vs) Q E s
theorem names_nil {b : Nat} : NamesOK Γ b σ [] [] σ := ⟨rfl, fun _ => ⟨rfl, rfl⟩, fun _ R r hQ => (show _ = [] from r) ▸ wpAny_assignInOrder_none (hQ _ (Stp.refl _ _) R)⟩
theorem names_cons {b : Nat} {x : Str} {p : Pos} {es : List Expr} {y : V} {xs : List V} {σ₁ : Sg} (h : StOK Γ b σ x (.v y) σ₁) (h2 : NamesOK Γ b σ₁ es xs σ') : NamesOK Γ b σ (.Name x p :: es) (y :: xs) σ' where
  len := congrArg Nat.succ h2.len
  each := fun env => ⟨congrArg Nat.succ (h2.each env).1, by
    show List.findIdx? (·.1) ((false, assign (.Name x p) env) :: assignEach es env) = none
    rw [List.findIdx?_cons, (h2.each env).2]; rfl⟩
  run := fun er R r hQ => by
    obtain ⟨v, vs, rfl, r1, r2⟩ := r
    exact wpAny_assignInOrder_more (wpAny_assign_Name (h er R r1 fun s₁ st R₁ => h2.run er R₁ (r2.mono (st.sub fun _ => drop_X)) fun s' st' R' => hQ s' (st.trans st') R'))
theorem asg_tup {b : Nat} {es : List Expr} {n : Nat} {p : Pos} {xs : List V} (h : NamesOK Γ b σ es xs σ') : AsgOK Γ b σ (.Tuple es n p) (.tup xs) σ' := ⟨.inl ⟨_, _, _, rfl⟩, fun {_ _ _ _ env _ s _ Q _} hh er R r hQ => by
  obtain ⟨a, k, vs, rfl, hg, hz, hr⟩ := r
  refine wpAny_assign_Tuple hh (t := a) (items := vs) ⟨_, vis_get hg, rfl, k, rfl⟩ ((h.each env).1.trans (h.len.trans hr.length.symm)) (h.each env).2 fun h' he => ?_
  have kp : Kp s { s with heap := h' } := ⟨fun a o e => he a o (Nat.ne_of_lt (Heap.lt_size e)) e, fun _ _ e => e, id, rfl⟩
  exact h.run er (R.keep kp) (hr.mono (kp.sub _)) fun s' st R' => hQ s' ((kp.stp _).trans st) R'⟩
noncomputable def namesC (Γ : Gm) (b : Nat) : (es : List Expr) → (xs : List V) → (σ : Sg) → Option (Subtype (NamesOK Γ b σ es xs))
  | [], [], σ => some ⟨σ, names_nil⟩
  | .Name x p :: es, y :: xs, σ => (stC Γ b σ x (.v y)).bind fun r => (namesC Γ b es xs r.1).map fun q => ⟨_, names_cons r.2 q.2⟩
  | _, _, _ => none
noncomputable def asgC (Γ : Gm) (b : Nat) (σ : Sg) (t : Expr) (x : V) : Option (Subtype (AsgOK Γ b σ t x)) := match t, x with
  | .Name y _, x => (stC Γ b σ y (.v x)).map fun r => ⟨_, asg_name r.2⟩
  | .Tuple es _ _, .tup xs => (namesC Γ b es xs σ).map fun r => ⟨_, asg_tup r.2⟩
  | _, _ => none
end Mine
end
section
open PySem PySem.W PyProof.Rows PySem.SeqAt
namespace Mine
variable {prog : Program} {w : World}
/-- a list stands there -/
inductive LstAt (prog : Program) (w : World) (h : Heap) (g : G) (xs : List V) : Value → Prop
  | mk (a : Addr) (us : Array Value) (hl : h.PlainList a us) (hz : us.size ≤ sizeLine) (hr : Reps prog w g us.toList xs) : LstAt prog w h g xs (.ref a)
/-- a dict stands there -/
inductive DctAt (prog : Program) (w : World) (h : Heap) (g : G) (kvs : List (Int × V)) : Value → Prop
  | mk (a : Addr) (ks : List (Int × Value)) (hd : h.DictOf (intKind prog w) a ks) (hm : (a == sysModules) = false) (hz : ks.length ≤ sizeLine) (hr : RepK prog w g ks kvs) : DctAt prog w h g kvs (.ref a)
theorem lst_heap {g : G} {h : Heap} (hg : Sub g h.get?) {v : Value} {xs : List V} (r : Rep prog w g v (.lst xs)) : LstAt prog w h g xs v := by
  obtain ⟨a, n, vs, rfl, ho, hz, hr⟩ : ∃ a n vs, v = .ref a ∧ g a = some { cls := .type "list", data := .seq vs n } ∧ vs.size ≤ sizeLine ∧ Reps prog w g vs.toList xs := r
  exact ⟨a, vs, ⟨n, hg a _ ho⟩, hz, hr⟩
theorem dct_heap {g : G} {h : Heap} (hg : Sub g h.get?) {v : Value} {kvs : List (Int × V)} (r : Rep prog w g v (.dct kvs)) : DctAt prog w h g kvs v := by
  obtain ⟨a, o, ks, rfl, ho, hd, hm, hz, hr⟩ : ∃ a o ks, v = .ref a ∧ g a = some o ∧ o.IsDictOf (intKind prog w) ks ∧ (a == sysModules) = false ∧ ks.length ≤ sizeLine ∧ RepK prog w g ks kvs := r
  exact ⟨a, ks, Heap.dictOf_iff.mpr ⟨o, hg a o ho, hd⟩, hm, hz, hr⟩
theorem repK_get {g : G} : ∀ {xs : List (Int × V)} {ks : List (Int × Value)}, RepK prog w g ks xs → ∀ (k : Int), (dget xs k = none ∧ valueAt ks k = none) ∨ ∃ v x, dget xs k = some x ∧ valueAt ks k = some v ∧ Rep prog w g v x
  | [], ks, h, k => .inl ⟨rfl, by rw [show ks = [] from h]; rfl⟩
  | kx :: xs, ks, h, k => by
    obtain ⟨v, r, rfl, h1, h2⟩ : ∃ v r, ks = (kx.1, v) :: r ∧ Rep prog w g v kx.2 ∧ RepK prog w g r xs := h
    by_cases hk : kx.1 = k
    · exact .inr ⟨v, kx.2, by simp [dget, hk], by simp [valueAt, hk], h1⟩
    · have := repK_get h2 k
      simpa [dget, valueAt, hk] using this
/-- == answers b -/
structure EqOK (n : Nat) (x y : V) (b : Bool) : Prop where
  same : ∀ {prog : Program} {w : World} {g : G} {v : Value}, Rep prog w g v x → Rep prog w g v y → b = true
  eq : ∀ {prog : Program} {w : World} {g : G} {s : Shared} {A : Around} {v u : Value}, Sub g s.heap.get? → A.units + n < cLine → Rep prog w g v x → Rep prog w g u y → EqAt A s v u b ∧ RcAt A s v u b ∧ RcNeAt A s v u (!b)
structure EqsOK (n : Nat) (xs ys : List V) (b : Bool) : Prop where
  len : xs.length = ys.length
  same : ∀ {prog : Program} {w : World} {g : G} {vs : List Value}, Reps prog w g vs xs → Reps prog w g vs ys → b = true
  eq : ∀ {prog : Program} {w : World} {g : G} {s : Shared} {A : Around} {vs us : List Value}, Sub g s.heap.get? → A.units + n < cLine → Reps prog w g vs xs → Reps prog w g us ys → ∃ e : Nat → Bool, (∀ j v u, vs[j]? = some v → us[j]? = some u → EqAt A s v u (e j)) ∧ (List.range vs.length).all e = b
variable {n : Nat}
theorem eq_none : EqOK n .none .none true := ⟨fun _ _ => rfl, fun _ _ hx hy => by cases hx; cases hy; exact ⟨.same _, .none_none, .none_none⟩⟩
theorem eq_nb (b : Bool) : EqOK n .none (.bool b) false := ⟨fun hx hy => (by cases hx; cases hy), fun _ _ hx hy => by cases hx; cases hy; exact ⟨.none_bool _, .none_bool _, .none_bool _⟩⟩
theorem eq_bn (b : Bool) : EqOK n (.bool b) .none false := ⟨fun hx hy => (by cases hx; cases hy), fun _ _ hx hy => by cases hx; cases hy; exact ⟨.bool_none _, .bool_none _, .bool_none _⟩⟩
theorem eq_bb (a b : Bool) : EqOK n (.bool a) (.bool b) (a == b) := ⟨fun hx hy => (by cases hx; cases hy; exact beq_self_eq_true a), fun _ _ hx hy => by cases hx; cases hy; exact ⟨.bool_bool _ _, .bool_bool _ _, .bool_bool _ _⟩⟩
theorem eq_ii (a b : Int) : EqOK n (.int a) (.int b) (a == b) := ⟨fun ⟨_, e⟩ ⟨_, f⟩ => by cases e; cases f; exact beq_self_eq_true a, fun _ _ ⟨_, e⟩ ⟨_, f⟩ => by cases e; cases f; exact ⟨.int_int _ _ _ _, .int_int _ _ _ _, .int_int _ _ _ _⟩⟩
theorem eq_ss (a b : Str) : EqOK n (.str a) (.str b) (a == b) := ⟨fun ⟨_, e, _⟩ ⟨_, f, _⟩ => by cases e; cases f; exact beq_self_eq_true a, fun _ _ ⟨_, e, _⟩ ⟨_, f, _⟩ => by cases e; cases f; exact ⟨.str_str _ _ _ _, .str_str _ _ _ _, .str_str _ _ _ _⟩⟩
theorem lst_two {prog : Program} {w : World} {g : G} {v : Value} {xs ys : List V} : Rep prog w g v (.lst xs) → Rep prog w g v (.lst ys) → ∃ us, Reps prog w g us xs ∧ Reps prog w g us ys := fun ⟨a, m, vs, e, ho, _, hr⟩ ⟨a', m', vs', e', ho', _, hr'⟩ => by
  cases e; cases e'
  rw [ho] at ho'; cases ho'
  exact ⟨_, hr, hr'⟩
theorem Reps.onCons {prog : Program} {w : World} {g : G} {x : V} {xs : List V} {P : List Value → Prop} {vs : List Value} (r : Reps prog w g vs (x :: xs)) (h : ∀ v us, Rep prog w g v x → Reps prog w g us xs → P (v :: us)) : P vs :=
  Exists.elim (show ∃ v us, vs = v :: us ∧ Rep prog w g v x ∧ Reps prog w g us xs from r) fun v r => r.elim fun us r => r.1 ▸ h v us r.2.1 r.2.2
theorem Reps.consInv {prog : Program} {w : World} {g : G} {x : V} {xs : List V} {v : Value} {us : List Value} (r : Reps prog w g (v :: us) (x :: xs)) : Rep prog w g v x ∧ Reps prog w g us xs :=
  r.onCons (P := fun l => l = v :: us → Rep prog w g v x ∧ Reps prog w g us xs) (fun _ _ a b e => by cases e; exact ⟨a, b⟩) rfl
theorem eqs_nil : EqsOK n [] [] true := ⟨rfl, fun _ _ => rfl, fun {prog w g s A vs us} _ _ hx _ => (show vs = [] from hx) ▸ ⟨fun _ => true, fun _ _ _ h _ => (nomatch h), rfl⟩⟩
/-- the answers in a row -/
noncomputable def consB (a : Bool) (e : Nat → Bool) : Nat → Bool
  | 0 => a
  | j + 1 => e j
theorem consB_all (a : Bool) (e : Nat → Bool) (n : Nat) : (List.range (n + 1)).all (consB a e) = (a && (List.range n).all e) := by
  rw [List.range_succ_eq_map, List.all_cons, List.all_map]; rfl
theorem eqs_cons {x y : V} {xs ys : List V} {a b : Bool} (h1 : EqOK n x y a) (h2 : EqsOK n xs ys b) : EqsOK n (x :: xs) (y :: ys) (a && b) where
  len := congrArg Nat.succ h2.len
  same := fun p q => by
    obtain ⟨v, us, rfl, p1, p2⟩ := p
    rw [h1.same p1 q.consInv.1, h2.same p2 q.consInv.2]; rfl
  eq := fun hg hu p q => by
    obtain ⟨v, vs, rfl, p1, p2⟩ := p
    obtain ⟨u, us, rfl, q1, q2⟩ := q
    exact (h2.eq hg hu p2 q2).elim fun e he => ⟨consB a e, fun j => match j with
      | 0 => fun v' u' h h' => by cases h; cases h'; exact (h1.eq hg hu p1 q1).1
      | j + 1 => he.1 j, (consB_all a e _).trans (congrArg (a && ·) he.2)⟩
theorem units_lt {A : Around} {n m : Nat} (h : A.units + n < m) : A.units < m := Nat.lt_of_le_of_lt (Nat.le_add_right _ _) h
theorem eq_refs {s : Shared} {A : Around} {v u : Value} {b : Bool} (hb : v = u → b = true) (hr : (∃ a, v = .ref a) ∧ ∃ a, u = .ref a) (two : RcAt A s v u b ∧ RcNeAt A s v u (!b)) : EqAt A s v u b ∧ RcAt A s v u b ∧ RcNeAt A s v u (!b) := by
  refine ⟨?_, two⟩
  by_cases e : v = u
  · rw [e, hb e]; exact .same _
  · obtain ⟨⟨a, rfl⟩, a', rfl⟩ := hr
    exact .of_refs (fun q => e (congrArg Value.ref q)) two.1
theorem rc_lists {prog : Program} {w : World} {g : G} {s : Shared} {A : Around} {v u : Value} {xs ys : List V} {b : Bool} (h : EqsOK n xs ys b) (hg : Sub g s.heap.get?) (hu : A.units + (n + 1) < cLine) (hx : LstAt prog w s.heap g xs v) (hy : LstAt prog w s.heap g ys u) : RcAt A s v u b ∧ RcNeAt A s v u (!b) := by
  cases hx with | mk a vs hp _ hr =>
  cases hy with | mk a' us hp' _ hr' =>
  obtain ⟨e, he, ha⟩ := h.eq (A := A.in1) hg (Nat.lt_of_le_of_lt (Nat.le_of_eq (Nat.add_right_comm A.units 1 n)) hu) hr hr'
  have hsz : vs.size = us.size := hr.length.trans (h.len.trans hr'.length.symm)
  have he' : ∀ j (h1 : j < vs.size) (h2 : j < us.size), EqAt A.in1 s vs[j] us[j] (e j) := fun j h1 h2 => he j _ _ ((Array.getElem?_toList ..).trans (Array.getElem?_eq_getElem h1)) ((Array.getElem?_toList ..).trans (Array.getElem?_eq_getElem h2))
  rw [← ha]
  exact ⟨.lists hp.isList hp'.isList hsz (units_lt hu) he', .lists hp.isList hp'.isList hsz (units_lt hu) he'⟩
theorem rc_lens {prog : Program} {w : World} {g : G} {s : Shared} {A : Around} {v u : Value} {xs ys : List V} (h : xs.length ≠ ys.length) (hu : A.units < cLine) (hx : LstAt prog w s.heap g xs v) (hy : LstAt prog w s.heap g ys u) : RcAt A s v u false ∧ RcNeAt A s v u (!false) := by
  cases hx with | mk a vs hp _ hr =>
  cases hy with | mk a' us hp' _ hr' =>
  have hsz : (vs.size != us.size) = true := bne_iff_ne.mpr fun q => h (hr.length.symm.trans (q.trans hr'.length))
  exact ⟨.lists_lengths hp.isList hp'.isList hsz hu, .lists_lengths hp.isList hp'.isList hsz hu⟩
theorem LstAt.ref {prog : Program} {w : World} {h : Heap} {g : G} {xs : List V} : ∀ {v : Value}, LstAt prog w h g xs v → ∃ a, v = .ref a
  | _, .mk a _ _ _ _ => ⟨a, rfl⟩
theorem eq_lst {xs ys : List V} {b : Bool} (h : EqsOK n xs ys b) : EqOK (n + 1) (.lst xs) (.lst ys) b where
  same := fun hx hy => let ⟨_, a, b⟩ := lst_two hx hy; h.same a b
  eq := fun hg hu hx hy => eq_refs (fun e => let ⟨_, a, b⟩ := lst_two hx (e ▸ hy); h.same a b) ⟨(lst_heap hg hx).ref, (lst_heap hg hy).ref⟩ (rc_lists h hg hu (lst_heap hg hx) (lst_heap hg hy))
theorem eq_lens {xs ys : List V} (h : xs.length ≠ ys.length) : EqOK (n + 1) (.lst xs) (.lst ys) false where
  same := fun hx hy => let ⟨_, a, b⟩ := lst_two hx hy; absurd (a.length.symm.trans b.length) h
  eq := fun hg hu hx hy => eq_refs (fun e => let ⟨_, a, b⟩ := lst_two hx (e ▸ hy); absurd (a.length.symm.trans b.length) h) ⟨(lst_heap hg hx).ref, (lst_heap hg hy).ref⟩ (rc_lens h (units_lt hu) (lst_heap hg hx) (lst_heap hg hy))
mutual
noncomputable def veqC : (n : Nat) → (x y : V) → Option (Subtype (EqOK n x y))
  | 0, _, _ => none
  | n + 1, x, y => match x, y with
    | .none, .none => some ⟨_, eq_none⟩
    | .none, .bool b => some ⟨_, eq_nb b⟩
    | .bool b, .none => some ⟨_, eq_bn b⟩
    | .bool a, .bool b => some ⟨_, eq_bb a b⟩
    | .int a, .int b => some ⟨_, eq_ii a b⟩
    | .str a, .str b => some ⟨_, eq_ss a b⟩
    | .lst a, .lst b => if h : a.length = b.length then (veqsC n a b).map fun r => ⟨r.1, eq_lst r.2⟩ else some ⟨_, eq_lens h⟩
    | _, _ => none
noncomputable def veqsC (n : Nat) : (xs ys : List V) → Option (Subtype (EqsOK n xs ys))
  | [], [] => some ⟨_, eqs_nil⟩
  | x :: xs, y :: ys => (veqC n x y).bind fun a => (veqsC n xs ys).map fun b => ⟨_, eqs_cons a.2 b.2⟩
  | _, _ => none
end
end Mine
end
section
open PySem PySem.W PyProof.Rows PySem.SeqAt
namespace Mine
variable {prog : Program} {w : World} {h₀ : Heap} {L : Lay} {σ : Sg} {s : Shared} {A : Around} {E : Value → Shared → Prop} {k : Nat}
theorem rep_int (g : G) (i : Int) (t : Tok) : Rep prog w g (.int i t) (.int i) := ⟨t, rfl⟩
theorem rep_str (g : G) (x : Str) (t : Tok) (h : x.length ≤ sizeLine) : Rep prog w g (.str x t) (.str x) := ⟨t, rfl, h⟩
theorem lim_le : lim ≤ sizeLine := by decide
theorem lt_lim {n : Nat} (h : n < lim) : n ≤ sizeLine := Nat.le_trans (Nat.le_of_lt h) lim_le
theorem fresh_size (s : Shared) : s.heap.get? s.heap.objs.size = none := by
  cases e : s.heap.get? s.heap.objs.size with
  | none => rfl
  | some o => exact absurd (Heap.lt_size e) (Nat.lt_irrefl _)
theorem fresh_none {s s' : Shared} (k : Kp s s') {a : Addr} (h : s'.heap.objs.size ≤ a) : s.heap.get? a = none := by
  cases e : s.heap.get? a with
  | none => rfl
  | some o => exact absurd (Heap.lt_size (k.heap _ _ e)) (Nat.not_lt.mpr h)
/-- a list laid anew -/
theorem rep_push {X : List Addr} (hx : s.heap.objs.size ∉ X) {vs : Array Value} {xs : List V} (hz : vs.size ≤ sizeLine) (hr : Reps prog w (vis s.heap X) vs.toList xs) :
    Rep prog w (vis (s.heap.push { cls := .type "list", data := .seq vs }) X) (.ref s.heap.objs.size) (.lst xs) :=
  ⟨_, 0, vs, rfl, vis_some.mpr ⟨hx, Heap.get?_push_size _ rfl⟩, hz, hr.mono ((Kp.push s _).sub X)⟩
theorem rep_pushT {X : List Addr} (hx : s.heap.objs.size ∉ X) {vs : Array Value} {xs : List V} (hz : vs.size ≤ sizeLine) (hr : Reps prog w (vis s.heap X) vs.toList xs) :
    Rep prog w (vis (s.heap.push { cls := .type "tuple", data := .seq vs }) X) (.ref s.heap.objs.size) (.tup xs) :=
  ⟨_, 0, vs, rfl, vis_some.mpr ⟨hx, Heap.get?_push_size _ rfl⟩, hz, hr.mono ((Kp.push s _).sub X)⟩
theorem Rel.new (R : Rel prog w h₀ L σ s.heap) : s.heap.objs.size ∉ L.X := R.old (fresh_size s)
/-! kinds -/
section
variable {P : D → Type}
noncomputable def onInt (d : D) (f : ∀ i, Option (P (.v (.int i)))) : Option (P d) := match d with
  | .v (.int i) => f i
  | _ => none
noncomputable def onStr (d : D) (f : ∀ i, Option (P (.v (.str i)))) : Option (P d) := match d with
  | .v (.str i) => f i
  | _ => none
end
/-- the list xs -/
noncomputable def LstOK (σ : Sg) (d : D) (xs : List V) : Prop :=
  ∀ {prog : Program} {w : World} {h₀ : Heap} {L : Lay} {h : Heap} {v : Value}, Rel prog w h₀ L σ h → RepD prog w (vis h L.X) L.own v d → LstAt prog w h (vis h L.X) xs v
theorem lst_v (xs : List V) : LstOK σ (.v (.lst xs)) xs := fun R r => lst_heap R.sub r
theorem lst_loc {n : Nat} {xs : List V} (h : σ[n]? = some (.lst xs)) : LstOK σ (.loc n) xs := fun R r => by
  obtain ⟨a, ha, us, hl, hz, hr⟩ := R.own.get h
  obtain ⟨a', ha', rfl⟩ := r
  exact Option.some.inj (ha.symm.trans ha') ▸ .mk a us hl hz hr
noncomputable def lstC (σ : Sg) (d : D) : Option (Subtype (LstOK σ d)) := match d with
  | .v (.lst xs) => some ⟨xs, lst_v xs⟩
  | .loc n => (optC (σ[n]?)).bind fun t => match t with
    | ⟨.lst xs, h⟩ => some ⟨xs, lst_loc h⟩
    | _ => none
  | _ => none
/-! truth -/
noncomputable def TruthOK (σ : Sg) (d : D) (b : Bool) : Prop :=
  ∀ {prog : Program} {w : World} {h₀ : Heap} {L : Lay} {A : Around} {s : Shared} {E : Value → Shared → Prop} {Q : Bool → Shared → Prop} {v : Value}, Rel prog w h₀ L σ s.heap → RepD prog w (vis s.heap L.X) L.own v d →
    (∀ s', Kp s s' → Q b s') → wpAny (model prog w) A (truthy v) Q E s
theorem truth_none : TruthOK σ (.v .none) false := fun _ r hQ => (show _ = _ from r) ▸ wpAny_pure (hQ _ (Kp.refl _))
theorem truth_bool (b : Bool) : TruthOK σ (.v (.bool b)) b := fun _ r hQ => (show _ = _ from r) ▸ wpAny_truthy_bool (hQ _ (Kp.refl _))
theorem truth_int (i : Int) : TruthOK σ (.v (.int i)) (i != 0) := fun _ r hQ => by
  obtain ⟨t, rfl⟩ := r
  exact truthy_int (hQ _ (Kp.refl _))
theorem size_word {n : Nat} (h : n ≤ sizeLine) : n < 2 ^ 63 := Nat.lt_of_le_of_lt h (by decide)
theorem truth_str (x : Str) : TruthOK σ (.v (.str x)) ((x.length : Int) != 0) := fun _ r hQ => by
  obtain ⟨t, rfl, hz⟩ := r
  exact P.truthy_str (by have := size_word hz; omega) (hQ _ (Kp.tok _ _))
theorem emp {vs : Array Value} {xs : List V} {g : G} (h : Reps prog w g vs.toList xs) : vs.isEmpty = xs.isEmpty := by
  show decide (vs.size = 0) = xs.isEmpty
  rw [show vs.size = xs.length from h.length]
  cases xs <;> rfl
theorem truth_lst {d : D} {xs : List V} (h : LstOK σ d xs) : TruthOK σ d (!xs.isEmpty) := fun R r hQ => by
  cases h R r with | mk a us hl hz hr =>
  exact wpAny_truthy_list hl.isList (by have := size_word hz; omega) (emp hr ▸ hQ _ (Kp.tok _ _))
noncomputable def truthC (σ : Sg) (d : D) : Option (Subtype (TruthOK σ d)) := match d with
  | .v .none => some ⟨_, truth_none⟩
  | .v (.bool b) => some ⟨_, truth_bool b⟩
  | .v (.int i) => some ⟨_, truth_int i⟩
  | .v (.str x) => some ⟨_, truth_str x⟩
  | d => (lstC σ d).map fun x => ⟨_, truth_lst x.2⟩
/-! operators -/
noncomputable def BinOK (σ : Sg) (op : Operator) (a b : D) (r : V) : Prop :=
  ∀ {prog : Program} {w : World} {h₀ : Heap} {L : Lay} {A : Around} {s : Shared} {E Q : Value → Shared → Prop} {va vb : Value}, Rel prog w h₀ L σ s.heap → RepD prog w (vis s.heap L.X) L.own va a → RepD prog w (vis s.heap L.X) L.own vb b →
    (∀ v s', Kp s s' → Rep prog w (vis s'.heap L.X) v r → Q v s') → wpAny (model prog w) A (binaryOp op va vb) Q E s
theorem bin_ii {op : Operator} {x y z : Int} (h : ∀ {prog : Program} {w : World} {A : Around} {s : Shared} {E Q : Value → Shared → Prop} (t u : Tok), (∀ t' n, Q (.int z t') { s with toks := n }) → wpAny (model prog w) A (binaryOp op (.int x t) (.int y u)) Q E s) :
    BinOK σ op (.v (.int x)) (.v (.int y)) (.int z) := fun _ ⟨t, ea⟩ ⟨u, eb⟩ hQ => ea ▸ eb ▸ h t u fun t' n => hQ _ _ (Kp.tok _ n) ⟨t', rfl⟩
theorem bin_add (x y : Int) : BinOK σ .Add (.v (.int x)) (.v (.int y)) (.int (x + y)) := bin_ii fun _ _ hQ => add_int (hQ _ _)
theorem bin_sub (x y : Int) : BinOK σ .Sub (.v (.int x)) (.v (.int y)) (.int (x - y)) := bin_ii fun _ _ hQ => sub_int (hQ _ _)
theorem bin_and (x y : Int) : BinOK σ .BitAnd (.v (.int x)) (.v (.int y)) (.int (Builtin.bitAnd x y)) := bin_ii fun _ _ hQ => and_int (hQ _ _)
theorem bits_small {i : Int} (h : i.natAbs < bigBits) : Builtin.Int.intBits i ≤ 64 := intBits_le_64 (by unfold bigBits at h; omega) (by unfold bigBits at h; omega)
theorem bin_mul {x y : Int} (h : x.natAbs < bigBits) : BinOK σ .Mult (.v (.int x)) (.v (.int y)) (.int (x * y)) := bin_ii fun _ _ hQ => mul_int (hQ _ _) (by
  have := bits_small h
  unfold IntMulOk
  simp only [Bool.and_eq_true, decide_eq_true_eq, not_and]
  intro h1; have : shortFactorBits = 64 := rfl; omega)
theorem bin_fdiv {x y : Int} (h : 0 < y ∧ y < 1000000) : BinOK σ .FloorDiv (.v (.int x)) (.v (.int y)) (.int (x.fdiv y)) := bin_ii fun _ _ hQ => floordiv_int (Int.ne_of_gt h.1) (hQ _ _) (.inl (PyProof.noPylong_small (by omega)))
theorem bin_mod {x y : Int} (h : 0 < y) : BinOK σ .Mod (.v (.int x)) (.v (.int y)) (.int (x.fmod y)) := bin_ii fun _ _ hQ => mod_int' (Int.ne_of_gt h) (hQ _ _)
theorem bits2 : Builtin.Int.intBits 2 = 2 := by decide +kernel
theorem bin_pow {y : Int} (h : 0 ≤ y ∧ y < 1000) : BinOK σ .Pow (.v (.int 2)) (.v (.int y)) (.int (2 ^ y.toNat)) := bin_ii fun _ _ hQ => pow_int h.1 (by rw [bits2]; omega) (hQ _ _)
theorem bin_shl {y : Int} (h : 0 ≤ y ∧ y < 1000) : BinOK σ .LShift (.v (.int 1)) (.v (.int y)) (.int (1 * 2 ^ y.toNat)) := bin_ii fun _ _ hQ => lshift_int_small h.1 (by omega) (by decide) (hQ _ _)
theorem bin_cat {x y : Str} (h : x.length + y.length < lim) : BinOK σ .Add (.v (.str x)) (.v (.str y)) (.str (x ++ y)) := fun _ ⟨t, ea, _⟩ ⟨u, eb, _⟩ hQ => ea ▸ eb ▸ add_str (fun t' _ => hQ _ _ (Kp.tok _ _) (rep_str _ _ _ (Str.length_append x y ▸ lt_lim h))) (lt_lim h)
theorem rep_len (x : Array Nat) : ∀ (m : Nat) (acc : Array Nat), ((List.replicate m x).foldl (· ++ ·) acc).size = acc.size + m * x.size
  | 0, acc => by rw [Nat.zero_mul]; rfl
  | m + 1, acc => by rw [List.replicate_succ, List.foldl_cons, rep_len x m, Array.size_append, Nat.succ_mul]; omega
theorem bin_rep {x : Str} {n : Int} (h : (0 ≤ n ∧ n < 1000) ∧ x.length = 1) : BinOK σ .Mult (.v (.str x)) (.v (.int n)) (.str (Txt.mul x n)) := fun _ ⟨t, ea, _⟩ ⟨u, eb⟩ hQ => by
  obtain ⟨hn, hx⟩ := h
  rw [ea, eb]
  refine SB.mul ⟨by simp; omega, fun _ _ => ?_, fun _ _ => ?_⟩ (fun t' _ => hQ _ _ (Kp.tok _ _) (rep_str _ _ _ ?_))
  · rw [hx]
    have : (1 : Int) ≤ (2 ^ 63 - 1) / n := Int.le_ediv_of_mul_le (by omega) (by omega)
    omega
  · rw [hx]; exact decide_eq_false (by have := sizeLine_eq; omega)
  · have hx1 : x.cps.size = 1 := hx
    have := sizeLine_eq
    unfold Txt.mul
    split
    · exact Nat.zero_le _
    · split
      · omega
      · show ((List.replicate n.toNat x.cps).foldl (· ++ ·) #[]).size ≤ _
        rw [rep_len, hx1]; simp only [List.size_toArray, List.length_nil]; omega
theorem bin_app {a b : D} {xs ys : List V} (ha : LstOK σ a xs) (hb : LstOK σ b ys) (h : xs.length + ys.length < lim) : BinOK σ .Add a b (.lst (xs ++ ys)) := fun R ra rb hQ => by
  cases ha R ra with | mk p us hl _ hr =>
  cases hb R rb with | mk q vs hl' _ hr' =>
  obtain ⟨n, hl⟩ := hl
  obtain ⟨m, hl'⟩ := hl'
  have hz : us.size + vs.size ≤ sizeLine := (congr (congrArg HAdd.hAdd hr.length) hr'.length : us.size + vs.size = _) ▸ lt_lim h
  refine PySem.P.add_list hl hl' (hQ _ _ (Kp.push _ _) (rep_push R.new (Array.size_append .. ▸ hz) ?_)) hz
  rw [Array.toList_append]; exact hr.append hr'
noncomputable def binC (σ : Sg) (op : Operator) (a b : D) : Option (Subtype (BinOK σ op a b)) := match op with
  | .Add => (onInt (P := fun a => Subtype (BinOK σ .Add a b)) a fun x => onInt (P := fun b => Subtype (BinOK σ .Add (.v (.int x)) b)) b fun y => some ⟨_, bin_add x y⟩).or
      ((onStr (P := fun a => Subtype (BinOK σ .Add a b)) a fun x => onStr (P := fun b => Subtype (BinOK σ .Add (.v (.str x)) b)) b fun y => if h : x.length + y.length < lim then some ⟨_, bin_cat h⟩ else none).or
        ((lstC σ a).bind fun x => (lstC σ b).bind fun y => if h : x.1.length + y.1.length < lim then some ⟨_, bin_app x.2 y.2 h⟩ else none))
  | .Sub => onInt (P := fun a => Subtype (BinOK σ .Sub a b)) a fun x => onInt (P := fun b => Subtype (BinOK σ .Sub (.v (.int x)) b)) b fun y => some ⟨_, bin_sub x y⟩
  | .Mult => (onInt (P := fun a => Subtype (BinOK σ .Mult a b)) a fun x => if h : x.natAbs < bigBits then onInt (P := fun b => Subtype (BinOK σ .Mult (.v (.int x)) b)) b fun y => some ⟨_, bin_mul h⟩ else none).or
      (onStr (P := fun a => Subtype (BinOK σ .Mult a b)) a fun x => onInt (P := fun b => Subtype (BinOK σ .Mult (.v (.str x)) b)) b fun n => if h : (0 ≤ n ∧ n < 1000) ∧ x.length = 1 then some ⟨_, bin_rep h⟩ else none)
  | .FloorDiv => onInt (P := fun a => Subtype (BinOK σ .FloorDiv a b)) a fun x => onInt (P := fun b => Subtype (BinOK σ .FloorDiv (.v (.int x)) b)) b fun y => if h : 0 < y ∧ y < 1000000 then some ⟨_, bin_fdiv h⟩ else none
  | .Mod => onInt (P := fun a => Subtype (BinOK σ .Mod a b)) a fun x => onInt (P := fun b => Subtype (BinOK σ .Mod (.v (.int x)) b)) b fun y => if h : 0 < y then some ⟨_, bin_mod h⟩ else none
  | .Pow => match a with
    | .v (.int 2) => onInt (P := fun b => Subtype (BinOK σ .Pow (.v (.int 2)) b)) b fun y => if h : 0 ≤ y ∧ y < 1000 then some ⟨_, bin_pow h⟩ else none
    | _ => none
  | .LShift => match a with
    | .v (.int 1) => onInt (P := fun b => Subtype (BinOK σ .LShift (.v (.int 1)) b)) b fun y => if h : 0 ≤ y ∧ y < 1000 then some ⟨_, bin_shl h⟩ else none
    | _ => none
  | .BitAnd => onInt (P := fun a => Subtype (BinOK σ .BitAnd a b)) a fun x => onInt (P := fun b => Subtype (BinOK σ .BitAnd (.v (.int x)) b)) b fun y => some ⟨_, bin_and x y⟩
  | _ => none
/-! augmented -/
noncomputable def AugOK (op : Operator) (a b v : Int) : Prop := ∀ {prog : Program} {w : World} {A : Around} {s : Shared} {E Q : Value → Shared → Prop} (t u : Tok), (∀ z n, Q (.int v z) { s with toks := n }) → wpAny (model prog w) A (inplaceOp op (.int a t) (.int b u)) Q E s
theorem aug_add (a b : Int) : AugOK .Add a b (a + b) := fun _ _ hQ => PySem.AutoIntOps.iadd_0 (hQ _ _)
theorem aug_subI (a b : Int) : AugOK .Sub a b (a - b) := fun _ _ hQ => PySem.AutoIntOps.isub_0 (hQ _ _)
theorem aug_xor (a b : Int) : AugOK .BitXor a b (Builtin.bitXor a b) := fun _ _ hQ => ixor_int (hQ _ _)
noncomputable def augC (op : Operator) (a b : Int) : Option (Subtype (AugOK op a b)) := match op with
  | .Add => some ⟨_, aug_add a b⟩
  | .Sub => some ⟨_, aug_subI a b⟩
  | .BitXor => some ⟨_, aug_xor a b⟩
  | _ => none
end Mine
end
section
open PySem PySem.W PyProof.Rows PySem.SeqAt
namespace Mine
variable {prog : Program} {w : World} {h₀ : Heap} {L : Lay} {σ : Sg} {s : Shared} {A : Around} {E : Value → Shared → Prop} {k : Nat}
/-! equality -/
noncomputable def EqDOK (σ : Sg) (a b : D) (t : Bool) : Prop :=
  ∀ {prog : Program} {w : World} {h₀ : Heap} {L : Lay} {A : Around} {s : Shared} {va vb : Value}, Rel prog w h₀ L σ s.heap → A.units + 6 < cLine → RepD prog w (vis s.heap L.X) L.own va a → RepD prog w (vis s.heap L.X) L.own vb b →
    RcAt A s va vb t ∧ RcNeAt A s va vb (!t)
theorem eqd_v {x y : V} {t : Bool} (h : EqOK 6 x y t) : EqDOK σ (.v x) (.v y) t := fun R hu ra rb => (h.eq R.sub hu ra rb).2
theorem eqd_l {a b : D} {xs ys : List V} {t : Bool} (ha : LstOK σ a xs) (hb : LstOK σ b ys) (h : EqsOK 5 xs ys t) : EqDOK σ a b t := fun R hu ra rb => rc_lists h R.sub hu (ha R ra) (hb R rb)
theorem eqd_n {a b : D} {xs ys : List V} (ha : LstOK σ a xs) (hb : LstOK σ b ys) (h : xs.length ≠ ys.length) : EqDOK σ a b false := fun R hu ra rb => rc_lens h (units_lt hu) (ha R ra) (hb R rb)
noncomputable def eqC (σ : Sg) (a b : D) : Option (Subtype (EqDOK σ a b)) := match a, b with
  | .v x, .v y => (veqC 6 x y).map fun t => ⟨_, eqd_v t.2⟩
  | a, b => (lstC σ a).bind fun x => (lstC σ b).bind fun y => if h : x.1.length = y.1.length then (veqsC 5 x.1 y.1).map fun t => ⟨_, eqd_l x.2 y.2 t.2⟩ else some ⟨_, eqd_n x.2 y.2 h⟩
/-! in -/
/-- a value against a plain one -/
noncomputable def scEq (x : V) (v : Value) : Bool := match x, v with
  | .none, .none => true
  | .bool a, .bool b => b == a
  | .int a, .int b _ => b == a
  | _, _ => false
noncomputable def InOK1 (x y : V) (b : Bool) : Prop := ∀ {prog : Program} {w : World} {g : G} {v u : Value}, Rep prog w g u x → Rep prog w g v y → (∀ {A : Around} {s : Shared}, EqAt A s v u (scEq x v)) ∧ scEq x v = b
theorem in_nn : InOK1 .none .none true := fun e f => by cases e; cases f; exact ⟨.same _, rfl⟩
theorem in_bn (b : Bool) : InOK1 (.bool b) .none false := fun e f => by cases e; cases f; exact ⟨.none_bool _, rfl⟩
theorem in_nb (b : Bool) : InOK1 .none (.bool b) false := fun e f => by cases e; cases f; exact ⟨.bool_none _, rfl⟩
theorem in_bb (a b : Bool) : InOK1 (.bool a) (.bool b) (b == a) := fun e f => by cases e; cases f; exact ⟨.bool_bool _ _, rfl⟩
theorem in_ii (a b : Int) : InOK1 (.int a) (.int b) (b == a) := fun ⟨_, e⟩ ⟨_, f⟩ => by cases e; cases f; exact ⟨.int_int _ _ _ _, rfl⟩
noncomputable def InOK (x : V) (ys : List V) (b : Bool) : Prop := ∀ {prog : Program} {w : World} {g : G} {u : Value} {vs : List Value}, Rep prog w g u x → Reps prog w g vs ys → (∀ {A : Around} {s : Shared} y, y ∈ vs → EqAt A s y u (scEq x y)) ∧ vs.any (scEq x) = b
theorem in_nil {x : V} : InOK x [] false := fun _ r => (show _ = [] from r) ▸ ⟨fun _ h => (nomatch h), rfl⟩
theorem in_cons {x y : V} {ys : List V} {b c : Bool} (h : InOK1 x y b) (h2 : InOK x ys c) : InOK x (y :: ys) (b || c) := fun r rs => by
  obtain ⟨v, vs, rfl, r1, r2⟩ := rs
  exact ⟨fun z hz => (List.mem_cons.mp hz).elim (fun e => e ▸ (h r r1).1) ((h2 r r2).1 z), congr (congrArg or (h r r1).2) (h2 r r2).2⟩
noncomputable def in1C (x y : V) : Option (Subtype (InOK1 x y)) := match x, y with
  | .none, .none => some ⟨_, in_nn⟩
  | .bool b, .none => some ⟨_, in_bn b⟩
  | .none, .bool b => some ⟨_, in_nb b⟩
  | .bool a, .bool b => some ⟨_, in_bb a b⟩
  | .int a, .int b => some ⟨_, in_ii a b⟩
  | _, _ => none
noncomputable def inC (x : V) : (ys : List V) → Option (Subtype (InOK x ys))
  | [] => some ⟨_, in_nil⟩
  | y :: ys => (in1C x y).bind fun b => (inC x ys).map fun c => ⟨_, in_cons b.2 c.2⟩
/-! comparisons -/
noncomputable def CmpOK (σ : Sg) (op : CmpOp) (a b : D) (t : Bool) : Prop :=
  ∀ {prog : Program} {w : World} {h₀ : Heap} {L : Lay} {A : Around} {s : Shared} {E Q : Value → Shared → Prop} {va vb : Value}, Rel prog w h₀ L σ s.heap → A.units + 6 < cLine → RepD prog w (vis s.heap L.X) L.own va a → RepD prog w (vis s.heap L.X) L.own vb b →
    Q (.bool t) s → wpAny (model prog w) A (compareOp op va vb) Q E s
theorem cmp_ii {op : CmpOp} {x y : Int} {t : Bool} (h : ∀ {prog : Program} {w : World} {A : Around} {s : Shared} {E Q : Value → Shared → Prop} (t₁ t₂ : Tok), Q (.bool t) s → wpAny (model prog w) A (compareOp op (.int x t₁) (.int y t₂)) Q E s) :
    CmpOK σ op (.v (.int x)) (.v (.int y)) t := fun _ _ ⟨t, ea⟩ ⟨u, eb⟩ hQ => ea ▸ eb ▸ h t u hQ
theorem cmp_lt (x y : Int) : CmpOK σ .Lt (.v (.int x)) (.v (.int y)) (decide (x < y)) := cmp_ii fun _ _ hQ => lt_int hQ
theorem cmp_le (x y : Int) : CmpOK σ .LtE (.v (.int x)) (.v (.int y)) (decide (x ≤ y)) := cmp_ii fun _ _ hQ => le_int hQ
theorem cmp_gt (x y : Int) : CmpOK σ .Gt (.v (.int x)) (.v (.int y)) (decide (y < x)) := cmp_ii fun _ _ hQ => gt_int hQ
theorem cmp_ge (x y : Int) : CmpOK σ .GtE (.v (.int x)) (.v (.int y)) (decide (y ≤ x)) := cmp_ii fun _ _ hQ => ge_int hQ
theorem cmp_eq {a b : D} {t : Bool} (h : EqDOK σ a b t) : CmpOK σ .Eq a b t := fun R hu ra rb hQ => (h R hu ra rb).1 _ _ _ _ hQ
theorem cmp_ne {a b : D} {t : Bool} (h : EqDOK σ a b t) : CmpOK σ .NotEq a b (!t) := fun R hu ra rb hQ => (h R hu ra rb).2 _ _ _ _ hQ
theorem cmp_isN {a : D} {xs : List V} (h : LstOK σ a xs) : CmpOK σ .Is a (.v .none) false := fun R hu ra rb hQ => by
  obtain ⟨p, rfl⟩ := (h R ra).ref
  exact (show _ = _ from rb) ▸ is_ref_none hQ
theorem cmp_NN : CmpOK σ .Is (.v .none) (.v .none) true := fun R hu ra rb hQ => by cases ra; cases rb; exact is_none_none hQ
theorem type_beq (x y : String) : (Value.type x == Value.type y) = (x == y) := by
  by_cases e : x = y
  · rw [e, beq_self_eq_true, beq_self_eq_true]
  · rw [beq_eq_false_iff_ne.mpr e, beq_eq_false_iff_ne.mpr fun q => e (by injection q)]
theorem cmp_nty (x y : String) : CmpOK σ .IsNot (.v (.ty x)) (.v (.ty y)) (!(x == y)) := fun R hu ra rb hQ => (show _ = _ from ra) ▸ (show _ = _ from rb) ▸ wpAny_isNot_plain rfl ((congrArg (!·) (type_beq x y)) ▸ hQ)
theorem cmp_in {x : V} {b : D} {ys : List V} {t : Bool} (hb : LstOK σ b ys) (h : InOK x ys t) : CmpOK σ .In (.v x) b t := fun R hu ra rb hQ => by
  cases hb R rb with | mk a us hl hz hr =>
  exact SeqAt.in_listAt _ hl.isList (fun y hy => (h ra hr).1 y (Array.mem_toList_iff.mpr hy)) (by rw [← Array.any_toList, (h ra hr).2]; exact hQ)
theorem cmp_nin {x : V} {b : D} {ys : List V} {t : Bool} (hb : LstOK σ b ys) (h : InOK x ys t) : CmpOK σ .NotIn (.v x) b (!t) := fun R hu ra rb hQ => by
  cases hb R rb with | mk a us hl hz hr =>
  exact SeqAt.notIn_listAt _ hl.isList (fun y hy => (h ra hr).1 y (Array.mem_toList_iff.mpr hy)) (by rw [← Array.any_toList, (h ra hr).2]; exact hQ)
noncomputable def cmpC (σ : Sg) (op : CmpOp) (a b : D) : Option (Subtype (CmpOK σ op a b)) := match op with
  | .Eq => (eqC σ a b).map fun t => ⟨_, cmp_eq t.2⟩
  | .NotEq => (eqC σ a b).map fun t => ⟨_, cmp_ne t.2⟩
  | .Lt => onInt (P := fun a => Subtype (CmpOK σ .Lt a b)) a fun x => onInt (P := fun b => Subtype (CmpOK σ .Lt (.v (.int x)) b)) b fun y => some ⟨_, cmp_lt x y⟩
  | .LtE => onInt (P := fun a => Subtype (CmpOK σ .LtE a b)) a fun x => onInt (P := fun b => Subtype (CmpOK σ .LtE (.v (.int x)) b)) b fun y => some ⟨_, cmp_le x y⟩
  | .Gt => onInt (P := fun a => Subtype (CmpOK σ .Gt a b)) a fun x => onInt (P := fun b => Subtype (CmpOK σ .Gt (.v (.int x)) b)) b fun y => some ⟨_, cmp_gt x y⟩
  | .GtE => onInt (P := fun a => Subtype (CmpOK σ .GtE a b)) a fun x => onInt (P := fun b => Subtype (CmpOK σ .GtE (.v (.int x)) b)) b fun y => some ⟨_, cmp_ge x y⟩
  | .Is => match a, b with
    | .v .none, .v .none => some ⟨_, cmp_NN⟩
    | a, .v .none => (lstC σ a).map fun x => ⟨_, cmp_isN x.2⟩
    | _, _ => none
  | .IsNot => match a, b with
    | .v (.ty x), .v (.ty y) => some ⟨_, cmp_nty x y⟩
    | _, _ => none
  | .In => match a with
    | .v x => (lstC σ b).bind fun y => (inC x y.1).map fun t => ⟨_, cmp_in y.2 t.2⟩
    | _ => none
  | .NotIn => match a with
    | .v x => (lstC σ b).bind fun y => (inC x y.1).map fun t => ⟨_, cmp_nin y.2 t.2⟩
    | _ => none
/-! items -/
noncomputable def ItemOK (σ : Sg) (o i d : D) : Prop :=
  ∀ {prog : Program} {w : World} {h₀ : Heap} {L : Lay} {A : Around} {s : Shared} {E Q : Value → Shared → Prop} {vo vi : Value}, Rel prog w h₀ L σ s.heap → RepD prog w (vis s.heap L.X) L.own vo o → RepD prog w (vis s.heap L.X) L.own vi i →
    (∀ v s', Kp s s' → RepD prog w (vis s'.heap L.X) L.own v d → Q v s') → SubscriptOn (model prog w) A vo vi Q E s
/-- where a place lies -/
theorem place_cases {n j : Nat} {i : Int} (h : place n i = some j) : (0 ≤ i ∧ i < n ∧ j = i.toNat) ∨ (i < 0 ∧ -(n : Int) ≤ i ∧ j = (i + n).toNat) := by
  unfold place at h
  by_cases h0 : 0 ≤ i
  · rw [if_pos h0] at h
    by_cases h1 : i < n
    · rw [if_pos h1] at h; cases h; exact .inl ⟨h0, h1, rfl⟩
    · rw [if_neg h1] at h; cases h
  · rw [if_neg h0] at h
    by_cases h1 : -(n : Int) ≤ i
    · rw [if_pos h1] at h; cases h; exact .inr ⟨Int.not_le.mp h0, h1, rfl⟩
    · rw [if_neg h1] at h; cases h
theorem place_list {h : Heap} {a : Addr} {vs : Array Value} (hl : h.IsList a vs) (hz : vs.size ≤ sizeLine) {i : Int} {j : Nat} (hp : place vs.size i = some j) {x : Value} (hx : vs[j]? = some x)
    {g : Array GenState} {d : Drawn} {t : Nat} {os : OsState} {u : Tok} {Q : Value → Shared → Prop} (hQ : Q x ⟨h, g, d, t, os⟩) : wpAny (model prog w) A (getItem (.ref a) (.int i u)) Q E ⟨h, g, d, t, os⟩ := by
  have := size_word hz
  rcases place_cases hp with ⟨h0, h1, rfl⟩ | ⟨h0, h1, rfl⟩
  · exact wpAny_getItem_list hl h0 (by omega) hx hQ
  · exact wpAny_getItem_list_neg hl h0 h1 (by omega) hx hQ
theorem item_lst {o : D} {vs : List V} {n : Int} {j : Nat} {x : V} (h : LstOK σ o vs) (hp : place vs.length n = some j) (hx : vs[j]? = some x) : ItemOK σ o (.v (.int n)) (.v x) := fun R ro ri hQ => by
  obtain ⟨t, rfl⟩ := ri
  cases h R ro with | mk a us hl hz hr =>
  obtain ⟨u, hu, hru⟩ := hr.get hx
  exact ⟨"list", _, slot_list_getitem.lookup, hl.isList.typeIs, place_list hl.isList hz ((congrArg (place · n) hr.length).trans hp) ((Array.getElem?_toList ..).symm.trans hu) (hQ _ _ (Kp.refl _) hru)⟩
theorem item_str {x : Str} {n : Int} {j c : Nat} (hp : place x.cps.size n = some j) (hx : x.cps[j]? = some c) : ItemOK σ (.v (.str x)) (.v (.int n)) (.v (.str ⟨#[c]⟩)) := fun R ro ri hQ => by
  obtain ⟨t, rfl⟩ := ri
  obtain ⟨u, rfl, hz⟩ := ro
  have hlen : x.length = x.cps.size := rfl
  have hw := size_word hz
  have hi : seqIndex? n x.length = some j ∧ -(x.length : Int) ≤ n ∧ n < x.length := by
    rcases place_cases hp with ⟨h0, h1, rfl⟩ | ⟨h0, h1, rfl⟩
    · exact ⟨StrLaws.seqIndex_nonneg h0 h1, by omega, h1⟩
    · exact ⟨StrLaws.seqIndex_neg h0 h1, h1, by omega⟩
  exact ⟨"str", _, PySem.F.slot_str_getitem.lookup, typeIs_str _ _ _, getItem_str (c := c) (by simp; omega) (by rw [hi.1]; exact hx) (hQ _ _ (Kp.tok _ _) ⟨_, rfl, show (1 : Nat) ≤ sizeLine by decide⟩)⟩
noncomputable def itemC (σ : Sg) (o i : D) : Option (Subtype (ItemOK σ o i)) := onInt (P := fun i => Subtype (ItemOK σ o i)) i fun n =>
  ((lstC σ o).bind fun x => (optC (place x.1.length n)).bind fun j => (optC (x.1[j.1]?)).map fun y => ⟨_, item_lst x.2 j.2 y.2⟩).or
    (onStr (P := fun o => Subtype (ItemOK σ o (.v (.int n)))) o fun x => (optC (place x.cps.size n)).bind fun j => (optC (x.cps[j.1]?)).map fun y => ⟨_, item_str j.2 y.2⟩)
/-! slices -/
theorem sliceL_sub {α : Type} (xs : List α) (lo hi : Option Int) : (sliceL xs lo hi).Sublist xs := (List.take_sublist _ _).trans (List.drop_sublist _ _)
theorem sliceL_str (x : Str) (lo hi : Option Int) : (Builtin.Str.strSliceIndices lo hi 1 x.length).filterMap (x.cps[·]?) = sliceL x.cps.toList lo hi := by
  have e : Builtin.Str.strSliceIndices lo hi 1 x.length = sliceRange (sliceBounds lo hi none x.length).1 (sliceBounds lo hi none x.length).2.1 1 := by
    unfold Builtin.Str.strSliceIndices sliceBounds
    rfl
  rw [e, sliceBounds_plain, sliceRange_one, pick_run]
  rfl
theorem clipAt_le (n : Nat) (i : Int) : clipAt n i ≤ n := by
  have := clipAt_cast n i
  omega
theorem sliceL_str_full (x : Str) (lo hi : Option Int) (h : (Builtin.Str.strSliceIndices lo hi 1 x.length).length = x.length) : sliceL x.cps.toList lo hi = x.cps.toList := by
  have e : Builtin.Str.strSliceIndices lo hi 1 x.length = sliceRange (sliceBounds lo hi none x.length).1 (sliceBounds lo hi none x.length).2.1 1 := by
    unfold Builtin.Str.strSliceIndices sliceBounds
    rfl
  rw [e, sliceBounds_plain, sliceRange_one, List.length_map, List.length_range] at h
  refine (sliceL_sub ..).eq_of_length ?_
  unfold sliceL
  rw [List.length_take, List.length_drop, Array.length_toList]
  have h : hi.elim x.cps.size (clipAt x.cps.size) - lo.elim 0 (clipAt x.cps.size) = x.cps.size := h
  have hb : hi.elim x.cps.size (clipAt x.cps.size) ≤ x.cps.size := by
    cases hi with
    | none => exact Nat.le_refl _
    | some i => exact clipAt_le _ i
  rw [h]
  omega
theorem Reps.drop {g : G} : ∀ {n : Nat} {xs : List V} {vs : List Value}, Reps prog w g vs xs → Reps prog w g (vs.drop n) (xs.drop n)
  | 0, _, _, h => h
  | n + 1, [], _, h => (show _ = [] from h) ▸ rfl
  | n + 1, x :: xs, _, h => h.onCons (P := fun vs => Reps prog w g (vs.drop (n + 1)) ((x :: xs).drop (n + 1))) fun _ _ _ r => Reps.drop (n := n) r
theorem Reps.take {g : G} : ∀ {n : Nat} {xs : List V} {vs : List Value}, Reps prog w g vs xs → Reps prog w g (vs.take n) (xs.take n)
  | 0, _, _, _ => rfl
  | n + 1, [], _, h => (show _ = [] from h) ▸ rfl
  | n + 1, x :: xs, _, h => h.onCons (P := fun vs => Reps prog w g (vs.take (n + 1)) ((x :: xs).take (n + 1))) fun _ _ a r => ⟨_, _, rfl, a, Reps.take (n := n) r⟩
theorem Reps.slice {g : G} {xs : List V} {vs : List Value} (h : Reps prog w g vs xs) (lo hi : Option Int) : Reps prog w g (sliceL vs lo hi) (sliceL xs lo hi) := by
  unfold sliceL
  rw [h.length]
  exact h.drop.take
noncomputable def SliceOK (σ : Sg) (o : D) (lo hi : Option Int) (r : V) : Prop :=
  ∀ {prog : Program} {w : World} {h₀ : Heap} {L : Lay} {A : Around} {s : Shared} {E Q : Value → Shared → Prop} {vo vl vu : Value}, Rel prog w h₀ L σ s.heap → RepD prog w (vis s.heap L.X) L.own vo o → IsPart vl lo → IsPart vu hi →
    (∀ v s', Kp s s' → Rep prog w (vis s'.heap L.X) v r → Q v s') → ∃ T id, typeLookup (.type T) (Str.ofString "__getitem__") = pure (some (.builtin id)) ∧ s.TypeIs vo T ∧
      wpAny (model prog w) A (getItem vo (.ref s.heap.objs.size)) Q E { s with heap := s.heap.push { cls := .type "slice", data := .fields #[vl, vu, .none] } }
theorem slice_lst {o : D} {xs : List V} (h : LstOK σ o xs) (lo hi : Option Int) : SliceOK σ o lo hi (.lst (sliceL xs lo hi)) := fun {prog w h₀ L A s E Q vo vl vu} R ro hl hu hQ => by
  cases h R ro with | mk a us hpl hz hr =>
  have kp := Kp.push s { cls := .type "slice", data := .fields #[vl, vu, .none] }
  refine ⟨"list", _, slot_list_getitem.lookup, hpl.isList.typeIs, wpAny_getItem_list_slice (hpl.isList.push _) (Heap.IsSliceOf.new _ _ _ _) hl hu .none (by simp) (hQ _ _ (kp.trans (Kp.push _ _)) (rep_push (s := { s with heap := s.heap.push { cls := .type "slice", data := .fields #[vl, vu, .none] } }) (R.keep kp).new ?_ ?_)) hz⟩
  · rw [slicePick_plain]; exact Nat.le_trans (sliceL_sub us.toList lo hi).length_le hz
  · rw [slicePick_plain]; exact (hr.mono (kp.sub L.X)).slice lo hi
theorem part_of {v : Value} {l : Option Int} (h : IsPart v l) : ∃ q : Option (Int × Tok), v = partValue q ∧ q.map (·.1) = l := by
  cases h with
  | none => exact ⟨none, rfl, rfl⟩
  | int i t => exact ⟨some (i, t), rfl, rfl⟩
theorem slice_str (x : Str) (lo hi : Option Int) : SliceOK σ (.v (.str x)) lo hi (.str ⟨(sliceL x.cps.toList lo hi).toArray⟩) := fun R ro hl hu hQ => by
  obtain ⟨t, rfl, hz⟩ := ro
  obtain ⟨l, rfl, rfl⟩ := part_of hl
  obtain ⟨u, rfl, rfl⟩ := part_of hu
  refine ⟨"str", _, PySem.F.slot_str_getitem.lookup, typeIs_str _ _ _, wpAny_getItem_str_slice (l := l) (u := u) (st := none) ⟨_, Heap.get?_push_size _ rfl, rfl, rfl⟩ rfl ?_⟩
  have key : (if ((1 : Int) == 1 && (slicePicked x l u none).length == x.length) = true then x else ⟨((slicePicked x l u none).filterMap (x.cps[·]?)).toArray⟩ : Str) = ⟨(sliceL x.cps.toList (l.map (·.1)) (u.map (·.1))).toArray⟩ := by
    split
    · rename_i hc
      rw [sliceL_str_full x _ _ (by simpa [slicePicked] using hc)]
    · rw [show slicePicked x l u none = Builtin.Str.strSliceIndices (l.map (·.1)) (u.map (·.1)) 1 x.length from rfl, sliceL_str]
  have hle : (⟨(sliceL x.cps.toList (l.map (·.1)) (u.map (·.1))).toArray⟩ : Str).length ≤ sizeLine := Nat.le_trans (sliceL_sub x.cps.toList _ _).length_le hz
  refine post_val_or_str ⟨?_, fun t' k => ?_⟩
  · rw [show (((none : Option (Int × Tok)).map (·.1)).getD 1 : Int) = 1 from rfl, key]; exact hle
  · rw [show (((none : Option (Int × Tok)).map (·.1)).getD 1 : Int) = 1 from rfl, key]
    exact hQ _ _ ((Kp.push _ _).trans (Kp.tok _ _)) (rep_str _ _ _ hle)
noncomputable def sliceC (σ : Sg) (o : D) (lo hi : Option Int) : Option (Subtype (SliceOK σ o lo hi)) :=
  ((lstC σ o).map fun x => ⟨_, slice_lst x.2 lo hi⟩).or (onStr (P := fun o => Subtype (SliceOK σ o lo hi)) o fun x => some ⟨_, slice_str x lo hi⟩)
end Mine
end
section
open PySem PySem.W PyProof.Rows PySem.SeqAt
namespace Mine
variable {prog : Program} {w : World} {h₀ : Heap} {C : Cx} {Γ : Gm} {L : Lay} {σ : Sg} {s : Shared} {A : Around} {E : Value → Shared → Prop} {k : Nat}
/-- a built-in's name -/
noncomputable def IsBi (C : Cx) (Γ : Gm) (x : Str) (bv : Value) : Prop := (x == ("__debug__" : Str)) = false ∧ Γ.kindOf x = some .globalImplicit ∧ C.glob x = none ∧ biTab.lookup x = some bv
theorem bi_eval {K : Nat} {env : Env} {x : Str} {bv : Value} (h : IsBi C Γ x bv) (X : Fx prog w h₀ C K Γ L.own env A) (R : Rel prog w h₀ L σ s.heap) {Q : Value → Shared → Prop} (hQ : Q bv s) (p : Pos) : wpAny (model prog w) A (eval (.Name x p) env) Q E s := by
  obtain ⟨hd, hk, hg, hb⟩ := h
  obtain ⟨⟨mg, h1, h2⟩, mb, h3, h4⟩ := X.top.bi _ _ hg hb
  exact Calls.Name_function_global X.er.kindE ((X.er.kindOf x).trans hk) (Calls.loadGlobal_builtin (X.er.globals ▸ R.nsBase h1) h2 (X.er.builtins ▸ R.nsBase h3) h4 hQ) hd
theorem name_ty {x : Str} {n : String} (h : IsBi C Γ x (.type n)) : NameOK C Γ σ x (.v (.ty n)) := fun X R hQ p => bi_eval h X R (hQ _ rfl) p
noncomputable def isBiC (C : Cx) (Γ : Gm) (x : Str) : Option (Subtype (IsBi C Γ x)) :=
  if h : (x == ("__debug__" : Str)) = false ∧ Γ.kindOf x = some .globalImplicit ∧ (C.glob x).isNone = true then (optC (biTab.lookup x)).map fun bv => ⟨bv.1, h.1, h.2.1, Option.isNone_iff_eq_none.mp h.2.2, bv.2⟩ else none
/-! lists of a kind -/
noncomputable abbrev intVs (ps : List (Int × Tok)) : List Value := ps.map fun p => .int p.1 p.2
theorem ints_of {g : G} : ∀ {is : List Int} {vs : List Value}, Reps prog w g vs (is.map .int) → ∃ ps, vs = intVs ps ∧ ps.map (·.1) = is
  | [], _, r => ⟨[], r, rfl⟩
  | i :: is, _, r => r.onCons (P := fun vs => ∃ ps, vs = intVs ps ∧ ps.map (·.1) = i :: is) fun _ _ ⟨t, e⟩ r => let ⟨ps, e1, e2⟩ := ints_of r; ⟨(i, t) :: ps, by rw [e, e1]; rfl, congrArg (i :: ·) e2⟩
theorem strs_of {g : G} : ∀ {ts : List Str} {vs : List Value}, Reps prog w g vs (ts.map .str) → ∃ ps : List (Str × Tok), vs = strValues ps ∧ ps.map (·.1) = ts
  | [], _, r => ⟨[], r, rfl⟩
  | i :: is, _, r => r.onCons (P := fun vs => ∃ ps : List (Str × Tok), vs = strValues ps ∧ ps.map (·.1) = i :: is) fun _ _ ⟨t, e, _⟩ r => let ⟨ps, e1, e2⟩ := strs_of r; ⟨(i, t) :: ps, by rw [e, e1]; rfl, congrArg (i :: ·) e2⟩
theorem bools_of {g : G} : ∀ {bs : List Bool} {vs : List Value}, Reps prog w g vs (bs.map .bool) → vs = bs.map .bool
  | [], _, r => r
  | i :: is, _, r => r.onCons (P := fun vs => vs = (i :: is).map Value.bool) fun _ _ e r => by rw [show _ = _ from e, bools_of r]; rfl
theorem reps_ints {g : G} : ∀ (ps : List (Int × Tok)), Reps prog w g (intVs ps) ((ps.map (·.1)).map V.int)
  | [] => rfl
  | p :: ps => ⟨_, _, rfl, ⟨p.2, rfl⟩, reps_ints ps⟩
theorem reps_strs {g : G} : ∀ (ps : List (Str × Tok)), (∀ p ∈ ps, p.1.length ≤ sizeLine) → Reps prog w g (strValues ps) ((ps.map (·.1)).map V.str)
  | [], _ => rfl
  | p :: ps, h => ⟨_, _, rfl, rep_str _ _ _ (h p (List.mem_cons_self ..)), reps_strs ps fun q hq => h q (List.mem_cons_of_mem _ hq)⟩
noncomputable def intsC : (xs : List V) → Option {is : List Int // xs = is.map .int}
  | [] => some ⟨[], rfl⟩
  | .int i :: r => (intsC r).map fun x => ⟨i :: x.1, congrArg (V.int i :: ·) x.2⟩
  | _ => none
noncomputable def strsC : (xs : List V) → Option {is : List Str // xs = is.map .str}
  | [] => some ⟨[], rfl⟩
  | .str i :: r => (strsC r).map fun x => ⟨i :: x.1, congrArg (V.str i :: ·) x.2⟩
  | _ => none
noncomputable def boolsC : (xs : List V) → Option {is : List Bool // xs = is.map .bool}
  | [] => some ⟨[], rfl⟩
  | .bool i :: r => (boolsC r).map fun x => ⟨i :: x.1, congrArg (V.bool i :: ·) x.2⟩
  | _ => none
/-! sums, sorted -/
theorem numAt_eq (ps : List (Int × Tok)) (j : Nat) : numAt ps.toArray j = ((ps.map (·.1))[j]?).getD 0 := by simp [numAt]
theorem pre_sum (ps : List (Int × Tok)) : ∀ j, j ≤ ps.length → preSum (numAt ps.toArray) j = ((ps.map (·.1)).take j).sum
  | 0, _ => rfl
  | j + 1, h => by
    rw [preSum, pre_sum ps j (Nat.le_of_succ_le h), numAt_eq, List.take_add_one]
    rw [List.getElem?_eq_getElem (show j < (ps.map (·.1)).length from (List.length_map ..).symm ▸ h)]; simp
theorem sum_bound : ∀ (is : List Int), is.all small40 = true → (is.sum).natAbs ≤ is.length * 1099511627776
  | [], _ => Nat.le_refl _
  | i :: r, h => by
    obtain ⟨h1, h2⟩ := Bool.and_eq_true_iff.mp h
    have := sum_bound r h2
    have h1 : i.natAbs < 1099511627776 := of_decide_eq_true h1
    rw [List.sum_cons, List.length_cons]
    omega
theorem insI_perm (x : Int) : ∀ l, (insI x l).Perm (x :: l)
  | [] => .refl _
  | y :: r => by
    unfold insI
    split
    · exact .refl _
    · exact ((insI_perm x r).cons y).trans (.swap x y r)
theorem sortI_perm : ∀ l, (sortI l).Perm l
  | [] => .refl _
  | x :: r => (insI_perm x _).trans ((sortI_perm r).cons x)
theorem insI_sorted (x : Int) : ∀ {l}, l.Pairwise (· ≤ ·) → (insI x l).Pairwise (· ≤ ·)
  | [], _ => List.pairwise_singleton _ _
  | y :: r, h => by
    have h' := List.pairwise_cons.mp h
    unfold insI
    split
    · rename_i c
      exact .cons (fun z hz => (List.mem_cons.mp hz).elim (fun e => e ▸ c) fun hz => Int.le_trans c (h'.1 z hz)) h
    · rename_i c
      exact .cons (fun z hz => (List.mem_cons.mp ((insI_perm x r).subset hz)).elim (fun e => e ▸ Int.le_of_lt (Int.not_le.mp c)) (h'.1 z)) (insI_sorted x h'.2)
theorem sortI_sorted : ∀ l, (sortI l).Pairwise (· ≤ ·)
  | [] => .nil
  | x :: r => insI_sorted x (sortI_sorted r)
theorem sortI_unique {l l' : List Int} (p : l'.Perm l) (h : l'.Pairwise (· ≤ ·)) : l' = sortI l :=
  List.Perm.eq_of_pairwise (le := (· ≤ ·)) (fun a b _ _ h1 h2 => Int.le_antisymm h1 h2) h (sortI_sorted l) (p.trans (sortI_perm l).symm)
theorem intsAre_map {vs : List Value} {ns : List Int} (h : IntsAre vs ns) : ∃ ps, vs = intVs ps ∧ ps.map (·.1) = ns := by
  induction h with
  | nil => exact ⟨[], rfl, rfl⟩
  | cons n t _ ih => obtain ⟨ps, rfl, rfl⟩ := ih; exact ⟨(n, t) :: ps, rfl, rfl⟩
theorem map_intsAre : ∀ (ps : List (Int × Tok)), IntsAre (intVs ps) (ps.map (·.1))
  | [] => .nil
  | p :: ps => .cons _ _ (map_intsAre ps)
/-! the built-in functions -/
noncomputable abbrev RepDs (prog : Program) (w : World) (g : G) (φ : List Addr) : List Value → List D → Prop := All2 (RepD prog w g φ)
noncomputable def BiOK (σ : Sg) (bv : Value) (ds : List D) (r : V) : Prop :=
  ∀ {prog : Program} {w : World} {h₀ : Heap} {L : Lay} {A : Around} {s : Shared} {E Q : Value → Shared → Prop} {vals : List Value}, Rel prog w h₀ L σ s.heap → A.handled = none → RepDs prog w (vis s.heap L.X) L.own vals ds →
    (∀ v s', Kp s s' → Rep prog w (vis s'.heap L.X) v r → Q v s') → wpAny (model prog w) A (call bv vals) Q E s
theorem bi1 {bv : Value} {d : D} {r : V} (h : ∀ {prog : Program} {w : World} {h₀ : Heap} {L : Lay} {A : Around} {s : Shared} {E Q : Value → Shared → Prop} {v : Value}, Rel prog w h₀ L σ s.heap → A.handled = none → RepD prog w (vis s.heap L.X) L.own v d →
    (∀ v h' n, (∀ a o, s.heap.get? a = some o → h'.get? a = some o) → Rep prog w (vis h' L.X) v r → Q v { s with heap := h', toks := n }) → wpAny (model prog w) A (call bv [v]) Q E s) : BiOK σ bv [d] r := fun R hh rs hQ => by
  cases rs with | cons r1 r2 => cases r2; exact h R hh r1 fun v h' n hk hr => hQ v _ (.of hk) hr
theorem bi_lenL {d : D} {xs : List V} (h : LstOK σ d xs) : BiOK σ (.builtin "len") [d] (.int (xs.length : Int)) := bi1 fun R _ r hQ => by
  cases h R r with | mk a us hl hz hr =>
  exact Calls.call_len_list hl.isList (by have := size_word hz; omega) (hQ _ _ _ (fun _ _ e => e) ⟨_, congrArg (fun n : Nat => Value.int n _) hr.length⟩)
theorem bi_lenS (x : Str) : BiOK σ (.builtin "len") [.v (.str x)] (.int (x.length : Int)) := bi1 fun R _ r hQ => by
  obtain ⟨t, rfl, hz⟩ := r
  exact PySem.P.len_str (by have := size_word hz; omega) (hQ _ _ _ (fun _ _ e => e) (rep_int _ _ _))
theorem bi_hex {i : Int} (h : (baseText "0x" 16 i).length < lim) : BiOK σ (.builtin "hex") [.v (.int i)] (.str (baseText "0x" 16 i)) := bi1 fun R _ r hQ => by
  obtain ⟨t, rfl⟩ := r
  exact PySem.P.hex_of_int (hQ _ _ _ (fun _ _ e => e) (rep_str _ _ _ (lt_lim h))) (lt_lim h)
theorem bi_type (i : Int) : BiOK σ (.type "type") [.v (.int i)] (.ty "int") := bi1 fun R _ r hQ => by
  obtain ⟨t, rfl⟩ := r
  exact call_type_of (typeIs_int _ _ _) (by decide) (hQ _ _ _ (fun _ _ e => e) rfl)
theorem bi_min (a b : Int) : BiOK σ (.builtin "min") [.v (.int a), .v (.int b)] (.int (if b < a then b else a)) := fun R hh rs hQ => by
  cases rs with | cons r1 r2 => cases r2 with | cons r2 r3 =>
  cases r3
  obtain ⟨t, rfl⟩ := r1
  obtain ⟨u, rfl⟩ := r2
  refine min_two_ints hh fun h' tk' hk => hQ _ _ (.of hk) ?_
  split
  · exact rep_int _ _ _
  · exact rep_int _ _ _
theorem in_long {a y : Int} (h : a.natAbs < 1099511627776) {z : Nat} (h1 : y.natAbs ≤ z * 1099511627776) (h2 : z ≤ 1000) : InLong a ∧ InLong y := by
  unfold InLong
  omega
theorem bi_sum {is : List Int} {xs : List V} (e : xs = is.map .int) (h : is.length < 1000 ∧ is.all small40 = true) : BiOK σ (.builtin "sum") [.v (.lst xs)] (.int is.sum) := bi1 fun R hh r hQ => by
  subst e
  cases lst_heap R.sub r with | mk a us hl hz hr =>
  obtain ⟨ps, hps, rfl⟩ := ints_of hr
  have hus : us = intItems ps.toArray := Array.toList_inj.mp (hps.trans (by simp [intItems]))
  subst hus
  refine sum_intList hh hl.isList (fun j hj => ?_) fun h' tk' t' hk => hQ _ _ _ hk ?_
  · have hj' : j < (ps.map fun p : Int × Tok => p.1).length := by simpa using hj
    rw [pre_sum ps (j + 1) hj, numAt_eq, List.getElem?_eq_getElem hj']
    have h1 := sum_bound _ (List.all_eq_true.mpr fun x hx => List.all_eq_true.mp h.2 x (List.mem_of_mem_take (i := j + 1) hx))
    have h3 : small40 (ps.map fun p : Int × Tok => p.1)[j] = true := List.all_eq_true.mp h.2 _ (List.getElem_mem ..)
    exact in_long (of_decide_eq_true h3) h1 (Nat.le_trans (List.length_take_le ..) (by omega))
  · have := pre_sum ps ps.length (Nat.le_refl _)
    rw [List.take_of_length_le (Nat.le_of_eq (List.length_map ..))] at this
    rw [show ps.toArray.size = ps.length from rfl, this]; exact rep_int _ _ _
theorem bi_sorted {is : List Int} {xs : List V} (e : xs = is.map .int) (h : is.length < 60) : BiOK σ (.builtin "sorted") [.v (.lst xs)] (.lst ((sortI is).map .int)) := bi1 fun {prog w h₀ L A s E Q v} R hh r hQ => by
  subst e
  cases lst_heap R.sub r with | mk a us hl hz hr =>
  obtain ⟨ps, hps, rfl⟩ := ints_of hr
  obtain rfl : us = (intVs ps).toArray := Array.toList_inj.mp hps
  have hlen : (intVs ps).length < 64 := by rw [List.length_map] at h ⊢; omega
  refine sorted_ints (vs := intVs ps) hl.isList (map_intsAre ps) hlen fun out ns' h1 h2 h3 => ?_
  obtain ⟨qs, hq, rfl⟩ := intsAre_map h1
  obtain ⟨e, he⟩ := sortedAll_at s.heap (intVs ps) out
  refine hQ _ _ _ (fun b o hb => sortedAll_old hb) ?_
  rw [← sortI_unique h2 h3]
  refine ⟨_, _, _, rfl, vis_some.mpr ⟨R.old (fresh_none (Kp.refl s) (Nat.le_succ _)), he⟩, ?_, ?_⟩
  · have := h2.length_eq
    rw [List.length_map] at this
    rw [show out.size = qs.length from (congrArg List.length hq).trans (List.length_map ..), this]
    exact Nat.le_trans (Nat.le_of_lt h) (by decide)
  · rw [hq]; exact reps_ints qs
theorem all_get (bs : List Bool) : (∀ i, i < bs.length → (bs[i]?).getD false = true) ↔ bs.all id = true := by
  rw [List.all_eq_true]
  exact ⟨fun h b hb => let ⟨i, hi, e⟩ := List.getElem_of_mem hb; by have := h i hi; rw [List.getElem?_eq_getElem hi, e] at this; exact this,
    fun h i hi => by rw [List.getElem?_eq_getElem hi]; exact h _ (List.getElem_mem ..)⟩
theorem bi_all {bs : List Bool} {xs : List V} (e : xs = bs.map .bool) : BiOK σ (.builtin "all") [.v (.lst xs)] (.bool (bs.all id)) := bi1 fun {prog w h₀ L A s E Q v} R hh r hQ => by
  subst e
  cases lst_heap R.sub r with | mk a us hl hz hr =>
  obtain rfl : us = (bs.map Value.bool).toArray := Array.toList_inj.mp (bools_of hr)
  have hlt : a < s.heap.objs.size := let ⟨_, e⟩ := hl; Heap.lt_size e
  refine call_all_walk (wpAny_pyIter_list hl.isList ⟨_, _, _, _, _, _, fun i => (bs[i]?).getD false, rfl, Walks.list (A := A.in1) hh _ a (Nat.ne_of_lt hlt) (bs.map Value.bool).toArray, ⟨⟨_, Heap.get?_push_size _ rfl, rfl, rfl⟩, hl.isList.push _⟩, ?_, fun h' tk' hk => ?_⟩)
  · intro i v s' Q' E' hP hq
    rw [List.getElem?_toArray, List.getElem?_map] at hP
    obtain ⟨b, hb, rfl⟩ := Option.map_eq_some_iff.mp hP
    exact wpAny_truthy_bool ((congrArg (·.getD false) hb : (bs[i]?).getD false = b) ▸ hq)
  · refine hQ _ _ _ (fun b o hb => hk b o (fun hm => ?_) (Heap.get?_push_of_some _ hb)) ?_
    · exact (List.mem_cons.mp hm).elim (fun e => Nat.lt_irrefl _ (e ▸ Heap.lt_size hb)) fun h => nomatch h
    · show Value.bool _ = .bool _
      congr 1
      rw [Bool.eq_iff_iff, List.all_eq_true, ← all_get]
      exact ⟨fun h i hi => h i (by simpa using hi), fun h i hi => h i (by simpa using hi)⟩
/-- by its name -/
noncomputable def BiN (σ : Sg) (x : Str) (ds : List D) (r : V) : Prop := ∀ bv, biTab.lookup x = some bv → BiOK σ bv ds r
theorem bin_of {x y : Str} {bv : Value} {ds : List D} {r : V} (h : x = y) (hl : biTab.lookup y = some bv) (b : BiOK σ bv ds r) : BiN σ x ds r := fun bv' hb => by
  subst h
  cases Option.some.inj (hl.symm.trans hb); exact b
noncomputable def biC (σ : Sg) (x : Str) : (ds : List D) → Option (Subtype (BiN σ x ds))
  | [.v (.lst vs)] =>
    if h : x = "len" then some ⟨_, bin_of h (by kernel_rfl) (bi_lenL (lst_v vs))⟩
    else if h : x = "sum" then (intsC vs).bind fun is => if hc : is.1.length < 1000 ∧ is.1.all small40 = true then some ⟨_, bin_of h (by kernel_rfl) (bi_sum is.2 hc)⟩ else none
    else if h : x = "sorted" then (intsC vs).bind fun is => if hc : is.1.length < 60 then some ⟨_, bin_of h (by kernel_rfl) (bi_sorted is.2 hc)⟩ else none
    else if h : x = "all" then (boolsC vs).map fun bs => ⟨_, bin_of h (by kernel_rfl) (bi_all bs.2)⟩
    else none
  | [.v (.int i)] =>
    if h : x = "hex" then (if hc : (baseText "0x" 16 i).length < lim then some ⟨_, bin_of h (by kernel_rfl) (bi_hex hc)⟩ else none)
    else if h : x = "type" then some ⟨_, bin_of h (by kernel_rfl) (bi_type i)⟩ else none
  | [.v (.int a), .v (.int b)] => if h : x = "min" then some ⟨_, bin_of h (by kernel_rfl) (bi_min a b)⟩ else none
  | [.v (.str y)] => if h : x = "len" then some ⟨_, bin_of h (by kernel_rfl) (bi_lenS y)⟩ else none
  | [.loc n] => if h : x = "len" then (lstC σ (.loc n)).map fun l => ⟨_, bin_of h (by kernel_rfl) (bi_lenL l.2)⟩ else none
  | _ => none
end Mine
end
section
open PySem PySem.W PyProof.Rows PySem.SeqAt
namespace Mine
variable {prog : Program} {w : World} {h₀ : Heap} {C : Cx} {Γ : Gm} {L : Lay} {σ : Sg} {s : Shared} {A : Around} {E : Value → Shared → Prop} {k : Nat}
/-- a builtin's method stands there -/
noncomputable def MethSlot (s : Shared) (ov : Value) (m : Str) (T : String) (id : String) : Prop :=
  PlainAttrs T ∧ Slot T m id ∧ typeOf (.builtin id) = pure (.type "method_descriptor") ∧ s.TypeIs ov T ∧ (∀ a, ov = .ref a → ∃ ob, s.heap.get? a = some ob ∧ ob.dict = none)
/-- a method that turns nothing -/
noncomputable def MethOK (σ : Sg) (o : D) (m : Str) (ds : List D) (r : V) : Prop :=
  ∀ {prog : Program} {w : World} {h₀ : Heap} {L : Lay} {A : Around} {s : Shared} {E Q : Value → Shared → Prop} {ov : Value}, Rel prog w h₀ L σ s.heap → RepD prog w (vis s.heap L.X) L.own ov o → ∃ T id, MethSlot s ov m T id ∧
    ∀ (s' : Shared) (vals : List Value), Kp s s' → RepDs prog w (vis s'.heap L.X) L.own vals ds → (∀ v s'', Kp s' s'' → Rep prog w (vis s''.heap L.X) v r → Q v s'') →
      wpAny (model prog w) A (call (.builtin id) (ov :: vals)) Q E s'
theorem strs_slot {x : Str} {t : Tok} {m : Str} {id : String} (h : Slot "str" m id) (h2 : typeOf (.builtin id) = pure (.type "method_descriptor")) : MethSlot s (.str x t) m "str" id := ⟨F.plainAttrs_str, h, h2, typeIs_str _ _ _, fun _ e => nomatch e⟩
theorem list_slot {a : Addr} {us : Array Value} (hl : s.heap.PlainList a us) {m : Str} {id : String} (h : Slot "list" m id) (h2 : typeOf (.builtin id) = pure (.type "method_descriptor")) : MethSlot s (.ref a) m "list" id :=
  ⟨F.plainAttrs_list, h, h2, hl.isList.typeIs, fun a' e => by obtain ⟨n, h⟩ := hl; cases e; exact ⟨_, h, rfl⟩⟩
theorem meth_lower {x : Str} (hc : Builtin.Str.tooLong (Txt.lower x).length = false) : MethOK σ (.v (.str x)) "lower" [] (.str (Txt.lower x)) := fun R ro => by
  obtain ⟨t, rfl, hz⟩ := ro
  refine ⟨_, _, strs_slot F.slot_str_lower F.type_str_lower, fun s' vals hk hv hQ => ?_⟩
  cases hv
  exact call_meets F.slot_str_lower (typeIs_str _ _ _) F.entry_str_lower (F.args_str_lower_1 _) (gives_str_lower _ t hc).meets ⟨fit_le hc, hQ _ _ (Kp.tok _ _) (rep_str _ _ _ (fit_le hc))⟩
theorem join_ok {x : Str} {ts : List Str} (h : (ts.map Str.length).sum + x.length * ts.length < lim) : Builtin.Str.tooLong (ts.toArray.foldl (· + ·.length + x.length) 0) = false := by
  rw [StrLaws.joinTotal, Nat.mul_comm ts.length]
  unfold Builtin.Str.tooLong
  exact decide_eq_false (by have := sizeLine_eq; have := lim_le; have h : (ts.map fun x : Str => x.length).sum + x.length * ts.length < lim := h; omega)
theorem meth_join {x : Str} {d : D} {xs : List V} {ts : List Str} (hd : LstOK σ d xs) (he : xs = ts.map .str) (h : (ts.map Str.length).sum + x.length * ts.length < lim) : MethOK σ (.v (.str x)) "join" [d] (.str (Str.join x ts)) := fun R ro => by
  subst he
  obtain ⟨t, rfl, hz⟩ := ro
  refine ⟨_, _, strs_slot F.slot_str_join F.type_str_join, fun s' vals hk hv hQ => ?_⟩
  cases hv with | cons h1 h2 =>
  cases h2
  cases hd (R.keep hk) h1 with | mk a us hl hz' hr =>
  obtain ⟨ps, hps, rfl⟩ := strs_of hr
  obtain rfl : us = (strValues ps).toArray := Array.toList_inj.mp hps
  have hok := join_ok h
  have hjl := joinFit_length hok
  rw [show Txt.join x (ps.map (·.1)) = Str.join x (ps.map (·.1)) from StrLaws.glued_eq_join _ _] at hjl
  refine call_meets F.slot_str_join (typeIs_str _ _ _) F.entry_str_join (F.args_str_join_2 _ _) (meets_str_join_list x t a ps hok) ⟨hl.isList, post_join ps ⟨joinFit_length hok, fun t' tk => ?_⟩⟩
  rw [show Txt.join x (ps.map (·.1)) = Str.join x (ps.map (·.1)) from StrLaws.glued_eq_join _ _]
  exact hQ _ _ (Kp.tok _ _) (rep_str _ _ _ hjl)
theorem meth_split {x y : Str} (hc : y.cps.size ≠ 0 ∧ (Txt.split x y).length < lim ∧ (Txt.split x y).all (fun p => decide (p.length < lim)) = true) : MethOK σ (.v (.str x)) "split" [.v (.str y)] (.lst ((Txt.split x y).map .str)) := fun {prog w h₀ L A s E Q ov} R ro => by
  obtain ⟨t, rfl, hz⟩ := ro
  refine ⟨_, _, strs_slot F.slot_str_split F.type_str_split, fun s' vals hk hv hQ => ?_⟩
  cases hv with | cons h1 h2 =>
  cases h2
  obtain ⟨u, rfl, hzy⟩ := h1
  have hy : (y.length == 0) = false := beq_eq_false_iff_ne.mpr hc.1
  have mk : ∀ (t : Nat) (ps : List (Str × Tok)), ps.map (·.1) = Txt.split x y → Q (.ref s'.heap.objs.size) { s' with toks := t, heap := s'.heap.push { cls := .type "list", data := .seq (strValues ps).toArray } } := fun t ps e => by
    refine hQ _ _ (.of fun b o hb => Heap.get?_push_of_some _ hb) ?_
    rw [← e]
    refine rep_push (s := s') (R.keep hk).new ?_ (reps_strs ps fun p hp => lt_lim (of_decide_eq_true (List.all_eq_true.mp hc.2.2 p.1 (e ▸ List.mem_map_of_mem hp))))
    exact lt_lim (Nat.lt_of_le_of_lt (Nat.le_of_eq ((List.length_map ..).trans ((List.length_map ..).symm.trans (congrArg List.length e)))) hc.2.1)
  cases h1 : (decide (x.length < y.length) || decide (Builtin.Str.strKind x < Builtin.Str.strKind y))
  · cases hf : (Builtin.Str.occurrences x y 0 x.length (x.length + 1)).isEmpty
    · have es : Txt.split x y = Builtin.Str.partsBetween x (Builtin.Str.occurrences x y 0 x.length (x.length + 1)) y.length := (if_neg (ne_true_of_eq_false h1)).trans (if_neg (ne_true_of_eq_false hf))
      refine call_meets F.slot_str_split (typeIs_str _ _ _) F.entry_str_split (F.args_str_split_2 _ _) (meets_str_split_sep x y t u h1 hy hf hz (by rw [← es]; exact lt_lim hc.2.1)) ?_
      show wants Q E _ { s' with toks := _, heap := s'.heap.push { cls := .type "list", data := .seq (strsFrom s'.toks (Builtin.Str.partsBetween x (Builtin.Str.occurrences x y 0 x.length (x.length + 1)) y.length)).toArray } }
      rw [strsFrom_eq]
      exact mk _ _ ((numbered_texts _ _).trans es.symm)
    · exact call_meets F.slot_str_split (typeIs_str _ _ _) F.entry_str_split (F.args_str_split_2 _ _) (meets_str_split_not_found x y t u h1 hy hf) (mk _ [(x, t)] ((if_neg (ne_true_of_eq_false h1)).trans (if_pos hf)).symm)
  · exact call_meets F.slot_str_split (typeIs_str _ _ _) F.entry_str_split (F.args_str_split_2 _ _) (meets_str_split_cannot_occur x y t u h1) (mk _ [(x, t)] (if_pos h1).symm)
/-! index -/
theorem idx_spec {α : Type} {p : α → Bool} {f : α → Value} {e : Value → Bool} (he : ∀ x, e (f x) = p x) : ∀ (l : List α) (n k : Nat), idxB p l n = some k → ∃ j, k = n + j ∧ ∃ h : j < (l.map f).length, e (l.map f)[j] = true ∧ ∀ m (hm : m < (l.map f).length), m < j → e (l.map f)[m] = false
  | [], n, k, h => nomatch h
  | y :: r, n, k, h => by
    unfold idxB at h
    cases q : p y with
    | true => rw [q, if_pos rfl] at h; cases h; exact ⟨0, rfl, Nat.succ_pos _, (he y).trans q, fun m _ hm => nomatch hm⟩
    | false =>
      rw [q, if_neg Bool.false_ne_true] at h
      obtain ⟨j, rfl, hj, h1, h2⟩ := idx_spec he r (n + 1) k h
      exact ⟨j + 1, by omega, Nat.succ_lt_succ hj, h1, fun m hm hmj => match m, hm, hmj with
        | 0, _, _ => (he y).trans q
        | m + 1, hm, hmj => h2 m (Nat.lt_of_succ_lt_succ hm) (Nat.lt_of_succ_lt_succ hmj)⟩
theorem idx_map {α β : Type} (g : α → β) (p : β → Bool) : ∀ (l : List α) (n : Nat), idxB p (l.map g) n = idxB (fun x => p (g x)) l n
  | [], _ => rfl
  | y :: r, n => by rw [List.map_cons, idxB, idxB, idx_map g p r]
noncomputable def isS (t : Str) : Value → Bool
  | .str y _ => y == t
  | _ => false
noncomputable def isI (t : Int) : Value → Bool
  | .int y _ => y == t
  | _ => false
theorem index_call {α : Type} {a : Addr} {ps : List α} {f : α → Value} (hl : s.heap.PlainList a (ps.map f).toArray) (hz : (ps.map f).toArray.size ≤ sizeLine) {x : Value} (e : Value → Bool) {p : α → Bool} (hp : ∀ x, e (f x) = p x) {j : Nat} (hj : idxB p ps 0 = some j)
    (he : ∀ y, EqAt A.in1 s (f y) x (e (f y))) {Q : Value → Shared → Prop} (hQ : ∀ t, Q (.int j s.toks) { s with toks := t }) : wpAny (model prog w) A (call (.builtin "list.index") [.ref a, x]) Q E s := by
  obtain ⟨n, hl⟩ := hl
  have := sizeLine_eq
  obtain ⟨i, rfl, hi, h1, h2⟩ := idx_spec hp ps 0 j hj
  rw [Nat.zero_add] at hQ
  exact call_meets F.slot_list_index ⟨_, hl, rfl⟩ F.entry_list_index (F.args_list_index_2 _ _) (list_indexAt a _ n none #[] x e i hi (by have hz : (ps.map f).length ≤ sizeLine := hz; omega) h1 h2) ⟨hl, fun y hy => by
    obtain ⟨p, _, rfl⟩ := List.mem_map.mp (List.mem_toArray.mp hy)
    exact he p, hQ _⟩
theorem meth_indexS {o : D} {xs : List V} {ts : List Str} {t : Str} {j : Nat} (ho : LstOK σ o xs) (he : xs = ts.map .str) (hj : idxB (· == t) ts 0 = some j) : MethOK σ o "index" [.v (.str t)] (.int j) := fun R ro => by
  subst he
  cases ho R ro with | mk a us hl hz hr =>
  obtain ⟨ps, hps, rfl⟩ := strs_of hr
  obtain rfl : us = (strValues ps).toArray := Array.toList_inj.mp hps
  refine ⟨_, _, list_slot hl F.slot_list_index F.type_list_index, fun s' vals hk hv hQ => ?_⟩
  cases hv with | cons h1 h2 =>
  cases h2
  obtain ⟨u, rfl, hzy⟩ := h1
  rw [idx_map] at hj
  exact index_call (hl.at fun o e => hk.heap _ o e) hz (isS t) (fun _ => rfl) hj (fun y => .str_str _ _ _ _) fun t' => hQ _ _ (Kp.tok _ _) (rep_int _ _ _)
theorem meth_indexI {o : D} {xs : List V} {ts : List Int} {t : Int} {j : Nat} (ho : LstOK σ o xs) (he : xs = ts.map .int) (hj : idxB (· == t) ts 0 = some j) : MethOK σ o "index" [.v (.int t)] (.int j) := fun R ro => by
  subst he
  cases ho R ro with | mk a us hl hz hr =>
  obtain ⟨ps, hps, rfl⟩ := ints_of hr
  obtain rfl : us = (intVs ps).toArray := Array.toList_inj.mp hps
  refine ⟨_, _, list_slot hl F.slot_list_index F.type_list_index, fun s' vals hk hv hQ => ?_⟩
  cases hv with | cons h1 h2 =>
  cases h2
  obtain ⟨u, rfl⟩ := h1
  rw [idx_map] at hj
  exact index_call (hl.at fun o e => hk.heap _ o e) hz (isI t) (fun _ => rfl) hj (fun y => .int_int _ _ _ _) fun t' => hQ _ _ (Kp.tok _ _) (rep_int _ _ _)
theorem meth_get (kvs : List (Int × V)) (kk : Int) (d : V) : MethOK σ (.v (.dct kvs)) "get" [.v (.int kk), .v d] ((dget kvs kk).getD d) := fun R ro => by
  cases dct_heap R.sub ro with | mk a ks hd hm hz hr =>
  obtain ⟨ob, ho, hdict⟩ : ∃ ob, _ ∧ ob.dict = none := let ⟨ob, es, ep, ho, he, hd', _⟩ := hd; ⟨ob, ho, he.2.1⟩
  refine ⟨"dict", _, ⟨F.plainAttrs_dict, F.slot_dict_get, F.type_dict_get, hd.typeIs, fun a' e => by cases e; exact ⟨_, ho, hdict⟩⟩, fun s' vals hk hv hQ => ?_⟩
  cases hv with | cons h1 h2 => cases h2 with | cons h2 h3 =>
  cases h3
  obtain ⟨t, rfl⟩ := h1
  have hd' : s'.heap.DictOf (intKind _ _) a ks := hd.at fun o e => hk.heap _ o e
  refine call_meetsIn F.slot_dict_get hd'.typeIs F.entry_dict_get (F.args_dict_get_3 _ _ _) (meets_dict_get_default (intKind _ _) a (intKind_is _ _ kk t) hm _) ⟨valueAt ks, hd'.mapOf, hQ _ _ (Kp.tok _ _) ?_⟩
  rcases repK_get (hr.mono (hk.sub _)) kk with ⟨x1, x2⟩ | ⟨v, x, x1, x2, hv⟩
  · rw [x1, x2]; exact h2
  · rw [x1, x2]; exact hv
theorem meth_of {o : D} {x y : Str} {ds : List D} {r : V} (h : x = y) (b : MethOK σ o y ds r) : MethOK σ o x ds r := h ▸ b
noncomputable def methC (σ : Sg) (o : D) (m : Str) : (ds : List D) → Option (Subtype (MethOK σ o m ds))
  | [] => onStr (P := fun o => Subtype (MethOK σ o m [])) o fun x => if h : m = "lower" then (if hc : Builtin.Str.tooLong (Txt.lower x).length = false then some ⟨_, meth_of h (meth_lower hc)⟩ else none) else none
  | [.v (.str y)] => if h : m = "index" then (lstC σ o).bind fun l => (strsC l.1).bind fun ts => (optC (idxB (· == y) ts.1 0)).map fun j => ⟨_, meth_of h (meth_indexS l.2 ts.2 j.2)⟩
      else onStr (P := fun o => Subtype (MethOK σ o m [.v (.str y)])) o fun x => if h : m = "split" then (if hc : y.cps.size ≠ 0 ∧ (Txt.split x y).length < lim ∧ (Txt.split x y).all (fun p => decide (p.length < lim)) = true then some ⟨_, meth_of h (meth_split hc)⟩ else none) else none
  | [.v (.int y)] => if h : m = "index" then (lstC σ o).bind fun l => (intsC l.1).bind fun ts => (optC (idxB (· == y) ts.1 0)).map fun j => ⟨_, meth_of h (meth_indexI l.2 ts.2 j.2)⟩ else none
  | [.v (.int k), .v d] => match o with
    | .v (.dct kvs) => if h : m = "get" then some ⟨_, meth_of h (meth_get kvs k d)⟩ else none
    | _ => none
  | [d] => onStr (P := fun o => Subtype (MethOK σ o m [d])) o fun x => if h : m = "join" then (lstC σ d).bind fun l => (strsC l.1).bind fun ts => (if hc : (ts.1.map Str.length).sum + x.length * ts.1.length < lim then some ⟨_, meth_of h (meth_join l.2 ts.2 hc)⟩ else none) else none
  | _ => none
end Mine
end
section
open PySem PySem.W PyProof.Rows PySem.SeqAt
namespace Mine
variable {prog : Program} {w : World} {h₀ : Heap} {C : Cx} {K : Nat} {Γ : Gm} {L : Lay} {env : Env} {σ : Sg} {s : Shared} {A : Around} {E : Value → Shared → Prop}
/-- an expression's value -/
noncomputable def EvOK (C : Cx) (Γ : Gm) (σ : Sg) (e : Expr) (d : D) : Prop :=
  ∀ {prog : Program} {w : World} {h₀ : Heap} {K : Nat} {L : Lay} {env : Env} {A : Around} {s : Shared} {E Q : Value → Shared → Prop}, Fx prog w h₀ C K Γ L.own env A → Rel prog w h₀ L σ s.heap →
    (∀ v s', Kp s s' → RepD prog w (vis s'.heap L.X) L.own v d → Q v s') → wpAny (model prog w) A (eval e env) Q E s
/-- a test's answer -/
noncomputable def BOK (C : Cx) (Γ : Gm) (σ : Sg) (e : Expr) (b : Bool) : Prop :=
  ∀ {prog : Program} {w : World} {h₀ : Heap} {K : Nat} {L : Lay} {env : Env} {A : Around} {s : Shared} {E : Value → Shared → Prop} {Q : Bool → Shared → Prop}, Fx prog w h₀ C K Γ L.own env A → Rel prog w h₀ L σ s.heap →
    (∀ s', Kp s s' → Q b s') → wpAny (model prog w) A (isTrue e env (eval e env)) Q E s
/-- a list laid anew, which nothing else tells -/
inductive FreshL (prog : Program) (w : World) (s s' : Shared) (X : List Addr) (xs : List V) : Value → Prop
  | mk (a : Addr) (us : Array Value) (hf : s.heap.get? a = none) (hl : s'.heap.PlainList a us) (hz : us.size ≤ sizeLine) (hr : Reps prog w (vis s'.heap (a :: X)) us.toList xs) : FreshL prog w s s' X xs (.ref a)
theorem FreshL.rep {s s' : Shared} {X : List Addr} {v : Value} {xs : List V} (h : FreshL prog w s s' X xs v) (hx : ∀ a, s.heap.get? a = none → a ∉ X) : Rep prog w (vis s'.heap X) v (.lst xs) := by
  cases h with | mk a us hf hl hz hr =>
  obtain ⟨n, e⟩ := hl
  exact ⟨a, n, us, rfl, vis_some.mpr ⟨hx a hf, e⟩, hz, hr.mono (vis_shrink fun b hb => List.mem_cons_of_mem _ hb)⟩
theorem FreshL.shrink {s s₁ s' : Shared} {X Y : List Addr} {v : Value} {xs : List V} (h : FreshL prog w s₁ s' X xs v) (k : Kp s s₁) (hx : ∀ a, a ∈ Y → a ∈ X) : FreshL prog w s s' Y xs v := by
  cases h with | mk a us hf hl hz hr =>
  refine .mk a us ?_ hl hz (hr.mono (vis_shrink fun b hb => (List.mem_cons.mp hb).elim (fun e => e ▸ List.mem_cons_self ..) fun hb => List.mem_cons_of_mem _ (hx b hb)))
  cases e : s.heap.get? a with
  | none => rfl
  | some o => exact nomatch hf.symm.trans (k.heap a o e)
/-- an expression whose value is a list laid anew -/
noncomputable def FreshOK (C : Cx) (Γ : Gm) (σ : Sg) (e : Expr) (xs : List V) : Prop :=
  ∀ {prog : Program} {w : World} {h₀ : Heap} {K : Nat} {L : Lay} {env : Env} {A : Around} {s : Shared} {E Q : Value → Shared → Prop}, Fx prog w h₀ C K Γ L.own env A → Rel prog w h₀ L σ s.heap →
    (∀ v s', Kp s s' → FreshL prog w s s' L.X xs v → Q v s') → wpAny (model prog w) A (eval e env) Q E s
theorem FreshOK.ev {e : Expr} {xs : List V} (h : FreshOK C Γ σ e xs) : EvOK C Γ σ e (.v (.lst xs)) := fun X R hQ => h X R fun v s' k f => hQ v s' k (f.rep fun _ => R.old)
/-! arguments -/
theorem starEach_cons {e : Expr} {r : List Expr} (h : isStar e = false) : starEach (e :: r) env = (false, eval e env) :: starEach r env := by
  cases e <;> first | rfl | exact nomatch h
noncomputable def ArgsOK (C : Cx) (Γ : Gm) (σ : Sg) (es : List Expr) (ds : List D) : Prop := (∀ env pos, (backTo pos (starEach es env)).any (·.1) = false ∧ (backTo pos (starEach es env)).all (fun x => !x.1) = true) ∧
  ∀ {prog : Program} {w : World} {h₀ : Heap} {K : Nat} {L : Lay} {env : Env} {A : Around} {s : Shared} {E : Value → Shared → Prop} {Q : List Value → Shared → Prop}, Fx prog w h₀ C K Γ L.own env A → Rel prog w h₀ L σ s.heap →
    (∀ vals s', Kp s s' → RepDs prog w (vis s'.heap L.X) L.own vals ds → Q vals s') → ∀ pos, wpAny (model prog w) A (spliced (backTo pos (starEach es env))) Q E s ∧ ∀ f, wpAny (model prog w) A (evalArgs f true (backTo pos (starEach es env)) []) (fun a s' => Q a.pos s' ∧ a.kw = []) E s
theorem args_nil : ArgsOK C Γ σ [] [] := ⟨fun _ _ => ⟨rfl, rfl⟩, fun {prog w h₀ K L env A s E Q} X R hQ pos => by
  have q : wpAny (model prog w) A (spliced []) Q E s := Calls.spliced_nil (hQ [] s (Kp.refl s) .nil)
  refine ⟨q, fun f => ?_⟩
  unfold evalArgs
  show wpAny _ A (spliced [] >>= _) _ E s
  exact wpAny_bind (wpAny_mono q (fun vs s' h' => wpAny_bind (wpAny_pure (wpAny_holding (wpAny_bind (wpAny_pure (wpAny_bind (wpAny_pure (wpAny_pure ⟨h', rfl⟩)))))))) fun _ _ x => x)⟩
theorem args_cons {e : Expr} {es : List Expr} {d : D} {ds : List D} (hs : isStar e = false) (h : EvOK C Γ σ e d) (h2 : ArgsOK C Γ σ es ds) : ArgsOK C Γ σ (e :: es) (d :: ds) := ⟨fun env pos => by
    rw [starEach_cons hs]
    exact ⟨(congrArg (false || ·) (h2.1 env pos).1 : _), (congrArg (true && ·) (h2.1 env pos).2 : _)⟩,
  fun {prog w h₀ K L env A s E Q} X R hQ pos => by
    rw [starEach_cons hs]
    have q : ∀ Q : List Value → Shared → Prop, (∀ vals s', Kp s s' → RepDs prog w (vis s'.heap L.X) L.own vals (d :: ds) → Q vals s') → wpAny (model prog w) A (spliced (backTo pos ((false, eval e env) :: starEach es env))) Q E s := fun Q hQ =>
      Calls.spliced_cons (h X R fun v s₁ k₁ r₁ => (h2.2 X (R.keep k₁) (fun vals s₂ k₂ r₂ => hQ _ s₂ (k₁.trans k₂) (.cons (r₁.mono (k₂.sub _) (.refl _)) r₂)) pos).1)
    exact ⟨q Q hQ, fun f => Calls.evalArgs_plain (q _ fun vals s' k r => ⟨hQ vals s' k r, rfl⟩)⟩⟩
theorem ArgsOK.args {es : List Expr} {ds : List D} (h : ArgsOK C Γ σ es ds) (X : Fx prog w h₀ C K Γ L.own env A) (R : Rel prog w h₀ L σ s.heap) {Q : Args → Shared → Prop} (hQ : ∀ vals s', Kp s s' → RepDs prog w (vis s'.heap L.X) L.own vals ds → Q ⟨vals, []⟩ s') (pos : Pos) (f : Value) :
    wpAny (model prog w) A (evalArgs f true (backTo pos (starEach es env)) []) Q E s :=
  wpAny_mono ((h.2 X R (Q := fun vals s' => Q ⟨vals, []⟩ s') hQ pos).2 f) (fun ⟨p, q⟩ s' h => by obtain ⟨h1, h2⟩ := h; cases h2; exact h1) fun _ _ x => x
/-- the call of a built-in -/
theorem bi_kind {x : Str} {bv : Value} (h : biTab.lookup x = some bv) : (∃ y, bv = .builtin y) ∨ ∃ y, bv = .type y := by
  have q : ∀ p, p ∈ biTab → (∃ y, p.2 = .builtin y) ∨ ∃ y, p.2 = .type y := fun p hp => by
    unfold biTab at hp
    repeat' (rcases List.mem_cons.mp hp with e | hp; first | exact e ▸ .inl ⟨_, rfl⟩ | exact e ▸ .inr ⟨_, rfl⟩)
    exact nomatch hp
  exact q _ (mem_of_lookup h)
theorem bi_call {f : Str} {bv : Value} {p pos : Pos} {es : List Expr} {ds : List D} (hb : IsBi C Γ f bv) (h : ArgsOK C Γ σ es ds) (X : Fx prog w h₀ C K Γ L.own env A) (R : Rel prog w h₀ L σ s.heap) {Q : Value → Shared → Prop}
    (hQ : ∀ vals s', Kp s s' → RepDs prog w (vis s'.heap L.X) L.own vals ds → wpAny (model prog w) A (call bv vals) Q E s') : wpAny (model prog w) A (eval (.Call (.Name f p) es [] pos) env) Q E s := by
  refine wpAny_Call_NameR (bi_eval hb X R ?_ p)
  have key : ∀ f, wpAny (model prog w) A (evalArgs f true (backTo pos (starEach es env)) []) (fun a s₁ => wpAny (model prog w) A (call bv ([] ++ a.pos) a.kw) Q E s₁) E s := h.args X R hQ pos
  rcases bi_kind hb.2.2.2 with ⟨y, rfl⟩ | ⟨y, rfl⟩
  · exact Calls.callWith_builtin (h.1 env pos).1 (key _)
  · exact PySem.callWith_type (h.1 env pos).1 (key _)
/-! what a loop goes over -/
/-- an iterator that gives deep values -/
structure Iter (prog : Program) (w : World) (A : Around) (I : Addr) (wr src : List Addr) (tup : Bool) (St : List Addr → List V → Heap → Prop) : Prop where
  frame : ∀ {X Y : List Addr} {r : List V} {h h' : Heap}, St X r h → (∀ a, a ∈ wr ∨ a ∈ src → ∀ o, h.get? a = some o → h'.get? a = some o) → Sub (vis h X) (vis h' Y) → St Y r h'
  item : ∀ {X : List Addr} {x : V} {r : List V} {s : Shared} {t : Expr} {E Q : Value → Shared → Prop}, St X (x :: r) s.heap → (∀ a, a ∈ wr → a ∈ X) → s.heap.objs.size ∉ X → isTup t = tup → Tgt t →
    (∀ v s', St X r s'.heap → Stp wr s s' → Rep prog w (vis s'.heap X) v x → Q v s') →
    wpAny (model prog w) A (pyNext (.ref I)) (fun r s₁ => ∃ v, r = some v ∧ wpAny (model prog w) A (letOwnedTupleGo t (.ref I) v) (fun _ s' => Q v s') E s₁) E s
  done : ∀ {X : List Addr} {s : Shared} {E : Value → Shared → Prop} {Q : Option Value → Shared → Prop}, St X [] s.heap → (∀ s', Stp wr s s' → Q none s') → wpAny (model prog w) A (pyNext (.ref I)) Q E s
  here : ∀ {X : List Addr} {r : List V} {h : Heap}, St X r h → ∀ a, a ∈ wr → ∃ o, h.get? a = some o
  self : ∀ {X : List Addr} {r : List V} {s : Shared} {E Q : Value → Shared → Prop}, St X r s.heap → Q (.ref I) s → wpAny (model prog w) A (pyIter (.ref I)) Q E s
/-- the state of an iterator that the library walks -/
structure WSt (xs : List V) (St₀ : Nat → Heap → Prop) (Items : List Addr → Heap → Prop) (X : List Addr) (r : List V) (h : Heap) : Prop where
  at' : ∃ i, i ≤ xs.length ∧ r = xs.drop i ∧ St₀ i h
  items : Items X h
theorem drop_cons {α : Type} : ∀ {xs : List α} {i : Nat} {x : α} {r : List α}, x :: r = xs.drop i → xs[i]? = some x ∧ i < xs.length ∧ r = xs.drop (i + 1)
  | [], i, _, _, h => by rw [List.drop_nil] at h; exact nomatch h
  | y :: ys, 0, _, _, h => by cases h; exact ⟨rfl, Nat.succ_pos _, rfl⟩
  | y :: ys, i + 1, _, _, h => let ⟨a, b, c⟩ := drop_cons (xs := ys) (i := i) h; ⟨a, Nat.succ_lt_succ b, c⟩
theorem Iter.of_walks {I : Addr} {fp : List Addr} {n : Nat} {P : Nat → Value → Prop} {St₀ : Nat → Heap → Prop} {xs : List V} {tup : Bool} (Wk : Walks prog w A I fp [I] n P St₀) (hn : xs.length = n) {Items : List Addr → Heap → Prop}
    (hhere : ∀ i h, St₀ i h → ∃ o, h.get? I = some o) (hfp : ∀ a, a ∈ fp → a = I ∨ a ∈ fp)
    (mono : ∀ X Y h h', Items X h → Sub (vis h X) (vis h' Y) → Items Y h') (rep : ∀ X h i v x, Items X h → P i v → xs[i]? = some x → Rep prog w (vis h X) v x)
    (hlet : ∀ {i v s es k p E} {Q : Unit → Shared → Prop}, St₀ i s.heap → true = tup → Q () s → wpAny (model prog w) A (letOwnedTupleGo (.Tuple es k p) (.ref I) v) Q E s) :
    Iter prog w A I [I] fp tup (WSt xs St₀ Items) where
  frame := fun {X Y r h h'} ⟨⟨i, h1, h2, h3⟩, it⟩ hk hs => ⟨⟨i, h1, h2, Wk.frame i _ _ h3 fun a ha => hk a (.inr ha)⟩, mono X Y _ _ it hs⟩
  item := fun {X x r s t E Q} st hwr _ ht hok hQ => by
    obtain ⟨⟨i, h1, h2, h3⟩, it⟩ := st
    obtain ⟨hx, hi, hr⟩ := drop_cons h2
    refine Wk.item i s _ _ (hn ▸ hi) h3 fun v h' tk hP st' hk => ⟨v, rfl, ?_⟩
    have sp : Stp [I] s { s with heap := h', toks := tk } := ⟨fun a o ha e => hk a o ha e, fun _ _ e => e, id, rfl⟩
    have it' := mono X X _ _ it (sp.sub hwr)
    have fin : Q v { s with heap := h', toks := tk } := hQ v _ ⟨⟨i + 1, hi, hr, st'⟩, it'⟩ sp (rep X _ i v x it' hP hx)
    rcases hok with ⟨es, k, p, rfl⟩ | ⟨y, p, rfl⟩
    · exact hlet st' ht fin
    · exact wpAny_pure fin
  done := fun {X s E Q} ⟨⟨i, h1, h2, h3⟩, it⟩ hQ => Wk.done s Q E (hn ▸ Nat.le_antisymm h1 (List.drop_eq_nil_iff.mp h2.symm) ▸ h3) fun h' tk hk => hQ _ ⟨fun a o ha e => hk a o ha e, fun _ _ e => e, id, rfl⟩
  here := fun {X r h} ⟨⟨i, h1, h2, h3⟩, it⟩ a ha => (List.mem_singleton.mp ha) ▸ hhere i h h3
  self := fun {X r s E Q} ⟨⟨i, h1, h2, h3⟩, it⟩ hQ => Wk.self i s Q E h3 hQ
/-- over a list -/
theorem Iter.list (hh : A.handled = none) {I l : Addr} (hne : l ≠ I) (items : Array Value) (xs : List V) (hl : items.size = xs.length) (tup : Bool) :
    Iter prog w A I [I] [I, l] tup (WSt xs (fun i h => h.IsListIter I l i ∧ h.IsList l items) fun X h => Reps prog w (vis h X) items.toList xs) :=
  Iter.of_walks (Walks.list hh I l hne items) hl.symm (fun i h st => let ⟨o, e, _⟩ := st.1; ⟨o, e⟩) (fun a h => .inr h) (fun X Y h h' r hs => r.mono hs)
    (fun X h i v x r hP hx => by
      obtain ⟨u, hu, hr⟩ := r.get hx
      cases Option.some.inj (hP.symm.trans ((Array.getElem?_toList ..).symm.trans hu)); exact hr)
    fun {i v s es k p E Q} st _ hQ => by
      cases v with
      | ref T => exact wpAny_letOwnedTupleGo_listiter st.1 hQ
      | _ => exact wpAny_pure hQ
/-- over a range -/
theorem Iter.range (hh : A.handled = none) {I : Addr} (a c : Int) (n : Nat) :
    Iter prog w A I [I] [I] false (WSt (rangeV a c n) (fun i h => IsRangeIter h I (a + (i : Nat) * c) ((n : Int) - (i : Nat)) c) fun _ _ => True) :=
  Iter.of_walks (Walks.range hh I a c n) ((List.length_map ..).trans List.length_range) (fun i h st => ⟨_, st⟩) (fun a h => .inr h) (fun _ _ _ _ _ _ => trivial)
    (fun X h i v x _ hP hx => by
      obtain ⟨t, rfl⟩ := hP
      obtain ⟨j, hj, rfl⟩ := Option.map_eq_some_iff.mp ((List.getElem?_map ..).symm.trans hx)
      obtain ⟨h1, rfl⟩ := List.getElem?_eq_some_iff.mp hj
      rw [List.getElem_range]
      exact rep_int _ _ _)
    fun _ h _ => nomatch h
/-- the state of an enumerated list -/
structure ESt (prog : Program) (w : World) (e it l : Addr) (items : Array Value) (X : List Addr) (r : List V) (h : Heap) : Prop where
  at' : ∃ i xs, r = enumL xs i ∧ (∃ old, IsEnum h e it ((i : Nat) : Int) old) ∧ h.IsListIter it l i ∧ Reps prog w (vis h X) (items.toList.drop i) xs
  ls : h.IsList l items
theorem Iter.enum (hh : A.handled = none) {e it l : Addr} (hei : e ≠ it) (hle : l ≠ e) (hli : l ≠ it) (items : Array Value) : Iter prog w A e [e, it] [l] true (ESt prog w e it l items) where
  frame := fun {X Y r h h'} ⟨⟨i, xs, h0, ⟨old, h1⟩, h2, h3⟩, h4⟩ hk hs => ⟨⟨i, xs, h0, ⟨old, hk e (.inl (List.mem_cons_self ..)) _ h1⟩, h2.at fun o x => hk it (.inl (List.mem_cons_of_mem _ (List.mem_cons_self ..))) o x, h3.mono hs⟩, h4.at fun o x => hk l (.inr (List.mem_cons_self ..)) o x⟩
  item := fun {X x r s t E Q} st hwr hnew ht hok hQ => by
    obtain ⟨⟨i, xs, h0, ⟨old, h1⟩, h2, h3⟩, h4⟩ := st
    obtain ⟨es, n, p, rfl⟩ : ∃ es n p, t = .Tuple es n p := hok.elim id fun ⟨_, _, e⟩ => by subst e; exact nomatch ht
    cases xs with | nil => exact nomatch h0 | cons y xs =>
    cases h0
    obtain ⟨u, us, hu, hr1, hr2⟩ := h3
    have hu' := drop_cons hu.symm
    have heH : e < s.heap.objs.size := Heap.lt_size h1
    refine wpAny_pyNext_enum_item h1 h2 h4 ((Array.getElem?_toList ..).symm.trans hu'.1) hei fun h₁ heo hit₁ ht₁ hz₁ hk₁ => ⟨_, rfl, ?_⟩
    refine wpAny_letOwnedTupleGo_enum heo fun h₂ he₂ hs₂ => ?_
    replace hs₂ : Heap.SameBut e h₁ h₂ := hs₂
    have ne : ∀ {a}, a ∉ [e, it] → a ≠ e ∧ a ≠ it := fun ha => ⟨fun q => ha (q ▸ List.mem_cons_self ..), fun q => ha (q ▸ List.mem_cons_of_mem _ (List.mem_cons_self ..))⟩
    have sp : Stp [e, it] s { s with heap := h₂, toks := s.toks + 1 } := ⟨fun a o ha z => hs₂.extBut a o (ne ha).1 (hk₁ a o (ne ha).1 (ne ha).2 z), fun _ _ z => z, id, rfl⟩
    refine hQ _ { s with heap := h₂, toks := s.toks + 1 } ⟨⟨i + 1, xs, rfl, ⟨_, he₂⟩, Heap.IsListIter.at hit₁ fun o z => hs₂.extBut it o hei.symm z, hu'.2.2 ▸ hr2.mono (sp.sub hwr)⟩, h4.at fun o z => hs₂.extBut l o hle (hk₁ l o hle hli z)⟩ sp
      ⟨s.heap.objs.size, 0, #[.int i s.toks, u], rfl, vis_some.mpr ⟨hnew, hs₂.extBut _ _ (Nat.ne_of_gt heH) ht₁⟩, (show 2 ≤ sizeLine by decide), ⟨_, _, rfl, rep_int _ _ _, u, [], rfl, hr1.mono (sp.sub hwr), rfl⟩⟩
  done := fun {X s E Q} ⟨⟨i, xs, h0, ⟨old, h1⟩, h2, h3⟩, h4⟩ hQ => by
    cases xs with | cons y xs => exact nomatch h0 | nil =>
    refine wpAny_pyNext_enum_end hh h1 h2 h4 ((Array.getElem?_toList ..).symm.trans (List.getElem?_eq_none (List.drop_eq_nil_iff.mp (show _ = [] from h3)))) fun h' hx => ?_
    exact hQ { s with heap := h' } ⟨fun a o ha z => hx a o (fun e => ha (e ▸ List.mem_cons_of_mem _ (List.mem_cons_self ..))) z, fun _ _ z => z, id, rfl⟩
  here := fun {X r h} ⟨⟨i, xs, h0, ⟨old, h1⟩, ⟨o, h2, _⟩, h3⟩, h4⟩ a ha => (List.mem_cons.mp ha).elim (fun e => e ▸ ⟨_, h1⟩) fun ha => (List.mem_singleton.mp ha) ▸ ⟨o, h2⟩
  self := fun {X r s E Q} ⟨⟨i, xs, h0, ⟨old, h1⟩, h2, h3⟩, h4⟩ hQ => wpAny_pyIter_enum h1 hQ
end Mine
end
section
open PySem PySem.W PyProof.Rows PySem.SeqAt
namespace Mine
variable {prog : Program} {w : World} {h₀ : Heap} {C : Cx} {K : Nat} {Γ : Gm} {L : Lay} {env : Env} {σ : Sg} {s : Shared} {A : Around} {E : Value → Shared → Prop}
theorem Rel.turned {T : List Addr} {s s' : Shared} (R : Rel prog w h₀ L σ s.heap) (st : Stp T s s') (hT : ∀ a, a ∈ T → a ∈ L.its ∧ ∃ o, s'.heap.get? a = some o) : Rel prog w h₀ L σ s'.heap :=
  R.step st.heap (fun a m => (hT a m).1) (fun a _ m => (hT a m).2) fun a m => .inl m
theorem Kp.stp' {s₁ s s' : Shared} {T : List Addr} (k : Kp s₁ s) (x : Stp T s s') (hf : ∀ a, a ∈ T → s₁.heap.get? a = none) : Kp s₁ s' :=
  ⟨fun a o e => x.heap a o (fun hm => nomatch (hf a hm).symm.trans e) (k.heap a o e), fun i g e => x.gens i g (k.gens i g e), fun h => x.drawn (k.drawn h), x.os.trans k.os⟩
theorem Kp.none {s s' : Shared} (k : Kp s s') {a : Addr} (h : s'.heap.get? a = none) : s.heap.get? a = none := by
  cases e : s.heap.get? a with
  | none => rfl
  | some o => exact nomatch h.symm.trans (k.heap a o e)
/-- an iterator stands, laid anew since s -/
structure ItAt (prog : Program) (w : World) (A : Around) (L : Lay) (deep tup : Bool) (xs : List V) (s s' : Shared) (I : Addr) (wr src : List Addr) (St : List Addr → List V → Heap → Prop) : Prop where
  it : Iter prog w A I wr src tup St
  kp : Kp s s'
  fresh : ∀ a, a ∈ wr → s.heap.get? a = none
  src : ∀ a, a ∈ src → a ∈ wr ∨ (∃ o, s.heap.get? a = some o) ∧ (deep = true → a ∉ L.X)
  st : St (L.X ++ wr) xs s'.heap
noncomputable def isSet : Expr → Bool
  | .Set _ _ _ => true
  | _ => false
theorem not_set {e : Expr} (h : isSet e = false) (env : Env) (x : Value) : foldedSetIterable e env x = pure x := by
  cases e <;> first | rfl | exact nomatch h
/-- what a loop goes over -/
noncomputable def IterOK (C : Cx) (Γ : Gm) (σ : Sg) (e : Expr) (deep tup : Bool) (xs : List V) : Prop := (∀ env x, foldedSetIterable e env x = pure x) ∧
  ∀ {prog : Program} {w : World} {h₀ : Heap} {K : Nat} {L : Lay} {env : Env} {A : Around} {s : Shared} {E Q : Value → Shared → Prop}, Fx prog w h₀ C K Γ L.own env A → Rel prog w h₀ L σ s.heap →
    (∀ I wr src St s₁ s', Kp s s₁ → Rel prog w h₀ L σ s₁.heap → ItAt prog w A L deep tup xs s₁ s' I wr src St → Q (.ref I) s') → wpAny (model prog w) A (eval e env) (fun xv s₁ => wpAny (model prog w) A (pyIter xv) Q E s₁) E s
theorem vis_more {s s' : Shared} (k : Kp s s') {X wr : List Addr} (hf : ∀ a, a ∈ wr → s.heap.get? a = none) : Sub (vis s.heap X) (vis s'.heap (X ++ wr)) :=
  vis_step (fun a o _ e => k.heap a o e) fun a m => (List.mem_append.mp m).imp_right (hf a)
theorem one_fresh {s : Shared} : ∀ a, a ∈ [s.heap.objs.size] → s.heap.get? a = none := fun a h => (List.mem_singleton.mp h) ▸ fresh_size s
theorem over_list (hh : A.handled = none) {deep tup : Bool} {xs : List V} {a : Addr} {us : Array Value} (hl : s.heap.PlainList a us) (hr : Reps prog w (vis s.heap L.X) us.toList xs) (hd : deep = true → a ∉ L.X)
    {Q : Value → Shared → Prop} (hQ : ∀ I wr src St s', ItAt prog w A L deep tup xs s s' I wr src St → Q (.ref I) s') : wpAny (model prog w) A (pyIter (.ref a)) Q E s := by
  obtain ⟨n, ho⟩ := id hl
  have kp : Kp s { s with heap := s.heap.push { cls := .type "list_iterator", data := .fields #[.ref a, .int 0 0] } } := Kp.push s _
  exact wpAny_pyIter_list hl.isList (hQ _ [s.heap.objs.size] [s.heap.objs.size, a] _ _ ⟨Iter.list hh (Nat.ne_of_lt (Heap.lt_size ho)) us xs hr.length tup, kp, one_fresh,
    fun b hb => (List.mem_cons.mp hb).elim (fun e => .inl (e ▸ List.mem_cons_self ..)) fun hb => .inr ((List.mem_singleton.mp hb) ▸ ⟨⟨_, ho⟩, hd⟩),
    ⟨⟨0, Nat.zero_le _, rfl, ⟨_, Heap.get?_push_size _ rfl, rfl, rfl⟩, hl.isList.push _⟩, hr.mono (vis_more kp one_fresh)⟩⟩)
theorem it_lst {e : Expr} {deep tup : Bool} {xs : List V} (hs : isSet e = false) (h : EvOK C Γ σ e (.v (.lst xs))) : IterOK C Γ σ e deep tup xs := ⟨not_set hs, fun X R hQ => h X R fun v s₁ k₁ r => by
  obtain ⟨a, n, vs, rfl, hg, hz, hr⟩ := r
  exact over_list X.room.handled ⟨n, vis_get hg⟩ hr (fun _ => (vis_some.mp hg).1) fun I wr src St s' x => hQ I wr src St s₁ s' k₁ (R.keep k₁) x⟩
theorem it_loc {e : Expr} {d : D} {tup : Bool} {xs : List V} (hs : isSet e = false) (h : EvOK C Γ σ e d) (hl : LstOK σ d xs) : IterOK C Γ σ e false tup xs := ⟨not_set hs, fun X R hQ => h X R fun v s₁ k₁ r => by
  cases hl (R.keep k₁) r with | mk a us hp hz hr =>
  exact over_list X.room.handled hp hr (deep := false) (fun h => nomatch h) fun I wr src St s' x => hQ I wr src St s₁ s' k₁ (R.keep k₁) x⟩
/-! ranges -/
theorem rangeN_size {a b c : Int} (hc : 0 < c) : Builtin.Range.rangeSize a b c = (rangeN a b c : Int) := by
  unfold Builtin.Range.rangeSize rangeN
  rw [if_pos hc]
  have key : (b - a + c - 1) / c = (b - a - 1) / c + 1 := by rw [show b - a + c - 1 = (b - a - 1) + 1 * c by omega, Int.add_mul_ediv_right _ _ (Int.ne_of_gt hc)]
  rw [key]
  split
  · have : 0 ≤ (b - a - 1) / c := Int.ediv_nonneg (by omega) (by omega)
    omega
  · have : (b - a - 1) / c < 0 := Int.ediv_neg_of_neg_of_pos (by omega) hc
    omega
theorem rangeN_small {a b c : Int} (h : rangeOk a b c = true) : 0 < c ∧ Builtin.Range.small a b c = true ∧ rangeN a b c ≤ 3000000 := by
  obtain ⟨h, h4⟩ := Bool.and_eq_true_iff.mp h
  obtain ⟨h, h3⟩ := Bool.and_eq_true_iff.mp h
  obtain ⟨h1, h2⟩ := Bool.and_eq_true_iff.mp h
  have hc := of_decide_eq_true h1
  have ha : a.natAbs < 1000000 := of_decide_eq_true h2
  have hb : b.natAbs < 1000000 := of_decide_eq_true h3
  have hc' : c.natAbs < 1000000 := of_decide_eq_true h4
  have hn : rangeN a b c ≤ 3000000 := by
    unfold rangeN
    have : (b - a + c - 1) / c ≤ (b - a + c - 1).natAbs := Int.le_trans (Int.le_natAbs (a := (b - a + c - 1) / c)) (Int.ofNat_le.mpr (Int.natAbs_ediv_le_natAbs _ _))
    omega
  refine ⟨hc, ?_, hn⟩
  unfold Builtin.Range.small
  rw [rangeN_size hc]
  generalize rangeN a b c = n at hn
  simp only [Builtin.Range.rangeFitsLong, Bool.and_eq_true, Bool.or_eq_true, decide_eq_true_eq, gt_iff_lt, if_pos hc]
  refine ⟨⟨⟨⟨?_, ?_⟩, ?_⟩, ?_⟩, .inr ?_⟩ <;> constructor <;> omega
/-- the ends of a range -/
noncomputable def RngOK (ds : List D) (a b c : Int) : Prop := ∀ {prog : Program} {w : World} {g : G} {φ : List Addr} {A : Around} {s : Shared} {E Q : Value → Shared → Prop} {vals : List Value}, RepDs prog w g φ vals ds → 0 < c → c < 1000000 →
  (∀ s' t u v, Kp s s' → IsRange s'.heap s.heap.objs.size a b c t u v → Q (.ref s.heap.objs.size) s') → wpAny (model prog w) A (call (.type "range") vals) Q E s
theorem kp_push {s : Shared} (o : Obj) (n : Nat) : Kp s { s with heap := s.heap.push o, toks := n } := .of fun _ _ e => Heap.get?_push_of_some _ e
theorem rng1 (b : Int) : RngOK [.v (.int b)] 0 b 1 := fun rs _ _ hQ => by
  cases rs with | cons h1 h2 =>
  cases h2
  obtain ⟨t, rfl⟩ := h1
  exact call_range_1 (hQ _ _ _ _ (kp_push _ _) (Heap.get?_push_size _ rfl))
theorem rng2 (a b : Int) : RngOK [.v (.int a), .v (.int b)] a b 1 := fun rs _ _ hQ => by
  cases rs with | cons h1 h2 => cases h2 with | cons h2 h3 =>
  cases h3
  obtain ⟨t, rfl⟩ := h1
  obtain ⟨u, rfl⟩ := h2
  exact call_range_2 (hQ _ _ _ _ (kp_push _ _) (Heap.get?_push_size _ rfl))
theorem rng3 (a b c : Int) : RngOK [.v (.int a), .v (.int b), .v (.int c)] a b c := fun rs hc hc' hQ => by
  cases rs with | cons h1 h2 => cases h2 with | cons h2 h3 => cases h3 with | cons h3 h4 =>
  cases h4
  obtain ⟨t, rfl⟩ := h1
  obtain ⟨u, rfl⟩ := h2
  obtain ⟨v, rfl⟩ := h3
  exact call_range_3 (Int.ne_of_gt hc) (hQ _ _ _ _ (kp_push _ _) (Heap.get?_push_size _ rfl)) (.inl (PyProof.noPylong_small (by omega)))
noncomputable def rngC (ds : List D) : Option {r : Int × Int × Int // RngOK ds r.1 r.2.1 r.2.2} := match ds with
  | [.v (.int b)] => some ⟨(0, b, 1), rng1 b⟩
  | [.v (.int a), .v (.int b)] => some ⟨(a, b, 1), rng2 a b⟩
  | [.v (.int a), .v (.int b), .v (.int c)] => some ⟨(a, b, c), rng3 a b c⟩
  | _ => none
theorem isbi_as {f y : Str} {bv bv' : Value} (h : IsBi C Γ f bv) (e : f = y) (hl : biTab.lookup y = some bv') : IsBi C Γ f bv' := ⟨h.1, h.2.1, h.2.2.1, e ▸ hl⟩
theorem range_call {f : Str} {p pos : Pos} {es : List Expr} {ds : List D} {a b c : Int} (hb : IsBi C Γ f (.type "range")) (h : ArgsOK C Γ σ es ds) (hr : RngOK ds a b c) (ho : rangeOk a b c = true) (X : Fx prog w h₀ C K Γ L.own env A) (R : Rel prog w h₀ L σ s.heap)
    {Q : Value → Shared → Prop} (hQ : ∀ q s' t u v, Kp s s' → s.heap.get? q = none → IsRange s'.heap q a b c t u v → Q (.ref q) s') : wpAny (model prog w) A (eval (.Call (.Name f p) es [] pos) env) Q E s :=
  bi_call hb h X R fun vals s₁ k₁ rs => hr rs (rangeN_small ho).1 (by have := Bool.and_eq_true_iff.mp ho; have := of_decide_eq_true this.2; unfold lim at this; omega) fun s' t u v k h => hQ _ s' t u v (k₁.trans k) (k₁.none (fresh_size s₁)) h
theorem it_range {f : Str} {p pos : Pos} {es : List Expr} {ds : List D} {a b c : Int} {deep : Bool} (hb : IsBi C Γ f (.type "range")) (h : ArgsOK C Γ σ es ds) (hr : RngOK ds a b c) (ho : rangeOk a b c = true) : IterOK C Γ σ (.Call (.Name f p) es [] pos) deep false (rangeV a c (rangeN a b c)) := ⟨fun _ _ => rfl, fun X R hQ =>
  range_call hb h hr ho X R fun q s₁ t u v k₁ _ hrg => by
    obtain ⟨hc, hsm, hnn⟩ := rangeN_small ho
    refine wpAny_pyIter_range hrg hsm (hQ _ [s₁.heap.objs.size] [s₁.heap.objs.size] _ s₁ _ k₁ (R.keep k₁) ⟨Iter.range X.room.handled a c _, Kp.push s₁ _, one_fresh, fun b hb => .inl hb, ⟨0, Nat.zero_le _, rfl, ?_⟩, trivial⟩)
    have := Heap.get?_push_size s₁.heap (o := { cls := .type "range_iterator", data := .fields #[rawInt a, rawInt (Builtin.Range.rangeSize a b c), rawInt c] }) rfl
    rw [rangeN_size hc] at this ⊢
    rw [show a + ((0 : Nat) : Int) * c = a by rw [Int.ofNat_zero, Int.zero_mul, Int.add_zero], show ((rangeN a b c : Nat) : Int) - ((0 : Nat) : Int) = (rangeN a b c : Nat) from Int.sub_zero _]
    exact this⟩
theorem it_enum {f : Str} {p pos : Pos} {es : List Expr} {d : D} {xs : List V} {deep : Bool} (hb : IsBi C Γ f (.type "enumerate")) (h : ArgsOK C Γ σ es [d]) (hl : LstOK σ d xs) (hd : deep = true → d = .v (.lst xs)) : IterOK C Γ σ (.Call (.Name f p) es [] pos) deep true (enumL xs 0) := ⟨fun _ _ => rfl, fun {prog w h₀ K L env A s E Q} X R hQ =>
  bi_call hb h X R fun vals s₁ k₁ rs => by
    have R₁ := R.keep k₁
    cases rs with | cons h1 h2 =>
    cases h2
    have hX : deep = true → ∀ a, _ = Value.ref a → a ∉ L.X := fun e a q => by
      rw [hd e] at h1
      obtain ⟨a', _, _, e', hg, _⟩ := h1
      cases q.symm.trans e'
      exact (vis_some.mp hg).1
    cases hl R₁ h1 with | mk a us hp hz hr =>
    obtain ⟨m, hp⟩ := hp
    have hlt : a < s₁.heap.objs.size := Heap.lt_size hp
    refine call_enumerate_1 hp fun h' hen' hli hsz hk' => wpAny_pyIter_enum hen' ?_
    have kp : Kp s₁ { s₁ with heap := h' } := ⟨hk', fun _ _ e => e, id, rfl⟩
    have fr : ∀ b, b ∈ [s₁.heap.objs.size + 1, s₁.heap.objs.size] → s₁.heap.get? b = none := fun b hb => fresh_none (Kp.refl s₁) ((List.mem_cons.mp hb).elim (fun e => e ▸ Nat.le_succ _) fun hb => Nat.le_of_eq (List.mem_singleton.mp hb).symm)
    exact hQ _ [s₁.heap.objs.size + 1, s₁.heap.objs.size] [a] _ s₁ _ k₁ R₁ ⟨Iter.enum X.room.handled (Nat.succ_ne_self _) (Nat.ne_of_lt (Nat.lt_succ_of_lt hlt)) (Nat.ne_of_lt hlt) us, kp, fr, fun b hb => .inr ((List.mem_singleton.mp hb) ▸ ⟨⟨_, hp⟩, fun e => hX e a rfl⟩),
      ⟨0, xs, rfl, ⟨_, hen'⟩, hli, hr.mono (vis_more kp fr)⟩, ⟨_, hk' _ _ hp, rfl, _, rfl⟩⟩⟩
end Mine
end
section
open PySem PySem.W PyProof.Rows PySem.SeqAt
namespace Mine
variable {prog : Program} {w : World} {h₀ : Heap} {C : Cx} {K : Nat} {Γ : Gm} {L : Lay} {env : Env} {σ : Sg} {s : Shared} {A : Around} {E : Value → Shared → Prop}
/-! closures and cells -/
noncomputable def closeL (env : Env) : List (Str × NameKind) → List (Str × Addr) → Option (List (Str × Addr))
  | [], acc => some acc
  | (n, k) :: r, acc => if k == .free then (env.cells.lookup n).bind fun a => closeL env r ((n, a) :: acc) else closeL env r acc
theorem closure_loop (f : Str × NameKind → List (Str × Addr) → Sem (ForInStep (List (Str × Addr))))
    (hf : ∀ n k cs, f (n, k) cs = if k == .free then (do let a ← cellOf env n; pure (.yield ((n, a) :: cs))) else pure (.yield cs)) : ∀ {names : List (Str × NameKind)} {acc cl : List (Str × Addr)}, closeL env names acc = some cl → (forIn names acc f : Sem _) = pure cl
  | [], acc, cl, h => by rw [List.forIn_nil, Option.some.inj h]
  | (n, k) :: r, acc, cl, h => by
    rw [List.forIn_cons, hf]
    unfold closeL at h
    cases hk : k == NameKind.free with
    | true =>
      rw [hk, if_pos rfl] at h
      obtain ⟨a, hc, h⟩ := Option.bind_eq_some_iff.mp h
      rw [if_pos rfl, show cellOf env n = pure a by unfold cellOf; rw [hc], pure_bind, pure_bind]
      exact closure_loop f hf h
    | false =>
      rw [hk, if_neg Bool.false_ne_true] at h
      rw [if_neg Bool.false_ne_true, pure_bind]
      exact closure_loop f hf h
theorem closureFor_of {sc : Scope} {cl : List (Str × Addr)} (h : closeL env sc.names [] = some cl) : closureFor sc env = pure cl := by
  unfold closureFor
  dsimp only
  have := closure_loop (env := env) (fun (x : Str × NameKind) (cs : List (Str × Addr)) => if (x.2 == NameKind.free) = true then (do let a ← cellOf env x.1; pure (ForInStep.yield ((x.1, a) :: cs))) else pure (ForInStep.yield cs)) (fun _ _ _ => rfl) h
  exact (congrArg (· >>= fun cs => pure cs) this).trans (pure_bind _ _)
/-- the two tables tell the same -/
noncomputable def CRel (φ : List Addr) (fr : List (Str × Nat)) (cl : List (Str × Addr)) : Prop := ∀ x c, fr.lookup x = some c → ∃ a, φ[c]? = some a ∧ cl.lookup x = some a
theorem CRel.cons {φ : List Addr} {fr : List (Str × Nat)} {cl : List (Str × Addr)} (h : CRel φ fr cl) {n : Str} {c : Nat} {a : Addr} (hc : φ[c]? = some a) : CRel φ ((n, c) :: fr) ((n, a) :: cl) := fun x c' hx => by
  rw [List.lookup_cons] at hx ⊢
  cases hb : x == n with
  | true => rw [hb] at hx; cases hx; exact ⟨a, hc, rfl⟩
  | false => rw [hb] at hx; exact h x c' hx
theorem frees_close {φ : List Addr} (ER : EnvR Γ φ env) : ∀ {names : List (Str × NameKind)} {acc fr : List (Str × Nat)} {acl : List (Str × Addr)}, freesOf Γ names acc = some fr → CRel φ acc acl → ∃ cl, closeL env names acl = some cl ∧ CRel φ fr cl
  | [], acc, fr, acl, h, r => ⟨acl, rfl, Option.some.inj h ▸ r⟩
  | (n, k) :: rest, acc, fr, acl, h, r => by
    unfold freesOf at h
    unfold closeL
    cases hk : k == NameKind.free with
    | true =>
      rw [hk, if_pos rfl] at h
      obtain ⟨c, hc, h⟩ := Option.bind_eq_some_iff.mp h
      obtain ⟨a, ha, hl⟩ := ER.cells _ _ hc
      rw [if_pos rfl, hl]
      exact frees_close ER h (r.cons ha)
    | false =>
      rw [hk, if_neg Bool.false_ne_true] at h
      rw [if_neg Bool.false_ne_true]
      exact frees_close ER h r
theorem own_cells {φ : List Addr} : ∀ {names : List (Str × NameKind)} {acc : List (Str × Nat)} {acl : List (Str × Addr)} {i n : Nat}, CRel φ acc acl → (∀ j, j < cellCount names → φ[i + j]? = some (n + j)) → CRel φ (ownCells names i acc) (cellsFrom n names acl)
  | [], _, _, _, _, r, _ => r
  | (m, k) :: rest, acc, acl, i, n, r, h => by
    unfold ownCells cellsFrom
    unfold cellCount at h
    rw [List.filter_cons] at h
    cases hk : k == NameKind.cell with
    | true =>
      rw [hk, if_pos rfl] at h
      rw [if_pos rfl, if_pos rfl]
      exact own_cells (r.cons (h 0 (Nat.succ_pos _))) fun j hj => by
        have := h (j + 1) (Nat.succ_lt_succ hj)
        rw [← Nat.add_assoc, ← Nat.add_assoc, Nat.add_right_comm, Nat.add_right_comm n] at this
        exact this
    | false =>
      rw [hk, if_neg Bool.false_ne_true] at h
      rw [if_neg Bool.false_ne_true, if_neg Bool.false_ne_true]
      exact own_cells r h
theorem pushCells_at : ∀ (names : List (Str × NameKind)) (h : Heap) (j : Nat), j < cellCount names → (pushCells h names).IsCell (h.objs.size + j) none
  | [], h, j, hj => nomatch hj
  | (m, k) :: rest, h, j, hj => by
    unfold pushCells
    unfold cellCount at hj
    rw [List.filter_cons] at hj
    cases hk : k == NameKind.cell with
    | true =>
      rw [hk, if_pos rfl] at hj
      rw [if_pos rfl]
      cases j with
      | zero => exact ⟨_, pushCells_keeps rest _ _ _ (Heap.get?_push_size _ rfl), rfl⟩
      | succ j =>
        have := pushCells_at rest (h.push { cls := .type "cell", data := .cell none }) j (Nat.lt_of_succ_lt_succ hj)
        rw [Heap.size_push, Nat.add_right_comm] at this
        exact this
    | false =>
      rw [hk, if_neg Bool.false_ne_true] at hj
      rw [if_neg Bool.false_ne_true]
      exact pushCells_at rest h j hj
theorem newEnvC {M : Model} {sc : Scope} {globals : Addr} {cl : List (Str × Addr)} {qual : Str} {Q : Env → Shared → Prop}
    (hQ : ∀ env', env'.locals = s.heap.objs.size → env'.globals = globals → env'.cells = cellsFrom (s.heap.objs.size + 1) sc.names cl → env'.builtins = env.builtins →
      Q env' { s with heap := pushCells (s.heap.push { cls := .type "dict", data := .dict #[] }) sc.names }) :
    wpAny M A (newFunctionEnv sc globals cl [] qual none .none (some env)) Q E s := by
  simp only [newFunctionEnv, Option.isSome_some, if_true]
  refine wpAny_bind (wpAny_alloc ?_)
  refine wpAny_bind (wpAny_layCells _ (fun name kind cells => by cases hkc : kind == NameKind.cell <;> simp [hkc]) _ _ _ _ ?_)
  rw [show ({ s with heap := s.heap.push { cls := .type "dict", data := .dict #[] } } : Shared).heap.objs.size = s.heap.objs.size + 1 from Heap.size_push ..]
  refine wpAny_bind ?_
  rw [List.forIn_nil]
  exact wpAny_pure (wpAny_pure (hQ _ rfl rfl rfl rfl))
/-- a block's things, laid from n on -/
noncomputable abbrev laid (n : Nat) (ns : List (Str × NameKind)) : List Addr := n :: (List.range (cellCount ns)).map (n + 1 + ·)
theorem laid_le {n : Nat} {ns : List (Str × NameKind)} {a : Addr} (h : a ∈ laid n ns) : n ≤ a := (List.mem_cons.mp h).elim (fun e => Nat.le_of_eq e.symm) fun h => let ⟨j, _, e⟩ := List.mem_map.mp h; e ▸ Nat.le_trans (Nat.le_succ _) (Nat.le_add_right _ _)
theorem laid_nodup (n : Nat) (ns : List (Str × NameKind)) : (laid n ns).Nodup := List.nodup_cons.mpr ⟨fun h => let ⟨j, _, e⟩ := List.mem_map.mp h; absurd (show n + 1 + j = n from e) (by omega), List.Pairwise.map _ (fun a b h e => h (Nat.add_left_cancel e)) List.nodup_range⟩
theorem laid_at {g : G} {φ : List Addr} {h : Heap} {n : Nat} {ns : List (Str × NameKind)} (h1 : h.Ns n fun _ => none) (h2 : ∀ j, j < cellCount ns → h.IsCell (n + 1 + j) none) : All2 (ThAt prog w g φ h) (laid n ns) (opened ns) := by
  refine .cons ⟨_, h1, fun _ _ e => nomatch e⟩ ?_
  have key : ∀ (l : List Nat), (∀ j, j ∈ l → j < cellCount ns) → All2 (ThAt prog w g φ h) (l.map (n + 1 + ·)) (List.replicate l.length (.ce none)) := fun l => by
    induction l with
    | nil => exact fun _ => .nil
    | cons j l ih => exact fun hl => .cons ⟨none, h2 j (hl j (List.mem_cons_self ..)), fun _ e => nomatch e⟩ (ih fun i hi => hl i (List.mem_cons_of_mem _ hi))
  have := key (List.range (cellCount ns)) fun j hj => List.mem_range.mp hj
  rw [List.length_range] at this
  exact this
/-- the environment of a block laid anew -/
theorem laid_env {sc' : Scope} {b n : Nat} {ns : List (Str × NameKind)} {φ : List Addr} {fr : List (Str × Nat)} {cl : List (Str × Addr)} {env' : Env} (hb : φ.length = b) (hcr : CRel φ fr cl) (e1 : env'.locals = n) (e2 : env'.globals = mainGlobals) (e3 : env'.cells = cellsFrom (n + 1) ns cl) (e4 : env'.builtins = builtinsNs)
    (hk : sc'.kind = .function) (hs : env'.scope = sc') : EnvR { scope := sc', fid := b, cl := ownCells ns (b + 1) fr } (φ ++ laid n ns) env' := by
  subst hb
  refine ⟨hs, hk, ?_, e2, fun x c hx => ?_, e4⟩
  · rw [List.getElem?_append_right (Nat.le_refl _), Nat.sub_self, e1]; rfl
  · rw [e3]
    refine own_cells (fun x c hx => (hcr x c hx).imp fun a r => ⟨Pre.append _ _ _ _ r.1, r.2⟩) (fun j hj => ?_) x c hx
    rw [List.getElem?_append_right (by omega), show φ.length + 1 + j - φ.length = j + 1 by omega, List.getElem?_cons_succ, List.getElem?_map, List.getElem?_range hj]; rfl
theorem relabel_eq {sc : Scope} {φ : List Addr} (er : EnvR Γ φ env) : relabel sc env = rescope sc Γ.scope := by
  unfold relabel rescope
  congr 1
  refine List.map_congr_left fun x _ => ?_
  obtain ⟨n, k⟩ := x
  have e1 : env.scope.kind = Γ.scope.kind := congrArg Scope.kind er.scope
  have e2 : env.kindOf n = Γ.scope.names.lookup n := er.kindOf n
  simp only [e1, e2]
/-! the loop of a comprehension -/
noncomputable abbrev testsOf (ifs : List Expr) (env : Env) : Sem Bool := forIn ifs true fun c r => if r = true then do let ok ← isTrue c env (eval c env); pure (ForInStep.yield ok) else pure (ForInStep.yield r)
theorem compLoop_let {R : Result → Shared → Prop} {elt target iter : Expr} {ifs : List Expr} {scope : Scope} {pos : Pos} {it acc : Value} {env : Env} (I : Nat → Shared → Prop)
    (turn : ∀ n s E, I n s → wpAny (model prog w) A (pyNext it) (fun r s₁ => match r with
      | none => R (.ok .next) s₁
      | some v => wpAny (model prog w) A (letOwnedTupleGo target it v) (fun _ s₁ => wpAny (model prog w) A (assign target env v) (fun _ s₂ =>
          wpAny (model prog w) A (testsOf ifs env) (fun ok s₃ =>
            if ok = true then wpAny (model prog w) A (eval elt env) (fun x s₄ =>
              wpAny (model prog w) A (call (.builtin "list.append") [acc, x]) (fun _ s₅ => ∃ m, m < n ∧ I m s₅) E s₄) E s₃
            else ∃ m, m < n ∧ I m s₃) E s₂) E s₁) E s₁) E s)
    (n : Nat) (h : I n s) :
    codeAny (model prog w) A (.compLoop (.ListComp elt [⟨target, iter, ifs, 0⟩] scope pos) 0 it acc env) R s := by
  refine codeAny_loop rfl I (fun n s hI => ?_) n h
  show wpAny _ A ((compTurn (.ListComp elt [⟨target, iter, ifs, 0⟩] scope pos) 0 it acc env).onRaise (fun x => do noteFrame x env; theTreesLotGoes x)) _ _ s
  refine wpAny_noted ?_
  rw [compTurn_list]
  refine wpAny_bind (wpAny_standAt (wpAny_bind (wpAny_mono (turn n s _ hI) (fun r s₁ h₁ => ?_) fun _ _ h' => h')))
  cases r with
  | none => exact wpAny_pure h₁
  | some v =>
    refine wpAny_bind (wpAny_mono h₁ (fun _ s₁ h₁ => ?_) fun _ _ h' => h')
    refine wpAny_bind (wpAny_mono h₁ (fun _ s₂ h₂ => wpAny_bind (wpAny_mono h₂ (fun ok s₃ h₃ => ?_) fun _ _ h' => h')) fun _ _ h' => h')
    cases ok with
    | false => exact wpAny_pure ⟨rfl, h₃⟩
    | true =>
      exact wpAny_bind (wpAny_bind (wpAny_mono h₃ (fun x s₄ h₄ => wpAny_bind (wpAny_mono h₄ (fun _ s₅ h₅ => wpAny_pure (wpAny_pure ⟨rfl, h₅⟩)) fun _ _ h' => h')) fun _ _ h' => h'))
noncomputable def IfsOK (C : Cx) (Γ : Gm) (σ : Sg) (ifs : List Expr) (b : Bool) : Prop :=
  ∀ {prog : Program} {w : World} {h₀ : Heap} {K : Nat} {L : Lay} {env : Env} {A : Around} {s : Shared} {E : Value → Shared → Prop} {Q : Bool → Shared → Prop}, Fx prog w h₀ C K Γ L.own env A → Rel prog w h₀ L σ s.heap →
    (∀ s', Kp s s' → Q b s') → wpAny (model prog w) A (testsOf ifs env) Q E s
theorem ifs_nil : IfsOK C Γ σ [] true := fun _ _ hQ => wpAny_tests_nil (hQ _ (Kp.refl _))
theorem ifs_one {c : Expr} {b : Bool} (h : BOK C Γ σ c b) : IfsOK C Γ σ [c] b := fun X R hQ => wpAny_tests_one (h X R hQ)
/-- the turns of a comprehension, from the block's state on -/
inductive TurnsR (C : Cx) (Γ : Gm) (b : Nat) (t : Expr) (ifs : List Expr) (elt : Expr) : Sg → List V → List V → Prop
  | nil {σ : Sg} {m : List (Str × D)} (h : σ[b]? = some (.fr m)) : TurnsR C Γ b t ifs elt σ [] []
  | yes {σ σ₁ : Sg} {x y : V} {xs ys : List V} (h : AsgOK Γ b σ t x σ₁) (h1 : IfsOK C Γ σ₁ ifs true) (h2 : EvOK C Γ σ₁ elt (.v y)) (k : TurnsR C Γ b t ifs elt σ₁ xs ys) : TurnsR C Γ b t ifs elt σ (x :: xs) (y :: ys)
  | no {σ σ₁ : Sg} {x : V} {xs ys : List V} (h : AsgOK Γ b σ t x σ₁) (h1 : IfsOK C Γ σ₁ ifs false) (k : TurnsR C Γ b t ifs elt σ₁ xs ys) : TurnsR C Γ b t ifs elt σ (x :: xs) ys
/-- where the loop of a comprehension stands -/
structure CInv (prog : Program) (w : World) (h₀ : Heap) (C : Cx) (Γ' : Gm) (b : Nat) (t : Expr) (ifs : List Expr) (elt : Expr) (St : List Addr → List V → Heap → Prop) (L' : Lay) (Da : Addr) (s₁ : Shared) (ys : List V) (N m : Nat) (s' : Shared) (σc : Sg) (rest acc ys' : List V) (us : Array Value) : Prop where
  turns : TurnsR C Γ' b t ifs elt σc rest ys'
  all : ys = acc ++ ys'
  kp : Kp s₁ s'
  rel : Rel prog w h₀ L' σc s'.heap
  st : St L'.X rest s'.heap
  ls : s'.heap.PlainList Da us
  size : us.size + rest.length ≤ N
  reps : Reps prog w (vis s'.heap L'.X) us.toList acc
  left : m = rest.length + 1
theorem comp_core {elt it t : Expr} {ifs : List Expr} {sc : Scope} {pos : Pos} {xs ys : List V} {tup deep : Bool} (X : Fx prog w h₀ C K Γ L.own env A) {fr : List (Str × Nat)} (hc : compOk sc = true) (hn : xs.length < lim) (htu : isTup t = tup)
    (hT : TurnsR C (compGm Γ σ.length sc fr) σ.length t ifs elt (σ ++ opened sc.names) xs ys) {s₁ s₂ : Shared} (R₁ : Rel prog w h₀ L σ s₁.heap) {I : Addr} {wr src : List Addr} {St : List Addr → List V → Heap → Prop}
    (ia : ItAt prog w A L deep tup xs s₁ s₂ I wr src St) {cl : List (Str × Addr)} (hcr : CRel L.own fr cl) {RR : Value → Addr → Result → Shared → Prop}
    (hRR : ∀ D Cc s' m, s₁.heap.get? Cc = none → s'.heap.Ns Cc m → (∀ h', But Cc s'.heap h' → Kp s₁ { s' with heap := h' } ∧ FreshL prog w s₁ { s' with heap := h' } (Cc :: L.X) ys D) → RR D Cc (.ok .next) s') :
    wpAny (model prog w) A (newList []) (fun acc s₃ => wpAny (model prog w) A (newFunctionEnv sc env.globals cl [] env.qual none .none (some env)) (fun cenv s₄ =>
      codeAny (model prog w) A (.compStart (.ListComp elt [⟨t, it, ifs, 0⟩] sc pos) 0 (.ref I) acc { cenv with scope := relabel sc env }) (RR acc cenv.locals) s₄) E s₃) E s₂ := by
  have hsc : sc.kind = .function := of_decide_eq_true (Bool.and_eq_true_iff.mp hc).1
  have hlen := R₁.own.length
  refine wpAny_newObj_type (newEnvC fun env' e1 e2 e3 e4 => ?_)
  dsimp only at e1 e3 ⊢
  have hsz : (s₂.heap.push { cls := .type "list", data := .seq ([] : List Value).toArray }).objs.size = s₂.heap.objs.size + 1 := Heap.size_push ..
  rw [hsz] at e1 e3
  have hH1 := pushCells_keeps sc.names ((s₂.heap.push { cls := .type "list", data := .seq ([] : List Value).toArray }).push { cls := .type "dict", data := .dict #[] })
  have hcell := pushCells_at sc.names ((s₂.heap.push { cls := .type "list", data := .seq ([] : List Value).toArray }).push { cls := .type "dict", data := .dict #[] })
  rw [Heap.size_push, hsz] at hcell
  generalize pushCells ((s₂.heap.push { cls := .type "list", data := .seq ([] : List Value).toArray }).push { cls := .type "dict", data := .dict #[] }) sc.names = H at hH1 hcell ⊢
  have old : ∀ a o', s₂.heap.get? a = some o' → H.get? a = some o' := fun a o' e => hH1 a o' (Heap.get?_push_of_some _ (Heap.get?_push_of_some _ e))
  have hD : H.get? s₂.heap.objs.size = some { cls := .type "list", data := .seq ([] : List Value).toArray } := hH1 _ _ (Heap.get?_push_of_some _ (Heap.get?_push_size _ rfl))
  have hns : H.Ns (s₂.heap.objs.size + 1) (fun _ => none) := hsz ▸ (Heap.Ns.new (s₂.heap.push { cls := .type "list", data := .seq ([] : List Value).toArray }) (.type "dict")).keeps hH1
  generalize hDa : s₂.heap.objs.size = Da at *
  have fresh : ∀ a, Da ≤ a → s₁.heap.get? a = none := fun a h => fresh_none ia.kp (hDa ▸ h)
  have fDa := fresh Da (Nat.le_refl _)
  have fcs : ∀ a, a ∈ laid (Da + 1) sc.names → s₁.heap.get? a = none := fun a h => fresh a (Nat.le_of_succ_le (laid_le h))
  have wlt : ∀ a, a ∈ wr → a < Da := fun a ha => let ⟨_, e⟩ := ia.it.here ia.st a ha; hDa ▸ Heap.lt_size e
  have kpH : Kp s₁ { s₂ with heap := H } := ia.kp.trans ⟨old, fun _ _ e => e, id, rfl⟩
  -- apart
  have srcD : ∀ a, a ∈ wr ∨ a ∈ src → a < Da := fun a h => h.elim (wlt a) fun h => (ia.src a h).elim (wlt a) fun ⟨⟨o, e⟩, _⟩ => hDa ▸ Heap.lt_size (ia.kp.heap _ _ e)
  have hL : ∀ a, a ∈ L.its ++ (wr ++ [Da]) ↔ (a ∈ L.its ∨ a ∈ wr) ∨ a = Da := fun a => by rw [List.mem_append, List.mem_append, List.mem_singleton, or_assoc]
  have RO := R₁.push (its := L.its ++ (wr ++ [Da])) (as := laid (Da + 1) sc.names) (ths := opened sc.names) kpH fcs (laid_nodup _ _)
    (fun a h => ((hL a).mp h).elim (fun h => h.elim (fun h => ⟨⟨.inl h, (R₁.ext a (.inr h)).imp fun o e => kpH.heap a o e⟩, fun m => R₁.old (fcs a m) (X_its h)⟩) fun h => ⟨⟨.inr (ia.fresh a h), (ia.it.here ia.st a h).imp fun o e => old a o e⟩, fun m => Nat.lt_irrefl _ (Nat.lt_of_lt_of_le (wlt a h) (Nat.le_of_succ_le (laid_le m)))⟩)
      fun h => ⟨⟨.inr (h ▸ fDa), h ▸ ⟨_, hD⟩⟩, fun m => Nat.not_succ_le_self _ (h ▸ laid_le m)⟩)
    (laid_at hns hcell)
  have er : EnvR (compGm Γ σ.length sc fr) (L.own ++ laid (Da + 1) sc.names) { env' with scope := relabel sc env } := laid_env hlen hcr e1 (e2.trans X.er.globals) e3 (e4.trans X.er.builtins) hsc (relabel_eq X.er)
  generalize hLL : Lay.mk L.out (L.its ++ (wr ++ [Da])) (L.own ++ laid (Da + 1) sc.names) = L' at RO
  have eo : L'.own = L.own ++ laid (Da + 1) sc.names := hLL ▸ rfl
  have ei : ∀ a, a ∈ L'.its ↔ (a ∈ L.its ∨ a ∈ wr) ∨ a = Da := hLL ▸ hL
  have X' : Fx prog w h₀ C K (compGm Γ σ.length sc fr) L'.own { env' with scope := relabel sc env } A := ⟨X.top, X.fok, eo ▸ er, X.room⟩
  have hwI : ∀ a, a ∈ wr → a ∈ L'.its := fun a h => (ei a).mpr (.inl (.inr h))
  have hDI : Da ∈ L'.its := (ei Da).mpr (.inr rfl)
  have hsub : ∀ a, a ∈ Da :: (Da + 1) :: L.X → a ∈ L'.X := fun a h => (List.mem_cons.mp h).elim (fun e => X_its (e ▸ hDI)) fun h => (List.mem_cons.mp h).elim (fun e => X_own (eo ▸ List.mem_append_right _ (e ▸ List.mem_cons_self ..)))
    fun h => (mem_X.mp h).elim (fun h => h.elim (fun h => X_out (hLL ▸ h)) fun h => X_its ((ei a).mpr (.inl (.inl h)))) fun h => X_own (eo ▸ List.mem_append_left _ h)
  have edrop : L'.own.drop σ.length = laid (Da + 1) sc.names := by rw [eo, ← hlen]; exact List.drop_left
  have stH : St L'.X xs H := ia.it.frame ia.st (fun a _ o' e => old a o' e) (vis_step (fun a o' _ e => old a o' e) fun a h => by
    rcases mem_X.mp h with h | h
    · rcases h with h | h
      · exact .inl (List.mem_append_left _ (X_out (by rw [← hLL] at h; exact h)))
      · rcases (ei a).mp h with h | h
        · exact .inl (List.mem_append.mpr (h.imp X_its id))
        · exact .inr (h ▸ hDa ▸ fresh_size s₂)
    · rw [eo] at h
      rcases List.mem_append.mp h with h | h
      · exact .inl (List.mem_append_left _ (X_own h))
      · exact .inr (fresh_none (Kp.refl s₂) (hDa ▸ Nat.le_of_succ_le (laid_le h))))
  have keepSt : ∀ {s s' : Shared} {r}, St L'.X r s.heap → Kp s s' → St L'.X r s'.heap := fun st k => ia.it.frame st (fun a _ o e => k.heap a o e) (k.sub _)
  have loop : codeAny (model prog w) A (.compLoop (.ListComp elt [⟨t, it, ifs, 0⟩] sc pos) 0 (.ref I) (.ref Da) { env' with scope := relabel sc env }) (RR (.ref Da) env'.locals) { s₂ with heap := H } := by
    refine compLoop_let (fun m s' => ∃ σc rest acc ys' us, CInv prog w h₀ C (compGm Γ σ.length sc fr) σ.length t ifs elt St L' Da s₁ ys xs.length m s' σc rest acc ys' us) ?_ (xs.length + 1)
      ⟨_, xs, [], ys, #[], hT, rfl, kpH, RO, stH, ⟨0, hD⟩, Nat.le_of_eq (Nat.zero_add _), rfl, rfl⟩
    rintro m s' E' ⟨σc, rest, acc, ys', us, V⟩
    have hturn : ∀ {σ₁ x r}, AsgOK (compGm Γ σ.length sc fr) σ.length σc t x σ₁ → St L'.X (x :: r) s'.heap → ∀ {Q : Bool → Shared → Prop} {bb : Bool}, IfsOK C (compGm Γ σ.length sc fr) σ₁ ifs bb →
        (∀ s₃, Rel prog w h₀ L' σ₁ s₃.heap → St L'.X r s₃.heap → Kp s₁ s₃ → s₃.heap.PlainList Da us → Reps prog w (vis s₃.heap L'.X) us.toList acc → Q bb s₃) →
        wpAny (model prog w) A (pyNext (.ref I)) (fun r s₁ => match r with
          | none => RR (.ref Da) env'.locals (.ok .next) s₁
          | some v => wpAny (model prog w) A (letOwnedTupleGo t (.ref I) v) (fun _ s₁ => wpAny (model prog w) A (assign t { env' with scope := relabel sc env } v) (fun _ s₂ => wpAny (model prog w) A (testsOf ifs { env' with scope := relabel sc env }) Q E' s₂) E' s₁) E' s₁) E' s' := fun {σ₁ x r} ha st {Q bb} hi hQ => by
      refine wpAny_mono (ia.it.item st (fun a h => X_its (hwI a h)) V.rel.new htu ha.tgt fun v s₃ st₃ sp₃ rv => ?_) (fun r s₁ h => by obtain ⟨v, rfl, h⟩ := h; exact h) fun _ _ e => e
      have R₃ := V.rel.turned sp₃ fun a h => ⟨hwI a h, ia.it.here st₃ a h⟩
      refine ha.run X.room.handled X'.er R₃ rv fun s₄ sp₄ R₄ => ?_
      have sub₃ : Sub (vis s'.heap L'.X) (vis s₃.heap L'.X) := sp₃.sub fun a h => X_its (hwI a h)
      have sub₄ : Sub (vis s₃.heap L'.X) (vis s₄.heap L'.X) := sp₄.sub fun _ => drop_X
      have st₄ : St L'.X r s₄.heap := ia.it.frame st₃ (fun a h o e => sp₄.heap a o (fun m => Nat.lt_irrefl _ (Nat.lt_of_lt_of_le (srcD a h) (Nat.le_of_succ_le (laid_le (edrop ▸ m))))) e) sub₄
      have k₄ : Kp s₁ s₄ := (V.kp.stp' sp₃ ia.fresh).stp' sp₄ fun a m => fcs a (edrop ▸ m)
      have l₄ : s₄.heap.PlainList Da us := V.ls.at fun o e => sp₄.heap _ o (fun m => Nat.not_succ_le_self _ (laid_le (edrop ▸ m))) (sp₃.heap _ o (fun m => Nat.lt_irrefl _ (wlt _ m)) e)
      have r₄ := V.reps.mono (sub₃.trans sub₄)
      exact hi X' R₄ fun s₅ k₅ => hQ s₅ (R₄.keep k₅) (keepSt st₄ k₅) (k₄.trans k₅) (l₄.at fun o e => k₅.heap _ o e) (r₄.mono (k₅.sub _))
    obtain ⟨turns, all, kp, rel, st, ls, size, reps, rfl⟩ := V
    cases turns with
    | nil hb =>
      refine ia.it.done st fun s₃ sp => ?_
      obtain ⟨ca, hca, f, hcn, _⟩ := rel.own.get hb
      have hca : ca = Da + 1 := by
        rw [eo, ← hlen, List.getElem?_append_right (Nat.le_refl _), Nat.sub_self] at hca
        exact (Option.some.inj hca).symm
      subst hca
      have k₃ := kp.stp' sp ia.fresh
      rw [List.append_nil] at all
      subst all
      rw [e1]
      refine hRR (.ref Da) (Da + 1) s₃ f (fresh _ (Nat.le_succ _)) (hcn.at' fun o e => sp.heap _ o (fun h => Nat.lt_irrefl _ (Nat.lt_trans (wlt _ h) (Nat.lt_succ_self _))) e) fun h' hb' => ?_
      have b' : Stp [Da + 1] s₃ { s₃ with heap := h' } := hb'.stp (List.mem_cons_self ..) _
      refine ⟨k₃.stp' b' fun a ha => (List.mem_singleton.mp ha) ▸ fresh _ (Nat.le_succ _), .mk Da us fDa (ls.at fun o e => hb' _ o (Nat.ne_of_lt (Nat.lt_succ_self _)) (sp.heap _ o (fun m => Nat.lt_irrefl _ (wlt _ m)) e)) (lt_lim (Nat.lt_of_le_of_lt (Nat.le_trans (Nat.le_add_right _ _) size) hn)) ?_⟩
      exact reps.mono (((sp.sub fun a h => X_its (hwI a h)).trans (b'.sub fun a ha => hsub a ((List.mem_singleton.mp ha) ▸ List.mem_cons_of_mem _ (List.mem_cons_self ..)))).trans (vis_shrink hsub))
    | no ha hi k =>
      refine hturn ha st hi fun s₃ R₃ st₃ k₃ l₃ r₃ => ?_
      rw [if_neg Bool.false_ne_true]
      exact ⟨_, Nat.lt_succ_self _, _, _, _, _, us, k, all, k₃, R₃, st₃, l₃, Nat.le_of_succ_le size, r₃, rfl⟩
    | @yes _ _ x y r ys hasg hi hy k =>
      refine hturn hasg st hi fun s₃ R₃ st₃ k₃ l₃ r₃ => ?_
      rw [if_pos rfl]
      refine hy X' R₃ fun v s₄ k₄ rv => ?_
      refine wpAny_list_append_plain (l₃.at fun o e => k₄.heap _ o e) (fun h₅ hl₅ hs₅ => ?_) (lt_lim (Nat.lt_of_le_of_lt (Nat.le_trans (Nat.le_add_right _ _) size) hn))
      have b5 := But.of hs₅
      have sub5 : Sub (vis s₄.heap L'.X) (vis h₅ L'.X) := b5.sub (X_its hDI)
      have sp5 : Stp [Da] s₄ { s₄ with heap := h₅ } := b5.stp (List.mem_cons_self ..) _
      refine ⟨_, Nat.lt_succ_self _, _, _, acc ++ [y], ys, us.push v, k, by rw [all, List.append_assoc]; rfl, (k₃.trans k₄).stp' sp5 fun a h => (List.mem_singleton.mp h) ▸ fDa, (R₃.keep k₄).turned sp5 fun a h => (List.mem_singleton.mp h) ▸ ⟨hDI, let ⟨_, e⟩ := hl₅; ⟨_, e⟩⟩,
        ia.it.frame st₃ (fun a hm o e => b5 a o (fun q => Nat.lt_irrefl _ (q ▸ srcD a hm)) (k₄.heap a o e)) ((k₄.sub _).trans sub5), hl₅, by rw [Array.size_push]; have : us.size + (r.length + 1) ≤ xs.length := size; omega, ?_, rfl⟩
      rw [Array.toList_push]
      exact ((r₃.mono (k₄.sub _)).mono sub5).append (Reps.one (Rep.mono sub5 rv))
  exact codeAny_compStart_list loop (ia.it.self stH loop)
theorem comp_fresh {elt it t : Expr} {ifs : List Expr} {sc : Scope} {pos : Pos} {xs ys : List V} {tup : Bool} {fr : List (Str × Nat)} (hi : IterOK C Γ σ it false tup xs) (hc : compOk sc = true) (hn : xs.length < lim) (htu : isTup t = tup) (hfr : freesOf Γ sc.names [] = some fr)
    (hT : TurnsR C (compGm Γ σ.length sc fr) σ.length t ifs elt (σ ++ opened sc.names) xs ys) : FreshOK C Γ σ (.ListComp elt [⟨t, it, ifs, 0⟩] sc pos) ys := fun X R hQ => by
  obtain ⟨cl, hcl, hcr⟩ := frees_close X.er hfr (acl := []) fun x c hx => nomatch hx
  have hnames : ∀ x, x ∈ sc.names → x.2 = .local → sc.names.lookup x.1 = some .local := fun x hx hl => by
    have := List.all_eq_true.mp (Bool.and_eq_true_iff.mp hc).2 x hx
    rw [hl] at this
    exact beq_iff_eq.mp this
  rw [eval_ListComp]
  refine wpAny_comprehension_free (use := none) rfl (hi.1 _) (closureFor_of hcl) (of_decide_eq_true (Bool.and_eq_true_iff.mp hc).1) hnames ?_
  refine hi.2 X R fun I wr src St s₁ s₂ k₁ R₁ ia => ?_
  refine comp_core X hc hn htu hT R₁ ia hcr fun D Cc s' m hf hn hfin => ?_
  exact ⟨m, hn, fun h' hs => let ⟨a, b⟩ := hfin h' (.of hs); hQ D _ (k₁.trans a) (b.shrink k₁ fun _ h => List.mem_cons_of_mem _ h)⟩
end Mine
end
section
open PySem PySem.W PyProof.Rows PySem.SeqAt
namespace Mine
variable {prog : Program} {w : World} {h₀ : Heap} {C : Cx} {K : Nat} {Γ : Gm} {L : Lay} {env : Env} {σ : Sg} {s : Shared} {A : Around} {E : Value → Shared → Prop}
/-! plain ones -/
theorem ev_none (k p) : EvOK C Γ σ (.Constant .none k p) (.v .none) := fun _ _ hQ => wpAny_Constant_none (hQ _ _ (Kp.refl _) rfl)
theorem ev_bool (b k p) : EvOK C Γ σ (.Constant (.bool b) k p) (.v (.bool b)) := fun _ _ hQ => wpAny_Constant_bool (hQ _ _ (Kp.refl _) rfl)
theorem ev_int (i k p) : EvOK C Γ σ (.Constant (.int i) k p) (.v (.int i)) := fun _ _ hQ => wpAny_Constant_int (hQ _ _ (Kp.tok _ _) ⟨_, rfl⟩)
theorem ev_str {x : Str} (k p) (h : x.length < 1000) : EvOK C Γ σ (.Constant (.str x) k p) (.v (.str x)) := fun _ _ hQ => wpAny_Constant_str (hQ _ _ (Kp.tok _ _) ⟨_, rfl, Nat.le_trans (Nat.le_of_lt h) (by decide)⟩)
theorem ev_name {x : Str} {d : D} (p) (h : NameOK C Γ σ x d) : EvOK C Γ σ (.Name x p) d := fun X R hQ => h X R (fun v r => hQ v _ (Kp.refl _) r) p
theorem ev_bin {l r : Expr} {op : Operator} {a b : D} {c : V} {p} (h1 : EvOK C Γ σ l a) (h2 : EvOK C Γ σ r b) (h3 : BinOK σ op a b c) : EvOK C Γ σ (.BinOp l op r p) (.v c) := fun X R hQ =>
  wpAny_BinOp (h1 X R fun va s₁ k₁ ra => h2 X (R.keep k₁) fun vb s₂ k₂ rb => h3 (R.keep (k₁.trans k₂)) (ra.mono (k₂.sub _) (.refl _)) rb fun v s' k' rv => hQ v s' ((k₁.trans k₂).trans k') rv)
theorem ev_not {x : Expr} {d : D} {t : Bool} {p} (h : EvOK C Γ σ x d) (h2 : TruthOK σ d t) : EvOK C Γ σ (.UnaryOp .Not x p) (.v (.bool (!t))) := fun X R hQ =>
  wpAny_UnaryOp (h X R fun va s₁ k₁ ra => not_of (h2 (R.keep k₁) ra fun s₂ k₂ => hQ _ s₂ (k₁.trans k₂) rfl))
theorem ev_neg {x : Expr} {i : Int} {p} (h : EvOK C Γ σ x (.v (.int i))) : EvOK C Γ σ (.UnaryOp .USub x p) (.v (.int (-i))) := fun X R hQ =>
  wpAny_UnaryOp (h X R fun va s₁ k₁ ra => by
    obtain ⟨t, rfl⟩ := ra
    exact PySem.P.neg_int (hQ _ _ (k₁.trans (Kp.tok s₁ _)) ⟨_, rfl⟩))
theorem ev_cmp {l r : Expr} {op : CmpOp} {a b : D} {t : Bool} {p} (h1 : EvOK C Γ σ l a) (h2 : EvOK C Γ σ r b) (h3 : CmpOK σ op a b t) (hm : behindInMarks op r = false) : EvOK C Γ σ (.Compare l [op] [r] p) (.v (.bool t)) := fun X R hQ =>
  wpAny_Compare1 (h1 X R fun va s₁ k₁ ra => h2 X (R.keep k₁) fun vb s₂ k₂ rb => h3 (R.keep (k₁.trans k₂)) X.room.units6 (ra.mono (k₂.sub _) (.refl _)) rb (hQ _ s₂ (k₁.trans k₂) rfl)) hm
theorem b_cmp {l r : Expr} {op : CmpOp} {a b : D} {t : Bool} {p} (h1 : EvOK C Γ σ l a) (h2 : EvOK C Γ σ r b) (h3 : CmpOK σ op a b t) (hm : behindInMarks op r = false) : BOK C Γ σ (.Compare l [op] [r] p) t := fun X R hQ =>
  wpAny_isTrue_Compare1 (h1 X R fun va s₁ k₁ ra => h2 X (R.keep k₁) fun vb s₂ k₂ rb => h3 (R.keep (k₁.trans k₂)) X.room.units6 (ra.mono (k₂.sub _) (.refl _)) rb (wpAny_truthy_bool (hQ s₂ (k₁.trans k₂)))) hm
theorem ev_if {t b o : Expr} {c : Bool} {d : D} {p} (h : BOK C Γ σ t c) (h1 : c = true → EvOK C Γ σ b d) (h2 : c = false → EvOK C Γ σ o d) : EvOK C Γ σ (.IfExp t b o p) d := fun X R hQ =>
  wpAny_IfExp (h X R fun s₁ k₁ => by
    cases c with
    | true => exact h1 rfl X (R.keep k₁) fun v s' k' rv => hQ v s' (k₁.trans k') rv
    | false => exact h2 rfl X (R.keep k₁) fun v s' k' rv => hQ v s' (k₁.trans k') rv)
theorem b_not {x : Expr} {t : Bool} {p} (h : BOK C Γ σ x t) : BOK C Γ σ (.UnaryOp .Not x p) (!t) := fun X R hQ => wpAny_isTrue_Not (h X R hQ)
/-- a test that is no comparison's -/
noncomputable def plainT : Expr → Bool
  | .UnaryOp .Not _ _ => false
  | .BoolOp _ _ _ => false
  | .IfExp _ _ _ _ => false
  | .Compare _ _ _ _ => false
  | _ => true
theorem value_true {e : Expr} (h : plainT e = true) (whole : Sem Value) : isTrue e env whole = (do let v ← whole; standAt e.pos; holding [v] (truthy v)) := by
  cases e with
  | UnaryOp op x p => cases op <;> first | rfl | exact nomatch h
  | BoolOp op vs p => exact nomatch h
  | IfExp t b o p => exact nomatch h
  | Compare l ops rs p => exact nomatch h
  | _ => rfl
theorem b_value {e : Expr} {d : D} {t : Bool} (hp : plainT e = true) (h : EvOK C Γ σ e d) (h2 : TruthOK σ d t) : BOK C Γ σ e t := fun X R hQ =>
  wpAny_isTrue_value (h X R fun v s₁ k₁ rv => h2 (R.keep k₁) rv fun s₂ k₂ => hQ s₂ (k₁.trans k₂)) (value_true hp _)
/-! and, or -/
noncomputable def stops : BoolOp → Bool → Bool
  | .And, t => !t
  | .Or, t => t
noncomputable def BoolsOK (C : Cx) (Γ : Gm) (σ : Sg) (op : BoolOp) (es : List Expr) (d : D) : Prop :=
  ∀ {prog : Program} {w : World} {h₀ : Heap} {K : Nat} {L : Lay} {env : Env} {A : Around} {s : Shared} {E Q : Value → Shared → Prop}, Fx prog w h₀ C K Γ L.own env A → Rel prog w h₀ L σ s.heap →
    (∀ v s', Kp s s' → RepD prog w (vis s'.heap L.X) L.own v d → Q v s') → ∀ pos, wpAny (model prog w) A (boolOp pos op (evalEach es env)) Q E s
theorem bo_one {op : BoolOp} {x : Expr} {d : D} (h : EvOK C Γ σ x d) : BoolsOK C Γ σ op [x] d := fun X R hQ _ => h X R hQ
theorem bo_more {op : BoolOp} {x y : Expr} {r : List Expr} {a d : D} {t : Bool} (h : EvOK C Γ σ x a) (h2 : TruthOK σ a t) (h3 : stops op t = true → a = d) (h4 : stops op t = false → BoolsOK C Γ σ op (y :: r) d) : BoolsOK C Γ σ op (x :: y :: r) d := fun {prog w h₀ K L env A s E Q} X R hQ pos => by
  show wpAny (model prog w) A (do
    let v ← eval x env
    standAt pos
    let t ← holding [v] (truthy v)
    match op, t with
    | .And, false | .Or, true => pure v
    | _, _ => boolOp pos op (evalEach (y :: r) env)) Q E s
  refine wpAny_bind (h X R fun v s₁ k₁ rv => wpAny_bind (wpAny_standAt (wpAny_bind (wpAny_holding (h2 (R.keep k₁) rv fun s₂ k₂ => ?_)))))
  have fin : stops op t = true → Q v s₂ := fun e => hQ v s₂ (k₁.trans k₂) ((h3 e ▸ rv).mono (k₂.sub _) (.refl _))
  have go : stops op t = false → wpAny (model prog w) A (boolOp pos op (evalEach (y :: r) env)) Q E s₂ := fun e => h4 e X (R.keep (k₁.trans k₂)) (fun v' s' k' rv' => hQ v' s' ((k₁.trans k₂).trans k') rv') pos
  cases op <;> cases t
  · exact wpAny_pure (fin rfl)
  · exact go rfl
  · exact go rfl
  · exact wpAny_pure (fin rfl)
theorem ev_boolop {op : BoolOp} {es : List Expr} {d : D} {p} (h : BoolsOK C Γ σ op es d) : EvOK C Γ σ (.BoolOp op es p) d := fun X R hQ => by
  rw [arm_eval_BoolOp]
  exact h X R hQ _
noncomputable def AllOK (C : Cx) (Γ : Gm) (σ : Sg) (op : BoolOp) (es : List Expr) (b : Bool) : Prop :=
  ∀ {prog : Program} {w : World} {h₀ : Heap} {K : Nat} {L : Lay} {env : Env} {A : Around} {s : Shared} {E : Value → Shared → Prop} {Q : Bool → Shared → Prop}, Fx prog w h₀ C K Γ L.own env A → Rel prog w h₀ L σ s.heap →
    (∀ s', Kp s s' → Q b s') → wpAny (model prog w) A (allTrue op es env) Q E s
theorem al_nil (op : BoolOp) : AllOK C Γ σ op [] (op == .And) := fun _ _ hQ => by
  rw [arm_allTrue_nil]
  exact wpAny_pure (hQ _ (Kp.refl _))
theorem al_more {op : BoolOp} {x : Expr} {r : List Expr} {t b : Bool} (h : BOK C Γ σ x t) (h3 : stops op t = true → t = b) (h4 : stops op t = false → AllOK C Γ σ op r b) : AllOK C Γ σ op (x :: r) b := fun {prog w h₀ K L env A s E Q} X R hQ => by
  have fin : ∀ s₁, Kp s s₁ → stops op t = true → Q t s₁ := fun s₁ k₁ e => h3 e ▸ hQ s₁ k₁
  have go : ∀ s₁, Kp s s₁ → stops op t = false → wpAny (model prog w) A (allTrue op r env) Q E s₁ := fun s₁ k₁ e => h4 e X (R.keep k₁) fun s' k' => hQ s' (k₁.trans k')
  cases op
  · refine wpAny_allTrue_And_cons (h X R fun s₁ k₁ => ?_)
    cases t
    · exact fin s₁ k₁ rfl
    · exact go s₁ k₁ rfl
  · refine wpAny_allTrue_Or_cons (h X R fun s₁ k₁ => ?_)
    cases t
    · exact go s₁ k₁ rfl
    · exact fin s₁ k₁ rfl
theorem b_boolop {op : BoolOp} {es : List Expr} {b : Bool} {p} (h : AllOK C Γ σ op es b) : BOK C Γ σ (.BoolOp op es p) b := fun X R hQ => wpAny_isTrue_BoolOp (h X R hQ)
/-! calls -/
theorem RepDs.vs {g : G} {φ : List Addr} : ∀ {xs : List V} {vals : List Value}, RepDs prog w g φ vals (xs.map .v) → Reps prog w g vals xs
  | [], _, h => by cases h; rfl
  | x :: xs, _, h => by cases h with | cons h1 h2 => exact ⟨_, _, rfl, h1, RepDs.vs h2⟩
/-- what a datum is, seen from Y, where the frame's own lie open -/
noncomputable def DeepOK (σ : Sg) (d : D) (x : V) : Prop := ∀ {prog : Program} {w : World} {h₀ : Heap} {L : Lay} {h : Heap} {v : Value} {Y : List Addr}, Rel prog w h₀ L σ h → (∀ a, a ∈ Y → a ∈ L.X ∧ a ∉ L.own) → RepD prog w (vis h L.X) L.own v d → Rep prog w (vis h Y) v x
theorem deep_v (x : V) : DeepOK σ (.v x) x := fun _ hY r => Rep.mono (vis_shrink fun a h => (hY a h).1) r
theorem deep_loc {n : Nat} {xs : List V} (h : σ[n]? = some (.lst xs)) : DeepOK σ (.loc n) (.lst xs) := fun R hY r => by
  obtain ⟨a, ha, us, ⟨m, hl⟩, hz, hr⟩ := R.own.get h
  obtain ⟨a', ha', rfl⟩ := r
  cases Option.some.inj (ha.symm.trans ha')
  exact ⟨a, m, us, rfl, vis_some.mpr ⟨fun q => (hY a q).2 (List.mem_of_getElem? ha), hl⟩, hz, hr.mono (vis_shrink fun a h => (hY a h).1)⟩
theorem All2.deep {ds : List D} {vs : List V} (h : All2 (DeepOK σ) ds vs) (R : Rel prog w h₀ L σ s.heap) : ∀ {vals : List Value}, RepDs prog w (vis s.heap L.X) L.own vals ds → Reps prog w (vis s.heap []) vals vs := by
  induction h with
  | nil => exact fun r => by cases r; rfl
  | cons h1 _ ih => exact fun r => by cases r with | cons r1 r2 => exact ⟨_, _, rfl, h1 R (fun _ h => absurd h List.not_mem_nil) r1, ih r2⟩
noncomputable def atomic : V → Bool
  | .none | .bool _ | .int _ | .str _ | .fn _ | .ty _ => true
  | _ => false
theorem atom {g g' : G} {v : Value} {x : V} (h : atomic x = true) (r : Rep prog w g v x) : Rep prog w g' v x := by
  cases x <;> first | exact r | exact nomatch h
/-- a def's call -/
theorem ev_call {f : Str} {a : Addr} {es : List Expr} {vs : List V} {r : V} {fp p} (hf : NameOK C Γ σ f (.v (.fn a))) (ha : ArgsOK C Γ σ es (vs.map .v)) (hF : C.F a vs r) : EvOK C Γ σ (.Call (.Name f fp) es [] p) (.v r) := fun {prog w h₀ K L env A s E Q} X R hQ => by
  refine wpAny_Call_NameR (hf X R (fun v rv => ?_) fp)
  cases rv
  obtain ⟨⟨o, fd, ho, hdat⟩, hc⟩ := X.fok _ _ _ hF
  refine Calls.callWith_function (o := o) (fd := fd) (ha.args X R (fun vals s₁ k₁ rs => ⟨⟨k₁.heap _ _ (vis_get (R.base _ _ ho)), hdat⟩, ?_⟩) _ _)
  have R₁ := R.keep k₁
  exact hc A s₁ L.X vals Q E X.room.less R₁.base (fun _ => R₁.extX) rs.vs fun v s' k' rv => hQ v s' (k₁.trans k') rv
theorem ev_callL {f : Str} {a : Addr} {es : List Expr} {ds : List D} {vs : List V} {r : V} {fp p} (hf : NameOK C Γ σ f (.v (.fn a))) (ha : ArgsOK C Γ σ es ds) (hd : All2 (DeepOK σ) ds vs) (hr : atomic r = true) (hF : C.F a vs r) : EvOK C Γ σ (.Call (.Name f fp) es [] p) (.v r) := fun {prog w h₀ K L env A s E Q} X R hQ => by
  refine wpAny_Call_NameR (hf X R (fun v rv => ?_) fp)
  cases rv
  obtain ⟨⟨o, fd, ho, hdat⟩, hc⟩ := X.fok _ _ _ hF
  refine Calls.callWith_function (o := o) (fd := fd) (ha.args X R (fun vals s₁ k₁ rs => ⟨⟨k₁.heap _ _ (vis_get (R.base _ _ ho)), hdat⟩, ?_⟩) _ _)
  have R₁ := R.keep k₁
  exact hc A s₁ [] vals Q E X.room.less (R₁.base.trans (vis_shrink fun _ h => absurd h List.not_mem_nil)) (fun _ h => nomatch h) (hd.deep R₁ rs) fun v s' k' rv => hQ v s' (k₁.trans k') (atom hr rv)
theorem ev_bi {f : Str} {bv : Value} {es : List Expr} {ds : List D} {r : V} {fp p} (hf : IsBi C Γ f bv) (ha : ArgsOK C Γ σ es ds) (h : BiN σ f ds r) : EvOK C Γ σ (.Call (.Name f fp) es [] p) (.v r) := fun X R hQ =>
  bi_call hf ha X R fun vals s₁ k₁ rs => h bv hf.2.2.2 (R.keep k₁) X.room.handled rs fun v s' k' rv => hQ v s' (k₁.trans k') rv
theorem meth_call {o : Expr} {m : Str} {es : List Expr} {od : D} {ds : List D} {ap p : Pos} (hm : methOk o ap es p = true) (ho : EvOK C Γ σ o od) (ha : ArgsOK C Γ σ es ds) (X : Fx prog w h₀ C K Γ L.own env A) (R : Rel prog w h₀ L σ s.heap) {Q : Value → Shared → Prop}
    (hq : ∀ ov s₁, Kp s s₁ → RepD prog w (vis s₁.heap L.X) L.own ov od → ∃ T id, MethSlot s₁ ov m T id ∧ ∀ s' vals, Kp s₁ s' → RepDs prog w (vis s'.heap L.X) L.own vals ds → wpAny (model prog w) A (call (.builtin id) (ov :: vals)) Q E s') :
    wpAny (model prog w) A (eval (.Call (.Attribute o m ap) es [] p) env) Q E s := by
  obtain ⟨h12, h3⟩ := Bool.and_eq_true_iff.mp hm
  obtain ⟨h1, h2⟩ := Bool.and_eq_true_iff.mp h12
  have hbase : attributeBase o m env (eval o env) = eval o env := by
    unfold attributeBase
    split
    · exact nomatch h3
    · rfl
  refine wpAny_Call_method_late hbase ?_ h1 rfl (ho X R fun ov s₁ k₁ r => ?_)
  · rw [(ha.1 env p).2]
    exact decide_eq_true (show es.length + 0 + 0 < 30 from Nat.lt_succ_of_lt (of_decide_eq_true h2))
  · obtain ⟨T, id, ⟨h1, h2, h3, h4, h5⟩, h6⟩ := hq ov s₁ k₁ r
    exact ⟨T, id, h1, h2, h3, h4, h5, Calls.callWith_builtin (ha.1 env p).1 (ha.args X (R.keep k₁) (fun vals s' k' rs => h6 s' vals k' rs) _ _)⟩
theorem ev_meth {o : Expr} {m : Str} {es : List Expr} {od : D} {ds : List D} {r : V} {ap p : Pos} (hm : methOk o ap es p = true) (ho : EvOK C Γ σ o od) (ha : ArgsOK C Γ σ es ds) (h : MethOK σ od m ds r) : EvOK C Γ σ (.Call (.Attribute o m ap) es [] p) (.v r) := fun X R hQ =>
  meth_call hm ho ha X R fun ov s₁ k₁ rv => let ⟨T, id, h1, h2⟩ := h (R.keep k₁) rv; ⟨T, id, h1, fun s' vals k' rs => h2 s' vals k' rs fun v s'' k'' rv' => hQ v s'' ((k₁.trans k').trans k'') rv'⟩
/-! lists laid anew -/
theorem fr_list {es : List Expr} {xs : List V} {p} (h : ArgsOK C Γ σ es (xs.map .v)) (hl : xs.length < lim) : FreshOK C Γ σ (.List es p) xs := fun X R hQ =>
  wpAny_List_spliced (h.2 X R (fun vals s₁ k₁ rs => by
    have rs := rs.vs
    have hz : vals.length ≤ sizeLine := rs.length ▸ lt_lim hl
    refine ⟨hz, hQ _ _ (k₁.trans (Kp.push s₁ _)) (.mk _ vals.toArray (k₁.none (fresh_size s₁)) ⟨0, Heap.get?_push_size _ rfl⟩ hz (rs.mono (vis_step (fun a o _ e => Heap.get?_push_of_some _ e) fun a ha => (List.mem_cons.mp ha).elim (fun e => .inr (e ▸ fresh_size s₁)) .inl)))⟩) _).1
theorem fr_range {f g : Str} {p fp gp q : Pos} {es : List Expr} {ds : List D} {a b c : Int} (hf : IsBi C Γ f (.type "list")) (hg : IsBi C Γ g (.type "range")) (h : ArgsOK C Γ σ es ds) (hr : RngOK ds a b c) (ho : rangeOk a b c = true) :
    FreshOK C Γ σ (.Call (.Name f fp) [.Call (.Name g gp) es [] q] [] p) (rangeV a c (rangeN a b c)) := fun X R hQ => by
  refine wpAny_Call_NameR (bi_eval hf X R ?_ fp)
  refine PySem.callWith_type rfl (Calls.evalArgs_plain (Calls.spliced_cons ?_))
  refine range_call hg h hr ho X R fun q s₁ t u v k₁ hfr hrg => Calls.spliced_nil ?_
  obtain ⟨hc, hsm, hnn⟩ := rangeN_small ho
  refine call_list_range (n := rangeN a b c) X.room.handled hrg hsm (rangeN_size hc) (by omega) fun h' tk acc c' hk' hl hi => ?_
  refine hQ _ _ (k₁.trans (Kp.of hk')) (.mk _ acc (k₁.none (fresh_size s₁)) ⟨c', hl⟩ (by rw [hi.1]; have := sizeLine_eq; omega) (Reps.of_get ?_ fun i v x hv hx => ?_))
  · rw [Array.length_toList, hi.1]; exact ((List.length_map ..).trans List.length_range).symm
  · obtain ⟨t', rfl⟩ := hi.2 i v ((Array.getElem?_toList ..).symm.trans hv)
    obtain ⟨j, hj, rfl⟩ := Option.map_eq_some_iff.mp ((List.getElem?_map ..).symm.trans hx)
    obtain ⟨h1, rfl⟩ := List.getElem?_eq_some_iff.mp hj
    rw [List.getElem_range]
    exact rep_int _ _ _
/-! subscripts -/
noncomputable def isSlice : Expr → Bool
  | .Slice _ _ _ _ => true
  | _ => false
theorem subscripted_item {e : Expr} (h : isSlice e = false) (o i : Value) : subscripted e false o i = operate [o, i] (getItem o i) := by
  cases e <;> first | rfl | exact nomatch h
theorem sub_any {value slice : Expr} {pos : Pos} {Q : Value → Shared → Prop} {ops : Value → Value → List Value} (hF : ∀ o i, subscripted slice false o i = operate (ops o i) (getItem o i))
    (h : wpAny (model prog w) A (eval value env) (fun o s₁ => wpAny (model prog w) A (eval slice env) (fun i s₂ => SubscriptOn (model prog w) A o i Q E s₂) E s₁) E s) :
    wpAny (model prog w) A (eval (.Subscript value slice pos) env) Q E s := by
  rw [eval_Subscript]
  refine wpAny_bind (wpAny_mono h (fun o s₁ h₁ => wpAny_bind (wpAny_holding (wpAny_mono h₁ (fun i s₂ h₂ => wpAny_bind (wpAny_standAt ?_)) fun _ _ x => x))) fun _ _ x => x)
  obtain ⟨T, id, hl, hT, hg⟩ := h₂
  refine wpAny_bind ?_
  rw [getitemInPython_of_ne hT.not_modules]
  refine wpAny_bind (wpAny_specialOf hT hl (wpAny_pure (wpAny_bind ?_)))
  rw [hF]
  exact wpAny_operating (wpAny_mono hg (fun r s₃ h₃ => wpAny_bind (wpAny_letTemporaryGo (wpAny_pure h₃))) fun _ _ x => x)
theorem ev_item {o i : Expr} {a b d : D} {p : Pos} (hs : isSlice i = false) (h1 : EvOK C Γ σ o a) (h2 : EvOK C Γ σ i b) (h3 : ItemOK σ a b d) : EvOK C Γ σ (.Subscript o i p) d := fun X R hQ =>
  sub_any (subscripted_item hs) (h1 X R fun ov s₁ k₁ rv => h2 X (R.keep k₁) fun iv s₂ k₂ ri => h3 (R.keep (k₁.trans k₂)) (rv.mono (k₂.sub _) (.refl _)) ri fun v s' k' rv' => hQ v s' ((k₁.trans k₂).trans k') rv')
noncomputable def PartOK (C : Cx) (Γ : Gm) (σ : Sg) (e : Option Expr) (l : Option Int) : Prop :=
  ∀ {prog : Program} {w : World} {h₀ : Heap} {K : Nat} {L : Lay} {env : Env} {A : Around} {s : Shared} {E Q : Value → Shared → Prop}, Fx prog w h₀ C K Γ L.own env A → Rel prog w h₀ L σ s.heap →
    (∀ v s', Kp s s' → IsPart v l → Q v s') → wpAny (model prog w) A (evalPart e env) Q E s
theorem part_none : PartOK C Γ σ none none := fun _ _ hQ => by
  rw [evalPart_none]
  exact wpAny_pure (hQ _ _ (Kp.refl _) .none)
theorem part_int {e : Expr} {i : Int} (h : EvOK C Γ σ e (.v (.int i))) : PartOK C Γ σ (some e) (some i) := fun X R hQ => by
  rw [evalPart_some]
  exact h X R fun v s' k ⟨t, e⟩ => hQ _ s' k (e ▸ .int i t)
theorem part_N {e : Expr} (h : EvOK C Γ σ e (.v .none)) : PartOK C Γ σ (some e) none := fun X R hQ => by
  rw [evalPart_some]
  exact h X R fun v s' k e => hQ _ s' k ((show v = .none from e) ▸ .none)
theorem ev_slice {o : Expr} {lo hi : Option Expr} {a : D} {l u : Option Int} {r : V} {sp p : Pos} (h : EvOK C Γ σ o a) (hl : PartOK C Γ σ lo l) (hu : PartOK C Γ σ hi u) (h3 : SliceOK σ a l u r) : EvOK C Γ σ (.Subscript o (.Slice lo hi none sp) p) (.v r) := fun X R hQ =>
  sub_any (ops := fun o i => [i, o]) (fun _ _ => rfl) (h X R fun ov s₁ k₁ rv => wpAny_Slice (hl X (R.keep k₁) fun vl s₂ k₂ il => hu X (R.keep (k₁.trans k₂)) fun vu s₃ k₃ iu => by
    rw [evalPart_none]
    refine wpAny_pure ?_
    have k13 := (k₁.trans k₂).trans k₃
    obtain ⟨T, id, h1, h2, h3⟩ := h3 (A := _) (E := _) (Q := _) (R.keep k13) ((rv.mono (k₂.sub _) (.refl _)).mono (k₃.sub _) (.refl _)) il iu fun v s' k' rv' => hQ v s' (k13.trans k') rv'
    refine ⟨T, id, h1, ?_, h3⟩
    cases ov with
    | ref a => obtain ⟨o, e1, e2⟩ := h2; exact ⟨o, Heap.get?_push_of_some _ e1, e2⟩
    | _ => exact h2))
end Mine
end
section
open PySem PySem.W PyProof.Rows PySem.SeqAt
namespace Mine
variable {C : Cx} {Γ : Gm} {σ : Sg}
noncomputable def deepsC : (ds : List D) → Option {xs : List V // ds = xs.map .v}
  | [] => some ⟨[], rfl⟩
  | .v x :: r => (deepsC r).map fun y => ⟨x :: y.1, congrArg (D.v x :: ·) y.2⟩
  | _ => none
noncomputable def argDC (σ : Sg) : (ds : List D) → Option {xs : List V // All2 (DeepOK σ) ds xs}
  | [] => some ⟨[], .nil⟩
  | .v x :: r => (argDC σ r).map fun y => ⟨_, .cons (deep_v x) y.2⟩
  | .loc n :: r => (optC (σ[n]?)).bind fun t => match t with
    | ⟨.lst xs, h⟩ => (argDC σ r).map fun y => ⟨_, .cons (deep_loc h) y.2⟩
    | _ => none
section
variable (ev : (e : Expr) → Option (Subtype (EvOK C Γ σ e))) (ts : (e : Expr) → Option (Subtype (BOK C Γ σ e)))
noncomputable def argsC : (es : List Expr) → Option (Subtype (ArgsOK C Γ σ es))
  | [] => some ⟨[], args_nil⟩
  | e :: r => if h : isStar e = false then (ev e).bind fun d => (argsC r).map fun ds => ⟨_, args_cons h d.2 ds.2⟩ else none
noncomputable def boolsOpC (op : BoolOp) : (es : List Expr) → Option (Subtype (BoolsOK C Γ σ op es))
  | [] => none
  | x :: r => (ev x).bind fun a => match r with
    | [] => some ⟨_, bo_one a.2⟩
    | y :: r => (truthC σ a.1).bind fun t => if h : stops op t.1 = true then some ⟨_, bo_more a.2 t.2 (fun _ => rfl) fun h' => absurd (h.symm.trans h') Bool.noConfusion⟩
        else (boolsOpC op (y :: r)).map fun d => ⟨_, bo_more a.2 t.2 (fun h' => absurd h' h) fun _ => d.2⟩
noncomputable def allC (op : BoolOp) : (es : List Expr) → Option (Subtype (AllOK C Γ σ op es))
  | [] => some ⟨_, al_nil op⟩
  | x :: r => (ts x).bind fun t => if h : stops op t.1 = true then some ⟨_, al_more t.2 (fun _ => rfl) fun h' => absurd (h.symm.trans h') Bool.noConfusion⟩
        else (allC op r).map fun b => ⟨_, al_more t.2 (fun h' => absurd h' h) fun _ => b.2⟩
noncomputable def partC (e : Option Expr) : Option (Subtype (PartOK C Γ σ e)) := match e with
  | none => some ⟨_, part_none⟩
  | some e => (ev e).bind fun d => match d with
    | ⟨.v (.int i), h⟩ => some ⟨_, part_int h⟩
    | ⟨.v .none, h⟩ => some ⟨_, part_N h⟩
    | _ => none
noncomputable def constC (c : Const) (k) (p) : Option (Subtype (EvOK C Γ σ (.Constant c k p))) := match c with
  | .none => some ⟨_, ev_none k p⟩
  | .bool b => some ⟨_, ev_bool b k p⟩
  | .int i => some ⟨_, ev_int i k p⟩
  | .str x => if h : x.length < 1000 then some ⟨_, ev_str k p h⟩ else none
  | _ => none
/-- a def's address -/
noncomputable def calleeC (f : Str) : Option {a : Addr // NameOK C Γ σ f (.v (.fn a))} := (nameC C Γ σ f).bind fun d => match d with
  | ⟨.v (.fn a), h⟩ => some ⟨a, h⟩
  | _ => none
/-- the name of a built-in type or a value -/
noncomputable def nameE (x : Str) (p : Pos) : Option (Subtype (EvOK C Γ σ (.Name x p))) := ((nameC C Γ σ x).map fun d => ⟨d.1, ev_name p d.2⟩).or ((isBiC C Γ x).bind fun b => match b with
  | ⟨.type n, h⟩ => some ⟨_, ev_name p (name_ty h)⟩
  | _ => none)
noncomputable def asBi {f : Str} {bv : Value} (h : IsBi C Γ f bv) (y : Str) (bv' : Value) (hl : biTab.lookup y = some bv') : Option (PLift (IsBi C Γ f bv')) := if e : f = y then some ⟨isbi_as h e hl⟩ else none
noncomputable def rangeE (f : Str) (es : List Expr) : Option {r : List D × Int × Int × Int // IsBi C Γ f (.type "range") ∧ ArgsOK C Γ σ es r.1 ∧ RngOK r.1 r.2.1 r.2.2.1 r.2.2.2 ∧ rangeOk r.2.1 r.2.2.1 r.2.2.2 = true} :=
  (isBiC C Γ f).bind fun b => (asBi b.2 "range" (.type "range") (by kernel_rfl)).bind fun hb => (argsC ev es).bind fun ds => (rngC ds.1).bind fun r => if h : rangeOk r.1.1 r.1.2.1 r.1.2.2 = true then some ⟨(ds.1, r.1), hb.down, ds.2, r.2, h⟩ else none
/-- what a loop goes over, but for the built-ins -/
noncomputable def iterPlain (e : Expr) (deep tup : Bool) : Option (Subtype (IterOK C Γ σ e deep tup)) :=
  if hs : isSet e = false then (ev e).bind fun d => match d with
    | ⟨.v (.lst xs), h⟩ => some ⟨xs, it_lst hs h⟩
    | ⟨.loc n, h⟩ => match deep with
      | false => (lstC σ (.loc n)).map fun l => ⟨_, it_loc hs h l.2⟩
      | true => none
    | _ => none
  else none
noncomputable def enumE (f : Str) (p pos : Pos) (es : List Expr) (deep : Bool) : Option (Subtype (IterOK C Γ σ (.Call (.Name f p) es [] pos) deep true)) :=
  (isBiC C Γ f).bind fun b => (asBi b.2 "enumerate" (.type "enumerate") (by kernel_rfl)).bind fun hb => (argsC ev es).bind fun ds => match ds with
  | ⟨[.v (.lst xs)], h⟩ => some ⟨_, it_enum hb.down h (lst_v xs) fun _ => rfl⟩
  | _ => none
noncomputable def iterCall (f : Str) (p pos : Pos) (es : List Expr) (deep tup : Bool) : Option (Subtype (IterOK C Γ σ (.Call (.Name f p) es [] pos) deep tup)) :=
  match tup with
  | false => (rangeE ev f es).map fun r => ⟨_, it_range r.2.1 r.2.2.1 r.2.2.2.1 r.2.2.2.2⟩
  | true => enumE ev f p pos es deep
noncomputable def iterC (e : Expr) (deep tup : Bool) : Option (Subtype (IterOK C Γ σ e deep tup)) := match e with
  | .Call (.Name f p) es [] pos => (iterCall ev f p pos es deep tup).or (iterPlain ev (.Call (.Name f p) es [] pos) deep tup)
  | e => iterPlain ev e deep tup
noncomputable def ifsC (ifs : List Expr) : Option (Subtype (IfsOK C Γ σ ifs)) := match ifs with
  | [] => some ⟨_, ifs_nil⟩
  | [c] => (ts c).map fun b => ⟨_, ifs_one b.2⟩
  | _ => none
end
noncomputable def turnsC (C : Cx) (Γ : Gm) (b : Nat) (t : Expr) (ifs : List Expr) (elt : Expr) (ev : (σ : Sg) → (e : Expr) → Option (Subtype (EvOK C Γ σ e))) (ts : (σ : Sg) → (e : Expr) → Option (Subtype (BOK C Γ σ e))) : (xs : List V) → (σ : Sg) → Option (Subtype (TurnsR C Γ b t ifs elt σ xs))
  | [], σ => (optC (σ[b]?)).bind fun th => match th with
    | ⟨.fr m, h⟩ => some ⟨[], .nil h⟩
    | _ => none
  | x :: xs, σ => (asgC Γ b σ t x).bind fun a => (ifsC (ts a.1) ifs).bind fun c => match c with
    | ⟨true, hc⟩ => (ev a.1 elt).bind fun y => match y with
      | ⟨.v y, hy⟩ => (turnsC C Γ b t ifs elt ev ts xs a.1).map fun ys => ⟨_, .yes a.2 hc hy ys.2⟩
      | _ => none
    | ⟨false, hc⟩ => (turnsC C Γ b t ifs elt ev ts xs a.1).map fun ys => ⟨_, .no a.2 hc ys.2⟩
mutual
noncomputable def evE (C : Cx) (G : ∀ a vs, Option (Subtype (C.F a vs))) : Nat → (Γ : Gm) → (σ : Sg) → (e : Expr) → Option (Subtype (EvOK C Γ σ e))
  | 0, _, _, _ => none
  | n + 1, Γ, σ, e => match e with
    | .Constant c k p => constC c k p
    | .Name x p => nameE x p
    | .BinOp l op r p => (evE C G n Γ σ l).bind fun a => (evE C G n Γ σ r).bind fun b => (binC σ op a.1 b.1).map fun c => ⟨_, ev_bin a.2 b.2 c.2⟩
    | .UnaryOp op x p => (evE C G n Γ σ x).bind fun a => match op with
      | .Not => (truthC σ a.1).map fun t => ⟨_, ev_not a.2 t.2⟩
      | .USub => match a with
        | ⟨.v (.int i), h⟩ => some ⟨_, ev_neg h⟩
        | _ => none
      | _ => none
    | .BoolOp op es p => (boolsOpC (evE C G n Γ σ) op es).map fun d => ⟨_, ev_boolop d.2⟩
    | .Compare l [op] [r] p => if hm : behindInMarks op r = false then (evE C G n Γ σ l).bind fun a => (evE C G n Γ σ r).bind fun b => (cmpC σ op a.1 b.1).map fun t => ⟨_, ev_cmp a.2 b.2 t.2 hm⟩ else none
    | .IfExp t b o p => (evB C G n Γ σ t).bind fun c => match c with
      | ⟨true, hc⟩ => (evE C G n Γ σ b).map fun d => ⟨_, ev_if hc (fun _ => d.2) fun h => Bool.noConfusion h⟩
      | ⟨false, hc⟩ => (evE C G n Γ σ o).map fun d => ⟨_, ev_if hc (fun h => Bool.noConfusion h) fun _ => d.2⟩
    | .Call (.Name f fp) es [] p => ((isBiC C Γ f).bind fun b => (argsC (evE C G n Γ σ) es).bind fun ds => (biC σ f ds.1).map fun r => ⟨_, ev_bi b.2 ds.2 r.2⟩).or (((evF C G n Γ σ (.Call (.Name f fp) es [] p)).map fun x => ⟨_, FreshOK.ev x.2⟩).or ((calleeC (C := C) (Γ := Γ) (σ := σ) f).bind fun a => (argsC (evE C G n Γ σ) es).bind fun ds =>
        ((deepsC ds.1).bind fun vs => (G a.1 vs.1).map fun r => ⟨_, ev_call a.2 (vs.2 ▸ ds.2) r.2⟩).or ((argDC σ ds.1).bind fun vs => (G a.1 vs.1).bind fun r => if h : atomic r.1 = true then some ⟨_, ev_callL a.2 ds.2 vs.2 h r.2⟩ else none)))
    | .Call (.Attribute o m ap) es [] p => if hm : methOk o ap es p = true then (evE C G n Γ σ o).bind fun od => (argsC (evE C G n Γ σ) es).bind fun ds => (methC σ od.1 m ds.1).map fun r => ⟨_, ev_meth hm od.2 ds.2 r.2⟩ else none
    | .Subscript o (.Slice lo hi none sp) p => (evE C G n Γ σ o).bind fun a => (partC (evE C G n Γ σ) lo).bind fun l => (partC (evE C G n Γ σ) hi).bind fun u => (sliceC σ a.1 l.1 u.1).map fun r => ⟨_, ev_slice a.2 l.2 u.2 r.2⟩
    | .Subscript o i p => if hs : isSlice i = false then (evE C G n Γ σ o).bind fun a => (evE C G n Γ σ i).bind fun b => (itemC σ a.1 b.1).map fun d => ⟨_, ev_item hs a.2 b.2 d.2⟩ else none
    | e => (evF C G n Γ σ e).map fun x => ⟨_, FreshOK.ev x.2⟩
noncomputable def evF (C : Cx) (G : ∀ a vs, Option (Subtype (C.F a vs))) : Nat → (Γ : Gm) → (σ : Sg) → (e : Expr) → Option (Subtype (FreshOK C Γ σ e))
  | 0, _, _, _ => none
  | n + 1, Γ, σ, e => match e with
    | .List es p => (argsC (evE C G n Γ σ) es).bind fun ds => (deepsC ds.1).bind fun xs => if h : xs.1.length < lim then some ⟨xs.1, fr_list (xs.2 ▸ ds.2) h⟩ else none
    | .Call (.Name f fp) [.Call (.Name g gp) es [] q] [] p => (isBiC C Γ f).bind fun b => (asBi b.2 "list" (.type "list") (by kernel_rfl)).bind fun hb => (rangeE (evE C G n Γ σ) g es).map fun r => ⟨_, fr_range hb.down r.2.1 r.2.2.1 r.2.2.2.1 r.2.2.2.2⟩
    | .ListComp elt [⟨t, it, ifs, 0⟩] sc p => (iterC (evE C G n Γ σ) it false (isTup t)).bind fun xs => (optC (freesOf Γ sc.names [])).bind fun fr =>
        if h : compOk sc = true ∧ xs.1.length < lim then (turnsC C (compGm Γ σ.length sc fr.1) σ.length t ifs elt (evE C G n _) (evB C G n _) xs.1 (σ ++ opened sc.names)).map fun ys => ⟨ys.1, comp_fresh xs.2 h.1 h.2 rfl fr.2 ys.2⟩ else none
    | _ => none
noncomputable def evB (C : Cx) (G : ∀ a vs, Option (Subtype (C.F a vs))) : Nat → (Γ : Gm) → (σ : Sg) → (e : Expr) → Option (Subtype (BOK C Γ σ e))
  | 0, _, _, _ => none
  | n + 1, Γ, σ, e => match e with
    | .UnaryOp .Not x p => (evB C G n Γ σ x).map fun t => ⟨_, b_not t.2⟩
    | .BoolOp op es p => (allC (evB C G n Γ σ) op es).map fun t => ⟨_, b_boolop t.2⟩
    | .Compare l [op] [r] p => if hm : behindInMarks op r = false then (evE C G n Γ σ l).bind fun a => (evE C G n Γ σ r).bind fun b => (cmpC σ op a.1 b.1).map fun t => ⟨_, b_cmp a.2 b.2 t.2 hm⟩ else none
    | e => if hp : plainT e = true then (evE C G n Γ σ e).bind fun d => (truthC σ d.1).map fun t => ⟨_, b_value hp d.2 t.2⟩ else none
end
/-- by computation -/
noncomputable abbrev noF (C : Cx) : ∀ a vs, Option (Subtype (C.F a vs)) := fun _ _ => none
theorem EvOK.calc {e : Expr} {d : D} (h : (evE C (noF C) 60 Γ σ e).map (·.1) = some d) : EvOK C Γ σ e d := let ⟨x, _, e⟩ := Option.map_eq_some_iff.mp h; e ▸ x.2
theorem BOK.calc {e : Expr} {d : Bool} (h : (evB C (noF C) 60 Γ σ e).map (·.1) = some d) : BOK C Γ σ e d := let ⟨x, _, e⟩ := Option.map_eq_some_iff.mp h; e ▸ x.2
theorem FreshOK.calc {e : Expr} {xs : List V} (h : (evF C (noF C) 60 Γ σ e).map (·.1) = some xs) : FreshOK C Γ σ e xs := let ⟨x, _, e⟩ := Option.map_eq_some_iff.mp h; e ▸ x.2
end Mine
end
section
open PySem PySem.W PyProof.Rows PySem.SeqAt
namespace Mine
variable {prog : Program} {w : World} {h₀ : Heap} {C : Cx} {K : Nat} {Γ : Gm} {L : Lay} {env : Env} {σ σ' σ'' : Sg} {s s' s'' : Shared} {A : Around} {E : Value → Shared → Prop}
noncomputable abbrev Lay.more (L : Lay) (new : List Addr) : Lay := ⟨L.out, L.its, L.own ++ new⟩
/-- the frame as it stands after a step -/
structure SOut (prog : Program) (w : World) (h₀ : Heap) (L : Lay) (σ' : Sg) (s s' : Shared) (new : List Addr) : Prop where
  fresh : ∀ a, a ∈ new → s.heap.get? a = none
  stp : Stp L.own s s'
  rel : Rel prog w h₀ (L.more new) σ' s'.heap
theorem more_nil : L.more [] = L := by unfold Lay.more; rw [List.append_nil]
theorem SOut.of (st : Stp L.own s s') (R : Rel prog w h₀ L σ' s'.heap) : SOut prog w h₀ L σ' s s' [] := ⟨fun _ h => absurd h List.not_mem_nil, st, more_nil ▸ R⟩
theorem SOut.kp (k : Kp s s') (R : Rel prog w h₀ L σ s.heap) : SOut prog w h₀ L σ s s' [] := .of (k.stp _) (R.keep k)
theorem Stp.fresh {T : List Addr} (x : Stp T s s') (hT : ∀ a, a ∈ T → ∃ o, s'.heap.get? a = some o) {a : Addr} (h : s'.heap.get? a = none) : s.heap.get? a = none := by
  cases e : s.heap.get? a with
  | none => rfl
  | some o => exact (Classical.em (a ∈ T)).elim (fun m => let ⟨_, q⟩ := hT a m; nomatch h.symm.trans q) fun m => nomatch h.symm.trans (x.heap a o m e)
theorem SOut.trans {new new' : List Addr} (x : SOut prog w h₀ L σ' s s' new) (y : SOut prog w h₀ (L.more new) σ'' s' s'' new') : SOut prog w h₀ L σ'' s s'' (new ++ new') where
  fresh := fun a m => (List.mem_append.mp m).elim (x.fresh a) fun m => x.stp.fresh (fun b hb => x.rel.extO (List.mem_append_left _ hb)) (y.fresh a m)
  stp := ⟨fun a o hm e => y.stp.heap a o (fun h => (List.mem_append.mp h).elim hm fun h => nomatch (x.fresh a h).symm.trans e) (x.stp.heap a o hm e), fun i g e => y.stp.gens i g (x.stp.gens i g e), fun h => y.stp.drawn (x.stp.drawn h), y.stp.os.trans x.stp.os⟩
  rel := by have := y.rel; unfold Lay.more at this ⊢; rw [List.append_assoc] at this; exact this
theorem SOut.kpl {new : List Addr} (k : Kp s s') (x : SOut prog w h₀ L σ' s' s'' new) : SOut prog w h₀ L σ' s s'' new := ⟨fun a m => k.none (x.fresh a m), (k.stp _).trans x.stp, x.rel⟩
theorem SOut.fx {new : List Addr} (_ : SOut prog w h₀ L σ' s s' new) (X : Fx prog w h₀ C K Γ L.own env A) : Fx prog w h₀ C K Γ (L.more new).own env A := X.more (.append _ _)
theorem SOut.sub {new : List Addr} (x : SOut prog w h₀ L σ' s s' new) : Sub (vis s.heap L.X) (vis s'.heap (L.more new).X) := vis_step (fun a o n e => x.stp.heap a o (fun m => n (X_own m)) e)
  fun a m => (mem_X.mp m).elim (fun m => .inl (mem_X.mpr (.inl m))) fun m => (List.mem_append.mp m).imp X_own (x.fresh a)
/-! flows -/
noncomputable def FlR (prog : Program) (w : World) (X : List Addr) (s' : Shared) (f : Flow) : Fl → Prop
  | .next => f = .next
  | .brk => f = .brk
  | .ret v => ∃ x, f = .ret x ∧ Rep prog w (vis s'.heap X) x v
noncomputable def SOK (C : Cx) (Γ : Gm) (σ : Sg) (st : Stmt) (fl : Fl) (σ' : Sg) : Prop :=
  ∀ {prog : Program} {w : World} {h₀ : Heap} {K : Nat} {L : Lay} {env : Env} {A : Around} {s : Shared} {E : Value → Shared → Prop} {Q : Flow → Shared → Prop}, Fx prog w h₀ C K Γ L.own env A → Rel prog w h₀ L σ s.heap →
    (∀ f s' new, SOut prog w h₀ L σ' s s' new → FlR prog w L.out s' f fl → Q f s') → wpAny (model prog w) A (exec st env) Q E s
noncomputable def LOK (C : Cx) (Γ : Gm) (σ : Sg) (sts : List Stmt) (fl : Fl) (σ' : Sg) : Prop :=
  ∀ {prog : Program} {w : World} {h₀ : Heap} {K : Nat} {L : Lay} {env : Env} {A : Around} {s : Shared} {E : Value → Shared → Prop} {Q : Flow → Shared → Prop}, Fx prog w h₀ C K Γ L.own env A → Rel prog w h₀ L σ s.heap →
    (∀ f s' new, SOut prog w h₀ L σ' s s' new → FlR prog w L.out s' f fl → Q f s') → wpAny (model prog w) A (execs sts env) Q E s
theorem l_nil : LOK C Γ σ [] .next σ := fun X R hQ => wpAny_execs_nil (hQ .next _ [] (.kp (Kp.refl _) R) rfl)
theorem l_cons {st : Stmt} {r : List Stmt} {fl : Fl} (h : SOK C Γ σ st .next σ') (k : LOK C Γ σ' r fl σ'') : LOK C Γ σ (st :: r) fl σ'' := fun X R hQ =>
  wpAny_execs_cons (h X R fun f s₁ n₁ o₁ e => by
    cases e
    exact k (o₁.fx X) o₁.rel fun f s₂ n₂ o₂ fl => hQ f s₂ _ (o₁.trans o₂) fl)
theorem l_brk {st : Stmt} {r : List Stmt} (h : SOK C Γ σ st .brk σ') : LOK C Γ σ (st :: r) .brk σ' := fun X R hQ => wpAny_execs_cons (h X R fun f s₁ n₁ o₁ e => by cases e; exact hQ .brk s₁ _ o₁ rfl)
theorem l_ret {st : Stmt} {r : List Stmt} {v : V} (h : SOK C Γ σ st (.ret v) σ') : LOK C Γ σ (st :: r) (.ret v) σ' := fun X R hQ => wpAny_execs_cons (h X R fun f s₁ n₁ o₁ e => by obtain ⟨x, rfl, hr⟩ := e; exact hQ (.ret x) s₁ _ o₁ ⟨x, rfl, hr⟩)
theorem s_brk {p} : SOK C Γ σ (.Break p) .brk σ := fun X R hQ => wpAny_Break (hQ .brk _ [] (.kp (Kp.refl _) R) rfl)
theorem s_if {t : Expr} {b o : List Stmt} {p} {fl : Fl} {c : Bool} (h : BOK C Γ σ t c) (h1 : c = true → LOK C Γ σ b fl σ') (h2 : c = false → LOK C Γ σ o fl σ') : SOK C Γ σ (.If t b o p) fl σ' := fun X R hQ =>
  wpAny_If (h X R fun s₁ k₁ => by
    cases c with
    | true => exact h1 rfl X (R.keep k₁) fun f s' n o fl => hQ f s' n (o.kpl k₁) fl
    | false => exact h2 rfl X (R.keep k₁) fun f s' n o fl => hQ f s' n (o.kpl k₁) fl)
theorem out_ok (R : Rel prog w h₀ L σ s.heap) : ∀ a, a ∈ L.out → a ∈ L.X ∧ a ∉ L.own := fun a h => ⟨X_out h, fun m => R.apart a m (.inl h)⟩
theorem s_ret {e : Expr} {d : D} {x : V} {p} (h : EvOK C Γ σ e d) (hd : DeepOK σ d x) : SOK C Γ σ (.Return (some e) p) (.ret x) σ := fun X R hQ =>
  wpAny_Return_some (h X R fun v s₁ k₁ r => hQ _ s₁ [] (.kp k₁ R) ⟨v, rfl, hd (R.keep k₁) (out_ok R) r⟩)
/-! stores -/
theorem drop0 {T : List Addr} (x : Stp (T.drop 0) s s') : Stp T s s' := x
noncomputable def isComp : Expr → Bool
  | .ListComp _ _ _ _ => true
  | .DictComp _ _ _ _ _ => true
  | .SetComp _ _ _ _ => true
  | _ => false
theorem no_swap {value : Expr} (h : isComp value = false) (t : Option Expr) (line : Nat) (env : Env) : swapsWith value t line env = pure false := by
  cases value <;> first | rfl | exact nomatch h
theorem s_set {x : Str} {value : Expr} {px p} {y : V} (hc : isComp value = false) (h : EvOK C Γ σ value (.v y)) (hs : StOK Γ 0 σ x (.v y) σ') : SOK C Γ σ (.Assign [.Name x px] value p) .next σ' := fun X R hQ =>
  wpAny_Assign_Name (h X R fun v s₁ k₁ r => hs X.er (R.keep k₁) r fun s' st R' => hQ .next s' [] (.kpl k₁ (.of (drop0 st) R')) rfl) (no_swap hc _ _ _)
theorem s_two {x y : Str} {value : Expr} {px py p} {z : V} (h : EvOK C Γ σ value (.v z)) (hs : StOK Γ 0 σ x (.v z) σ') (hs2 : StOK Γ 0 σ' y (.v z) σ'') : SOK C Γ σ (.Assign [.Name x px, .Name y py] value p) .next σ'' := fun X R hQ =>
  wpAny_Assign_two (h X R fun v s₁ k₁ r => wpAny_assign_Name (hs X.er (R.keep k₁) r fun s₂ st R₂ => wpAny_assign_Name (hs2 X.er R₂ (Rep.mono (st.sub fun _ => drop_X) r) fun s₃ st' R₃ => hQ .next s₃ [] (.kpl k₁ (.of ((drop0 st).trans (drop0 st')) R₃)) rfl)))
/-- an own list -/
theorem s_own {x : Str} {value : Expr} {px p} {xs : List V} (hc : isComp value = false) (h : FreshOK C Γ σ value xs) (hs : StOK Γ 0 (σ ++ [.lst xs]) x (.loc σ.length) σ') : SOK C Γ σ (.Assign [.Name x px] value p) .next σ' := fun {prog w h₀ K L env A s E Q} X R hQ =>
  wpAny_Assign_Name (h X R fun v s₁ k₁ r => by
    cases r with | mk a us hf hl hz hr =>
    have sub : ∀ b, b ∈ (L.more [a]).X → b ∈ a :: L.X := fun b m => (mem_X.mp m).elim (fun m => List.mem_cons_of_mem _ (mem_X.mpr (.inl m))) fun m => (List.mem_append.mp m).elim (fun m => List.mem_cons_of_mem _ (X_own m)) fun m => (List.mem_singleton.mp m) ▸ List.mem_cons_self ..
    have R₁ : Rel prog w h₀ (L.more [a]) (σ ++ [.lst xs]) s₁.heap := R.push k₁ (fun b m => (List.mem_singleton.mp m) ▸ hf) (List.pairwise_singleton _ _)
      (fun b m => ⟨⟨.inl m, (R.ext b (.inr m)).imp fun o e => k₁.heap b o e⟩, fun q => R.old hf ((List.mem_singleton.mp q) ▸ X_its m)⟩) (.cons ⟨us, hl, hz, hr.mono (vis_shrink sub)⟩ .nil)
    have o₁ : SOut prog w h₀ L (σ ++ [.lst xs]) s s₁ [a] := ⟨fun b m => (List.mem_singleton.mp m) ▸ hf, k₁.stp _, R₁⟩
    have hd : RepD prog w (vis s₁.heap (L.more [a]).X) (L.more [a]).own (.ref a) (.loc σ.length) := ⟨a, by
      show (L.own ++ [a])[σ.length]? = some a
      rw [← R.own.length, List.getElem?_append_right (Nat.le_refl _), Nat.sub_self]; rfl, rfl⟩
    exact hs (o₁.fx X).er R₁ hd fun s' st R' => hQ .next s' _ (o₁.trans (.of (drop0 st) R')) rfl) (no_swap hc _ _ _)
/-- a comprehension and what it yields -/
structure CompR (C : Cx) (Γ : Gm) (σ : Sg) (elt : Expr) (t it : Expr) (ifs : List Expr) (sc : Scope) (xs ys : List V) (fr : List (Str × Nat)) (tup : Bool) : Prop where
  iter : IterOK C Γ σ it false tup xs
  ok : compOk sc = true
  lt : xs.length < lim
  tup : isTup t = tup
  frees : freesOf Γ sc.names [] = some fr
  turns : TurnsR C (compGm Γ σ.length sc fr) σ.length t ifs elt (σ ++ opened sc.names) xs ys
theorem CompR.fresh {elt it t : Expr} {ifs : List Expr} {sc : Scope} {pos : Pos} {xs ys : List V} {fr} {tup : Bool} (h : CompR C Γ σ elt t it ifs sc xs ys fr tup) : FreshOK C Γ σ (.ListComp elt [⟨t, it, ifs, 0⟩] sc pos) ys := comp_fresh h.iter h.ok h.lt h.tup h.frees h.turns
theorem comp_swaps {elt : Expr} {gens : List Comprehension} {sc : Scope} {pos : Pos} {x : Str} {px : Pos} {line : Nat} : swapsWith (.ListComp elt gens sc pos) (some (.Name x px)) line env = pure false ∨ swapsWith (.ListComp elt gens sc pos) (some (.Name x px)) line env = pure true := by
  cases hb : (env.blockKind == .function && env.kindOf x == some .local && px.line == (Expr.ListComp elt gens sc pos).pos.line && !(sc.names.any fun (n, k) => n == x && (k == .local || k == .cell))) with
  | false => exact .inl (congrArg pure hb)
  | true => exact .inr (congrArg pure hb)
theorem s_comp {x : Str} {elt it t : Expr} {ifs : List Expr} {sc : Scope} {cpos : Pos} {px p : Pos} {xs ys : List V} {fr} {tup : Bool} (h : CompR C Γ σ elt t it ifs sc xs ys fr tup) (hs : StOK Γ 0 σ x (.v (.lst ys)) σ') :
    SOK C Γ σ (.Assign [.Name x px] (.ListComp elt [⟨t, it, ifs, 0⟩] sc cpos) p) .next σ' := fun {prog w h₀ K L env A s E Q} X R hQ => by
  rcases comp_swaps (env := env) (elt := elt) (gens := [⟨t, it, ifs, 0⟩]) (sc := sc) (pos := cpos) (x := x) (px := px) (line := p.line) with hw | hw
  · exact wpAny_Assign_Name (FreshOK.ev h.fresh X R fun v s₁ k₁ r => hs X.er (R.keep k₁) r fun s' st R' => hQ .next s' [] (.kpl k₁ (.of (drop0 st) R')) rfl) hw
  obtain ⟨cl, hcl, hcr⟩ := frees_close X.er h.frees (acl := []) fun x c hx => nomatch hx
  have hnames : ∀ x, x ∈ sc.names → x.2 = .local → sc.names.lookup x.1 = some .local := fun x hx hl => by
    have := List.all_eq_true.mp (Bool.and_eq_true_iff.mp h.ok).2 x hx
    rw [hl] at this
    exact beq_iff_eq.mp this
  rw [exec_Assign_Name_used _ _ _ _ hw]
  refine wpAny_bind (wpAny_standAt (wpAny_bind ?_))
  show wpAny _ A (do let _ ← comprehension (.ListComp elt [⟨t, it, ifs, 0⟩] sc cpos) sc env _ (newList []) false (eval it env) (some (assign (.Name x px) env))) _ _ s
  refine wpAny_bind (wpAny_mono (wpAny_comprehension_free (use := some (assign (.Name x px) env)) (Q := fun _ s' => Q .next s') rfl (h.iter.1 _) (closureFor_of hcl) (of_decide_eq_true (Bool.and_eq_true_iff.mp h.ok).1) hnames ?_) (fun _ s' hq => wpAny_pure (wpAny_pure hq)) fun _ _ e => e)
  refine h.iter.2 X R fun I wr src St s₁ s₂ k₁ R₁ ia => ?_
  refine comp_core X h.ok h.lt h.tup h.turns R₁ ia hcr fun D Cc s' m hf hn hfin => ?_
  obtain ⟨kp, fl⟩ := hfin s'.heap fun _ _ _ e => e
  have hex : ∃ o, s'.heap.get? Cc = some o := let ⟨o, _, _, e, _⟩ := hn; ⟨o, e⟩
  have RH : Rel prog w h₀ ⟨L.out, L.its ++ [Cc], L.own⟩ σ s'.heap := R₁.step (T := []) (fun a o _ e => kp.heap a o e) (fun _ h => absurd h List.not_mem_nil) (fun _ _ h => absurd h List.not_mem_nil) fun a m => (List.mem_append.mp m).imp_right fun m => by rw [List.mem_singleton.mp m]; exact ⟨hf, hex⟩
  have sub : ∀ b, b ∈ (Lay.mk L.out (L.its ++ [Cc]) L.own).X → b ∈ Cc :: L.X := fun b m => (mem_X.mp m).elim (fun m => m.elim (fun m => List.mem_cons_of_mem _ (X_out m)) fun m => (List.mem_append.mp m).elim (fun m => List.mem_cons_of_mem _ (X_its m)) fun m => (List.mem_singleton.mp m) ▸ List.mem_cons_self ..) fun m => List.mem_cons_of_mem _ (X_own m)
  have hCo : Cc ∉ L.own := fun q => R₁.old hf (X_own q)
  have rD : Rep prog w (vis s'.heap (Lay.mk L.out (L.its ++ [Cc]) L.own).X) D (.lst ys) := by
    cases fl with | mk a us hfa hl hz hr =>
    have hac : a ≠ Cc := fun e => by
      subst e
      obtain ⟨o, es, ep, h1, h2, _⟩ := hn
      obtain ⟨n, h3⟩ := hl
      rw [h1] at h3; cases h3; cases h2
    obtain ⟨n, e⟩ := hl
    exact ⟨a, n, us, rfl, vis_some.mpr ⟨fun m => (List.mem_cons.mp (sub a m)).elim hac (R₁.old hfa), e⟩, hz, hr.mono (vis_shrink fun b m => List.mem_cons_of_mem _ (sub b m))⟩
  refine wpAny_assign_Name (hs (L := ⟨L.out, L.its ++ [Cc], L.own⟩) X.er RH rD fun s'' st R'' => ⟨m, hn.at' fun o e => st.heap _ o hCo e, fun h' hsb => ?_⟩)
  have b : But Cc s''.heap h' := .of hsb
  have R3 : Rel prog w h₀ L σ' h' := R''.step (its := L.its) (T := [Cc]) (fun a o m e => b a o (fun q => m (q ▸ List.mem_cons_self ..)) e) (fun a m => List.mem_append_right _ m)
    (fun a m q => absurd (show a ∈ L.X from m.elim (fun m => X_out (L := L) m) fun m => X_its m) (List.mem_singleton.mp q ▸ R₁.old hf)) fun a m => .inl (List.mem_append_left _ m)
  have k := k₁.trans kp
  exact hQ .next _ [] (.of ⟨fun a o ha e => b a o (fun q => nomatch (k₁.none (q ▸ hf)).symm.trans e) ((drop0 st).heap a o ha (k.heap a o e)), fun i g e => st.gens i g (k.gens i g e), fun h => st.drawn (k.drawn h), st.os.trans k.os⟩ R3) rfl
end Mine
end
section
open PySem PySem.W PyProof.Rows PySem.SeqAt
namespace Mine
variable {prog : Program} {w : World} {h₀ : Heap} {C : Cx} {K : Nat} {Γ : Gm} {L : Lay} {env : Env} {σ σ' σ'' : Sg} {s s' s'' : Shared} {A : Around} {E : Value → Shared → Prop}
theorem inter_false (X : EnvR Γ L.own env) : interactive env = false := by
  unfold interactive
  rw [X.kindE]; rfl
/-- an own list turns -/
theorem SOut.turn {i : Nat} {a : Addr} {xs : List V} {us : Array Value} {h' : Heap} {t : Nat} (R : Rel prog w h₀ L σ s.heap) (ha : L.own[i]? = some a) (b : But a s.heap h') (hl : h'.PlainList a us) (hz : us.size ≤ sizeLine) (hr : Reps prog w (vis s.heap L.X) us.toList xs) :
    SOut prog w h₀ L (σ.set i (.lst xs)) s { s with heap := h', toks := t } [] :=
  .of (b.stp (List.mem_of_getElem? ha) _) (R.set ha b ⟨us, hl, hz, hr.mono (b.sub (X_own (List.mem_of_getElem? ha)))⟩)
/-- the own list at a place -/
theorem own_at {h : Heap} {g : G} {φ : List Addr} {i : Nat} {xs : List V} {v : Value} (o : All2 (ThAt prog w g φ h) φ σ) (hi : σ[i]? = some (.lst xs)) (r : RepD prog w g φ v (.loc i)) : ∃ a us, v = .ref a ∧ φ[i]? = some a ∧ h.PlainList a us ∧ us.size ≤ sizeLine ∧ Reps prog w g us.toList xs := by
  obtain ⟨a, ha, us, hl, hz, hr⟩ := o.get hi
  obtain ⟨a', ha', rfl⟩ := r
  cases Option.some.inj (ha.symm.trans ha')
  exact ⟨a, us, rfl, ha, hl, hz, hr⟩
theorem s_append {o a : Expr} {m : Str} {ap p pos : Pos} {i : Nat} {xs : List V} {y : V} (hm : methOk o ap [a] p = true) (hn : m = "append") (ho : EvOK C Γ σ o (.loc i)) (hs : isStar a = false) (ha : EvOK C Γ σ a (.v y)) (hi : σ[i]? = some (.lst xs)) (hl : xs.length < lim) :
    SOK C Γ σ (.Expr (.Call (.Attribute o m ap) [a] [] p) pos) .next (σ.set i (.lst (xs ++ [y]))) := fun {prog w h₀ K L env A s E Q} X R hQ => by
  subst hn
  refine wpAny_Expr_any (meth_call hm ho (args_cons hs ha args_nil) X R fun ov s₁ k₁ ro => ?_) (inter_false X.er) rfl
  have R₁ := R.keep k₁
  obtain ⟨ad, us, rfl, had, hp, hz, hr⟩ := own_at R₁.own hi ro
  refine ⟨_, _, list_slot hp F.slot_list_append F.type_list_append, fun s₂ vals k₂ rs => ?_⟩
  cases rs with | cons r1 r2 =>
  cases r2
  refine wpAny_list_append_plain (hp.at fun o e => k₂.heap _ o e) (fun h' hl' hs' => ?_) hz
  refine hQ .next _ [] (.kpl (k₁.trans k₂) (.turn (t := s₂.toks) (R₁.keep k₂) had (.of hs') hl' ?_ ?_)) rfl
  · rw [Array.size_push]; exact (show us.size = xs.length from hr.length) ▸ Nat.le_trans hl lim_le
  · rw [Array.toList_push]; exact (hr.mono (k₂.sub _)).append (Reps.one r1)
theorem s_extend {o a : Expr} {m : Str} {ap p pos : Pos} {i : Nat} {xs ys : List V} (hm : methOk o ap [a] p = true) (hn : m = "extend") (ho : EvOK C Γ σ o (.loc i)) (hs : isStar a = false) (ha : EvOK C Γ σ a (.v (.lst ys))) (hi : σ[i]? = some (.lst xs)) (hl : xs.length + ys.length < lim) :
    SOK C Γ σ (.Expr (.Call (.Attribute o m ap) [a] [] p) pos) .next (σ.set i (.lst (xs ++ ys))) := fun {prog w h₀ K L env A s E Q} X R hQ => by
  subst hn
  refine wpAny_Expr_any (meth_call hm ho (args_cons hs ha args_nil) X R fun ov s₁ k₁ ro => ?_) (inter_false X.er) rfl
  have R₁ := R.keep k₁
  obtain ⟨ad, us, rfl, had, hp, hz, hr⟩ := own_at R₁.own hi ro
  refine ⟨_, _, list_slot hp F.slot_list_extend F.type_list_extend, fun s₂ vals k₂ rs => ?_⟩
  cases rs with | cons r1 r2 =>
  cases r2
  have R₂ := R₁.keep k₂
  cases lst_heap R₂.sub r1 with | mk b bs hl2 hz2 hr2 =>
  obtain ⟨n1, e1⟩ := hp.at fun o e => k₂.heap _ o e
  obtain ⟨n2, e2⟩ := hl2
  have hsz : us.size + bs.size ≤ sizeLine := (congr (congrArg HAdd.hAdd hr.length) hr2.length : us.size + bs.size = _) ▸ lt_lim hl
  have := sizeLine_eq
  refine call_meets F.slot_list_extend ⟨_, e1, rfl⟩ F.entry_list_extend (F.args_list_extend_2 _ _) (AutoSeq1.list_extend_list_list_0 ad us n1 b bs n2 (extend_door hsz) hz (by omega)) ⟨e1, e2, ?_⟩
  refine hQ .next _ [] (.kpl (k₁.trans k₂) (.turn (t := s₂.toks) R₂ had (.of (Heap.SameBut.update ..)) ⟨_, get?_update_seq e1 fun x => x ++ bs⟩ ?_ ?_)) rfl
  · rw [Array.size_append]; exact hsz
  · rw [Array.toList_append]; exact (hr.mono (k₂.sub _)).append hr2
theorem setItem_plain {a : Addr} {vs : Array Value} (hl : s.heap.PlainList a vs) (hz : vs.size ≤ sizeLine) {i : Int} {t : Tok} {j : Nat} (hp : place vs.size i = some j) {v : Value} {Q : Unit → Shared → Prop}
    (hQ : ∀ h', h'.PlainList a (vs.setIfInBounds j v) → But a s.heap h' → Q () { s with heap := h' }) : wpAny (model prog w) A (setItem (.ref a) (.int i t) v) Q E s := by
  have hsl := size_word hz
  obtain ⟨ne, ho⟩ := id hl
  have hT := hl.isList.typeIs (s := s)
  have fin : Q () { s with heap := s.heap.update a (Obj.mapSeq (·.setIfInBounds j v)) } := hQ _ ⟨_, get?_update_seq ho (·.setIfInBounds j v)⟩ (.of (Heap.SameBut.update ..))
  unfold setItem
  try with_reducible refine wpAny_holding ?_
  first | refine wpAny_bind (wpAny_pure ?_) | skip
  refine wpAny_bind (wpAny_sequenceKey hT (by decide) ?_)
  refine wpAny_bind (wpAny_callSpecial?_slot (name := Str.ofString "__setitem__") hT slot_list_setitem
    (wpAny_call_entry slot_list_setitem hT entry_list_setitem ?_ (args_list_setitem _ _ _)))
  show wpAny _ _ (Builtin.List.listSubscript? (.int i t) >>= _) _ _ s
  rcases place_cases hp with ⟨h0, hlt, rfl⟩ | ⟨h0, hlt, rfl⟩
  · refine wpAny_bind (wpAny_listSubscript_int (fitsIndex_of h0 (by omega)) ?_)
    obtain ⟨j, rfl⟩ := Int.eq_ofNat_of_zero_le h0
    have hj : j < vs.size := Int.ofNat_lt.mp hlt
    have hx' : vs[j]? = some vs[j] := Array.getElem?_eq_getElem hj
    show wpAny _ _ ((seqItemAt a j >>= fun r => pure (r.map (j, ·))) >>= _) _ _ s
    refine wpAny_bind (wpAny_bind (wpAny_seqItemAt ho rfl (wpAny_pure ?_)))
    rw [hx']
    show wpAny _ _ (setSeqItemAt a j v >>= _) _ _ s
    refine wpAny_bind (wpAny_setSeqItemAt ho rfl ?_)
    first
      | exact wpAny_bind (wpAny_pure (wpAny_pure ⟨.none, rfl, wpAny_pure fin⟩))
      | exact wpAny_pure ⟨.none, rfl, wpAny_pure fin⟩
  · refine wpAny_bind (wpAny_listSubscript_int (fitsIndex_neg h0 (by omega)) ?_)
    have hidx := seqIndex_neg h0 hlt
    have hj : (i + vs.size).toNat < vs.size := by omega
    obtain ⟨m, rfl⟩ : ∃ m : Nat, i = Int.negSucc m := by
      cases i with
      | ofNat n => exact absurd (Int.natCast_nonneg n) (Int.not_le.mpr h0)
      | negSucc n => exact ⟨n, rfl⟩
    show wpAny _ _ ((Builtin.List.listItems (.ref a) >>= fun xs => pure ((seqIndex? (Int.negSucc m) xs.size).bind fun i => xs[i]?.map (i, ·))) >>= _) _ _ s
    refine wpAny_bind (wpAny_bind ?_)
    show wpAny _ _ (seqItems? (.ref a) >>= _) _ _ s
    refine wpAny_bind (wpAny_seqItems ho rfl (wpAny_pure (wpAny_pure ?_)))
    rw [hidx, Option.bind_some, Array.getElem?_eq_getElem hj, Option.map_some]
    refine wpAny_bind (wpAny_setSeqItemAt ho rfl ?_)
    first
      | exact wpAny_bind (wpAny_pure (wpAny_pure ⟨.none, rfl, wpAny_pure fin⟩))
      | exact wpAny_pure ⟨.none, rfl, wpAny_pure fin⟩
theorem Reps.set {g : G} : ∀ {j : Nat} {xs : List V} {vs : List Value}, Reps prog w g vs xs → ∀ {v : Value} {x : V}, Rep prog w g v x → Reps prog w g (vs.set j v) (xs.set j x)
  | _, [], _, h, _, _, _ => (show _ = [] from h) ▸ rfl
  | 0, _ :: xs, _, h, v, x, r => h.onCons (P := fun vs => Reps prog w g (vs.set 0 v) (x :: xs)) fun _ us _ r' => ⟨v, us, rfl, r, r'⟩
  | j + 1, y :: xs, _, h, v, x, r => h.onCons (P := fun vs => Reps prog w g (vs.set (j + 1) v) (y :: xs.set j x)) fun u _ a r' => ⟨u, _, rfl, a, Reps.set (j := j) r' r⟩
/-- an own list's place is set -/
theorem put_ok {i : Nat} {xs : List V} {k : Int} {j : Nat} {x : V} {ov v : Value} {t : Tok} (hi : σ[i]? = some (.lst xs)) (hp : place xs.length k = some j) (R : Rel prog w h₀ L σ s.heap) (ro : RepD prog w (vis s.heap L.X) L.own ov (.loc i)) (rv : Rep prog w (vis s.heap L.X) v x)
    {Q : Unit → Shared → Prop} (hQ : ∀ s', SOut prog w h₀ L (σ.set i (.lst (xs.set j x))) s s' [] → Q () s') : wpAny (model prog w) A (setItem ov (.int k t) v) Q E s := by
  obtain ⟨ad, us, rfl, had, hl, hz, hr⟩ := own_at R.own hi ro
  refine setItem_plain hl hz ((congrArg (place · k) hr.length).trans hp) fun h' hl' b => hQ _ (.turn R had b hl' ?_ ?_)
  · rw [Array.size_setIfInBounds]; exact hz
  · rw [Array.toList_setIfInBounds]; exact hr.set rv
theorem s_put {o i value : Expr} {pp p : Pos} {n : Nat} {xs : List V} {k : Int} {j : Nat} {y : V} (hv : EvOK C Γ σ value (.v y)) (ho : EvOK C Γ σ o (.loc n)) (hi : EvOK C Γ σ i (.v (.int k))) (hn : σ[n]? = some (.lst xs)) (hp : place xs.length k = some j) (hsw : ∀ env, swapsWith value (some (.Subscript o i pp)) p.line env = pure false) :
    SOK C Γ σ (.Assign [.Subscript o i pp] value p) .next (σ.set n (.lst (xs.set j y))) := fun X R hQ =>
  wpAny_Assign_Subscript (hv X R fun u s₁ k₁ ru => ho X (R.keep k₁) fun ov s₂ k₂ ro => hi X (R.keep (k₁.trans k₂)) fun iv s₃ k₃ ri => by
    obtain ⟨t, rfl⟩ := ri
    exact put_ok hn hp (R.keep ((k₁.trans k₂).trans k₃)) (ro.mono (k₃.sub _) (.refl _)) (Rep.mono ((k₂.trans k₃).sub _) ru) fun s₄ o₄ => hQ .next s₄ [] (o₄.kpl ((k₁.trans k₂).trans k₃)) rfl) (hsw _)
theorem s_aug {x : Str} {value : Expr} {op : Operator} {px p : Pos} {a b v : Int} (hx : LoadOK C Γ σ x (.v (.int a))) (hv : EvOK C Γ σ value (.v (.int b))) (h : AugOK op a b v) (hs : StOK Γ 0 σ x (.v (.int v)) σ') : SOK C Γ σ (.AugAssign (.Name x px) op value p) .next σ' := fun X R hQ =>
  wpAny_AugAssign_Name (hx.2 X R fun old ro => hv X R fun u s₁ k₁ ru => by
    obtain ⟨t, rfl⟩ := ro
    obtain ⟨t', rfl⟩ := ru
    refine h t t' fun z n => ?_
    have k₂ := k₁.trans (Kp.tok s₁ n)
    exact hs X.er (R.keep k₂) ⟨z, rfl⟩ fun s₃ st R₃ => hQ .next s₃ [] (.kpl k₂ (.of (drop0 st) R₃)) rfl)
theorem s_augPut {o i value : Expr} {op : Operator} {pp p : Pos} {n : Nat} {xs : List V} {k a b v : Int} {j : Nat} (hsl : isSlice i = false) (ho : EvOK C Γ σ o (.loc n)) (hi : EvOK C Γ σ i (.v (.int k))) (hn : σ[n]? = some (.lst xs)) (hp : place xs.length k = some j) (hj : xs[j]? = some (.int a)) (hv : EvOK C Γ σ value (.v (.int b))) (h : AugOK op a b v) :
    SOK C Γ σ (.AugAssign (.Subscript o i pp) op value p) .next (σ.set n (.lst (xs.set j (.int v)))) := fun {prog w h₀ K L env A s E Q} X R hQ => by
  refine wpAny_AugAssign_SubscriptAny (ho X R fun ov s₁ k₁ ro => hi X (R.keep k₁) fun iv s₂ k₂ ri => ?_) (fun ov iv new => ?_)
  · have k12 := k₁.trans k₂
    have ri0 := ri
    obtain ⟨t, rfl⟩ := ri
    obtain ⟨T, id', h1, h2, h3⟩ := item_lst (lst_loc hn) hp hj (A := A) (E := E) (R.keep k12) (ro.mono (k₂.sub _) (.refl _)) ri0 (Q := fun old s₃ => wpAny (model prog w) A (eval value env) (fun v s₄ => wpAny (model prog w) A (inplaceOp op old v) (fun new s₅ =>
        wpAny (model prog w) A (setItem ov (.int k t) new) (fun _ => Q .next) E s₅) E s₄) E s₃) fun ow s₃ k₃ rw' => by
      have k13 := k12.trans k₃
      refine hv X (R.keep k13) fun u s₄ k₄ ru => ?_
      obtain ⟨t1, rfl⟩ := rw'
      obtain ⟨t2, rfl⟩ := ru
      refine h t1 t2 fun z m => ?_
      have k5 := (k₂.trans (k₃.trans k₄)).trans (Kp.tok s₄ m)
      exact put_ok (x := .int v) hn hp (R.keep (k₁.trans k5)) (ro.mono (k5.sub _) (.refl _)) ⟨z, rfl⟩ fun s₆ o₆ => hQ .next s₆ [] (o₆.kpl (k₁.trans k5)) rfl
    exact h3
  · cases i <;> first | rfl | exact nomatch hsl
/-! two names exchanged -/
theorem swapped_eq {a b : Str} {pa pb pc pd : Pos} {c d : Str} {k k' : Nat} {p p' : Pos} {φ : List Addr} (er : EnvR Γ φ env) (h1 : Γ.kindOf a = some .local) (h2 : Γ.kindOf b = some .local) (h3 : pb.line = pa.line) (h4 : b ≠ a) (h5 : [Expr.Name c pc, Expr.Name d pd].all (foldedForSure 8) = false) (h6 : [Expr.Name c pc, Expr.Name d pd].all (constantsAlone 8) = false) :
    swappedStores [.Tuple [.Name a pa, .Name b pb] k p] (.Tuple [.Name c pc, .Name d pd] k' p') env = pure (some [a, b]) := by
  have hbk : env.blockKind = .function := by unfold Env.blockKind; rw [er.kindE]; rfl
  have k1 : env.kindOf a = some .local := (er.kindOf a).trans h1
  have k2 : env.kindOf b = some .local := (er.kindOf b).trans h2
  have hab : (b == a) = false := beq_eq_false_iff_ne.mpr h4
  have key : ∀ f : Expr → Option Str, f (.Name a pa) = some a → f (.Name b pb) = some b → [Expr.Name a pa, .Name b pb].filterMap f = [a, b] := fun f e1 e2 => by
    rw [List.filterMap_cons_some e1, List.filterMap_cons_some e2]; rfl
  have e2 : [a, b].eraseDups = [a, b] := by rw [List.eraseDups_cons, List.filter_cons, hab]; rfl
  unfold swappedStores
  rw [hbk]
  show (if (List.filterMap _ [Expr.Name a pa, .Name b pb]).length != 2 || (List.filterMap _ [Expr.Name a pa, .Name b pb]).eraseDups.length != (List.filterMap _ [Expr.Name a pa, .Name b pb]).length then _ else _) = _
  rw [key _ (by
    show (if (env.kindOf a == some .local && pa.line == pa.line) = true then some a else none) = some a
    rw [k1, beq_self_eq_true pa.line]; rfl) (by
    show (if (env.kindOf b == some .local && pb.line == pa.line) = true then some b else none) = some b
    rw [k2, h3, beq_self_eq_true pa.line]; rfl), e2]
  refine (if_neg (show ¬ (_ : Bool) = true from Bool.false_ne_true)).trans ?_
  rw [h5, h6]
  rfl
theorem s_swap {a b c d : Str} {pa pb pc pd p tp vp : Pos} {k k' : Nat} {x y : V} (h1 : Γ.kindOf a = some .local) (h2 : Γ.kindOf b = some .local) (h3 : pb.line = pa.line) (h4 : b ≠ a) (h5 : [Expr.Name c pc, Expr.Name d pd].all (foldedForSure 8) = false) (h6 : [Expr.Name c pc, Expr.Name d pd].all (constantsAlone 8) = false) (hx : NameOK C Γ σ c (.v x)) (hy : NameOK C Γ σ d (.v y)) (hs : StOK Γ 0 σ b (.v y) σ') (hs2 : StOK Γ 0 σ' a (.v x) σ'') :
    SOK C Γ σ (.Assign [.Tuple [.Name a pa, .Name b pb] k tp] (.Tuple [.Name c pc, .Name d pd] k' vp) p) .next σ'' := fun {prog w h₀ K L env A s E Q} X R hQ => by
  refine Assign_Tuple_swapped (wpAny_Tuple_spliced ((args_cons rfl (ev_name pc hx) (args_cons rfl (ev_name pd hy) args_nil)).2 X R (fun vals s₁ k₁ rs => ?_) _).1) rfl (swapped_eq X.er h1 h2 h3 h4 h5 h6)
  cases rs with | cons r1 r2 => cases r2 with | @cons v2 _ _ _ r2 r3 =>
  cases r3
  rename_i v1
  refine ⟨(show 2 ≤ sizeLine by decide), ?_⟩
  have k2 : Kp s₁ { s₁ with heap := s₁.heap.push { cls := .type "tuple", data := .seq [v1, v2].toArray } } := Kp.push s₁ _
  refine wpAny_unpackItems_tuple (items := [v1, v2].toArray) X.room.handled ⟨_, Heap.get?_push_size _ rfl, rfl, 0, rfl⟩ fun h' he => ?_
  have k3 : Kp { s₁ with heap := s₁.heap.push { cls := .type "tuple", data := .seq [v1, v2].toArray } } { s₁ with heap := h' } := ⟨fun a o e => he a o (Nat.ne_of_lt (Heap.lt_size e)) e, fun _ _ e => e, id, rfl⟩
  have k23 := k2.trans k3
  refine wpAny_assignInOrder_more (wpAny_bindName (hs X.er (R.keep (k₁.trans k23)) (Rep.mono (k23.sub _) r2) fun s₄ st R₄ => ?_))
  exact wpAny_assignInOrder_more (wpAny_bindName (hs2 X.er R₄ (Rep.mono (st.sub fun _ => drop_X) (Rep.mono (k23.sub _) r1)) fun s₅ st' R₅ => wpAny_assignInOrder_none (hQ .next s₅ [] (.kpl (k₁.trans k23) (.of ((drop0 st).trans (drop0 st')) R₅)) rfl)))
end Mine
end
section
open PySem PySem.W PyProof.Rows PySem.SeqAt
namespace Mine
variable {prog : Program} {w : World} {h₀ : Heap} {C : Cx} {K : Nat} {Γ : Gm} {L : Lay} {env : Env} {σ σ' σ'' : Sg} {s s' s'' : Shared} {A : Around} {E : Value → Shared → Prop}
/-- the turns of a while -/
inductive WhileR (C : Cx) (Γ : Gm) (t : Expr) (b o : List Stmt) : Nat → Sg → Fl → Sg → Prop
  | done {n σ fl σ'} (h : BOK C Γ σ t false) (k : LOK C Γ σ o fl σ') : WhileR C Γ t b o n σ fl σ'
  | turn {n σ σ₁ fl σ'} (h : BOK C Γ σ t true) (h1 : LOK C Γ σ b .next σ₁) (k : WhileR C Γ t b o n σ₁ fl σ') : WhileR C Γ t b o (n + 1) σ fl σ'
  | brk {n σ σ'} (h : BOK C Γ σ t true) (h1 : LOK C Γ σ b .brk σ') : WhileR C Γ t b o n σ .next σ'
  | ret {n σ σ' v} (h : BOK C Γ σ t true) (h1 : LOK C Γ σ b (.ret v) σ') : WhileR C Γ t b o n σ (.ret v) σ'
theorem s_while {t : Expr} {b o : List Stmt} {p : Pos} {n : Nat} {fl : Fl} (h : WhileR C Γ t b o n σ fl σ') : SOK C Γ σ (.While t b o p) fl σ' := fun {prog w h₀ K L env A s E Q} X R hQ => by
  refine wpAny_While (codeAny_whileLoop (fun m s' => ∃ σc new, WhileR C Γ t b o m σc fl σ' ∧ SOut prog w h₀ L σc s s' new) ?_ n ⟨σ, [], h, .kp (Kp.refl s) R⟩)
  rintro m s' ⟨σc, new, hg, o'⟩
  have X' := o'.fx X
  have after : ∀ {s₁}, Kp s' s₁ → SOut prog w h₀ L σc s s₁ (new ++ []) := fun k => o'.trans (.kp k o'.rel)
  cases hg with
  | done hB k =>
    refine hB X' o'.rel fun s₁ k₁ => ?_
    rw [if_neg Bool.false_ne_true]
    exact k X' (o'.rel.keep k₁) fun f s₂ n₂ o₂ fl => hQ f s₂ _ (o'.trans (o₂.kpl k₁)) fl
  | turn hB h1 k =>
    refine hB X' o'.rel fun s₁ k₁ => ?_
    rw [if_pos rfl]
    refine h1 X' (o'.rel.keep k₁) fun f s₂ n₂ o₂ e => ?_
    cases e
    exact ⟨_, Nat.lt_succ_self _, _, _, k, o'.trans (o₂.kpl k₁)⟩
  | brk hB h1 =>
    refine hB X' o'.rel fun s₁ k₁ => ?_
    rw [if_pos rfl]
    refine h1 X' (o'.rel.keep k₁) fun f s₂ n₂ o₂ e => ?_
    cases e
    exact hQ .next s₂ _ (o'.trans (o₂.kpl k₁)) rfl
  | ret hB h1 =>
    refine hB X' o'.rel fun s₁ k₁ => ?_
    rw [if_pos rfl]
    refine h1 X' (o'.rel.keep k₁) fun f s₂ n₂ o₂ e => ?_
    obtain ⟨x, rfl, hr⟩ := e
    exact hQ (.ret x) s₂ _ (o'.trans (o₂.kpl k₁)) ⟨x, rfl, hr⟩
/-! for -/
/-- a step of an iterator: what is in T turns, and the generators from N on -/
structure GStp (N : Nat) (T : List Addr) (s s' : Shared) : Prop where
  heap : ∀ a o, a ∉ T → s.heap.get? a = some o → s'.heap.get? a = some o
  gens : ∀ (i : Nat) (st : GenState), i < N → s.gens[i]? = some st → s'.gens[i]? = some st
  drawn : PyProof.Rows.AllBare s.gens → PyProof.Rows.AllBare s'.gens
  os : s'.os = s.os
theorem Stp.g {T : List Addr} (x : Stp T s s') (N : Nat) : GStp N T s s' := ⟨x.heap, fun i st _ e => x.gens i st e, x.drawn, x.os⟩
theorem Stp.gtrans {N : Nat} {T U : List Addr} (x : Stp U s s') (y : GStp N T s' s'') (hf : ∀ a, a ∈ T → s.heap.get? a = none) (hN : s.gens.size ≤ N) : Stp U s s'' :=
  ⟨fun a o n e => y.heap a o (fun m => nomatch (hf a m).symm.trans e) (x.heap a o n e), fun i st e => y.gens i st (Nat.lt_of_lt_of_le (Array.getElem?_eq_some_iff.mp e).1 hN) (x.gens i st e), fun h => y.drawn (x.drawn h), y.os.trans x.os⟩
/-- an iterator whose own part of the heap may grow -/
structure IterG (prog : Program) (w : World) (h₀ : Heap) (A : Around) {ι : Type} (I : Addr) (next : ι → Option (Option (V × ι))) (tup : Bool) (N : Nat) (src : List Addr) (St : List Addr → List Addr → ι → Shared → Prop) : Prop where
  frame : ∀ {wr X Y : List Addr} {i : ι} {s s' : Shared}, St wr X i s → (∀ a, a ∈ wr ∨ a ∈ src → ∀ o, s.heap.get? a = some o → s'.heap.get? a = some o) → (∀ (j : Nat) (st : GenState), s.gens[j]? = some st → s'.gens[j]? = some st) →
    Sub h₀.get? s'.heap.get? → Sub (vis s.heap X) (vis s'.heap Y) → St wr Y i s'
  item : ∀ {wr X : List Addr} {i i' : ι} {x : V} {s : Shared} {t : Expr} {E Q : Value → Shared → Prop}, St wr X i s → next i = some (some (x, i')) → (∀ a, a ∈ wr → a ∈ X) → s.heap.objs.size ∉ X → Sub h₀.get? s.heap.get? → isTup t = tup → Tgt t →
    (∀ v s' wr', St wr' (X ++ wr') i' s' → GStp N wr s s' → (∀ a, a ∈ wr → a ∈ wr') → (∀ a, a ∈ wr' → (a ∈ wr ∨ s.heap.get? a = none) ∧ ∃ o, s'.heap.get? a = some o) → Rep prog w (vis s'.heap (X ++ wr')) v x → Q v s') →
    wpAny (model prog w) A (pyNext (.ref I)) (fun r s₁ => ∃ v, r = some v ∧ wpAny (model prog w) A (letOwnedTupleGo t (.ref I) v) (fun _ s' => Q v s') E s₁) E s
  done : ∀ {wr X : List Addr} {i : ι} {s : Shared} {E : Value → Shared → Prop} {Q : Option Value → Shared → Prop}, St wr X i s → next i = some none → Sub h₀.get? s.heap.get? → (∀ s', GStp N wr s s' → Q none s') → wpAny (model prog w) A (pyNext (.ref I)) Q E s
/-- it stands, laid anew since s -/
structure ItG (prog : Program) (w : World) (h₀ : Heap) (A : Around) (L : Lay) {ι : Type} (next : ι → Option (Option (V × ι))) (i₀ : ι) (tup : Bool) (s s' : Shared) (I : Addr) (wr src : List Addr) (St : List Addr → List Addr → ι → Shared → Prop) : Prop where
  it : IterG prog w h₀ A I next tup s.gens.size src St
  kp : Kp s s'
  fresh : ∀ a, a ∈ wr → s.heap.get? a = none
  here : ∀ a, a ∈ wr → ∃ o, s'.heap.get? a = some o
  src : ∀ a, a ∈ src → a ∈ wr ∨ (∃ o, s.heap.get? a = some o) ∧ a ∉ L.X
  st : St wr (L.X ++ wr) i₀ s'
/-- what a for goes over -/
noncomputable def SrcOK (C : Cx) (Γ : Gm) (σ : Sg) (e : Expr) {ι : Type} (next : ι → Option (Option (V × ι))) (i₀ : ι) (tup : Bool) : Prop := (∀ env x, foldedSetIterable e env x = pure x) ∧
  ∀ {prog : Program} {w : World} {h₀ : Heap} {K : Nat} {L : Lay} {env : Env} {A : Around} {s : Shared} {E Q : Value → Shared → Prop}, Fx prog w h₀ C K Γ L.own env A → Rel prog w h₀ L σ s.heap →
    (∀ I wr src St s₁ s', Kp s s₁ → Rel prog w h₀ L σ s₁.heap → ItG prog w h₀ A L next i₀ tup s₁ s' I wr src St → Q (.ref I) s') → wpAny (model prog w) A (eval e env) (fun xv s₁ => wpAny (model prog w) A (pyIter xv) Q E s₁) E s
noncomputable def uncons : List V → Option (Option (V × List V))
  | [] => some none
  | x :: r => some (some (x, r))
theorem IterOK.src {e : Expr} {tup : Bool} {xs : List V} (h : IterOK C Γ σ e true tup xs) : SrcOK C Γ σ e uncons xs tup := ⟨h.1, fun X R hQ => h.2 X R fun I wr src St s₁ s' k₁ R₁ ia =>
  hQ I wr src (fun wr' Y r s => wr' = wr ∧ St Y r s.heap) s₁ s' k₁ R₁ ⟨{
    frame := fun ⟨e, st⟩ hk _ _ hs => by subst e; exact ⟨rfl, ia.it.frame st hk hs⟩
    item := fun {wr' Y i i' x s t E Q} ⟨e, st⟩ hn hw hnew hb ht hok hQ => by
      subst e
      cases i with | nil => exact nomatch hn | cons y r =>
      cases hn
      have hsh : ∀ {h : Heap}, Sub (vis h Y) (vis h (Y ++ wr')) := vis_shrink fun a m => (List.mem_append.mp m).elim id (hw a)
      exact ia.it.item st hw hnew ht hok fun v s' st' sp rv => hQ v s' wr' ⟨rfl, ia.it.frame st' (fun _ _ _ e => e) hsh⟩ (sp.g _) (fun _ m => m) (fun a m => ⟨.inl m, ia.it.here st' a m⟩) (Rep.mono hsh rv)
    done := fun {wr' Y i s E Q} ⟨e, st⟩ hn hb hQ => by
      subst e
      cases i with | cons y r => exact nomatch hn | nil =>
      exact ia.it.done st fun s' sp => hQ s' (sp.g _) }, ia.kp, ia.fresh, ia.it.here ia.st, fun a m => (ia.src a m).imp_right fun q => ⟨q.1, q.2 rfl⟩, rfl, ia.st⟩⟩
/-- the turns of a for -/
inductive ForR (C : Cx) (Γ : Gm) {ι : Type} (next : ι → Option (Option (V × ι))) (t : Expr) (b o : List Stmt) : Nat → ι → Sg → Fl → Sg → Prop
  | nil {n i σ fl σ'} (h : next i = some none) (k : LOK C Γ σ o fl σ') : ForR C Γ next t b o n i σ fl σ'
  | cons {n i i' x σ σ₁ σ₂ fl σ'} (h : next i = some (some (x, i'))) (ha : AsgOK Γ 0 σ t x σ₁) (h1 : LOK C Γ σ₁ b .next σ₂) (k : ForR C Γ next t b o n i' σ₂ fl σ') : ForR C Γ next t b o (n + 1) i σ fl σ'
  | brk {n i i' x σ σ₁ σ'} (h : next i = some (some (x, i'))) (ha : AsgOK Γ 0 σ t x σ₁) (h1 : LOK C Γ σ₁ b .brk σ') : ForR C Γ next t b o n i σ .next σ'
  | ret {n i i' x σ σ₁ σ' v} (h : next i = some (some (x, i'))) (ha : AsgOK Γ 0 σ t x σ₁) (h1 : LOK C Γ σ₁ b (.ret v) σ') : ForR C Γ next t b o n i σ (.ret v) σ'
noncomputable abbrev Lay.hid (L : Lay) (wr new : List Addr) : Lay := ⟨L.out, L.its ++ wr, L.own ++ new⟩
theorem hid_X {wr new : List Addr} {a : Addr} : a ∈ (L.hid wr new).X ↔ (a ∈ L.X ∨ a ∈ wr) ∨ a ∈ new := by
  rw [mem_X, mem_X, List.mem_append, List.mem_append]
  exact ⟨fun h => h.elim (fun h => h.elim (fun h => .inl (.inl (.inl (.inl h)))) fun h => h.elim (fun h => .inl (.inl (.inl (.inr h)))) fun h => .inl (.inr h)) fun h => h.elim (fun h => .inl (.inl (.inr h))) .inr,
    fun h => h.elim (fun h => h.elim (fun h => h.elim (fun h => .inl (h.imp_right .inl)) fun h => .inr (.inl h)) fun h => .inl (.inr (.inr h))) fun h => .inr (.inr h)⟩
/-- where a for stands -/
structure FInv (prog : Program) (w : World) (h₀ : Heap) (L : Lay) (wr : List Addr) (s₁ : Shared) (σc : Sg) (new : List Addr) (s' : Shared) : Prop where
  fresh : ∀ a, a ∈ new → s₁.heap.get? a = none
  wfresh : ∀ a, a ∈ wr → s₁.heap.get? a = none
  stp : Stp L.own s₁ s'
  rel : Rel prog w h₀ (L.hid wr new) σc s'.heap
theorem FInv.unhide {wr new T : List Addr} {s₁ : Shared} (R₁ : Rel prog w h₀ L σ s₁.heap) (V : FInv prog w h₀ L wr s₁ σ' new s') (st : GStp s₁.gens.size T s' s'') (hT : ∀ a, a ∈ T → a ∈ wr) : SOut prog w h₀ L σ' s₁ s'' new :=
  ⟨V.fresh, V.stp.gtrans st (fun a m => V.wfresh a (hT a m)) (Nat.le_refl _), V.rel.step (its := L.its) st.heap (fun a m => List.mem_append_right _ (hT a m)) (fun a m q => absurd (m.elim (fun m => X_out (L := L) m) fun m => X_its m) (R₁.old (V.wfresh a (hT a q)))) fun a m => .inl (List.mem_append_left _ m)⟩
set_option maxHeartbeats 1000000 in
theorem s_for {ι : Type} {next : ι → Option (Option (V × ι))} {t it : Expr} {b o : List Stmt} {p : Pos} {n : Nat} {i₀ : ι} {fl : Fl} {tup : Bool} (hs : SrcOK C Γ σ it next i₀ tup) (htu : isTup t = tup) (h : ForR C Γ next t b o n i₀ σ fl σ') : SOK C Γ σ (.For t it b o p) fl σ' := fun {prog w h₀ K L env A s E Q} X R hQ => by
  refine wpAny_For (hs.2 X R fun I wr₀ src St s₁ s₂ k₁ R₁ ia => ?_) (hs.1 _)
  have vsub : ∀ {h : Heap} {wr : List Addr}, Sub (vis h (L.X ++ wr)) (vis h (L.hid wr []).X) := vis_shrink fun a m => List.mem_append.mpr ((hid_X.mp m).elim id fun m => absurd m List.not_mem_nil)
  refine codeAny_forLoop_any (fun m s' => ∃ σc i new wr, ForR C Γ next t b o m i σc fl σ' ∧ FInv prog w h₀ L wr s₁ σc new s' ∧ St wr (L.hid wr new).X i s' ∧ ∀ a, a ∈ wr₀ → a ∈ wr) ?_ n ⟨σ, i₀, [], wr₀, h,
    ⟨fun _ m => absurd m List.not_mem_nil, ia.fresh, ia.kp.stp _, by
      have := R₁.step (its := L.its ++ wr₀) (T := []) (fun a o _ e => ia.kp.heap a o e) (fun _ h => absurd h List.not_mem_nil) (fun _ _ h => absurd h List.not_mem_nil) fun a m => (List.mem_append.mp m).imp_right fun m => ⟨ia.fresh a m, ia.here a m⟩
      unfold Lay.hid; rw [List.append_nil]; exact this⟩,
    ia.it.frame ia.st (fun _ _ _ e => e) (fun _ _ e => e) (fun a o e => ia.kp.heap a o (vis_get (R₁.base a o e))) vsub, fun _ m => m⟩
  rintro m s' ⟨σc, i, new, wr, hg, V, st, hw0⟩
  have base : ∀ {σ wr new s}, Rel prog w h₀ (L.hid wr new) σ s → Sub h₀.get? s.get? := fun R => R.base.trans (vis_sub_get _ _)
  have fin : ∀ {f s'' new}, SOut prog w h₀ L σ' s₁ s'' new → FlR prog w L.out s'' f fl → Q f s'' := fun o₁ fl => hQ _ _ _ (o₁.kpl k₁) fl
  -- one turn
  have turn : ∀ {x i' σ₁ σ₂ fl'}, next i = some (some (x, i')) → AsgOK Γ 0 σc t x σ₁ → LOK C Γ σ₁ b fl' σ₂ → ∀ {E' : Value → Shared → Prop} {Q' : Flow → Shared → Prop}, (∀ f s₅ new' wr', FInv prog w h₀ L wr' s₁ σ₂ new' s₅ → St wr' (L.hid wr' new').X i' s₅ → (∀ a, a ∈ wr₀ → a ∈ wr') → FlR prog w L.out s₅ f fl' → Q' f s₅) →
      wpAny (model prog w) A (pyNext (.ref I)) (fun r s₁ => ∃ v, r = some v ∧ wpAny (model prog w) A (letOwnedTupleGo t (.ref I) v) (fun _ s₁ => wpAny (model prog w) A (assign t env v) (fun _ s₂ => wpAny (model prog w) A (execs b env) Q' E' s₂) E' s₁) E' s₁) E' s' := fun {x i' σ₁ σ₂ fl'} hn ha hb {E' Q'} hk => by
    refine ia.it.item st hn (fun a m => hid_X.mpr (.inl (.inr m))) V.rel.new (base V.rel) htu ha.tgt fun v s₃ wr' st₃ sp₃ hw hw' rv => ?_
    have wf' : ∀ a, a ∈ wr' → s₁.heap.get? a = none := fun a m => (hw' a m).1.elim (V.wfresh a) fun q => V.stp.fresh (fun b hb => V.rel.extO (List.mem_append_left _ hb)) q
    have hX : ∀ a, a ∈ (L.hid wr' new).X → a ∈ (L.hid wr new).X ++ wr' := fun a m => List.mem_append.mpr ((hid_X.mp m).elim (fun m => m.elim (fun m => .inl (hid_X.mpr (.inl (.inl m)))) .inr) fun m => .inl (hid_X.mpr (.inr m)))
    have R₃ : Rel prog w h₀ (L.hid wr' new) σc s₃.heap := V.rel.step (T := wr) sp₃.heap (fun a m => List.mem_append_right _ m) (fun a _ m => (hw' a (hw a m)).2) fun a m => (List.mem_append.mp m).elim (fun m => .inl (List.mem_append_left _ m)) fun m => (hw' a m).1.imp (List.mem_append_right _) fun q => ⟨q, (hw' a m).2⟩
    have st1 : Stp L.own s₁ s₃ := V.stp.gtrans sp₃ V.wfresh (Nat.le_refl _)
    have hsrc : ∀ a, a ∈ wr' ∨ a ∈ src → a ∉ (L.hid wr' new).own := fun a m q => m.elim (fun m => R₃.apart a q (.inr (List.mem_append_right _ m))) fun m => (ia.src a m).elim (fun m => R₃.apart a q (.inr (List.mem_append_right _ (hw a (hw0 a m))))) fun r => (List.mem_append.mp q).elim (fun q => r.2 (X_own q)) fun q => let ⟨_, e⟩ := r.1; nomatch (V.fresh a q).symm.trans e
    have erh : EnvR Γ (L.hid wr' new).own env := X.er.more (.append _ _)
    refine ha.run X.room.handled erh R₃ (Rep.mono (vis_shrink hX) rv) fun s₄ sp₄ R₄ => ?_
    have sp₄ := drop0 sp₄
    have st₄ : St wr' (L.hid wr' new).X i' s₄ := ia.it.frame st₃ (fun a m o e => sp₄.heap a o (hsrc a m) e) sp₄.gens (base R₄) ((vis_shrink hX).trans (sp₄.sub fun _ => X_own))
    refine hb (L := L.hid wr' new) (X.more (.append _ _)) R₄ fun f s₅ new' o₅ flr => ?_
    have ea : (L.hid wr' new).more new' = L.hid wr' (new ++ new') := by unfold Lay.more Lay.hid; rw [List.append_assoc]
    have hnew : ∀ a, a ∈ L.own ++ new → a ∈ L.own ∨ s₁.heap.get? a = none := fun a m => (List.mem_append.mp m).imp_right (V.fresh a)
    have st2 : Stp L.own s₁ s₅ := ⟨fun a o n e => o₅.stp.heap a o (fun m => (hnew a m).elim n fun q => nomatch q.symm.trans e) (sp₄.heap a o (fun m => (hnew a m).elim n fun q => nomatch q.symm.trans e) (st1.heap a o n e)),
      fun i g e => o₅.stp.gens i g (sp₄.gens i g (st1.gens i g e)), fun h => o₅.stp.drawn (sp₄.drawn (st1.drawn h)), o₅.stp.os.trans (sp₄.os.trans st1.os)⟩
    have st3 : Stp L.own s₁ s₄ := ⟨fun a o n e => sp₄.heap a o (fun m => (hnew a m).elim n fun q => nomatch q.symm.trans e) (st1.heap a o n e), fun i g e => sp₄.gens i g (st1.gens i g e), fun h => sp₄.drawn (st1.drawn h), sp₄.os.trans st1.os⟩
    refine hk f s₅ (new ++ new') wr' ⟨fun a m => (List.mem_append.mp m).elim (V.fresh a) fun m => st3.fresh (fun b hb => R₄.extO (List.mem_append_left _ hb)) (o₅.fresh a m), wf', st2, ea ▸ o₅.rel⟩ (ea ▸ ia.it.frame st₄ (fun a m o e => o₅.stp.heap a o (hsrc a m) e) o₅.stp.gens (base (ea ▸ o₅.rel)) o₅.sub) (fun a m => hw a (hw0 a m)) flr
  cases hg with
  | nil hn k =>
    refine ia.it.done st hn (base V.rel) fun s₃ sp => ?_
    have o₁ := V.unhide R₁ sp fun _ m => m
    exact k (o₁.fx X) o₁.rel fun f s₄ n₄ o₄ fl => fin (o₁.trans o₄) fl
  | cons hn ha h1 k =>
    refine wpAny_mono (turn hn ha h1 fun f s₅ new' wr' V' st' hw' e => ?_) (fun r s₁ h => by obtain ⟨v, rfl, h⟩ := h; exact h) fun _ _ e => e
    cases e
    exact ⟨_, Nat.lt_succ_self _, _, _, _, _, k, V', st', hw'⟩
  | brk hn ha h1 =>
    refine wpAny_mono (turn hn ha h1 fun f s₅ new' wr' V' st' hw' e => ?_) (fun r s₁ h => by obtain ⟨v, rfl, h⟩ := h; exact h) fun _ _ e => e
    cases e
    exact fin (V'.unhide R₁ (T := []) ((Stp.refl _ _).g _) fun _ m => absurd m List.not_mem_nil) rfl
  | ret hn ha h1 =>
    refine wpAny_mono (turn hn ha h1 fun f s₅ new' wr' V' st' hw' e => ?_) (fun r s₁ h => by obtain ⟨v, rfl, h⟩ := h; exact h) fun _ _ e => e
    obtain ⟨x, rfl, hr⟩ := e
    exact fin (V'.unhide R₁ (T := []) ((Stp.refl _ _).g _) fun _ m => absurd m List.not_mem_nil) ⟨x, rfl, hr⟩
end Mine
end
section
open PySem PySem.W PyProof.Rows PySem.SeqAt
namespace Mine
section
variable {M : Model} {A : Around} {R : GenEnd} {Y : Protocol} {n : Nat} {s₀ : Shared} {c : Code} {fs : List Frame} {s : Shared} {env : Env}
  {K : Flow → Sem Fin} {H : Value → Sem Fin} {gd : Bool → Bool} {lv : List Value → List Value}
theorem seg_If {test : Expr} {body orelse : List Stmt} {pos : Pos}
    (h : ∀ E, wpAny M (A.over c fs) (isTrue test env (eval test env)) (fun b s' => if b = true then Seg M A R Y n s₀ c ((execs body env).wrap K H gd lv) fs s' else Seg M A R Y n s₀ c ((execs orelse env).wrap K H gd lv) fs s') E s) :
    Seg M A R Y n s₀ c ((exec (.If test body orelse pos) env).wrap K H gd lv) fs s := by
  show Seg M A R Y n s₀ c (.at pos fun _ => (isTrue test env (eval test env) >>= fun b => if b = true then execs body env else execs orelse env).wrap K H gd lv) fs s
  refine seg_at ?_
  rw [Sem.bind_eq_wrap', Sem.wrap_wrap]
  refine seg_wrap (wpAny_mono (h _) (fun b s' hb => ?_) fun _ _ x => x)
  cases b with
  | true => exact hb
  | false => exact hb
theorem seg_Ret {pos : Pos} (h : Seg M A R Y n s₀ c (K (.ret .none)) fs s) : Seg M A R Y n s₀ c ((exec (.Return none pos) env).wrap K H gd lv) fs s := by
  show Seg M A R Y n s₀ c (.at pos fun _ => K (.ret .none)) fs s
  exact seg_at h
theorem seg_For {target iter : Expr} {body orelse : List Stmt} {pos : Pos} (hs : ∀ x, foldedSetIterable iter env x = pure x)
    (h : ∀ E, wpAny M (A.over c fs) (eval iter env) (fun x s₁ => ∀ E, wpAny M (A.over c fs) (pyIter x) (fun it s₂ => ∀ p (H' : Value → Sem Unit),
      Seg M A R Y n s₀ (.forLoop target it body orelse env) (M.den (.forLoop target it body orelse env))
        (.ret (fun r => ((match r with | .ok f => (.pure f : Sem Flow) | .error e => .raise e).onRaise H').wrap K H gd lv) none (gd false) (lv []) c p [] :: fs) s₂) E s₁) E s) :
    Seg M A R Y n s₀ c ((exec (.For target iter body orelse pos) env).wrap K H gd lv) fs s := by
  rw [exec_For]
  show Seg M A R Y n s₀ c (.at pos fun _ => ((eval iter env >>= fun y => foldedSetIterable iter env y >>= fun x => standAt iter.pos >>= fun _ => holding [x] (pyIter x) >>= fun it => runOwn (.forLoop target it body orelse env) env)).wrap K H gd lv) fs s
  refine seg_at ?_
  rw [Sem.bind_eq_wrap', Sem.wrap_wrap]
  refine seg_wrap (wpAny_mono (h _) (fun y s₁ h₁ => ?_) fun _ _ x => x)
  rw [hs]
  simp only [pure_bind]
  show Seg M A R Y n s₀ c (.at iter.pos fun _ => (holding [y] (pyIter y) >>= fun it => runOwn (.forLoop target it body orelse env) env).wrap K H gd lv) fs s₁
  refine seg_at ?_
  rw [Sem.bind_eq_wrap', Sem.wrap_wrap]
  refine seg_wrap (wpAny_holding (wpAny_mono (h₁ _) (fun it s₂ h₂ => ?_) fun _ _ x => x))
  exact seg_call fun p => h₂ p _
end
section
variable {prog : Program} {w : World} {A : Around} {R : GenEnd} {Y : Protocol} {n : Nat} {s₀ : Shared} {fs : List Frame} {s : Shared} {env : Env}
noncomputable def forK (c : Code) : Flow → Sem Fin
  | .next | .cont => .pure (.again c)
  | .brk => .pure (.done .next)
  | .ret v => .pure (.done (.ret v))
theorem seg_forLoop {x : Str} {px : Pos} {it : Value} {body : List Stmt}
    (h : ∀ E, wpAny (model prog w) (A.over (.forLoop (.Name x px) it body [] env) fs) (pyNext it) (fun r s₁ => match r with
      | none => ∀ c', Seg (model prog w) A R Y n s₀ c' (leafOf (.ok .next)) fs s₁
      | some v => ∀ E, wpAny (model prog w) (A.over (.forLoop (.Name x px) it body [] env) fs) (assign (.Name x px) env v) (fun _ s₂ => ∀ H, Seg (model prog w) A R Y n s₀ (.forLoop (.Name x px) it body [] env) ((execs body env).wrap (forK (.forLoop (.Name x px) it body [] env)) H id id) fs s₂) E s₁) E s) :
    Seg (model prog w) A R Y n s₀ (.forLoop (.Name x px) it body [] env) ((model prog w).den (.forLoop (.Name x px) it body [] env)) fs s := by
  show Seg _ A R Y n s₀ _ ((forTurn (.Name x px) it body [] env).onRaise (fun x => do noteFrame x env; theTreesLotGoes x)) fs s
  rw [Sem.onRaise_eq_wrap]
  unfold forTurn
  show Seg _ A R Y n s₀ _ (.at _ fun _ => (((pyNext it).onRaise (fun _ => standAt { (Expr.Name x px).pos with line := 0 }) >>= _).wrap _ _ _ _)) fs s
  refine seg_at ?_
  rw [Sem.bind_eq_wrap', Sem.wrap_wrap, Sem.onRaise_eq_wrap, Sem.wrap_wrap]
  refine seg_wrap (wpAny_mono (h _) (fun r s₁ h₁ => ?_) fun _ _ x => x)
  cases r with
  | none =>
    show Seg _ A R Y n s₀ _ (.pure (.again (.block [] env))) fs s₁
    refine seg_again rfl ?_
    exact h₁ _
  | some v =>
    show Seg _ A R Y n s₀ _ ((assign (.Name x px) env v >>= fun _ => execs body env >>= _).wrap _ _ _ _) fs s₁
    rw [Sem.bind_eq_wrap', Sem.wrap_wrap]
    refine seg_wrap (wpAny_mono (h₁ _) (fun _ s₂ h₂ => ?_) fun _ _ x => x)
    rw [Sem.bind_eq_wrap', Sem.wrap_wrap]
    rw [Sem.wrap_congr (execs body env) _ _ (K' := forK (.forLoop (.Name x px) it body [] env)) (fun f => by cases f <;> rfl) (fun e => rfl)]
    exact h₂ _
/-- the next of a generator's function -/
theorem pyNext_genF {E : Value → Shared → Prop} {a : Addr} {g n : Nat} {gs : GenState} {P : Nat → Shared → Shared → Prop} {Y : Protocol} {Q : Option Value → Shared → Prop} (hh : A.handled = none)
    (hl : s.heap.NoLimit) (hroom : A.depth < recursionLimit)
    (hg : s.heap.IsGen a g) (hgs : s.gens[g]? = some gs)
    (hgo : gs.Goes (model prog w) A.in1 (fun n s₀ r s₁ => r = .ok (.ret .none) ∧ P n s₀ s₁) Y n (.send .none) (s.setGen g .running))
    (hY : ∀ v s₁ gs', gs'.bare = true → Y (n - 1) (s.setGen g .running) v s₁ (fun r' s'' => match n with
        | 0 => False
        | m + 1 => gs'.Goes (model prog w) A.in1 (fun n s₀ r s₁ => r = .ok (.ret .none) ∧ P n s₀ s₁) Y m r' s'') → Q (some v) (s₁.setGen g gs'))
    (hP : ∀ s₁, P n (s.setGen g .running) s₁ → ∀ h', (∀ b o, s₁.heap.get? b = some o → h'.get? b = some o) → Q none { s₁.setGen g .finished with heap := h' }) :
    wpAny (model prog w) A (pyNext (.ref a)) Q E s := by
  unfold pyNext
  refine wpAny_bind (wpAny_attempt (wpAny_callSpecial?_slot (name := Str.ofString "__next__") hg.typeIs slot_gen_next
    (wpAny_call_entry slot_gen_next hg.typeIs entry_gen_next ?_ (args_gen_next _))))
  show wpAny _ A.in1 (Builtin.Generator.genWake (.ref a) (.send .none)) _ _ s
  unfold Builtin.Generator.genWake
  refine wpAny_bind (wpAny_holding (wpAny_genNumber hg (wpAny_bind (wpAny_genState hgs ?_))))
  cases gs with
  | running => exact hgo.elim
  | finished => exact hgo.elim
  | _ =>
    refine wpAny_bind (wpAny_roomToWake hl hroom ?_)
    show wpAny _ A.in1 (.resume g (.send .none) [] _) _ _ s
    refine wpAny_resumeQ hgs hgo (fun x s₁ hx => ?_) (fun v s₁ gs' hb hv => ?_)
    · obtain ⟨rfl, hp⟩ := hx
      show wpAny _ A.in1 (newExc (.type "StopIteration") [] >>= _) _ _ _
      refine wpAny_bind ?_
      simp only [newExc, newTuple]
      refine wpAny_bind (wpAny_newObj_type ?_ (by size_fits))
      refine wpAny_bind (m := firstArgMember _ _) (wpAny_of_eq (a := Value.none) (by first | rfl | (simp only [firstArgMember]; rfl)) ?_)
      refine wpAny_newObj_type ?_ (by size_fits)
      simp only [raiseNew]
      refine wpAny_bind (wpAny_bind (wpAny_handled ?_))
      first | rw [show A.in1.handled = none from hh] | rw [hh]
      refine wpAny_throw ?_
      refine wpAny_bind (wpAny_isInstance (T := "StopIteration") (b := true) ⟨_, Heap.get?_push_size _ rfl, rfl⟩ isSubtype_stop ?_)
      exact wpAny_pure (hP s₁ hp _ fun b o hb => Heap.get?_push_of_some _ (Heap.get?_push_of_some _ hb))
    · exact wpAny_pure ⟨v, rfl, wpAny_pure (hY v s₁ gs' hb hv)⟩
end
/-- the states, by how many nexts are left -/
structure Sq (N : Nat) (sq : Nat → GSt) : Prop where
  isDef : ∀ n, n + 1 ≤ N → (genNext (sq (n + 1))).isSome = true
  step : ∀ n x g', n + 1 ≤ N → genNext (sq (n + 1)) = some (some (x, g')) → sq n = g'
/-- what the generator turns -/
structure T2 (Lg I : Addr) (s s' : Shared) : Prop where
  heap : ∀ a o, a ≠ Lg → a ≠ I → s.heap.get? a = some o → s'.heap.get? a = some o
  gens : s'.gens = s.gens
  os : s'.os = s.os
theorem T2.refl (Lg I : Addr) (s : Shared) : T2 Lg I s s := ⟨fun _ _ _ _ e => e, rfl, rfl⟩
theorem T2.trans {Lg I : Addr} {s s' s'' : Shared} (x : T2 Lg I s s') (y : T2 Lg I s' s'') : T2 Lg I s s'' := ⟨fun a o h1 h2 e => y.heap a o h1 h2 (x.heap a o h1 h2 e), y.gens.trans x.gens, y.os.trans x.os⟩
noncomputable def FrK (Lg I l : Addr) (h₀ : Heap) (s' s'' : Shared) : Prop := (∀ a, a = Lg ∨ a = I ∨ a = l → ∀ o, s'.heap.get? a = some o → s''.heap.get? a = some o) ∧ Sub h₀.get? s''.heap.get?
section
variable {prog : Program} {w : World} {h₀ : Heap}
/-- the generator's own places -/
structure GK (h₀ : Heap) (mg : Str → Option Value) (Lg I l : Addr) : Prop where
  glob : h₀.Ns mainGlobals mg
  max : ∃ t, mg nMax = some (.int 127 t)
  ne1 : Lg ≠ I
  ne2 : l ≠ Lg
  ne3 : l ≠ I
  own : h₀.get? Lg = none
  own2 : h₀.get? I = none
/-- the generator's own part of the heap -/
structure GI (h₀ : Heap) (Lg I l : Addr) (items : Array Value) (m : Str → Option Value) (i : Nat) (s : Shared) : Prop where
  ns : s.heap.Ns Lg m
  it : s.heap.IsListIter I l i
  ls : s.heap.IsList l items
  base : Sub h₀.get? s.heap.get?
theorem GI.kept {Lg I l : Addr} {items : Array Value} {m : Str → Option Value} {i : Nat} {s s'' : Shared} (x : GI h₀ Lg I l items m i s) (k : FrK Lg I l h₀ s s'') : GI h₀ Lg I l items m i s'' :=
  ⟨x.ns.at' fun o e => k.1 Lg (.inl rfl) o e, x.it.at fun o e => k.1 I (.inr (.inl rfl)) o e, x.ls.at fun o e => k.1 l (.inr (.inr rfl)) o e, k.2⟩
variable {A : Around} {E : Value → Shared → Prop} {mg : Str → Option Value} {Lg I l : Addr} {items : Array Value} {m : Str → Option Value} {i : Nat} {s : Shared} {env : Env} {N : Nat} {sq : Nat → GSt}
/-- the generator's environment -/
structure GEnv (Lg : Addr) (env : Env) : Prop where
  kind : env.scope.kind = .function
  loc : env.locals = Lg
  glob : env.globals = mainGlobals
  k1 : env.kindOf nLast = some .local
  k2 : env.kindOf nInt = some .local
  k3 : env.kindOf nGrp = some .local
  k4 : env.kindOf nMax = some .globalImplicit
  co : env.scope.isCoroutine = false
theorem GEnv.inter (G : GEnv Lg env) : interactive env = false := by
  unfold interactive
  rw [G.kind]; rfl
theorem ldG {x : Str} {p : Pos} {v : Value} {Q : Value → Shared → Prop} (G : GEnv Lg env) (x₁ : GI h₀ Lg I l items m i s) (hk : env.kindOf x = some .local) (hv : m x = some v) (hd : (x == ("__debug__" : Str)) = false) (h : Q v s) : wpAny (model prog w) A (eval (.Name x p) env) Q E s :=
  wpAny_Name (wpAny_loadName_local G.kind hk (by rw [G.loc]; exact x₁.ns) hv h) hd
theorem stG {x : Str} {v : Value} {Q : Unit → Shared → Prop} (G : GEnv Lg env) (k : GK h₀ mg Lg I l) (x₁ : GI h₀ Lg I l items m i s) (hk : env.kindOf x = some .local)
    (h : ∀ s', GI h₀ Lg I l items (fun y => if y = x then some v else m y) i s' → T2 Lg I s s' → Q () s') : wpAny (model prog w) A (storeName env x v) Q E s := by
  refine wpAny_storeName_local hk (by rw [G.loc]; exact x₁.ns) (fun h' hn hs => ?_) (by rw [G.kind]; rfl)
  rw [G.loc] at hn hs
  have b : But Lg s.heap h' := .of hs
  exact h _ ⟨hn, x₁.it.at fun o e => b I o k.ne1.symm e, x₁.ls.at fun o e => b l o k.ne2 e, fun a o e => b a o (fun e' => nomatch (e' ▸ k.own).symm.trans e) (x₁.base a o e)⟩ ⟨fun a o h1 _ e => b a o h1 e, rfl, rfl⟩
theorem eqInt {a b : Int} {t u : Tok} {Q : Bool → Shared → Prop} (h : Q (a == b) s) : wpAny (model prog w) A (compareOp .Eq (.int a t) (.int b u)) (fun c s₃ => wpAny (model prog w) A (truthy c) Q E s₃) E s :=
  (RcAt.int_int _ _ _ _ : RcAt A s (.int a t) (.int b u) (a == b)) prog w E _ (wpAny_truthy_bool h)
noncomputable def YG (h₀ : Heap) (Lg I l : Addr) (sq : Nat → GSt) : Protocol := fun m s₀ v s' kap =>
  (∃ x g' t, genNext (sq (m + 1)) = some (some (x, g')) ∧ v = .int x t) ∧ T2 Lg I s₀ s' ∧ (∃ o, s'.heap.get? Lg = some o) ∧ (∃ o, s'.heap.get? I = some o) ∧ (1 ≤ m → ∀ s'', FrK Lg I l h₀ s' s'' → kap (.send .none) s'')
noncomputable def PG (Lg I : Addr) (sq : Nat → GSt) (n : Nat) (s₀ s₁ : Shared) : Prop := genNext (sq n) = some none ∧ T2 Lg I s₀ s₁
noncomputable abbrev RG (Lg I : Addr) (sq : Nat → GSt) : GenEnd := fun n s₀ r s₁ => r = .ok (.ret .none) ∧ PG Lg I sq n s₀ s₁
theorem GI.exL (x : GI h₀ Lg I l items m i s) : ∃ o, s.heap.get? Lg = some o := let ⟨o, _, _, e, _⟩ := x.ns; ⟨o, e⟩
theorem GI.exI (x : GI h₀ Lg I l items m i s) : ∃ o, s.heap.get? I = some o := let ⟨o, e, _⟩ := x.it; ⟨o, e⟩
/-- the endless loop, with n more nexts after this one -/
noncomputable def WhileOK (prog : Program) (w : World) (h₀ : Heap) (A : Around) (Lg I l : Addr) (items : Array Value) (env : Env) (P : GPos) (sq : Nat → GSt) (N n : Nat) : Prop :=
  n + 1 ≤ N → ∀ (fs : List Frame) (s₀ s : Shared) (m : Str → Option Value) (i : Nat) (x : Int) (t : Tok) (g' : GSt), splitAtGen fs = none → fs.any Frame.guarded = false →
    GI h₀ Lg I l items m i s → m nLast = some (.int x t) → T2 Lg I s₀ s → genNext (sq (n + 1)) = some (some (x, g')) → g'.inf = true → g'.last = some x →
    Seg (model prog w) A (RG Lg I sq) (YG h₀ Lg I l sq) (n + 1) s₀ (.whileLoop (.Constant (.bool true) P.n4 P.f3) (yLoop P) [] env) ((model prog w).den (.whileLoop (.Constant (.bool true) P.n4 P.f3) (yLoop P) [] env)) fs s
theorem segWhile (P : GPos) (GE : GEnv Lg env) (S : Sq N sq) : ∀ n, WhileOK prog w h₀ A Lg I l items env P sq N n := by
  have step : ∀ n, (∀ k, n = k + 1 → WhileOK prog w h₀ A Lg I l items env P sq N k) → WhileOK prog w h₀ A Lg I l items env P sq N n := fun n ih hN fs s₀ s m i x t g' hfs hfg gi hm t2 hnext hinf hlast => by
    refine seg_whileLoop (wpAny_isTrue_value (wpAny_Constant_bool (wpAny_truthy_bool ?_)) rfl)
    rw [if_pos rfl]
    refine seg_execs_cons (seg_Expr_Yield hfs rfl hfg (ldG GE gi GE.k1 hm (by decide) fun kap hkap => ?_) GE.co GE.inter)
    refine ⟨⟨x, g', t, hnext, rfl⟩, t2, gi.exL, gi.exI, fun hn s'' fk => hkap .none s'' (seg_execs_nil (seg_again rfl ?_))⟩
    obtain ⟨k, rfl⟩ : ∃ k, n = k + 1 := ⟨n - 1, (Nat.sub_add_cancel hn).symm⟩
    refine ih k rfl (Nat.le_of_succ_le hN) _ _ _ _ _ _ _ g' hfs hfg (gi.kept fk) hm (T2.refl ..) ?_ hinf hlast
    rw [S.step _ x g' hN hnext]
    unfold genNext
    rw [hinf, hlast]; rfl
  intro n
  induction n with
  | zero => exact step 0 fun k e => nomatch e
  | succ n ih => exact step (n + 1) fun k e => Nat.succ.inj e ▸ ih
noncomputable def lastV (o : Option Int) (v : Value) : Prop := match o with
  | none => v = .none
  | some x => ∃ t, v = .int x t
theorem GI.tok (x : GI h₀ Lg I l items m i s) (n : Nat) : GI h₀ Lg I l items m i { s with toks := n } := ⟨x.ns, x.it, x.ls, x.base⟩
theorem T2.tok {s₀ : Shared} (x : T2 Lg I s₀ s) (n : Nat) : T2 Lg I s₀ { s with toks := n } := ⟨x.heap, x.gens, x.os⟩
theorem segFor (P : GPos) (GE : GEnv Lg env) (S : Sq N sq) (k : GK h₀ mg Lg I l) (hh : A.handled = none) {fs : List Frame} (hfs : splitAtGen fs = none) (hfg : fs.any Frame.guarded = false) (hmk : ∀ c, (A.over c fs).handled = none)
    (hEnd : ∀ n s₀ s c', PG Lg I sq n s₀ s → Seg (model prog w) A (RG Lg I sq) (YG h₀ Lg I l sq) n s₀ c' (leafOf (.ok .next)) fs s ∧ Seg (model prog w) A (RG Lg I sq) (YG h₀ Lg I l sq) n s₀ c' (leafOf (.ok (.ret .none))) fs s) : ∀ (n : Nat), n + 1 ≤ N →
    ∀ (s₀ s : Shared) (m : Str → Option Value) (i : Nat) (last : Option Int) (v : Value) (rest : List V) (G0 : G), Reps prog w G0 (items.toList.drop i) rest → GI h₀ Lg I l items m i s → m nLast = some v → lastV last v → T2 Lg I s₀ s → sq (n + 1) = ⟨rest, last, false⟩ →
    Seg (model prog w) A (RG Lg I sq) (YG h₀ Lg I l sq) (n + 1) s₀ (.forLoop (.Name nInt P.b0) (.ref I) (gBody P) [] env) ((model prog w).den (.forLoop (.Name nInt P.b0) (.ref I) (gBody P) [] env)) fs s
  | n, hN, s₀, s, m, i, last, v, rest, G0, hr, gi, hm, hlast, t2, hseq => by
    have hd := S.isDef n hN
    rw [hseq] at hd
    refine seg_forLoop fun E => ?_
    cases rest with
    | nil =>
      refine wpAny_pyNext_list_end (hmk _) gi.it gi.ls ((Array.getElem?_toList ..).symm.trans (List.getElem?_eq_none (List.drop_eq_nil_iff.mp (show _ = [] from hr)))) fun h' he c' => ?_
      exact (hEnd (n + 1) s₀ { s with heap := h' } c' ⟨by rw [hseq]; rfl, t2.trans ⟨fun a o _ h2 e => he a o h2 e, rfl, rfl⟩⟩).1
    | cons y rest =>
      obtain ⟨u, us, hu, hru, hr'⟩ := hr
      obtain ⟨hu1, hu2, hu3⟩ := drop_cons hu.symm
      obtain ⟨z, rfl⟩ : ∃ z, y = .int z := by
        cases y <;> first | exact ⟨_, rfl⟩ | exact nomatch hd
      obtain ⟨tz, rfl⟩ := hru
      refine wpAny_pyNext_list_item gi.it gi.ls ((Array.getElem?_toList ..).symm.trans hu1) fun h₁ hit₁ hs₁ E => ?_
      have b₁ : But I s.heap h₁ := .of hs₁
      have gi₁ : GI h₀ Lg I l items m (i + 1) { s with heap := h₁ } := ⟨gi.ns.at' fun o e => b₁ Lg o k.ne1 e, hit₁, gi.ls.at fun o e => b₁ l o k.ne3 e, fun a o e => b₁ a o (fun e' => nomatch (e' ▸ k.own2).symm.trans e) (gi.base a o e)⟩
      have t₁ : T2 Lg I s₀ { s with heap := h₁ } := t2.trans ⟨fun a o _ h2 e => b₁ a o h2 e, rfl, rfl⟩
      refine wpAny_assign_Name (stG GE k gi₁ GE.k2 fun s₂ gi₂ t₂ H => ?_)
      have t02 := t₁.trans t₂
      obtain ⟨tm, hmax⟩ := k.max
      have hz : (fun y => if y = nInt then some (Value.int z tz) else m y) nInt = some (.int z tz) := if_pos rfl
      refine seg_execs_cons (seg_If fun E => wpAny_isTrue_Compare1 (ldG GE gi₂ GE.k2 hz (by decide) (Calls.Name_function_global GE.kind GE.k4 (Calls.loadGlobal_global (by rw [GE.glob]; exact k.glob.at' fun o e => gi₂.base _ o e) hmax (eqInt ?_)) (by decide))) rfl)
      cases h127 : (z == (127 : Int)) with
      | true =>
        rw [if_pos rfl]
        cases eq_of_beq h127
        exact seg_execs_cons (seg_Ret (hEnd (n + 1) s₀ s₂ _ ⟨by rw [hseq]; rfl, t02⟩).2)
      | false =>
        rw [if_neg Bool.false_ne_true]
        refine seg_execs_nil (seg_execs_cons (seg_If fun E => wpAny_isTrue_Compare1 (ldG GE gi₂ GE.k2 hz (by decide) (wpAny_Constant_int (eqInt ?_))) rfl))
        have gi₃ := gi₂.tok (s₂.toks + 1)
        have t03 := t02.tok (s₂.toks + 1)
        cases h0 : (z == (0 : Int)) with
        | true =>
          rw [if_pos rfl]
          cases eq_of_beq h0
          cases last with | none => exact nomatch hd | some lv =>
          obtain ⟨tl, rfl⟩ := hlast
          have hm' : (fun y => if y = nInt then some (.int 0 tz) else m y) nLast = some (.int lv tl) := (if_neg (show ¬ nLast = nInt by decide)).trans hm
          refine seg_execs_cons (seg_If fun E => wpAny_isTrue_Compare1 (ldG GE gi₃ GE.k1 hm' (by decide) (wpAny_Constant_none (is_int_none (wpAny_truthy_bool ?_)))) rfl)
          rw [if_neg Bool.false_ne_true]
          refine seg_execs_nil (seg_execs_cons (seg_While fun p => ?_))
          refine segWhile P GE S n hN _ _ _ _ _ _ _ ⟨rest, some lv, true⟩ ?_ ?_ gi₃ hm' t03 (by rw [hseq]; rfl) rfl rfl
          · simp only [splitAtGen, hfs, Option.map_none]
          · simp [List.any_cons, Frame.guarded, hfg]
        | false =>
          rw [if_neg Bool.false_ne_true]
          have hnx : genNext (sq (n + 1)) = some (some (z, ⟨rest, some z, false⟩)) := by
            rw [hseq]
            show (if z = 127 then _ else if z = 0 then _ else _) = _
            rw [if_neg (ne_of_beq_false h127), if_neg (ne_of_beq_false h0)]
          refine seg_execs_nil (seg_execs_cons (seg_Expr_Yield hfs rfl hfg (ldG GE gi₃ GE.k2 hz (by decide) fun kap hkap => ?_) GE.co GE.inter))
          refine ⟨⟨z, _, tz, hnx, rfl⟩, t03, gi₃.exL, gi₃.exI, fun hn s'' fk => hkap .none s'' ?_⟩
          have gi₄ := gi₃.kept fk
          refine seg_execs_cons (seg_wrap (wpAny_Assign_Name (ldG GE gi₄ GE.k2 hz (by decide) (stG GE k gi₄ GE.k1 fun s₅ gi₅ t₅ => ?_)) rfl))
          refine seg_execs_nil (seg_again rfl ?_)
          have hs := S.step n _ _ hN hnx
          cases n with | zero => exact absurd hn (by decide) | succ n =>
          exact segFor P GE S k hh hfs hfg hmk hEnd n (Nat.le_of_succ_le hN) _ _ _ _ (some z) (.int z tz) rest G0 (hu3 ▸ hr') gi₅ (if_pos rfl) ⟨tz, rfl⟩ t₅ hs
/-- before the generator's first step -/
structure GPre (h₀ : Heap) (mg : Str → Option Value) (Lg l : Addr) (items : Array Value) (m : Str → Option Value) (s : Shared) : Prop where
  ns : s.heap.Ns Lg m
  grp : m nGrp = some (.ref l)
  ls : s.heap.IsList l items
  base : Sub h₀.get? s.heap.get?
  glob : h₀.Ns mainGlobals mg
  max : ∃ t, mg nMax = some (.int 127 t)
  ne2 : l ≠ Lg
  own : h₀.get? Lg = none
theorem gen_first {xs : List V} {G0 : G} {n : Nat} (P : GPos) (GE : GEnv Lg env) (S : Sq (n + 1) sq) (h0 : sq (n + 1) = ⟨xs, none, false⟩) (hr : Reps prog w G0 items.toList xs) (hh : A.handled = none) (gp : GPre h₀ mg Lg l items m s) :
    Seg (model prog w) A (RG Lg s.heap.objs.size sq) (YG h₀ Lg s.heap.objs.size l sq) (n + 1) s (.func (gAll P) env) ((model prog w).den (.func (gAll P) env)) [] s := by
  have hlt : l < s.heap.objs.size := let ⟨_, e, _⟩ := gp.ls; Heap.lt_size e
  have hLg : Lg < s.heap.objs.size := let ⟨_, _, _, e, _⟩ := gp.ns; Heap.lt_size e
  refine seg_func (seg_execs_cons (seg_wrap (wpAny_Assign_Name (wpAny_Constant_none (wpAny_storeName_local GE.k1 (by rw [GE.loc]; exact gp.ns) (fun h₁ hn₁ hs₁ => ?_) (by rw [GE.kind]; rfl))) rfl)))
  rw [GE.loc] at hn₁ hs₁
  have b₁ : But Lg s.heap h₁ := .of hs₁
  have hsz : h₁.objs.size = s.heap.objs.size := hs₁.1
  have ls₁ : h₁.IsList l items := gp.ls.at fun o e => b₁ l o gp.ne2 e
  have base₁ : Sub h₀.get? h₁.get? := fun b o e => b₁ b o (fun e' => nomatch (e' ▸ gp.own).symm.trans e) (gp.base b o e)
  refine seg_execs_cons (seg_For (fun _ => rfl) fun E => wpAny_Name (wpAny_loadName_local (v := .ref l) GE.kind GE.k3 (by rw [GE.loc]; exact hn₁) (by rw [if_neg (by decide)]; exact gp.grp) fun E => ?_) (by decide))
  refine wpAny_pyIter_list ls₁ fun p H' => ?_
  have hit : (h₁.push { cls := .type "list_iterator", data := .fields #[.ref l, .int 0 0] }).IsListIter h₁.objs.size l 0 := ⟨_, Heap.get?_push_size _ rfl, rfl, rfl⟩
  rw [hsz] at hit
  rw [hsz]
  have gi : GI h₀ Lg s.heap.objs.size l items (fun y => if y = nLast then some .none else m y) 0 { s with heap := h₁.push { cls := .type "list_iterator", data := .fields #[.ref l, .int 0 0] }, toks := s.toks + 1 } :=
    ⟨hn₁.at' fun o e => Heap.get?_push_of_some _ e, hit, ls₁.at fun o e => Heap.get?_push_of_some _ e, fun b o e => Heap.get?_push_of_some _ (base₁ b o e)⟩
  have k : GK h₀ mg Lg s.heap.objs.size l := ⟨gp.glob, gp.max, Nat.ne_of_lt hLg, gp.ne2, Nat.ne_of_lt hlt, gp.own, by
    cases q : h₀.get? s.heap.objs.size with
    | none => rfl
    | some o => exact absurd (Heap.lt_size (gp.base _ _ q)) (Nat.lt_irrefl _)⟩
  refine segFor P GE S k hh ?_ ?_ (fun c => ?_) (fun n s₀ s₁ c' pg => ?_) n (Nat.le_refl _) _ _ _ 0 none .none xs G0 hr gi (if_pos rfl) rfl ?_ h0
  · simp [splitAtGen]
  · simp [Frame.guarded]
  · simp [Around.over, marksOver, Frame.marks, markOver, hh]
  · exact ⟨seg_leaf (.ok .next) (seg_end (.ok (.ret .none)) ⟨rfl, pg⟩), seg_leaf (.ok (.ret .none)) (seg_end (.ok (.ret .none)) ⟨rfl, pg⟩)⟩
  · exact ⟨fun a o h1 _ e => Heap.get?_push_of_some _ (b₁ a o h1 e), rfl, rfl⟩
end
end Mine
end
section
open PySem PySem.W PyProof.Rows PySem.SeqAt
namespace Mine
variable {prog : Program} {w : World} {h₀ : Heap} {C : Cx} {K : Nat} {Γ : Gm} {L : Lay} {env : Env} {σ σ' σ'' : Sg} {s s' s'' : Shared} {A : Around} {E : Value → Shared → Prop}
theorem gens_ne {a : Array GenState} {g i : Nat} {x : GenState} (h : i ≠ g) : (a.setIfInBounds g x)[i]? = a[i]? := by
  rw [Array.getElem?_setIfInBounds, if_neg (Ne.symm h)]
theorem gens_eq {a : Array GenState} {g : Nat} {x y : GenState} (h : a[g]? = some y) : (a.setIfInBounds g x)[g]? = some x := by
  rw [Array.getElem?_setIfInBounds, if_pos rfl, if_pos (Array.getElem?_eq_some_iff.mp h).1]
theorem bare_set {a : Array GenState} {g : Nat} {x : GenState} (h : AllBare a) (hx : x.bare = true) : AllBare (a.setIfInBounds g x) := fun y hy =>
  (Array.mem_or_eq_of_mem_setIfInBounds hy).elim (h y) fun h' => h' ▸ hx
/-- the nexts that are left, and what they give -/
noncomputable def nextN (sq : Nat → GSt) : Nat → Option (Option (V × Nat))
  | 0 => none
  | n + 1 => (genNext (sq (n + 1))).map fun r => r.map fun p => (.int p.1, n)
theorem nextN_yes {sq : Nat → GSt} {n n' : Nat} {x : V} (h : nextN sq n = some (some (x, n'))) : n = n' + 1 ∧ ∃ i g', genNext (sq n) = some (some (i, g')) ∧ x = .int i := by
  cases n with | zero => exact nomatch h | succ n =>
  obtain ⟨r, hr, e⟩ := Option.map_eq_some_iff.mp h
  obtain ⟨⟨i, g'⟩, rfl, e⟩ := Option.map_eq_some_iff.mp e
  cases e
  exact ⟨rfl, i, g', hr, rfl⟩
theorem nextN_no {sq : Nat → GSt} {n : Nat} (h : nextN sq n = some none) : ∃ k, n = k + 1 ∧ genNext (sq n) = some none := by
  cases n with | zero => exact nomatch h | succ n =>
  obtain ⟨r, hr, e⟩ := Option.map_eq_some_iff.mp h
  cases r with | some p => exact nomatch e | none =>
  exact ⟨n, rfl, hr⟩
/-- where the generator stands -/
structure GAt (prog : Program) (w : World) (h₀ : Heap) (A : Around) (mg : Str → Option Value) (Lg l Gob gi : Nat) (items : Array Value) (m0 : Str → Option Value) (P : GPos) (genv : Env) (sq : Nat → GSt) (N : Nat) (wr X : List Addr) (n : Nat) (s : Shared) : Prop where
  isg : s.heap.IsGen Gob gi
  gap : Lg ≠ Gob
  rdy : ∃ gs, s.gens[gi]? = some gs ∧ ((n = N ∧ wr = [Gob, Lg] ∧ gs = .fresh (.func (gAll P) genv) ∧ GPre h₀ mg Lg l items m0 s) ∨
    ∃ I, I ≠ Gob ∧ wr = [Gob, Lg, I] ∧ (1 ≤ n → ∀ s'', FrK Lg I l h₀ s s'' → gs.Goes (model prog w) A.in1 (RG Lg I sq) (YG h₀ Lg I l sq) n (.send .none) s''))
theorem gen_go {mg : Str → Option Value} {Lg l Gob gi : Nat} {items : Array Value} {m0 : Str → Option Value} {P : GPos} {genv : Env} {sq : Nat → GSt} {N n : Nat} {wr X : List Addr} {xs : List V} {G0 : G} (GE : GEnv Lg genv) (S : Sq (N + 1) sq) (h0 : sq (N + 1) = ⟨xs, none, false⟩) (hr : Reps prog w G0 items.toList xs) (hh : A.handled = none)
    (st : GAt prog w h₀ A mg Lg l Gob gi items m0 P genv sq (N + 1) wr X (n + 1) s) (hb : Sub h₀.get? s.heap.get?) :
    ∃ I gs, s.gens[gi]? = some gs ∧ gs.Goes (model prog w) A.in1 (RG Lg I sq) (YG h₀ Lg I l sq) (n + 1) (.send .none) (s.setGen gi .running) ∧ Lg ∈ wr ∧ (∀ a, a ∈ wr → a ∈ [Gob, Lg, I]) ∧ (I ∈ wr ∨ s.heap.get? I = none) ∧ I ≠ Gob ∧ Gob ∈ wr := by
  obtain ⟨gs, hgs, h⟩ := st.rdy
  rcases h with ⟨hn, rfl, rfl, gp⟩ | ⟨I, hI, rfl, h⟩
  · cases hn
    exact ⟨s.heap.objs.size, _, hgs, ⟨rfl, gen_first (s := s.setGen gi .running) P GE S h0 hr hh ⟨gp.ns, gp.grp, gp.ls, gp.base, gp.glob, gp.max, gp.ne2, gp.own⟩⟩, List.mem_cons_of_mem _ (List.mem_cons_self ..), fun a ha => (List.mem_cons.mp ha).elim (fun e => e ▸ List.mem_cons_self ..) fun ha => (List.mem_singleton.mp ha) ▸ List.mem_cons_of_mem _ (List.mem_cons_self ..), .inr (fresh_size s), fun e => (by obtain ⟨o, _, _, q, _⟩ := st.isg; exact nomatch (e ▸ fresh_size s).symm.trans q), List.mem_cons_self ..⟩
  · exact ⟨I, gs, hgs, h (Nat.succ_pos _) _ ⟨fun _ _ _ e => e, hb⟩, List.mem_cons_of_mem _ (List.mem_cons_self ..), fun a ha => ha, .inl (List.mem_cons_of_mem _ (List.mem_cons_of_mem _ (List.mem_cons_self ..))), hI, List.mem_cons_self ..⟩
theorem Iter.gen {mg : Str → Option Value} {Lg l Gob gi M : Nat} {items : Array Value} {m0 : Str → Option Value} {P : GPos} {genv : Env} {sq : Nat → GSt} {N : Nat} {xs : List V} {G0 : G} (GE : GEnv Lg genv) (S : Sq (N + 1) sq) (h0 : sq (N + 1) = ⟨xs, none, false⟩) (hr : Reps prog w G0 items.toList xs) (hh : A.handled = none) (hd : A.depth < recursionLimit) (hnl : h₀.NoLimit) (hM : M ≤ gi) :
    IterG prog w h₀ A Gob (nextN sq) false M [l] (GAt prog w h₀ A mg Lg l Gob gi items m0 P genv sq (N + 1)) where
  frame := fun {wr X Y n s s'} st hk hg hb _ => ⟨let ⟨o, a, b, e, r⟩ := st.isg; ⟨o, a, b, hk Gob (.inl (let ⟨_, _, h⟩ := st.rdy; h.elim (fun h => h.2.1 ▸ List.mem_cons_self ..) fun ⟨_, _, h, _⟩ => h ▸ List.mem_cons_self ..)) o e, r⟩, st.gap, by
    obtain ⟨gs, hgs, h⟩ := st.rdy
    refine ⟨gs, hg _ _ hgs, ?_⟩
    have hl : ∀ o, s.heap.get? l = some o → s'.heap.get? l = some o := hk l (.inr (List.mem_cons_self ..))
    rcases h with ⟨hn, rfl, rfl, gp⟩ | ⟨I, hI, rfl, h⟩
    · exact .inl ⟨hn, rfl, rfl, gp.ns.at' fun o e => hk Lg (.inl (List.mem_cons_of_mem _ (List.mem_cons_self ..))) o e, gp.grp, gp.ls.at hl, hb, gp.glob, gp.max, gp.ne2, gp.own⟩
    · exact .inr ⟨I, hI, rfl, fun h1 s₃ fk => h h1 s₃ ⟨fun a ha o e => fk.1 a ha o (ha.elim (fun h => hk a (.inl (h ▸ List.mem_cons_of_mem _ (List.mem_cons_self ..))) o e) fun h => h.elim (fun h => hk a (.inl (h ▸ List.mem_cons_of_mem _ (List.mem_cons_of_mem _ (List.mem_cons_self ..)))) o e) fun h => by subst h; exact hl o e), fk.2⟩⟩⟩
  item := fun {wr X n n' x s t E Q} st hn hw hnew hb ht hok hQ => by
    obtain ⟨rfl, i, g', hgn, rfl⟩ := nextN_yes hn
    obtain ⟨I, gs, hgs, hgoes, hLw, hwI, hIf, hIG, hGw⟩ := gen_go GE S h0 hr hh st hb
    refine pyNext_genF hh (hnl.keeps hb) hd st.isg hgs hgoes (fun v s₃ gs' hbare hY => ?_) (fun s₃ hP => nomatch hgn.symm.trans hP.1)
    obtain ⟨⟨i2, g2, tx, hgn2, rfl⟩, t2, exL, exI, hgo⟩ := hY
    cases hgn.symm.trans hgn2
    have hgens : (s₃.setGen gi gs').gens = s.gens.setIfInBounds gi gs' := by
      show s₃.gens.setIfInBounds gi gs' = _
      rw [t2.gens]
      show (s.gens.setIfInBounds gi .running).setIfInBounds gi gs' = _
      rw [Array.setIfInBounds_setIfInBounds]
    obtain ⟨oG, nm, qn, eG, restG⟩ := st.isg
    obtain ⟨y, p, rfl⟩ : ∃ y p, t = .Name y p := hok.elim (fun ⟨_, _, _, e⟩ => by subst e; exact nomatch ht) id
    refine ⟨_, rfl, wpAny_pure (hQ _ (s₃.setGen gi gs') [Gob, Lg, I] ⟨⟨oG, nm, qn, t2.heap _ _ st.gap.symm hIG.symm eG, restG⟩, st.gap, gs', by rw [hgens]; exact gens_eq hgs, .inr ⟨I, hIG, rfl, fun h1 s₄ fk => hgo h1 s₄ fk⟩⟩
      ⟨fun a o ha e => t2.heap a o (fun q => ha (q ▸ hLw)) (fun q => hIf.elim (fun m => ha (q ▸ m)) fun z => nomatch (q ▸ z).symm.trans (show s.heap.get? a = some o from e)) e, fun j st hj e => by rw [hgens, gens_ne (Nat.ne_of_lt (Nat.lt_of_lt_of_le hj hM))]; exact e, fun h => by rw [hgens]; exact bare_set h hbare, t2.os⟩
      hwI (fun a ha => (List.mem_cons.mp ha).elim (fun e => e ▸ ⟨.inl hGw, _, t2.heap _ _ st.gap.symm hIG.symm eG⟩) fun ha => (List.mem_cons.mp ha).elim (fun e => e ▸ ⟨.inl hLw, exL⟩) fun ha => (List.mem_singleton.mp ha) ▸ ⟨hIf, exI⟩) ⟨tx, rfl⟩)⟩
  done := fun {wr X n s E Q} st hn hb hQ => by
    obtain ⟨k, rfl, hgn⟩ := nextN_no hn
    obtain ⟨I, gs, hgs, hgoes, hLw, hwI, hIf, hIG, hGw⟩ := gen_go GE S h0 hr hh st hb
    refine pyNext_genF hh (hnl.keeps hb) hd st.isg hgs hgoes (fun v s₃ gs' hbare hY => by obtain ⟨⟨i2, g2, tx, hgn2, _⟩, _⟩ := hY; exact nomatch hgn.symm.trans hgn2) (fun s₃ hP h' hk' => ?_)
    obtain ⟨-, t2⟩ := hP
    have hgens : (s₃.setGen gi .finished).gens = s.gens.setIfInBounds gi .finished := by
      show s₃.gens.setIfInBounds gi .finished = _
      rw [t2.gens]
      show (s.gens.setIfInBounds gi .running).setIfInBounds gi .finished = _
      rw [Array.setIfInBounds_setIfInBounds]
    exact hQ { s₃.setGen gi .finished with heap := h' } ⟨fun a o ha e => hk' a o (t2.heap a o (fun q => ha (q ▸ hLw)) (fun q => hIf.elim (fun m => ha (q ▸ m)) fun z => nomatch (q ▸ z).symm.trans (show s.heap.get? a = some o from e)) e),
      fun j st hj e => by show (s₃.setGen gi .finished).gens[j]? = _; rw [hgens, gens_ne (Nat.ne_of_lt (Nat.lt_of_lt_of_le hj hM))]; exact e, fun h => by show AllBare (s₃.setGen gi .finished).gens; rw [hgens]; exact bare_set h rfl, t2.os⟩
/-- the states from a first one on -/
noncomputable def itG (g : GSt) : Nat → GSt
  | 0 => g
  | j + 1 => match genNext (itG g j) with
    | some (some (_, g')) => g'
    | _ => itG g j
theorem itG_step {g : GSt} {N k : Nat} {x : Int} {g' : GSt} (hk : k + 1 ≤ N) (h : genNext (itG g (N - (k + 1))) = some (some (x, g'))) : itG g (N - k) = g' := by
  rw [show N - k = N - (k + 1) + 1 by omega, itG, h]
/-- a loop over the generator, so many nexts long -/
inductive GenR (C : Cx) (Γ : Gm) (t : Expr) (b o : List Stmt) : Nat → GSt → Sg → Fl → Sg → Prop
  | nil {g σ fl σ'} (h : genNext g = some none) (k : LOK C Γ σ o fl σ') : GenR C Γ t b o 1 g σ fl σ'
  | cons {n g g' x σ σ₁ σ₂ fl σ'} (h : genNext g = some (some (x, g'))) (ha : AsgOK Γ 0 σ t (.int x) σ₁) (h1 : LOK C Γ σ₁ b .next σ₂) (k : GenR C Γ t b o n g' σ₂ fl σ') : GenR C Γ t b o (n + 1) g σ fl σ'
  | brk {g g' x σ σ₁ σ'} (h : genNext g = some (some (x, g'))) (ha : AsgOK Γ 0 σ t (.int x) σ₁) (h1 : LOK C Γ σ₁ b .brk σ') : GenR C Γ t b o 1 g σ .next σ'
  | ret {g g' x σ σ₁ σ' v} (h : genNext g = some (some (x, g'))) (ha : AsgOK Γ 0 σ t (.int x) σ₁) (h1 : LOK C Γ σ₁ b (.ret v) σ') : GenR C Γ t b o 1 g σ (.ret v) σ'
/-- as a for over the states -/
theorem GenR.for {t : Expr} {b o : List Stmt} {n : Nat} {g : GSt} {fl : Fl} (h : GenR C Γ t b o n g σ fl σ') : ∀ sq : Nat → GSt, sq n = g → (∀ k x g', k + 1 ≤ n → genNext (sq (k + 1)) = some (some (x, g')) → sq k = g') →
    1 ≤ n ∧ (∀ k, k + 1 ≤ n → (genNext (sq (k + 1))).isSome = true) ∧ ForR C Γ (nextN sq) t b o n n σ fl σ' := by
  have one : ∀ {g : GSt} {r}, genNext g = some r → ∀ {sq : Nat → GSt}, sq 1 = g → ∀ k, k + 1 ≤ 1 → (genNext (sq (k + 1))).isSome = true := fun h sq e k hk => by
    cases k with | zero => rw [e, h]; rfl | succ k => exact absurd (Nat.le_of_succ_le_succ hk) (Nat.not_succ_le_zero _)
  have nx : ∀ {g : GSt} {r}, genNext g = some r → ∀ {sq : Nat → GSt} {n}, sq (n + 1) = g → nextN sq (n + 1) = some (r.map fun p => (.int p.1, n)) := fun h sq n e => by
    show (genNext (sq (n + 1))).map _ = _
    rw [e, h]; rfl
  induction h with
  | nil h k => exact fun sq e _ => ⟨Nat.le_refl _, one h e, .nil (nx h e) k⟩
  | brk h ha h1 => exact fun sq e _ => ⟨Nat.le_refl _, one h e, .brk (nx h e) ha h1⟩
  | ret h ha h1 => exact fun sq e _ => ⟨Nat.le_refl _, one h e, .ret (nx h e) ha h1⟩
  | @cons n g g' x σ σ₁ σ₂ fl σ' h ha h1 k ih =>
    intro sq e hs
    obtain ⟨i1, i2, i3⟩ := ih sq (hs n x g' (Nat.le_refl _) (e ▸ h)) fun k x g' hk => hs k x g' (Nat.le_succ_of_le hk)
    exact ⟨Nat.succ_pos _, fun k hk => (Nat.lt_or_eq_of_le hk).elim (fun q => i2 k (Nat.le_of_lt_succ q)) fun q => by rw [q, e, h]; rfl, .cons (nx h e) ha h1 i3⟩
theorem gen_src {f : Str} {a : Addr} {es : List Expr} {fp p : Pos} {xs : List V} {sq : Nat → GSt} {N : Nat} (hf : NameOK C Γ σ f (.v (.fn a))) (hg : C.gen a = true) (ha : ArgsOK C Γ σ es [.v (.lst xs)]) (S : Sq (N + 1) sq) (h0 : sq (N + 1) = ⟨xs, none, false⟩) :
    SrcOK C Γ σ (.Call (.Name f fp) es [] p) (nextN sq) (N + 1) false := ⟨fun _ _ => rfl, fun {prog w h₀ K L env A s E Q} X R hQ => by
  have GT := X.top.gen a hg
  obtain ⟨oF, fd, P, hoF, hdat, hbody, hkind, hco, hig, hnc, hk1, hk2, hk3, hk4, hgl, hcr, hba⟩ := GT.at'
  obtain ⟨mg, tm, hmg, hmax⟩ := GT.max
  have hd : A.depth < recursionLimit := Nat.lt_of_le_of_lt (Nat.le_add_right _ _) (Nat.lt_of_lt_of_le X.room.depth (by decide))
  refine wpAny_Call_NameR (hf X R (fun v rv => ?_) fp)
  cases rv
  refine Calls.callWith_function (o := oF) (fd := fd) (ha.args X R (fun vals s₁ k₁ rs => ⟨⟨k₁.heap _ _ (vis_get (R.base _ _ hoF)), hdat⟩, ?_⟩) _ _)
  have R₁ := R.keep k₁
  have base : Sub h₀.get? s₁.heap.get? := R₁.base.trans R₁.sub
  cases rs with | cons r1 r2 =>
  cases r2
  obtain ⟨l, nl, items, rfl, hl, hsz, hreps⟩ := r1
  have hlt : l < s₁.heap.objs.size := Heap.lt_size (vis_get hl)
  have hfr : ∀ b, s₁.heap.objs.size ≤ b → s₁.heap.get? b = none := fun b h => fresh_none (Kp.refl s₁) h
  show wpAny (model prog w) A (call (.ref a) [.ref l] []) _ _ _
  refine wpAny_call (codeAny_call_generator hd (base _ _ hoF) hdat hco hig hbody (hcr.keeps base) ?_)
  rw [hba]
  refine wpAny_pure ?_
  refine wpAny_newFunctionEnv hnc (fun x hx => by simp at hx; subst hx; exact hk3) (fun h' hns hsb => ?_) hkind
  have up : ∀ b o', s₁.heap.get? b = some o' → h'.get? b = some o' := fun b o' e => hsb.extBut b o' (fun h => nomatch (h ▸ fresh_size s₁).symm.trans e) (Heap.get?_push_of_some _ e)
  refine ⟨X.top.nolimit.keeps fun b o' e => up _ _ (base _ _ e), ?_⟩
  have key : ∀ (s₂ : Shared) (og : Obj), s₂.heap = h'.push og →
      og.cls = .type "generator" → (∃ nm qn, og.data = .fields #[.int s₁.gens.size 0, nm, qn]) → og.slots = #[] → og.isFreed = false →
      s₂.gens = s₁.gens.push (.fresh (.func (gAll P) (newEnv fd.scope s₁.heap.objs.size fd.globals fd.closure (fd.qualname ++ ".<locals>.") (some a) fd.code none fd.builtins))) → s₂.os = s₁.os →
      wpAny (model prog w) A (pyIter (.ref h'.objs.size)) Q E s₂ := by
    intro s₂ og hh hc1 ⟨nm, qn, hd1⟩ hsl hfd hge hos
    have hlt' : s₁.heap.objs.size < h'.objs.size := let ⟨_, _, _, e, _⟩ := hns; Heap.lt_size e
    have hgen : s₂.heap.IsGen h'.objs.size s₁.gens.size := ⟨og, nm, qn, by rw [hh]; exact Heap.get?_push_size _ hfd, hc1, hd1, hsl⟩
    have up₂ : ∀ b o', h'.get? b = some o' → s₂.heap.get? b = some o' := fun b o' e => by rw [hh]; exact Heap.get?_push_of_some _ e
    have kp : Kp s₁ s₂ := ⟨fun b o' e => up₂ _ _ (up b o' e), fun i g e => by
        have hi := (Array.getElem?_eq_some_iff.mp e).1
        rw [hge, Array.getElem?_push_lt hi, ← e, Array.getElem?_eq_getElem hi], fun hb y hy => (Array.mem_push.mp (hge ▸ hy)).elim (hb y) fun h => h ▸ rfl, hos⟩
    have hns₂ := hns.at' (h' := s₂.heap) fun o' e => up₂ _ o' e
    have hob : s₂.heap.get? h'.objs.size = some og := by rw [hh]; exact Heap.get?_push_size _ hfd
    have two : ∀ b, b ∈ [h'.objs.size, s₁.heap.objs.size] → s₁.heap.get? b = none := fun b hb => (List.mem_cons.mp hb).elim (fun e => e ▸ hfr _ (Nat.le_of_lt hlt')) fun hb => one_fresh b hb
    refine wpAny_pyIter_gen hgen (hQ _ [h'.objs.size, s₁.heap.objs.size] [l] _ s₁ s₂ k₁ R₁ ⟨Iter.gen (mg := mg) (m0 := fun x => [(nGrp, Value.ref l)].reverse.lookup x) (P := P) (genv := newEnv fd.scope s₁.heap.objs.size fd.globals fd.closure (fd.qualname ++ ".<locals>.") (some a) fd.code none fd.builtins)
        ⟨hkind, rfl, hgl, hk1, hk2, hk3, hk4, hco⟩ S h0 hreps X.room.handled hd X.top.nolimit (Nat.le_refl _), kp, two, fun b hb => (List.mem_cons.mp hb).elim (fun e => e ▸ ⟨_, hob⟩) fun hb => (List.mem_singleton.mp hb) ▸ let ⟨o', _, _, e, _⟩ := hns₂; ⟨o', e⟩, fun b hb => .inr ((List.mem_singleton.mp hb) ▸ ⟨⟨_, vis_get hl⟩, (vis_some.mp hl).1⟩),
      hgen, Nat.ne_of_lt hlt', _, by rw [hge]; exact Array.getElem?_push_size, .inl ⟨rfl, rfl, rfl, hns₂, rfl, ⟨_, kp.heap _ _ (vis_get hl), rfl, _, rfl⟩, fun b o' e => kp.heap b o' (base b o' e), hmg, ⟨tm, hmax⟩, Nat.ne_of_lt hlt, ?_⟩⟩)
    cases q : h₀.get? s₁.heap.objs.size with
    | none => exact q
    | some o' => exact nomatch (fresh_size s₁).symm.trans (base _ _ q)
  exact key _ _ rfl rfl ⟨_, _, rfl⟩ rfl rfl rfl rfl⟩
theorem s_gen {t : Expr} {b o : List Stmt} {f : Str} {a : Addr} {es : List Expr} {fp p q : Pos} {xs : List V} {n : Nat} {fl : Fl} (hf : NameOK C Γ σ f (.v (.fn a))) (hg : C.gen a = true) (ha : ArgsOK C Γ σ es [.v (.lst xs)]) (htu : isTup t = false) (h : GenR C Γ t b o n ⟨xs, none, false⟩ σ fl σ') :
    SOK C Γ σ (.For t (.Call (.Name f fp) es [] p) b o q) fl σ' := by
  obtain ⟨h1, h2, h3⟩ := h.for (fun k => itG ⟨xs, none, false⟩ (n - k)) (by show itG _ (n - n) = _; rw [Nat.sub_self]; rfl) fun k x g' hk e => itG_step hk e
  obtain ⟨N, rfl⟩ : ∃ N, n = N + 1 := ⟨n - 1, (Nat.sub_add_cancel h1).symm⟩
  exact s_for (gen_src hf hg ha ⟨h2, fun k x g' hk e => itG_step hk e⟩ (by show itG _ (N + 1 - (N + 1)) = _; rw [Nat.sub_self]; rfl)) htu h3
end Mine
end
section
open PySem PySem.W PyProof.Rows PySem.SeqAt
namespace Mine
variable {C : Cx} {Γ : Gm} {σ σ' σ'' : Sg}
noncomputable abbrev SRes (C : Cx) (Γ : Gm) (σ : Sg) (st : Stmt) : Type := Option {r : Fl × Sg // SOK C Γ σ st r.1 r.2}
noncomputable abbrev LRes (C : Cx) (Γ : Gm) (σ : Sg) (st : List Stmt) : Type := Option {r : Fl × Sg // LOK C Γ σ st r.1 r.2}
section
variable (tst : (σ : Sg) → (e : Expr) → Option (Subtype (BOK C Γ σ e))) (bd : (σ : Sg) → (sts : List Stmt) → LRes C Γ σ sts) (t : Expr) (b o : List Stmt)
noncomputable def whileC : Nat → (σ : Sg) → Option {r : Nat × Fl × Sg // WhileR C Γ t b o r.1 σ r.2.1 r.2.2}
  | 0, _ => none
  | m + 1, σ => (tst σ t).bind fun c => match c with
    | ⟨true, hc⟩ => (bd σ b).bind fun r => match r with
      | ⟨(.next, σ₁), h⟩ => (whileC m σ₁).map fun q => ⟨(q.1.1 + 1, q.1.2), .turn hc h q.2⟩
      | ⟨(.brk, σ₁), h⟩ => some ⟨(0, .next, σ₁), .brk hc h⟩
      | ⟨(.ret v, σ₁), h⟩ => some ⟨(0, .ret v, σ₁), .ret hc h⟩
    | ⟨false, hc⟩ => (bd σ o).map fun r => ⟨(0, r.1), .done hc r.2⟩
noncomputable def forC : (vs : List V) → (σ : Sg) → Option {r : Nat × Fl × Sg // ForR C Γ uncons t b o r.1 vs σ r.2.1 r.2.2}
  | [], σ => (bd σ o).map fun r => ⟨(0, r.1), .nil rfl r.2⟩
  | x :: xs, σ => (asgC Γ 0 σ t x).bind fun a => (bd a.1 b).bind fun r => match r with
    | ⟨(.next, σ₁), h⟩ => (forC xs σ₁).map fun q => ⟨(q.1.1 + 1, q.1.2), .cons rfl a.2 h q.2⟩
    | ⟨(.brk, σ₁), h⟩ => some ⟨(0, .next, σ₁), .brk rfl a.2 h⟩
    | ⟨(.ret v, σ₁), h⟩ => some ⟨(0, .ret v, σ₁), .ret rfl a.2 h⟩
noncomputable def genC : Nat → (g : GSt) → (σ : Sg) → Option {r : Nat × Fl × Sg // GenR C Γ t b o r.1 g σ r.2.1 r.2.2}
  | 0, _, _ => none
  | m + 1, g, σ => (optC (genNext g)).bind fun n => match n with
    | ⟨none, hn⟩ => (bd σ o).map fun r => ⟨(1, r.1), .nil hn r.2⟩
    | ⟨some (x, g'), hn⟩ => (asgC Γ 0 σ t (.int x)).bind fun a => (bd a.1 b).bind fun r => match r with
      | ⟨(.next, σ₁), h⟩ => (genC m g' σ₁).map fun q => ⟨(q.1.1 + 1, q.1.2), .cons hn a.2 h q.2⟩
      | ⟨(.brk, σ₁), h⟩ => some ⟨(1, .next, σ₁), .brk hn a.2 h⟩
      | ⟨(.ret v, σ₁), h⟩ => some ⟨(1, .ret v, σ₁), .ret hn a.2 h⟩
end
section
variable (ev : (e : Expr) → Option (Subtype (EvOK C Γ σ e)))
noncomputable def deepC (σ : Sg) (d : D) : Option (Subtype (DeepOK σ d)) := match d with
  | .v x => some ⟨x, deep_v x⟩
  | .loc n => (optC (σ[n]?)).bind fun t => match t with
    | ⟨.lst xs, h⟩ => some ⟨_, deep_loc h⟩
    | _ => none
noncomputable def evV (e : Expr) : Option {x : V // EvOK C Γ σ e (.v x)} := (ev e).bind fun d => match d with
  | ⟨.v x, h⟩ => some ⟨x, h⟩
  | _ => none
noncomputable def evI (e : Expr) : Option {x : Int // EvOK C Γ σ e (.v (.int x))} := (ev e).bind fun d => match d with
  | ⟨.v (.int x), h⟩ => some ⟨x, h⟩
  | _ => none
/-- an own list, by an expression -/
noncomputable def evLoc (e : Expr) : Option {r : Nat × List V // EvOK C Γ σ e (.loc r.1) ∧ σ[r.1]? = some (.lst r.2)} := (ev e).bind fun d => match d with
  | ⟨.loc n, h⟩ => (optC (σ[n]?)).bind fun t => match t with
    | ⟨.lst xs, h'⟩ => some ⟨(n, xs), h, h'⟩
    | _ => none
  | _ => none
noncomputable def callS (o : Expr) (m : Str) (ap p pos : Pos) (a : Expr) : SRes C Γ σ (.Expr (.Call (.Attribute o m ap) [a] [] p) pos) :=
  if hm : methOk o ap [a] p = true ∧ isStar a = false then (evLoc ev o).bind fun l => (evV ev a).bind fun y =>
    if hn : m = "append" then (if hl : l.1.2.length < lim then some ⟨(.next, _), s_append hm.1 hn l.2.1 hm.2 y.2 l.2.2 hl⟩ else none)
    else if hn : m = "extend" then (match y with
      | ⟨.lst ys, hy⟩ => if hl : l.1.2.length + ys.length < lim then some ⟨(.next, _), s_extend hm.1 hn l.2.1 hm.2 hy l.2.2 hl⟩ else none
      | _ => none)
    else none
  else none
noncomputable def swapS (a b c d : Str) (pa pb pc pd p tp vp : Pos) (k k' : Nat) : SRes C Γ σ (.Assign [.Tuple [.Name a pa, .Name b pb] k tp] (.Tuple [.Name c pc, .Name d pd] k' vp) p) :=
  if h : Γ.kindOf a = some .local ∧ Γ.kindOf b = some .local ∧ pb.line = pa.line ∧ b ≠ a ∧ [Expr.Name c pc, Expr.Name d pd].all (foldedForSure 8) = false ∧ [Expr.Name c pc, Expr.Name d pd].all (constantsAlone 8) = false then
    (nameC C Γ σ c).bind fun x => (nameC C Γ σ d).bind fun y => match x, y with
    | ⟨.v x, hx⟩, ⟨.v y, hy⟩ => (stC Γ 0 σ b (.v y)).bind fun s₁ => (stC Γ 0 s₁.1 a (.v x)).map fun s₂ => ⟨(.next, s₂.1), s_swap h.1 h.2.1 h.2.2.1 h.2.2.2.1 h.2.2.2.2.1 h.2.2.2.2.2 hx hy s₁.2 s₂.2⟩
    | _, _ => none
  else none
noncomputable def putS (o i value : Expr) (pp p : Pos) : SRes C Γ σ (.Assign [.Subscript o i pp] value p) :=
  if hc : isComp value = false then (evV ev value).bind fun y => (evLoc ev o).bind fun l => (evI ev i).bind fun k => (optC (place l.1.2.length k.1)).map fun j => ⟨(.next, _), s_put y.2 l.2.1 k.2 l.2.2 j.2 (no_swap hc _ _)⟩ else none
noncomputable def augPutS (o i value : Expr) (op : Operator) (pp p : Pos) : SRes C Γ σ (.AugAssign (.Subscript o i pp) op value p) :=
  if hs : isSlice i = false then (evLoc ev o).bind fun l => (evI ev i).bind fun k => (evI ev value).bind fun y => (optC (place l.1.2.length k.1)).bind fun j => (optC (l.1.2[j.1]?)).bind fun x => match x with
    | ⟨.int a, ha⟩ => (augC op a y.1).map fun v => ⟨(.next, _), s_augPut hs l.2.1 k.2 l.2.2 j.2 ha y.2 v.2⟩
    | _ => none
  else none
noncomputable def setS (x : Str) (px p : Pos) (value : Expr) : SRes C Γ σ (.Assign [.Name x px] value p) :=
  if hc : isComp value = false then (evV ev value).bind fun y => (stC Γ 0 σ x (.v y.1)).map fun s => ⟨(.next, s.1), s_set hc y.2 s.2⟩ else none
noncomputable def genS (bd : (σ : Sg) → (sts : List Stmt) → LRes C Γ σ sts) (f : Str) (fp p q : Pos) (es : List Expr) (t : Expr) (b o : List Stmt) : SRes C Γ σ (.For t (.Call (.Name f fp) es [] p) b o q) :=
  (calleeC (C := C) (Γ := Γ) (σ := σ) f).bind fun a => if h : C.gen a.1 = true ∧ isTup t = false then (argsC ev es).bind fun ds => match ds with
    | ⟨[.v (.lst xs)], hd⟩ => (genC bd t b o loops ⟨xs, none, false⟩ σ).map fun r => ⟨r.1.2, s_gen a.2 h.1 hd h.2 r.2⟩
    | _ => none
  else none
end
section
variable (C : Cx) (G : ∀ a vs, Option (Subtype (C.F a vs))) (mu : List Str)
mutual
noncomputable def exS : Nat → (Γ : Gm) → (σ : Sg) → (st : Stmt) → SRes C Γ σ st
  | 0, _, _, _ => none
  | n + 1, Γ, σ, st => match st with
    | .Expr (.Call (.Attribute o m ap) [a] [] p) pos => callS (evE C G n Γ σ) o m ap p pos a
    | .Return (some e) p => (evE C G n Γ σ e).bind fun d => (deepC σ d.1).map fun x => ⟨(.ret x.1, σ), s_ret d.2 x.2⟩
    | .Assign [.Name x px] (.ListComp elt [⟨t, it, ifs, 0⟩] sc cp) p => (iterC (evE C G n Γ σ) it false (isTup t)).bind fun xs => (optC (freesOf Γ sc.names [])).bind fun fr =>
        if h : compOk sc = true ∧ xs.1.length < lim then (turnsC C (compGm Γ σ.length sc fr.1) σ.length t ifs elt (evE C G n _) (evB C G n _) xs.1 (σ ++ opened sc.names)).bind fun ys => (stC Γ 0 σ x (.v (.lst ys.1))).map fun s => ⟨(.next, s.1), s_comp ⟨xs.2, h.1, h.2, rfl, fr.2, ys.2⟩ s.2⟩ else none
    | .Assign [.Name x px] value p => if mu.contains x then (if hc : isComp value = false then (evF C G n Γ σ value).bind fun xs => (stC Γ 0 (σ ++ [.lst xs.1]) x (.loc σ.length)).map fun s => ⟨(.next, s.1), s_own hc xs.2 s.2⟩ else none)
        else setS (evE C G n Γ σ) x px p value
    | .Assign [.Name x px, .Name y py] value p => (evV (evE C G n Γ σ) value).bind fun z => (stC Γ 0 σ x (.v z.1)).bind fun s => (stC Γ 0 s.1 y (.v z.1)).map fun s₂ => ⟨(.next, s₂.1), s_two z.2 s.2 s₂.2⟩
    | .Assign [.Tuple [.Name a pa, .Name b pb] k tp] (.Tuple [.Name c pc, .Name d pd] k' vp) p => swapS a b c d pa pb pc pd p tp vp k k'
    | .Assign [.Subscript o i pp] value p => putS (evE C G n Γ σ) o i value pp p
    | .AugAssign (.Name x px) op value p => (loadC C Γ σ x).bind fun d => match d with
      | ⟨.v (.int a), ha⟩ => (evI (evE C G n Γ σ) value).bind fun y => (augC op a y.1).bind fun v => (stC Γ 0 σ x (.v (.int v.1))).map fun s => ⟨(.next, s.1), s_aug ha y.2 v.2 s.2⟩
      | _ => none
    | .AugAssign (.Subscript o i pp) op value p => augPutS (evE C G n Γ σ) o i value op pp p
    | .If t b o p => (evB C G n Γ σ t).bind fun c => match c with
      | ⟨true, hc⟩ => (exL n Γ σ b).map fun r => ⟨r.1, s_if hc (fun _ => r.2) fun h => Bool.noConfusion h⟩
      | ⟨false, hc⟩ => (exL n Γ σ o).map fun r => ⟨r.1, s_if hc (fun h => Bool.noConfusion h) fun _ => r.2⟩
    | .While t b o p => (whileC (evB C G n Γ) (exL n Γ) t b o loops σ).map fun r => ⟨r.1.2, s_while r.2⟩
    | .For t (.Call (.Name f fp) es [] p) b o q => (genS (evE C G n Γ σ) (exL n Γ) f fp p q es t b o).or ((iterC (evE C G n Γ σ) (.Call (.Name f fp) es [] p) true (isTup t)).bind fun xs => (forC (exL n Γ) t b o xs.1 σ).map fun r => ⟨r.1.2, s_for xs.2.src rfl r.2⟩)
    | .For t it b o q => (iterC (evE C G n Γ σ) it true (isTup t)).bind fun xs => (forC (exL n Γ) t b o xs.1 σ).map fun r => ⟨r.1.2, s_for (IterOK.src xs.2) rfl r.2⟩
    | .Break p => some ⟨(.brk, σ), s_brk⟩
    | _ => none
noncomputable def exL : Nat → (Γ : Gm) → (σ : Sg) → (sts : List Stmt) → LRes C Γ σ sts
  | 0, _, _, _ => none
  | n + 1, Γ, σ, sts => match sts with
    | [] => some ⟨(.next, σ), l_nil⟩
    | st :: r => (exS n Γ σ st).bind fun q => match q with
      | ⟨(.next, σ₁), h⟩ => (exL n Γ σ₁ r).map fun k => ⟨k.1, l_cons h k.2⟩
      | ⟨(.brk, σ₁), h⟩ => some ⟨(.brk, σ₁), l_brk h⟩
      | ⟨(.ret v, σ₁), h⟩ => some ⟨(.ret v, σ₁), l_ret h⟩
end
end
end Mine
end
section
open PySem PySem.W PyProof.Rows PySem.SeqAt
namespace Mine
variable {prog : Program} {w : World} {h₀ : Heap} {C : Cx} {K : Nat} {Γ : Gm} {L : Lay} {env : Env} {σ σ' σ'' : Sg} {s s' s'' : Shared} {A : Around} {E : Value → Shared → Prop}
/-- a def stands at a -/
structure DefAt (h₀ : Heap) (a : Addr) (f : Fn) : Prop where
  def' : ∃ o fd, h₀.get? a = some o ∧ o.data = .func fd ∧ fd.scope = f.scope ∧ fd.body = .stmts f.body ∧ fd.closure = [] ∧ fd.globals = mainGlobals ∧ fd.builtins = builtinsNs ∧ h₀.CodeRec fd.code fd.qualname ∧
    ∀ vals : List Value, vals.length = f.params.length → bindArgs fd ⟨vals, []⟩ = pure (f.params.zip vals)
  kind : f.scope.kind = .function
  gen : f.scope.isGenerator = false
  co : f.scope.isCoroutine = false
/-- the parameters bound in turn -/
inductive BindR (Γ : Gm) : List Str → List V → Sg → Sg → Prop
  | nil {σ : Sg} : BindR Γ [] [] σ σ
  | cons {x : Str} {xs : List Str} {v : V} {vs : List V} {σ σ₁ σ' : Sg} (h : StOK Γ 0 σ x (.v v) σ₁) (k : BindR Γ xs vs σ₁ σ') : BindR Γ (x :: xs) (v :: vs) σ σ'
noncomputable def bindC (Γ : Gm) : (xs : List Str) → (vs : List V) → (σ : Sg) → Option (Subtype (BindR Γ xs vs σ))
  | [], [], σ => some ⟨σ, .nil⟩
  | x :: xs, v :: vs, σ => (stC Γ 0 σ x (.v v)).bind fun s => (bindC Γ xs vs s.1).map fun r => ⟨_, .cons s.2 r.2⟩
  | _, _, _ => none
theorem BindR.length {params : List Str} {args : List V} (h : BindR Γ params args σ σ') : params.length = args.length := by
  induction h with
  | nil => rfl
  | cons _ _ ih => exact congrArg Nat.succ ih
theorem BindR.run {params : List Str} {args : List V} (h : BindR Γ params args σ σ') (f : Str × Value → PUnit → Sem (ForInStep PUnit)) (hf : ∀ n v u, f (n, v) u = (do storeName env n v; pure (.yield ⟨⟩))) (er : EnvR Γ L.own env) : ∀ {vals : List Value} {s : Shared} {Q : PUnit → Shared → Prop},
    Rel prog w h₀ L σ s.heap → Reps prog w (vis s.heap L.X) vals args → (∀ s', Stp L.own s s' → Rel prog w h₀ L σ' s'.heap → Q ⟨⟩ s') → wpAny (model prog w) A (forIn (params.zip vals) ⟨⟩ f) Q E s := by
  induction h with
  | nil =>
    intro vals s Q R r hQ
    rw [List.zip_nil_left, List.forIn_nil]
    exact wpAny_pure (hQ s (Stp.refl _ s) R)
  | cons h k ih =>
    intro vals s Q R r hQ
    obtain ⟨v, vs, rfl, r1, r2⟩ := r
    rw [List.zip_cons_cons, List.forIn_cons, hf]
    exact wpAny_bind (wpAny_bind (h er R r1 fun s₁ st R₁ => wpAny_pure (ih R₁ (r2.mono (st.sub fun _ => drop_X)) fun s' st' R' => hQ s' ((drop0 st).trans st') R')))
/-- what a def hands back -/
noncomputable def retOf : Fl → V → Prop
  | .ret v, r => v = r
  | .next, r => r = .none
  | .brk, _ => False
structure FnOK (C : Cx) (f : Fn) (args : List V) (r : V) : Prop where
  ok : ∃ σ₀ fl σ', BindR (fnGm f) f.params args (opened f.scope.names) σ₀ ∧ LOK C (fnGm f) σ₀ f.body fl σ' ∧ retOf fl r
noncomputable def fnC (C : Cx) (G : ∀ a vs, Option (Subtype (C.F a vs))) (mu : List Str) (f : Fn) (args : List V) : Option (Subtype (FnOK C f args)) :=
  (bindC (fnGm f) f.params args (opened f.scope.names)).bind fun b => (exL C G mu 60 (fnGm f) b.1 f.body).bind fun r => match r with
  | ⟨(.ret v, σ'), h⟩ => some ⟨v, _, _, _, b.2, h, rfl⟩
  | ⟨(.next, σ'), h⟩ => some ⟨.none, _, _, _, b.2, h, rfl⟩
  | _ => none
theorem call_sound (T : TopOK prog w C h₀) (FO : ∀ a args r, C.F a args r → DefHere h₀ a ∧ CallOK prog w h₀ K a args r) {a : Addr} {f : Fn} (DA : DefAt h₀ a f) {args : List V} {r : V} (h : FnOK C f args r) : CallOK prog w h₀ (K + 2) a args r := by
  intro A s X vals Q E rm hb hX rs hQ
  obtain ⟨σ₀, fl, σ', hbind, hex, hret⟩ := h.ok
  obtain ⟨o, fd, ho, hdat, hsc, hbody, hclo, hgl, hbi, hcr, hba⟩ := DA.def'
  have keep : Sub h₀.get? s.heap.get? := hb.trans (vis_sub_get _ _)
  have hd : A.depth < recursionLimit := Nat.lt_of_le_of_lt (Nat.le_add_right _ _) (Nat.lt_of_lt_of_le rm.depth (by decide))
  refine wpAny_call (codeAny_call_function hd (keep _ _ ho) hdat (by rw [hsc]; exact DA.co) (by rw [hsc]; exact DA.gen) hbody (hcr.keeps keep) ?_)
  rw [hba vals (rs.length.trans hbind.length.symm), hclo, hsc, hgl, hbi]
  refine wpAny_pure ?_
  simp only [newFunctionEnv, Option.isSome_none, Bool.false_eq_true, if_false]
  refine wpAny_bind (wpAny_alloc ?_)
  refine wpAny_bind (wpAny_layCells _ (fun name kind cells => by cases hkc : kind == NameKind.cell <;> simp [hkc]) _ _ _ _ ?_)
  rw [show ({ s with heap := s.heap.push { cls := .type "frame", data := .dict #[] } } : Shared).heap.objs.size = s.heap.objs.size + 1 from Heap.size_push ..]
  dsimp only
  have hH1 := pushCells_keeps f.scope.names (s.heap.push { cls := .type "frame", data := .dict #[] })
  have hcell := pushCells_at f.scope.names (s.heap.push { cls := .type "frame", data := .dict #[] })
  rw [Heap.size_push] at hcell
  generalize pushCells (s.heap.push { cls := .type "frame", data := .dict #[] }) f.scope.names = H at hH1 hcell ⊢
  have kp : Kp s { s with heap := H } := ⟨fun a o' e => hH1 a o' (Heap.get?_push_of_some _ e), fun _ _ e => e, id, rfl⟩
  have hns : H.Ns s.heap.objs.size (fun _ => none) := (Heap.Ns.new s.heap (.type "frame")).keeps hH1
  have fresh : ∀ a, a ∈ laid s.heap.objs.size f.scope.names → s.heap.get? a = none := fun a h => fresh_none (Kp.refl s) (laid_le h)
  have e0 : (Lay.mk X [] []).X = X := by unfold Lay.X; rw [List.append_nil, List.append_nil]
  have R0 : Rel prog w h₀ ⟨X, [], []⟩ [] s.heap := ⟨e0.symm ▸ hb, List.nodup_nil, fun _ m => absurd m List.not_mem_nil, fun a m => m.elim (hX a) fun m => absurd m List.not_mem_nil, .nil⟩
  have RO : Rel prog w h₀ ⟨X, [], laid s.heap.objs.size f.scope.names⟩ (opened f.scope.names) H := R0.push (its := []) (s' := { s with heap := H }) kp fresh (laid_nodup _ _) (fun _ m => absurd m List.not_mem_nil) (laid_at hns hcell)
  have er : ∀ env : Env, env.scope = f.scope → env.locals = s.heap.objs.size → env.globals = mainGlobals → env.cells = cellsFrom (s.heap.objs.size + 1) f.scope.names [] → env.builtins = builtinsNs → EnvR (fnGm f) (laid s.heap.objs.size f.scope.names) env := fun env e1 e2 e3 e4 e5 =>
    laid_env (φ := []) (b := 0) (fr := []) rfl (fun x c h => nomatch h) e2 e3 e4 e5 DA.kind e1
  have subX : Sub (vis s.heap X) (vis H (Lay.mk X [] (laid s.heap.objs.size f.scope.names)).X) := vis_step (fun a o _ e => kp.heap a o e) fun a m => (mem_X.mp m).elim (fun m => .inl (m.elim id fun m => absurd m List.not_mem_nil)) fun m => .inr (fresh a m)
  refine wpAny_bind (hbind.run _ (fun _ _ _ => rfl) (er _ rfl rfl rfl rfl rfl) RO (rs.mono subX) fun s₁ st₁ R₁ => wpAny_pure ?_)
  have k1 : Kp s s₁ := kp.stp' st₁ fresh
  refine ⟨T.nolimit.keeps fun b o e => k1.heap _ _ (keep b o e), codeAny_func ?_⟩
  refine hex (L := ⟨X, [], laid s.heap.objs.size f.scope.names⟩) ⟨T, FO, er _ rfl rfl rfl rfl rfl, ⟨rm.handled, by have := rm.depth; simp [Around.deeper]; omega, by have := rm.units; simp; omega⟩⟩ R₁ fun fl' s₂ new o₂ hfl => ?_
  have k2 : Kp s s₂ := k1.stp' o₂.stp fresh
  cases fl with
  | next => cases hfl; cases hret; exact hQ .none s₂ k2 rfl
  | brk => exact hret.elim
  | ret v => obtain ⟨x, rfl, hr⟩ := hfl; cases hret; exact hQ x s₂ k2 hr
/-! the functions, d calls deep -/
noncomputable abbrev CG (base : Cx) (G : Addr → List V → V → Prop) : Cx := { base with F := G }
noncomputable def FF (defs : List (Addr × Fn)) (base : Cx) : Nat → Addr → List V → V → Prop
  | 0, _, _, _ => False
  | d + 1, a, args, r => ∃ f, defs.lookup a = some f ∧ FnOK (CG base (FF defs base d)) f args r
theorem FF_ok {base : Cx} {defs : List (Addr × Fn)} (T : TopOK prog w base h₀) (DA : ∀ a f, defs.lookup a = some f → DefAt h₀ a f) : ∀ d a args r, FF defs base d a args r → DefHere h₀ a ∧ CallOK prog w h₀ (2 * d) a args r
  | 0, _, _, _, h => h.elim
  | d + 1, a, args, r, ⟨f, hf, h⟩ => by
    have D := DA _ _ hf
    obtain ⟨o, fd, h1, h2, _⟩ := D.def'
    exact ⟨⟨o, fd, h1, h2⟩, call_sound (C := CG base (FF defs base d)) ⟨T.nolimit, T.glob, T.bi, T.big, T.gen⟩ (FF_ok T DA d) D h⟩
theorem FnOK.step {defs : List (Addr × Fn)} {base : Cx} {d : Nat} {a : Addr} {f : Fn} {args : List V} {r : V} (hf : defs.lookup a = some f) (h : FnOK (CG base (FF defs base d)) f args r) : FF defs base (d + 1) a args r := ⟨f, hf, h⟩
/-- with fewer calls known -/
theorem FnOK.weak {base : Cx} {G G' : Addr → List V → V → Prop} {f : Fn} {args : List V} {r : V} (h : FnOK (CG base G) f args r) (hG : ∀ a vs r, G a vs r → G' a vs r) : FnOK (CG base G') f args r := by
  obtain ⟨σ₀, fl, σ', h1, h2, h3⟩ := h.ok
  exact ⟨σ₀, fl, σ', h1, fun X R hQ => h2 ⟨⟨X.top.nolimit, X.top.glob, X.top.bi, X.top.big, X.top.gen⟩, fun a args r q => X.fok a args r (hG _ _ _ q), X.er, X.room⟩ R hQ, h3⟩
theorem FF_up {defs : List (Addr × Fn)} {base : Cx} : ∀ {d e : Nat}, d ≤ e → ∀ {a args r}, FF defs base d a args r → FF defs base e a args r
  | 0, _, _, _, _, _, h => h.elim
  | d + 1, 0, hd, _, _, _, _ => absurd hd (Nat.not_succ_le_zero _)
  | d + 1, e + 1, hd, _, _, _, ⟨f, hf, h⟩ => ⟨f, hf, h.weak fun _ _ _ q => FF_up (Nat.le_of_succ_le_succ hd) q⟩
theorem FnOK.calc {f : Fn} {args : List V} {r : V} (mu : List Str) (h : (fnC C (noF C) mu f args).map (·.1) = some r) : FnOK C f args r := let ⟨x, _, e⟩ := Option.map_eq_some_iff.mp h; e ▸ x.2
end Mine
end
section
open PySem PySem.W
namespace Mine
noncomputable def flagTab : List (Int × V) := [(1, .str "OPTIMIZED"), (2, .str "NEWLOCALS"), (4, .str "VARARGS"), (8, .str "VARKEYWORDS"), (16, .str "NESTED"), (32, .str "GENERATOR"), (64, .str "NOFREE"), (128, .str "COROUTINE"), (256, .str "ITERABLE_COROUTINE"), (512, .str "ASYNC_GENERATOR")]
noncomputable def fnOf (body : List Stmt) (a : Addr) (x : Str) : Fn :=
  match body with
  | [] => ⟨a, [], [], default⟩
  | .FunctionDef name args b _ _ _ scope _ _ _ :: r => if name = x then ⟨a, args.args.map (·.arg), b, scope⟩ else fnOf r a x
  | _ :: r => fnOf r a x
noncomputable def argsOf (body : List Stmt) (x : Str) : Arguments :=
  match body with
  | [] => default
  | .FunctionDef name args b _ _ _ scope _ _ _ :: r => if name = x then args else argsOf r x
  | _ :: r => argsOf r x
noncomputable def body2 : List Stmt := PySem.Challenge.rw_wn0049_02.prog.main.body
noncomputable def globs2 : List (Str × V) := [("COMPILER_FLAG_NAMES", .dct flagTab), ("CHAR_MAX", .int 127), ("_grouping_intervals", .fn 29), ("_MAX_STRING_SIZE", .int 40), ("_MOVE_COST", .int 2), ("_CASE_COST", .int 1), ("pretty_flags", .fn 22), ("_substitution_cost", .fn 36), ("_levenshtein_distance", .fn 43), ("_law_seeds", .fn 50), ("_law_names", .fn 55), ("_law_changed", .fn 62), ("_law_led", .fn 69), ("_law_ways", .fn 74), ("_law_met", .fn 81), ("_law_marks", .fn 86), ("_law_below", .fn 91), ("law", .fn 96)]
noncomputable def base2 : Cx := { glob := fun x => globs2.lookup x, F := fun _ _ _ => False, gen := fun a => a == 29 }
noncomputable def defs2 : List (Addr × Fn) := [
  (22, fnOf body2 22 "pretty_flags"),
  (36, fnOf body2 36 "_substitution_cost"),
  (43, fnOf body2 43 "_levenshtein_distance"),
  (50, fnOf body2 50 "_law_seeds"),
  (55, fnOf body2 55 "_law_names"),
  (62, fnOf body2 62 "_law_changed"),
  (69, fnOf body2 69 "_law_led"),
  (74, fnOf body2 74 "_law_ways"),
  (81, fnOf body2 81 "_law_met"),
  (86, fnOf body2 86 "_law_marks"),
  (91, fnOf body2 91 "_law_below"),
  (96, fnOf body2 96 "law")]
end Mine
end
section
open PySem PySem.W
namespace Mine
variable {C : Cx} {Γ : Gm} {σ σ' σ'' σ₁ τ : Sg} {fl : Fl}
/-! what a smaller frame tells, a larger one tells -/
inductive LeT : Th → Th → Prop
  | fr {m m' : List (Str × D)} (h : ∀ x d, m.lookup x = some d → m'.lookup x = some d) : LeT (.fr m) (.fr m')
  | ce {c c' : Option D} (h : ∀ d, c = some d → c' = some d) : LeT (.ce c) (.ce c')
  | lst (vs : List V) : LeT (.lst vs) (.lst vs)
noncomputable abbrev Le : Sg → Sg → Prop := All2 LeT
theorem LeT.at {prog : Program} {w : World} {g : G} {φ : List Addr} {h : Heap} {a : Addr} {t u : Th} (l : LeT t u) (x : ThAt prog w g φ h a u) : ThAt prog w g φ h a t := by
  cases l with
  | fr q => exact Exists.imp (fun _ r => ⟨r.1, fun y d e => r.2 y d (q y d e)⟩) x
  | ce q => exact Exists.imp (fun _ r => ⟨r.1, fun d e => r.2 d (q d e)⟩) x
  | lst vs => exact x
theorem All2.comp {α β γ : Type} {P : α → β → Prop} {Q : γ → β → Prop} {R : α → γ → Prop} {as : List α} {bs : List β} (h : All2 P as bs) : ∀ {cs : List γ}, All2 Q cs bs → (∀ a b c, P a b → Q c b → R a c) → All2 R as cs := by
  induction h with
  | nil => exact fun q _ => by cases q; exact .nil
  | cons h1 _ ih => exact fun q f => by cases q with | cons q1 q2 => exact .cons (f _ _ _ h1 q1) (ih q2 f)
theorem Le.refl : ∀ σ : Sg, Le σ σ
  | [] => .nil
  | t :: σ => .cons (match t with | .fr m => .fr fun _ _ e => e | .ce c => .ce fun _ e => e | .lst vs => .lst vs) (Le.refl σ)
theorem Rel.forget {prog : Program} {w : World} {h₀ : Heap} {L : Lay} {h : Heap} (l : Le σ τ) (R : Rel prog w h₀ L τ h) : Rel prog w h₀ L σ h :=
  ⟨R.base, R.nodup, R.apart, R.ext, R.own.comp l fun _ _ _ t q => q.at t⟩
set_option genInjectivity true in
/-- what σ asks of τ, as one datum -/
inductive Sn where
  | fr (l : List (Option D))
  | ce (c : Option D)
  | lst (vs : List V)
  | bad
noncomputable def seenT : Th → Th → Sn
  | .fr m, .fr m' => .fr (m.map fun p => m'.lookup p.1)
  | .ce c, .ce c' => .ce (c.bind fun _ => c')
  | .lst _, .lst vs => .lst vs
  | _, _ => .bad
noncomputable def fullT : Th → Sn
  | .fr m => .fr (m.map fun p => some p.2)
  | .ce c => .ce c
  | .lst vs => .lst vs
noncomputable def seen : Sg → Sg → List Sn
  | [], [] => []
  | t :: σ, u :: τ => seenT t u :: seen σ τ
  | _, _ => [.bad]
noncomputable def full (σ : Sg) : List Sn := σ.map fullT
theorem lookup_map {m' : List (Str × D)} : ∀ {m : List (Str × D)}, (m.map fun p => m'.lookup p.1) = m.map (fun p => some p.2) → ∀ x d, m.lookup x = some d → m'.lookup x = some d
  | [], _, _, _, q => nomatch q
  | (y, e) :: r, h, x, d, q => by
    rw [List.lookup] at q
    cases hy : x == y with
    | true => rw [hy] at q; cases q; exact (beq_iff_eq.mp hy) ▸ (List.cons.inj h).1
    | false => rw [hy] at q; exact lookup_map (List.cons.inj h).2 x d q
theorem LeT.of_seen : ∀ {t u : Th}, seenT t u = fullT t → LeT t u
  | .fr _, .fr _, h => .fr (lookup_map (Sn.fr.inj h))
  | .ce none, .ce _, _ => .ce fun _ q => nomatch q
  | .ce (some _), .ce _, h => .ce fun _ q => q ▸ Sn.ce.inj h
  | .lst _, .lst _, h => Sn.lst.inj h ▸ .lst _
  | .fr _, .ce _, h => nomatch h
  | .fr _, .lst _, h => nomatch h
  | .ce _, .fr _, h => nomatch h
  | .ce _, .lst _, h => nomatch h
  | .lst _, .fr _, h => nomatch h
  | .lst _, .ce _, h => nomatch h
theorem Le.of_seen : ∀ {σ τ : Sg}, seen σ τ = full σ → Le σ τ
  | [], [], _ => .nil
  | _ :: _, _ :: _, h => .cons (.of_seen (List.cons.inj h).1) (Le.of_seen (List.cons.inj h).2)
  | [], _ :: _, h => nomatch h
  | t :: _, [], h => by
    have q : Sn.bad = fullT t := (List.cons.inj h).1
    cases t <;> exact nomatch q
/-- the same, as things that are not unfolded -/
structure Nm (C : Cx) (Γ : Gm) (σ : Sg) (x : Str) (d : D) : Prop where
  ok : NameOK C Γ σ x d
structure Ev (C : Cx) (Γ : Gm) (σ : Sg) (e : Expr) (d : D) : Prop where
  ok : EvOK C Γ σ e d
structure Bt (C : Cx) (Γ : Gm) (σ : Sg) (e : Expr) (b : Bool) : Prop where
  ok : BOK C Γ σ e b
structure Fr (C : Cx) (Γ : Gm) (σ : Sg) (e : Expr) (xs : List V) : Prop where
  ok : FreshOK C Γ σ e xs
structure RunS (C : Cx) (Γ : Gm) (σ : Sg) (st : Stmt) (fl : Fl) (σ' : Sg) : Prop where
  ok : SOK C Γ σ st fl σ'
structure Runs (C : Cx) (Γ : Gm) (σ : Sg) (sts : List Stmt) (fl : Fl) (σ' : Sg) : Prop where
  ok : LOK C Γ σ sts fl σ'
theorem Ev.weak {e : Expr} {d : D} (l : Le σ τ) (h : Ev C Γ σ e d) : Ev C Γ τ e d := ⟨fun X R => h.ok X (R.forget l)⟩
theorem StOK.post {b : Nat} {x : Str} {d : D} (l : Le σ'' σ') (h : StOK Γ b σ x d σ') : StOK Γ b σ x d σ'' := fun er R r hQ => h er R r fun s' st R' => hQ s' st (R'.forget l)
theorem AsgOK.weak {b : Nat} {t : Expr} {x : V} (l : Le σ τ) (h : AsgOK Γ b σ t x σ') : AsgOK Γ b τ t x σ' := ⟨h.tgt, fun hh er R => h.run hh er (R.forget l)⟩
theorem AsgOK.post {b : Nat} {t : Expr} {x : V} (l : Le σ'' σ') (h : AsgOK Γ b σ t x σ') : AsgOK Γ b σ t x σ'' := ⟨h.tgt, fun hh er R r hQ => h.run hh er R r fun s' st R' => hQ s' st (R'.forget l)⟩
theorem SOut.forget {prog : Program} {w : World} {h₀ : Heap} {L : Lay} {s s' : Shared} {new : List Addr} (l : Le σ'' σ') (o : SOut prog w h₀ L σ' s s' new) : SOut prog w h₀ L σ'' s s' new := ⟨o.fresh, o.stp, o.rel.forget l⟩
theorem RunS.weak {st : Stmt} (l : Le σ τ) (h : RunS C Γ σ st fl σ') : RunS C Γ τ st fl σ' := ⟨fun X R => h.ok X (R.forget l)⟩
theorem Runs.weak {st : List Stmt} (l : Le σ τ) (h : Runs C Γ σ st fl σ') : Runs C Γ τ st fl σ' := ⟨fun X R => h.ok X (R.forget l)⟩
theorem RunS.post {st : Stmt} (l : Le σ'' σ') (h : RunS C Γ σ st fl σ') : RunS C Γ σ st fl σ'' := ⟨fun X R hQ => h.ok X R fun f s' new o => hQ f s' new (o.forget l)⟩
theorem Runs.post {st : List Stmt} (l : Le σ'' σ') (h : Runs C Γ σ st fl σ') : Runs C Γ σ st fl σ'' := ⟨fun X R hQ => h.ok X R fun f s' new o => hQ f s' new (o.forget l)⟩
/-! by computation -/
theorem calc2 {α β : Type} {P : α → Prop} {f : α → β} {o : Option (Subtype P)} {b : β} (h : o.map (fun r => f r.1) = some b) : ∃ a, P a ∧ f a = b := let ⟨r, _, e⟩ := Option.map_eq_some_iff.mp h; ⟨r.1, r.2, e⟩
theorem calc1 {α : Type} {P : α → Prop} {o : Option (Subtype P)} {b : α} (h : o.map (·.1) = some b) : P b := let ⟨r, _, e⟩ := Option.map_eq_some_iff.mp h; e ▸ r.2
theorem Nm.calc {x : Str} {d : D} (h : (nameC C Γ σ x).map (·.1) = some d) : Nm C Γ σ x d := ⟨calc1 h⟩
theorem Ev.calc {e : Expr} {d : D} (h : (evE C (noF C) 60 Γ σ e).map (·.1) = some d) : Ev C Γ σ e d := ⟨calc1 h⟩
theorem Bt.calc {e : Expr} {b : Bool} (h : (evB C (noF C) 60 Γ σ e).map (·.1) = some b) : Bt C Γ σ e b := ⟨calc1 h⟩
theorem Fr.calc {e : Expr} {xs : List V} (h : (evF C (noF C) 60 Γ σ e).map (·.1) = some xs) : Fr C Γ σ e xs := ⟨calc1 h⟩
theorem IsBi.calc {x : Str} {bv : Value} (h : (isBiC C Γ x).map (·.1) = some bv) : IsBi C Γ x bv := calc1 h
theorem ArgsOK.calc {es : List Expr} {ds : List D} (h : (argsC (evE C (noF C) 60 Γ σ) es).map (·.1) = some ds) : ArgsOK C Γ σ es ds := calc1 h
theorem IterOK.calc {e : Expr} {deep tup : Bool} {xs : List V} (h : (iterC (evE C (noF C) 60 Γ σ) e deep tup).map (·.1) = some xs) : IterOK C Γ σ e deep tup xs := calc1 h
theorem StOK.calc {b : Nat} {x : Str} {d : D} (h : (stC Γ b σ x d).map (fun r => seen σ' r.1) = some (full σ')) : StOK Γ b σ x d σ' := let ⟨_, q, e⟩ := calc2 h; StOK.post (.of_seen e) q
theorem AsgOK.calc {b : Nat} {t : Expr} {x : V} (h : (asgC Γ b σ t x).map (fun r => seen σ' r.1) = some (full σ')) : AsgOK Γ b σ t x σ' := let ⟨_, q, e⟩ := calc2 h; q.post (.of_seen e)
theorem RunS.calc (mu : List Str) {st : Stmt} (h : (exS C (noF C) mu 60 Γ σ st).map (fun r => (r.1.1, seen σ' r.1.2)) = some (fl, full σ')) : RunS C Γ σ st fl σ' :=
  let ⟨r, q, e⟩ := calc2 (f := fun r : Fl × Sg => (r.1, seen σ' r.2)) h; (Prod.mk.inj e).1 ▸ RunS.post (.of_seen (Prod.mk.inj e).2) ⟨q⟩
theorem Runs.calc (mu : List Str) {st : List Stmt} (h : (exL C (noF C) mu 60 Γ σ st).map (fun r => (r.1.1, seen σ' r.1.2)) = some (fl, full σ')) : Runs C Γ σ st fl σ' :=
  let ⟨r, q, e⟩ := calc2 (f := fun r : Fl × Sg => (r.1, seen σ' r.2)) h; (Prod.mk.inj e).1 ▸ Runs.post (.of_seen (Prod.mk.inj e).2) ⟨q⟩
end Mine
end
section
open PySem PySem.W
namespace Mine
variable {C : Cx} {Γ : Gm} {σ σ' σ'' σ₁ σ₂ τ : Sg} {fl : Fl} {v : V} {st : Stmt} {e : Expr}
/-! parts of a text -/
noncomputable def kids : Expr → List Expr
  | .BinOp l _ r _ => [l, r]
  | .UnaryOp _ x _ => [x]
  | .Compare l _ rs _ => l :: rs
  | .Subscript o i _ => [o, i]
  | .IfExp t b o _ => [t, b, o]
  | .Call f as _ _ => f :: as
  | .Attribute o _ _ => [o]
  | .BoolOp _ vs _ => vs
  | .ListComp e _ _ _ => [e]
  | _ => []
noncomputable def compGen : Expr → Comprehension × Scope
  | .ListComp _ (g :: _) sc _ => (g, sc)
  | _ => default
noncomputable def subs : Stmt → List Expr
  | .Assign ts v _ => v :: ts
  | .Return o _ => o.toList
  | .AugAssign t _ v _ => [v, t]
  | .Expr e _ => [e]
  | .For t i _ _ _ => [t, i]
  | .While t _ _ _ => [t]
  | .If t _ _ _ => [t]
  | _ => []
noncomputable def blks : Stmt → List (List Stmt)
  | .For _ _ b o _ => [b, o]
  | .While _ b o _ => [b, o]
  | .If _ b o _ => [b, o]
  | _ => []
noncomputable def kid (e : Expr) (i : Nat) : Expr := (kids e)[i]?.getD default
noncomputable def sub (st : Stmt) (i : Nat) : Expr := (subs st)[i]?.getD default
noncomputable def stAt (l : List Stmt) (i : Nat) : Stmt := l[i]?.getD (.Break default)
noncomputable abbrev stB (st : Stmt) : List Stmt := (blks st)[0]?.getD []
noncomputable abbrev stO (st : Stmt) : List Stmt := (blks st)[1]?.getD []
noncomputable abbrev stT (st : Stmt) : Expr := sub st 0
noncomputable abbrev forT (st : Stmt) : Expr := sub st 0
noncomputable abbrev forI (st : Stmt) : Expr := sub st 1
noncomputable abbrev asgV (st : Stmt) : Expr := sub st 0
noncomputable abbrev asgT (st : Stmt) : Expr := sub st 1
noncomputable abbrev eL (e : Expr) : Expr := kid e 0
noncomputable abbrev eR (e : Expr) : Expr := kid e 1
noncomputable abbrev eArgs (e : Expr) : List Expr := (kids e).tail
noncomputable abbrev arg (e : Expr) (i : Nat) : Expr := kid e (i + 1)
noncomputable abbrev obj (e : Expr) : Expr := kid (kid e 0) 0
noncomputable abbrev cElt (e : Expr) : Expr := kid e 0
noncomputable abbrev cTgt (e : Expr) : Expr := (compGen e).1.target
noncomputable abbrev cIt (e : Expr) : Expr := (compGen e).1.iter
noncomputable abbrev cIfs (e : Expr) : List Expr := (compGen e).1.ifs
noncomputable abbrev cSc (e : Expr) : Scope := (compGen e).2
theorem Ev.to {e' : Expr} {d : D} (q : e = e') (h : EvOK C Γ σ e' d) : Ev C Γ σ e d := ⟨q ▸ h⟩
theorem Ev.is {d d' : D} (q : d = d') (h : Ev C Γ σ e d) : Ev C Γ σ e d' := q ▸ h
theorem Bt.to {e' : Expr} {b : Bool} (q : e = e') (h : BOK C Γ σ e' b) : Bt C Γ σ e b := ⟨q ▸ h⟩
theorem Bt.is {b b' : Bool} (q : b = b') (h : Bt C Γ σ e b) : Bt C Γ σ e b' := q ▸ h
theorem ArgsOK.to {es es' : List Expr} {ds : List D} (q : es = es') (h : ArgsOK C Γ σ es' ds) : ArgsOK C Γ σ es ds := q ▸ h
theorem IterOK.to {e' : Expr} {deep tup : Bool} {xs : List V} (q : e = e') (h : IterOK C Γ σ e' deep tup xs) : IterOK C Γ σ e deep tup xs := q ▸ h
theorem IterOK.is {deep tup : Bool} {xs ys : List V} (q : xs = ys) (h : IterOK C Γ σ e deep tup xs) : IterOK C Γ σ e deep tup ys := q ▸ h
theorem Fr.to {e' : Expr} {xs : List V} (q : e = e') (h : FreshOK C Γ σ e' xs) : Fr C Γ σ e xs := ⟨q ▸ h⟩
theorem RunS.to {st' : Stmt} (q : st = st') (h : SOK C Γ σ st' fl σ') : RunS C Γ σ st fl σ' := ⟨q ▸ h⟩
theorem Runs.to {l l' : List Stmt} (q : l = l') (h : Runs C Γ σ l' fl σ') : Runs C Γ σ l fl σ' := q ▸ h
theorem Runs.nil : Runs C Γ σ [] .next σ := ⟨l_nil⟩
theorem Runs.cons {r : List Stmt} (h : RunS C Γ σ st .next σ₁) (k : Runs C Γ σ₁ r fl σ') : Runs C Γ σ (st :: r) fl σ' := ⟨l_cons h.ok k.ok⟩
theorem Runs.ret {r : List Stmt} (h : RunS C Γ σ st (.ret v) σ') : Runs C Γ σ (st :: r) (.ret v) σ' := ⟨l_ret h.ok⟩
theorem Runs.brk {r : List Stmt} (h : RunS C Γ σ st .brk σ') : Runs C Γ σ (st :: r) .brk σ' := ⟨l_brk h.ok⟩
/-! expressions -/
theorem E.bin {op : Operator} {a b : D} {c : V} (he : e = .BinOp (kid e 0) op (kid e 1) e.pos) (h1 : Ev C Γ σ (kid e 0) a) (h2 : Ev C Γ σ (kid e 1) b) (h3 : BinOK σ op a b c) : Ev C Γ σ e (.v c) := .to he (ev_bin h1.ok h2.ok h3)
theorem E.mul {x y : Int} (he : e = .BinOp (kid e 0) .Mult (kid e 1) e.pos) (h1 : Ev C Γ σ (kid e 0) (.v (.int x))) (h2 : Ev C Γ σ (kid e 1) (.v (.int y))) (h : x.natAbs < bigBits) : Ev C Γ σ e (.v (.int (x * y))) := E.bin he h1 h2 (bin_mul h)
theorem E.pow {p : Nat} (he : e = .BinOp (kid e 0) .Pow (kid e 1) e.pos) (h1 : Ev C Γ σ (kid e 0) (.v (.int 2))) (h2 : Ev C Γ σ (kid e 1) (.v (.int p))) (h : p < 1000) : Ev C Γ σ e (.v (.int ((2 ^ p : Nat) : Int))) :=
  .is (congrArg (fun i : Int => D.v (.int i)) (by rw [Int.toNat_natCast, Int.natCast_pow]; rfl)) (E.bin he h1 h2 (bin_pow ⟨Int.natCast_nonneg p, Int.ofNat_lt.mpr h⟩))
theorem E.cmp {op : CmpOp} {a b : D} {c : Bool} (he : e = .Compare (kid e 0) [op] [kid e 1] e.pos) (hm : behindInMarks op (kid e 1) = false) (h1 : Ev C Γ σ (kid e 0) a) (h2 : Ev C Γ σ (kid e 1) b) (h3 : CmpOK σ op a b c) : Ev C Γ σ e (.v (.bool c)) := .to he (ev_cmp h1.ok h2.ok h3 hm)
theorem B.cmp {op : CmpOp} {a b : D} {c : Bool} (he : e = .Compare (kid e 0) [op] [kid e 1] e.pos) (hm : behindInMarks op (kid e 1) = false) (h1 : Ev C Γ σ (kid e 0) a) (h2 : Ev C Γ σ (kid e 1) b) (h3 : CmpOK σ op a b c) : Bt C Γ σ e c := .to he (b_cmp h1.ok h2.ok h3 hm)
theorem B.not {c : Bool} (he : e = .UnaryOp .Not (kid e 0) e.pos) (h : Bt C Γ σ (kid e 0) c) : Bt C Γ σ e (!c) := .to he (b_not h.ok)
theorem E.item {a b d : D} (he : e = .Subscript (kid e 0) (kid e 1) e.pos) (hs : isSlice (kid e 1) = false) (h1 : Ev C Γ σ (kid e 0) a) (h2 : Ev C Γ σ (kid e 1) b) (h3 : ItemOK σ a b d) : Ev C Γ σ e d := .to he (ev_item hs h1.ok h2.ok h3)
theorem E.ifE {c : Bool} {d : D} (he : e = .IfExp (kid e 0) (kid e 1) (kid e 2) e.pos) (h : Bt C Γ σ (kid e 0) c) (h1 : c = true → Ev C Γ σ (kid e 1) d) (h2 : c = false → Ev C Γ σ (kid e 2) d) : Ev C Γ σ e d := .to he (ev_if h.ok (fun q => (h1 q).ok) fun q => (h2 q).ok)
theorem E.call {f : Str} {a : Addr} {vs : List V} {r : V} (he : e = .Call (.Name f (kid e 0).pos) (eArgs e) [] e.pos) (hf : Nm C Γ σ f (.v (.fn a))) (ha : ArgsOK C Γ σ (eArgs e) (vs.map .v)) (hF : C.F a vs r) : Ev C Γ σ e (.v r) := .to he (ev_call hf.ok ha hF)
theorem E.callArg {f : Str} {a : Addr} {ds : List D} {vs : List V} {r : V} (he : e = .Call (.Name f (kid e 0).pos) (eArgs e) [] e.pos) (hf : Nm C Γ σ f (.v (.fn a))) (ha : ArgsOK C Γ σ (eArgs e) ds) (hd : All2 (DeepOK σ) ds vs) (hr : atomic r = true) (hF : C.F a vs r) : Ev C Γ σ e (.v r) := .to he (ev_callL hf.ok ha hd hr hF)
theorem E.bi {f : Str} {bv : Value} {ds : List D} {r : V} (he : e = .Call (.Name f (kid e 0).pos) (eArgs e) [] e.pos) (hf : IsBi C Γ f bv) (ha : ArgsOK C Γ σ (eArgs e) ds) (h : BiOK σ bv ds r) : Ev C Γ σ e (.v r) := .to he (ev_bi hf ha (bin_of rfl hf.2.2.2 h))
theorem E.meth {m : Str} {od : D} {ds : List D} {r : V} (he : e = .Call (.Attribute (obj e) m (kid e 0).pos) (eArgs e) [] e.pos) (hm : methOk (obj e) (kid e 0).pos (eArgs e) e.pos = true) (ho : Ev C Γ σ (obj e) od) (ha : ArgsOK C Γ σ (eArgs e) ds) (h : MethOK σ od m ds r) : Ev C Γ σ e (.v r) := .to he (ev_meth hm ho.ok ha h)
theorem args1 {es : List Expr} {d : D} (hs : es = [es[0]?.getD default]) (h0 : isStar (es[0]?.getD default) = false) (h : Ev C Γ σ (es[0]?.getD default) d) : ArgsOK C Γ σ es [d] := .to hs (args_cons h0 h.ok args_nil)
theorem args2 {es : List Expr} {d d' : D} (hs : es = [es[0]?.getD default, es[1]?.getD default]) (h0 : isStar (es[0]?.getD default) = false) (h1 : isStar (es[1]?.getD default) = false) (h : Ev C Γ σ (es[0]?.getD default) d) (h' : Ev C Γ σ (es[1]?.getD default) d') : ArgsOK C Γ σ es [d, d'] := .to hs (args_cons h0 h.ok (args_cons h1 h'.ok args_nil))
structure Al (C : Cx) (Γ : Gm) (σ : Sg) (op : BoolOp) (es : List Expr) (b : Bool) : Prop where
  ok : AllOK C Γ σ op es b
theorem Al.nil (op : BoolOp) : Al C Γ σ op [] (op == .And) := ⟨al_nil op⟩
theorem Al.and {x : Expr} {r : List Expr} {t b : Bool} (h : Bt C Γ σ x t) (k : t = true → Al C Γ σ .And r b) : Al C Γ σ .And (x :: r) (t && b) := ⟨by
  cases t with
  | true => exact al_more (op := .And) h.ok (fun q => nomatch (show false = true from q)) fun _ => (k rfl).ok
  | false => exact al_more (op := .And) h.ok (fun _ => rfl) fun q => nomatch (show true = false from q)⟩
theorem Al.or {x : Expr} {r : List Expr} {t b : Bool} (h : Bt C Γ σ x t) (k : t = false → Al C Γ σ .Or r b) : Al C Γ σ .Or (x :: r) (t || b) := ⟨by
  cases t with
  | false => exact al_more (op := .Or) h.ok (fun q => nomatch (show false = true from q)) fun _ => (k rfl).ok
  | true => exact al_more (op := .Or) h.ok (fun _ => rfl) fun q => nomatch (show true = false from q)⟩
theorem B.bool {op : BoolOp} {es : List Expr} {b : Bool} (he : e = .BoolOp op es e.pos) (h : Al C Γ σ op es b) : Bt C Γ σ e b := .to he (b_boolop h.ok)
structure Bo (C : Cx) (Γ : Gm) (σ : Sg) (op : BoolOp) (es : List Expr) (d : D) : Prop where
  ok : BoolsOK C Γ σ op es d
theorem Bo.one {op : BoolOp} {x : Expr} {d : D} (h : Ev C Γ σ x d) : Bo C Γ σ op [x] d := ⟨bo_one h.ok⟩
theorem Bo.and {x y : Expr} {r : List Expr} {b c : Bool} (h : Ev C Γ σ x (.v (.bool b))) (k : b = true → Bo C Γ σ .And (y :: r) (.v (.bool c))) : Bo C Γ σ .And (x :: y :: r) (.v (.bool (b && c))) := ⟨by
  cases b with
  | true => exact bo_more (op := .And) h.ok (truth_bool _) (fun q => nomatch (show false = true from q)) fun _ => (k rfl).ok
  | false => exact bo_more (op := .And) h.ok (truth_bool _) (fun _ => rfl) fun q => nomatch (show true = false from q)⟩
theorem E.bool {op : BoolOp} {es : List Expr} {d : D} (he : e = .BoolOp op es e.pos) (h : Bo C Γ σ op es d) : Ev C Γ σ e d := .to he (ev_boolop h.ok)
theorem B.value {d : D} {t : Bool} (hp : plainT e = true) (h : Ev C Γ σ e d) (h2 : TruthOK σ d t) : Bt C Γ σ e t := ⟨b_value hp h.ok h2⟩
theorem Fr.ev {xs : List V} (h : Fr C Γ σ e xs) : Ev C Γ σ e (.v (.lst xs)) := ⟨FreshOK.ev h.ok⟩
theorem Fr.is {xs ys : List V} (q : xs = ys) (h : Fr C Γ σ e xs) : Fr C Γ σ e ys := q ▸ h
theorem Fr.range {g : Str} {ds : List D} {a b c : Int} (he : e = .Call (.Name "list" (kid e 0).pos) [.Call (.Name g (kid (arg e 0) 0).pos) (eArgs (arg e 0)) [] (arg e 0).pos] [] e.pos) (hf : IsBi C Γ "list" (.type "list")) (hg : IsBi C Γ g (.type "range")) (h : ArgsOK C Γ σ (eArgs (arg e 0)) ds) (hr : RngOK ds a b c) (ho : rangeOk a b c = true) : Fr C Γ σ e (rangeV a c (rangeN a b c)) := .to he (fr_range hf hg h hr ho)
/-! what a loop goes over -/
theorem iter_range {f : Str} {ds : List D} {a b c : Int} {deep : Bool} (he : e = .Call (.Name f (kid e 0).pos) (eArgs e) [] e.pos) (hb : IsBi C Γ f (.type "range")) (ha : ArgsOK C Γ σ (eArgs e) ds) (hr : RngOK ds a b c) (ho : rangeOk a b c = true) : IterOK C Γ σ e deep false (rangeV a c (rangeN a b c)) := .to he (it_range hb ha hr ho)
theorem iter_enum {f : Str} {xs : List V} {deep : Bool} (he : e = .Call (.Name f (kid e 0).pos) (eArgs e) [] e.pos) (hb : IsBi C Γ f (.type "enumerate")) (ha : ArgsOK C Γ σ (eArgs e) [.v (.lst xs)]) : IterOK C Γ σ e deep true (enumL xs 0) := .to he (it_enum hb ha (lst_v xs) fun _ => rfl)
theorem iter_lst {deep tup : Bool} {xs : List V} (hs : isSet e = false) (h : Ev C Γ σ e (.v (.lst xs))) : IterOK C Γ σ e deep tup xs := it_lst hs h.ok
/-! comprehensions -/
theorem Le.frame {b : Nat} {m : List (Str × D)} (l : Le σ τ) (h : σ[b]? = some (.fr m)) : ∃ m', τ[b]? = some (.fr m') := by
  induction l generalizing b with
  | nil => exact nomatch h
  | cons q _ ih => cases b with
    | zero => cases h; cases q; exact ⟨_, rfl⟩
    | succ b => exact ih h
/-- a turn from the state ahead of the first one -/
structure Turn (C : Cx) (Γ : Gm) (b : Nat) (σ : Sg) (e : Expr) (x y : V) : Prop where
  ok : ∃ σ₁, AsgOK Γ b σ (cTgt e) x σ₁ ∧ Le σ σ₁ ∧ Ev C Γ σ₁ (cElt e) (.v y)
theorem turns_map {α : Type} {b : Nat} {m : List (Str × D)} (enc g : α → V) (h0 : cIfs e = []) (hm : σ[b]? = some (.fr m)) : ∀ (xs : List α), (∀ x ∈ xs, Turn C Γ b σ e (enc x) (g x)) → ∀ {τ : Sg}, Le σ τ → TurnsR C Γ b (cTgt e) (cIfs e) (cElt e) τ (xs.map enc) (xs.map g)
  | [], _, _, l => let ⟨_, q⟩ := l.frame hm; .nil q
  | x :: xs, h, _, l => let ⟨_, h1, h2, h3⟩ := (h x (List.mem_cons_self ..)).ok; 
    .yes (h1.weak l) (h0 ▸ ifs_nil) h3.ok (turns_map enc g h0 hm xs (fun y hy => h y (List.mem_cons_of_mem _ hy)) h2)
structure CompOK (C : Cx) (Γ : Gm) (σ : Sg) (e : Expr) (ys : List V) : Prop where
  he : e = .ListComp (cElt e) [⟨cTgt e, cIt e, cIfs e, 0⟩] (cSc e) e.pos
  ok : ∃ xs fr tup, CompR C Γ σ (cElt e) (cTgt e) (cIt e) (cIfs e) (cSc e) xs ys fr tup
noncomputable def cFr (Γ : Gm) (e : Expr) : List (Str × Nat) := (freesOf Γ (cSc e).names []).getD []
noncomputable abbrev cG (Γ : Gm) (b : Nat) (e : Expr) : Gm := compGm Γ b (cSc e) (cFr Γ e)
noncomputable abbrev cS (σ : Sg) (e : Expr) : Sg := σ ++ opened (cSc e).names
theorem getD_of {α : Type} {o : Option α} {d : α} (h : o.isSome = true) : o = some (o.getD d) := by
  cases o with
  | none => exact nomatch h
  | some x => rfl
theorem opened_at : ∀ (σ : Sg) (ns), (σ ++ opened ns)[σ.length]? = some (.fr [])
  | [], _ => rfl
  | _ :: σ, ns => opened_at σ ns
/-- over elements of a kind, no test -/
theorem compMap {α : Type} {xs : List α} {tup : Bool} (enc g : α → V) (he : e = .ListComp (cElt e) [⟨cTgt e, cIt e, cIfs e, 0⟩] (cSc e) e.pos) (h0 : cIfs e = []) (hk : (compOk (cSc e) && (freesOf Γ (cSc e).names []).isSome) = true) (ht : isTup (cTgt e) = tup) (h1 : IterOK C Γ σ (cIt e) false tup (xs.map enc)) (hl : xs.length < lim)
    (h3 : ∀ x ∈ xs, Turn C (cG Γ σ.length e) σ.length (cS σ e) e (enc x) (g x)) : CompOK C Γ σ e (xs.map g) :=
  ⟨he, _, _, _, h1, (Bool.and_eq_true_iff.mp hk).1, (List.length_map enc (as := xs)).symm ▸ hl, ht, getD_of (Bool.and_eq_true_iff.mp hk).2, turns_map enc g h0 (opened_at ..) xs h3 (Le.refl _)⟩
theorem CompOK.ev {ys : List V} (h : CompOK C Γ σ e ys) : Ev C Γ σ e (.v (.lst ys)) := let ⟨_, _, _, q⟩ := h.ok; .to h.he (FreshOK.ev q.fresh)
/-! statements -/
theorem RunS.set {x : Str} (hs : st = .Assign [.Name x (sub st 1).pos] (asgV st) st.pos) (hc : isComp (asgV st) = false) (h : Ev C Γ σ (asgV st) (.v v)) (k : (stC Γ 0 σ x (.v v)).map (fun r => seen σ' r.1) = some (full σ')) : RunS C Γ σ st .next σ' := .to hs (s_set hc h.ok (StOK.calc k))
theorem RunS.set2 {x y : Str} (hs : st = .Assign [.Name x (sub st 1).pos, .Name y (sub st 2).pos] (asgV st) st.pos) (h : Ev C Γ σ (asgV st) (.v v)) (k1 : (stC Γ 0 σ x (.v v)).map (fun r => seen σ₁ r.1) = some (full σ₁)) (k : (stC Γ 0 σ₁ y (.v v)).map (fun r => seen σ' r.1) = some (full σ')) : RunS C Γ σ st .next σ' := .to hs (s_two h.ok (StOK.calc k1) (StOK.calc k))
theorem RunS.own {x : Str} {xs : List V} (hs : st = .Assign [.Name x (sub st 1).pos] (asgV st) st.pos) (hc : isComp (asgV st) = false) (h : Fr C Γ σ (asgV st) xs) (k : (stC Γ 0 (σ ++ [.lst xs]) x (.loc σ.length)).map (fun r => seen σ' r.1) = some (full σ')) : RunS C Γ σ st .next σ' := .to hs (s_own hc h.ok (StOK.calc k))
theorem RunS.comp {x : Str} {ys : List V} (hs : st = .Assign [.Name x (sub st 1).pos] (asgV st) st.pos) (h : CompOK C Γ σ (asgV st) ys) (k : (stC Γ 0 σ x (.v (.lst ys))).map (fun r => seen σ' r.1) = some (full σ')) : RunS C Γ σ st .next σ' :=
  let ⟨_, _, _, q⟩ := h.ok; .to (hs.trans (congrArg (fun e => Stmt.Assign [.Name x (sub st 1).pos] e st.pos) h.he)) (s_comp q (StOK.calc k))
theorem RunS.return (hs : st = .Return (some (asgV st)) st.pos) (h : Ev C Γ σ (asgV st) (.v v)) : RunS C Γ σ st (.ret v) σ := .to hs (s_ret h.ok (deep_v v))
theorem RunS.if (hs : st = .If (stT st) (stB st) (stO st) st.pos) (c : Bool) (h : Bt C Γ σ (stT st) c) (k1 : c = true → Runs C Γ σ (stB st) fl σ') (k2 : c = false → Runs C Γ σ (stO st) fl σ') : RunS C Γ σ st fl σ' := .to hs (s_if h.ok (fun q => (k1 q).ok) fun q => (k2 q).ok)
theorem RunS.append {i : Nat} {vs : List V} (hs : st = .Expr (.Call (.Attribute (obj (sub st 0)) "append" (kid (sub st 0) 0).pos) [arg (sub st 0) 0] [] (sub st 0).pos) st.pos) (hm : methOk (obj (sub st 0)) (kid (sub st 0) 0).pos [arg (sub st 0) 0] (sub st 0).pos = true) (ha : isStar (arg (sub st 0) 0) = false)
    (h1 : Ev C Γ σ (obj (sub st 0)) (.loc i)) (h2 : Ev C Γ σ (arg (sub st 0) 0) (.v v)) (h3 : σ[i]? = some (.lst vs)) (h4 : vs.length < lim) (l : Le σ' (σ.set i (.lst (vs ++ [v])))) : RunS C Γ σ st .next σ' := .post l (.to hs (s_append hm rfl h1.ok ha h2.ok h3 h4))
theorem RunS.extend {i : Nat} {vs ws : List V} (hs : st = .Expr (.Call (.Attribute (obj (sub st 0)) "extend" (kid (sub st 0) 0).pos) [arg (sub st 0) 0] [] (sub st 0).pos) st.pos) (hm : methOk (obj (sub st 0)) (kid (sub st 0) 0).pos [arg (sub st 0) 0] (sub st 0).pos = true) (ha : isStar (arg (sub st 0) 0) = false)
    (h1 : Ev C Γ σ (obj (sub st 0)) (.loc i)) (h2 : Ev C Γ σ (arg (sub st 0) 0) (.v (.lst ws))) (h3 : σ[i]? = some (.lst vs)) (h4 : vs.length + ws.length < lim) (l : Le σ' (σ.set i (.lst (vs ++ ws)))) : RunS C Γ σ st .next σ' := .post l (.to hs (s_extend hm rfl h1.ok ha h2.ok h3 h4))
theorem place_nat {m k : Nat} (h : k < m) : place m (k : Int) = some k := (if_pos (Int.natCast_nonneg k)).trans (if_pos (Int.ofNat_lt.mpr h))
theorem RunS.put {j k : Nat} {vs : List V} (hs : st = .Assign [.Subscript (kid (asgT st) 0) (kid (asgT st) 1) (asgT st).pos] (asgV st) st.pos) (hc : isComp (asgV st) = false) (h : Ev C Γ σ (asgV st) (.v v)) (h1 : Ev C Γ σ (kid (asgT st) 0) (.loc j)) (h2 : Ev C Γ σ (kid (asgT st) 1) (.v (.int k))) (h3 : σ[j]? = some (.lst vs)) (h4 : k < vs.length)
    (l : Le σ' (σ.set j (.lst (vs.set k v)))) : RunS C Γ σ st .next σ' := .post l (.to hs (s_put h.ok h1.ok h2.ok h3 (place_nat h4) (no_swap hc _ _)))
theorem RunS.augPut {op : Operator} {j k : Nat} {vs : List V} {a b r : Int} (hs : st = .AugAssign (.Subscript (kid (asgT st) 0) (kid (asgT st) 1) (asgT st).pos) op (asgV st) st.pos) (hl : isSlice (kid (asgT st) 1) = false) (h1 : Ev C Γ σ (kid (asgT st) 0) (.loc j)) (h2 : Ev C Γ σ (kid (asgT st) 1) (.v (.int k))) (h3 : σ[j]? = some (.lst vs)) (h4 : vs[k]? = some (.int a))
    (h : Ev C Γ σ (asgV st) (.v (.int b))) (ho : AugOK op a b r) (l : Le σ' (σ.set j (.lst (vs.set k (.int r))))) : RunS C Γ σ st .next σ' := .post l (.to hs (s_augPut hl h1.ok h2.ok h3 (place_nat (List.getElem?_eq_some_iff.mp h4).1) h4 h.ok ho))
/-! loops -/
/-- the name stored, then the turn -/
structure TurnS (C : Cx) (Γ : Gm) (st : Stmt) (σ : Sg) (x : V) (fl : Fl) (σ' : Sg) : Prop where
  ok : ∃ σ₁, AsgOK Γ 0 σ (forT st) x σ₁ ∧ Runs C Γ σ₁ (stB st) fl σ'
theorem TurnS.of {x : V} (h : (asgC Γ 0 σ (forT st) x).map (fun r => seen σ₁ r.1) = some (full σ₁)) (k : Runs C Γ σ₁ (stB st) fl σ') : TurnS C Γ st σ x fl σ' := ⟨σ₁, .calc h, k⟩
structure ForS (C : Cx) (Γ : Gm) (st : Stmt) (vs : List V) (σ : Sg) (fl : Fl) (σ' : Sg) : Prop where
  ok : ∃ n, ForR C Γ uncons (forT st) (stB st) (stO st) n vs σ fl σ'
theorem ForS.done (h : stO st = []) : ForS C Γ st [] σ .next σ := ⟨0, .nil rfl (h ▸ l_nil)⟩
theorem ForS.cons {x : V} {r : List V} (h : TurnS C Γ st σ x .next σ₂) (k : ForS C Γ st r σ₂ fl σ') : ForS C Γ st (x :: r) σ fl σ' := let ⟨_, h1, h2⟩ := h.ok; let ⟨n, k⟩ := k.ok; ⟨n + 1, .cons rfl h1 h2.ok k⟩
theorem ForS.brk {x : V} {r : List V} (h : TurnS C Γ st σ x .brk σ') : ForS C Γ st (x :: r) σ .next σ' := let ⟨_, h1, h2⟩ := h.ok; ⟨0, .brk rfl h1 h2.ok⟩
theorem ForS.ret {x : V} {r : List V} (h : TurnS C Γ st σ x (.ret v) σ') : ForS C Γ st (x :: r) σ (.ret v) σ' := let ⟨_, h1, h2⟩ := h.ok; ⟨0, .ret rfl h1 h2.ok⟩
theorem RunS.for {vs : List V} {tup : Bool} (hs : st = .For (forT st) (forI st) (stB st) (stO st) st.pos) (ht : isTup (forT st) = tup) (h : IterOK C Γ σ (forI st) true tup vs) (k : ForS C Γ st vs σ fl σ') : RunS C Γ σ st fl σ' := let ⟨_, k⟩ := k.ok; .to hs (s_for h.src ht k)
structure WhileS (C : Cx) (Γ : Gm) (st : Stmt) (σ : Sg) (fl : Fl) (σ' : Sg) : Prop where
  ok : ∃ n, WhileR C Γ (stT st) (stB st) (stO st) n σ fl σ'
theorem WhileS.done (h : Bt C Γ σ (stT st) false) (k : Runs C Γ σ (stO st) fl σ') : WhileS C Γ st σ fl σ' := ⟨0, .done h.ok k.ok⟩
theorem WhileS.turn (h : Bt C Γ σ (stT st) true) (h1 : Runs C Γ σ (stB st) .next σ₂) (k : WhileS C Γ st σ₂ fl σ') : WhileS C Γ st σ fl σ' := let ⟨n, k⟩ := k.ok; ⟨n + 1, .turn h.ok h1.ok k⟩
theorem RunS.while (hs : st = .While (stT st) (stB st) (stO st) st.pos) (k : WhileS C Γ st σ fl σ') : RunS C Γ σ st fl σ' := let ⟨_, k⟩ := k.ok; .to hs (s_while k)
theorem ForS.weak {vs : List V} (l : Le σ τ) (h : ForS C Γ st vs σ fl σ') : ForS C Γ st vs τ fl σ' := by
  obtain ⟨n, k⟩ := h.ok
  clear h
  refine ⟨n, ?_⟩
  cases k with
  | nil h k => exact .nil h (Runs.weak l ⟨k⟩).ok
  | cons h ha h1 k => exact .cons h (ha.weak l) h1 k
  | brk h ha h1 => exact .brk h (ha.weak l) h1
  | ret h ha h1 => exact .ret h (ha.weak l) h1
/-! a def's body -/
theorem FnOK.ret {f : Fn} {args : List V} (σ₀ : Sg) (hb : (bindC (fnGm f) f.params args (opened f.scope.names)).map (fun r => seen σ₀ r.1) = some (full σ₀)) (h : Runs C (fnGm f) σ₀ f.body (.ret v) σ') : FnOK C f args v :=
  let ⟨r, _, e⟩ := Option.map_eq_some_iff.mp hb; ⟨_, _, _, r.2, (h.weak (.of_seen e)).ok, rfl⟩
end Mine
end
section
open PySem PySem.W PyProof.Rows PySem.SeqAt
namespace Mine
variable {prog : Program} {w : World} {h₀ : Heap}
/-- the ints of a script -/
theorem script_reps {h : Heap} {P : Params} : ∀ {vs : List Value} {xs : List WData} {is : List Int}, xs = is.map .int → WellAll P h vs xs → Reps prog w h.get? vs (is.map .int)
  | _, _, [], e, .nil => by simp [Reps]
  | _, _, i :: is, e, .cons h1 h2 => by
    simp only [List.map_cons, List.cons.injEq] at e
    obtain ⟨e1, e2⟩ := e
    subst e1
    cases h1
    simp only [List.map_cons, Reps]
    exact ⟨_, _, rfl, ⟨_, rfl⟩, script_reps e2 h2⟩
  | _, _, [], e, .cons h1 h2 => by simp at e
theorem script_shape {R : WRecords} : ∀ {xs : List WData}, WShape.hasItems R xs .int = true → ∃ is : List Int, xs = is.map .int
  | [], _ => ⟨[], rfl⟩
  | x :: xs, h => by
    unfold WShape.hasItems at h
    obtain ⟨h1, h2⟩ := Bool.and_eq_true_iff.mp h
    obtain ⟨is, rfl⟩ := script_shape h2
    cases x with
    | int i => exact ⟨i :: is, rfl⟩
    | _ => simp [WShape.has, WShape.arms] at h1
/-- what the written part shows of a def -/
structure DefK (K : Frag) (a : Addr) (f : Fn) : Prop where
  def' : ∃ o fd, K.lookup a = some o ∧ o.data = .func fd ∧ fd.scope = f.scope ∧ fd.body = .stmts f.body ∧ fd.closure = [] ∧ fd.globals = mainGlobals ∧ fd.builtins = builtinsNs ∧
    (∃ c oc vs t, fd.code = .ref c ∧ K.lookup c = some oc ∧ oc.data = .fields vs ∧ vs[1]? = some (.str fd.qualname t)) ∧
    ∀ vals : List Value, vals.length = f.params.length → bindArgs fd ⟨vals, []⟩ = pure (f.params.zip vals)
  kind : f.scope.kind = .function
  gen : f.scope.isGenerator = false
  co : f.scope.isCoroutine = false
theorem DefK.at' {K : Frag} {h : Heap} (X : K.In h) {a : Addr} {f : Fn} (F : DefK K a f) : DefAt h a f := by
  obtain ⟨o, fd, h1, h2, h3, h4, h5, h6, h7, ⟨c, oc, vs, t, c1, c2, c3, c4⟩, h9⟩ := F.def'
  exact ⟨⟨o, fd, X _ _ h1, h2, h3, h4, h5, h6, h7, ⟨c, oc, vs, t, c1, X _ _ c2, c3, c4⟩, h9⟩, F.kind, F.gen, F.co⟩
/-- what the written part shows of the generator -/
structure GnOK (K : Frag) (a : Addr) : Prop where
  at' : ∃ o fd P, K.lookup a = some o ∧ o.data = .func fd ∧ fd.body = .stmts (gAll P) ∧ fd.scope.kind = .function ∧ fd.scope.isCoroutine = false ∧ fd.scope.isGenerator = true ∧
    (∀ x ∈ fd.scope.names, x.2 ≠ .cell) ∧ fd.scope.names.lookup nLast = some .local ∧ fd.scope.names.lookup nInt = some .local ∧ fd.scope.names.lookup nGrp = some .local ∧ fd.scope.names.lookup nMax = some .globalImplicit ∧
    fd.globals = mainGlobals ∧ (∃ c oc vs t, fd.code = .ref c ∧ K.lookup c = some oc ∧ oc.data = .fields vs ∧ vs[1]? = some (.str fd.qualname t)) ∧ ∀ v, bindArgs fd ⟨[v], []⟩ = pure [(nGrp, v)]
  max : ∃ t, nsIn K mainGlobals nMax = some (some (.int 127 t))
/-- a table of written ints and texts -/
noncomputable def tabOk : List DictEntry → List (Int × V) → Prop
  | [], [] => True
  | e :: es, (k, .str x) :: kvs => e.hash = hashInt k ∧ (∃ t, e.key = .int k t) ∧ (∃ t, e.val = .str x t ∧ x.length ≤ sizeLine) ∧ tabOk es kvs
  | _, _ => False
noncomputable def tabB : List DictEntry → List (Int × V) → Bool
  | [], [] => true
  | e :: es, (k, .str x) :: kvs => (match e.key, e.val with
    | .int i _, .str y _ => decide (e.hash = hashInt k) && decide (i = k) && decide (y = x) && decide (x.length ≤ 1000)
    | _, _ => false) && tabB es kvs
  | _, _ => false
theorem tabB_ok : ∀ {es : List DictEntry} {kvs : List (Int × V)}, tabB es kvs = true → tabOk es kvs
  | [], [], _ => trivial
  | [], _ :: _, h => by simp [tabB] at h
  | _ :: _, [], h => by simp [tabB] at h
  | e :: es, (k, v) :: kvs, h => by
    cases v with
    | str x =>
      simp only [tabB, Bool.and_eq_true] at h
      obtain ⟨h1, h2⟩ := h
      split at h1
      · rename_i i t y t' e1 e2
        simp only [Bool.and_eq_true, decide_eq_true_eq] at h1
        obtain ⟨⟨⟨a, b⟩, c⟩, d⟩ := h1
        exact ⟨a, ⟨t, by rw [e1, b]⟩, ⟨t', by rw [e2, c], by unfold sizeLine; omega⟩, tabB_ok h2⟩
      · cases h1
    | _ => simp [tabB] at h
/-- what the written part shows of a global's value -/
noncomputable def globOk (K : Frag) (x : Str) : V → Prop
  | .fn a => nsIn K mainGlobals x = some (some (.ref a))
  | .int i => ∃ t, nsIn K mainGlobals x = some (some (.int i t))
  | .dct kvs => ∃ a es n, nsIn K mainGlobals x = some (some (.ref a)) ∧ K.lookup a = some ⟨.type "dict", none, .dict es n, #[]⟩ ∧ (a == sysModules) = false ∧ kvs.length ≤ sizeLine ∧ (kvs.map (·.1)).Nodup ∧ tabOk es.toList kvs
  | _ => False
noncomputable def globB (K : Frag) (x : Str) (v : V) : Bool := match nsIn K mainGlobals x, v with
  | some (some (.ref a)), .fn b => a == b
  | some (some (.int i _)), .int j => decide (i = j)
  | some (some (.ref a)), .dct kvs => (match K.lookup a with
    | some ⟨.type n, none, .dict es _, sl⟩ => decide (n = "dict") && decide (sl.size = 0) && !(a == sysModules) && decide (kvs.length ≤ 1000) && decide (kvs.map (·.1)).Nodup && tabB es.toList kvs
    | _ => false)
  | _, _ => false
theorem globB_ok {K : Frag} {x : Str} {v : V} (h : globB K x v = true) : globOk K x v := by
  unfold globB at h
  split at h
  · rename_i a b e; rw [beq_iff_eq.mp h] at e; exact e
  · rename_i i t j e; rw [of_decide_eq_true h] at e; exact ⟨_, e⟩
  · rename_i a kvs e
    split at h
    · rename_i nm es n sl e2
      simp only [Bool.and_eq_true, Bool.not_eq_true', decide_eq_true_eq] at h
      obtain ⟨⟨⟨⟨⟨h1, h2⟩, h3⟩, h4⟩, h5⟩, h6⟩ := h
      have h2' : sl = #[] := Array.eq_empty_of_size_eq_zero h2
      subst h1; subst h2'
      exact ⟨a, es, n, e, e2, h3, by unfold sizeLine; omega, h5, tabB_ok h6⟩
    · cases h
  · cases h
theorem globs_ok {K : Frag} {x : Str} {v : V} : ∀ {l : List (Str × V)}, l.all (fun p => globB K p.1 p.2) = true → l.lookup x = some v → globOk K x v
  | [], _, h => by simp at h
  | (y, u) :: r, H, h => by
    simp only [List.all_cons, Bool.and_eq_true] at H
    rw [List.lookup] at h
    split at h
    · rename_i e; cases h; rw [beq_iff_eq.mp e]; exact globB_ok H.1
    · exact globs_ok H.2 h
noncomputable def biB (K : Frag) (x : Str) (v : Value) : Bool := (match nsIn K mainGlobals x with | some none => true | _ => false) && decide (bootBuiltins x = some v) && decide (x ≠ "__name__")
theorem bis_ok {K : Frag} {x : Str} {v : Value} : ∀ {l : List (Str × Value)}, l.all (fun p => biB K p.1 p.2) = true → l.lookup x = some v → nsIn K mainGlobals x = some none ∧ bootBuiltins x = some v ∧ x ≠ "__name__"
  | [], _, h => by simp at h
  | (y, u) :: r, H, h => by
    simp only [List.all_cons, Bool.and_eq_true] at H
    rw [List.lookup] at h
    split at h
    · rename_i e; cases h; rw [beq_iff_eq.mp e]
      have q := H.1
      simp only [biB, Bool.and_eq_true, decide_eq_true_eq] at q
      obtain ⟨⟨q1, q2⟩, q3⟩ := q
      refine ⟨?_, q2, q3⟩
      split at q1
      · assumption
      · cases q1
    · exact bis_ok H.2 h
theorem tab_keys : ∀ {es : List DictEntry} {kvs : List (Int × V)}, tabOk es kvs → ∀ e ∈ es, ∃ k, (intKind prog w).is k e.key = true ∧ e.hash = (intKind prog w).hash k
  | [], _, _, e, h => by simp at h
  | e' :: es, [], h, e, _ => h.elim
  | e' :: es, (k, v) :: kvs, h, e, he => by
    cases v with
    | str x =>
      obtain ⟨h1, ⟨t, h2⟩, h3, h4⟩ := h
      rcases List.mem_cons.mp he with h | h
      · subst h; exact ⟨k, by rw [h2]; exact intKind_is _ _ _ _, h1⟩
      · exact tab_keys h4 e h
    | _ => exact h.elim
theorem tab_pairs {g : G} : ∀ {es : List DictEntry} {kvs : List (Int × V)}, tabOk es kvs → ∃ ks, Pairs (intKind prog w) es ks ∧ RepK prog w g ks kvs ∧ ks.map (·.1) = kvs.map (·.1)
  | [], [], _ => ⟨[], .nil, by simp [RepK], rfl⟩
  | [], _ :: _, h => h.elim
  | e' :: es, [], h => h.elim
  | e' :: es, (k, v) :: kvs, h => by
    cases v with
    | str x =>
      obtain ⟨h1, ⟨t, h2⟩, ⟨t', h3, h5⟩, h4⟩ := h
      obtain ⟨ks, p1, p2, p3⟩ := tab_pairs (g := g) h4
      refine ⟨(k, e'.val) :: ks, .cons (by rw [h2]; exact intKind_is _ _ _ _) rfl p1, ?_, by simp [p3]⟩
      simp only [RepK, Rep]
      exact ⟨_, _, rfl, ⟨t', h3, h5⟩, p2⟩
    | _ => exact h.elim
theorem glob_rep {K : Frag} {h : Heap} {mg : Str → Option Value} (X : K.In h) (G : h.Ns mainGlobals mg) {x : Str} {v : V} (ok : globOk K x v) : ∃ cv, mg x = some cv ∧ Rep prog w h.get? cv v := by
  cases v with
  | fn a => exact ⟨_, mg_of X G ok, by simp only [Rep]⟩
  | int i => obtain ⟨t, ok⟩ := ok; exact ⟨_, mg_of X G ok, by simp only [Rep]; exact ⟨t, rfl⟩⟩
  | dct kvs =>
    obtain ⟨a, es, n, h1, h2, h3, h4, h5, h6⟩ := ok
    refine ⟨_, mg_of X G h1, ?_⟩
    simp only [Rep]
    obtain ⟨ks, p1, p2, p3⟩ := tab_pairs (prog := prog) (w := w) (g := h.get?) h6
    have hl : ks.length = kvs.length := by simpa using congrArg List.length p3
    exact ⟨a, _, ks, rfl, X _ _ h2, ⟨es, n, ⟨rfl, rfl, rfl⟩, rfl, fun e he => tab_keys h6 e (by simpa using he), p1, by rw [p3]; exact h5⟩, h3, by rw [hl]; exact h4, p2⟩
  | _ => exact ok.elim
/-- the def of a name in the text, as the top leaves it -/
noncomputable def fdOf (body : List Stmt) (a : Addr) (x : Str) (pm : Value) : FuncData := Calls.docDef x (argsOf body x) (fnOf body a x).body (fnOf body a x).scope pm (.ref (a - 1)) .none
noncomputable def codeB (K : Frag) (c : Addr) (q : Str) : Bool := match K.lookup c with
  | some ⟨_, _, .fields vs, _⟩ => (match (vs[1]? : Option Value) with
    | some (.str y _) => decide (y = q)
    | _ => false)
  | _ => false
theorem codeB_ok {K : Frag} {c : Addr} {q : Str} (h : codeB K c q = true) : ∃ c' oc vs t, Value.ref c = .ref c' ∧ K.lookup c' = some oc ∧ oc.data = .fields vs ∧ vs[1]? = some (.str q t) := by
  unfold codeB at h
  split at h
  · rename_i vs _ e
    split at h
    · rename_i y t e2
      rw [of_decide_eq_true h] at e2
      exact ⟨c, _, vs, t, rfl, e, rfl, e2⟩
    · cases h
  · cases h
theorem DefK.of {K : Frag} {a : Addr} {body : List Stmt} {x : Str} {pm : Value} (h1 : (K.lookup a).map (·.data) = some (.func (fdOf body a x pm))) (h2 : codeB K (a - 1) x = true)
    (h3 : ∀ vals : List Value, vals.length = (fnOf body a x).params.length → bindArgs (fdOf body a x pm) ⟨vals, []⟩ = pure ((fnOf body a x).params.zip vals)) (h4 : ((fnOf body a x).scope.kind, (fnOf body a x).scope.isGenerator, (fnOf body a x).scope.isCoroutine) = (.function, false, false)) : DefK K a (fnOf body a x) := by
  obtain ⟨o, ho, e⟩ := Option.map_eq_some_iff.mp h1
  exact ⟨⟨o, _, ho, e, rfl, rfl, rfl, rfl, rfl, codeB_ok h2, h3⟩, congrArg Prod.fst h4, congrArg (fun x => x.2.1) h4, congrArg (fun x => x.2.2) h4⟩
theorem len0 {α : Type} {Q : List α → Prop} (h : Q []) : ∀ l : List α, l.length = 0 → Q l
  | [], _ => h
theorem len_succ {α : Type} {n : Nat} {Q : List α → Prop} (h : ∀ a, ∀ l : List α, l.length = n → Q (a :: l)) : ∀ l : List α, l.length = n + 1 → Q l
  | a :: l, e => h a l (Nat.succ.inj e)
/-- all that the written part is to show -/
structure AllK (K : Frag) (base : Cx) (defs : List (Addr × Fn)) : Prop where
  glob : ∀ x v, base.glob x = some v → globOk K x v
  bi : ∀ x bv, biTab.lookup x = some bv → nsIn K mainGlobals x = some none ∧ bootBuiltins x = some bv ∧ x ≠ "__name__"
  fns : ∀ a f, defs.lookup a = some f → DefK K a f
  gen : ∀ a, base.gen a = true → GnOK K a
  max : ∃ t, nsIn K mainGlobals nMax = some (some (.int 127 t))
  big : ∃ a o, 1 ≤ a ∧ K.lookup a = some o
/-- the part of the heap that a head looks at -/
noncomputable def fragAt (as : List Addr) (h : Heap) : Frag := as.filterMap fun a => (h.get? a).map fun o => (a, o)
theorem fragAt_in {h : Heap} : ∀ {as : List Addr}, (fragAt as h).In h
  | [], _, _, e => (nomatch e)
  | a :: as, b, o, e => by
    unfold fragAt at e
    rw [List.filterMap_cons] at e
    cases q : h.get? a with
    | none => rw [q] at e; exact fragAt_in (as := as) b o e
    | some o' =>
      rw [q] at e
      replace e : (match b == a with | true => some o' | false => List.lookup b (fragAt as h)) = some o := e
      cases q2 : b == a with
      | true => rw [q2] at e; rw [beq_iff_eq.mp q2, q]; exact e
      | false => rw [q2] at e; exact fragAt_in (as := as) b o e
noncomputable def datIn (K : Frag) (a : Addr) : Option Data := (K.lookup a).map (·.data)
/-- a def that the head is to find -/
structure Df where
  a : Addr
  x : Str
  pm : Value
noncomputable def datOf (body : List Stmt) (t : Df) : Option Data := some (.func (fdOf body t.a t.x t.pm))
noncomputable def globsB (gs : List (Str × V)) (fs : List Df) (K : Frag) : Bool := gs.all (fun p => globB K p.1 p.2) && biTab.all (fun p => biB K p.1 p.2) && fs.all (fun t => codeB K (t.a - 1) t.x)
noncomputable def ownHook (as : List Addr) (body : List Stmt) (gs : List (Str × V)) (fs : List Df) : Hook :=
  ⟨Bool × List (Option Data), fun s => (globsB gs fs (fragAt as s.heap), fs.map fun t => datIn (fragAt as s.heap) t.a), fun _ => (true, fs.map (datOf body)),
   fun _ h => ∃ K : Frag, K.In h ∧ globsB gs fs K = true ∧ (fs.map fun t => datIn K t.a) = fs.map (datOf body),
   fun _ _ e => ⟨_, fragAt_in, congrArg Prod.fst e, congrArg Prod.snd e⟩, fun _ _ _ ⟨K, a, b⟩ k => ⟨K, fun a' o e => k _ _ (a a' o e), b⟩⟩
/-- the law's own promise, from what the evaluator answers -/
theorem law_walk {l : OpenLaw} {q : Program} {loose : List Str} {XP : (Str → Option Value) → Heap → Prop} {H : Hook} {d : DefRec} {base : Cx} {defs : List (Addr × Fn)} {law : Addr} {D : Nat}
    (hm : l.most = some 63) (hb : l.bound = none) (hD : D < 100) (OK : ∀ w h, H.says w h → ∃ K : Frag, K.In h ∧ AllK K base defs ∧ nsIn K mainGlobals d.name = some (some (.ref law)))
    (hF : ∀ script : List Int, script.length ≤ 63 → FF defs base D law [.lst (script.map .int)] (.bool true)) :
    WalkO q loose XP H.says l.row.toRowW d [] fun f vs => call f vs := by
  intro w s₀ s₁ mg mb G Y fa o pm cd doc dV kV ho hd hcd hDf hmg hg args vals asx hpre hlay hrd hwl hlo
  obtain ⟨K, X, A, hlaw⟩ := OK _ _ Y
  have T := G.T
  have TO : TopOK l.row.prog w base s₁.heap := by
    refine ⟨T.nolimit, fun x v h => ?_, fun x bv h1 h2 => ?_, ?_, fun a h => ⟨?_, ?_⟩⟩
    · obtain ⟨cv, h1, h2⟩ := glob_rep X T.g (A.glob x v h)
      exact ⟨mg, cv, T.g, h1, h2⟩
    · obtain ⟨h3, h4, h5⟩ := A.bi x bv h2
      exact ⟨⟨mg, T.g, mg_none_of X T.g h3⟩, mb, T.b, by rw [T.builtins x h5, h4]⟩
    · obtain ⟨a, o, h1, h2⟩ := A.big
      exact ⟨a, o, h1, X _ _ h2⟩
    · obtain ⟨⟨o, fd, P, h1, h2, h3, h4, h5, h6, h7, h8, h9, h10, h11, h12, ⟨c, oc, vs, t, c1, c2, c3, c4⟩, h14⟩, _⟩ := A.gen a h
      exact ⟨o, fd, P, X _ _ h1, h2, h3, h4, h5, h6, h7, h8, h9, h10, h11, h12, ⟨c, oc, vs, t, c1, X _ _ c2, c3, c4⟩, h14⟩
    · obtain ⟨t, h⟩ := A.max
      exact ⟨mg, t, T.g, mg_of X T.g h⟩
  have fo := FF_ok TO (fun a f h => (A.fns a f h).at' X) D
  have hfa : fa = law := by
    have := mg_of X T.g hlaw
    rw [hmg] at this; cases this; rfl
  subst hfa
  -- the script
  obtain ⟨hp1, hp2⟩ := Bool.and_eq_true_iff.mp hpre
  have hp1 : WShape.hasAll [] args [.list .int] = true := hp1
  obtain ⟨xs, rfl, hxs⟩ : ∃ xs, args = [.list xs] ∧ WShape.hasItems [] xs .int = true := by
    match args, hp1 with
    | [x], h =>
      unfold WShape.hasAll at h
      have h := (Bool.and_eq_true_iff.mp h).1
      cases x with
      | list xs => exact ⟨xs, rfl, by simpa [WShape.has, WShape.arms] using h⟩
      | _ => simp [WShape.has, WShape.arms] at h
    | [], h => simp [WShape.hasAll] at h
    | _ :: _ :: _, h => simp [WShape.hasAll] at h
  obtain ⟨is, rfl⟩ := script_shape hxs
  have hlen : is.length ≤ 63 := by
    have hp2 : l.pre.holds [] { args := [.list (is.map .int)] } = true := hp2
    unfold OpenLaw.pre at hp2
    rw [hm, hb] at hp2
    dsimp only at hp2
    unfold WTm.holds at hp2
    by_cases h : 63 < is.length
    · exfalso
      have e : less? (WData.int 63) (WData.int (is.length : Int)) = some true := by
        unfold less? Num.less?
        exact congrArg some (decide_eq_true (by omega))
      simp [WTm.value, e] at hp2
    · omega
  have hwl : WellAll w.params s₁.heap vals [.list (is.map .int)] := hwl
  cases hwl with
  | cons hv hn =>
  cases hn with
  | nil =>
  cases hv with
  | list ha hw =>
  rename_i a vs
  have rs := script_reps (prog := l.row.prog) (w := w) rfl hw
  have hvl : vs.length = is.length := by simpa using rs.length
  refine (fo _ _ _ (hF is hlen)).2 callerA s₁ [] [.ref a] _ _ ⟨rfl, by simp only [callerA, claimMargin]; omega, by simp only [callerA, cLine]; omega⟩ (fun b o e => by rw [vis_nil]; exact e) (fun b hb => by simp at hb) ?_ fun v s' k r => ?_
  · rw [vis_nil]
    simp only [Reps, Rep]
    exact ⟨_, _, rfl, ⟨a, _, _, rfl, ha, by simp only [List.size_toArray, hvl, sizeLine]; omega, rs⟩, rfl⟩
  · simp only [Rep] at r
    subst r
    refine ⟨.inl ⟨.bool true, .bool true, [], rfl, fun _ => rfl, .bool true, ?_, fun _ => ⟨List.nodup_nil, fun a ha => by simp at ha⟩⟩, .of_keep k.heap, k.os, k.drawn (.of_eq hg)⟩
    show (WShape.has [] (WData.bool true) .bool && WTm.holds [] (.eq .res (.lit (.bool true))) { args := [.list (is.map .int)], res := some (.bool true), after := [.list (is.map .int)] }) = true
    unfold WTm.holds
    have e : same (WData.bool true) (WData.bool true) = true := by decide +kernel
    simp [WTm.value, WShape.has, WShape.arms, e]
end Mine
end
section
open PySem PySem.W PyProof.Rows PySem.SeqAt
namespace Mine
noncomputable def pm2_0 : Value := Value.str (Str.ofString "cpy313.dis") 187
noncomputable def pm2_1 : Value := Value.str (Str.ofString "cpy313.locale") 230
noncomputable def pm2_2 : Value := Value.str (Str.ofString "cpy313.traceback") 243
noncomputable def pm2_3 : Value := Value.str (Str.ofString "law_wn0049_02") 279
noncomputable def fs2 : List Df := [⟨22, "pretty_flags", pm2_0⟩, ⟨29, "_grouping_intervals", pm2_1⟩, ⟨36, "_substitution_cost", pm2_2⟩, ⟨43, "_levenshtein_distance", pm2_2⟩, ⟨50, "_law_seeds", pm2_3⟩, ⟨55, "_law_names", pm2_3⟩, ⟨62, "_law_changed", pm2_3⟩, ⟨69, "_law_led", pm2_3⟩, ⟨74, "_law_ways", pm2_3⟩, ⟨81, "_law_met", pm2_3⟩, ⟨86, "_law_marks", pm2_3⟩, ⟨91, "_law_below", pm2_3⟩, ⟨96, "law", pm2_3⟩]
noncomputable def as2 : List Addr := [3, 15, 21, 22, 28, 29, 35, 36, 42, 43, 49, 50, 54, 55, 61, 62, 68, 69, 73, 74, 80, 81, 85, 86, 90, 91, 95, 96]
noncomputable def q2 : Program := view PySem.Challenge.pw_wn0049_02 [1, 2, 4, 5, 7, 8, 9, 10, 11, 13, 14, 15, 16, 17, 18, 19, 20, 21]
noncomputable def hk2 : Hook := ownHook as2 body2 globs2 fs2
noncomputable def lo2 : List Str := ["COMPILER_FLAG_NAMES"]
set_option maxRecDepth 100000 in
set_option maxHeartbeats 8000000 in
theorem left2 : LeftO PySem.Challenge.rw_wn0049_02.row.prog q2 lo2 (fun s => xlAt q2 [] s && recOk (RowW.records PySem.Challenge.rw_wn0049_02.row.toRowW) s) hk2.obs hk2.val 1332 :=
  LeftO.of_split "special-get-raises" fun w => by kernel_rfl
theorem said2 : PySem.Challenge.rw_wn0049_02.wellSaid = true := by decide +kernel
theorem prom2 : (RowW.promised PySem.Challenge.rw_wn0049_02.row.toRowW) := ⟨[.list []], by decide +kernel, by decide +kernel⟩
theorem hd2 (h : ∀ d, defOf q2 "law" = some (d, []) → WalkO q2 lo2 (XL q2 []) hk2.says PySem.Challenge.rw_wn0049_02.row.toRowW d [] fun f vs => call f vs) : PySem.Challenge.rw_wn0049_02.Holds := by
  refine holds_law said2 fun said => ?_
  have e : ∃ d, defOf q2 "law" = some (d, []) ∧ PySem.Challenge.rw_wn0049_02.row.prog.theDef "law" = some (d.params, d.body, d.scope) ∧ kwWritten? d.params.kwonlyargs d.params.kw_defaults = some [] := ⟨_, by rfl, by rfl, by rfl⟩
  obtain ⟨d, e1, e2, e3⟩ := e
  exact PySem.W.holds_open left2 hk2.of hk2.keeps (fun s e => xl_of s (Bool.and_eq_true_iff.mp e).1) XL.keeps e1 e2 e3 (fun s e => recFacts_of (Bool.and_eq_true_iff.mp e).2) rfl said (by decide +kernel) ⟨rfl, rfl, rfl, rfl, rfl, by decide +kernel⟩ prom2 (h d e1)
end Mine
end
section
open PySem PySem.W PyProof.Rows PySem.SeqAt
namespace Mine
/-- a def takes so many arguments -/
noncomputable def Takes (body : List Stmt) (t : Df) (n : Nat) : Prop := ∀ vals : List Value, vals.length = n → bindArgs (fdOf body t.a t.x t.pm) ⟨vals, []⟩ = pure ((fnOf body t.a t.x).params.zip vals)
theorem fn2 {K : Frag} (G : globsB globs2 fs2 K = true) (D : (fs2.map fun t => datIn K t.a) = fs2.map (datOf body2)) (k : Nat) (t : Df) (n : Nat) (ht : fs2[k]? = some t)
    (hn : (fnOf body2 t.a t.x).params.length = n) (h3 : Takes body2 t n)
    (h4 : ((fnOf body2 t.a t.x).scope.kind, (fnOf body2 t.a t.x).scope.isGenerator, (fnOf body2 t.a t.x).scope.isCoroutine) = (.function, false, false)) : DefK K t.a (fnOf body2 t.a t.x) :=
  have m := List.mem_of_getElem? ht
  DefK.of (pm := t.pm) (List.map_inj_left.mp D t m) (List.all_eq_true.mp (Bool.and_eq_true_iff.mp G).2 t m) (fun vals h => h3 vals (h.trans hn)) h4
noncomputable def FnsOK (K : Frag) : List (Addr × Fn) → Prop
  | [] => True
  | p :: r => DefK K p.1 p.2 ∧ FnsOK K r
theorem FnsOK.look {K : Frag} {a : Addr} {fm : Fn} : ∀ {l : List (Addr × Fn)}, FnsOK K l → l.lookup a = some fm → DefK K a fm
  | (b, u) :: r, H, h => by
    replace h : (match a == b with | true => some u | false => r.lookup a) = some fm := h
    cases q : a == b with
    | true => rw [q] at h; cases h; rw [beq_iff_eq.mp q]; exact H.1
    | false => rw [q] at h; exact FnsOK.look H.2 h
theorem fns2 {K : Frag} (G : globsB globs2 fs2 K = true) (D : (fs2.map fun t => datIn K t.a) = fs2.map (datOf body2)) : FnsOK K defs2 :=
  ⟨fn2 G D 0 ⟨22, "pretty_flags", pm2_0⟩ 1 (by kernel_rfl) (by kernel_rfl) (len_succ fun v0 => len0 (by kernel_rfl)) (by kernel_rfl),
   fn2 G D 2 ⟨36, "_substitution_cost", pm2_2⟩ 2 (by kernel_rfl) (by kernel_rfl) (len_succ fun v0 => len_succ fun v1 => len0 (by kernel_rfl)) (by kernel_rfl),
   fn2 G D 3 ⟨43, "_levenshtein_distance", pm2_2⟩ 3 (by kernel_rfl) (by kernel_rfl) (len_succ fun v0 => len_succ fun v1 => len_succ fun v2 => len0 (by kernel_rfl)) (by kernel_rfl),
   fn2 G D 4 ⟨50, "_law_seeds", pm2_3⟩ 1 (by kernel_rfl) (by kernel_rfl) (len_succ fun v0 => len0 (by kernel_rfl)) (by kernel_rfl),
   fn2 G D 5 ⟨55, "_law_names", pm2_3⟩ 0 (by kernel_rfl) (by kernel_rfl) (len0 (by kernel_rfl)) (by kernel_rfl),
   fn2 G D 6 ⟨62, "_law_changed", pm2_3⟩ 2 (by kernel_rfl) (by kernel_rfl) (len_succ fun v0 => len_succ fun v1 => len0 (by kernel_rfl)) (by kernel_rfl),
   fn2 G D 7 ⟨69, "_law_led", pm2_3⟩ 1 (by kernel_rfl) (by kernel_rfl) (len_succ fun v0 => len0 (by kernel_rfl)) (by kernel_rfl),
   fn2 G D 8 ⟨74, "_law_ways", pm2_3⟩ 1 (by kernel_rfl) (by kernel_rfl) (len_succ fun v0 => len0 (by kernel_rfl)) (by kernel_rfl),
   fn2 G D 9 ⟨81, "_law_met", pm2_3⟩ 3 (by kernel_rfl) (by kernel_rfl) (len_succ fun v0 => len_succ fun v1 => len_succ fun v2 => len0 (by kernel_rfl)) (by kernel_rfl),
   fn2 G D 10 ⟨86, "_law_marks", pm2_3⟩ 1 (by kernel_rfl) (by kernel_rfl) (len_succ fun v0 => len0 (by kernel_rfl)) (by kernel_rfl),
   fn2 G D 11 ⟨91, "_law_below", pm2_3⟩ 4 (by kernel_rfl) (by kernel_rfl) (len_succ fun v0 => len_succ fun v1 => len_succ fun v2 => len_succ fun v3 => len0 (by kernel_rfl)) (by kernel_rfl),
   fn2 G D 12 ⟨96, "law", pm2_3⟩ 1 (by kernel_rfl) (by kernel_rfl) (len_succ fun v0 => len0 (by kernel_rfl)) (by kernel_rfl), trivial⟩
noncomputable def gnF2 : Fn := fnOf body2 29 "_grouping_intervals"
theorem gn_body2 : ∃ P, gnF2.body = gAll P := ⟨⟨_, _, _, _, _, _, ⟨0, 0, 0, 0⟩, _, _, _, _, _, ⟨0, 0, 0, 0⟩, _, _, _, _, ⟨0, 0, 0, 0⟩, _, _, _, _, ⟨0, 0, 0, 0⟩, _, ⟨0, 0, 0, 0⟩, ⟨0, 0, 0, 0⟩, ⟨0, 0, 0, 0⟩, _, _, _, _, _, _, _, _, _, _, _, _, _, _, _⟩, by with_unfolding_all rfl⟩
theorem gn2 {K : Frag} (G : globsB globs2 fs2 K = true) (D : (fs2.map fun t => datIn K t.a) = fs2.map (datOf body2)) : GnOK K 29 := by
  obtain ⟨P, hP⟩ := gn_body2
  have m : (⟨29, "_grouping_intervals", pm2_1⟩ : Df) ∈ fs2 := List.mem_of_getElem? (i := 1) (by kernel_rfl)
  obtain ⟨o, ho, e⟩ := Option.map_eq_some_iff.mp (List.map_inj_left.mp D _ m)
  have h4 : (gnF2.scope.kind, gnF2.scope.isGenerator, gnF2.scope.isCoroutine) = (.function, true, false) := by kernel_rfl
  have q : (gnF2.scope.names.all (fun x => !(x.2 == .cell))) = true := by kernel_rfl
  obtain ⟨t, ht⟩ : globOk K nMax (.int 127) := globs_ok (l := globs2) (Bool.and_eq_true_iff.mp (Bool.and_eq_true_iff.mp G).1).1 (by kernel_rfl)
  exact ⟨⟨o, _, P, ho, e, congrArg _ hP, congrArg Prod.fst h4, congrArg (fun x => x.2.2) h4, congrArg (fun x => x.2.1) h4,
    fun x hx c => (by have := List.all_eq_true.mp q x hx; rw [c] at this; cases this),
    by kernel_rfl, by kernel_rfl, by kernel_rfl, by kernel_rfl, rfl, codeB_ok (List.all_eq_true.mp (Bool.and_eq_true_iff.mp G).2 _ m), fun v => by kernel_rfl⟩, t, ht⟩
theorem allOK2 {K : Frag} (G : globsB globs2 fs2 K = true) (D : (fs2.map fun t => datIn K t.a) = fs2.map (datOf body2)) : AllK K base2 defs2 :=
  have G1 := Bool.and_eq_true_iff.mp (Bool.and_eq_true_iff.mp G).1
  { glob := fun x v h => globs_ok (l := globs2) G1.1 h
    bi := fun x bv h => have q := bis_ok (l := biTab) (K := K) G1.2 h; q
    fns := fun a fm h => (fns2 G D).look h
    gen := fun a h => by rw [beq_iff_eq.mp h]; exact gn2 G D
    max := (gn2 G D).max
    big := (fun ⟨o, fd, h, _⟩ => ⟨96, o, by decide, h⟩) ((fns2 G D).look (a := 96) (fm := fnOf body2 96 "law") (by kernel_rfl)).def' }
theorem law2_holds (H : ∀ script : List Int, script.length ≤ 63 → FF defs2 base2 12 96 [.lst (script.map .int)] (.bool true)) : PySem.Challenge.rw_wn0049_02.Holds :=
  hd2 fun d hd => law_walk (l := PySem.Challenge.rw_wn0049_02) (base := base2) (defs := defs2) (law := 96) (D := 12) rfl rfl (by decide)
    (fun w h ⟨K, X, G, D⟩ => ⟨K, X, allOK2 G D, by
      rw [defOf_name hd]
      exact globs_ok (l := globs2) (x := "law") (v := .fn 96) (Bool.and_eq_true_iff.mp (Bool.and_eq_true_iff.mp G).1).1 (by kernel_rfl)⟩) H
end Mine
end
section
open PySem
namespace Mine
/-- the letters that are met -/
noncomputable def Sg0 : List Nat := [97, 65, 98, 66, 55, 45, 99, 100]
/-- one letter in its two sizes -/
noncomputable def kin (x y : Nat) : Bool := (x == 97 && y == 65) || (x == 65 && y == 97) || (x == 98 && y == 66) || (x == 66 && y == 98)
noncomputable def scost (x y : Nat) : Int := if x == y then 0 else if kin x y then 1 else 2
noncomputable abbrev sv (l : List Nat) : V := .str ⟨⟨l⟩⟩
/-- how many letters two words share ahead -/
noncomputable def cpl : List Nat → List Nat → Nat
  | x :: a, y :: b => if x = y then cpl a b + 1 else 0
  | _, _ => 0
theorem cpl_step {a b : List Nat} {p : Nat} {c : Nat} (ha : a[p]? = some c) (hb : b[p]? = some c) : cpl (a.drop p) (b.drop p) = cpl (a.drop (p + 1)) (b.drop (p + 1)) + 1 := by
  obtain ⟨h1, e1⟩ := List.getElem?_eq_some_iff.mp ha
  obtain ⟨h2, e2⟩ := List.getElem?_eq_some_iff.mp hb
  rw [List.drop_eq_getElem_cons h1, List.drop_eq_getElem_cons h2, e1, e2]
  simp [cpl]
theorem cpl_stop {a b : List Nat} {p : Nat} (h : ¬ ∃ c, a[p]? = some c ∧ b[p]? = some c) : cpl (a.drop p) (b.drop p) = 0 := by
  by_cases h1 : p < a.length
  · by_cases h2 : p < b.length
    · rw [List.drop_eq_getElem_cons h1, List.drop_eq_getElem_cons h2]
      simp only [cpl]
      rw [if_neg]
      intro e
      exact h ⟨_, List.getElem?_eq_getElem h1, by rw [e]; exact List.getElem?_eq_getElem h2⟩
    · rw [List.drop_of_length_le (by omega : b.length ≤ p), List.drop_eq_getElem_cons h1]; rfl
  · rw [List.drop_of_length_le (by omega : a.length ≤ p)]; rfl
noncomputable abbrev imin (a b : Int) : Int := if b < a then b else a
/-- one row of the table: the row, the last cell, the least cell -/
noncomputable def inn (bc : Nat) : List Nat → List Int → Int → Int → Int → List Int × Int × Int
  | x :: a, r :: row, d, res, mn =>
    let res' := imin (imin res r + 2) (d + scost bc x)
    let q := inn bc a row r res' (if res' < mn then res' else mn)
    (res' :: q.1, q.2)
  | _, _, _, res, mn => ([], res, mn)
theorem inn_len (bc : Nat) : ∀ (a : List Nat) (row : List Int) (d res mn : Int), row.length = a.length → (inn bc a row d res mn).1.length = a.length
  | [], row, d, res, mn, h => by simp [inn]
  | x :: a, [], d, res, mn, h => by simp at h
  | x :: a, r :: row, d, res, mn, h => by simp only [inn, List.length_cons]; rw [inn_len bc a row _ _ _ (by simpa using h)]
/-- all rows: what is told, and whether ahead of the end -/
noncomputable def rows (a : List Nat) (mc : Int) : List Nat → Nat → List Int → Int → Int × Bool
  | [], _, _, res => (res, false)
  | y :: bs, i, row, res =>
    let q := inn y a row (2 * i) (2 * i) 9223372036854775807
    if mc < q.2.2 then (mc + 1, true) else rows a mc bs (i + 1) q.1 q.2.1
noncomputable def row0 (k : Nat) : List Int := (List.range k).map fun (i : Nat) => 2 + (i : Int) * 2
noncomputable def levD (a b : List Nat) (mc : Int) : Int := if mc < ((b.length : Int) - (a.length : Int)) * 2 then mc + 1 else (rows a mc b 0 (row0 a.length) 0).1
noncomputable def levC (a b : List Nat) (mc : Int) : Int :=
  if a = [] ∨ b = [] then 2 * ((a.length : Int) + (b.length : Int)) else if 40 < a.length ∨ 40 < b.length then mc + 1 else if b.length < a.length then levD b a mc else levD a b mc
noncomputable def cut1 (a b : List Nat) : List Nat × List Nat := (a.drop (cpl a b), b.drop (cpl a b))
noncomputable def cut2 (a b : List Nat) : List Nat × List Nat := (a.take (a.length - cpl a.reverse b.reverse), b.take (b.length - cpl a.reverse b.reverse))
/-- what the project's function tells -/
noncomputable def levP (a b : List Nat) (mc : Int) : Int := if a = b then 0 else levC (cut2 (cut1 a b).1 (cut1 a b).2).1 (cut2 (cut1 a b).1 (cut1 a b).2).2 mc
theorem cpl_le : ∀ (a b : List Nat), cpl a b ≤ a.length
  | [], b => by simp [cpl]
  | x :: a, [] => by simp [cpl]
  | x :: a, y :: b => by
    simp only [cpl]
    split
    · have := cpl_le a b; simp; omega
    · simp
end Mine
end
section
open PySem
namespace Mine
/-- the word of a flag -/
noncomputable def nmS (i : Nat) : Str := match dget flagTab ((2 ^ i : Nat) : Int) with
  | some (.str s) => s
  | _ => baseText "0x" 16 ((2 ^ i : Nat) : Int)
noncomputable def nmC (i : Nat) : List Nat := (nmS i).cps.toList
theorem nm_clean : ∀ i, i < 32 → 44 ∉ nmC i ∧ (nmC i).length ≤ 18 := by decide +kernel
theorem nm_inj : ∀ i, i < 32 → ∀ j, j < 32 → nmC i = nmC j → i = j := by decide +kernel
noncomputable def bsum : List Nat → Nat
  | [] => 0
  | p :: ps => 2 ^ p + bsum ps
theorem bsum_mul : ∀ (ps : List Nat) (k : Nat), (∀ p ∈ ps, k ≤ p) → ∃ m, bsum ps = 2 ^ k * m
  | [], k, h => ⟨0, rfl⟩
  | p :: ps, k, h => by
    obtain ⟨m, hm⟩ := bsum_mul ps k fun q hq => h q (List.mem_cons_of_mem _ hq)
    have hp := h p List.mem_cons_self
    refine ⟨2 ^ (p - k) + m, ?_⟩
    rw [bsum, hm, Nat.mul_add, ← Nat.pow_add, Nat.add_sub_cancel' hp]
theorem bsum_pos : ∀ {ps : List Nat}, ps ≠ [] → bsum ps ≠ 0
  | [], h => absurd rfl h
  | p :: ps, _ => by
    have : 0 < 2 ^ p := Nat.two_pow_pos p
    simp only [bsum]; omega
theorem mask_no {F i m : Nat} (h : F = 2 ^ (i + 1) * m) : F &&& 2 ^ i = 0 := by
  have q : F.testBit i = false := by
    rw [Nat.testBit_eq_decide_div_mod_eq, h]
    have : 2 ^ (i + 1) * m / 2 ^ i = 2 * m := by
      rw [Nat.pow_succ, Nat.mul_assoc, Nat.mul_div_cancel_left _ (Nat.two_pow_pos i)]
    rw [this]; simp
  apply Nat.eq_of_testBit_eq
  intro j
  rw [Nat.testBit_and, Nat.testBit_two_pow, Nat.zero_testBit]
  by_cases e : i = j
  · subst e; rw [q]; rfl
  · simp [e]
theorem mask_yes {F i m : Nat} (h : F = 2 ^ i + 2 ^ (i + 1) * m) : F &&& 2 ^ i = 2 ^ i := by
  have q : F.testBit i = true := by
    rw [Nat.testBit_eq_decide_div_mod_eq, h]
    have : (2 ^ i + 2 ^ (i + 1) * m) / 2 ^ i = 1 + 2 * m := by
      rw [show 2 ^ i + 2 ^ (i + 1) * m = 2 ^ i * (1 + 2 * m) by rw [Nat.pow_succ, Nat.mul_add, Nat.mul_one, Nat.mul_assoc], Nat.mul_div_cancel_left _ (Nat.two_pow_pos i)]
    rw [this]
    exact decide_eq_true (by omega)
  apply Nat.eq_of_testBit_eq
  intro j
  rw [Nat.testBit_and, Nat.testBit_two_pow]
  by_cases e : i = j
  · subst e; rw [q]; rfl
  · simp [e]
theorem or_yes {F i m : Nat} (h : F = 2 ^ i + 2 ^ (i + 1) * m) : F ||| 2 ^ i = F := by
  have q := mask_yes h
  rw [← q]
  apply Nat.eq_of_testBit_eq
  intro j
  rw [Nat.testBit_or, Nat.testBit_and]
  cases F.testBit j <;> simp
theorem and_cast (x y : Nat) : Builtin.bitAnd (x : Int) (y : Int) = ((x &&& y : Nat) : Int) := by
  unfold Builtin.bitAnd
  rw [decide_eq_true (Int.natCast_nonneg x), decide_eq_true (Int.natCast_nonneg y)]
  simp
theorem xor_cast (x y : Nat) : Builtin.bitXor (x : Int) (y : Int) = ((x ||| y : Nat) : Int) - ((x &&& y : Nat) : Int) := by
  unfold Builtin.bitXor
  rw [and_cast]
  congr 1
  unfold Builtin.bitOr Builtin.bitNot Builtin.bitAnd
  rw [decide_eq_false (by omega), decide_eq_false (by omega)]
  simp only [Builtin.bitNot]
  have e : ∀ z : Nat, (-(-(z : Int) - 1) - 1).toNat = z := fun z => by omega
  rw [e, e]
  omega
theorem xor_yes {F i m : Nat} (h : F = 2 ^ i + 2 ^ (i + 1) * m) : Builtin.bitXor (F : Int) ((2 ^ i : Nat) : Int) = ((2 ^ (i + 1) * m : Nat) : Int) := by
  rw [xor_cast, or_yes h, mask_yes h, h]
  omega
variable {σ : Sg}
theorem slice_from {α : Type} (l : List α) (p : Nat) : sliceL l (some (p : Int)) none = l.drop p := by
  unfold sliceL
  simp only [Option.elim_some, Option.elim_none]
  have e : clipAt l.length (p : Int) = min p l.length := by unfold clipAt; omega
  rw [e, List.take_of_length_le (by simp)]
  by_cases h : p ≤ l.length
  · rw [Nat.min_eq_left h]
  · rw [Nat.min_eq_right (by omega), List.drop_length, List.drop_of_length_le (by omega)]
theorem slice_to {α : Type} (l : List α) (k : Nat) : sliceL l none (some (Int.negSucc k)) = l.take (l.length - (k + 1)) := by
  unfold sliceL
  simp only [Option.elim_some, Option.elim_none, List.drop_zero, Nat.sub_zero]
  have e : clipAt l.length (Int.negSucc k) = l.length - (k + 1) := by unfold clipAt; omega
  rw [e]
theorem slice_all {α : Type} (l : List α) : sliceL l none none = l := by
  unfold sliceL; simp
theorem place_last {n k : Nat} (h : k < n) : place n (Int.negSucc k) = some (n - 1 - k) := by
  unfold place
  rw [if_neg (by omega), if_pos (by omega)]
  congr 1; omega
theorem item_last {l : List Nat} {k c : Nat} (hk : l.reverse[k]? = some c) : ItemOK σ (.v (sv l)) (.v (.int (Int.negSucc k))) (.v (sv [c])) :=
  have hlt : k < l.length := List.length_reverse (as := l) ▸ (List.getElem?_eq_some_iff.mp hk).1
  item_str (x := ⟨⟨l⟩⟩) (place_last hlt) ((List.getElem?_toArray (xs := l)).trans ((List.getElem?_reverse hlt).symm.trans hk))
theorem item_at {l : List Nat} {k c : Nat} (hk : l[k]? = some c) : ItemOK σ (.v (sv l)) (.v (.int k)) (.v (sv [c])) := item_str (x := ⟨⟨l⟩⟩) (place_nat (List.getElem?_eq_some_iff.mp hk).1) ((List.getElem?_toArray (xs := l)).trans hk)
theorem item_nth {o : D} {vs : List V} {k : Nat} {v : V} (ho : LstOK σ o vs) (hk : vs[k]? = some v) : ItemOK σ o (.v (.int k)) (.v v) := item_lst ho (place_nat (List.getElem?_eq_some_iff.mp hk).1) hk
theorem range_0 {n : Nat} (h : n < 1000000) : rangeOk 0 n 1 = true ∧ rangeV 0 1 (rangeN 0 n 1) = (List.range n).map fun k => .int (k : Int) := by
  have e : rangeN 0 n 1 = n := by unfold rangeN; omega
  refine ⟨?_, ?_⟩
  · unfold rangeOk lim
    rw [decide_eq_true (by omega), decide_eq_true (by omega), decide_eq_true (by omega), decide_eq_true (by omega)]; rfl
  · rw [e]; unfold rangeV; simp
theorem truth_sv (l : List Nat) : TruthOK σ (.v (sv l)) (!l.isEmpty) := by
  have e : (((⟨⟨l⟩⟩ : Str).length : Int) != 0) = !l.isEmpty := by cases l <;> rfl
  have h : TruthOK σ (.v (.str ⟨⟨l⟩⟩)) _ := truth_str _
  rw [e] at h
  exact @h
/-- a frame of one's own, no cells, with its lists -/
noncomputable abbrev fr (m : List (Str × D)) (os : List (List V) := []) : Sg := .fr m :: os.map .lst
noncomputable abbrev iv (l : List Int) : List V := l.map .int
end Mine
end
section
open PySem PySem.Builtin PySem.Builtin.Str PySem.StrLaws
namespace Mine
/-- texts with a comma and a blank between them -/
noncomputable def jn : List (List Nat) → List Nat
  | [] => []
  | [t] => t
  | t :: ts => t ++ 44 :: 32 :: jn ts
noncomputable def scan : List Nat → Nat → List Nat
  | [], _ => []
  | c :: R, i => if (c :: R).take 2 = [44, 32] then i :: scan R (i + 1) else scan R (i + 1)
noncomputable abbrev comma : Str := ⟨#[44, 32]⟩
theorem sub_hit (L : List Nat) (i : Nat) : subAt ⟨⟨L⟩⟩ comma i = decide ((L.drop i).take 2 = [44, 32]) := by
  unfold subAt
  have e : ((⟨⟨L⟩⟩ : Str).cps.extract i (i + comma.length)) = ⟨(L.drop i).take 2⟩ := by
    apply Array.ext'
    simp [Str.length]
  rw [e]
  by_cases h : (L.drop i).take 2 = [44, 32]
  · rw [h, decide_eq_true rfl]; decide
  · rw [decide_eq_false h, beq_eq_false_iff_ne]
    intro q
    exact h (congrArg Array.toList q)
theorem occ_scan (L : List Nat) (limit : Nat) : ∀ (R : List Nat) (i : Nat) (acc : Array Nat) (free : Nat), L.drop i = R → i + R.length = L.length → (free ≤ i ∨ (free = i + 1 ∧ R.head? = some 32)) → acc.size + R.length < limit →
    (forIn (List.range' i (R.length + 1)) (acc, free) (occBody ⟨⟨L⟩⟩ comma L.length limit)).run.fst.toList = acc.toList ++ scan R i
  | [], i, acc, free, h1, h2, h3, h4 => by
    have e : List.range' i ([] : List Nat).length.succ = [i] := by simp
    rw [show ([] : List Nat).length + 1 = ([] : List Nat).length.succ from rfl, e, List.forIn_cons]
    unfold occBody
    rw [if_neg (by intro q; have := q.1.2; simp [Str.length] at this h2; omega)]
    simp [scan]
  | c :: R, i, acc, free, h1, h2, h3, h4 => by
    have hd : L.drop (i + 1) = R := by rw [← List.drop_drop, h1]; rfl
    rw [List.length_cons, List.range'_succ, List.forIn_cons]
    simp only [List.length_cons] at h2 h4
    unfold occBody
    rw [sub_hit, h1]
    by_cases hh : (c :: R).take 2 = [44, 32]
    · have hc : c = 44 := by simp at hh; exact hh.1
      have hR : R.head? = some 32 := by
        cases R with
        | nil => simp at hh
        | cons x R => simp at hh; simp [hh.2]
      have hf : free ≤ i := by
        rcases h3 with h | h
        · exact h
        · simp [hc] at h
      have hl : 1 ≤ R.length := by cases R with | nil => simp at hR | cons => simp
      rw [if_pos ⟨⟨⟨by simp; omega, hf⟩, by simp [Str.length]; omega⟩, by simp [hh]⟩]
      have ih := occ_scan L limit R (i + 1) (acc.push i) (i + comma.length) hd (by omega) (.inr ⟨by simp [Str.length], hR⟩) (by simp; omega)
      simp only [scan, if_pos hh]
      refine Eq.trans ih ?_
      simp
    · rw [if_neg (by intro q; exact hh (by simpa using q.2))]
      have ih := occ_scan L limit R (i + 1) acc free hd (by omega) (by
        rcases h3 with h | h
        · left; omega
        · left; omega) (by omega)
      simp only [scan, if_neg hh]
      exact ih
theorem scan_part : ∀ (t R : List Nat) (i : Nat), 44 ∉ t → scan (t ++ 44 :: 32 :: R) i = (i + t.length) :: scan R (i + t.length + 2)
  | [], R, i, h => by simp [scan]
  | c :: t, R, i, h => by
    have hc : c ≠ 44 := fun e => h (by simp [e])
    rw [List.cons_append, scan, if_neg]
    · rw [scan_part t R (i + 1) (fun q => h (List.mem_cons_of_mem _ q))]
      simp only [List.length_cons]
      rw [show i + 1 + t.length = i + (t.length + 1) by omega]
    · intro q
      have := congrArg List.head? q
      simp at this; exact hc this
theorem scan_none : ∀ (t : List Nat) (i : Nat), 44 ∉ t → scan t i = []
  | [], i, h => rfl
  | c :: t, i, h => by
    have hc : c ≠ 44 := fun e => h (by simp [e])
    rw [scan, if_neg]
    · exact scan_none t (i + 1) (fun q => h (List.mem_cons_of_mem _ q))
    · intro q
      have := congrArg List.head? q
      simp at this; exact hc this
theorem parts_jn : ∀ (ts : List (List Nat)) (p : List Nat), ts ≠ [] → (∀ t ∈ ts, 44 ∉ t) →
    ((p.length :: (scan (jn ts) p.length).map (· + 2)).zip (scan (jn ts) p.length ++ [(p ++ jn ts).length])).map (fun ij => strSub ⟨⟨p ++ jn ts⟩⟩ ij.1 ij.2) = ts.map fun t => (⟨⟨t⟩⟩ : Str)
  | [], p, h, _ => absurd rfl h
  | [t], p, h, ht => by
    rw [jn, scan_none t _ (ht t (by simp))]
    simp [strSub]
  | t :: t' :: ts, p, h, ht => by
    have e : jn (t :: t' :: ts) = t ++ 44 :: 32 :: jn (t' :: ts) := rfl
    rw [e, scan_part t _ _ (ht t (by simp))]
    have ih := parts_jn (t' :: ts) (p ++ t ++ [44, 32]) (by simp) (fun x hx => ht x (List.mem_cons_of_mem _ hx))
    have el : (p ++ t ++ [44, 32]).length = p.length + t.length + 2 := by simp; omega
    have ea : p ++ t ++ [44, 32] ++ jn (t' :: ts) = p ++ (t ++ 44 :: 32 :: jn (t' :: ts)) := by simp
    rw [el, ea] at ih
    simp only [List.map_cons, List.cons_append, List.zip_cons_cons]
    rw [List.map_cons] at ih
    refine congr (congrArg List.cons ?_) ih
    unfold strSub
    congr 1
    apply Array.ext'
    simp
theorem kind_pos (x : Str) : ¬ Builtin.Str.strKind x < Builtin.Str.strKind comma := by
  have : Builtin.Str.strKind comma = 1 := by decide +kernel
  rw [this]; unfold Builtin.Str.strKind
  split
  · omega
  · split <;> omega
theorem split_jn {ts : List (List Nat)} (h : ts ≠ []) (ht : ∀ t ∈ ts, 44 ∉ t) : Txt.split ⟨⟨jn ts⟩⟩ comma = ts.map fun t => (⟨⟨t⟩⟩ : Str) := by
  have one : ∀ t, ts = [t] → ([⟨⟨jn ts⟩⟩] : List Str) = ts.map fun t => (⟨⟨t⟩⟩ : Str) := fun t e => by subst e; rfl
  have many : (¬ ∃ t, ts = [t]) → 2 ≤ (jn ts).length ∧ scan (jn ts) 0 ≠ [] := fun hn => by
    match ts, h, hn, ht with
    | [t], _, hn, _ => exact absurd ⟨t, rfl⟩ hn
    | t :: t' :: r, _, _, ht =>
      have e : jn (t :: t' :: r) = t ++ 44 :: 32 :: jn (t' :: r) := rfl
      rw [e]
      refine ⟨by simp; omega, ?_⟩
      rw [scan_part t _ _ (ht t (by simp))]; simp
  have occ : occurrences ⟨⟨jn ts⟩⟩ comma 0 (⟨⟨jn ts⟩⟩ : Str).length ((⟨⟨jn ts⟩⟩ : Str).length + 1) = scan (jn ts) 0 := by
    rw [occ_eq]
    have := occ_scan (jn ts) ((jn ts).length + 1) (jn ts) 0 #[] 0 (by simp) (by simp) (.inl (by omega)) (by simp)
    simpa [Str.length] using this
  unfold Txt.split
  rw [occ]
  by_cases h1 : ∃ t, ts = [t]
  · obtain ⟨t, e⟩ := h1
    have hs : scan (jn ts) 0 = [] := by subst e; exact scan_none t 0 (ht t (by simp))
    rw [hs]
    simp only [List.isEmpty_nil, if_true, ite_self]
    exact one t e
  · obtain ⟨h2, h3⟩ := many h1
    rw [if_neg, if_neg]
    · unfold partsBetween
      have := parts_jn ts [] h ht
      simpa [Str.length] using this
    · simpa using h3
    · simp only [Bool.or_eq_true, decide_eq_true_eq, not_or]
      exact ⟨by simp [Str.length]; omega, kind_pos _⟩
theorem join_jn : ∀ (ts : List (List Nat)), Str.join comma (ts.map fun t => (⟨⟨t⟩⟩ : Str)) = ⟨⟨jn ts⟩⟩
  | [] => rfl
  | [t] => rfl
  | t :: t' :: ts => by
    have ih := join_jn (t' :: ts)
    simp only [List.map_cons] at ih ⊢
    rw [Str.join]
    · rw [ih]
      show (Str.append (Str.append ⟨⟨t⟩⟩ comma) ⟨⟨jn (t' :: ts)⟩⟩) = _
      unfold Str.append
      congr 1
      apply Array.ext'
      simp [jn]
    · simp
end Mine
end
section
open PySem
namespace Mine
noncomputable def sub2 : Fn := fnOf body2 36 "_substitution_cost"
theorem sub2_all (d : Nat) : (Sg0.map fun x => Sg0.map fun y => (fnC (CG base2 (FF defs2 base2 d)) (noF _) [] sub2 [sv [x], sv [y]]).map (·.1)) = Sg0.map fun x => Sg0.map fun y => some (.int (scost x y)) := by kernel_rfl
theorem sub2_ok (d : Nat) {x y : Nat} (hx : x ∈ Sg0) (hy : y ∈ Sg0) : FF defs2 base2 (d + 1) 36 [sv [x], sv [y]] (.int (scost x y)) :=
  FnOK.step (f := sub2) (by kernel_rfl) (.calc [] (List.map_inj_left.mp (List.map_inj_left.mp (sub2_all d) x hx) y hy))
end Mine
end
section
open PySem
namespace Mine
variable {G : Addr → List V → V → Prop}
noncomputable def lev2 : Fn := fnOf body2 43 "_levenshtein_distance"
noncomputable def lv2 (i : Nat) : Stmt := stAt lev2.body i
noncomputable def S1 (a b : List Nat) (mc : Int) (p : Nat) : Sg := fr [("a", .v (sv a)), ("b", .v (sv b)), ("max_cost", .v (.int mc)), ("pre", .v (.int p))]
noncomputable def S2 (a b : List Nat) (mc : Int) (q : Int) : Sg := fr [("a", .v (sv a)), ("b", .v (sv b)), ("max_cost", .v (.int mc)), ("post", .v (.int q))]
noncomputable abbrev tA2 (i j : Nat) : Expr := kid (stT (lv2 i)) j
theorem cmp_sv {σ : Sg} (x y : List Nat) : CmpOK σ .Eq (.v (sv x)) (.v (sv y)) (decide (x = y)) := by
  have e : ((⟨⟨x⟩⟩ : Str) == ⟨⟨y⟩⟩) = decide (x = y) := by
    by_cases h : x = y
    · rw [h, decide_eq_true rfl]; exact beq_self_eq_true _
    · rw [decide_eq_false h]; exact beq_eq_false_iff_ne.mpr fun q => h (congrArg (fun s : Str => s.cps.toList) q)
  have h : CmpOK σ .Eq (.v (sv x)) (.v (sv y)) ((⟨⟨x⟩⟩ : Str) == ⟨⟨y⟩⟩) := cmp_eq (eqd_v (eq_ss _ _))
  rw [e] at h
  exact @h
theorem drop_full (l : List Nat) (p : Nat) : (!(l.drop p).isEmpty) = decide (p < l.length) := by
  by_cases h : p < l.length
  · rw [List.drop_eq_getElem_cons h, decide_eq_true h]; rfl
  · rw [List.drop_of_length_le (Nat.le_of_not_lt h), decide_eq_false h]; rfl
theorem take_full (l : List Nat) (k : Nat) : (!(l.take (l.length - k)).isEmpty) = decide (k < l.reverse.length) := by
  rw [List.length_reverse]
  by_cases h : k < l.length
  · rw [decide_eq_true h]
    cases q : l.take (l.length - k) with
    | nil => have := congrArg List.length q; rw [List.length_take, List.length_nil] at this; omega
    | cons => rfl
  · rw [decide_eq_false h, Nat.sub_eq_zero_of_le (Nat.le_of_not_lt h)]; rfl
/-- both have a letter there, and it is one -/
theorem both_and (a b : List Nat) (p : Nat) {t : Bool} (h : p < a.length → p < b.length → t = decide (∃ c, a[p]? = some c ∧ b[p]? = some c)) : (decide (p < a.length) && (decide (p < b.length) && (t && true))) = decide (∃ c, a[p]? = some c ∧ b[p]? = some c) := by
  by_cases h1 : p < a.length
  · by_cases h2 : p < b.length
    · rw [decide_eq_true h1, decide_eq_true h2, h h1 h2, Bool.and_true]; rfl
    · rw [decide_eq_false h2, Bool.false_and, Bool.and_false, decide_eq_false]
      exact fun ⟨_, _, e⟩ => h2 (List.getElem?_eq_some_iff.mp e).1
  · rw [decide_eq_false h1, Bool.false_and, decide_eq_false]
    exact fun ⟨_, e, _⟩ => h1 (List.getElem?_eq_some_iff.mp e).1
theorem both_eq {a b : List Nat} {p : Nat} (h1 : p < a.length) (h2 : p < b.length) : decide ([a[p]] = [b[p]]) = decide (∃ c, a[p]? = some c ∧ b[p]? = some c) := by
  refine decide_eq_decide.mpr ⟨fun e => ⟨a[p], List.getElem?_eq_getElem h1, (List.cons.inj e).1 ▸ List.getElem?_eq_getElem h2⟩, fun ⟨c, e, e'⟩ => ?_⟩
  rw [List.getElem?_eq_getElem h1] at e
  rw [List.getElem?_eq_getElem h2] at e'
  rw [Option.some.inj e, Option.some.inj e']
/-- three tests, of which the third leans on the two ahead -/
theorem three {C : Cx} {Γ : Gm} {σ : Sg} {e : Expr} {a b : List Nat} {p : Nat} (he : e = .BoolOp .And [kid e 0, kid e 1, kid e 2] e.pos) (h1 : Bt C Γ σ (kid e 0) (decide (p < a.length))) (h2 : Bt C Γ σ (kid e 1) (decide (p < b.length)))
    (h3 : ∀ (h1 : p < a.length) (h2 : p < b.length), Bt C Γ σ (kid e 2) (decide ([a[p]] = [b[p]]))) : Bt C Γ σ e (decide (∃ c, a[p]? = some c ∧ b[p]? = some c)) := by
  by_cases h : p < a.length ∧ p < b.length
  · exact .is (both_and a b p fun _ _ => both_eq h.1 h.2) (B.bool he (.and h1 fun _ => .and h2 fun _ => .and (h3 h.1 h.2) fun _ => .nil .And))
  · exact .is (both_and a b p fun q1 q2 => absurd ⟨q1, q2⟩ h) (B.bool he (.and h1 fun q1 => .and (b := true && true) h2 fun q2 => absurd ⟨of_decide_eq_true q1, of_decide_eq_true q2⟩ h))
/-- the first loop's test -/
theorem lev2_t1 (a b : List Nat) (mc : Int) (p : Nat) : Bt (CG base2 G) (fnGm lev2) (S1 a b mc p) (stT (lv2 2)) (decide (∃ c, a[p]? = some c ∧ b[p]? = some c)) :=
  three (by kernel_rfl) (.is (drop_full a p) (B.value (by kernel_rfl) (.is (congrArg (fun l => D.v (sv l)) (slice_from a p)) (.calc (by kernel_rfl))) (truth_sv _)))
    (.is (drop_full b p) (B.value (by kernel_rfl) (.is (congrArg (fun l => D.v (sv l)) (slice_from b p)) (.calc (by kernel_rfl))) (truth_sv _)))
    fun h1 h2 => B.cmp (by kernel_rfl) (by kernel_rfl) (E.item (a := .v (sv a)) (b := .v (.int p)) (by kernel_rfl) (by kernel_rfl) (.calc (by kernel_rfl)) (.calc (by kernel_rfl)) (item_at (List.getElem?_eq_getElem h1)))
      (E.item (a := .v (sv b)) (b := .v (.int p)) (by kernel_rfl) (by kernel_rfl) (.calc (by kernel_rfl)) (.calc (by kernel_rfl)) (item_at (List.getElem?_eq_getElem h2))) (cmp_sv _ _)
theorem lev2_w1 (a b : List Nat) (mc : Int) : ∀ (m p : Nat), a.length < m + p → WhileS (CG base2 G) (fnGm lev2) (lv2 2) (S1 a b mc p) .next (S1 a b mc (p + cpl (a.drop p) (b.drop p))) := fun m => by
  induction m with
  | zero =>
    intro p h
    rw [cpl_stop fun ⟨_, q, _⟩ => Nat.lt_asymm (Nat.zero_add p ▸ h) (List.getElem?_eq_some_iff.mp q).1]
    exact .done (.is (decide_eq_false fun ⟨_, q, _⟩ => Nat.lt_asymm (Nat.zero_add p ▸ h) (List.getElem?_eq_some_iff.mp q).1) (lev2_t1 a b mc p)) (.calc ["row"] (by kernel_rfl))
  | succ m ih =>
    intro p h
    have t := lev2_t1 (G := G) a b mc p
    by_cases hc : ∃ c, a[p]? = some c ∧ b[p]? = some c
    · rw [decide_eq_true hc] at t
      obtain ⟨c, h1, h2⟩ := hc
      rw [cpl_step h1 h2, Nat.add_comm (cpl _ _) 1, ← Nat.add_assoc]
      exact .turn t (σ₂ := S1 a b mc (p + 1)) (.calc ["row"] (by kernel_rfl)) (ih (p + 1) (by omega))
    · rw [decide_eq_false hc] at t
      rw [cpl_stop hc]
      exact .done t (.calc ["row"] (by kernel_rfl))
theorem lev2_cutA (a b : List Nat) (mc : Int) : ∀ k : Nat, Ev (CG base2 G) (fnGm lev2) (S2 a b mc (-(k : Int))) (tA2 6 0) (.v (sv (a.take (a.length - k))))
  | 0 => .is (congrArg (fun l => D.v (sv l)) ((slice_all a).trans (List.take_length (l := a)).symm)) (.calc (by kernel_rfl))
  | k + 1 => .is (congrArg (fun l => D.v (sv l)) (slice_to a k)) (.calc (by kernel_rfl))
theorem lev2_cutB (a b : List Nat) (mc : Int) : ∀ k : Nat, Ev (CG base2 G) (fnGm lev2) (S2 a b mc (-(k : Int))) (tA2 6 1) (.v (sv (b.take (b.length - k))))
  | 0 => .is (congrArg (fun l => D.v (sv l)) ((slice_all b).trans (List.take_length (l := b)).symm)) (.calc (by kernel_rfl))
  | k + 1 => .is (congrArg (fun l => D.v (sv l)) (slice_to b k)) (.calc (by kernel_rfl))
theorem lev2_setA (a b : List Nat) (mc : Int) : ∀ k : Nat, Ev (CG base2 G) (fnGm lev2) (S2 a b mc (-(k : Int))) (asgV (lv2 7)) (.v (sv (a.take (a.length - k))))
  | 0 => .is (congrArg (fun l => D.v (sv l)) ((slice_all a).trans (List.take_length (l := a)).symm)) (.calc (by kernel_rfl))
  | k + 1 => .is (congrArg (fun l => D.v (sv l)) (slice_to a k)) (.calc (by kernel_rfl))
theorem lev2_setB (a b : List Nat) (mc : Int) : ∀ k : Nat, Ev (CG base2 G) (fnGm lev2) (S2 a b mc (-(k : Int))) (asgV (lv2 8)) (.v (sv (b.take (b.length - k))))
  | 0 => .is (congrArg (fun l => D.v (sv l)) ((slice_all b).trans (List.take_length (l := b)).symm)) (.calc (by kernel_rfl))
  | k + 1 => .is (congrArg (fun l => D.v (sv l)) (slice_to b k)) (.calc (by kernel_rfl))
theorem neg_last (k : Nat) : -(k : Int) - 1 = Int.negSucc k := by omega
/-- the second loop's test -/
theorem lev2_t2 (a b : List Nat) (mc : Int) (k : Nat) : Bt (CG base2 G) (fnGm lev2) (S2 a b mc (-(k : Int))) (stT (lv2 6)) (decide (∃ c, a.reverse[k]? = some c ∧ b.reverse[k]? = some c)) :=
  three (by kernel_rfl) (.is (take_full a k) (B.value (by kernel_rfl) (lev2_cutA a b mc k) (truth_sv _))) (.is (take_full b k) (B.value (by kernel_rfl) (lev2_cutB a b mc k) (truth_sv _)))
    fun h1 h2 => B.cmp (by kernel_rfl) (by kernel_rfl) (E.item (a := .v (sv a)) (b := .v (.int (Int.negSucc k))) (by kernel_rfl) (by kernel_rfl) (.calc (by kernel_rfl)) (.is (congrArg (fun i => D.v (.int i)) (neg_last k)) (.calc (by kernel_rfl))) (item_last (List.getElem?_eq_getElem h1)))
      (E.item (a := .v (sv b)) (b := .v (.int (Int.negSucc k))) (by kernel_rfl) (by kernel_rfl) (.calc (by kernel_rfl)) (.is (congrArg (fun i => D.v (.int i)) (neg_last k)) (.calc (by kernel_rfl))) (item_last (List.getElem?_eq_getElem h2))) (cmp_sv _ _)
theorem lev2_w2 (a b : List Nat) (mc : Int) : ∀ (m k : Nat), a.length < m + k → WhileS (CG base2 G) (fnGm lev2) (lv2 6) (S2 a b mc (-(k : Int))) .next (S2 a b mc (-((k + cpl (a.reverse.drop k) (b.reverse.drop k) : Nat) : Int))) := fun m => by
  induction m with
  | zero =>
    intro k h
    have hn : ¬ ∃ c, a.reverse[k]? = some c ∧ b.reverse[k]? = some c := fun ⟨_, q, _⟩ => Nat.lt_asymm (Nat.zero_add k ▸ h) (List.length_reverse (as := a) ▸ (List.getElem?_eq_some_iff.mp q).1)
    rw [cpl_stop hn]
    exact .done (.is (decide_eq_false hn) (lev2_t2 a b mc k)) (.calc ["row"] (by kernel_rfl))
  | succ m ih =>
    intro k h
    have t := lev2_t2 (G := G) a b mc k
    by_cases hc : ∃ c, a.reverse[k]? = some c ∧ b.reverse[k]? = some c
    · rw [decide_eq_true hc] at t
      have e : -(k : Int) - 1 = -((k + 1 : Nat) : Int) := by omega
      obtain ⟨c, h1, h2⟩ := hc
      rw [cpl_step h1 h2, Nat.add_comm (cpl _ _) 1, ← Nat.add_assoc]
      exact .turn t (σ₂ := S2 a b mc (-((k + 1 : Nat) : Int))) (e ▸ .calc ["row"] (by kernel_rfl)) (ih (k + 1) (by omega))
    · rw [decide_eq_false hc] at t
      rw [cpl_stop hc]
      exact .done t (.calc ["row"] (by kernel_rfl))
end Mine
end
section
open PySem
namespace Mine
variable {G : Addr → List V → V → Prop}
noncomputable def SI (a b : List Nat) (mc : Int) (bc : Nat) (d res mn : Int) (row : List Int) : Sg := fr [("a", .v (sv a)), ("b", .v (sv b)), ("max_cost", .v (.int mc)), ("bchar", .v (sv [bc])), ("distance", .v (.int d)), ("result", .v (.int res)), ("minimum", .v (.int mn)), ("row", .loc 1)] [iv row]
noncomputable def SJ (a b : List Nat) (mc : Int) (res mn : Int) (row : List Int) : Sg := fr [("a", .v (sv a)), ("b", .v (sv b)), ("max_cost", .v (.int mc)), ("result", .v (.int res)), ("minimum", .v (.int mn)), ("row", .loc 1)] [iv row]
noncomputable def S3 (a b : List Nat) (mc : Int) (bc : Nat) (res mn : Int) (row : List Int) (k : Nat) (more : List (Str × D)) : Sg := fr (more ++ ([("a", .v (sv a)), ("b", .v (sv b)), ("max_cost", .v (.int mc)), ("bchar", .v (sv [bc])), ("result", .v (.int res)), ("minimum", .v (.int mn)), ("row", .loc 1), ("index", .v (.int k))] : List (Str × D))) [iv row]
noncomputable def in2 : Stmt := stAt (stB (lv2 15)) 3
noncomputable def is2 (i : Nat) : Stmt := stAt (stB in2) i
theorem iv_at {row : List Int} {k : Nat} {r : Int} (h : row[k]? = some r) : (iv row)[k]? = some (.int r) := List.getElem?_map.trans (congrArg (Option.map V.int) h)
theorem iv_set {row : List Int} {k : Nat} {r : Int} : iv (row.set k r) = (iv row).set k (.int r) := List.map_set
theorem int_if (c : Prop) [Decidable c] {C : Cx} {Γ : Gm} {st : Stmt} {σ σ1 σ2 : Sg} {fl1 fl2 : Fl} (hs : st = .If (stT st) (stB st) (stO st) st.pos) (h : Bt C Γ σ (stT st) (decide c)) (k1 : Runs C Γ σ (stB st) fl1 σ1) (k2 : Runs C Γ σ (stO st) fl2 σ2) : RunS C Γ σ st (if c then fl1 else fl2) (if c then σ1 else σ2) := by
  by_cases q : c
  · rw [if_pos q, if_pos q]; exact RunS.if hs true (.is (decide_eq_true q) h) (fun _ => k1) fun q => nomatch q
  · rw [if_neg q, if_neg q]; exact RunS.if hs false (.is (decide_eq_false q) h) (fun q => nomatch q) fun _ => k2
noncomputable abbrev SubOK (G : Addr → List V → V → Prop) : Prop := ∀ x y, x ∈ Sg0 → y ∈ Sg0 → G 36 [sv [x], sv [y]] (.int (scost x y))
theorem lev2_turn (hG : SubOK G) {a b : List Nat} {mc : Int} {bc x : Nat} {d res mn r : Int} {row : List Int} {k : Nat} (hb : bc ∈ Sg0) (hx : x ∈ Sg0) (ha : a[k]? = some x) (hr : row[k]? = some r) :
    TurnS (CG base2 G) (fnGm lev2) in2 (SI a b mc bc d res mn row) (.int k) .next
      (SI a b mc bc r (imin (imin res r + 2) (d + scost bc x)) (if imin (imin res r + 2) (d + scost bc x) < mn then imin (imin res r + 2) (d + scost bc x) else mn) (row.set k (imin (imin res r + 2) (d + scost bc x)))) := by
  refine .of (σ₁ := S3 a b mc bc res mn row k [("distance", .v (.int d))]) (by kernel_rfl) (.to (show stB in2 = [is2 0, is2 1, is2 2, is2 3, is2 4, is2 5] by kernel_rfl) ?_)
  refine .cons (σ₁ := S3 a b mc bc res mn row k [("substitute", .v (.int (d + scost bc x)))]) (.set (x := "substitute") (v := .int (d + scost bc x)) (by kernel_rfl) (by kernel_rfl) ?_ (by kernel_rfl)) ?_
  · refine E.bin (by kernel_rfl) (.calc (by kernel_rfl)) (E.call (f := "_substitution_cost") (a := 36) (vs := [sv [bc], sv [x]]) (by kernel_rfl) (.calc (by kernel_rfl)) (args2 (by kernel_rfl) (by kernel_rfl) (by kernel_rfl) (.calc (by kernel_rfl)) ?_) (hG _ _ hb hx)) (bin_add d (scost bc x))
    exact E.item (a := .v (sv a)) (b := .v (.int k)) (by kernel_rfl) (by kernel_rfl) (.calc (by kernel_rfl)) (.calc (by kernel_rfl)) (item_at ha)
  refine .cons (σ₁ := S3 a b mc bc res mn row k [("substitute", .v (.int (d + scost bc x))), ("distance", .v (.int r))]) (.set (x := "distance") (v := .int r) (by kernel_rfl) (by kernel_rfl) ?_ (by kernel_rfl)) ?_
  · exact E.item (a := .loc 1) (b := .v (.int k)) (by kernel_rfl) (by kernel_rfl) (.calc (by kernel_rfl)) (.calc (by kernel_rfl)) (item_nth (lst_loc (xs := iv row) (by kernel_rfl)) (iv_at hr))
  refine .cons (σ₁ := S3 a b mc bc res mn row k [("substitute", .v (.int (d + scost bc x))), ("distance", .v (.int r)), ("insert_delete", .v (.int (imin res r + 2)))]) (.calc ["row"] (by kernel_rfl)) ?_
  generalize hq : imin (imin res r + 2) (d + scost bc x) = res'
  refine .cons (σ₁ := S3 a b mc bc res' mn row k [("distance", .v (.int r))]) (hq ▸ .calc ["row"] (by kernel_rfl)) ?_
  refine .cons (σ₁ := S3 a b mc bc res' mn (row.set k res') k [("distance", .v (.int r))]) ?_ ?_
  · exact .put (j := 1) (k := k) (v := .int res') (vs := iv row) (by kernel_rfl) (by kernel_rfl) (.calc (by kernel_rfl)) (.calc (by kernel_rfl)) (.calc (by kernel_rfl)) (by kernel_rfl) (List.getElem?_eq_some_iff.mp (iv_at hr)).1 (by unfold S3; rw [iv_set]; exact Le.refl _)
  have t := int_if (res' < mn) (C := CG base2 G) (Γ := fnGm lev2) (st := is2 5) (σ := S3 a b mc bc res' mn (row.set k res') k [("distance", .v (.int r))]) (fl1 := .next) (fl2 := .next) (by kernel_rfl) (.calc (by kernel_rfl)) (σ1 := SI a b mc bc r res' res' (row.set k res')) (.calc ["row"] (by kernel_rfl)) (σ2 := SI a b mc bc r res' mn (row.set k res')) (.calc ["row"] (by kernel_rfl))
  by_cases h : res' < mn
  · rw [if_pos h, if_pos h] at t; rw [if_pos h]; exact .cons t .nil
  · rw [if_neg h, if_neg h] at t; rw [if_neg h]; exact .cons t .nil
theorem drop_head {α : Type} {l r : List α} {k : Nat} {x : α} (h : l.drop k = x :: r) : l[k]? = some x ∧ l.drop (k + 1) = r := by
  refine ⟨?_, by rw [← List.drop_drop, h]; rfl⟩
  have := congrArg List.head? h
  rw [List.head?_drop] at this; exact this
noncomputable abbrev rng (k n : Nat) : List V := (List.range' k n).map fun (i : Nat) => V.int (i : Int)
theorem lev2_inner (hG : SubOK G) {a b : List Nat} {mc : Int} {bc : Nat} (hb : bc ∈ Sg0) : ∀ (as : List Nat) (k : Nat) (done rest : List Int) (d res mn : Int), a.drop k = as → done.length = k → rest.length = as.length → (∀ x ∈ as, x ∈ Sg0) →
    ForS (CG base2 G) (fnGm lev2) in2 (rng k as.length) (SI a b mc bc d res mn (done ++ rest)) .next (SJ a b mc (inn bc as rest d res mn).2.1 (inn bc as rest d res mn).2.2 (done ++ (inn bc as rest d res mn).1))
  | [], k, done, rest, d, res, mn, h1, h2, h3, h4 => by
    cases List.length_eq_zero_iff.mp h3
    exact ForS.weak (.of_seen (σ := SJ a b mc res mn (done ++ [])) (by kernel_rfl)) (ForS.done (by kernel_rfl))
  | x :: as, k, done, [], d, res, mn, h1, h2, h3, h4 => nomatch h3
  | x :: as, k, done, r :: rest, d, res, mn, h1, h2, h3, h4 => by
    obtain ⟨ha, hd⟩ := drop_head h1
    have hr : (done ++ r :: rest)[k]? = some r := by rw [List.getElem?_append_right (Nat.le_of_eq h2), h2, Nat.sub_self]; rfl
    refine ForS.cons (lev2_turn hG hb (h4 x (List.mem_cons_self ..)) ha hr) ?_
    have hs : ∀ z, (done ++ r :: rest).set k z = (done ++ [z]) ++ rest := fun z => by
      rw [List.set_append_right _ _ (Nat.le_of_eq h2), h2, Nat.sub_self, List.append_assoc]; rfl
    rw [hs]
    unfold inn
    dsimp only
    generalize imin (imin res r + 2) (d + scost bc x) = z
    generalize (if z < mn then z else mn) = mn'
    have := lev2_inner hG (a := a) (b := b) (mc := mc) hb as (k + 1) (done ++ [z]) rest r z mn' hd (by rw [List.length_append, h2]; rfl) (Nat.succ.inj h3) (fun y hy => h4 y (List.mem_cons_of_mem _ hy))
    rw [List.append_assoc done [z] (inn bc as rest r z mn').1] at this
    exact this
noncomputable def SO (a b : List Nat) (mc : Int) (res : Int) (row : List Int) : Sg := fr [("a", .v (sv a)), ("b", .v (sv b)), ("max_cost", .v (.int mc)), ("result", .v (.int res)), ("row", .loc 1)] [iv row]
noncomputable def out2 : Stmt := lv2 15
noncomputable def os2 (i : Nat) : Stmt := stAt (stB out2) i
noncomputable def S4 (a b : List Nat) (mc : Int) (i : Nat) (row : List Int) (more : List (Str × D)) : Sg := fr (more ++ ([("a", .v (sv a)), ("b", .v (sv b)), ("max_cost", .v (.int mc)), ("bindex", .v (.int i)), ("row", .loc 1)] : List (Str × D))) [iv row]
theorem iter_range0 {C : Cx} {Γ : Gm} {σ : Sg} {e : Expr} {deep : Bool} {n : Nat} (he : e = .Call (.Name "range" (kid e 0).pos) (eArgs e) [] e.pos) (hb : IsBi C Γ "range" (.type "range")) (ha : ArgsOK C Γ σ (eArgs e) [.v (.int n)]) (hn : n < 1000000) : IterOK C Γ σ e deep false (rng 0 n) :=
  .is ((range_0 hn).2.trans (congrArg (List.map fun (i : Nat) => V.int (i : Int)) List.range_eq_range')) (iter_range he hb ha (rng1 _) (range_0 hn).1)
theorem lev2_row (hG : SubOK G) {a b : List Nat} {mc : Int} {y i : Nat} {res : Int} {row : List Int} (ha : ∀ x ∈ a, x ∈ Sg0) (hy : y ∈ Sg0) (hl : a.length < 1000) (hi : i < 1000) (hb : b[i]? = some y) (hr : row.length = a.length) {q : List Int × Int × Int} (hq : inn y a row (2 * i) (2 * i) 9223372036854775807 = q) :
    TurnS (CG base2 G) (fnGm lev2) out2 (SO a b mc res row) (.int i) (if mc < q.2.2 then .ret (.int (mc + 1)) else .next) (if mc < q.2.2 then SJ a b mc q.2.1 q.2.2 q.1 else SO a b mc q.2.1 q.1) := by
  refine .of (σ₁ := S4 a b mc i row []) (by kernel_rfl) (.to (show stB out2 = [os2 0, os2 1, os2 2, os2 3, os2 4] by kernel_rfl) ?_)
  refine .cons (σ₁ := S4 a b mc i row [("bchar", .v (sv [y]))]) ?_ ?_
  · exact .set (x := "bchar") (v := sv [y]) (by kernel_rfl) (by kernel_rfl) (E.item (a := .v (sv b)) (b := .v (.int i)) (by kernel_rfl) (by kernel_rfl) (.calc (by kernel_rfl)) (.calc (by kernel_rfl)) (item_at hb)) (by kernel_rfl)
  refine .cons (σ₁ := S4 a b mc i row [("bchar", .v (sv [y])), ("distance", .v (.int (2 * i))), ("result", .v (.int (2 * i)))]) ?_ ?_
  · refine .set2 (x := "distance") (y := "result") (v := .int (2 * i)) (σ₁ := S4 a b mc i row [("bchar", .v (sv [y])), ("distance", .v (.int (2 * i)))]) (by kernel_rfl) ?_ (by kernel_rfl) (by kernel_rfl)
    exact .is (congrArg (fun i => D.v (.int i)) (Int.mul_comm ..)) (E.mul (x := (i : Int)) (y := 2) (by kernel_rfl) (.calc (by kernel_rfl)) (.calc (by kernel_rfl)) (by unfold bigBits; omega))
  refine .cons (σ₁ := SI a b mc y (2 * i) (2 * i) 9223372036854775807 row) (.calc ["row"] (by kernel_rfl)) ?_
  refine .cons (σ₁ := SJ a b mc q.2.1 q.2.2 q.1) ?_ ?_
  · refine .for (vs := rng 0 a.length) (by kernel_rfl) (by kernel_rfl) (iter_range0 (by kernel_rfl) (.calc (by kernel_rfl)) (.calc (by kernel_rfl)) (by omega)) ?_
    have := lev2_inner hG (a := a) (b := b) (mc := mc) hy a 0 [] row (2 * i) (2 * i) 9223372036854775807 rfl rfl hr ha
    rw [hq] at this
    exact this
  have t := int_if (mc < q.2.2) (C := CG base2 G) (Γ := fnGm lev2) (st := os2 4) (σ := SJ a b mc q.2.1 q.2.2 q.1) (fl1 := .ret (.int (mc + 1))) (fl2 := .next) (by kernel_rfl) (.calc (by kernel_rfl)) (σ1 := SJ a b mc q.2.1 q.2.2 q.1) (.calc ["row"] (by kernel_rfl)) (σ2 := SO a b mc q.2.1 q.1) (.calc ["row"] (by kernel_rfl))
  by_cases h : mc < q.2.2
  · rw [if_pos h, if_pos h] at t ⊢; exact .ret t
  · rw [if_neg h, if_neg h] at t ⊢; exact .cons t .nil
theorem lev2_outer (hG : SubOK G) {a b : List Nat} {mc : Int} (ha : ∀ x ∈ a, x ∈ Sg0) (hl : a.length < 1000) (hl2 : b.length < 1000) : ∀ (bs : List Nat) (k : Nat) (row : List Int) (res : Int), b.drop k = bs → row.length = a.length → (∀ x ∈ bs, x ∈ Sg0) →
    ∃ σ', ForS (CG base2 G) (fnGm lev2) out2 (rng k bs.length) (SO a b mc res row) (if (rows a mc bs k row res).2 then .ret (.int (rows a mc bs k row res).1) else .next) σ' ∧ ((rows a mc bs k row res).2 = false → ∃ row', σ' = SO a b mc (rows a mc bs k row res).1 row')
  | [], k, row, res, h1, h2, h3 => ⟨_, ForS.done (by kernel_rfl), fun _ => ⟨row, rfl⟩⟩
  | y :: bs, k, row, res, h1, h2, h3 => by
    obtain ⟨hb, hd⟩ := drop_head h1
    have R := lev2_row (res := res) (mc := mc) hG ha (h3 y (List.mem_cons_self ..)) hl (Nat.lt_trans (List.getElem?_eq_some_iff.mp hb).1 hl2) hb h2 rfl
    have ih := lev2_outer hG (mc := mc) ha hl hl2 bs (k + 1) (inn y a row (2 * k) (2 * k) 9223372036854775807).1 (inn y a row (2 * k) (2 * k) 9223372036854775807).2.1 hd (inn_len _ _ _ _ _ _ h2) (fun x hx => h3 x (List.mem_cons_of_mem _ hx))
    unfold rows
    dsimp only
    by_cases hc : mc < (inn y a row (2 * k) (2 * k) 9223372036854775807).2.2
    · rw [if_pos hc, if_pos hc] at R
      rw [if_pos hc]
      exact ⟨_, ForS.ret R, fun h => nomatch h⟩
    · rw [if_neg hc, if_neg hc] at R
      rw [if_neg hc]
      obtain ⟨σ', h, h'⟩ := ih
      exact ⟨σ', ForS.cons R h, h'⟩
end Mine
end
section
open PySem
namespace Mine
variable {G : Addr → List V → V → Prop}
noncomputable def SP (a b : List Nat) (mc : Int) (more : List (Str × D)) : Sg := fr (more ++ ([("a", .v (sv a)), ("b", .v (sv b)), ("max_cost", .v (.int mc))] : List (Str × D)))
/-- the lists' own table -/
theorem range_2 {k : Nat} (h : k < 1000) : rangeOk 2 (2 * ((k : Int) + 1)) 2 = true ∧ rangeV 2 2 (rangeN 2 (2 * ((k : Int) + 1)) 2) = iv (row0 k) := by
  have e : rangeN 2 (2 * ((k : Int) + 1)) 2 = k := by unfold rangeN; omega
  refine ⟨?_, ?_⟩
  · unfold rangeOk lim
    rw [decide_eq_true (by omega), decide_eq_true (by omega), decide_eq_true (by omega)]; rfl
  · rw [e]; unfold rangeV row0 iv; rw [List.map_map]; rfl
/-- a test that hands back, or the rest -/
theorem ret_or {C : Cx} {Γ : Gm} {st : Stmt} {r : List Stmt} {σ : Sg} {v v' : V} (c : Prop) [Decidable c] (hs : st = .If (stT st) (stB st) (stO st) st.pos) (h : Bt C Γ σ (stT st) (decide c)) (k1 : c → ∃ σ', Runs C Γ σ (stB st) (.ret v) σ') (ho : stO st = []) (k2 : ¬ c → ∃ σ', Runs C Γ σ r (.ret v') σ') : ∃ σ', Runs C Γ σ (st :: r) (.ret (if c then v else v')) σ' := by
  by_cases q : c
  · rw [if_pos q]
    exact (k1 q).imp fun _ k => .ret (.if hs true (.is (decide_eq_true q) h) (fun _ => k) fun q => nomatch q)
  · rw [if_neg q]
    exact (k2 q).imp fun _ k => .cons (.if hs false (.is (decide_eq_false q) h) (fun q => nomatch q) fun _ => .to ho .nil) k
theorem if_int (c : Prop) [Decidable c] (x y : Int) : (if c then V.int x else V.int y) = V.int (if c then x else y) := by
  by_cases q : c
  · rw [if_pos q, if_pos q]
  · rw [if_neg q, if_neg q]
theorem ret_is {C : Cx} {Γ : Gm} {sts : List Stmt} {σ : Sg} {v v' : V} (e : v = v') (h : ∃ σ', Runs C Γ σ sts (.ret v) σ') : ∃ σ', Runs C Γ σ sts (.ret v') σ' := e ▸ h
/-- what is left when the shorter word stands ahead -/
theorem lev2_tail (hG : SubOK G) {a b : List Nat} {mc : Int} (ha : ∀ x ∈ a, x ∈ Sg0) (hb : ∀ x ∈ b, x ∈ Sg0) (la : a.length < 900) (lb : b.length < 900) :
    ∃ σ', Runs (CG base2 G) (fnGm lev2) (SP a b mc []) [lv2 12, lv2 13, lv2 14, lv2 15, lv2 16] (.ret (.int (levD a b mc))) σ' := by
  unfold levD
  refine ret_is (if_int ..) (ret_or (mc < ((b.length : Int) - (a.length : Int)) * 2) (by kernel_rfl) ?_ (fun _ => ⟨SP a b mc [], .calc ["row"] (by kernel_rfl)⟩) (by kernel_rfl) fun _ => ?_)
  · exact B.cmp (a := .v (.int (((b.length : Int) - (a.length : Int)) * 2))) (b := .v (.int mc)) (by kernel_rfl) (by kernel_rfl) (E.mul (x := (b.length : Int) - (a.length : Int)) (y := 2) (by kernel_rfl) (.calc (by kernel_rfl)) (.calc (by kernel_rfl)) (by unfold bigBits; omega)) (.calc (by kernel_rfl)) (cmp_gt _ _)
  obtain ⟨σ', h, h'⟩ := lev2_outer (a := a) (b := b) (mc := mc) hG ha (Nat.lt_trans la (by decide)) (Nat.lt_trans lb (by decide)) b 0 (row0 a.length) 0 rfl (by unfold row0; rw [List.length_map, List.length_range]) hb
  have fin : ∃ σ', Runs (CG base2 G) (fnGm lev2) (SO a b mc 0 (row0 a.length)) [lv2 15, lv2 16] (.ret (.int (rows a mc b 0 (row0 a.length) 0).1)) σ' := by
    have hf := fun {fl} => RunS.for (C := CG base2 G) (Γ := fnGm lev2) (st := lv2 15) (σ := SO a b mc 0 (row0 a.length)) (vs := rng 0 b.length) (fl := fl) (σ' := σ') (by kernel_rfl) (by kernel_rfl) (iter_range0 (by kernel_rfl) (.calc (by kernel_rfl)) (.calc (by kernel_rfl)) (Nat.lt_trans lb (by decide)))
    generalize rows a mc b 0 (row0 a.length) 0 = q at h h' ⊢
    cases hq : q.2 with
    | true => rw [hq] at h; exact ⟨σ', .ret (hf h)⟩
    | false =>
      rw [hq] at h
      obtain ⟨row', rfl⟩ := h' hq
      exact ⟨_, .cons (hf h) (.calc ["row"] (by kernel_rfl) (σ' := SO a b mc q.1 row'))⟩
  refine fin.imp fun _ k => .cons (σ₁ := fr [("a", .v (sv a)), ("b", .v (sv b)), ("max_cost", .v (.int mc)), ("row", .loc 1)] [iv (row0 a.length)]) (.own (x := "row") (xs := iv (row0 a.length)) (by kernel_rfl) (by kernel_rfl) ?_ (by kernel_rfl)) (.cons (σ₁ := SO a b mc 0 (row0 a.length)) (.calc ["row"] (by kernel_rfl)) k)
  refine Fr.is (range_2 (Nat.lt_trans la (by decide))).2 (Fr.range (g := "range") (ds := [.v (.int 2), .v (.int (2 * ((a.length : Int) + 1))), .v (.int 2)]) (by kernel_rfl) (.calc (by kernel_rfl)) (.calc (by kernel_rfl)) ?_ (rng3 _ _ _) (range_2 (Nat.lt_trans la (by decide))).1)
  exact .calc (by kernel_rfl)
theorem both_nil (a b : List Nat) (mc : Int) : Bt (CG base2 G) (fnGm lev2) (SP a b mc []) (stT (lv2 9)) (decide (a = [] ∨ b = [])) := by
  cases a with
  | nil => exact .is (by rw [decide_eq_true (.inl rfl)]) (Bt.calc (b := true) (by kernel_rfl))
  | cons x a => cases b with
    | nil => exact .is (by rw [decide_eq_true (.inr rfl)]) (Bt.calc (b := true) (by kernel_rfl))
    | cons y b => exact .is (by rw [decide_eq_false (by simp)]) (Bt.calc (b := false) (by kernel_rfl))
theorem dec_or (p q : Prop) [Decidable p] [Decidable q] : decide (p ∨ q) = (decide p || (decide q || false)) := by
  by_cases h : p
  · rw [decide_eq_true h, decide_eq_true (.inl h)]; rfl
  · by_cases h' : q
    · rw [decide_eq_false h, decide_eq_true h', decide_eq_true (.inr h')]; rfl
    · rw [decide_eq_false h, decide_eq_false h', decide_eq_false (fun x => x.elim h h')]; rfl
theorem dec_nat (x y : Nat) : decide ((x : Int) < (y : Int)) = decide (x < y) := decide_eq_decide.mpr Int.ofNat_lt
theorem lev2_swap (hG : SubOK G) {a b : List Nat} {mc : Int} (ha : ∀ x ∈ a, x ∈ Sg0) (hb : ∀ x ∈ b, x ∈ Sg0) (la : a.length < 900) (lb : b.length < 900) :
    ∃ σ', Runs (CG base2 G) (fnGm lev2) (SP a b mc []) [lv2 9, lv2 10, lv2 11, lv2 12, lv2 13, lv2 14, lv2 15, lv2 16] (.ret (.int (levC a b mc))) σ' := by
  unfold levC
  refine ret_is (if_int ..) (ret_or (a = [] ∨ b = []) (by kernel_rfl) (both_nil a b mc) (fun _ => ?_) (by kernel_rfl) fun _ => ret_is (if_int ..) (ret_or (40 < a.length ∨ 40 < b.length) (by kernel_rfl) ?_ (fun _ => ⟨SP a b mc [], .calc ["row"] (by kernel_rfl)⟩) (by kernel_rfl) fun _ => ?_))
  · refine ⟨_, .to (show stB (lv2 9) = [stAt (stB (lv2 9)) 0] by kernel_rfl) (.ret (.return (by kernel_rfl) ?_))⟩
    exact E.mul (x := 2) (y := (a.length : Int) + (b.length : Int)) (by kernel_rfl) (.calc (by kernel_rfl)) (.calc (by kernel_rfl)) (by decide)
  · refine .is ((congr (congrArg (fun x y => x || (y || false)) (dec_nat 40 _)) (dec_nat 40 _)).trans (dec_or ..).symm) (B.bool (op := .Or) (es := [kid (stT (lv2 10)) 0, kid (stT (lv2 10)) 1]) (by kernel_rfl) (.or (t := decide (((40 : Nat) : Int) < (a.length : Int))) (.calc (by kernel_rfl)) fun _ => .or (t := decide (((40 : Nat) : Int) < (b.length : Int))) (.calc (by kernel_rfl)) fun _ => .nil .Or))
  have t : Bt (CG base2 G) (fnGm lev2) (SP a b mc []) (stT (lv2 11)) (decide (b.length < a.length)) := .is (dec_nat ..) (Bt.calc (by kernel_rfl))
  by_cases h : b.length < a.length
  · rw [if_pos h]
    exact (lev2_tail hG hb ha lb la).imp fun _ k => .cons (σ₁ := SP b a mc []) (.if (by kernel_rfl) true (.is (decide_eq_true h) t) (fun _ => .calc ["row"] (by kernel_rfl)) fun q => nomatch q) k
  · rw [if_neg h]
    exact (lev2_tail hG ha hb la lb).imp fun _ k => .cons (σ₁ := SP a b mc []) (.if (by kernel_rfl) false (.is (decide_eq_false h) t) (fun q => nomatch q) fun _ => .calc ["row"] (by kernel_rfl)) k
theorem lev2_body (hG : SubOK G) {a b : List Nat} {mc : Int} (ha : ∀ x ∈ a, x ∈ Sg0) (hb : ∀ x ∈ b, x ∈ Sg0) (la : a.length < 900) (lb : b.length < 900) :
    FnOK (CG base2 G) lev2 [sv a, sv b, .int mc] (.int (levP a b mc)) := by
  have main : ∃ σ', Runs (CG base2 G) (fnGm lev2) (SP a b mc []) lev2.body (.ret (.int (levP a b mc))) σ' := by
    unfold levP
    refine ret_is (if_int ..) ((ret_or (a = b) (st := lv2 0) (r := lev2.body.drop 1) (by kernel_rfl) (B.cmp (a := .v (sv a)) (b := .v (sv b)) (by kernel_rfl) (by kernel_rfl) (.calc (by kernel_rfl)) (.calc (by kernel_rfl)) (cmp_sv _ _)) (fun _ => ⟨SP a b mc [], .calc ["row"] (by kernel_rfl)⟩) (by kernel_rfl) fun _ => ?_).imp fun _ k => .to (show lev2.body = lv2 0 :: lev2.body.drop 1 by kernel_rfl) k)
    have e1 : a.drop (cpl a b) = (cut1 a b).1 := rfl
    have e2 : b.drop (cpl a b) = (cut1 a b).2 := rfl
    have ga : (∀ x ∈ (cut1 a b).1, x ∈ Sg0) ∧ (cut1 a b).1.length < 900 := ⟨fun x hx => ha x (List.mem_of_mem_drop hx), Nat.lt_of_le_of_lt (List.drop_sublist _ _).length_le la⟩
    have gb : (∀ x ∈ (cut1 a b).2, x ∈ Sg0) ∧ (cut1 a b).2.length < 900 := ⟨fun x hx => hb x (List.mem_of_mem_drop hx), Nat.lt_of_le_of_lt (List.drop_sublist _ _).length_le lb⟩
    have w1 := lev2_w1 (G := G) a b mc (a.length + 1) 0 (Nat.lt_succ_self _)
    rw [List.drop_zero, List.drop_zero, Nat.zero_add] at w1
    generalize cut1 a b = p at *
    obtain ⟨a1, b1⟩ := p
    dsimp only at e1 e2 ga gb ⊢
    have d1 : a1.take (a1.length - cpl a1.reverse b1.reverse) = (cut2 a1 b1).1 := rfl
    have d2 : b1.take (b1.length - cpl a1.reverse b1.reverse) = (cut2 a1 b1).2 := rfl
    have ca := lev2_setA (G := G) a1 b1 mc (cpl a1.reverse b1.reverse)
    have cb := lev2_setB (G := G) (cut2 a1 b1).1 b1 mc (cpl a1.reverse b1.reverse)
    rw [d1] at ca
    rw [d2] at cb
    have w2 := lev2_w2 (G := G) a1 b1 mc (a1.length + 1) 0 (Nat.lt_succ_self _)
    rw [List.drop_zero, List.drop_zero, Nat.zero_add] at w2
    obtain ⟨σ', fin⟩ := lev2_swap (a := (cut2 a1 b1).1) (b := (cut2 a1 b1).2) (mc := mc) hG (fun x hx => ga.1 x (List.mem_of_mem_take hx)) (fun x hx => gb.1 x (List.mem_of_mem_take hx)) (Nat.lt_of_le_of_lt (List.take_sublist _ _).length_le ga.2) (Nat.lt_of_le_of_lt (List.take_sublist _ _).length_le gb.2)
    generalize cut2 a1 b1 = p at *
    obtain ⟨a2, b2⟩ := p
    dsimp only at ca cb fin ⊢
    refine ⟨σ', .to (show lev2.body.drop 1 = [lv2 1, lv2 2, lv2 3, lv2 4, lv2 5, lv2 6, lv2 7, lv2 8, lv2 9, lv2 10, lv2 11, lv2 12, lv2 13, lv2 14, lv2 15, lv2 16] by kernel_rfl) ?_⟩
    refine .cons (σ₁ := S1 a b mc 0) (.calc ["row"] (by kernel_rfl)) (.cons (σ₁ := S1 a b mc (cpl a b)) (.while (by kernel_rfl) w1) ?_)
    generalize cpl a b = k at e1 e2
    refine .cons (σ₁ := S1 a1 b mc k) (.set (x := "a") (v := sv a1) (by kernel_rfl) (by kernel_rfl) (.is (congrArg (fun l => D.v (sv l)) ((slice_from a k).trans e1)) (.calc (by kernel_rfl))) (by kernel_rfl)) ?_
    refine .cons (σ₁ := S1 a1 b1 mc k) (.set (x := "b") (v := sv b1) (by kernel_rfl) (by kernel_rfl) (.is (congrArg (fun l => D.v (sv l)) ((slice_from b k).trans e2)) (.calc (by kernel_rfl))) (by kernel_rfl)) ?_
    refine .cons (σ₁ := S2 a1 b1 mc (-((0 : Nat) : Int))) (.calc ["row"] (by kernel_rfl)) ?_
    refine .cons (.while (by kernel_rfl) w2) ?_
    refine .cons (σ₁ := S2 a2 b1 mc (-((cpl a1.reverse b1.reverse : Nat) : Int))) (.set (x := "a") (v := sv a2) (by kernel_rfl) (by kernel_rfl) ca (by kernel_rfl)) ?_
    exact .cons (σ₁ := SP a2 b2 mc []) (.set (x := "b") (v := sv b2) (by kernel_rfl) (by kernel_rfl) cb (by kernel_rfl)) fin
  obtain ⟨σ', h⟩ := main
  exact FnOK.ret (SP a b mc []) (by kernel_rfl) h
theorem lev2_ok (d : Nat) {a b : List Nat} {mc : Int} (ha : ∀ x ∈ a, x ∈ Sg0) (hb : ∀ x ∈ b, x ∈ Sg0) (la : a.length < 900) (lb : b.length < 900) : FF defs2 base2 (d + 2) 43 [sv a, sv b, .int mc] (.int (levP a b mc)) :=
  FnOK.step (f := lev2) (by kernel_rfl) (lev2_body (fun x y hx hy => sub2_ok d hx hy) ha hb la lb)
end Mine
end
section
open PySem
namespace Mine
variable {G : Addr → List V → V → Prop}
noncomputable def pf2 : Fn := fnOf body2 22 "pretty_flags"
noncomputable def pl2 : Stmt := stAt pf2.body 1
noncomputable def SF (acc : List V) (X : Int) : Sg := fr [("flags", .v (.int X)), ("names", .loc 1)] [acc]
noncomputable def SE (acc : List V) (X : Int) (i : Nat) : Sg := fr [("flags", .v (.int X)), ("names", .loc 1), ("flag", .v (.int ((2 ^ i : Nat) : Int)))] [acc]
noncomputable def pb2 (i : Nat) : Stmt := stAt (stB pl2) i
noncomputable def pc2 (i : Nat) : Stmt := stAt (stB (pb2 1)) i
noncomputable def SEi (acc : List V) (X : Int) (i : Nat) : Sg := fr [("flags", .v (.int X)), ("names", .loc 1), ("i", .v (.int (i : Int)))] [acc]
theorem at32 {α : Type} {f g : Nat → α} (h : ((List.range 32).map f) = (List.range 32).map g) {i : Nat} (hi : i < 32) : f i = g i := List.map_inj_left.mp h i (List.mem_range.mpr hi)
theorem pt2_1a (acc : List V) (X : Int) : ((List.range 32).map fun (i : Nat) => (evE (CG base2 G) (noF (CG base2 G)) 60 (fnGm pf2) (SEi acc X i) (asgV (pb2 0))).map (·.1)) = (List.range 32).map fun (i : Nat) => some (.v (.int ((2 ^ i : Nat) : Int))) := by kernel_rfl
theorem pt2_1 (acc : List V) (X : Int) {i : Nat} (hi : i < 32) : Ev (CG base2 G) (fnGm pf2) (SEi acc X i) (asgV (pb2 0)) (.v (.int ((2 ^ i : Nat) : Int))) := .calc (at32 (pt2_1a acc X) hi)
theorem pt2_3a (acc : List V) (X : Int) : ((List.range 32).map fun (i : Nat) => (evE (CG base2 G) (noF (CG base2 G)) 60 (fnGm pf2) (SE acc X i) (arg (sub (pc2 0) 0) 0)).map (·.1)) = (List.range 32).map fun (i : Nat) => some (.v (sv (nmC i))) := by kernel_rfl
theorem pt2_3 (acc : List V) (X : Int) {i : Nat} (hi : i < 32) : Ev (CG base2 G) (fnGm pf2) (SE acc X i) (arg (sub (pc2 0) 0) 0) (.v (sv (nmC i))) := .calc (at32 (pt2_3a acc X) hi)
theorem pt2_2 (acc : List V) (X : Int) (i : Nat) : Bt (CG base2 G) (fnGm pf2) (SE acc X i) (stT (pb2 1)) (Builtin.bitAnd X ((2 ^ i : Nat) : Int) != 0) := .calc (by kernel_rfl)
theorem pt2_4 (acc : List V) (X : Int) (i : Nat) : RunS (CG base2 G) (fnGm pf2) (SE acc X i) (pc2 1) .next (SF acc (Builtin.bitXor X ((2 ^ i : Nat) : Int))) := .calc ["names"] (by kernel_rfl)
theorem pt2_5 (acc : List V) (X : Int) : Bt (CG base2 G) (fnGm pf2) (SF acc X) (stT (pc2 2)) (!(X != 0)) := .calc (by kernel_rfl)
noncomputable abbrev acS (ps : List Nat) : List V := ps.map fun p => sv (nmC p)
theorem nat_ne {n : Nat} (h : n ≠ 0) : ((n : Int) != 0) = true := bne_iff_ne.mpr fun q => h (Int.ofNat.inj q)
theorem pf2_pre (acc : List V) (X : Int) {i : Nat} (hi : i < 32) {fl : Fl} {σ' : Sg} (k : RunS (CG base2 G) (fnGm pf2) (SE acc X i) (pb2 1) fl σ') (hfl : fl = .brk ∨ fl = .next) : TurnS (CG base2 G) (fnGm pf2) pl2 (SF acc X) (.int (i : Int)) fl σ' := by
  refine .of (σ₁ := SEi acc X i) (by kernel_rfl) (.to (show stB pl2 = [pb2 0, pb2 1] by kernel_rfl) (.cons (σ₁ := SE acc X i) (.set (x := "flag") (v := .int ((2 ^ i : Nat) : Int)) (by kernel_rfl) (by kernel_rfl) (pt2_1 acc X hi) (by kernel_rfl)) ?_))
  rcases hfl with rfl | rfl
  · exact .brk k
  · exact .cons k .nil
theorem pf2_skip (acc : List V) (F : Nat) {i : Nat} (hi : i < 32) (h : F &&& 2 ^ i = 0) : TurnS (CG base2 G) (fnGm pf2) pl2 (SF acc (F : Int)) (.int (i : Int)) .next (SF acc (F : Int)) :=
  pf2_pre acc F hi (.if (by kernel_rfl) false (.is (by rw [and_cast, h]; rfl) (pt2_2 acc F i)) (fun h => nomatch h) fun _ => .calc ["names"] (by kernel_rfl)) (.inr rfl)
theorem pf2_take (acc : List V) (F : Nat) {i m : Nat} (hi : i < 32) (ha : acc.length < 1000) (h : F = 2 ^ i + 2 ^ (i + 1) * m) : TurnS (CG base2 G) (fnGm pf2) pl2 (SF acc (F : Int)) (.int (i : Int)) (if m = 0 then .brk else .next) (SF (acc ++ [sv (nmC i)]) ((2 ^ (i + 1) * m : Nat) : Int)) := by
  refine pf2_pre acc F hi (.if (by kernel_rfl) true (.is ?_ (pt2_2 acc F i)) (fun _ => .to (show stB (pb2 1) = [pc2 0, pc2 1, pc2 2] by kernel_rfl) ?_) fun h => nomatch h) (by by_cases hm : m = 0 <;> simp [hm])
  · rw [and_cast, mask_yes h]; exact nat_ne (Nat.ne_of_gt (Nat.two_pow_pos i))
  refine .cons (σ₁ := SE (acc ++ [sv (nmC i)]) (F : Int) i) (.append (i := 1) (by kernel_rfl) (by kernel_rfl) (by kernel_rfl) (.calc (by kernel_rfl)) (pt2_3 acc F hi) (by kernel_rfl) (Nat.lt_trans ha (by decide)) (Le.refl _)) ?_
  have q4 := pt2_4 (G := G) (acc ++ [sv (nmC i)]) (F : Int) i
  rw [xor_yes h] at q4
  have q5 := pt2_5 (G := G) (acc ++ [sv (nmC i)]) ((2 ^ (i + 1) * m : Nat) : Int)
  refine .cons q4 ?_
  by_cases hm : m = 0
  · rw [if_pos hm]
    exact .brk (.if (by kernel_rfl) true (.is (by rw [hm]; rfl) q5) (fun _ => .calc ["names"] (by kernel_rfl)) fun h => nomatch h)
  · rw [if_neg hm]
    exact .cons (.if (by kernel_rfl) false (.is (by rw [nat_ne (Nat.mul_ne_zero (Nat.ne_of_gt (Nat.two_pow_pos _)) hm)]; rfl) q5) (fun h => nomatch h) fun _ => .calc ["names"] (by kernel_rfl)) .nil
/-- the whole loop -/
theorem pf2_loop : ∀ (j k : Nat) (ps : List Nat) (acc : List V), k + j = 32 → ps ≠ [] → ps.Pairwise (· < ·) → (∀ p ∈ ps, k ≤ p ∧ p < 32) → acc.length + ps.length < 1000 →
    ForS (CG base2 G) (fnGm pf2) pl2 (rng k j) (SF acc ((bsum ps : Nat) : Int)) .next (SF (acc ++ acS ps) 0)
  | _, k, [], acc, hk, h0, h1, h2, h3 => absurd rfl h0
  | 0, k, p :: ps, acc, hk, h0, h1, h2, h3 => absurd (h2 p (List.mem_cons_self ..)) (by omega)
  | j + 1, k, p :: ps, acc, hk, h0, h1, h2, h3 => by
    have hp := h2 p (List.mem_cons_self ..)
    have h1' := List.pairwise_cons.mp h1
    rw [List.length_cons] at h3
    by_cases e : k = p
    · subst e
      obtain ⟨m, hm⟩ := bsum_mul ps (k + 1) fun q hq => h1'.1 q hq
      have hF : bsum (k :: ps) = 2 ^ k + 2 ^ (k + 1) * m := by rw [bsum, hm]
      have t := pf2_take (G := G) acc (bsum (k :: ps)) (m := m) hp.2 (Nat.lt_of_le_of_lt (Nat.le_add_right _ _) h3) hF
      by_cases hm0 : m = 0
      · have hps : ps = [] := Classical.byContradiction fun q => bsum_pos q (by rw [hm, hm0, Nat.mul_zero])
        subst hps
        rw [if_pos hm0, hm0, Nat.mul_zero] at t
        exact ForS.brk t
      · have hps : ps ≠ [] := fun q => by
          subst q
          exact Nat.mul_ne_zero (Nat.ne_of_gt (Nat.two_pow_pos (k + 1))) hm0 hm.symm
        rw [if_neg hm0, ← hm] at t
        have ih := pf2_loop j (k + 1) ps (acc ++ [sv (nmC k)]) (by omega) hps h1'.2 (fun q hq => ⟨h1'.1 q hq, (h2 q (List.mem_cons_of_mem _ hq)).2⟩) (by rw [List.length_append, List.length_singleton]; omega)
        rw [List.append_assoc] at ih
        exact ForS.cons t ih
    · have hlt : ∀ q ∈ p :: ps, k + 1 ≤ q := fun q hq => by
        rcases List.mem_cons.mp hq with h | h
        · omega
        · have := h1'.1 q h; omega
      obtain ⟨m, hm⟩ := bsum_mul (p :: ps) (k + 1) hlt
      exact ForS.cons (pf2_skip acc (bsum (p :: ps)) (by omega) (mask_no hm)) (pf2_loop j (k + 1) (p :: ps) acc (by omega) h0 h1 (fun q hq => ⟨hlt q hq, (h2 q hq).2⟩) h3)
theorem sum_le : ∀ (ps : List Nat), (∀ p ∈ ps, p < 32) → ((ps.map fun p => (⟨⟨nmC p⟩⟩ : Str)).map Str.length).sum ≤ 18 * ps.length
  | [], _ => Nat.le_refl _
  | p :: ps, h => by
    have ih := sum_le ps fun q hq => h q (List.mem_cons_of_mem _ hq)
    have h1 := (nm_clean p (h p (List.mem_cons_self ..))).2
    show (nmC p).length + _ ≤ 18 * (ps.length + 1)
    exact Nat.mul_succ 18 ps.length ▸ Nat.add_comm .. ▸ Nat.add_le_add ih h1
theorem len32 {ps : List Nat} (h1 : ps.Pairwise (· < ·)) (h2 : ∀ p ∈ ps, p < 32) : ps.length ≤ 32 :=
  List.Nodup.length_le_of_subset (l₁ := ps) (l₂ := List.range 32) (h1.imp fun h => Nat.ne_of_lt h) fun p hp => List.mem_range.mpr (h2 p hp)
theorem acS_strs (ps : List Nat) : acS ps = (ps.map fun p => (⟨⟨nmC p⟩⟩ : Str)).map .str := (List.map_map ..).symm
theorem strs_map (ps : List Nat) : (ps.map fun p => (⟨⟨nmC p⟩⟩ : Str)) = (ps.map nmC).map fun t => ⟨⟨t⟩⟩ := by rw [List.map_map]; rfl
theorem pf2_body {ps : List Nat} (h0 : ps ≠ []) (h1 : ps.Pairwise (· < ·)) (h2 : ∀ p ∈ ps, p < 32) : FnOK (CG base2 G) pf2 [.int ((bsum ps : Nat) : Int)] (sv (jn (ps.map nmC))) := by
  have hl := len32 h1 h2
  refine FnOK.ret (σ' := SF (acS ps) 0) (fr [("flags", .v (.int ((bsum ps : Nat) : Int)))] []) (by kernel_rfl) (.to (show pf2.body = [stAt pf2.body 0, pl2, stAt pf2.body 2] by kernel_rfl) ?_)
  refine .cons (σ₁ := SF [] ((bsum ps : Nat) : Int)) (.calc ["names"] (by kernel_rfl)) ?_
  refine .cons (σ₁ := SF (acS ps) 0) (.for (vs := rng 0 32) (tup := false) (by kernel_rfl) (by kernel_rfl) (.calc (by kernel_rfl)) (pf2_loop 32 0 ps [] rfl h0 h1 (fun p hp => ⟨Nat.zero_le _, h2 p hp⟩) (by rw [List.length_nil]; omega))) ?_
  refine .ret (.return (by kernel_rfl) (E.meth (m := "join") (od := .v (.str comma)) (ds := [.loc 1]) (by kernel_rfl) (by kernel_rfl) (.calc (by kernel_rfl)) (.calc (by kernel_rfl)) ?_))
  have hs := sum_le ps h2
  have j : MethOK (SF (acS ps) 0) (.v (.str comma)) "join" [.loc 1] (.str (Str.join comma (ps.map fun p => (⟨⟨nmC p⟩⟩ : Str)))) := meth_join (lst_loc (by kernel_rfl)) (acS_strs ps) (by
    rw [List.length_map]
    show _ + 2 * _ < 1000000
    omega)
  rw [strs_map, join_jn] at j
  exact @j
theorem pf2_ok (d : Nat) {ps : List Nat} (h0 : ps ≠ []) (h1 : ps.Pairwise (· < ·)) (h2 : ∀ p ∈ ps, p < 32) : FF defs2 base2 (d + 1) 22 [.int ((bsum ps : Nat) : Int)] (sv (jn (ps.map nmC))) :=
  FnOK.step (f := pf2) (by kernel_rfl) (pf2_body h0 h1 h2)
end Mine
end
section
open PySem
namespace Mine
/-- the exchange at k -/
noncomputable def chg {α : Type} (row : List α) (k : Nat) : List α := row.take k ++ (row.drop (k + 1)).take 1 ++ (row.drop k).take 1 ++ row.drop (k + 2)
noncomputable def itAt (row : List Int) (k : Nat) : Int := (row[k]?).getD 0
/-- a letter's step -/
noncomputable def stp (row : List Int) (k : Nat) : List Int := if itAt row k < itAt row (k + 1) then chg row k else row
noncomputable def led (ls : List Nat) : List Int := ls.foldl stp [0, 1, 2, 3, 4]
/-- the same in natural numbers -/
noncomputable def itN (row : List Nat) (k : Nat) : Nat := (row[k]?).getD 0
noncomputable def stN (row : List Nat) (k : Nat) : List Nat := if itN row k < itN row (k + 1) then chg row k else row
noncomputable def ldN (ls : List Nat) : List Nat := ls.foldl stN [0, 1, 2, 3, 4]
noncomputable abbrev up (l : List Nat) : List Int := l.map fun (k : Nat) => (k : Int)
theorem up_it (row : List Nat) (k : Nat) : itAt (up row) k = (itN row k : Int) := by
  unfold itAt itN
  rw [List.getElem?_map]
  cases row[k]? <;> rfl
theorem up_chg (row : List Nat) (k : Nat) : chg (up row) k = up (chg row k) := by
  unfold chg; simp [List.map_take, List.map_drop]
theorem up_stp (row : List Nat) (k : Nat) : stp (up row) k = up (stN row k) := by
  unfold stp stN
  rw [up_it, up_it, up_chg]
  by_cases h : itN row k < itN row (k + 1)
  · rw [if_pos h, if_pos (by omega)]
  · rw [if_neg h, if_neg (by omega)]
theorem up_fold : ∀ (ls : List Nat) (row : List Nat), ls.foldl stp (up row) = up (ls.foldl stN row)
  | [], row => rfl
  | k :: ls, row => by
    rw [List.foldl_cons, List.foldl_cons, up_stp, up_fold ls]
theorem up_led (ls : List Nat) : led ls = up (ldN ls) := up_fold ls [0, 1, 2, 3, 4]
noncomputable abbrev nv (l : List Nat) : List V := l.map fun (k : Nat) => V.int (k : Int)
theorem nv_up (l : List Nat) : iv (up l) = nv l := by simp
/-- all words that lead to a row, by its falls -/
noncomputable def ways : Nat → List Nat → List (List Nat)
  | 0, _ => [[]]
  | d + 1, row =>
    let ws := (List.range 4).flatMap fun k => if itN row (k + 1) < itN row k then (ways d (chg row k)).map fun w => w ++ [97 + k] else []
    if ws.isEmpty then [[]] else ws
/-- the rows that six letters lead to, by their length -/
noncomputable def R6 : List (List Nat) := [[0, 1, 2, 3, 4], [1, 0, 2, 3, 4], [0, 2, 1, 3, 4], [0, 1, 3, 2, 4], [0, 1, 2, 4, 3], [1, 2, 0, 3, 4], [1, 0, 3, 2, 4], [1, 0, 2, 4, 3], [2, 0, 1, 3, 4], [0, 2, 3, 1, 4], [0, 2, 1, 4, 3], [0, 3, 1, 2, 4], [0, 1, 3, 4, 2], [0, 1, 4, 2, 3], [2, 1, 0, 3, 4], [1, 2, 3, 0, 4], [1, 2, 0, 4, 3], [1, 3, 0, 2, 4], [1, 0, 3, 4, 2], [1, 0, 4, 2, 3], [2, 0, 3, 1, 4], [2, 0, 1, 4, 3], [0, 3, 2, 1, 4], [0, 2, 3, 4, 1], [0, 2, 4, 1, 3], [3, 0, 1, 2, 4], [0, 3, 1, 4, 2], [0, 1, 4, 3, 2], [0, 4, 1, 2, 3], [2, 1, 3, 0, 4], [2, 1, 0, 4, 3], [1, 3, 2, 0, 4], [1, 2, 3, 4, 0], [1, 2, 4, 0, 3], [3, 1, 0, 2, 4], [1, 3, 0, 4, 2], [1, 0, 4, 3, 2], [1, 4, 0, 2, 3], [2, 3, 0, 1, 4], [2, 0, 3, 4, 1], [2, 0, 4, 1, 3], [3, 0, 2, 1, 4], [0, 3, 2, 4, 1], [0, 2, 4, 3, 1], [0, 4, 2, 1, 3], [3, 0, 1, 4, 2], [0, 3, 4, 1, 2], [0, 4, 1, 3, 2], [4, 0, 1, 2, 3], [2, 3, 1, 0, 4], [2, 1, 3, 4, 0], [2, 1, 4, 0, 3], [3, 1, 2, 0, 4], [1, 3, 2, 4, 0], [1, 2, 4, 3, 0], [1, 4, 2, 0, 3], [3, 1, 0, 4, 2], [1, 3, 4, 0, 2], [1, 4, 0, 3, 2], [4, 1, 0, 2, 3], [3, 2, 0, 1, 4], [2, 3, 0, 4, 1], [2, 0, 4, 3, 1], [2, 4, 0, 1, 3], [3, 0, 2, 4, 1], [0, 3, 4, 2, 1], [0, 4, 2, 3, 1], [4, 0, 2, 1, 3], [3, 0, 4, 1, 2], [0, 4, 3, 1, 2], [4, 0, 1, 3, 2], [3, 2, 1, 0, 4], [2, 3, 1, 4, 0], [2, 1, 4, 3, 0], [2, 4, 1, 0, 3], [3, 1, 2, 4, 0], [1, 3, 4, 2, 0], [1, 4, 2, 3, 0], [4, 1, 2, 0, 3], [3, 1, 4, 0, 2], [1, 4, 3, 0, 2], [4, 1, 0, 3, 2], [3, 2, 0, 4, 1], [2, 3, 4, 0, 1], [2, 4, 0, 3, 1], [4, 2, 0, 1, 3], [3, 0, 4, 2, 1], [0, 4, 3, 2, 1], [4, 0, 2, 3, 1], [3, 4, 0, 1, 2], [4, 0, 3, 1, 2]]
noncomputable abbrev R4 : List (List Nat) := R6.take 49
theorem R_step : ∀ n ∈ [(1, 5), (5, 14), (14, 29), (29, 49), (49, 71), (71, 91)], ∀ r ∈ R6.take n.1, ∀ k, k < 4 → stN r k ∈ R6.take n.2 := by decide +kernel
end Mine
end
section
open PySem
namespace Mine
variable {G : Addr → List V → V → Prop}
theorem fmod_nat (k m : Nat) : (k : Int).fmod (m : Int) = ((k % m : Nat) : Int) := Int.fmod_eq_emod_of_nonneg _ (Int.natCast_nonneg m)
theorem int_is {C : Cx} {Γ : Gm} {σ : Sg} {e : Expr} {x y : Int} (h : x = y) (k : Ev C Γ σ e (.v (.int x))) : Ev C Γ σ e (.v (.int y)) := h ▸ k
/-! _law_seeds -/
noncomputable def sd2 : Fn := fnOf body2 50 "_law_seeds"
noncomputable def sl2 : Stmt := stAt sd2.body 1
noncomputable def SS (row : List Int) : Sg := fr [("seeds", .loc 1)] [iv row]
noncomputable def SS1 (row : List Int) (k : Nat) (x : Int) : Sg := fr [("seeds", .loc 1), ("k", .v (.int k)), ("x", .v (.int x))] [iv row]
theorem sd2_turn {row : List Int} (hr : row.length = 15) (k : Nat) (x : Int) : ∃ row', row'.length = 15 ∧ TurnS (CG base2 G) (fnGm sd2) sl2 (SS row) (.tup [.int k, .int x]) .next (SS row') := by
  have hk : k % 15 < row.length := hr.symm ▸ (Nat.mod_lt _ (by decide) : k % 15 < 15)
  refine ⟨row.set (k % 15) (row[k % 15] + x), (List.length_set ..).trans hr, .of (σ₁ := SS1 row k x) (by kernel_rfl) (.to (show stB sl2 = [stAt (stB sl2) 0] by kernel_rfl) (.cons (σ₁ := SS (row.set (k % 15) (row[k % 15] + x))) ?_ .nil))⟩
  exact .augPut (op := .Add) (j := 1) (k := k % 15) (vs := iv row) (a := row[k % 15]) (b := x) (by kernel_rfl) (by kernel_rfl) (.calc (by kernel_rfl)) (int_is (fmod_nat k 15) (.calc (by kernel_rfl))) (by kernel_rfl) (iv_at (List.getElem?_eq_getElem hk)) (.calc (by kernel_rfl)) (aug_add _ _) (.of_seen (by rw [← iv_set]; kernel_rfl))
theorem sd2_loop : ∀ (vs : List Int) (k : Nat) (row : List Int), row.length = 15 → ∃ row', row'.length = 15 ∧ ForS (CG base2 G) (fnGm sd2) sl2 (enumL (iv vs) k) (SS row) .next (SS row')
  | [], k, row, h => ⟨row, h, ForS.done (by kernel_rfl)⟩
  | x :: vs, k, row, h =>
    let ⟨r1, h1, t⟩ := sd2_turn (G := G) h k x
    let ⟨r2, h2, l⟩ := sd2_loop vs (k + 1) r1 h1
    ⟨r2, h2, ForS.cons t l⟩
theorem sd2_ok (d : Nat) (vs : List Int) : ∃ row, row.length = 15 ∧ FF defs2 base2 (d + 1) 50 [.lst (iv vs)] (.lst (iv row)) := by
  obtain ⟨row, h, l⟩ := sd2_loop (G := FF defs2 base2 d) vs 0 [0, 1, 0, 3, 1, 3, 0, 2, 0, 1, 3, 0, 5, 1, 2] rfl
  refine ⟨row, h, FnOK.step (f := sd2) (by kernel_rfl) (FnOK.ret (σ' := SS row) (fr [("script", .v (.lst (iv vs)))]) (by kernel_rfl) (.to (show sd2.body = [stAt sd2.body 0, sl2, stAt sd2.body 2] by kernel_rfl) ?_))⟩
  refine .cons (σ₁ := fr [("script", .v (.lst (iv vs))), ("seeds", .loc 1)] [iv [0, 1, 0, 3, 1, 3, 0, 2, 0, 1, 3, 0, 5, 1, 2]]) (.calc ["seeds"] (by kernel_rfl)) ?_
  refine .cons (σ₁ := SS row) (.for (vs := enumL (iv vs) 0) (tup := true) (by kernel_rfl) (by kernel_rfl) (.calc (by kernel_rfl)) (ForS.weak (.of_seen (by kernel_rfl)) l)) ?_
  exact .ret (.calc ["seeds"] (by kernel_rfl))
/-! _law_changed -/
noncomputable def ch2 : Fn := fnOf body2 62 "_law_changed"
theorem ch2_all (a b c d e : Int) : ((List.range 4).map fun (k : Nat) => (fnC (CG base2 G) (noF (CG base2 G)) [] ch2 [.lst (iv [a, b, c, d, e]), .int k]).map (·.1)) = (List.range 4).map fun (k : Nat) => some (.lst (iv (chg [a, b, c, d, e] k))) := by kernel_rfl
theorem five {P : List Int → Prop} {row : List Int} (h : row.length = 5) (k : ∀ a b c d e, P [a, b, c, d, e]) : P row :=
  match row, h with
  | [a, b, c, d, e], _ => k a b c d e
theorem at4 {α : Type} {f g : Nat → α} (h : ((List.range 4).map f) = (List.range 4).map g) {i : Nat} (hi : i < 4) : f i = g i := List.map_inj_left.mp h i (List.mem_range.mpr hi)
noncomputable abbrev ChOK (G : Addr → List V → V → Prop) : Prop := ∀ (row : List Int) (k : Nat), row.length = 5 → k < 4 → G 62 [.lst (iv row), .int k] (.lst (iv (chg row k)))
theorem ch2_ok (d : Nat) : ChOK (FF defs2 base2 (d + 1)) := fun row k h hk => five (P := fun row => FF defs2 base2 (d + 1) 62 [.lst (iv row), .int k] (.lst (iv (chg row k)))) h fun a b c e f =>
  FnOK.step (f := ch2) (by kernel_rfl) (.calc [] (at4 (ch2_all a b c e f) hk))
theorem chg_len {row : List Int} (h : row.length = 5) {k : Nat} (hk : k < 4) : (chg row k).length = 5 := five (P := fun row => (chg row k).length = 5) h fun a b c e f => at4 (f := fun k => (chg [a, b, c, e, f] k).length) (g := fun _ => 5) rfl hk
theorem stp_len {row : List Int} (h : row.length = 5) {k : Nat} (hk : k < 4) : (stp row k).length = 5 := by
  unfold stp
  by_cases q : itAt row k < itAt row (k + 1)
  · rw [if_pos q]; exact chg_len h hk
  · rw [if_neg q]; exact h
/-! _law_led -/
noncomputable def ld2 : Fn := fnOf body2 69 "_law_led"
noncomputable def ll2 : Stmt := stAt ld2.body 1
noncomputable def SL (row : List Int) : Sg := fr [("row", .v (.lst (iv row)))]
noncomputable def SLk (row : List Int) (k : Nat) : Sg := fr [("row", .v (.lst (iv row))), ("k", .v (.int k))]
noncomputable abbrev lt2 : Stmt := stAt (stB ll2) 0
theorem ld2_tst (a b c d e : Int) : ((List.range 4).map fun (k : Nat) => (evB (CG base2 G) (noF (CG base2 G)) 60 (fnGm ld2) (SLk [a, b, c, d, e] k) (stT lt2)).map (·.1)) = (List.range 4).map fun (k : Nat) => some (decide (itAt [a, b, c, d, e] k < itAt [a, b, c, d, e] (k + 1))) := by kernel_rfl
theorem ld2_turn (hG : ChOK G) {row : List Int} (h : row.length = 5) {k : Nat} (hk : k < 4) : TurnS (CG base2 G) (fnGm ld2) ll2 (SL row) (.int k) .next (SL (stp row k)) := by
  refine .of (σ₁ := SLk row k) (by kernel_rfl) (.to (show stB ll2 = [lt2] by kernel_rfl) (.cons ?_ .nil))
  have t : Bt (CG base2 G) (fnGm ld2) (SLk row k) (stT lt2) (decide (itAt row k < itAt row (k + 1))) := five (P := fun row => Bt (CG base2 G) (fnGm ld2) (SLk row k) (stT lt2) (decide (itAt row k < itAt row (k + 1)))) h fun a b c e f => .calc (at4 (ld2_tst a b c e f) hk)
  unfold stp
  by_cases q : itAt row k < itAt row (k + 1)
  · rw [if_pos q]
    refine .if (by kernel_rfl) true (.is (decide_eq_true q) t) (fun _ => .to (show stB lt2 = [stAt (stB lt2) 0] by kernel_rfl) (.cons (.set (x := "row") (v := .lst (iv (chg row k))) (by kernel_rfl) (by kernel_rfl) ?_ (by kernel_rfl)) .nil)) fun q => nomatch q
    exact E.call (f := "_law_changed") (a := 62) (vs := [.lst (iv row), .int k]) (by kernel_rfl) (.calc (by kernel_rfl)) (.calc (by kernel_rfl)) (hG row k h hk)
  · rw [if_neg q]
    exact .if (by kernel_rfl) false (.is (decide_eq_false q) t) (fun q => nomatch q) fun _ => .calc [] (by kernel_rfl)
theorem ld2_loop (hG : ChOK G) : ∀ (ls : List Nat) (row : List Int), row.length = 5 → (∀ k ∈ ls, k < 4) → ForS (CG base2 G) (fnGm ld2) ll2 (nv ls) (SL row) .next (SL (ls.foldl stp row))
  | [], row, h, hk => ForS.done (by kernel_rfl)
  | k :: ls, row, h, hk => ForS.cons (ld2_turn hG h (hk k (List.mem_cons_self ..))) (ld2_loop hG ls _ (stp_len h (hk k (List.mem_cons_self ..))) fun q hq => hk q (List.mem_cons_of_mem _ hq))
theorem ld2_nat (d : Nat) {ls : List Nat} (hk : ∀ k ∈ ls, k < 4) : FF defs2 base2 (d + 2) 69 [.lst (nv ls)] (.lst (nv (ldN ls))) := by
  rw [← nv_up (ldN ls), ← up_led]
  refine FnOK.step (f := ld2) (by kernel_rfl) (FnOK.ret (σ' := SL (led ls)) (fr [("letters", .v (.lst (nv ls)))]) (by kernel_rfl) (.to (show ld2.body = [stAt ld2.body 0, ll2, stAt ld2.body 2] by kernel_rfl) ?_))
  refine .cons (σ₁ := fr [("letters", .v (.lst (nv ls))), ("row", .v (.lst (iv [0, 1, 2, 3, 4])))]) (.calc [] (by kernel_rfl)) ?_
  refine .cons (σ₁ := SL (led ls)) (.for (vs := nv ls) (tup := false) (by kernel_rfl) (by kernel_rfl) (.calc (by kernel_rfl)) (ForS.weak (.of_seen (by kernel_rfl)) (ld2_loop (ch2_ok d) ls [0, 1, 2, 3, 4] rfl hk))) ?_
  exact .ret (.calc [] (by kernel_rfl))
/-! _law_met -/
noncomputable def mt2 : Fn := fnOf body2 81 "_law_met"
noncomputable def ms2 (i : Nat) : Stmt := stAt mt2.body i
/-- what the project's function is asked and tells -/
noncomputable def more (w t : List Nat) : Int := 2 * ((t.length : Int) - (w.length : Int))
noncomputable def toldP (w t : List Nat) (odd : Nat) : Int := if odd = 1 then levP w t (more w t + 1) else levP t w (more w t)
noncomputable def Smt (w t : List Nat) (odd : Nat) (more : List (Str × D)) : Sg := fr (more ++ ([("way", .v (sv w)), ("text", .v (sv t)), ("odd", .v (.int odd))] : List (Str × D)))
noncomputable abbrev mx2 (i : Nat) : Expr := kid (stT (ms2 2)) i
theorem met_e3 {w t : List Nat} {odd : Nat} {M T : Int} (ho : odd < 2) (h2 : odd = 1 → T % 2 = 0) : Bt (CG base2 G) (fnGm mt2) (Smt w t odd [("more", .v (.int M)), ("told", .v (.int T))]) (mx2 2) false := by
  by_cases h : odd = 1
  · subst h
    have q3 : (T.fmod 2 == 1) = false := by rw [Int.fmod_eq_emod_of_nonneg _ (by decide : (0 : Int) ≤ 2), h2 rfl]; rfl
    exact .is (by rw [q3]; rfl) (B.bool (op := .And) (es := [kid (mx2 2) 0, kid (mx2 2) 1]) (by kernel_rfl) (.and (t := true) (.calc (by kernel_rfl)) fun _ => .and (t := T.fmod 2 == 1) (.calc (by kernel_rfl)) fun _ => .nil .And))
  · cases (show odd = 0 by omega)
    exact .calc (by kernel_rfl)
noncomputable abbrev LevOK (G : Addr → List V → V → Prop) : Prop := ∀ {a b : List Nat} {mc : Int}, (∀ x ∈ a, x ∈ Sg0) → (∀ x ∈ b, x ∈ Sg0) → a.length < 900 → b.length < 900 → G 43 [sv a, sv b, .int mc] (.int (levP a b mc))
theorem met_body (hG : LevOK G) {w t : List Nat} {odd : Nat} (hw : ∀ x ∈ w, x ∈ Sg0) (ht : ∀ x ∈ t, x ∈ Sg0) (lw : w.length < 900) (lt : t.length < 900) (ho : odd < 2)
    (h1 : more w t ≤ toldP w t odd) (h2 : odd = 1 → toldP w t odd % 2 = 0) : FnOK (CG base2 G) mt2 [sv w, sv t, .int odd] (.bool (toldP w t odd == more w t)) := by
  refine FnOK.ret (σ' := Smt w t odd [("more", .v (.int (more w t))), ("told", .v (.int (toldP w t odd)))]) (Smt w t odd []) (by kernel_rfl) (.to (show mt2.body = [ms2 0, ms2 1, ms2 2, ms2 3] by kernel_rfl) ?_)
  refine .cons (σ₁ := Smt w t odd [("more", .v (.int (more w t)))]) (.set (x := "more") (v := .int (more w t)) (by kernel_rfl) (by kernel_rfl) ?_ (by kernel_rfl)) ?_
  · exact E.mul (x := 2) (y := (t.length : Int) - (w.length : Int)) (by kernel_rfl) (.calc (by kernel_rfl)) (.calc (by kernel_rfl)) (by decide)
  refine .cons (σ₁ := Smt w t odd [("more", .v (.int (more w t))), ("told", .v (.int (toldP w t odd)))]) (.set (x := "told") (v := .int (toldP w t odd)) (by kernel_rfl) (by kernel_rfl) ?_ (by kernel_rfl)) ?_
  · refine E.ifE (c := (odd : Int) != 0) (by kernel_rfl) (.calc (by kernel_rfl)) (fun q => ?_) (fun q => ?_)
    · have : odd = 1 := by
        have q : ¬ (odd : Int) = 0 := bne_iff_ne.mp q
        omega
      unfold toldP; rw [if_pos this]
      exact E.call (f := "_levenshtein_distance") (a := 43) (vs := [sv w, sv t, .int (more w t + 1)]) (by kernel_rfl) (.calc (by kernel_rfl)) (.calc (by kernel_rfl)) (hG hw ht lw lt)
    · have : odd ≠ 1 := fun e => by subst e; exact nomatch q
      unfold toldP; rw [if_neg this]
      exact E.call (f := "_levenshtein_distance") (a := 43) (vs := [sv t, sv w, .int (more w t)]) (by kernel_rfl) (.calc (by kernel_rfl)) (.calc (by kernel_rfl)) (hG ht hw lt lw)
  generalize toldP w t odd = T at h1 h2 ⊢
  generalize more w t = M at h1 ⊢
  refine .cons (σ₁ := Smt w t odd [("more", .v (.int M)), ("told", .v (.int T))]) (.if (by kernel_rfl) false ?_ (fun h => nomatch h) (fun _ => .calc [] (by kernel_rfl))) (.ret (.calc [] (by kernel_rfl)))
  exact .is (by rw [decide_eq_false (Int.not_lt.mpr h1)]; rfl) (B.bool (op := .Or) (es := [mx2 0, mx2 1, mx2 2]) (by kernel_rfl) (.or (t := false) (.calc (by kernel_rfl)) fun _ => .or (t := decide (T < M)) (.calc (by kernel_rfl)) fun _ => .or (met_e3 ho h2) fun _ => .nil .Or))
theorem met_ok (d : Nat) {w t : List Nat} {odd : Nat} (hw : ∀ x ∈ w, x ∈ Sg0) (ht : ∀ x ∈ t, x ∈ Sg0) (lw : w.length < 900) (lt : t.length < 900) (ho : odd < 2)
    (h1 : more w t ≤ toldP w t odd) (h2 : odd = 1 → toldP w t odd % 2 = 0) : FF defs2 base2 (d + 3) 81 [sv w, sv t, .int odd] (.bool (toldP w t odd == more w t)) :=
  FnOK.step (f := mt2) (by kernel_rfl) (met_body (fun ha hb la lb => lev2_ok d ha hb la lb) hw ht lw lt ho h1 h2)
end Mine
end
section
open PySem
namespace Mine
/-- sorted naturals -/
noncomputable def insN (x : Nat) : List Nat → List Nat
  | [] => [x]
  | y :: r => if x ≤ y then x :: y :: r else y :: insN x r
noncomputable def srt : List Nat → List Nat
  | [] => []
  | x :: r => insN x (srt r)
theorem ins_up (x : Nat) : ∀ (l : List Nat), insI (x : Int) (up l) = up (insN x l)
  | [] => rfl
  | y :: r => by
    simp only [List.map_cons, insI, insN]
    by_cases h : x ≤ y
    · rw [if_pos h, if_pos (by omega)]; rfl
    · rw [if_neg h, if_neg (by omega), ins_up x r]; rfl
theorem srt_up : ∀ (l : List Nat), sortI (up l) = up (srt l)
  | [] => rfl
  | x :: r => by
    simp only [List.map_cons, sortI, srt]
    rw [srt_up r, ins_up]
theorem ins_perm (x : Nat) : ∀ (l : List Nat), (insN x l).Perm (x :: l)
  | [] => .refl _
  | y :: r => by
    simp only [insN]
    split
    · exact .refl _
    · exact (List.Perm.cons y (ins_perm x r)).trans (List.Perm.swap x y r)
theorem srt_perm : ∀ (l : List Nat), (srt l).Perm l
  | [] => .refl _
  | x :: r => (ins_perm x (srt r)).trans (List.Perm.cons x (srt_perm r))
theorem ins_sorted (x : Nat) : ∀ (l : List Nat), l.Pairwise (· ≤ ·) → (insN x l).Pairwise (· ≤ ·)
  | [], _ => by simp [insN]
  | y :: r, h => by
    have h' := List.pairwise_cons.mp h
    simp only [insN]
    split
    · rename_i q
      refine List.pairwise_cons.mpr ⟨fun z hz => ?_, h⟩
      rcases List.mem_cons.mp hz with e | hz
      · omega
      · have := h'.1 z hz; omega
    · rename_i q
      refine List.pairwise_cons.mpr ⟨fun z hz => ?_, ins_sorted x r h'.2⟩
      rcases List.mem_cons.mp ((ins_perm x r).mem_iff.mp hz) with e | hz
      · omega
      · exact h'.1 z hz
theorem srt_sorted : ∀ (l : List Nat), (srt l).Pairwise (· ≤ ·)
  | [] => by simp [srt]
  | x :: r => ins_sorted x _ (srt_sorted r)
theorem srt_strict {l : List Nat} (h : l.Nodup) : (srt l).Pairwise (· < ·) := by
  have h1 := srt_sorted l
  have h2 : (srt l).Nodup := (srt_perm l).nodup_iff.mpr h
  exact (h1.and h2).imp fun ⟨a, b⟩ => by omega
theorem srt_len (l : List Nat) : (srt l).length = l.length := (srt_perm l).length_eq
theorem bsum_perm {l l' : List Nat} (h : l.Perm l') : bsum l = bsum l' := by
  induction h with
  | nil => rfl
  | cons x _ ih => simp [bsum, ih]
  | swap x y l => simp only [bsum]; omega
  | trans _ _ ih1 ih2 => exact ih1.trans ih2
theorem bsum_sum : ∀ (l : List Nat), ((l.map fun p => ((2 ^ p : Nat) : Int))).sum = ((bsum l : Nat) : Int)
  | [] => rfl
  | p :: l => by
    simp only [List.map_cons, List.sum_cons, bsum]
    rw [bsum_sum l]; omega
theorem slice_toN {α : Type} (l : List α) (k : Nat) : sliceL l none (some (k : Int)) = l.take k := by
  unfold sliceL
  simp only [Option.elim_some, Option.elim_none, List.drop_zero, Nat.sub_zero]
  have e : clipAt l.length (k : Int) = min k l.length := by unfold clipAt; omega
  rw [e]
  by_cases h : k ≤ l.length
  · rw [Nat.min_eq_left h]
  · rw [Nat.min_eq_right (by omega), List.take_length, List.take_of_length_le (by omega)]
variable {C : Cx} {G : Addr → List V → V → Prop} {Γ : Gm} {σ σ₁ σ' : Sg} {e : Expr} {v : V}
/-- a turn by one look: target stored, no test -/
theorem Turn.of {b : Nat} {x y : V} (σ₁ : Sg) (h1 : (asgC Γ b σ (cTgt e) x).map (fun r => (seen σ r.1, seen σ₁ r.1)) = some (full σ, full σ₁)) (h2 : Ev C Γ σ₁ (cElt e) (.v y)) : Turn C Γ b σ e x y :=
  let ⟨_, q, h⟩ := calc2 (f := fun r => (seen σ r, seen σ₁ r)) h1; ⟨_, q, .of_seen (Prod.mk.inj h).1, h2.weak (.of_seen (Prod.mk.inj h).2)⟩
/-- the flags' words cut apart again -/
theorem split_ok {ps : List Nat} (h0 : ps ≠ []) (hl : ps.length ≤ 32) (h2 : ∀ p ∈ ps, p < 32) : MethOK σ (.v (sv (jn (ps.map nmC)))) "split" [.v (.str comma)] (.lst (acS ps)) := by
  have hs : Txt.split ⟨⟨jn (ps.map nmC)⟩⟩ comma = (ps.map nmC).map fun t => (⟨⟨t⟩⟩ : Str) := split_jn (fun q => h0 (List.map_eq_nil_iff.mp q)) fun t ht => by
    obtain ⟨p, hp, rfl⟩ := List.mem_map.mp ht
    exact (nm_clean p (h2 p hp)).1
  have j : MethOK σ (.v (sv (jn (ps.map nmC)))) "split" [.v (.str comma)] (.lst ((Txt.split ⟨⟨jn (ps.map nmC)⟩⟩ comma).map .str)) := meth_split ⟨by decide, by
    rw [hs, List.length_map, List.length_map]; exact Nat.lt_of_le_of_lt hl (by decide), by
    rw [hs, ← strs_map]
    refine List.all_eq_true.mpr fun t ht => ?_
    obtain ⟨p, hp, rfl⟩ := List.mem_map.mp ht
    exact decide_eq_true (Nat.lt_of_le_of_lt (nm_clean p (h2 p hp)).2 (by decide))⟩
  rw [hs, ← strs_map, ← acS_strs] at j
  exact @j
/-- the words of all flags -/
noncomputable abbrev nmV : List V := (List.range 32).map fun p => sv (nmC p)
theorem nm_at {p : Nat} (h : p < 32) : nmV[p]? = some (sv (nmC p)) := List.getElem?_map.trans (congrArg (Option.map fun p => sv (nmC p)) ((List.getElem?_range h)))
theorem nm_idx : ∀ p, p < 32 → idxB (· == (⟨⟨nmC p⟩⟩ : Str)) ((List.range 32).map fun p => (⟨⟨nmC p⟩⟩ : Str)) 0 = some p := by decide +kernel
theorem index_ok {p : Nat} (h : p < 32) {o : D} (ho : LstOK σ o nmV) : MethOK σ o "index" [.v (sv (nmC p))] (.int p) := meth_indexS ho (acS_strs (List.range 32)) (nm_idx p h)
theorem eqs_refl {n : Nat} : ∀ {l : List V}, (∀ x ∈ l, EqOK n x x true) → EqsOK n l l true
  | [], _ => eqs_nil
  | x :: l, h => eqs_cons (h x (List.mem_cons_self ..)) (eqs_refl fun y hy => h y (List.mem_cons_of_mem _ hy))
theorem eq_strs (n : Nat) (ps : List Nat) : EqOK (n + 1) (.lst (acS ps)) (.lst (acS ps)) true := eq_lst (eqs_refl fun x hx => by
  obtain ⟨p, _, rfl⟩ := List.mem_map.mp hx
  exact (beq_self_eq_true (⟨⟨nmC p⟩⟩ : Str)) ▸ eq_ss ⟨⟨nmC p⟩⟩ ⟨⟨nmC p⟩⟩)
theorem two_of {α : Type} {P : α → Prop} {a b : α} (ha : P a) (hb : P b) : ∀ x ∈ [a, b], P x := fun x hx => (List.mem_cons.mp hx).elim (fun h => h ▸ ha) fun h => (List.mem_singleton.mp h) ▸ hb
noncomputable def bl2 : Fn := fnOf body2 91 "_law_below"
noncomputable def bs2 (i : Nat) : Stmt := stAt bl2.body i
noncomputable def bf2 : Stmt := bs2 3
noncomputable def bb2 (i : Nat) : Stmt := stAt (stB bf2) i
noncomputable abbrev cl2 (ps : List Nat) (m : Option D) (told : Option D) : Sg := [.ce (some (.v (.lst (nv ps)))), .ce (some (.v (.lst nmV))), .ce m, .ce told]
noncomputable abbrev pAt (ps : List Nat) (v : Nat) : Nat := (ps[v]?).getD 0
noncomputable def pls (ps row : List Nat) (m : Nat) : List Nat := (row.take m).map (pAt ps)
theorem p_at {ps : List Nat} {v : Nat} (h : v < ps.length) : (nv ps)[v]? = some (.int (pAt ps v : Nat)) := List.getElem?_map.trans (by rw [List.getElem?_eq_getElem h]; unfold pAt; rw [List.getElem?_eq_getElem h]; rfl)
theorem nv_take (l : List Nat) (m : Nat) : sliceL (nv l) none (some (m : Int)) = (l.take m).map fun (k : Nat) => V.int k := (slice_toN _ m).trans List.map_take.symm
noncomputable abbrev mI (m : Nat) : Option D := some (.v (.int (m : Int)))
/-- the state in a turn -/
noncomputable def SW (low high ps : List Nat) (m told : Option D) (more : List (Str × D)) : Sg := .fr (more ++ ([("low", .v (.lst (nv low))), ("high", .v (.lst (nv high)))] : List (Str × D))) :: cl2 ps m told
theorem two_lim : 2 < lim := by decide
theorem le_lim {n k : Nat} (h : n ≤ k) (hk : k < 1000000) : n < lim := Nat.lt_of_le_of_lt h hk
noncomputable abbrev cx2 (ps : List Nat) (m told : Option D) (x : Str) (v : V) : Sg := .fr [] :: cl2 ps m told ++ [.fr [(x, .v v)]]
noncomputable abbrev cy2 (ps : List Nat) (m told : Option D) (x : Str) (v : V) : Sg := .fr [] :: cl2 ps m told ++ [.fr [], .fr [(x, .v v)]]
theorem bl2_row {ps row : List Nat} {m : Nat} (h : ∀ v ∈ row, v < ps.length) (hl : row.length ≤ 5) :
    Ev (CG base2 G) (cG (fnGm bl2) 5 (asgV (bb2 0))) (cx2 ps (mI m) none "row" (.lst (nv row))) (cElt (asgV (bb2 0))) (.v (.lst (nv (pls ps row m)))) := by
  refine .is ?_ (compMap (xs := row.take m) (tup := false) (fun v => V.int (v : Nat)) (fun v => V.int (pAt ps v : Nat)) (by kernel_rfl) (by kernel_rfl) (by kernel_rfl) (by kernel_rfl) (.is (nv_take row m) (.calc (by kernel_rfl))) (le_lim (k := 5) (Nat.le_trans (List.take_sublist _ _).length_le hl) (by decide)) fun v hv => ?_).ev
  · unfold pls nv; rw [List.map_map]; rfl
  · refine Turn.of (cy2 ps (mI m) none "v" (.int v)) (by kernel_rfl) ?_
    exact E.item (a := .v (.lst (nv ps))) (b := .v (.int v)) (by kernel_rfl) (by kernel_rfl) (.calc (by kernel_rfl)) (.calc (by kernel_rfl)) (item_nth (lst_v _) (p_at (h v (List.mem_of_mem_take hv))))
theorem bl2_flags {low high ps : List Nat} {m : Nat} {b : Bool} (hl : ∀ v ∈ low, v < ps.length) (hh : ∀ v ∈ high, v < ps.length) (ll : low.length ≤ 5) (lh : high.length ≤ 5) :
    CompOK (CG base2 G) (fnGm bl2) (SW low high ps (mI m) none [("below", .v (.bool b))]) (asgV (bb2 0)) [.lst (nv (pls ps low m)), .lst (nv (pls ps high m))] :=
  compMap (xs := [low, high]) (tup := false) (fun r => V.lst (nv r)) (fun r => V.lst (nv (pls ps r m))) (by kernel_rfl) (by kernel_rfl) (by kernel_rfl) (by kernel_rfl) (.calc (by kernel_rfl)) two_lim
    (two_of (P := fun r => Turn _ _ _ _ _ (V.lst (nv r)) (V.lst (nv (pls ps r m)))) (.of (cx2 ps (mI m) none "row" (.lst (nv low))) (by kernel_rfl) (bl2_row hl ll)) (.of (cx2 ps (mI m) none "row" (.lst (nv high))) (by kernel_rfl) (bl2_row hh lh)))
structure Good (m : Nat) (l : List Nat) : Prop where
  len : l.length = m
  nodup : l.Nodup
  lt : ∀ p ∈ l, p < 32
theorem Good.le {m : Nat} {l : List Nat} (g : Good m l) : m ≤ 32 := g.len ▸ srt_len l ▸ len32 (srt_strict g.nodup) fun p hp => g.lt p ((srt_perm l).mem_iff.mp hp)
theorem Good.srt {m : Nat} {l : List Nat} (g : Good m l) : (∀ p ∈ Mine.srt l, p < 32) ∧ (Mine.srt l).length = m := ⟨fun p hp => g.lt p ((srt_perm l).mem_iff.mp hp), (srt_len l).trans g.len⟩
theorem small_pow {p : Nat} (h : p < 32) : small40 ((2 ^ p : Nat) : Int) = true := decide_eq_true (Nat.lt_of_le_of_lt (Nat.pow_le_pow_right (by decide) (Nat.le_of_lt h)) (by decide : 2 ^ 32 < 1099511627776))
noncomputable abbrev PfOK (G : Addr → List V → V → Prop) : Prop := ∀ {ps : List Nat}, ps ≠ [] → ps.Pairwise (· < ·) → (∀ p ∈ ps, p < 32) → G 22 [.int ((bsum ps : Nat) : Int)] (sv (jn (ps.map nmC)))
noncomputable abbrev fl2 (la lb : List Nat) (b : Bool) : List (Str × D) := [("flags", .v (.lst [.lst (nv la), .lst (nv lb)])), ("below", .v (.bool b))]
noncomputable abbrev tld (la lb : List Nat) : Option D := some (.v (.lst [.lst (acS (srt la)), .lst (acS (srt lb))]))
theorem bl2_one (hG : PfOK G) {ps l : List Nat} {m : Nat} (hm : 0 < m) (g : Good m l) :
    Ev (CG base2 G) (cG (fnGm bl2) 5 (asgV (bb2 1))) (cx2 ps (mI m) none "one" (.lst (nv l))) (cElt (asgV (bb2 1))) (.v (.lst (acS (srt l)))) := by
  have hs := g.srt.1
  have hne : srt l ≠ [] := fun q => absurd hm (by rw [← g.srt.2, q]; exact Nat.lt_irrefl 0)
  refine E.meth (m := "split") (od := .v (sv (jn ((srt l).map nmC)))) (ds := [.v (.str comma)]) (by kernel_rfl) (by kernel_rfl) ?_ (.calc (by kernel_rfl)) (split_ok hne (g.srt.2.symm ▸ g.le) hs)
  refine E.call (f := "pretty_flags") (a := 22) (vs := [.int ((bsum (srt l) : Nat) : Int)]) (by kernel_rfl) (.calc (by kernel_rfl)) (args1 (by kernel_rfl) (by kernel_rfl) ?_) (hG hne (srt_strict g.nodup) hs)
  refine E.bi (f := "sum") (bv := .builtin "sum") (ds := [.v (.lst (l.map fun p => V.int ((2 ^ p : Nat) : Int)))]) (by kernel_rfl) (.calc (by kernel_rfl)) (args1 (by kernel_rfl) (by kernel_rfl) (CompOK.ev ?_)) ?_
  · refine compMap (xs := l) (tup := false) (fun v => V.int (v : Nat)) (fun p => V.int ((2 ^ p : Nat) : Int)) (by kernel_rfl) (by kernel_rfl) (by kernel_rfl) (by kernel_rfl) (.calc (by kernel_rfl)) (le_lim (g.len.symm ▸ g.le) (by decide)) (fun p hp => ?_)
    exact Turn.of (cy2 ps (mI m) none "place" (.int p)) (by kernel_rfl) (E.pow (by kernel_rfl) (.calc (by kernel_rfl)) (.calc (by kernel_rfl)) (Nat.lt_trans (g.lt p hp) (by decide)))
  · have j : BiOK (cx2 ps (mI m) none "one" (.lst (nv l))) (.builtin "sum") [.v (.lst (l.map fun p => V.int ((2 ^ p : Nat) : Int)))] (.int (l.map fun p => ((2 ^ p : Nat) : Int)).sum) := bi_sum (is := l.map fun p => ((2 ^ p : Nat) : Int)) (xs := l.map fun p => V.int ((2 ^ p : Nat) : Int)) (List.map_map ..).symm ⟨by rw [List.length_map, g.len]; exact Nat.lt_of_le_of_lt g.le (by decide), List.all_eq_true.mpr fun x hx => by
      obtain ⟨p, hp, rfl⟩ := List.mem_map.mp hx
      exact small_pow (g.lt p hp)⟩
    rw [bsum_sum, bsum_perm (srt_perm l).symm] at j
    exact @j
theorem bl2_told (hG : PfOK G) {low high ps la lb : List Nat} {m : Nat} {b : Bool} (hm : 0 < m) (ga : Good m la) (gb : Good m lb) :
    CompOK (CG base2 G) (fnGm bl2) (SW low high ps (mI m) none (fl2 la lb b)) (asgV (bb2 1)) [.lst (acS (srt la)), .lst (acS (srt lb))] :=
  compMap (xs := [la, lb]) (tup := false) (fun r => V.lst (nv r)) (fun r => V.lst (acS (srt r))) (by kernel_rfl) (by kernel_rfl) (by kernel_rfl) (by kernel_rfl) (.calc (by kernel_rfl)) two_lim
    (two_of (P := fun r => Turn _ _ _ _ _ (V.lst (nv r)) (V.lst (acS (srt r)))) (.of (cx2 ps (mI m) none "one" (.lst (nv la))) (by kernel_rfl) (bl2_one hG hm ga)) (.of (cx2 ps (mI m) none "one" (.lst (nv lb))) (by kernel_rfl) (bl2_one hG hm gb)))
noncomputable abbrev bc2 : Expr := kid (stT (bb2 2)) 1
theorem bl2_names {ps l : List Nat} {m : Nat} (g : Good m l) :
    Ev (CG base2 G) (cG (fnGm bl2) 5 bc2) (cx2 ps (mI m) none "one" (.lst (nv l))) (cElt bc2) (.v (.lst (acS (srt l)))) := by
  refine CompOK.ev (compMap (xs := srt l) (tup := false) (fun v => V.int (v : Nat)) (fun p => sv (nmC p)) (by kernel_rfl) (by kernel_rfl) (by kernel_rfl) (by kernel_rfl) (iter_lst (by kernel_rfl) ?_) (le_lim (g.srt.2.symm ▸ g.le) (by decide)) (fun p hp => ?_))
  · have j : BiOK (cx2 ps (mI m) none "one" (.lst (nv l))) (.builtin "sorted") [.v (.lst (nv l))] (.lst (iv (sortI (up l)))) := bi_sorted (is := up l) (xs := nv l) (nv_up l).symm (by rw [List.length_map, g.len]; exact Nat.lt_of_le_of_lt g.le (by decide))
    rw [srt_up, nv_up] at j
    exact E.bi (f := "sorted") (bv := .builtin "sorted") (ds := [.v (.lst (nv l))]) (by kernel_rfl) (.calc (by kernel_rfl)) (.calc (by kernel_rfl)) @j
  · refine Turn.of (cy2 ps (mI m) none "place" (.int p)) (by kernel_rfl) ?_
    exact E.item (a := .v (.lst nmV)) (b := .v (.int p)) (by kernel_rfl) (by kernel_rfl) (.calc (by kernel_rfl)) (.calc (by kernel_rfl)) (item_nth (lst_v _) (nm_at (g.srt.1 p hp)))
theorem bl2_same {low high ps la lb : List Nat} {m : Nat} {b : Bool} (ga : Good m la) (gb : Good m lb) :
    Bt (CG base2 G) (fnGm bl2) (SW low high ps (mI m) (tld la lb) (fl2 la lb b)) (stT (bb2 2)) false := by
  refine B.cmp (op := .NotEq) (a := .v (.lst [.lst (acS (srt la)), .lst (acS (srt lb))])) (b := .v (.lst [.lst (acS (srt la)), .lst (acS (srt lb))])) (by kernel_rfl) (by kernel_rfl) (.calc (by kernel_rfl)) (CompOK.ev ?_) ?_
  · exact compMap (xs := [la, lb]) (tup := false) (fun r => V.lst (nv r)) (fun r => V.lst (acS (srt r))) (by kernel_rfl) (by kernel_rfl) (by kernel_rfl) (by kernel_rfl) (.calc (by kernel_rfl)) two_lim
      (two_of (P := fun r => Turn _ _ _ _ _ (V.lst (nv r)) (V.lst (acS (srt r)))) (.of (cx2 ps (mI m) none "one" (.lst (nv la))) (by kernel_rfl) (bl2_names ga)) (.of (cx2 ps (mI m) none "one" (.lst (nv lb))) (by kernel_rfl) (bl2_names gb)))
  · exact cmp_ne (t := true) (eqd_v (eq_lst (eqs_refl (two_of (P := fun x => EqOK 5 x x true) (eq_strs 4 _) (eq_strs 4 _)))))
/-- flag by flag no higher -/
noncomputable def leq (la lb : List Nat) (m : Nat) : Bool := (List.range m).all fun i => decide (pAt (srt la) i ≤ pAt (srt lb) i)
theorem ac_at {l : List Nat} {i : Nat} (h : i < l.length) : (acS l)[i]? = some (sv (nmC (pAt l i))) := List.getElem?_map.trans (by rw [List.getElem?_eq_getElem h]; unfold pAt; rw [List.getElem?_eq_getElem h]; rfl)
theorem p_mem {l : List Nat} {i : Nat} (h : i < l.length) : pAt l i ∈ l := by unfold pAt; rw [List.getElem?_eq_getElem h]; exact List.getElem_mem h
noncomputable abbrev ba2 : Expr := arg (kid (asgV (bb2 3)) 1) 0
noncomputable abbrev ci2 (ps la lb : List Nat) (m i : Nat) : Sg := cx2 ps (mI m) (tld la lb) "i" (.int i)
theorem bl2_idx {ps la lb : List Nat} {m i : Nat} {e : Expr} {l : List Nat} (k : Nat) (h : [V.lst (acS (srt la)), .lst (acS (srt lb))][k]? = some (.lst (acS (srt l)))) (g : Good m l) (hi : i < m) (he : e = .Call (.Attribute (obj e) "index" (kid e 0).pos) (eArgs e) [] e.pos) (hm : methOk (obj e) (kid e 0).pos (eArgs e) e.pos = true)
    (ho : Ev (CG base2 G) (cG (fnGm bl2) 5 ba2) (ci2 ps la lb m i) (obj e) (.v (.lst nmV))) (h1 : eArgs e = [(eArgs e)[0]?.getD default]) (h2 : isStar ((eArgs e)[0]?.getD default) = false) (he2 : arg e 0 = .Subscript (kid (arg e 0) 0) (kid (arg e 0) 1) (arg e 0).pos) (hs2 : isSlice (kid (arg e 0) 1) = false)
    (he3 : kid (arg e 0) 0 = .Subscript (kid (kid (arg e 0) 0) 0) (kid (kid (arg e 0) 0) 1) (kid (arg e 0) 0).pos) (hs3 : isSlice (kid (kid (arg e 0) 0) 1) = false) (e1 : Ev (CG base2 G) (cG (fnGm bl2) 5 ba2) (ci2 ps la lb m i) (kid (kid (arg e 0) 0) 0) (.v (.lst [.lst (acS (srt la)), .lst (acS (srt lb))]))) (e2 : Ev (CG base2 G) (cG (fnGm bl2) 5 ba2) (ci2 ps la lb m i) (kid (kid (arg e 0) 0) 1) (.v (.int k)))
    (e3 : Ev (CG base2 G) (cG (fnGm bl2) 5 ba2) (ci2 ps la lb m i) (kid (arg e 0) 1) (.v (.int i))) : Ev (CG base2 G) (cG (fnGm bl2) 5 ba2) (ci2 ps la lb m i) e (.v (.int (pAt (srt l) i : Nat))) := by
  have hl : i < (srt l).length := g.srt.2.symm ▸ hi
  have hq : (eArgs e)[0]?.getD default = arg e 0 := congrArg (fun o => Option.getD o default) (List.getElem?_tail ..)
  exact E.meth he hm ho (args1 h1 h2 (hq ▸ E.item he2 hs2 (E.item he3 hs3 e1 e2 (item_nth (lst_v _) h)) e3 (item_nth (lst_v _) (ac_at hl)))) (index_ok (g.srt.1 _ (p_mem hl)) (lst_v _))
theorem bl2_cmp {ps la lb : List Nat} {m : Nat} (ga : Good m la) (gb : Good m lb) {i : Nat} (hi : i < m) : Ev (CG base2 G) (cG (fnGm bl2) 5 ba2) (ci2 ps la lb m i) (cElt ba2) (.v (.bool (decide (pAt (srt la) i ≤ pAt (srt lb) i)))) := by
  refine .is (congrArg (fun b => D.v (.bool b)) (decide_eq_decide.mpr Int.ofNat_le)) (E.cmp (op := .LtE) (a := .v (.int (pAt (srt la) i : Nat))) (b := .v (.int (pAt (srt lb) i : Nat))) (by kernel_rfl) (by kernel_rfl) ?_ ?_ (cmp_le _ _))
  · exact bl2_idx 0 rfl ga hi (by kernel_rfl) (by kernel_rfl) (.calc (by kernel_rfl)) (by kernel_rfl) (by kernel_rfl) (by kernel_rfl) (by kernel_rfl) (by kernel_rfl) (by kernel_rfl) (.calc (by kernel_rfl)) (.calc (by kernel_rfl)) (.calc (by kernel_rfl))
  · exact bl2_idx 1 rfl gb hi (by kernel_rfl) (by kernel_rfl) (.calc (by kernel_rfl)) (by kernel_rfl) (by kernel_rfl) (by kernel_rfl) (by kernel_rfl) (by kernel_rfl) (by kernel_rfl) (.calc (by kernel_rfl)) (.calc (by kernel_rfl)) (.calc (by kernel_rfl))
theorem bl2_all {low high ps la lb : List Nat} {m : Nat} {b : Bool} (ga : Good m la) (gb : Good m lb) :
    Ev (CG base2 G) (fnGm bl2) (SW low high ps (mI m) (tld la lb) (fl2 la lb b)) (asgV (bb2 3)) (.v (.bool (b && leq la lb m))) := by
  refine E.bool (op := .And) (es := [kid (asgV (bb2 3)) 0, kid (asgV (bb2 3)) 1]) (by kernel_rfl) (.and (.calc (by kernel_rfl)) fun _ => .one ?_)
  refine E.bi (f := "all") (bv := .builtin "all") (ds := [.v (.lst ((List.range m).map fun i => V.bool (decide (pAt (srt la) i ≤ pAt (srt lb) i))))]) (by kernel_rfl) (.calc (by kernel_rfl)) (args1 (by kernel_rfl) (by kernel_rfl) (CompOK.ev ?_)) ?_
  · refine compMap (xs := List.range m) (tup := false) (fun i => V.int (i : Nat)) (fun i => V.bool (decide (pAt (srt la) i ≤ pAt (srt lb) i))) (by kernel_rfl) (by kernel_rfl) (by kernel_rfl) (by kernel_rfl) ?_ (le_lim (k := 32) (Nat.le_trans (Nat.le_of_eq List.length_range) ga.le) (by decide)) (fun i hi => ?_)
    · exact .is (range_0 (Nat.lt_of_le_of_lt ga.le (by decide))).2 (iter_range (f := "range") (by kernel_rfl) (.calc (by kernel_rfl)) (.calc (by kernel_rfl)) (rng1 _) (range_0 (Nat.lt_of_le_of_lt ga.le (by decide))).1)
    · exact Turn.of (ci2 ps la lb m i) (by kernel_rfl) (bl2_cmp ga gb (List.mem_range.mp hi))
  · have j : BiOK (SW low high ps (mI m) (tld la lb) (fl2 la lb b)) (.builtin "all") [.v (.lst ((List.range m).map fun i => V.bool (decide (pAt (srt la) i ≤ pAt (srt lb) i))))] (.bool (((List.range m).map fun i => decide (pAt (srt la) i ≤ pAt (srt lb) i)).all id)) := bi_all (bs := (List.range m).map fun i => decide (pAt (srt la) i ≤ pAt (srt lb) i)) (xs := (List.range m).map fun i => V.bool (decide (pAt (srt la) i ≤ pAt (srt lb) i))) (List.map_map ..).symm
    rw [List.all_map] at j
    exact @j
end Mine
end
section
open PySem
namespace Mine
variable {G : Addr → List V → V → Prop}
theorem bl2_turn (hG : PfOK G) {low high ps : List Nat} {m : Nat} {b : Bool} (hl : ∀ v ∈ low, v < ps.length) (hh : ∀ v ∈ high, v < ps.length) (ll : low.length ≤ 5) (lh : high.length ≤ 5) (hm : 0 < m) (ga : Good m (pls ps low m)) (gb : Good m (pls ps high m)) :
    TurnS (CG base2 G) (fnGm bl2) bf2 (SW low high ps none none [("below", .v (.bool b))]) (.int m) .next (SW low high ps none none [("below", .v (.bool (b && leq (pls ps low m) (pls ps high m) m)))]) := by
  refine .of (σ₁ := SW low high ps (mI m) none [("below", .v (.bool b))]) (by kernel_rfl) (.to (show stB bf2 = [bb2 0, bb2 1, bb2 2, bb2 3] by kernel_rfl) ?_)
  refine .cons (σ₁ := SW low high ps (mI m) none (fl2 (pls ps low m) (pls ps high m) b)) (.comp (x := "flags") (ys := [.lst (nv (pls ps low m)), .lst (nv (pls ps high m))]) (by kernel_rfl) (bl2_flags hl hh ll lh) (by kernel_rfl)) ?_
  generalize pls ps low m = la at ga ⊢
  generalize pls ps high m = lb at gb ⊢
  refine .cons (σ₁ := SW low high ps (mI m) (tld la lb) (fl2 la lb b)) (.comp (x := "told") (ys := [.lst (acS (srt la)), .lst (acS (srt lb))]) (by kernel_rfl) (bl2_told hG hm ga gb) (by kernel_rfl)) ?_
  refine .cons (σ₁ := SW low high ps (mI m) (tld la lb) (fl2 la lb b)) (.if (by kernel_rfl) false (bl2_same ga gb) (fun h => nomatch h) (fun _ => .calc [] (by kernel_rfl))) ?_
  exact .cons (σ₁ := SW low high ps none none [("below", .v (.bool (b && leq la lb m)))]) (.set (x := "below") (v := .bool (b && leq la lb m)) (by kernel_rfl) (by kernel_rfl) (bl2_all ga gb) (by kernel_rfl)) .nil
theorem bl2_loop (hG : PfOK G) {low high ps : List Nat} (hl : ∀ v ∈ low, v < ps.length) (hh : ∀ v ∈ high, v < ps.length) (ll : low.length ≤ 5) (lh : high.length ≤ 5) :
    ∀ (ms : List Nat) (b : Bool), (∀ m ∈ ms, 0 < m ∧ Good m (pls ps low m) ∧ Good m (pls ps high m)) → ForS (CG base2 G) (fnGm bl2) bf2 (nv ms) (SW low high ps none none [("below", .v (.bool b))]) .next (SW low high ps none none [("below", .v (.bool (b && ms.all fun m => leq (pls ps low m) (pls ps high m) m)))])
  | [], b, h => by
    rw [List.all_nil, Bool.and_true]
    exact ForS.done (by kernel_rfl)
  | m :: ms, b, h => by
    obtain ⟨h1, h2, h3⟩ := h m (List.mem_cons_self ..)
    rw [List.all_cons, ← Bool.and_assoc]
    exact ForS.cons (bl2_turn hG hl hh ll lh h1 h2 h3) (bl2_loop hG hl hh ll lh ms _ fun q hq => h q (List.mem_cons_of_mem _ hq))
theorem bl2_ok (d : Nat) {low high ps ms : List Nat} (hM : FF defs2 base2 (d + 1) 86 [.lst (nv low)] (.lst (nv ms))) (hl : ∀ v ∈ low, v < ps.length) (hh : ∀ v ∈ high, v < ps.length) (ll : low.length ≤ 5) (lh : high.length ≤ 5)
    (h : ∀ m ∈ ms, 0 < m ∧ Good m (pls ps low m) ∧ Good m (pls ps high m)) : FF defs2 base2 (d + 2) 91 [.lst (nv low), .lst (nv high), .lst (nv ps), .lst nmV] (.bool (ms.all fun m => leq (pls ps low m) (pls ps high m) m)) := by
  refine FnOK.step (f := bl2) (by kernel_rfl) (FnOK.ret (σ' := SW low high ps none none [("below", .v (.bool (true && ms.all fun m => leq (pls ps low m) (pls ps high m) m)))]) (SW low high ps none none []) (by kernel_rfl) (.to (show bl2.body = [bs2 0, bs2 1, bs2 2, bf2, bs2 4] by kernel_rfl) ?_))
  have k := bl2_loop (G := FF defs2 base2 (d + 1)) (fun h0 h1 h2 => pf2_ok d h0 h1 h2) hl hh ll lh ms true h
  refine .cons (σ₁ := SW low high ps none none [("marks", .v (.lst (nv ms)))]) (.set (x := "marks") (v := .lst (nv ms)) (by kernel_rfl) (by kernel_rfl) (E.call (f := "_law_marks") (a := 86) (vs := [.lst (nv low)]) (by kernel_rfl) (.calc (by kernel_rfl)) (.calc (by kernel_rfl)) hM) (by kernel_rfl)) ?_
  refine .cons (σ₁ := SW low high ps none none [("marks", .v (.lst (nv ms)))]) (.calc [] (by kernel_rfl)) ?_
  refine .cons (σ₁ := SW low high ps none none [("marks", .v (.lst (nv ms))), ("below", .v (.bool true))]) (.calc [] (by kernel_rfl)) ?_
  exact .cons (.for (vs := nv ms) (tup := false) (by kernel_rfl) (by kernel_rfl) (.calc (by kernel_rfl)) (ForS.weak (.of_seen (by kernel_rfl)) k)) (.ret (.calc [] (by kernel_rfl)))
/-! tables -/
noncomputable def falls (row : List Nat) : List Nat := ((List.range 4).filter fun k => decide (itN row (k + 1) < itN row k)).map (· + 1)
noncomputable def mkN (row : List Nat) : List Nat :=
  let f := falls row
  match f.reverse with
  | [] => []
  | k :: r => if 5 - k = k - (r.head?.getD 0) then f ++ [5] else f
noncomputable def mk2 : Fn := fnOf body2 86 "_law_marks"
theorem mk_all (d : Nat) : (R4.map fun r => (fnC (CG base2 (FF defs2 base2 d)) (noF (CG base2 (FF defs2 base2 d))) ["sizes", "marks"] mk2 [.lst (nv r)]).map (·.1)) = R4.map fun r => some (.lst (nv (mkN r))) := by kernel_rfl
theorem mk_ok (d : Nat) {r : List Nat} (h : r ∈ R4) : FF defs2 base2 (d + 1) 86 [.lst (nv r)] (.lst (nv (mkN r))) := FnOK.step (f := mk2) (by kernel_rfl) (.calc ["sizes", "marks"] (List.map_inj_left.mp (mk_all d) r h))
noncomputable def nm2 : Fn := fnOf body2 55 "_law_names"
theorem nm_ok (d : Nat) : FF defs2 base2 (d + 1) 55 [] (.lst nmV) := FnOK.step (f := nm2) (by kernel_rfl) (.calc [] (by kernel_rfl))
theorem pf_0 (d : Nat) : FF defs2 base2 (d + 1) 22 [.int 0] (.str "0x0") := FnOK.step (f := pf2) (by kernel_rfl) (.calc ["names"] (by kernel_rfl))
theorem pf_1 (d : Nat) : FF defs2 base2 (d + 1) 22 [.int (2 ^ 32)] (.str "0x100000000") := FnOK.step (f := pf2) (by kernel_rfl) (.calc ["names"] (by kernel_rfl))
theorem pf_2 (d : Nat) : FF defs2 base2 (d + 1) 22 [.int (2 ^ 33)] (.str "0x200000000") := FnOK.step (f := pf2) (by kernel_rfl) (.calc ["names"] (by kernel_rfl))
end Mine
end
section
open PySem
namespace Mine
noncomputable def wf2 : Fn := fnOf body2 74 "_law_ways"
noncomputable abbrev WOK (e : Nat) (R : List (List Nat)) : Prop := ∀ r ∈ R, FF defs2 base2 e 74 [.lst (nv r)] (.lst ((ways 5 r).map sv))
noncomputable def findR (is : List Int) : (l : List (List Nat)) → Option {r : List Nat // r ∈ l ∧ up r = is}
  | [] => none
  | r :: l => if h : up r = is then some ⟨r, List.mem_cons_self .., h⟩ else (findR is l).map fun x => ⟨x.1, List.mem_cons_of_mem _ x.2.1, x.2.2⟩
theorem gw_ok {e : Nat} {R : List (List Nat)} (h : WOK e R) {a : Addr} {xs : List V} {is : List Int} {r : List Nat} (ha : a = 74) (hi : xs = is.map .int) (hr : r ∈ R) (hu : up r = is) : FF defs2 base2 e a [.lst xs] (.lst ((ways 5 r).map sv)) := by
  subst ha hu hi
  exact (congrArg (fun l => FF defs2 base2 e 74 [.lst l] (.lst ((ways 5 r).map sv))) (nv_up r)).mpr (h r hr)
/-- the words of the rows met so far, told by a table -/
noncomputable def GW {d : Nat} {R : List (List Nat)} (h : WOK (d + 1) R) (a : Addr) (vs : List V) : Option (Subtype (FF defs2 base2 (d + 1) a vs)) :=
  if ha : a = 62 then (fnC (CG base2 (FF defs2 base2 d)) (noF (CG base2 (FF defs2 base2 d))) [] ch2 vs).map fun r => ⟨r.1, ha ▸ FnOK.step (f := ch2) (by kernel_rfl) r.2⟩
  else if ha : a = 74 then match vs with
    | [.lst xs] => (intsC xs).bind fun is => (findR is.1 R).map fun r => ⟨.lst ((ways 5 r.1).map sv), gw_ok h ha is.2 r.2.1 r.2.2⟩
    | _ => none
  else none
noncomputable abbrev seg (a b : Nat) : List (List Nat) := (R6.drop a).take (b - a)
theorem no_rows (e : Nat) : WOK e [] := fun _ h => nomatch h
theorem w_step {d : Nat} {R : List (List Nat)} (h : WOK (d + 1) R) (L : List (List Nat)) (w : (L.map fun r => (fnC (CG base2 (FF defs2 base2 (d + 1))) (GW h) ["ways"] wf2 [.lst (nv r)]).map (·.1)) = L.map fun r => some (.lst ((ways 5 r).map sv))) : WOK (d + 1 + 1) (R ++ L) := fun r hr =>
  (List.mem_append.mp hr).elim (fun hr => FF_up (Nat.le_succ _) (h r hr)) fun hr => FnOK.step (f := wf2) (by kernel_rfl) (let ⟨x, _, e⟩ := Option.map_eq_some_iff.mp (List.map_inj_left.mp w r hr); e ▸ x.2)
theorem w_0 (d : Nat) : WOK (d + 1 + 1) ([] ++ seg 0 1) := w_step (no_rows _) _ (by kernel_rfl)
theorem w_1 (d : Nat) : WOK (d + 1 + 1 + 1) (([] ++ seg 0 1) ++ seg 1 5) := w_step (w_0 d) _ (by kernel_rfl)
theorem w_2 (d : Nat) : WOK (d + 1 + 1 + 1 + 1) ((([] ++ seg 0 1) ++ seg 1 5) ++ seg 5 14) := w_step (w_1 d) _ (by kernel_rfl)
theorem w_3 (d : Nat) : WOK (d + 1 + 1 + 1 + 1 + 1) (((([] ++ seg 0 1) ++ seg 1 5) ++ seg 5 14) ++ seg 14 29) := w_step (w_2 d) _ (by kernel_rfl)
theorem w_4 (d : Nat) : WOK (d + 1 + 1 + 1 + 1 + 1 + 1) ((((([] ++ seg 0 1) ++ seg 1 5) ++ seg 5 14) ++ seg 14 29) ++ seg 29 49) := w_step (w_3 d) _ (by kernel_rfl)
theorem rows_eq : R4 = (((([] ++ seg 0 1) ++ seg 1 5) ++ seg 5 14) ++ seg 14 29) ++ seg 29 49 := by kernel_rfl
theorem ways_ok (d : Nat) : WOK (d + 6) R4 := fun r hr => w_4 d r (rows_eq ▸ hr)
end Mine
end
section
open PySem
namespace Mine
variable {C : Cx} {G : Addr → List V → V → Prop} {Γ : Gm} {σ : Sg} {e : Expr}
theorem enum_zip {α : Type} (f : α → V) : ∀ (l : List α) (k : Nat), enumL (l.map f) k = (l.zipIdx k).map fun p => V.tup [.int (p.2 : Nat), f p.1]
  | [], k => rfl
  | x :: l, k => congrArg (List.cons (V.tup [.int k, f x])) (enum_zip f l (k + 1))
theorem in_none : ∀ (bs : List Bool), InOK .none (bs.map .bool) false
  | [] => in_nil
  | b :: bs => in_cons (in_nb b) (in_none bs)
theorem in_true : ∀ (bs : List Bool), InOK (.bool true) (bs.map .bool) (bs.any id)
  | [] => in_nil
  | b :: bs => (show (b == true || bs.any id) = (b :: bs).any id by rw [beq_true]; rfl) ▸ in_cons (in_bb true b) (in_true bs)
/-- where a number stands in a row -/
noncomputable def idN (row : List Nat) (v : Nat) : Nat := row.findIdx (· == v)
noncomputable def ivN (row : List Nat) : List Nat := (List.range 5).map (idN row)
theorem idx_all : ∀ r ∈ R6, ∀ v : Nat, v < 5 → idxB (· == (v : Int)) (up r) 0 = some (idN r v) := by decide +kernel
theorem meth_idx {r : List Nat} (hr : r ∈ R6) {v : Nat} (hv : v < 5) : MethOK σ (.v (.lst (nv r))) "index" [.v (.int v)] (.int (idN r v : Nat)) := meth_indexI (lst_v _) (nv_up r).symm (idx_all r hr v hv)
noncomputable def lw2 : Fn := fnOf body2 96 "law"
noncomputable def lb2 (i : Nat) : Stmt := stAt lw2.body i
/-- the letters' text -/
noncomputable def tx (ls : List Nat) : List Nat := ls.map (97 + ·)
theorem join_empty : ∀ (ls : List Nat), Str.join ⟨#[]⟩ (ls.map fun c => (⟨⟨[c]⟩⟩ : Str)) = ⟨⟨ls⟩⟩
  | [] => rfl
  | [c] => rfl
  | c :: c' :: ls => by
    have ih := join_empty (c' :: ls)
    have e : Str.join ⟨#[]⟩ ((c :: c' :: ls).map fun c => (⟨⟨[c]⟩⟩ : Str)) = Str.append (Str.append ⟨⟨[c]⟩⟩ ⟨#[]⟩) (Str.join ⟨#[]⟩ ((c' :: ls).map fun c => (⟨⟨[c]⟩⟩ : Str))) := by
      rw [List.map_cons, List.map_cons, Str.join]
      · rfl
      · exact fun q => nomatch q
    rw [e, ih]
    unfold Str.append
    refine congrArg Str.mk (Array.ext' ?_)
    rw [Array.toList_append, Array.toList_append]; rfl
theorem lens1 : ∀ (ls : List Nat), ((ls.map fun c => (⟨⟨[c]⟩⟩ : Str)).map Str.length).sum = ls.length
  | [] => rfl
  | c :: ls => (congrArg (1 + ·) (lens1 ls)).trans (Nat.add_comm 1 ls.length)
theorem meth_join1 {ls : List Nat} (h : ls.length < 1000) : MethOK σ (.v (.str ⟨#[]⟩)) "join" [.v (.lst (ls.map fun c => sv [c]))] (sv ls) := by
  have j : MethOK σ (.v (.str ⟨#[]⟩)) "join" [.v (.lst (ls.map fun c => sv [c]))] (.str (Str.join ⟨#[]⟩ (ls.map fun c => (⟨⟨[c]⟩⟩ : Str)))) := meth_join (lst_v _) (List.map_map ..).symm (by
    rw [lens1, List.length_map]
    exact Nat.lt_of_le_of_lt (Nat.le_of_eq (congrArg (ls.length + ·) (Nat.zero_mul _))) (Nat.lt_trans h (by decide)))
  rw [join_empty] at j
  exact @j
/-- a rest -/
noncomputable def md (m : Nat) (s : Int) : Nat := (s % (m : Int)).toNat
theorem fmod_md {m : Nat} (hm : 0 < m) (s : Int) : s.fmod (m : Int) = (md m s : Int) :=
  (Int.fmod_eq_emod_of_nonneg _ (Int.natCast_nonneg m)).trans (Int.toNat_of_nonneg (Int.emod_nonneg _ (Int.ne_of_gt (Int.natCast_pos.mpr hm)))).symm
theorem md_lt {m : Nat} (hm : 0 < m) (s : Int) : md m s < m := Int.ofNat_lt.mp ((fmod_md hm s).symm ▸ Int.fmod_lt_of_pos s (Int.natCast_pos.mpr hm))
/-- the law's state: its own names, the text, the places -/
noncomputable def LS2 (m : List (Str × D)) (t : Option D) (os : List (List V) := []) : Sg := .fr m :: .ce t :: os.map .lst
noncomputable abbrev dl (l : List Nat) : D := .v (.lst (nv l))
theorem four_of {P : Nat → Prop} (h0 : P 0) (h1 : P 1) (h2 : P 2) (h3 : P 3) : ∀ {k : Nat}, k < 4 → P k
  | 0, _ => h0
  | 1, _ => h1
  | 2, _ => h2
  | 3, _ => h3
  | k + 4, h => absurd h (Nat.not_lt.mpr (Nat.le_add_left 4 k))
theorem lw2_text {ls : List Nat} (h : ∀ k ∈ ls, k < 4) (hl : ls.length < 1000) : Ev (CG base2 G) (fnGm lw2) (LS2 [("letters", dl ls)] none) (asgV (lb2 4)) (.v (sv (tx ls))) := by
  refine E.meth (m := "join") (od := .v (.str ⟨#[]⟩)) (ds := [.v (.lst ((tx ls).map fun c => sv [c]))]) (by kernel_rfl) (by kernel_rfl) (.calc (by kernel_rfl)) (args1 (by kernel_rfl) (by kernel_rfl) (CompOK.ev ?_)) (meth_join1 (Nat.lt_of_le_of_lt (Nat.le_of_eq (List.length_map ..)) hl))
  rw [show (tx ls).map (fun c => sv [c]) = ls.map fun k => sv [97 + k] from List.map_map ..]
  refine compMap (xs := ls) (tup := false) (fun k => V.int (k : Nat)) (fun k => sv [97 + k]) (by kernel_rfl) (by kernel_rfl) (by kernel_rfl) (by kernel_rfl) (.calc (by kernel_rfl)) (Nat.lt_trans hl (by decide)) (fun k hk => ?_)
  refine Turn.of (LS2 [] none ++ [.fr [("k", .v (.int k))]]) (by kernel_rfl) ?_
  refine E.item (a := .v (sv [97, 98, 99, 100])) (b := .v (.int k)) (by kernel_rfl) (by kernel_rfl) (.calc (by kernel_rfl)) (.calc (by kernel_rfl)) (item_at ?_)
  exact four_of (P := fun k => [97, 98, 99, 100][k]? = some (97 + k)) rfl rfl rfl rfl (h k hk)
noncomputable abbrev MetOK (G : Addr → List V → V → Prop) : Prop := ∀ {w t : List Nat} {odd : Nat}, (∀ x ∈ w, x ∈ Sg0) → (∀ x ∈ t, x ∈ Sg0) → w.length < 900 → t.length < 900 → odd < 2 → more w t ≤ toldP w t odd → (odd = 1 → toldP w t odd % 2 = 0) → G 81 [sv w, sv t, .int odd] (.bool (toldP w t odd == more w t))
theorem lw2_met (hG : MetOK G) {x y : V} {low high t : List Nat} {ws : List (List Nat)} (hW : G 74 [.lst (nv low)] (.lst (ws.map sv))) (hl : ws.length < 1000) (ht : ∀ x ∈ t, x ∈ Sg0) (lt : t.length < 900) (hw : ∀ w ∈ ws, (∀ x ∈ w, x ∈ Sg0) ∧ w.length < 900)
    (h1 : ∀ w ∈ ws, ∀ odd, odd < 2 → more w t ≤ toldP w t odd ∧ (odd = 1 → toldP w t odd % 2 = 0)) :
    CompOK (CG base2 G) (fnGm lw2) (LS2 [("script", .v x), ("seeds", .v y), ("low", dl low), ("high", dl high)] (some (.v (sv t)))) (asgV (lb2 5)) (ws.zipIdx.map fun p => V.bool (toldP p.1 t (p.2 % 2) == more p.1 t)) := by
  refine compMap (xs := ws.zipIdx) (tup := true) (fun p => V.tup [.int (p.2 : Nat), sv p.1]) (fun p => V.bool (toldP p.1 t (p.2 % 2) == more p.1 t)) (by kernel_rfl) (by kernel_rfl) (by kernel_rfl) (by kernel_rfl) ?_ (Nat.lt_of_le_of_lt (Nat.le_of_eq List.length_zipIdx) (Nat.lt_trans hl (by decide))) (fun p hp => ?_)
  · exact .is (enum_zip sv ws 0) (iter_enum (f := "enumerate") (by kernel_rfl) (.calc (by kernel_rfl)) (args1 (by kernel_rfl) (by kernel_rfl) (E.call (f := "_law_ways") (a := 74) (vs := [.lst (nv low)]) (by kernel_rfl) (.calc (by kernel_rfl)) (.calc (by kernel_rfl)) hW)))
  · obtain ⟨w, k⟩ := p
    have hm : w ∈ ws := (List.mem_zipIdx hp).2.2 ▸ List.getElem_mem _
    have ho : k % 2 < 2 := Nat.mod_lt _ (by decide)
    have q := h1 w hm (k % 2) ho
    refine Turn.of (LS2 [] (some (.v (sv t))) ++ [.fr [("k", .v (.int k)), ("way", .v (sv w))]]) (by kernel_rfl) ?_
    refine E.call (f := "_law_met") (a := 81) (vs := [sv w, sv t, .int ((k % 2 : Nat) : Int)]) (by kernel_rfl) (.calc (by kernel_rfl)) ?_ (hG (hw w hm).1 ht (hw w hm).2 lt ho q.1 q.2)
    rw [← fmod_nat k 2]
    exact .calc (by kernel_rfl)
noncomputable abbrev cr2 (ps : List V) (r : List Nat) : Sg := LS2 [] none [ps] ++ [.fr [], .ce (some (.v (.lst (nv r))))]
theorem lw2_row {r : List Nat} (hr : r ∈ R6) (ps : List V) : Ev (CG base2 G) (cG (fnGm lw2) 3 (asgV (lb2 12))) (cr2 ps r) (cElt (asgV (lb2 12))) (.v (.lst (nv (ivN r)))) := by
  refine CompOK.ev ?_
  rw [show nv (ivN r) = (List.range 5).map fun v => V.int (idN r v : Nat) from List.map_map ..]
  refine compMap (xs := List.range 5) (tup := false) (fun v => V.int (v : Nat)) (fun v => V.int (idN r v : Nat)) (by kernel_rfl) (by kernel_rfl) (by kernel_rfl) (by kernel_rfl) (.calc (by kernel_rfl)) (by decide) (fun v hv => ?_)
  refine Turn.of (cr2 ps r ++ [.fr [("v", .v (.int v))]]) (by kernel_rfl) ?_
  exact E.meth (m := "index") (od := .v (.lst (nv r))) (ds := [.v (.int v)]) (by kernel_rfl) (by kernel_rfl) (.calc (by kernel_rfl)) (.calc (by kernel_rfl)) (meth_idx hr (List.mem_range.mp hv))
theorem lw2_turned {low high : List Nat} {ps : List V} {x y z : V} (hl : low ∈ R6) (hh : high ∈ R6) :
    CompOK (CG base2 G) (fnGm lw2) (LS2 [("low", dl low), ("high", dl high), ("met", .v x), ("places", .loc 2), ("names", .v y), ("below", .v z)] none [ps]) (asgV (lb2 12)) [.lst (nv (ivN low)), .lst (nv (ivN high))] :=
  compMap (xs := [low, high]) (tup := false) (fun r => V.lst (nv r)) (fun r => V.lst (nv (ivN r))) (by kernel_rfl) (by kernel_rfl) (by kernel_rfl) (by kernel_rfl) (.calc (by kernel_rfl)) two_lim
    (two_of (P := fun r => Turn _ _ _ _ _ (V.lst (nv r)) (V.lst (nv (ivN r)))) (.of (cr2 ps low) (by kernel_rfl) (lw2_row hl ps)) (.of (cr2 ps high) (by kernel_rfl) (lw2_row hh ps)))
end Mine
end
section
open PySem
namespace Mine
variable {G : Addr → List V → V → Prop}
noncomputable abbrev f4 (s : Int) : Int := s.fmod ((4 : Nat) : Int)
noncomputable abbrev f6 (s : Int) : Int := s.fmod ((6 : Nat) : Int)
noncomputable abbrev f8 (s : Int) : Int := s.fmod ((8 : Nat) : Int)
theorem bb_eq {σ : Sg} (b : Bool) : CmpOK σ .Eq (.v (.bool b)) (.v (.bool b)) true := cmp_eq (eqd_v (beq_self_eq_true b ▸ eq_bb b b))
/-- the test of the hugest flags -/
theorem lw2_big {m : List (Str × D)} {t : Option D} {os : List (List V)} {x : Int} {y : Str} (hP : G 22 [.int x] (.str y)) (h1 : ArgsOK (CG base2 G) (fnGm lw2) (LS2 m t os) (eArgs (kid (stT (lb2 9)) 0)) [.v (.int x)]) (h2 : Ev (CG base2 G) (fnGm lw2) (LS2 m t os) (kid (stT (lb2 9)) 1) (.v (.str y))) :
    RunS (CG base2 G) (fnGm lw2) (LS2 m t os) (lb2 9) .next (LS2 m t os) := by
  have c : CmpOK (LS2 m t os) .NotEq (.v (.str y)) (.v (.str y)) false := cmp_ne (t := true) (eqd_v (beq_self_eq_true y ▸ eq_ss y y))
  exact .if (by kernel_rfl) false (B.cmp (by kernel_rfl) (by kernel_rfl) (E.call (f := "pretty_flags") (a := 22) (vs := [.int x]) (by kernel_rfl) (.calc (by kernel_rfl)) h1 hP) h2 @c) (fun h => nomatch h) (fun _ => .to (show stO (lb2 9) = [] by kernel_rfl) .nil)
/-- below, told of one pair -/
theorem lw2_bel {e : Expr} {m : List (Str × D)} {t : Option D} {a b ps : List Nat} {bb : Bool} (hB : G 91 [.lst (nv a), .lst (nv b), .lst (nv ps), .lst nmV] (.bool bb)) (he : e = .Call (.Name "_law_below" (kid e 0).pos) (eArgs e) [] e.pos) (hn : Nm (CG base2 G) (fnGm lw2) (LS2 m t [nv ps]) "_law_below" (.v (.fn 91)))
    (ha : ArgsOK (CG base2 G) (fnGm lw2) (LS2 m t [nv ps]) (eArgs e) [dl a, dl b, .loc 2, .v (.lst nmV)]) : Ev (CG base2 G) (fnGm lw2) (LS2 m t [nv ps]) e (.v (.bool bb)) :=
  E.callArg he hn ha (.cons (deep_v _) (.cons (deep_v _) (.cons (deep_loc (by kernel_rfl)) (.cons (deep_v _) .nil)))) (by kernel_rfl) hB
/-- the last row -/
theorem lw2_end {bs : List Bool} {low high ps : List Nat} {bb : Bool} (hb : bs.any id = bb) (hB2 : G 91 [.lst (nv low), .lst (nv high), .lst (nv ps), .lst nmV] (.bool bb)) :
    Ev (CG base2 G) (fnGm lw2) (LS2 [("met", .v (.lst (bs.map .bool))), ("places", .loc 2), ("names", .v (.lst nmV)), ("below", .v (.bool bb)), ("turned", .v (.lst [.lst (nv low), .lst (nv high)]))] none [nv ps]) (asgV (lb2 13)) (.v (.bool true)) := by
  refine E.bool (op := .And) (es := [kid (asgV (lb2 13)) 0, kid (asgV (lb2 13)) 1, kid (asgV (lb2 13)) 2]) (by kernel_rfl) (.and (b := true) (c := true) ?_ fun _ => .and (b := true) (c := true) ?_ fun _ => .one ?_)
  · exact E.cmp (a := .v .none) (b := .v (.lst (bs.map .bool))) (by kernel_rfl) (by kernel_rfl) (.calc (by kernel_rfl)) (.calc (by kernel_rfl)) (cmp_nin (lst_v _) (in_none bs))
  · refine E.cmp (a := .v (.bool bb)) (b := .v (.bool bb)) (by kernel_rfl) (by kernel_rfl) (.calc (by kernel_rfl)) ?_ (bb_eq bb)
    exact E.cmp (a := .v (.bool true)) (b := .v (.lst (bs.map .bool))) (by kernel_rfl) (by kernel_rfl) (.calc (by kernel_rfl)) (.calc (by kernel_rfl)) (hb ▸ cmp_in (lst_v _) (in_true bs))
  · exact E.cmp (a := .v (.bool bb)) (b := .v (.bool bb)) (by kernel_rfl) (by kernel_rfl) (.calc (by kernel_rfl)) (lw2_bel hB2 (by kernel_rfl) (.calc (by kernel_rfl)) (.calc (by kernel_rfl))) (bb_eq bb)
theorem law2_body {vs : List Int} {s0 s1 s2 s3 s4 s5 s6 s7 s8 s9 s10 s11 s12 s13 s14 : Int} {l1 l2 ps low high t : List Nat} {bs : List Bool} {bb : Bool}
    (hS : G 50 [.lst (iv vs)] (.lst (iv [s0, s1, s2, s3, s4, s5, s6, s7, s8, s9, s10, s11, s12, s13, s14])))
    (e1 : iv [f4 s0, f4 s1, f4 s2, f4 s3] = nv l1) (e2 : iv [f4 s4, f4 s5, f4 s6, f4 s7, f4 s8, f4 s9] = nv l2)
    (e3 : iv [f8 s10, f8 s10 + 1 + f6 s11, f8 s10 + 1 + f6 s11 + 1 + f6 s12, f8 s10 + 1 + f6 s11 + 1 + f6 s12 + 1 + f6 s13, f8 s10 + 1 + f6 s11 + 1 + f6 s12 + 1 + f6 s13 + 1 + f6 s14] = nv ps)
    (hL1 : G 69 [.lst (nv l1)] (.lst (nv low))) (hL2 : G 69 [.lst (nv l2)] (.lst (nv high)))
    (tex : Ev (CG base2 G) (fnGm lw2) (LS2 [("letters", dl l2)] none) (asgV (lb2 4)) (.v (sv t)))
    (met : CompOK (CG base2 G) (fnGm lw2) (LS2 [("script", .v (.lst (iv vs))), ("seeds", .v (.lst (iv [s0, s1, s2, s3, s4, s5, s6, s7, s8, s9, s10, s11, s12, s13, s14]))), ("low", dl low), ("high", dl high)] (some (.v (sv t)))) (asgV (lb2 5)) (bs.map .bool))
    (hP0 : G 22 [.int 0] (.str "0x0")) (hP1 : G 22 [.int (2 ^ 32)] (.str "0x100000000")) (hP2 : G 22 [.int (2 ^ 33)] (.str "0x200000000")) (hN : G 55 [] (.lst nmV))
    (trn : CompOK (CG base2 G) (fnGm lw2) (LS2 [("low", dl low), ("high", dl high), ("met", .v (.lst (bs.map .bool))), ("places", .loc 2), ("names", .v (.lst nmV)), ("below", .v (.bool bb))] none [nv ps]) (asgV (lb2 12)) [.lst (nv (ivN low)), .lst (nv (ivN high))])
    (hB1 : G 91 [.lst (nv low), .lst (nv high), .lst (nv ps), .lst nmV] (.bool bb)) (hB2 : G 91 [.lst (nv (ivN low)), .lst (nv (ivN high)), .lst (nv ps), .lst nmV] (.bool bb))
    (hb : bs.any id = bb) : FnOK (CG base2 G) lw2 [.lst (iv vs)] (.bool true) := by
  refine FnOK.ret (σ' := LS2 [("met", .v (.lst (bs.map .bool))), ("places", .loc 2), ("names", .v (.lst nmV)), ("below", .v (.bool bb)), ("turned", .v (.lst [.lst (nv (ivN low)), .lst (nv (ivN high))]))] none [nv ps]) (LS2 [("script", .v (.lst (iv vs)))] none) (by kernel_rfl) (.to (show lw2.body = [lb2 0, lb2 1, lb2 2, lb2 3, lb2 4, lb2 5, lb2 6, lb2 7, lb2 8, lb2 9, lb2 10, lb2 11, lb2 12, lb2 13] by kernel_rfl) ?_)
  refine .cons (σ₁ := LS2 [("script", .v (.lst (iv vs))), ("seeds", .v (.lst (iv [s0, s1, s2, s3, s4, s5, s6, s7, s8, s9, s10, s11, s12, s13, s14])))] none) (.set (x := "seeds") (v := .lst (iv [s0, s1, s2, s3, s4, s5, s6, s7, s8, s9, s10, s11, s12, s13, s14])) (by kernel_rfl) (by kernel_rfl) (E.call (f := "_law_seeds") (a := 50) (vs := [.lst (iv vs)]) (by kernel_rfl) (.calc (by kernel_rfl)) (.calc (by kernel_rfl)) hS) (by kernel_rfl)) ?_
  refine .cons (σ₁ := LS2 [("script", .v (.lst (iv vs))), ("seeds", .v (.lst (iv [s0, s1, s2, s3, s4, s5, s6, s7, s8, s9, s10, s11, s12, s13, s14]))), ("low", dl low)] none) (.set (x := "low") (v := .lst (nv low)) (by kernel_rfl) (by kernel_rfl) (E.call (f := "_law_led") (a := 69) (vs := [.lst (nv l1)]) (by kernel_rfl) (.calc (by kernel_rfl)) (e1 ▸ .calc (by kernel_rfl)) hL1) (by kernel_rfl)) ?_
  refine .cons (σ₁ := LS2 [("script", .v (.lst (iv vs))), ("seeds", .v (.lst (iv [s0, s1, s2, s3, s4, s5, s6, s7, s8, s9, s10, s11, s12, s13, s14]))), ("low", dl low), ("letters", dl l2)] none) (by unfold dl; rw [← e2]; exact .calc [] (by kernel_rfl)) ?_
  refine .cons (σ₁ := LS2 [("script", .v (.lst (iv vs))), ("seeds", .v (.lst (iv [s0, s1, s2, s3, s4, s5, s6, s7, s8, s9, s10, s11, s12, s13, s14]))), ("low", dl low), ("letters", dl l2), ("high", dl high)] none) (.set (x := "high") (v := .lst (nv high)) (by kernel_rfl) (by kernel_rfl) (E.call (f := "_law_led") (a := 69) (vs := [.lst (nv l2)]) (by kernel_rfl) (.calc (by kernel_rfl)) (.calc (by kernel_rfl)) hL2) (by kernel_rfl)) ?_
  refine .cons (σ₁ := LS2 [("script", .v (.lst (iv vs))), ("seeds", .v (.lst (iv [s0, s1, s2, s3, s4, s5, s6, s7, s8, s9, s10, s11, s12, s13, s14]))), ("low", dl low), ("high", dl high)] (some (.v (sv t)))) (.set (x := "text") (v := sv t) (by kernel_rfl) (by kernel_rfl) (tex.weak (.of_seen (by kernel_rfl))) (by kernel_rfl)) ?_
  refine .cons (σ₁ := LS2 [("script", .v (.lst (iv vs))), ("seeds", .v (.lst (iv [s0, s1, s2, s3, s4, s5, s6, s7, s8, s9, s10, s11, s12, s13, s14]))), ("low", dl low), ("high", dl high), ("met", .v (.lst (bs.map .bool)))] none) (.comp (x := "met") (by kernel_rfl) met (by kernel_rfl)) ?_
  refine .cons (σ₁ := LS2 [("script", .v (.lst (iv vs))), ("seeds", .v (.lst (iv [s0, s1, s2, s3, s4, s5, s6, s7, s8, s9, s10, s11, s12, s13, s14]))), ("low", dl low), ("high", dl high), ("met", .v (.lst (bs.map .bool))), ("places", .loc 2)] none [iv [f8 s10]]) (.calc ["places"] (by kernel_rfl)) ?_
  refine .cons (σ₁ := LS2 [("script", .v (.lst (iv vs))), ("low", dl low), ("high", dl high), ("met", .v (.lst (bs.map .bool))), ("places", .loc 2)] none [nv ps]) (e3 ▸ .calc ["places"] (by kernel_rfl)) ?_
  refine .cons (σ₁ := LS2 [("low", dl low), ("high", dl high), ("met", .v (.lst (bs.map .bool))), ("places", .loc 2), ("top", .v (.int (md 3 (vs.length : Int))))] none [nv ps]) ?_ ?_
  · rw [← fmod_md (by decide), ← List.length_map (as := vs) V.int]
    exact .calc ["places"] (by kernel_rfl)
  refine .cons (σ₁ := LS2 [("low", dl low), ("high", dl high), ("met", .v (.lst (bs.map .bool))), ("places", .loc 2), ("top", .v (.int (md 3 (vs.length : Int))))] none [nv ps]) ?_ ?_
  · have hm := md_lt (m := 3) (by decide) (vs.length : Int)
    generalize md 3 (vs.length : Int) = q at hm
    match q, hm with
    | 0, _ => exact lw2_big hP0 (.calc (by kernel_rfl)) (.calc (by kernel_rfl))
    | 1, _ => exact lw2_big hP1 (.calc (by kernel_rfl)) (.calc (by kernel_rfl))
    | 2, _ => exact lw2_big hP2 (.calc (by kernel_rfl)) (.calc (by kernel_rfl))
  refine .cons (σ₁ := LS2 [("low", dl low), ("high", dl high), ("met", .v (.lst (bs.map .bool))), ("places", .loc 2), ("names", .v (.lst nmV))] none [nv ps]) (.set (x := "names") (v := .lst nmV) (by kernel_rfl) (by kernel_rfl) (E.call (f := "_law_names") (a := 55) (vs := []) (by kernel_rfl) (.calc (by kernel_rfl)) (.calc (by kernel_rfl)) hN) (by kernel_rfl)) ?_
  refine .cons (σ₁ := LS2 [("low", dl low), ("high", dl high), ("met", .v (.lst (bs.map .bool))), ("places", .loc 2), ("names", .v (.lst nmV)), ("below", .v (.bool bb))] none [nv ps]) (.set (x := "below") (v := .bool bb) (by kernel_rfl) (by kernel_rfl) (lw2_bel hB1 (by kernel_rfl) (.calc (by kernel_rfl)) (.calc (by kernel_rfl))) (by kernel_rfl)) ?_
  refine .cons (σ₁ := LS2 [("met", .v (.lst (bs.map .bool))), ("places", .loc 2), ("names", .v (.lst nmV)), ("below", .v (.bool bb)), ("turned", .v (.lst [.lst (nv (ivN low)), .lst (nv (ivN high))]))] none [nv ps]) (.comp (x := "turned") (ys := [.lst (nv (ivN low)), .lst (nv (ivN high))]) (by kernel_rfl) trn (by kernel_rfl)) ?_
  exact .ret (.return (by kernel_rfl) (lw2_end hb hB2))
end Mine
end
section
namespace Mine
noncomputable def sc (a b : Nat) : Nat := if a == b then 0 else if kin a b then 1 else 2
theorem scost_sc (a b : Nat) : scost a b = (sc a b : Int) := by
  unfold scost sc; split
  · rfl
  · split <;> rfl
theorem kin_comm (a b : Nat) : kin a b = kin b a := by
  unfold kin
  cases a == 97 <;> cases b == 65 <;> cases a == 65 <;> cases b == 97 <;> cases a == 98 <;> cases b == 66 <;> cases a == 66 <;> cases b == 98 <;> rfl
theorem sc_comm (a b : Nat) : sc a b = sc b a := by
  unfold sc
  rw [kin_comm a b]
  by_cases h : a = b
  · subst h; rfl
  · have h1 : (a == b) = false := by simp [h]
    have h2 : (b == a) = false := by simp; exact fun e => h e.symm
    rw [h1, h2]
theorem sc_self (a : Nat) : sc a a = 0 := by simp [sc]
theorem sc_le (a b : Nat) : sc a b ≤ 2 := by unfold sc; split; omega; split <;> omega
theorem kin_iff (a b : Nat) : kin a b = true ↔ (a = 97 ∧ b = 65) ∨ (a = 65 ∧ b = 97) ∨ (a = 98 ∧ b = 66) ∨ (a = 66 ∧ b = 98) := by
  simp [kin, or_assoc]
theorem sc_tri (a b c : Nat) : sc a c ≤ sc a b + sc b c := by
  by_cases h1 : a = b
  · subst h1; rw [sc_self]; omega
  by_cases h2 : b = c
  · subst h2; rw [sc_self]; omega
  have p1 : 1 ≤ sc a b := by
    unfold sc; rw [if_neg (by simpa using h1)]; split <;> omega
  have p2 : 1 ≤ sc b c := by
    unfold sc; rw [if_neg (by simpa using h2)]; split <;> omega
  have := sc_le a c
  omega
/-- the price of a way to turn x into y -/
inductive Aln : List Nat → List Nat → Nat → Prop
  | nil : Aln [] [] 0
  | del {x y c} (a : Nat) : Aln x y c → Aln (a :: x) y (c + 2)
  | ins {x y c} (b : Nat) : Aln x y c → Aln x (b :: y) (c + 2)
  | sub {x y c} (a b : Nat) : Aln x y c → Aln (a :: x) (b :: y) (c + sc a b)
/-- the least price -/
noncomputable def ed : List Nat → List Nat → Nat
  | [], y => 2 * y.length
  | _ :: x, [] => 2 * (x.length + 1)
  | a :: x, b :: y => min (min (ed x (b :: y)) (ed (a :: x) y) + 2) (ed x y + sc a b)
termination_by x y => x.length + y.length
theorem ed_nil (y : List Nat) : ed [] y = 2 * y.length := by rw [ed]
theorem ed_nil' (x : List Nat) : ed x [] = 2 * x.length := by cases x <;> simp [ed]
theorem ed_cons (a : Nat) (x : List Nat) (b : Nat) (y : List Nat) : ed (a :: x) (b :: y) = min (min (ed x (b :: y)) (ed (a :: x) y) + 2) (ed x y + sc a b) := by rw [ed]
theorem aln_nil : ∀ (y : List Nat), Aln [] y (2 * y.length)
  | [] => .nil
  | b :: y => by have := Aln.ins b (aln_nil y); rw [List.length_cons, Nat.mul_add]; exact this
theorem aln_nil' : ∀ (x : List Nat), Aln x [] (2 * x.length)
  | [] => .nil
  | b :: y => by have := Aln.del b (aln_nil' y); rw [List.length_cons, Nat.mul_add]; exact this
theorem ed_al : ∀ (x y : List Nat), Aln x y (ed x y)
  | [], y => by rw [ed_nil]; exact aln_nil y
  | a :: x, [] => by rw [ed_nil']; exact aln_nil' _
  | a :: x, b :: y => by
    rw [ed_cons]
    by_cases h : min (ed x (b :: y)) (ed (a :: x) y) + 2 ≤ ed x y + sc a b
    · rw [Nat.min_eq_left h]
      by_cases h2 : ed x (b :: y) ≤ ed (a :: x) y
      · rw [Nat.min_eq_left h2]; exact .del a (ed_al x (b :: y))
      · rw [Nat.min_eq_right (by omega)]; exact .ins b (ed_al (a :: x) y)
    · rw [Nat.min_eq_right (by omega)]; exact .sub a b (ed_al x y)
termination_by x y => x.length + y.length
theorem aln_len {x y : List Nat} {c : Nat} (h : Aln x y c) : 2 * y.length ≤ c + 2 * x.length ∧ 2 * x.length ≤ c + 2 * y.length := by
  induction h with
  | nil => simp
  | del a _ ih => simp only [List.length_cons]; omega
  | ins b _ ih => simp only [List.length_cons]; omega
  | sub a b _ ih => simp only [List.length_cons]; omega
theorem ed_drop (a : Nat) (x y : List Nat) : ed (a :: x) y ≤ ed x y + 2 := by
  cases y with
  | nil => rw [ed_nil', ed_nil']; simp; omega
  | cons b y => rw [ed_cons]; omega
theorem ed_drop' (x : List Nat) (b : Nat) (y : List Nat) : ed x (b :: y) ≤ ed x y + 2 := by
  cases x with
  | nil => rw [ed_nil, ed_nil]; simp; omega
  | cons a x => rw [ed_cons]; omega
theorem ed_sub (a : Nat) (x : List Nat) (b : Nat) (y : List Nat) : ed (a :: x) (b :: y) ≤ ed x y + sc a b := by rw [ed_cons]; omega
theorem ed_le {x y : List Nat} {c : Nat} (h : Aln x y c) : ed x y ≤ c := by
  induction h with
  | nil => simp [ed]
  | del a hh ih => rename_i x y c; have := ed_drop a x y; omega
  | ins b hh ih => rename_i x y c; have := ed_drop' x b y; omega
  | sub a b hh ih => rename_i x y c; have := ed_sub a x b y; omega
theorem Aln.app {x y c} (h : Aln x y c) : ∀ {x' y' c'}, Aln x' y' c' → Aln (x ++ x') (y ++ y') (c + c') := by
  induction h with
  | nil => intro x' y' c' h'; simpa using h'
  | del a _ ih => intro x' y' c' h'; have := Aln.del a (ih h'); rw [Nat.add_right_comm] at this; exact this
  | ins a _ ih => intro x' y' c' h'; have := Aln.ins a (ih h'); rw [Nat.add_right_comm] at this; exact this
  | sub a b _ ih => intro x' y' c' h'; have := Aln.sub a b (ih h'); rw [Nat.add_right_comm] at this; exact this
theorem Aln.rev {x y c} (h : Aln x y c) : Aln x.reverse y.reverse c := by
  induction h with
  | nil => exact .nil
  | del a _ ih =>
    have := ih.app (Aln.del a .nil)
    simpa using this
  | ins a _ ih =>
    have := ih.app (Aln.ins a .nil)
    simpa using this
  | sub a b _ ih =>
    have := ih.app (Aln.sub a b .nil)
    simpa using this
theorem Aln.symm {x y c} (h : Aln x y c) : Aln y x c := by
  induction h with
  | nil => exact .nil
  | del a _ ih => exact .ins a ih
  | ins a _ ih => exact .del a ih
  | sub a b _ ih => rw [sc_comm]; exact .sub b a ih
theorem ed_rev (x y : List Nat) : ed x.reverse y.reverse = ed x y := by
  have h1 := ed_le (ed_al x y).rev
  have h2 := ed_le (ed_al x.reverse y.reverse).rev
  rw [List.reverse_reverse, List.reverse_reverse] at h2
  omega
theorem ed_comm (x y : List Nat) : ed x y = ed y x := by
  have h1 := ed_le (ed_al x y).symm
  have h2 := ed_le (ed_al y x).symm
  omega
theorem Aln.trans {x y c} (h : Aln x y c) : ∀ {z d}, Aln y z d → ∃ e, Aln x z e ∧ e ≤ c + d := by
  induction h with
  | nil => intro z d h'; exact ⟨d, h', by omega⟩
  | del a _ ih =>
    intro z d h'
    obtain ⟨e, h1, h2⟩ := ih h'
    exact ⟨e + 2, .del a h1, by omega⟩
  | ins b h ih =>
    rename_i x y c
    intro z d h'
    -- the inserted letter, in the second way
    generalize hw : b :: y = w at h'
    induction h' with
    | nil => cases hw
    | del a h'' ih' => cases hw; obtain ⟨e, h1, h2⟩ := ih h''; exact ⟨e, h1, by omega⟩
    | ins b' h'' ih' => obtain ⟨e, h1, h2⟩ := ih' hw; exact ⟨e + 2, .ins b' h1, by omega⟩
    | sub a b' h'' ih' => cases hw; obtain ⟨e, h1, h2⟩ := ih h''; exact ⟨e + 2, .ins b' h1, by omega⟩
  | sub a b h ih =>
    rename_i x y c
    intro z d h'
    generalize hw : b :: y = w at h'
    induction h' with
    | nil => cases hw
    | del a' h'' ih' => cases hw; obtain ⟨e, h1, h2⟩ := ih h''; exact ⟨e + 2, .del a h1, by omega⟩
    | ins b' h'' ih' => obtain ⟨e, h1, h2⟩ := ih' hw; exact ⟨e + 2, .ins b' h1, by omega⟩
    | sub a' b' h'' ih' =>
      cases hw
      obtain ⟨e, h1, h2⟩ := ih h''
      have := sc_tri a b b'
      exact ⟨e + sc a b', .sub a b' h1, by omega⟩
theorem ed_tri (x y z : List Nat) : ed x z ≤ ed x y + ed y z := by
  obtain ⟨e, h1, h2⟩ := (ed_al x y).trans (ed_al y z)
  have := ed_le h1
  omega
theorem ed_self : ∀ (x : List Nat), ed x x = 0
  | [] => by simp [ed]
  | a :: x => by have := ed_sub a x a x; rw [ed_self x, sc_self] at this; omega
theorem ed_len (x y : List Nat) : 2 * y.length ≤ ed x y + 2 * x.length ∧ 2 * x.length ≤ ed x y + 2 * y.length := aln_len (ed_al x y)
/-- a shared first letter tells nothing -/
theorem ed_head (p : Nat) (x y : List Nat) : ed (p :: x) (p :: y) = ed x y := by
  have h1 := ed_sub p x p y
  rw [sc_self] at h1
  have e1 : ed x y ≤ ed x (p :: y) + 2 := by
    have := ed_tri x (p :: y) y
    have q : ed (p :: y) y ≤ 2 := by have := ed_drop p y y; rw [ed_self] at this; omega
    omega
  have e2 : ed x y ≤ ed (p :: x) y + 2 := by
    have := ed_tri x (p :: x) y
    have q : ed x (p :: x) ≤ 2 := by have := ed_drop' x p x; rw [ed_self] at this; omega
    omega
  have := ed_cons p x p y
  rw [sc_self] at this
  omega
theorem ed_cpl : ∀ (a b : List Nat), ed (a.drop (cpl a b)) (b.drop (cpl a b)) = ed a b
  | [], b => by simp [cpl]
  | x :: a, [] => by simp [cpl]
  | x :: a, y :: b => by
    simp only [cpl]
    split
    · rename_i h; subst h
      rw [ed_head, List.drop_succ_cons, List.drop_succ_cons, ed_cpl a b]
    · simp
theorem ed_cut1 (a b : List Nat) : ed (cut1 a b).1 (cut1 a b).2 = ed a b := ed_cpl a b
theorem take_rev (l : List Nat) (k : Nat) : l.take (l.length - k) = (l.reverse.drop k).reverse := by
  rw [List.drop_reverse, List.reverse_reverse]
theorem ed_cut2 (a b : List Nat) : ed (cut2 a b).1 (cut2 a b).2 = ed a b := by
  unfold cut2
  simp only []
  rw [take_rev, take_rev, ed_rev, ed_cpl, ed_rev]
end Mine
end
section
namespace Mine
noncomputable def vals (pb : List Nat) : List Nat → List Nat → List Int
  | _, [] => []
  | pa, x :: as => (ed pb (x :: pa) : Int) :: vals pb (x :: pa) as
theorem inn_spec (bc : Nat) (pb : List Nat) : ∀ (as pa : List Nat) (d res mn : Int), d = (ed pb pa : Int) → (res = (ed (bc :: pb) pa : Int) ∨ (pa = [] ∧ res = 2 * (pb.length : Int))) →
    (inn bc as (vals pb pa as) d res mn).1 = vals (bc :: pb) pa as ∧ (as ≠ [] → (inn bc as (vals pb pa as) d res mn).2.1 = (ed (bc :: pb) (as.reverse ++ pa) : Int)) ∧
    (inn bc as (vals pb pa as) d res mn).2.2 ≤ mn ∧ ∀ v ∈ vals (bc :: pb) pa as, (inn bc as (vals pb pa as) d res mn).2.2 ≤ v
  | [], pa, d, res, mn, hd, hr => by simp [vals, inn]
  | x :: as, pa, d, res, mn, hd, hr => by
    have key : imin (imin res (ed pb (x :: pa) : Int) + 2) (d + scost bc x) = (ed (bc :: pb) (x :: pa) : Int) := by
      have e := ed_cons bc pb x pa
      have hs := sc_le bc x
      rw [hd, scost_sc]
      unfold imin
      rcases hr with h | ⟨h1, h2⟩
      · rw [h]
        split <;> split <;> omega
      · subst h1
        rw [ed_nil' (bc :: pb), ed_nil' pb, List.length_cons] at e
        rw [ed_nil' pb, h2]
        split <;> split <;> omega
    have ih := inn_spec bc pb as (x :: pa) (ed pb (x :: pa)) (ed (bc :: pb) (x :: pa)) (if ((ed (bc :: pb) (x :: pa) : Nat) : Int) < mn then ((ed (bc :: pb) (x :: pa) : Nat) : Int) else mn) rfl (.inl rfl)
    simp only [vals, inn]
    rw [key]
    obtain ⟨i1, i2, i3, i4⟩ := ih
    refine ⟨by rw [i1], fun _ => ?_, ?_, ?_⟩
    · by_cases ha : as = []
      · subst ha; simp [inn, vals]
      · rw [i2 ha]; simp
    · refine Int.le_trans i3 ?_
      split <;> omega
    · intro v hv
      rcases List.mem_cons.mp hv with h | h
      · subst h
        refine Int.le_trans i3 ?_
        split <;> omega
      · exact i4 v h
theorem vals_mem (pb : List Nat) : ∀ (as pa : List Nat) (k : Nat), 0 < k → k ≤ as.length → (ed pb ((as.take k).reverse ++ pa) : Int) ∈ vals pb pa as
  | [], pa, k, h1, h2 => by simp at h2; omega
  | x :: as, pa, k, h1, h2 => by
    obtain ⟨j, rfl⟩ : ∃ j, k = j + 1 := ⟨k - 1, by omega⟩
    simp only [vals, List.take_succ_cons, List.reverse_cons, List.append_assoc, List.singleton_append]
    by_cases hj : j = 0
    · subst hj; simp
    · exact List.mem_cons_of_mem _ (vals_mem pb as (x :: pa) j (by omega) (by simpa using h2))
theorem aln_split {x A : List Nat} {c : Nat} (h : Aln x A c) : ∀ (ys pb : List Nat), x = ys ++ pb → ∃ A1 A2 c1 c2, A = A1 ++ A2 ∧ Aln ys A1 c1 ∧ Aln pb A2 c2 ∧ c = c1 + c2 := by
  induction h with
  | nil =>
    intro ys pb e
    have := List.append_eq_nil_iff.mp e.symm
    obtain ⟨rfl, rfl⟩ := this
    exact ⟨[], [], 0, 0, rfl, .nil, .nil, rfl⟩
  | del a hh ih =>
    intro ys pb e
    cases ys with
    | nil => simp only [List.nil_append] at e; subst e; exact ⟨[], _, 0, _, rfl, .nil, .del a hh, by omega⟩
    | cons y ys =>
      simp only [List.cons_append, List.cons.injEq] at e
      obtain ⟨rfl, e⟩ := e
      obtain ⟨A1, A2, c1, c2, h1, h2, h3, h4⟩ := ih ys pb e
      exact ⟨A1, A2, c1 + 2, c2, h1, .del a h2, h3, by omega⟩
  | ins b hh ih =>
    intro ys pb e
    obtain ⟨A1, A2, c1, c2, h1, h2, h3, h4⟩ := ih ys pb e
    exact ⟨b :: A1, A2, c1 + 2, c2, by rw [h1]; rfl, .ins b h2, h3, by omega⟩
  | sub a b hh ih =>
    intro ys pb e
    cases ys with
    | nil => simp only [List.nil_append] at e; subst e; exact ⟨[], _, 0, _, rfl, .nil, .sub a b hh, by omega⟩
    | cons y ys =>
      simp only [List.cons_append, List.cons.injEq] at e
      obtain ⟨rfl, e⟩ := e
      obtain ⟨A1, A2, c1, c2, h1, h2, h3, h4⟩ := ih ys pb e
      exact ⟨b :: A1, A2, c1 + sc a b, c2, by rw [h1]; rfl, .sub a b h2, h3, by omega⟩
/-- every way passes the row -/
theorem row_bound {a ys pb : List Nat} {bc : Nat} {M : Int} (ha : a ≠ []) (h : ∀ v ∈ vals (bc :: pb) [] a, M ≤ v) : M ≤ (ed (ys ++ bc :: pb) a.reverse : Int) := by
  obtain ⟨A1, A2, c1, c2, h1, h2, h3, h4⟩ := aln_split (ed_al (ys ++ bc :: pb) a.reverse) ys (bc :: pb) rfl
  have h5 := ed_le h3
  have hA : a = A2.reverse ++ A1.reverse := by rw [← List.reverse_append, ← h1, List.reverse_reverse]
  by_cases he : A2 = []
  · subst he
    rw [ed_nil'] at h5
    obtain ⟨x, r, rfl⟩ := List.exists_cons_of_ne_nil ha
    have := h _ (vals_mem (bc :: pb) (x :: r) [] 1 (by omega) (by simp))
    simp only [List.take_succ_cons, List.take_zero, List.reverse_cons, List.reverse_nil, List.nil_append, List.append_nil] at this
    have q := ed_sub bc pb x []
    have hs := sc_le bc x
    rw [ed_nil'] at q
    simp only [List.length_cons] at h5
    omega
  · have hl : 0 < A2.length := List.length_pos_iff.mpr he
    have hk : A2.length ≤ a.length := by rw [hA]; simp
    have := h _ (vals_mem (bc :: pb) a [] A2.length hl hk)
    have e : (a.take A2.length).reverse ++ [] = A2 := by
      rw [List.append_nil]
      conv => lhs; rw [hA]
      rw [List.take_left' (by simp), List.reverse_reverse]
    rw [e] at this
    omega
/-- what a bounded asking may tell -/
noncomputable def Tells (e mc r : Int) : Prop := r = e ∨ (r = mc + 1 ∧ mc < e)
theorem rows_spec {a : List Nat} (ha : a ≠ []) (mc : Int) : ∀ (bs pb : List Nat) (res : Int),
    ((rows a mc bs pb.length (vals pb [] a) res).2 = true → (rows a mc bs pb.length (vals pb [] a) res).1 = mc + 1 ∧ mc < (ed (bs.reverse ++ pb) a.reverse : Int)) ∧
    ((rows a mc bs pb.length (vals pb [] a) res).2 = false → (rows a mc bs pb.length (vals pb [] a) res).1 = if bs = [] then res else (ed (bs.reverse ++ pb) a.reverse : Int))
  | [], pb, res => by simp [rows]
  | y :: bs, pb, res => by
    have I := inn_spec y pb a [] (2 * (pb.length : Int)) (2 * (pb.length : Int)) 9223372036854775807 (by rw [ed_nil']; omega) (.inr ⟨rfl, rfl⟩)
    obtain ⟨i1, i2, _, i4⟩ := I
    simp only [rows]
    generalize hq : inn y a (vals pb [] a) (2 * (pb.length : Int)) (2 * (pb.length : Int)) 9223372036854775807 = q at i1 i2 i4
    have e : (y :: bs).reverse ++ pb = bs.reverse ++ y :: pb := by simp
    rw [e]
    by_cases hc : mc < q.2.2
    · rw [if_pos hc]
      refine ⟨fun _ => ⟨rfl, ?_⟩, fun h => by cases h⟩
      have := row_bound (ys := bs.reverse) ha i4
      omega
    · rw [if_neg hc, i1]
      have ih := rows_spec ha mc bs (y :: pb) q.2.1
      rw [List.length_cons] at ih
      refine ⟨ih.1, fun h => ?_⟩
      rw [ih.2 h, if_neg (show ¬ (y :: bs = []) by simp)]
      split
      · rename_i hb; subst hb
        rw [i2 ha]; simp
      · rfl
theorem vals_0 : ∀ (as pa : List Nat), vals [] pa as = (List.range' pa.length as.length).map fun (i : Nat) => 2 + (i : Int) * 2
  | [], pa => by simp [vals]
  | x :: as, pa => by
    simp only [vals, List.length_cons, List.range'_succ, List.map_cons]
    rw [vals_0 as (x :: pa), ed_nil]
    simp only [List.length_cons]
    congr 1
    omega
theorem row0_vals (a : List Nat) : row0 a.length = vals [] [] a := by
  rw [vals_0]; unfold row0; rw [List.range_eq_range']; rfl
theorem levD_spec {a b : List Nat} (ha : a ≠ []) (hb : b ≠ []) (mc : Int) : Tells (ed a b) mc (levD a b mc) := by
  unfold levD
  split
  · rename_i h
    have := (ed_len a b).1
    exact .inr ⟨rfl, by omega⟩
  · have S := rows_spec ha mc b [] 0
    rw [row0_vals]
    simp only [List.length_nil, List.append_nil, ed_rev, if_neg hb] at S
    generalize rows a mc b 0 (vals [] [] a) 0 = q at S ⊢
    obtain ⟨r, c⟩ := q
    cases c with
    | true => obtain ⟨h1, h2⟩ := S.1 rfl; rw [ed_comm]; exact .inr ⟨h1, h2⟩
    | false => rw [ed_comm]; exact .inl (S.2 rfl)
theorem levC_spec {a b : List Nat} (la : a.length ≤ 40) (lb : b.length ≤ 40) (mc : Int) : Tells (ed a b) mc (levC a b mc) := by
  unfold levC
  split
  · rename_i h
    left
    rcases h with h | h
    · subst h; rw [ed_nil]; simp
    · subst h; rw [ed_nil']; simp
  · rename_i h
    have ha : a ≠ [] := fun q => h (.inl q)
    have hb : b ≠ [] := fun q => h (.inr q)
    rw [if_neg (by omega)]
    split
    · rw [ed_comm]; exact levD_spec hb ha mc
    · exact levD_spec ha hb mc
theorem levP_spec {a b : List Nat} (la : a.length ≤ 40) (lb : b.length ≤ 40) (mc : Int) : Tells (ed a b) mc (levP a b mc) := by
  unfold levP
  split
  · rename_i h; subst h; rw [ed_self]; exact .inl rfl
  · have h1 : (cut1 a b).1.length ≤ 40 ∧ (cut1 a b).2.length ≤ 40 := by simp [cut1]; omega
    have h2 : (cut2 (cut1 a b).1 (cut1 a b).2).1.length ≤ 40 ∧ (cut2 (cut1 a b).1 (cut1 a b).2).2.length ≤ 40 := by simp [cut2]; omega
    have := levC_spec h2.1 h2.2 mc
    rw [ed_cut2, ed_cut1] at this
    exact this
end Mine
end
section
open PySem
namespace Mine
noncomputable def leqR (u h : List Nat) (m : Nat) : Bool := leq (u.take m) (h.take m) m
/-- Bruhat's order, asked at the marks -/
noncomputable def bel (u h : List Nat) : Bool := (mkN u).all fun m => leqR u h m
noncomputable def fall (u : List Nat) (k : Nat) : Bool := decide (itN u (k + 1) < itN u k)
noncomputable def stepB (u h : List Nat) (k : Nat) : Bool := bel u (stN h k) == (bel u h || (fall u k && bel (chg u k) h))
noncomputable abbrev stepsB (us : List (List Nat)) : Bool := us.all fun u => (R6.take 71).all fun h => (List.range 4).all fun k => stepB u h k
theorem st_a : stepsB (R6.take 10) = true := by decide +kernel
theorem st_b : stepsB ((R6.drop 10).take 10) = true := by decide +kernel
theorem st_c : stepsB ((R6.drop 20).take 10) = true := by decide +kernel
theorem st_d : stepsB ((R6.drop 30).take 10) = true := by decide +kernel
theorem st_e : stepsB ((R6.drop 40).take 9) = true := by decide +kernel
theorem step_ok {u h : List Nat} {k : Nat} (hu : u ∈ R4) (hh : h ∈ R6.take 71) (hk : k < 4) : bel u (stN h k) = (bel u h || (fall u k && bel (chg u k) h)) := by
  have hs : R4 = R6.take 10 ++ ((R6.drop 10).take 10 ++ ((R6.drop 20).take 10 ++ ((R6.drop 30).take 10 ++ (R6.drop 40).take 9))) := by decide +kernel
  have g : ∀ us, stepsB us = true → u ∈ us → bel u (stN h k) = (bel u h || (fall u k && bel (chg u k) h)) := fun us q m => by
    have h1 := List.all_eq_true.mp q u m
    have h2 := List.all_eq_true.mp h1 h hh
    have h3 := List.all_eq_true.mp h2 k (List.mem_range.mpr hk)
    exact beq_iff_eq.mp h3
  rw [hs] at hu
  rcases List.mem_append.mp hu with m | hu
  · exact g _ st_a m
  rcases List.mem_append.mp hu with m | hu
  · exact g _ st_b m
  rcases List.mem_append.mp hu with m | hu
  · exact g _ st_c m
  rcases List.mem_append.mp hu with m | hu
  · exact g _ st_d m
  · exact g _ st_e hu
noncomputable abbrev turnsB (us : List (List Nat)) : Bool := us.all fun u => R6.all fun h => bel u h == bel (ivN u) (ivN h)
theorem tn_a : turnsB (R6.take 25) = true := by decide +kernel
theorem tn_b : turnsB ((R6.drop 25).take 24) = true := by decide +kernel
theorem turn_ok {u h : List Nat} (hu : u ∈ R4) (hh : h ∈ R6) : bel u h = bel (ivN u) (ivN h) := by
  have hs : R4 = R6.take 25 ++ (R6.drop 25).take 24 := by decide +kernel
  have g : ∀ us, turnsB us = true → u ∈ us → bel u h = bel (ivN u) (ivN h) := fun us q m => by
    have h1 := List.all_eq_true.mp q u m
    exact beq_iff_eq.mp (List.all_eq_true.mp h1 h hh)
  rw [hs] at hu
  rcases List.mem_append.mp hu with m | hu
  · exact g _ tn_a m
  · exact g _ tn_b hu
theorem iv_R4 : ∀ u ∈ R4, ivN u ∈ R4 := by decide +kernel
theorem iv_R6 : ∀ u ∈ R6, ivN u ∈ R6 := by decide +kernel
theorem ways_rec : ∀ u ∈ R4, ways 5 u = (if (List.range 4).all (fun k => !fall u k) then [[]] else (List.range 4).flatMap fun k => if fall u k then (ways 5 (chg u k)).map fun w => w ++ [97 + k] else []) := by decide +kernel
theorem chg_R4 : ∀ u ∈ R4, ∀ k, k < 4 → fall u k = true → chg u k ∈ R4 := by decide +kernel
theorem base_ok : ∀ u ∈ R4, ((ways 5 u).any fun w => w.isEmpty) = bel u [0, 1, 2, 3, 4] := by decide +kernel
theorem ways_ltr : ∀ u ∈ R4, ∀ w ∈ ways 5 u, w.length ≤ 4 ∧ ∀ x ∈ w, x ∈ [97, 98, 99, 100] := by decide +kernel
theorem ways_few : ∀ u ∈ R4, (ways 5 u).length ≤ 8 := by decide +kernel
theorem perm5 : ∀ u ∈ R6, u.length = 5 ∧ u.Nodup ∧ ∀ v ∈ u, v < 5 := by decide +kernel
theorem marks5 : ∀ u ∈ R4, ∀ m ∈ mkN u, 0 < m ∧ m ≤ 5 := by decide +kernel
end Mine
end
section
open PySem
namespace Mine
noncomputable def ldR : List Nat → List Nat
  | [] => [0, 1, 2, 3, 4]
  | k :: rs => stN (ldR rs) k
theorem ldR_eq (rs : List Nat) : ldN rs.reverse = ldR rs := by
  unfold ldN
  rw [List.foldl_reverse]
  induction rs with
  | nil => rfl
  | cons k rs ih => rw [List.foldr_cons, ih]; rfl
theorem up_71 : ∀ n ∈ [1, 5, 14, 29, 49, 71], ∀ r ∈ R6.take n, r ∈ R6.take 71 := by decide +kernel
theorem lv_all {rs : List Nat} (hk : ∀ k ∈ rs, k < 4) : (rs.length = 4 → ldR rs ∈ R4) ∧ (rs.length ≤ 5 → ldR rs ∈ R6.take 71) ∧ (rs.length ≤ 6 → ldR rs ∈ R6) := by
  have l0 : ldR [] ∈ R6.take 1 := by decide
  have st : ∀ {p : Nat × Nat} {r : List Nat} {k : Nat}, p ∈ [(1, 5), (5, 14), (14, 29), (29, 49), (49, 71), (71, 91)] → r ∈ R6.take p.1 → k < 4 → stN r k ∈ R6.take p.2 := fun hp hr hk => R_step _ hp _ hr _ hk
  have l1 : ∀ a, a < 4 → ldR [a] ∈ R6.take 5 := fun a ha => st (p := (1, 5)) (by decide) l0 ha
  have l2 : ∀ a b, a < 4 → b < 4 → ldR [a, b] ∈ R6.take 14 := fun a b ha hb => st (p := (5, 14)) (by decide) (l1 b hb) ha
  have l3 : ∀ a b c, a < 4 → b < 4 → c < 4 → ldR [a, b, c] ∈ R6.take 29 := fun a b c ha hb hc => st (p := (14, 29)) (by decide) (l2 b c hb hc) ha
  have l4 : ∀ a b c d, a < 4 → b < 4 → c < 4 → d < 4 → ldR [a, b, c, d] ∈ R6.take 49 := fun a b c d ha hb hc hd => st (p := (29, 49)) (by decide) (l3 b c d hb hc hd) ha
  have l5 : ∀ a b c d e, a < 4 → b < 4 → c < 4 → d < 4 → e < 4 → ldR [a, b, c, d, e] ∈ R6.take 71 := fun a b c d e ha hb hc hd he => st (p := (49, 71)) (by decide) (l4 b c d e hb hc hd he) ha
  have l6 : ∀ a b c d e f, a < 4 → b < 4 → c < 4 → d < 4 → e < 4 → f < 4 → ldR [a, b, c, d, e, f] ∈ R6.take 91 := fun a b c d e f ha hb hc hd he hf => st (p := (71, 91)) (by decide) (l5 b c d e f hb hc hd he hf) ha
  have m5 : rs.length ≤ 5 → ldR rs ∈ R6.take 71 := fun h => by
    match rs, hk, h with
    | [], hk, _ => exact up_71 1 (by decide) _ l0
    | [a], hk, _ => exact up_71 5 (by decide) _ (l1 a (hk a (by simp)))
    | [a, b], hk, _ => exact up_71 14 (by decide) _ (l2 a b (hk a (by simp)) (hk b (by simp)))
    | [a, b, c], hk, _ => exact up_71 29 (by decide) _ (l3 a b c (hk a (by simp)) (hk b (by simp)) (hk c (by simp)))
    | [a, b, c, d], hk, _ => exact up_71 49 (by decide) _ (l4 a b c d (hk a (by simp)) (hk b (by simp)) (hk c (by simp)) (hk d (by simp)))
    | [a, b, c, d, e], hk, _ => exact l5 a b c d e (hk a (by simp)) (hk b (by simp)) (hk c (by simp)) (hk d (by simp)) (hk e (by simp))
    | _ :: _ :: _ :: _ :: _ :: _ :: _, _, h => simp at h
  refine ⟨fun h => ?_, m5, fun h => ?_⟩
  · match rs, hk, h with
    | [a, b, c, d], hk, _ => exact l4 a b c d (hk a (by simp)) (hk b (by simp)) (hk c (by simp)) (hk d (by simp))
  · by_cases h5 : rs.length ≤ 5
    · exact List.mem_of_mem_take (m5 h5)
    · match rs, hk, h, h5 with
      | [a, b, c, d, e, f], hk, _, _ => exact List.mem_of_mem_take (l6 a b c d e f (hk a (by simp)) (hk b (by simp)) (hk c (by simp)) (hk d (by simp)) (hk e (by simp)) (hk f (by simp)))
      | [], _, _, h5 => simp at h5
      | [_], _, _, h5 => simp at h5
      | [_, _], _, _, h5 => simp at h5
      | [_, _, _], _, _, h5 => simp at h5
      | [_, _, _, _], _, _, h5 => simp at h5
      | [_, _, _, _, _], _, _, h5 => simp at h5
      | _ :: _ :: _ :: _ :: _ :: _ :: _ :: _, _, h, _ => simp at h
theorem tx_snoc (rs : List Nat) (k : Nat) : tx (k :: rs).reverse = tx rs.reverse ++ [97 + k] := by
  simp [tx]
theorem sub_snoc {w t : List Nat} {x : Nat} : w.Sublist (t ++ [x]) ↔ w.Sublist t ∨ ∃ w', w = w' ++ [x] ∧ w'.Sublist t := by
  rw [List.sublist_append_iff]
  constructor
  · rintro ⟨l1, l2, rfl, h1, h2⟩
    rcases List.sublist_cons_iff.mp h2 with h | ⟨r, h, h3⟩
    · have := List.sublist_nil.mp h; subst this
      left; simpa using h1
    · have := List.sublist_nil.mp h3; subst this; subst h
      right; exact ⟨l1, rfl, h1⟩
  · rintro (h | ⟨w', rfl, h⟩)
    · exact ⟨w, [], by simp, h, List.nil_sublist _⟩
    · exact ⟨w', [x], rfl, h, List.Sublist.refl _⟩
/-- by leaving letters out just the lower rows are met -/
theorem reach_iff : ∀ (rs : List Nat), (∀ k ∈ rs, k < 4) → rs.length ≤ 6 → ∀ u ∈ R4, (∃ w ∈ ways 5 u, w.Sublist (tx rs.reverse)) ↔ bel u (ldR rs) = true
  | [], _, _, u, hu => by
    rw [show ldR [] = [0, 1, 2, 3, 4] from rfl, ← base_ok u hu, List.any_eq_true]
    constructor
    · rintro ⟨w, hw, h⟩
      have : w = [] := List.sublist_nil.mp h
      subst this; exact ⟨[], hw, rfl⟩
    · rintro ⟨w, hw, h⟩
      have : w = [] := List.isEmpty_iff.mp h
      subst this; exact ⟨[], hw, List.nil_sublist _⟩
  | k :: rs, hk, hl, u, hu => by
    have hk' : ∀ q ∈ rs, q < 4 := fun q hq => hk q (List.mem_cons_of_mem _ hq)
    have hl' : rs.length ≤ 5 := by simp at hl; omega
    have k4 := hk k List.mem_cons_self
    have hh := (lv_all hk').2.1 hl'
    rw [show ldR (k :: rs) = stN (ldR rs) k from rfl, step_ok hu hh k4, Bool.or_eq_true, Bool.and_eq_true]
    rw [← reach_iff rs hk' (by omega) u hu, tx_snoc]
    have rec' := ways_rec u hu
    constructor
    · rintro ⟨w, hw, h⟩
      rcases sub_snoc.mp h with h1 | ⟨w', rfl, h1⟩
      · exact .inl ⟨w, hw, h1⟩
      · right
        rw [rec'] at hw
        split at hw
        · have := List.mem_singleton.mp hw
          simp at this
        · obtain ⟨j, hj, hw⟩ := List.mem_flatMap.mp hw
          split at hw
          · rename_i hf
            obtain ⟨v, hv, e⟩ := List.mem_map.mp hw
            have e2 := List.append_inj' e rfl
            obtain ⟨rfl, e3⟩ := e2
            have : j = k := by simp at e3; omega
            subst this
            exact ⟨hf, (reach_iff rs hk' (by omega) _ (chg_R4 u hu j k4 hf)).mp ⟨v, hv, h1⟩⟩
          · simp at hw
    · rintro (⟨w, hw, h⟩ | ⟨hf, hb⟩)
      · exact ⟨w, hw, sub_snoc.mpr (.inl h)⟩
      · obtain ⟨v, hv, h⟩ := (reach_iff rs hk' (by omega) _ (chg_R4 u hu k k4 hf)).mpr hb
        refine ⟨v ++ [97 + k], ?_, sub_snoc.mpr (.inr ⟨v, rfl, h⟩)⟩
        rw [rec', if_neg]
        · refine List.mem_flatMap.mpr ⟨k, List.mem_range.mpr k4, ?_⟩
          rw [if_pos hf]
          exact List.mem_map.mpr ⟨v, hv, rfl⟩
        · intro q
          have := List.all_eq_true.mp q k (List.mem_range.mpr k4)
          rw [hf] at this; cases this
end Mine
end
section
open PySem
namespace Mine
noncomputable abbrev abcd : List Nat := [97, 98, 99, 100]
theorem sc_abcd : ∀ a ∈ abcd, ∀ b ∈ abcd, sc a b % 2 = 0 ∧ (sc a b = 0 → a = b) := by decide
theorem aln_abcd {w t : List Nat} {c : Nat} (h : Aln w t c) : (∀ x ∈ w, x ∈ abcd) → (∀ x ∈ t, x ∈ abcd) → c % 2 = 0 ∧ (c + 2 * w.length = 2 * t.length → w.Sublist t) := by
  induction h with
  | nil => intro _ _; exact ⟨rfl, fun _ => List.Sublist.refl _⟩
  | del a hh ih =>
    intro hw ht
    obtain ⟨h1, h2⟩ := ih (fun x hx => hw x (List.mem_cons_of_mem _ hx)) ht
    have := aln_len hh
    exact ⟨by omega, fun q => by simp only [List.length_cons] at q; omega⟩
  | ins b hh ih =>
    intro hw ht
    obtain ⟨h1, h2⟩ := ih hw (fun x hx => ht x (List.mem_cons_of_mem _ hx))
    exact ⟨by omega, fun q => List.Sublist.cons _ (h2 (by simp only [List.length_cons] at q; omega))⟩
  | sub a b hh ih =>
    intro hw ht
    obtain ⟨h1, h2⟩ := ih (fun x hx => hw x (List.mem_cons_of_mem _ hx)) (fun x hx => ht x (List.mem_cons_of_mem _ hx))
    have s := sc_abcd a (hw a List.mem_cons_self) b (ht b List.mem_cons_self)
    have := aln_len hh
    refine ⟨by omega, fun q => ?_⟩
    simp only [List.length_cons] at q
    have e := s.2 (by omega)
    subst e
    exact List.Sublist.cons_cons _ (h2 (by omega))
theorem aln_sub {w t : List Nat} (h : w.Sublist t) : Aln w t (2 * t.length - 2 * w.length) := by
  induction h with
  | slnil => exact .nil
  | cons a hh ih =>
    rename_i l1 l2
    have := hh.length_le
    have q := Aln.ins a ih
    rw [show 2 * l2.length - 2 * l1.length + 2 = 2 * (a :: l2).length - 2 * l1.length by simp only [List.length_cons]; omega] at q
    exact q
  | cons_cons a hh ih =>
    rename_i l1 l2
    have q := Aln.sub a a ih
    rw [sc_self, Nat.add_zero, show 2 * l2.length - 2 * l1.length = 2 * (a :: l2).length - 2 * (a :: l1).length by simp only [List.length_cons]; omega] at q
    exact q
theorem told_ok {w t : List Nat} (hw : ∀ x ∈ w, x ∈ abcd) (ht : ∀ x ∈ t, x ∈ abcd) (lw : w.length ≤ 40) (lt : t.length ≤ 40) (hl : w.length ≤ t.length) {odd : Nat} (ho : odd < 2) :
    more w t ≤ toldP w t odd ∧ (odd = 1 → toldP w t odd % 2 = 0) ∧ ((toldP w t odd == more w t) = true ↔ w.Sublist t) := by
  have hed := aln_abcd (ed_al w t) hw ht
  have hlen := (ed_len w t).1
  have hsub : ((ed w t : Int) = more w t) ↔ w.Sublist t := by
    unfold more
    constructor
    · intro h; exact hed.2 (by omega)
    · intro h
      have := ed_le (aln_sub h)
      omega
  have hm : more w t ≤ (ed w t : Int) := by unfold more; omega
  have hpar : more w t % 2 = 0 := by unfold more; omega
  unfold toldP
  by_cases h1 : odd = 1
  · rw [if_pos h1]
    have T := levP_spec lw lt (more w t + 1)
    rcases T with h | ⟨h, h2⟩
    · rw [h]
      refine ⟨hm, fun _ => by omega, ?_⟩
      rw [beq_iff_eq]; exact hsub
    · rw [h]
      refine ⟨by omega, fun _ => by omega, ?_⟩
      rw [beq_iff_eq]
      constructor
      · intro q; omega
      · intro q; have := hsub.mpr q; omega
  · rw [if_neg h1]
    have T := levP_spec lt lw (more w t)
    rw [ed_comm] at T
    rcases T with h | ⟨h, h2⟩
    · rw [h]
      refine ⟨hm, fun q => absurd q h1, ?_⟩
      rw [beq_iff_eq]; exact hsub
    · rw [h]
      refine ⟨by omega, fun q => absurd q h1, ?_⟩
      rw [beq_iff_eq]
      constructor
      · intro q; omega
      · intro q; have := hsub.mpr q; omega
/-- places rise -/
structure Up (ps : List Nat) : Prop where
  len : ps.length = 5
  mono : ∀ a b, a < 5 → b < 5 → (a ≤ b ↔ pAt ps a ≤ pAt ps b)
  lt : ∀ a, a < 5 → pAt ps a < 32
theorem ins_map {f : Nat → Nat} {x : Nat} : ∀ {l : List Nat}, (∀ y ∈ l, (x ≤ y ↔ f x ≤ f y)) → insN (f x) (l.map f) = (insN x l).map f
  | [], _ => rfl
  | y :: l, h => by
    have hy := h y List.mem_cons_self
    simp only [List.map_cons, insN]
    by_cases q : x ≤ y
    · rw [if_pos q, if_pos (hy.mp q)]; rfl
    · rw [if_neg q, if_neg (fun r => q (hy.mpr r)), ins_map fun z hz => h z (List.mem_cons_of_mem _ hz)]; rfl
theorem srt_map {f : Nat → Nat} {P : Nat → Prop} (hf : ∀ a b, P a → P b → (a ≤ b ↔ f a ≤ f b)) : ∀ {l : List Nat}, (∀ x ∈ l, P x) → srt (l.map f) = (srt l).map f
  | [], _ => rfl
  | x :: l, h => by
    simp only [List.map_cons, srt]
    rw [srt_map hf fun y hy => h y (List.mem_cons_of_mem _ hy), ins_map fun y hy => ?_]
    exact hf x y (h x List.mem_cons_self) (h y (List.mem_cons_of_mem _ ((srt_perm l).mem_iff.mp hy)))
theorem pl_good {ps row : List Nat} {m : Nat} (U : Up ps) (hr : row.length = 5 ∧ row.Nodup ∧ ∀ v ∈ row, v < 5) (hm : m ≤ 5) : Good m (pls ps row m) := by
  have hv : ∀ v ∈ row.take m, v < 5 := fun v h => hr.2.2 v (List.mem_of_mem_take h)
  refine ⟨by simp [pls, hr.1]; omega, ?_, fun p hp => ?_⟩
  · unfold pls
    have nd : (row.take m).Nodup := hr.2.1.sublist (List.take_sublist _ _)
    refine List.Pairwise.map _ (fun a b h => h) ?_
    have : ∀ {l : List Nat}, (∀ v ∈ l, v < 5) → l.Nodup → l.Pairwise fun a b => pAt ps a ≠ pAt ps b := by
      intro l
      induction l with
      | nil => intro _ _; exact List.Pairwise.nil
      | cons a l ih =>
        intro hv nd
        have nd' := List.pairwise_cons.mp nd
        refine List.pairwise_cons.mpr ⟨fun b hb e => ?_, ih (fun v h => hv v (List.mem_cons_of_mem _ h)) nd'.2⟩
        have va := hv a List.mem_cons_self
        have vb := hv b (List.mem_cons_of_mem _ hb)
        have h1 := (U.mono a b va vb).mpr (by omega)
        have h2 := (U.mono b a vb va).mpr (by omega)
        exact nd'.1 b hb (by omega)
    exact this hv nd
  · obtain ⟨v, hv', rfl⟩ := List.mem_map.mp hp
    exact U.lt v (hv v hv')
theorem leq_rank {ps low high : List Nat} {m : Nat} (U : Up ps) (hl : low.length = 5 ∧ low.Nodup ∧ ∀ v ∈ low, v < 5) (hh : high.length = 5 ∧ high.Nodup ∧ ∀ v ∈ high, v < 5) (hm : m ≤ 5) : leq (pls ps low m) (pls ps high m) m = leqR low high m := by
  have key : ∀ {row : List Nat}, (row.length = 5 ∧ row.Nodup ∧ ∀ v ∈ row, v < 5) → srt (pls ps row m) = (srt (row.take m)).map (pAt ps) ∧ (∀ i, i < m → i < (srt (row.take m)).length) ∧ ∀ i, i < m → pAt (srt (row.take m)) i < 5 := fun {row} hr => by
    have hv : ∀ v ∈ row.take m, v < 5 := fun v h => hr.2.2 v (List.mem_of_mem_take h)
    have hlen : (srt (row.take m)).length = m := by rw [srt_len, List.length_take, hr.1]; omega
    refine ⟨srt_map (P := fun v => v < 5) (fun a b ha hb => U.mono a b ha hb) hv, fun i hi => by omega, fun i hi => ?_⟩
    have h1 : i < (srt (row.take m)).length := by omega
    have : pAt (srt (row.take m)) i ∈ srt (row.take m) := by unfold pAt; rw [List.getElem?_eq_getElem h1]; exact List.getElem_mem h1
    exact hv _ ((srt_perm _).mem_iff.mp this)
  obtain ⟨e1, l1, b1⟩ := key hl
  obtain ⟨e2, l2, b2⟩ := key hh
  have at' : ∀ {l : List Nat} {i : Nat}, i < l.length → pAt (l.map (pAt ps)) i = pAt ps (pAt l i) := fun {l i} h => by
    unfold pAt
    rw [List.getElem?_map, List.getElem?_eq_getElem h]; rfl
  unfold leqR leq
  rw [e1, e2, Bool.eq_iff_iff, List.all_eq_true, List.all_eq_true]
  constructor
  · intro h i hi
    have hi' := List.mem_range.mp hi
    have := of_decide_eq_true (h i hi)
    rw [at' (l1 i hi'), at' (l2 i hi')] at this
    exact decide_eq_true ((U.mono _ _ (b1 i hi') (b2 i hi')).mpr this)
  · intro h i hi
    have hi' := List.mem_range.mp hi
    have := of_decide_eq_true (h i hi)
    rw [at' (l1 i hi'), at' (l2 i hi')]
    exact decide_eq_true ((U.mono _ _ (b1 i hi') (b2 i hi')).mp this)
/-- what _law_below tells is Bruhat's order -/
theorem below_ok (d : Nat) {low high ps : List Nat} (U : Up ps) (hl : low ∈ R4) (hh : high ∈ R6) : FF defs2 base2 (d + 2) 91 [.lst (nv low), .lst (nv high), .lst (nv ps), .lst nmV] (.bool (bel low high)) := by
  have pl := perm5 low (List.mem_of_mem_take hl)
  have ph := perm5 high hh
  have e : ((mkN low).all fun m => leq (pls ps low m) (pls ps high m) m) = bel low high := by
    unfold bel
    rw [Bool.eq_iff_iff, List.all_eq_true, List.all_eq_true]
    exact forall_congr' fun m => forall_congr' fun hm => by rw [leq_rank U pl ph (marks5 low hl m hm).2]
  rw [← e]
  exact bl2_ok d (mk_ok d hl) (fun v hv => U.len ▸ pl.2.2 v hv) (fun v hv => U.len ▸ ph.2.2 v hv) (pl.1 ▸ Nat.le_refl _) (ph.1 ▸ Nat.le_refl _) fun m hm =>
    have := marks5 low hl m hm
    ⟨this.1, pl_good U pl this.2, pl_good U ph this.2⟩
end Mine
end
section
open PySem
namespace Mine
theorem fifteen {row : List Int} (h : row.length = 15) : ∃ s0 s1 s2 s3 s4 s5 s6 s7 s8 s9 s10 s11 s12 s13 s14, row = [s0, s1, s2, s3, s4, s5, s6, s7, s8, s9, s10, s11, s12, s13, s14] := 
  match row, h with
  | [s0, s1, s2, s3, s4, s5, s6, s7, s8, s9, s10, s11, s12, s13, s14], _ => ⟨s0, s1, s2, s3, s4, s5, s6, s7, s8, s9, s10, s11, s12, s13, s14, rfl⟩
theorem at_lt {ps : List Nat} {v : Nat} (h : v < ps.length) : pAt ps v = ps[v] := by unfold pAt; rw [List.getElem?_eq_getElem h]; rfl
theorem up_of {ps : List Nat} (hl : ps.length = 5) (h1 : ps.Pairwise (· < ·)) (h2 : ∀ p ∈ ps, p < 32) : Up ps where
  len := hl
  mono a b ha hb := by
    rw [at_lt (hl ▸ ha), at_lt (hl ▸ hb)]
    refine ⟨fun h => ?_, fun h => Nat.le_of_not_lt fun q => Nat.not_le_of_lt (List.pairwise_iff_getElem.mp h1 _ _ (hl ▸ hb) (hl ▸ ha) q) h⟩
    rcases Nat.lt_or_eq_of_le h with q | q
    · exact Nat.le_of_lt (List.pairwise_iff_getElem.mp h1 _ _ (hl ▸ ha) (hl ▸ hb) q)
    · subst q; exact Nat.le_refl _
  lt a ha := at_lt (ps := ps) (hl ▸ ha) ▸ h2 _ (List.getElem_mem _)
theorem mods_nv {m : Nat} (hm : 0 < m) : ∀ (l : List Int), iv (l.map fun s => s.fmod (m : Int)) = nv (l.map (md m))
  | [] => rfl
  | s :: l => congr (congrArg List.cons (congrArg V.int (fmod_md hm s))) (mods_nv hm l)
theorem mods_lt {m : Nat} (hm : 0 < m) {l : List Int} : ∀ k ∈ l.map (md m), k < m := fun k hk => by
  obtain ⟨s, _, rfl⟩ := List.mem_map.mp hk
  exact md_lt hm s
/-- the places, from the first on -/
noncomputable def stairs (p : Nat) : List Int → List Nat
  | [] => [p]
  | s :: l => p :: stairs (p + 1 + md 6 s) l
theorem stairs_up : ∀ (l : List Int) (p : Nat), (stairs p l).Pairwise (· < ·) ∧ ∀ q ∈ stairs p l, p ≤ q ∧ q ≤ p + 6 * l.length
  | [], p => ⟨List.pairwise_singleton _ _, fun q hq => List.mem_singleton.mp hq ▸ ⟨Nat.le_refl _, Nat.le_add_right _ _⟩⟩
  | s :: l, p => by
    have ih := stairs_up l (p + 1 + md 6 s)
    have h6 := md_lt (m := 6) (by decide) s
    refine ⟨List.pairwise_cons.mpr ⟨fun q hq => Nat.lt_of_lt_of_le (Nat.lt_of_lt_of_le (Nat.lt_succ_self p) (Nat.le_add_right _ _)) (ih.2 q hq).1, ih.1⟩, fun q hq => ?_⟩
    rw [List.length_cons]
    rcases List.mem_cons.mp hq with h | h
    · subst h; exact ⟨Nat.le_refl _, Nat.le_add_right _ _⟩
    · have := ih.2 q h; omega
theorem stairs_len : ∀ (l : List Int) (p : Nat), (stairs p l).length = l.length + 1
  | [], _ => rfl
  | _ :: l, _ => congrArg Nat.succ (stairs_len l _)
noncomputable def stairI (p : Int) : List Int → List Int
  | [] => [p]
  | s :: l => p :: stairI (p + 1 + f6 s) l
theorem stairs_nv : ∀ (l : List Int) (p : Nat), iv (stairI p l) = nv (stairs p l)
  | [], _ => rfl
  | s :: l, p => congrArg (List.cons (V.int p)) (by
    rw [show (p : Int) + 1 + f6 s = ((p + 1 + md 6 s : Nat) : Int) from congrArg (fun x : Int => (p : Int) + 1 + x) (fmod_md (by decide) s)]
    exact stairs_nv l _)
theorem tx_abcd {ls : List Nat} (h : ∀ k ∈ ls, k < 4) : ∀ x ∈ tx ls, x ∈ abcd := fun x hx => by
  obtain ⟨k, hk, rfl⟩ := List.mem_map.mp hx
  exact four_of (P := fun k => 97 + k ∈ abcd) (by decide) (by decide) (by decide) (by decide) (h k hk)
/-- the ways met are the lower rows -/
theorem met_bel {l1 l2 : List Nat} (k2 : ∀ k ∈ l2, k < 4) (n2 : l2.length = 6) (low4 : ldN l1 ∈ R4) (told : ∀ w ∈ ways 5 (ldN l1), ∀ odd, odd < 2 → ((toldP w (tx l2) odd == more w (tx l2)) = true ↔ w.Sublist (tx l2))) :
    ((ways 5 (ldN l1)).zipIdx.map fun p => toldP p.1 (tx l2) (p.2 % 2) == more p.1 (tx l2)).any id = bel (ldN l1) (ldN l2) := by
  have R := reach_iff l2.reverse (fun k hk => k2 k (List.mem_reverse.mp hk)) (by rw [List.length_reverse, n2]; decide) (ldN l1) low4
  rw [List.reverse_reverse, ← ldR_eq, List.reverse_reverse] at R
  rw [Bool.eq_iff_iff, ← R, List.any_map, List.any_eq_true]
  constructor
  · rintro ⟨⟨w, k⟩, hp, h⟩
    have hm : w ∈ ways 5 (ldN l1) := (List.mem_zipIdx hp).2.2 ▸ List.getElem_mem _
    exact ⟨w, hm, (told w hm (k % 2) (Nat.mod_lt _ (by decide))).mp h⟩
  · rintro ⟨w, hm, h⟩
    obtain ⟨k, hk, e⟩ := List.getElem_of_mem hm
    exact ⟨(w, k), List.mem_zipIdx_iff_getElem?.mpr (e ▸ List.getElem?_eq_getElem hk), (told w hm (k % 2) (Nat.mod_lt _ (by decide))).mpr h⟩
theorem law2_true (vs : List Int) : FF defs2 base2 12 96 [.lst (vs.map .int)] (.bool true) := by
  obtain ⟨row, hr, hS⟩ := sd2_ok 10 vs
  obtain ⟨s0, s1, s2, s3, s4, s5, s6, s7, s8, s9, s10, s11, s12, s13, s14, rfl⟩ := fifteen hr
  have e1 := mods_nv (m := 4) (by decide) [s0, s1, s2, s3]
  have e2 := mods_nv (m := 4) (by decide) [s4, s5, s6, s7, s8, s9]
  have e3 := stairs_nv [s11, s12, s13, s14] (md 8 s10)
  have k1 : ∀ k ∈ [s0, s1, s2, s3].map (md 4), k < 4 := mods_lt (by decide)
  have k2 : ∀ k ∈ [s4, s5, s6, s7, s8, s9].map (md 4), k < 4 := mods_lt (by decide)
  have n1 : ([s0, s1, s2, s3].map (md 4)).length = 4 := rfl
  have n2 : ([s4, s5, s6, s7, s8, s9].map (md 4)).length = 6 := rfl
  have U : Up (stairs (md 8 s10) [s11, s12, s13, s14]) := 
    have q := stairs_up [s11, s12, s13, s14] (md 8 s10)
    up_of (stairs_len _ _) q.1 fun p hp => Nat.lt_of_le_of_lt (q.2 p hp).2 (Nat.add_lt_add_right (md_lt (m := 8) (by decide) s10) 24)
  rw [← fmod_md (m := 8) (by decide) s10] at e3
  generalize [s0, s1, s2, s3].map (md 4) = l1 at *
  generalize [s4, s5, s6, s7, s8, s9].map (md 4) = l2 at *
  generalize stairs (md 8 s10) [s11, s12, s13, s14] = ps at *
  have low4 : ldN l1 ∈ R4 := by
    have := (lv_all (rs := l1.reverse) (fun k hk => k1 k (List.mem_reverse.mp hk))).1 ((List.length_reverse ..).trans n1)
    rwa [← ldR_eq, List.reverse_reverse] at this
  have high6 : ldN l2 ∈ R6 := by
    have := (lv_all (rs := l2.reverse) (fun k hk => k2 k (List.mem_reverse.mp hk))).2.2 (Nat.le_of_eq ((List.length_reverse ..).trans n2))
    rwa [← ldR_eq, List.reverse_reverse] at this
  have tl : (tx l2).length = 6 := (List.length_map ..).trans n2
  have wl : ∀ w ∈ ways 5 (ldN l1), w.length ≤ 4 ∧ ∀ x ∈ w, x ∈ abcd := ways_ltr _ low4
  have told : ∀ w ∈ ways 5 (ldN l1), ∀ odd, odd < 2 → more w (tx l2) ≤ toldP w (tx l2) odd ∧ (odd = 1 → toldP w (tx l2) odd % 2 = 0) ∧ ((toldP w (tx l2) odd == more w (tx l2)) = true ↔ w.Sublist (tx l2)) := fun w hw odd ho =>
    have q := wl w hw
    told_ok q.2 (tx_abcd k2) (Nat.le_trans q.1 (by decide)) (tl ▸ (by decide)) (tl ▸ Nat.le_trans q.1 (by decide)) ho
  have S0 : ∀ x ∈ abcd, x ∈ Sg0 := by decide
  have hB2 : FF defs2 base2 11 91 [.lst (nv (ivN (ldN l1))), .lst (nv (ivN (ldN l2))), .lst (nv ps), .lst nmV] (.bool (bel (ldN l1) (ldN l2))) := turn_ok low4 high6 ▸ below_ok 9 U (iv_R4 _ low4) (iv_R6 _ high6)
  have met := lw2_met (G := FF defs2 base2 11) (x := .lst (iv vs)) (y := .lst (iv [s0, s1, s2, s3, s4, s5, s6, s7, s8, s9, s10, s11, s12, s13, s14])) (high := ldN l2) (fun hw ht lw lt ho h1 h2 => met_ok 8 hw ht lw lt ho h1 h2) (ways_ok 5 _ low4) (Nat.lt_of_le_of_lt (ways_few _ low4) (by decide)) (fun x hx => S0 x (tx_abcd k2 x hx)) (tl ▸ (by decide))
    (fun w hw => ⟨fun x hx => S0 x ((wl w hw).2 x hx), Nat.lt_of_le_of_lt (wl w hw).1 (by decide)⟩) fun w hw odd ho => ⟨(told w hw odd ho).1, (told w hw odd ho).2.1⟩
  have hb := met_bel k2 n2 low4 fun w hw odd ho => (told w hw odd ho).2.2
  rw [show (fun p : List Nat × Nat => V.bool (toldP p.1 (tx l2) (p.2 % 2) == more p.1 (tx l2))) = V.bool ∘ fun p => toldP p.1 (tx l2) (p.2 % 2) == more p.1 (tx l2) from rfl, ← List.map_map] at met
  exact FnOK.step (f := lw2) (by kernel_rfl) (law2_body hS e1 e2 e3 (ld2_nat 9 k1) (ld2_nat 9 k2) (lw2_text k2 (Nat.lt_of_le_of_lt (Nat.le_of_eq n2) (by decide))) met (pf_0 10) (pf_1 10) (pf_2 10) (nm_ok 10) (lw2_turned (List.mem_of_mem_take low4) high6) (below_ok 9 U low4 high6) hB2 hb)
end Mine
end

theorem PySem.Challenge.cw_wn0049_02_holds : PySem.Challenge.rw_wn0049_02.Holds :=
  Mine.law2_holds fun script _ => Mine.law2_true script
