import PyProof.Rows.All
import Wide.All
import OpenK.AllK
import Wide.FinOn
import PySem.Challenge.RW_pg0284_01
set_option Elab.async false
set_option genInjectivity false
set_option genSizeOf false
set_option genSizeOfSpec false
open PySem PySem.W PySem.Calls PyProof.Rows
namespace Mine

/-- value trees -/
inductive T where
  | none
  | bool (b : Bool)
  | int (i : Int)
  | str (s : Str)
  | list (l : List T)
  | tup (l : List T)
  | ws (raw : Str) (n nt : Int) (norm : T) (simple : Bool)

/-- what stands fast through the call -/
structure GC where
  prog : Program
  w : World
  K : Frag
  mg : Str → Option Value
  mb : Str → Option Value
  p : Program
  loose : List Str
  C : Addr
  h0 : Heap
  kin : K.In h0
  top : TopRead p loose mg mb h0

noncomputable abbrev GC.M (g : GC) : Model := model g.prog g.w

inductive LRep (h : Heap) (W : Addr → Prop) (P : List Value → Prop) (v : Value) : Prop
  | mk (a : Addr) (xs : Array Value) (n : Nat) (e : v = .ref a) (hw : ¬ W a) (hl : IsL h a xs n) (hr : P xs.toList)
inductive TRep (h : Heap) (W : Addr → Prop) (P : List Value → Prop) (v : Value) : Prop
  | mk (a : Addr) (xs : Array Value) (n : Nat) (e : v = .ref a) (hw : ¬ W a) (hl : h.get? a = some { cls := .type "tuple", data := .seq xs n }) (hr : P xs.toList)
inductive WsRep (C : Addr) (h : Heap) (W : Addr → Prop) (raw : Str) (n nt : Int) (simple : Bool) (P : Value → Prop) (v : Value) : Prop
  | mk (a dx : Addr) (od : Obj) (t1 t2 t3 : Tok) (nv : Value) (e : v = .ref a) (hw : ¬ W a) (ha : h.get? a = some (instObj C dx)) (hwd : ¬ W dx) (hd : h.get? dx = some od)
    (l1 : lookIn "raw" od = some (some (.str raw t1))) (l2 : lookIn "n" od = some (some (.int n t2))) (l3 : lookIn "nt" od = some (some (.int nt t3)))
    (l4 : lookIn "norm" od = some (some nv)) (l5 : lookIn "is_simple" od = some (some (.bool simple)))
    (l6 : lookIn "less" od = some none) (l7 : lookIn "indent_level" od = some none) (l8 : lookIn "longest_run_of_spaces" od = some none) (hr : P nv)

mutual
noncomputable def Rep (C : Addr) (h : Heap) (W : Addr → Prop) : T → Value → Prop
  | .none, v => v = .none
  | .bool b, v => v = .bool b
  | .int i, v => ∃ t, v = .int i t
  | .str x, v => ∃ t, v = .str x t
  | .list ts, v => LRep h W (RepL C h W ts) v
  | .tup ts, v => TRep h W (RepL C h W ts) v
  | .ws raw n nt norm simple, v => WsRep C h W raw n nt simple (Rep C h W norm) v
noncomputable def RepL (C : Addr) (h : Heap) (W : Addr → Prop) : List T → List Value → Prop
  | [], vs => vs = []
  | t :: ts, vs => ∃ v r, vs = v :: r ∧ Rep C h W t v ∧ RepL C h W ts r
end

mutual
theorem Rep.mono {C : Addr} {h h' : Heap} {W W' : Addr → Prop} (hk : ∀ a o, h.get? a = some o → ¬ W a → h'.get? a = some o ∧ ¬ W' a) :
    ∀ (t : T) (v : Value), Rep C h W t v → Rep C h' W' t v
  | .none, _, x => by simp only [Rep] at *; exact x
  | .bool b, _, x => by simp only [Rep] at *; exact x
  | .int i, _, x => by simp only [Rep] at *; exact x
  | .str y, _, x => by simp only [Rep] at *; exact x
  | .list ts, _, x => by
      simp only [Rep] at *
      obtain ⟨a, xs, n, e, hw, hl, hr⟩ := x
      have := hk a _ hl hw
      exact ⟨a, xs, n, e, this.2, this.1, RepL.mono hk ts _ hr⟩
  | .tup ts, _, x => by
      simp only [Rep] at *
      obtain ⟨a, xs, n, e, hw, hl, hr⟩ := x
      have := hk a _ hl hw
      exact ⟨a, xs, n, e, this.2, this.1, RepL.mono hk ts _ hr⟩
  | .ws raw n nt norm simple, _, x => by
      simp only [Rep] at *
      obtain ⟨a, dx, od, t1, t2, t3, nv, e, hw, ha, hwd, hd, l1, l2, l3, l4, l5, l6, l7, l8, hr⟩ := x
      have h1 := hk a _ ha hw
      have h2 := hk dx _ hd hwd
      exact ⟨a, dx, od, t1, t2, t3, nv, e, h1.2, h1.1, h2.2, h2.1, l1, l2, l3, l4, l5, l6, l7, l8, Rep.mono hk norm _ hr⟩
theorem RepL.mono {C : Addr} {h h' : Heap} {W W' : Addr → Prop} (hk : ∀ a o, h.get? a = some o → ¬ W a → h'.get? a = some o ∧ ¬ W' a) :
    ∀ (ts : List T) (vs : List Value), RepL C h W ts vs → RepL C h' W' ts vs
  | [], _, x => by simp only [RepL] at *; exact x
  | t :: ts, _, x => by
      simp only [RepL] at *
      obtain ⟨v, r, e, hv, hr⟩ := x
      exact ⟨v, r, e, Rep.mono hk t _ hv, RepL.mono hk ts _ hr⟩
end

section
variable {C : Addr} {h : Heap} {W : Addr → Prop}
theorem RepL.length : ∀ {ts : List T} {vs : List Value}, RepL C h W ts vs → vs.length = ts.length
  | [], _, x => by simp only [RepL] at x; rw [x]; rfl
  | _ :: _, _, x => by
      simp only [RepL] at x
      obtain ⟨v, r, rfl, _, hr⟩ := x
      simp [RepL.length hr]
theorem RepL.get : ∀ {ts : List T} {vs : List Value} {i : Nat} {t : T}, RepL C h W ts vs → ts[i]? = some t → ∃ v, vs[i]? = some v ∧ Rep C h W t v
  | [], _, _, _, _, e => by simp at e
  | t :: ts, _, i, u, x, e => by
      simp only [RepL] at x
      obtain ⟨v, r, rfl, hv, hr⟩ := x
      cases i with
      | zero => simp at e; subst e; exact ⟨v, by simp, hv⟩
      | succ i =>
        simp only [List.getElem?_cons_succ] at e
        obtain ⟨w, hw, hr'⟩ := RepL.get hr e
        exact ⟨w, by simpa using hw, hr'⟩
theorem RepL.get' : ∀ {ts : List T} {vs : List Value} {i : Nat} {v : Value}, RepL C h W ts vs → vs[i]? = some v → ∃ t, ts[i]? = some t ∧ Rep C h W t v
  | [], _, _, _, x, e => by simp only [RepL] at x; rw [x] at e; simp at e
  | t :: ts, _, i, u, x, e => by
      simp only [RepL] at x
      obtain ⟨v, r, rfl, hv, hr⟩ := x
      cases i with
      | zero => simp at e; subst e; exact ⟨t, by simp, hv⟩
      | succ i =>
        simp only [List.getElem?_cons_succ] at e
        obtain ⟨w, hw, hr'⟩ := RepL.get' hr e
        exact ⟨w, by simpa using hw, hr'⟩
theorem RepL.append : ∀ {ts us : List T} {vs ws : List Value}, RepL C h W ts vs → RepL C h W us ws → RepL C h W (ts ++ us) (vs ++ ws)
  | [], _, _, _, x, y => by simp only [RepL] at x; rw [x]; exact y
  | t :: ts, _, _, _, x, y => by
      simp only [RepL] at x
      obtain ⟨v, r, rfl, hv, hr⟩ := x
      simp only [List.cons_append, RepL]
      exact ⟨v, _, rfl, hv, RepL.append hr y⟩
theorem RepL.of_get : ∀ {ts : List T} {vs : List Value}, vs.length = ts.length → (∀ (i : Nat) (t : T) (v : Value), ts[i]? = some t → vs[i]? = some v → Rep C h W t v) → RepL C h W ts vs
  | [], vs, e, _ => by
      have : vs = [] := by simpa using e
      simp [RepL, this]
  | t :: ts, [], e, _ => by simp at e
  | t :: ts, v :: vs, e, hh => by
      simp only [RepL]
      exact ⟨v, vs, rfl, hh 0 t v (by simp) (by simp), RepL.of_get (by simpa using e) fun i t' v' e1 e2 => hh (i + 1) t' v' (by simpa using e1) (by simpa using e2)⟩
theorem RepL.snoc {ts : List T} {vs : List Value} {t : T} {v : Value} (x : RepL C h W ts vs) (y : Rep C h W t v) : RepL C h W (ts ++ [t]) (vs ++ [v]) :=
  x.append (by simp only [RepL]; exact ⟨v, [], rfl, y, rfl⟩)
theorem RepL.nil : RepL C h W [] [] := by simp [RepL]
theorem RepL.cons {t : T} {v : Value} {ts : List T} {vs : List Value} (y : Rep C h W t v) (x : RepL C h W ts vs) : RepL C h W (t :: ts) (v :: vs) := by
  simp only [RepL]; exact ⟨v, vs, rfl, y, x⟩
theorem RepL.ints {is : List Int} {vs : List Value} (x : RepL C h W (is.map T.int) vs) : IntsAre vs is := by
  induction is generalizing vs with
  | nil => simp only [List.map_nil, RepL] at x; subst x; exact .nil
  | cons i r ih =>
    simp only [List.map_cons, RepL, Rep] at x
    obtain ⟨v, r', rfl, ⟨t, rfl⟩, hr⟩ := x
    exact .cons _ _ (ih hr)
theorem RepL.strs {is : List Str} {vs : List Value} (x : RepL C h W (is.map T.str) vs) : StrsAre vs is := by
  induction is generalizing vs with
  | nil => simp only [List.map_nil, RepL] at x; subst x; exact .nil
  | cons i r ih =>
    simp only [List.map_cons, RepL, Rep] at x
    obtain ⟨v, r', rfl, ⟨t, rfl⟩, hr⟩ := x
    exact .cons _ _ (ih hr)
theorem RepL.take {ts : List T} {vs : List Value} (x : RepL C h W ts vs) (k : Nat) : RepL C h W (ts.take k) (vs.take k) := by
  have := x.length
  refine .of_get (by simp [this]) fun i t v e1 e2 => ?_
  rw [List.getElem?_take] at e1 e2
  split at e1
  · rename_i hi
    rw [if_pos hi] at e2
    obtain ⟨v', hv', hr⟩ := x.get e1
    rw [hv'] at e2; cases e2; exact hr
  · cases e1
theorem RepL.drop {ts : List T} {vs : List Value} (x : RepL C h W ts vs) (k : Nat) : RepL C h W (ts.drop k) (vs.drop k) := by
  have := x.length
  refine .of_get (by simp [this]) fun i t v e1 e2 => ?_
  rw [List.getElem?_drop] at e1 e2
  obtain ⟨v', hv', hr⟩ := x.get e1
  rw [hv'] at e2; cases e2; exact hr
end

inductive LV where
  | val (t : T)
  | own (ts : List T)
  | obj (at' : Addr × List (String × T))
noncomputable def getA : List (String × T) → String → Option T
  | [], _ => none
  | (k, v) :: r, x => if k = x then some v else getA r x
noncomputable def setA : List (String × T) → String → T → List (String × T)
  | [], x, v => [(x, v)]
  | (k, u) :: r, x, v => if k = x then (x, v) :: r else (k, u) :: setA r x v
theorem getA_set (l : List (String × T)) (x y : String) (v : T) : getA (setA l x v) y = if x = y then some v else getA l y := by
  induction l with
  | nil => simp [setA, getA]
  | cons p r ih =>
    obtain ⟨k, u⟩ := p
    simp only [setA]
    split
    · rename_i hk
      subst hk
      simp only [getA]
      split <;> simp_all
    · rename_i hk
      simp only [getA, ih]
      split
      · rename_i hy
        subst hy
        have : ¬ x = k := fun e => hk e.symm
        simp [this]
      · rfl
noncomputable abbrev Loc := List (String × LV)
noncomputable def Loc.get : Loc → String → Option LV
  | [], _ => none
  | (k, v) :: r, x => if k = x then some v else Loc.get r x
noncomputable def Loc.set : Loc → String → LV → Loc
  | [], x, v => [(x, v)]
  | (k, u) :: r, x, v => if k = x then (x, v) :: r else (k, u) :: Loc.set r x v
theorem Loc.get_set (loc : Loc) (x y : String) (v : LV) : (Loc.set loc x v).get y = if x = y then some v else loc.get y := by
  induction loc with
  | nil => simp [Loc.set, Loc.get]
  | cons p r ih =>
    obtain ⟨k, u⟩ := p
    simp only [Loc.set]
    split
    · rename_i hk
      subst hk
      simp only [Loc.get]
      split <;> simp_all
    · rename_i hk
      simp only [Loc.get, ih]
      split
      · rename_i hy
        subst hy
        have : ¬ x = k := fun e => hk e.symm
        simp [this]
      · rfl

theorem ofString_inj {a b : String} (h : Str.ofString a = Str.ofString b) : a = b := by
  rw [Str.ofString_eq_toList, Str.ofString_eq_toList] at h
  have h2 : a.toList.map Char.toNat = b.toList.map Char.toNat := by simpa using h
  have h3 : a.toList = b.toList := by
    refine List.map_inj_right ?_ |>.mp h2
    intro x y e
    exact Char.toNat_inj.mp e
  exact String.toList_inj.mp h3

/-- where a name's value lies -/
noncomputable def At (env : Env) (h : Heap) (m : Str → Option Value) (x : String) (v : Value) : Prop :=
  (env.kindOf (Str.ofString x) = some .local ∧ m (Str.ofString x) = some v) ∨
  (env.kindOf (Str.ofString x) = some .cell ∧ ∃ c, env.cells.lookup (Str.ofString x) = some c ∧ h.IsCell c (some v))

noncomputable def AttrIs (C : Addr) (h : Heap) (W : Addr → Prop) (es : List DictEntry) (nm : String) : Option T → Prop
  | some t => ∃ v, getL (Str.ofString nm) es = some (some v) ∧ Rep C h W t v
  | none => getL (Str.ofString nm) es = some none
inductive OwnRep (h : Heap) (M : Addr → Prop) (P : List Value → Prop) (v : Value) : Prop
  | mk (a : Addr) (xs : Array Value) (n : Nat) (e : v = .ref a) (hM : M a) (hl : IsL h a xs n) (hr : P xs.toList)
inductive ObjRep (C : Addr) (h : Heap) (W M : Addr → Prop) (L a : Addr) (k : Nat) (P : List DictEntry → Prop) (v : Value) : Prop
  | mk (x dx : Addr) (es : List DictEntry) (n : Nat) (e : v = .ref x ∧ x = a) (hw : ¬ W x) (hx : h.get? x = some (instObj C dx)) (hM : M dx) (hne : dx ≠ L) (hd : h.get? dx = some (dictOf es n)) (hk : ∀ e ∈ es, ∃ k t, e.key = .str k t) (hl : es.length ≤ k) (ha : P es)
noncomputable def LVRep (C : Addr) (h : Heap) (W M : Addr → Prop) (L : Addr) : LV → Value → Prop
  | .val t, v => Rep C h W t v
  | .own ts, v => OwnRep h M (RepL C h W ts) v
  | .obj at', v => ObjRep C h W M L at'.1 at'.2.length (fun es => ∀ nm, AttrIs C h W es nm (getA at'.2 nm)) v

structure Base (g : GC) (W : Addr → Prop) (h : Heap) : Prop where
  keep0 : ∀ b o, g.h0.get? b = some o → h.get? b = some o ∧ ¬ W b
  live : ∀ a, h.get? a = none → ¬ W a

inductive Frm (g : GC) (env : Env) (loc : Loc) (W M : Addr → Prop) (h : Heap) : Prop
  | mk (m : Str → Option Value) (val : String → Value) (hn : h.Ns env.locals m) (hv : ∀ x lv, Loc.get loc x = some lv → At env h m x (val x) ∧ LVRep g.C h W M env.locals lv (val x))
    (hu : ∀ x y tx ty, Loc.get loc x = some (.own tx) → Loc.get loc y = some (.own ty) → val x = val y → x = y)
    (ho : ∀ x y a b, Loc.get loc x = some (.obj a) → Loc.get loc y = some (.obj b) → x = y)
structure Inv (g : GC) (env : Env) (loc : Loc) (W M : Addr → Prop) (h : Heap) : Prop where
  base : Base g W h
  kind : env.scope.kind = .function
  glob : env.globals = mainGlobals
  blt : env.builtins = builtinsNs
  MW : ∀ a, M a → W a
  ML : M env.locals
  cells : ∀ (x : String) c, env.kindOf (Str.ofString x) = some .cell → env.cells.lookup (Str.ofString x) = some c → (∃ v₀, h.IsCell c v₀) ∧ M c
  inj : ∀ (x y : String) c, env.cells.lookup (Str.ofString x) = some c → env.cells.lookup (Str.ofString y) = some c → x = y
  ex : Frm g env loc W M h

/-- from here to there: what is not of the frame's own stays -/
structure Step (s : Shared) (W M : Addr → Prop) (s' : Shared) (W' M' : Addr → Prop) : Prop where
  rest : ∃ h tk, s' = { s with heap := h, toks := tk }
  keep : ∀ a o, s.heap.get? a = some o → ¬ M a → s'.heap.get? a = some o
  live : ∀ a, s'.heap.get? a = none → s.heap.get? a = none
  Mnew : ∀ a, M' a → M a ∨ s.heap.get? a = none
  Wkeep : ∀ a, W a → ¬ M a → W' a
  Wnew : ∀ a, W' a → W a ∨ s.heap.get? a = none

noncomputable def Room (A : Around) (d : Nat) : Prop := A.handled = none ∧ A.depth + d ≤ 900 ∧ A.units + 20 * d ≤ 9000

inductive Fl where
  | next
  | brk
  | ret (t : T)
noncomputable def FlRep (C : Addr) (h : Heap) (W : Addr → Prop) : Fl → Flow → Prop
  | .next, f => f = .next
  | .brk, f => f = .brk
  | .ret t, f => ∃ v, f = .ret v ∧ Rep C h W t v

/-- what an expression, a statement leave behind -/
inductive FPost (g : GC) (s : Shared) (W : Addr → Prop) (ts : List T) (v : Value) (s' : Shared) : Prop
  | mk (a : Addr) (xs : Array Value) (n : Nat) (e : v = .ref a) (hn : s.heap.get? a = none) (hl : IsL s'.heap a xs n) (hr : RepL g.C s'.heap (fun b => W b ∨ b = a) ts xs.toList) (k : Keeps s s')
inductive TPost (g : GC) (s : Shared) (W : Addr → Prop) (ts : List T) (v : Value) (s' : Shared) : Prop
  | mk (a : Addr) (xs : Array Value) (n : Nat) (e : v = .ref a) (hl : IsL s'.heap a xs n) (hr : RepL g.C s'.heap W ts xs.toList) (k : Keeps s s')
inductive XPost (g : GC) (env : Env) (s : Shared) (W M : Addr → Prop) (Q : Fl → Loc → Prop) (f : Flow) (s' : Shared) : Prop
  | mk (W' M' : Addr → Prop) (loc' : Loc) (fl : Fl) (I : Inv g env loc' W' M' s'.heap) (st : Step s W M s' W' M') (hf : FlRep g.C s'.heap W' fl f) (hq : Q fl loc')
inductive CPost (g : GC) (s : Shared) (W : Addr → Prop) (t : T) (r : Result) (s' : Shared) : Prop
  | mk (v : Value) (e : r = .ok (.ret v)) (hr : Rep g.C s'.heap W t v) (k : Keeps s s')

noncomputable abbrev bot : Value → Shared → Prop := fun _ _ => False

section
variable (g : GC) (d : Nat) (env : Env) (loc : Loc)
structure Ev (e : Expr) (t : T) : Prop where
  run : ∀ A s W M, Room A d → Inv g env loc W M s.heap →
  wpAny g.M A (eval e env) (fun v s' => Rep g.C s'.heap W t v ∧ Keeps s s') bot s
structure EvF (e : Expr) (ts : List T) : Prop where
  run : ∀ A s W M, Room A d → Inv g env loc W M s.heap →
  wpAny g.M A (eval e env) (FPost g s W ts) bot s
structure EvT (e : Expr) (ts : List T) : Prop where
  run : ∀ A s W M, Room A d → Inv g env loc W M s.heap →
  wpAny g.M A (eval e env) (TPost g s W ts) bot s
structure EvB (e : Expr) (b : Bool) : Prop where
  run : ∀ A s W M, Room A d → Inv g env loc W M s.heap →
  wpAny g.M A (isTrue e env (eval e env)) (fun c s' => c = b ∧ Keeps s s') bot s
structure Ex (ss : List Stmt) (Q : Fl → Loc → Prop) : Prop where
  run : ∀ A s W M, Room A d → Inv g env loc W M s.heap →
  wpAny g.M A (execs ss env) (XPost g env s W M Q) bot s
/-- one statement -/
structure Ex1 (st : Stmt) (Q : Fl → Loc → Prop) : Prop where
  run : ∀ A s W M, Room A d → Inv g env loc W M s.heap →
  wpAny g.M A (exec st env) (XPost g env s W M Q) bot s
end

/-- a def's call -/
structure Calls (g : GC) (d : Nat) (f : Value) (args : List T) (t : T) : Prop where
  run : ∀ A s W vs, Room A d → Base g W s.heap → RepL g.C s.heap W args vs →
  codeAny g.M A (.call f ⟨vs, []⟩) (CPost g s W t) s

section
variable {g : GC} {W M W' M' W'' M'' : Addr → Prop} {s s' s'' : Shared}
theorem Step.refl : Step s W M s W M := ⟨⟨s.heap, s.toks, rfl⟩, fun _ _ e _ => e, fun _ e => e, fun _ h => .inl h, fun _ h _ => h, fun _ h => .inl h⟩
theorem Step.trans (x : Step s W M s' W' M') (y : Step s' W' M' s'' W'' M'') (hM : ∀ a, M a → W a) (hL : ∀ a, s.heap.get? a = none → ¬ W a) : Step s W M s'' W'' M'' where
  rest := by obtain ⟨h, t, rfl⟩ := x.rest; obtain ⟨h', t', rfl⟩ := y.rest; exact ⟨h', t', rfl⟩
  keep a o e hm := y.keep a o (x.keep a o e hm) fun hm' => by rcases x.Mnew a hm' with q | q; exact hm q; rw [e] at q; cases q
  live a e := x.live a (y.live a e)
  Mnew a h := by
    rcases y.Mnew a h with q | q
    · exact x.Mnew a q
    · exact .inr (x.live a q)
  Wkeep a h hm := by
    by_cases hm' : M' a
    · rcases x.Mnew a hm' with q | q
      · exact absurd q hm
      · exact absurd h (hL a q)
    · exact y.Wkeep a (x.Wkeep a h hm) hm'
  Wnew a h := by
    rcases y.Wnew a h with q | q
    · exact x.Wnew a q
    · exact .inr (x.live a q)
end
end Mine

open PySem PySem.W PySem.Calls PyProof.Rows
set_option linter.unusedVariables false
namespace Mine

theorem kr {s : Shared} : Keeps s s := ⟨s.heap, s.toks, rfl, fun _ _ e => e⟩
theorem kt {s s' s'' : Shared} (x : Keeps s s') (y : Keeps s' s'') : Keeps s s'' := by
  obtain ⟨h, t, rfl, k⟩ := x
  obtain ⟨h', t', rfl, k'⟩ := y
  exact ⟨h', t', rfl, fun b o e => k' b o (k b o e)⟩
theorem ktok {s : Shared} {t : Nat} : Keeps s { s with toks := t } := ⟨s.heap, t, rfl, fun _ _ e => e⟩
theorem kh {s : Shared} {h : Heap} {t : Nat} (k : ∀ b o, s.heap.get? b = some o → h.get? b = some o) : Keeps s { s with heap := h, toks := t } := ⟨h, t, rfl, k⟩
theorem kk {s s' : Shared} (x : Keeps s s') : ∀ b o, s.heap.get? b = some o → s'.heap.get? b = some o := by
  obtain ⟨h, t, rfl, k⟩ := x; exact k

section
variable {C : Addr} {s s' : Shared} {W : Addr → Prop}
theorem Rep.keeps {t : T} {v : Value} (x : Rep C s.heap W t v) (k : Keeps s s') : Rep C s'.heap W t v := Rep.mono (fun a o e h => ⟨kk k a o e, h⟩) t v x
theorem RepL.keeps {t : List T} {v : List Value} (x : RepL C s.heap W t v) (k : Keeps s s') : RepL C s'.heap W t v := RepL.mono (fun a o e h => ⟨kk k a o e, h⟩) t v x
end

theorem Base.keeps {g : GC} {W : Addr → Prop} {s s' : Shared} (x : Base g W s.heap) (k : Keeps s s') : Base g W s'.heap where
  keep0 b o e := ⟨kk k b o (x.keep0 b o e).1, (x.keep0 b o e).2⟩
  live a e := x.live a (by cases q : s.heap.get? a with
    | none => rfl
    | some o => rw [kk k a o q] at e; cases e)

/-- a frame's facts, carried over a change -/
theorem lvMove {C L : Addr} {h h' : Heap} {W M W' M' : Addr → Prop} {lv : LV} {v : Value} (hc : ∀ a o, h.get? a = some o → ¬ W a → h'.get? a = some o ∧ ¬ W' a) (hm : ∀ a o, h.get? a = some o → M a → h'.get? a = some o ∧ M' a) (x : LVRep C h W M L lv v) : LVRep C h' W' M' L lv v := by
  cases lv with
  | val t => exact Rep.mono hc t _ x
  | own ts =>
    obtain ⟨a, xs, n, e, hM, hl, hr⟩ := x
    have := hm _ _ hl hM
    exact ⟨a, xs, n, e, this.2, this.1, RepL.mono hc ts _ hr⟩
  | obj at' =>
    obtain ⟨x, dx, es, n, e, hw, hx, hM, hne, hd, hk, hl, ha⟩ := x
    have h1 := hc _ _ hx hw
    have h2 := hm _ _ hd hM
    refine ⟨x, dx, es, n, e, h1.2, h1.1, h2.2, hne, h2.1, hk, hl, fun nm => ?_⟩
    have := ha nm
    cases q : getA at'.2 nm with
    | none => rw [q] at this; exact this
    | some t => rw [q] at this; obtain ⟨v, e1, e2⟩ := this; exact ⟨v, e1, Rep.mono hc _ _ e2⟩
theorem atMove {env : Env} {h h' : Heap} {m : Str → Option Value} {x : String} {v : Value} (hm : ∀ c o, env.kindOf (Str.ofString x) = some .cell → env.cells.lookup (Str.ofString x) = some c → h.get? c = some o → h'.get? c = some o) (a : At env h m x v) : At env h' m x v := by
  rcases a with ha | ⟨hk, c, hl, o, ho, hd⟩
  · exact .inl ha
  · exact .inr ⟨hk, c, hl, o, hm c o hk hl ho, hd⟩

theorem Inv.move {g : GC} {env : Env} {loc : Loc} {W M W' M' : Addr → Prop} {h h' : Heap} (I : Inv g env loc W M h)
    (hc : ∀ a o, h.get? a = some o → ¬ W a → h'.get? a = some o ∧ ¬ W' a)
    (hm : ∀ a o, h.get? a = some o → M a → h'.get? a = some o ∧ M' a)
    (hMW : ∀ a, M' a → W' a) (hl : ∀ a, h'.get? a = none → ¬ W' a) : Inv g env loc W' M' h' where
  base := ⟨fun b o e => hc b o (I.base.keep0 b o e).1 (I.base.keep0 b o e).2, hl⟩
  kind := I.kind
  glob := I.glob
  blt := I.blt
  MW := hMW
  ML := by
    obtain ⟨m, val, ⟨o, es, ep, ho, _⟩, _⟩ := I.ex
    exact (hm _ _ ho I.ML).2
  cells x c e1 e2 := by
    obtain ⟨⟨v₀, o, ho, hd⟩, hM⟩ := I.cells x c e1 e2
    exact ⟨⟨v₀, o, (hm _ _ ho hM).1, hd⟩, (hm _ _ ho hM).2⟩
  inj := I.inj
  ex := by
    obtain ⟨m, val, hn, hv, hu, ho⟩ := I.ex
    exact ⟨m, val, hn.at' fun o e => (hm _ _ e I.ML).1, fun x lv e => ⟨atMove (fun c o hk hl e => (hm _ _ e (I.cells x c hk hl).2).1) (hv x lv e).1, lvMove hc hm (hv x lv e).2⟩, hu, ho⟩

theorem Inv.keeps {g : GC} {env : Env} {loc : Loc} {W M : Addr → Prop} {s s' : Shared} (I : Inv g env loc W M s.heap) (k : Keeps s s') : Inv g env loc W M s'.heap :=
  I.move (fun a o e h => ⟨kk k a o e, h⟩) (fun a o e h => ⟨kk k a o e, h⟩) I.MW (I.base.keeps k).live

theorem nS {α : Type} {o : α} {P : Prop} (h : none = some o) : P := by cases h
theorem Inv.wide {g : GC} {env : Env} {loc : Loc} {W M V : Addr → Prop} {s s' : Shared} (I : Inv g env loc W M s.heap) (k : Keeps s s') (hn : ∀ a, V a → s.heap.get? a = none) (hs : ∀ a, V a → (s'.heap.get? a).isSome) : Inv g env loc (fun b => W b ∨ V b) M s'.heap :=
  I.move (fun b o e hw => ⟨kk k b o e, fun q => q.elim hw fun q => nS ((hn b q).symm.trans e)⟩) (fun b o e hm => ⟨kk k b o e, hm⟩) (fun b q => .inl (I.MW b q)) fun b e q => q.elim ((I.base.keeps k).live b e) fun q => by have := hs b q; rw [e] at this; cases this

theorem Room.mono {A : Around} {d d' : Nat} (R : Room A d) (h : d' ≤ d) : Room A d' := ⟨R.1, by have := R.2.1; (first | lia | omega), by have := R.2.2; (first | lia | omega)⟩

section
variable {g : GC} {d : Nat} {env : Env} {loc : Loc}

theorem ef {α : Type} {E : Value → Shared → Prop} : ∀ (e : Value) (s : Shared), bot e s → E e s := fun _ _ h => h.elim
noncomputable abbrev M' (g : GC) : Model := g.M

section
variable {e : Expr} {t : T} {ts : List T} {b : Bool} {E : Value → Shared → Prop}
theorem Ev.to (h : Ev g d env loc e t) (A s W M) (R : Room A d) (I : Inv g env loc W M s.heap) {Q : Value → Shared → Prop} (k : ∀ v s', Rep g.C s'.heap W t v → Keeps s s' → Q v s') : wpAny g.M A (eval e env) Q E s :=
  wpAny_mono (h.run A s W M R I) (fun v s' x => k v s' x.1 x.2) fun _ _ h => h.elim
theorem EvF.to (h : EvF g d env loc e ts) (A s W M) (R : Room A d) (I : Inv g env loc W M s.heap) {Q : Value → Shared → Prop} (k : ∀ v s' a xs n, v = .ref a → s.heap.get? a = none → IsL s'.heap a xs n → RepL g.C s'.heap (fun b => W b ∨ b = a) ts xs.toList → Keeps s s' → Q v s') : wpAny g.M A (eval e env) Q E s :=
  wpAny_mono (h.run A s W M R I) (fun v s' ⟨a, xs, n, e, hn, hl, hr, q⟩ => k v s' a xs n e hn hl hr q) fun _ _ h => h.elim
theorem EvT.to (h : EvT g d env loc e ts) (A s W M) (R : Room A d) (I : Inv g env loc W M s.heap) {Q : Value → Shared → Prop} (k : ∀ v s' a xs n, v = .ref a → IsL s'.heap a xs n → RepL g.C s'.heap W ts xs.toList → Keeps s s' → Q v s') : wpAny g.M A (eval e env) Q E s :=
  wpAny_mono (h.run A s W M R I) (fun v s' ⟨a, xs, n, e, hl, hr, q⟩ => k v s' a xs n e hl hr q) fun _ _ h => h.elim
theorem EvB.to (h : EvB g d env loc e b) (A s W M) (R : Room A d) (I : Inv g env loc W M s.heap) {Q : Bool → Shared → Prop} (k : ∀ c s', c = b → Keeps s s' → Q c s') : wpAny g.M A (isTrue e env (eval e env)) Q E s :=
  wpAny_mono (h.run A s W M R I) (fun v s' x => k v s' x.1 x.2) fun _ _ h => h.elim
theorem Ex.to {ss : List Stmt} {P : Fl → Loc → Prop} (h : Ex g d env loc ss P) (A s W M) (R : Room A d) (I : Inv g env loc W M s.heap) {Q : Flow → Shared → Prop} (k : ∀ f s' W' M' loc' fl, Inv g env loc' W' M' s'.heap → Step s W M s' W' M' → FlRep g.C s'.heap W' fl f → P fl loc' → Q f s') : wpAny g.M A (execs ss env) Q E s :=
  wpAny_mono (h.run A s W M R I) (fun f s' ⟨W', M', l, fl, a, b, c, q⟩ => k f s' W' M' l fl a b c q) fun _ _ h => h.elim
theorem Ex1.to {st : Stmt} {P : Fl → Loc → Prop} (h : Ex1 g d env loc st P) (A s W M) (R : Room A d) (I : Inv g env loc W M s.heap) {Q : Flow → Shared → Prop} (k : ∀ f s' W' M' loc' fl, Inv g env loc' W' M' s'.heap → Step s W M s' W' M' → FlRep g.C s'.heap W' fl f → P fl loc' → Q f s') : wpAny g.M A (exec st env) Q E s :=
  wpAny_mono (h.run A s W M R I) (fun f s' ⟨W', M', l, fl, a, b, c, q⟩ => k f s' W' M' l fl a b c q) fun _ _ h => h.elim
end

theorem ev_int {i : Int} {k : Nat} {pos : Pos} : Ev g d env loc (.Constant (.int i) k pos) (.int i) := .mk fun A s W M R I =>
  wpAny_Constant_int ⟨by simp only [Rep]; exact ⟨_, rfl⟩, ktok⟩
theorem ev_bool {b : Bool} {k : Nat} {pos : Pos} : Ev g d env loc (.Constant (.bool b) k pos) (.bool b) := .mk fun A s W M R I =>
  Constant_bool ⟨by simp only [Rep], kr⟩
theorem ev_none {k : Nat} {pos : Pos} : Ev g d env loc (.Constant .none k pos) .none := .mk fun A s W M R I =>
  Constant_none ⟨by simp only [Rep], kr⟩
theorem ev_str {x : Str} {k : Nat} {pos : Pos} : Ev g d env loc (.Constant (.str x) k pos) (.str x) := .mk fun A s W M R I =>
  Constant_str ⟨by simp only [Rep]; exact ⟨_, rfl⟩, ktok⟩

theorem ev_name {x : String} {pos : Pos} {t : T} (hl : Loc.get loc x = some (.val t)) (hd : (Str.ofString x == ("__debug__" : Str)) = false := by decide +kernel) :
    Ev g d env loc (.Name (Str.ofString x) pos) t := .mk fun A s W M R I => by
  obtain ⟨m, val, hn, hv, _⟩ := I.ex
  obtain ⟨ha, hr⟩ := hv x _ hl
  rcases ha with ⟨hk, hm⟩ | ⟨hk, c, hc, hi⟩
  · exact wpAny_Name (wpAny_loadName_local I.kind hk hn hm ⟨hr, kr⟩) hd
  · exact wpAny_Name (wpAny_loadName_cell I.kind hk hc hi ⟨hr, kr⟩) hd
theorem evT_own {x : String} {pos : Pos} {ts : List T} (hl : Loc.get loc x = some (.own ts)) (hd : (Str.ofString x == ("__debug__" : Str)) = false := by decide +kernel) :
    EvT g d env loc (.Name (Str.ofString x) pos) ts := .mk fun A s W M R I => by
  obtain ⟨m, val, hn, hv, _⟩ := I.ex
  obtain ⟨ha, a, xs, n, e, hM, hL, hr⟩ := hv x _ hl
  rcases ha with ⟨hk, hm⟩ | ⟨hk, c, hc, hi⟩
  · exact wpAny_Name (wpAny_loadName_local I.kind hk hn hm ⟨a, xs, n, e, hL, hr, kr⟩) hd
  · exact wpAny_Name (wpAny_loadName_cell I.kind hk hc hi ⟨a, xs, n, e, hL, hr, kr⟩) hd
theorem evT_val {e : Expr} {ts : List T} (h : Ev g d env loc e (.list ts)) : EvT g d env loc e ts := .mk fun A s W M R I =>
  h.to A s W M R I (fun v s' hr k => by
    simp only [Rep] at hr
    obtain ⟨a, xs, n, e, _, hl, hr⟩ := hr
    exact ⟨a, xs, n, e, hl, hr, k⟩)
theorem evT_fresh {e : Expr} {ts : List T} (h : EvF g d env loc e ts) : EvT g d env loc e ts := .mk fun A s W M R I =>
  h.to A s W M R I (fun v s' a xs n e hn hl hr k =>
    ⟨a, xs, n, e, hl, RepL.mono (fun b o e h => ⟨e, fun q => h (.inl q)⟩) _ _ hr, k⟩)
theorem ev_fresh {e : Expr} {ts : List T} (h : EvF g d env loc e ts) : Ev g d env loc e (.list ts) := .mk fun A s W M R I =>
  h.to A s W M R I (fun v s' a xs n e hn hl hr k => ⟨by
    simp only [Rep]
    exact ⟨a, xs, n, e, I.base.live a hn, hl, RepL.mono (fun b o e h => ⟨e, fun q => h (.inl q)⟩) _ _ hr⟩, k⟩)

/-- a name of the top that holds plain data -/
noncomputable def GlobIs (g : GC) (x : Str) (t : T) : Prop := ∃ v, g.mg x = some v ∧ ∀ h W, Rep g.C h W t v
theorem globNs {W : Addr → Prop} {h : Heap} (B : Base g W h) : h.Ns mainGlobals g.mg := g.top.g.keeps fun b o e => (B.keep0 b o e).1
theorem bltNs {W : Addr → Prop} {h : Heap} (B : Base g W h) : h.Ns builtinsNs g.mb := g.top.b.keeps fun b o e => (B.keep0 b o e).1
theorem ev_glob {x : Str} {pos : Pos} {t : T} (hk : env.kindOf x = some .globalImplicit) (hg : GlobIs g x t) (hd : (x == ("__debug__" : Str)) = false := by decide +kernel) :
    Ev g d env loc (.Name x pos) t := .mk fun A s W M R I => by
  obtain ⟨v, hv, hr⟩ := hg
  exact Name_function_global I.kind hk (loadGlobal_global (by rw [I.glob]; exact globNs I.base) hv ⟨hr _ _, kr⟩) hd
/-- a name of the top that holds anything: its value -/
theorem nm_glob {A : Around} {s : Shared} {W M : Addr → Prop} {x : Str} {pos : Pos} {v : Value} {Q : Value → Shared → Prop} {E : Value → Shared → Prop} (I : Inv g env loc W M s.heap) (hk : env.kindOf x = some .globalImplicit) (hv : g.mg x = some v)
    (h : Q v s) (hd : (x == ("__debug__" : Str)) = false) : wpAny g.M A (eval (.Name x pos) env) Q E s :=
  Name_function_global I.kind hk (loadGlobal_global (by rw [I.glob]; exact globNs I.base) hv h) hd
theorem nm_blt {A : Around} {s : Shared} {W M : Addr → Prop} {x : Str} {pos : Pos} {v : Value} {Q : Value → Shared → Prop} {E : Value → Shared → Prop} (I : Inv g env loc W M s.heap) (hk : env.kindOf x = some .globalImplicit) (hmiss : g.mg x = none)
    (hv : bootBuiltins x = some v) (hn : x ≠ "__name__") (h : Q v s) (hd : (x == ("__debug__" : Str)) = false) : wpAny g.M A (eval (.Name x pos) env) Q E s :=
  Name_function_global I.kind hk (loadGlobal_builtin (by rw [I.glob]; exact globNs I.base) hmiss (by rw [I.blt]; exact bltNs I.base) ((g.top.builtins x hn).trans hv) h) hd
end

section
variable (g : GC)
/-- what an operation gives, on any values that show these trees -/
structure BinS (op : Operator) (a b t : T) : Prop where
  run : ∀ A s W v u, Room A 0 → Base g W s.heap → Rep g.C s.heap W a v → Rep g.C s.heap W b u →
  wpAny g.M A (binaryOp op v u) (fun r s' => Rep g.C s'.heap W t r ∧ Keeps s s') bot s
structure CmpS (op : CmpOp) (a b : T) (r : Bool) : Prop where
  run : ∀ A s W v u, Room A 0 → Base g W s.heap → Rep g.C s.heap W a v → Rep g.C s.heap W b u →
  wpAny g.M A (compareOp op v u) (fun c s' => c = .bool r ∧ Keeps s s') bot s
structure TruS (a : T) (r : Bool) : Prop where
  run : ∀ A s W v, Room A 0 → Base g W s.heap → Rep g.C s.heap W a v →
  wpAny g.M A (truthy v) (fun c s' => c = r ∧ Keeps s s') bot s
end
section
variable {g : GC} {E : Value → Shared → Prop} {op : Operator} {cop : CmpOp} {a b t : T} {r : Bool}
theorem BinS.to (h : BinS g op a b t) (A s W v u) (R : Room A 0) (B : Base g W s.heap) (x : Rep g.C s.heap W a v) (y : Rep g.C s.heap W b u) {Q : Value → Shared → Prop} (k : ∀ r s', Rep g.C s'.heap W t r → Keeps s s' → Q r s') : wpAny g.M A (binaryOp op v u) Q E s :=
  wpAny_mono (h.run A s W v u R B x y) (fun v s' x => k v s' x.1 x.2) fun _ _ h => h.elim
theorem CmpS.to (h : CmpS g cop a b r) (A s W v u) (R : Room A 0) (B : Base g W s.heap) (x : Rep g.C s.heap W a v) (y : Rep g.C s.heap W b u) {Q : Value → Shared → Prop} (k : ∀ c s', c = .bool r → Keeps s s' → Q c s') : wpAny g.M A (compareOp cop v u) Q E s :=
  wpAny_mono (h.run A s W v u R B x y) (fun v s' x => k v s' x.1 x.2) fun _ _ h => h.elim
theorem TruS.to (h : TruS g a r) (A s W v) (R : Room A 0) (B : Base g W s.heap) (x : Rep g.C s.heap W a v) {Q : Bool → Shared → Prop} (k : ∀ c s', c = r → Keeps s s' → Q c s') : wpAny g.M A (truthy v) Q E s :=
  wpAny_mono (h.run A s W v R B x) (fun v s' x => k v s' x.1 x.2) fun _ _ h => h.elim
end

section
variable {g : GC} {d : Nat} {env : Env} {loc : Loc}
theorem ev_bin {l r : Expr} {op : Operator} {pos : Pos} {a b t : T} (h1 : Ev g d env loc l a) (h2 : Ev g d env loc r b) (hb : BinS g op a b t) : Ev g d env loc (.BinOp l op r pos) t := .mk fun A s W M R I =>
  wpAny_BinOp (h1.to A s W M R I (fun v s₁ r₁ k₁ => h2.to A s₁ W M R (I.keeps k₁) (fun u s₂ r₂ k₂ =>
    hb.to A s₂ W v u (R.mono (Nat.zero_le _)) (I.keeps (kt k₁ k₂)).base (r₁.keeps k₂) r₂ (fun c s₃ r₃ k₃ => ⟨r₃, kt (kt k₁ k₂) k₃⟩))))
theorem ev_cmp {l r : Expr} {op : CmpOp} {pos : Pos} {a b : T} {c : Bool} (h1 : Ev g d env loc l a) (h2 : Ev g d env loc r b) (hb : CmpS g op a b c) (hm : behindInMarks op r = false := by with_unfolding_all rfl) :
    Ev g d env loc (.Compare l [op] [r] pos) (.bool c) := .mk fun A s W M R I =>
  wpAny_Compare1 (h1.to A s W M R I (fun v s₁ r₁ k₁ => h2.to A s₁ W M R (I.keeps k₁) (fun u s₂ r₂ k₂ =>
    hb.to A s₂ W v u (R.mono (Nat.zero_le _)) (I.keeps (kt k₁ k₂)).base (r₁.keeps k₂) r₂ (fun c s₃ r₃ k₃ => ⟨by simp only [Rep]; exact r₃, kt (kt k₁ k₂) k₃⟩)))) hm
theorem evB_cmp {l r : Expr} {op : CmpOp} {pos : Pos} {a b : T} {c : Bool} (h1 : Ev g d env loc l a) (h2 : Ev g d env loc r b) (hb : CmpS g op a b c) (hm : behindInMarks op r = false := by with_unfolding_all rfl) :
    EvB g d env loc (.Compare l [op] [r] pos) c := .mk fun A s W M R I =>
  wpAny_isTrue_Compare1 (h1.to A s W M R I (fun v s₁ r₁ k₁ => h2.to A s₁ W M R (I.keeps k₁) (fun u s₂ r₂ k₂ =>
    hb.to A s₂ W v u (R.mono (Nat.zero_le _)) (I.keeps (kt k₁ k₂)).base (r₁.keeps k₂) r₂ (fun x s₃ r₃ k₃ => by
      subst r₃
      exact wpAny_truthy_bool ⟨rfl, kt (kt k₁ k₂) k₃⟩)))) hm
theorem evB_plain {e : Expr} {a : T} {c : Bool} (h : Ev g d env loc e a) (ht : TruS g a c) (he : ∀ env whole, isTrue e env whole = (do let v ← whole; standAt e.pos; holding [v] (truthy v)) := by intro _ _; rfl) : EvB g d env loc e c := .mk fun A s W M R I =>
  isTrue_plain (h.to A s W M R I (fun v s₁ r₁ k₁ => ht.to A s₁ W v (R.mono (Nat.zero_le _)) (I.keeps k₁).base r₁ (fun c s₂ e k₂ => ⟨e, kt k₁ k₂⟩))) (he _ _)
theorem evB_not {e : Expr} {pos : Pos} {c : Bool} (h : EvB g d env loc e c) : EvB g d env loc (.UnaryOp .Not e pos) (!c) := .mk fun A s W M R I =>
  isTrue_not (h.to A s W M R I (fun b s' e k => ⟨by rw [e], k⟩))
theorem evB_and_nil {pos : Pos} : EvB g d env loc (.BoolOp .And [] pos) true := .mk fun A s W M R I => isTrue_and_nil ⟨rfl, kr⟩
theorem evB_or_nil {pos : Pos} : EvB g d env loc (.BoolOp .Or [] pos) false := .mk fun A s W M R I => isTrue_or_nil ⟨rfl, kr⟩
theorem evB_and {e : Expr} {rest : List Expr} {pos : Pos} {a b : Bool} (h : EvB g d env loc e a) (hr : a = true → EvB g d env loc (.BoolOp .And rest pos) b) : EvB g d env loc (.BoolOp .And (e :: rest) pos) (a && b) := .mk fun A s W M R I =>
  isTrue_and (h.to A s W M R I (fun c s₁ e k₁ => by
    subst e
    cases c with
    | false => exact ⟨rfl, k₁⟩
    | true => exact (hr rfl).to A s₁ W M R (I.keeps k₁) (fun c s₂ e k₂ => ⟨by simpa using e, kt k₁ k₂⟩)))
theorem evB_or {e : Expr} {rest : List Expr} {pos : Pos} {a b : Bool} (h : EvB g d env loc e a) (hr : a = false → EvB g d env loc (.BoolOp .Or rest pos) b) : EvB g d env loc (.BoolOp .Or (e :: rest) pos) (a || b) := .mk fun A s W M R I =>
  isTrue_or (h.to A s W M R I (fun c s₁ e k₁ => by
    subst e
    cases c with
    | true => exact ⟨rfl, k₁⟩
    | false => exact (hr rfl).to A s₁ W M R (I.keeps k₁) (fun c s₂ e k₂ => ⟨by simpa using e, kt k₁ k₂⟩)))
theorem ev_if {test body orelse : Expr} {pos : Pos} {c : Bool} {t : T} (h : EvB g d env loc test c) (h1 : c = true → Ev g d env loc body t) (h2 : c = false → Ev g d env loc orelse t) : Ev g d env loc (.IfExp test body orelse pos) t := .mk fun A s W M R I =>
  IfExp_ (h.to A s W M R I (fun b s₁ e k₁ => by
    subst e
    cases b with
    | true => exact (h1 rfl).to A s₁ W M R (I.keeps k₁) (fun c s₂ e k₂ => ⟨e, kt k₁ k₂⟩)
    | false => exact (h2 rfl).to A s₁ W M R (I.keeps k₁) (fun c s₂ e k₂ => ⟨e, kt k₁ k₂⟩)))
theorem ev_or {e₁ e₂ : Expr} {pos : Pos} {a t : T} {c : Bool} (h : Ev g d env loc e₁ a) (ht : TruS g a c) (h1 : c = true → t = a) (h2 : c = false → Ev g d env loc e₂ t) : Ev g d env loc (.BoolOp .Or [e₁, e₂] pos) t := .mk fun A s W M R I =>
  BoolOp_or (h.to A s W M R I (fun v s₁ r₁ k₁ => ht.to A s₁ W v (R.mono (Nat.zero_le _)) (I.keeps k₁).base r₁ (fun b s₂ e k₂ => by
    subst e
    cases b with
    | true => rw [h1 rfl]; exact ⟨r₁.keeps k₂, kt k₁ k₂⟩
    | false => exact BoolOp_one ((h2 rfl).to A s₂ W M R (I.keeps (kt k₁ k₂)) (fun c s₂ e k₃ => ⟨e, kt (kt k₁ k₂) k₃⟩)))))
theorem ev_neg {e : Expr} {pos : Pos} {i : Int} (h : Ev g d env loc e (.int i)) : Ev g d env loc (.UnaryOp .USub e pos) (.int (-i)) := .mk fun A s W M R I =>
  UnaryOp_ (h.to A s W M R I (fun v s₁ r₁ k₁ => by
    simp only [Rep] at r₁
    obtain ⟨t, rfl⟩ := r₁
    exact neg_int ⟨by simp only [Rep]; exact ⟨_, rfl⟩, kt k₁ ktok⟩))

theorem intBits_le {a : Int} (h : a.natAbs ≤ 100000) : Builtin.Int.intBits a ≤ 64 := by
  have : a.natAbs < 2 ^ 64 := by (first | lia | omega)
  exact intBits_le_iff.mpr this
/-! the operations -/
theorem b_add (a b : Int) : BinS g .Add (.int a) (.int b) (.int (a + b)) := .mk fun A s W v u hh B x y => by
  simp only [Rep] at x y; obtain ⟨t, rfl⟩ := x; obtain ⟨t', rfl⟩ := y
  exact add_int ⟨by simp only [Rep]; exact ⟨_, rfl⟩, ktok⟩
theorem b_sub (a b : Int) : BinS g .Sub (.int a) (.int b) (.int (a - b)) := .mk fun A s W v u hh B x y => by
  simp only [Rep] at x y; obtain ⟨t, rfl⟩ := x; obtain ⟨t', rfl⟩ := y
  exact sub_int ⟨by simp only [Rep]; exact ⟨_, rfl⟩, ktok⟩
theorem b_mul (a b : Int) (ha : a.natAbs ≤ 100000) : BinS g .Mult (.int a) (.int b) (.int (a * b)) := .mk fun A s W v u hh B x y => by
  simp only [Rep] at x y; obtain ⟨t, rfl⟩ := x; obtain ⟨t', rfl⟩ := y
  exact mul_int ⟨by simp only [Rep]; exact ⟨_, rfl⟩, ktok⟩ (IntMulOk.of_left (intBits_le ha))
theorem b_mod (a b : Int) (h0 : b ≠ 0) : BinS g .Mod (.int a) (.int b) (.int (a.fmod b)) := .mk fun A s W v u hh B x y => by
  simp only [Rep] at x y; obtain ⟨t, rfl⟩ := x; obtain ⟨t', rfl⟩ := y
  exact PyProof.Rows.mod_int h0 ⟨by simp only [Rep]; exact ⟨_, rfl⟩, ktok⟩
theorem b_div (a b : Int) (h0 : b ≠ 0) (hp : Builtin.divisionGoesByPylong a b = false) : BinS g .FloorDiv (.int a) (.int b) (.int (a.fdiv b)) := .mk fun A s W v u hh B x y => by
  simp only [Rep] at x y; obtain ⟨t, rfl⟩ := x; obtain ⟨t', rfl⟩ := y
  exact floordiv_int h0 ⟨by simp only [Rep]; exact ⟨_, rfl⟩, ktok⟩ (.inl hp)
theorem b_cat (a b : Str) (h : a.length + b.length ≤ sizeLine) : BinS g .Add (.str a) (.str b) (.str (a ++ b)) := .mk fun A s W v u hh B x y => by
  simp only [Rep] at x y; obtain ⟨t, rfl⟩ := x; obtain ⟨t', rfl⟩ := y
  exact add_str (fun t' tk => ⟨by simp only [Rep]; exact ⟨_, rfl⟩, ktok⟩) h

theorem c_lt (a b : Int) : CmpS g .Lt (.int a) (.int b) (decide (a < b)) := .mk fun A s W v u hh B x y => by
  simp only [Rep] at x y; obtain ⟨t, rfl⟩ := x; obtain ⟨t', rfl⟩ := y
  exact lt_int ⟨rfl, kr⟩
theorem c_gt (a b : Int) : CmpS g .Gt (.int a) (.int b) (decide (b < a)) := .mk fun A s W v u hh B x y => by
  simp only [Rep] at x y; obtain ⟨t, rfl⟩ := x; obtain ⟨t', rfl⟩ := y
  exact gt_int ⟨rfl, kr⟩
theorem c_ge (a b : Int) : CmpS g .GtE (.int a) (.int b) (decide (b ≤ a)) := .mk fun A s W v u hh B x y => by
  simp only [Rep] at x y; obtain ⟨t, rfl⟩ := x; obtain ⟨t', rfl⟩ := y
  exact ge_int ⟨rfl, kr⟩
theorem c_le (a b : Int) : CmpS g .LtE (.int a) (.int b) (decide (a ≤ b)) := .mk fun A s W v u hh B x y => by
  simp only [Rep] at x y; obtain ⟨t, rfl⟩ := x; obtain ⟨t', rfl⟩ := y
  exact le_int ⟨rfl, kr⟩
theorem c_eq (a b : Int) : CmpS g .Eq (.int a) (.int b) (a == b) := .mk fun A s W v u hh B x y => by
  simp only [Rep] at x y; obtain ⟨t, rfl⟩ := x; obtain ⟨t', rfl⟩ := y
  exact eq_int ⟨rfl, kr⟩
theorem c_ne (a b : Int) : CmpS g .NotEq (.int a) (.int b) (a != b) := .mk fun A s W v u hh B x y => by
  simp only [Rep] at x y; obtain ⟨t, rfl⟩ := x; obtain ⟨t', rfl⟩ := y
  exact ne_int ⟨rfl, kr⟩
theorem c_seq (a b : Str) : CmpS g .Eq (.str a) (.str b) (a == b) := .mk fun A s W v u hh B x y => by
  simp only [Rep] at x y; obtain ⟨t, rfl⟩ := x; obtain ⟨t', rfl⟩ := y
  exact eq_str ⟨rfl, kr⟩
theorem c_snotin (a b : Str) : CmpS g .NotIn (.str a) (.str b) (!(!(Builtin.Str.occurrences b a 0 b.length 1).isEmpty)) := .mk fun A s W v u hh B x y => by
  simp only [Rep] at x y; obtain ⟨t, rfl⟩ := x; obtain ⟨t', rfl⟩ := y
  exact notIn_str ⟨rfl, kr⟩
theorem t_bool (b : Bool) : TruS g (.bool b) b := .mk fun A s W v hh B x => by
  simp only [Rep] at x; subst x; exact wpAny_truthy_bool ⟨rfl, kr⟩
theorem t_int (i : Int) : TruS g (.int i) (i != 0) := .mk fun A s W v hh B x => by
  simp only [Rep] at x; obtain ⟨t, rfl⟩ := x; exact truthy_int ⟨rfl, kr⟩
theorem t_str (x : Str) (h : x.length ≤ sizeLine) : TruS g (.str x) ((x.length : Int) != 0) := .mk fun A s W v hh B y => by
  simp only [Rep] at y; obtain ⟨t, rfl⟩ := y
  exact PySem.P.truthy_str (by rw [sizeLine_eq] at h; (first | lia | omega)) ⟨rfl, ktok⟩
end
end Mine

open PySem PySem.W PySem.Calls PyProof.Rows
set_option linter.unusedVariables false
namespace Mine

section
variable {g : GC} {d : Nat} {env : Env} {loc : Loc}

theorem seqIdx_pos {k : Int} {n : Nat} (h0 : 0 ≤ k) (h1 : k.toNat < n) : seqIndex? k n = some k.toNat := by
  unfold seqIndex?
  have : ¬ k < 0 := by (first | lia | omega)
  simp only [this, if_false]
  rw [if_pos (by simp only [Bool.and_eq_true, decide_eq_true_eq]; (first | lia | omega))]
theorem seqIdx_none {k : Int} {n : Nat} (h0 : 0 ≤ k) (h1 : n ≤ k.toNat) : seqIndex? k n = none := by
  unfold seqIndex?
  have : ¬ k < 0 := by (first | lia | omega)
  simp only [this, if_false]
  rw [if_neg (by simp only [Bool.and_eq_true, decide_eq_true_eq]; (first | lia | omega))]
theorem seqIdx_neg {k : Int} {n : Nat} (h0 : k < 0) (h1 : -(n : Int) ≤ k) : seqIndex? k n = some (k + n).toNat := by
  unfold seqIndex?
  simp only [h0, if_true]
  rw [if_pos (by simp only [Bool.and_eq_true, decide_eq_true_eq]; (first | lia | omega))]
/-! a list's places -/
theorem isList {h : Heap} {a : Addr} {xs : Array Value} {n : Nat} (x : IsL h a xs n) : h.IsList a xs := IsL.isList x
theorem size_of {C : Addr} {h : Heap} {W : Addr → Prop} {ts : List T} {xs : Array Value} (x : RepL C h W ts xs.toList) : xs.size = ts.length := by
  have := x.length; simpa using this

theorem ev_item {value slice : Expr} {pos : Pos} {ts : List T} {k : Int} {t : T} (h1 : EvT g d env loc value ts) (h2 : Ev g d env loc slice (.int k)) (h0 : 0 ≤ k) (hx : ts[k.toNat]? = some t) (hsz : ts.length ≤ sizeLine)
    (hs : ∀ o i, subscripted slice false o i = operate [o, i] (getItem o i) := by intro _ _; rfl) : Ev g d env loc (.Subscript value slice pos) t := .mk fun A s W M R I =>
  Subscript_ (h1.to A s W M R I (fun o s₁ a xs n e hl hr k₁ => h2.to A s₁ W M R (I.keeps k₁) (fun i s₂ r₂ k₂ => by
    subst e
    simp only [Rep] at r₂
    obtain ⟨u, rfl⟩ := r₂
    obtain ⟨v, hv, hr'⟩ := (hr.keeps k₂).get hx
    have hlt : k.toNat < ts.length := by
      rcases Nat.lt_or_ge k.toNat ts.length with h | h
      · exact h
      · rw [List.getElem?_eq_none h] at hx; cases hx
    have hl' : IsL s₂.heap a xs n := kk k₂ _ _ hl
    rw [sizeLine_eq] at hsz
    exact tail_any (isList hl').typeIs slot_list_getitem.lookup (wpAny_getItem_list (isList hl') h0 (by (first | lia | omega)) (by simpa using hv) ⟨hr', kt k₁ k₂⟩) (hs _ _))))

theorem ev_itemN {value slice : Expr} {pos : Pos} {ts : List T} {k : Int} {t : T} (h1 : EvT g d env loc value ts) (h2 : Ev g d env loc slice (.int k)) (h0 : k < 0) (h3 : -(ts.length : Int) ≤ k) (hx : ts[(k + ts.length).toNat]? = some t) (hsz : ts.length ≤ sizeLine)
    (hs : ∀ o i, subscripted slice false o i = operate [o, i] (getItem o i) := by intro _ _; rfl) : Ev g d env loc (.Subscript value slice pos) t := .mk fun A s W M R I =>
  Subscript_ (h1.to A s W M R I (fun o s₁ a xs n e hl hr k₁ => h2.to A s₁ W M R (I.keeps k₁) (fun i s₂ r₂ k₂ => by
    subst e
    simp only [Rep] at r₂
    obtain ⟨u, rfl⟩ := r₂
    obtain ⟨v, hv, hr'⟩ := (hr.keeps k₂).get hx
    have hl' : IsL s₂.heap a xs n := kk k₂ _ _ hl
    have hs' := size_of hr
    rw [sizeLine_eq] at hsz
    exact tail_any (isList hl').typeIs slot_list_getitem.lookup (wpAny_getItem_list_neg (isList hl') h0 (by rw [hs']; exact h3) (by (first | lia | omega)) (by rw [hs']; simpa using hv) ⟨hr', kt k₁ k₂⟩) (hs _ _))))

theorem ev_itemT {value slice : Expr} {pos : Pos} {ts : List T} {k : Int} {t : T} (h1 : Ev g d env loc value (.tup ts)) (h2 : Ev g d env loc slice (.int k)) (h0 : 0 ≤ k) (hx : ts[k.toNat]? = some t) (hsz : ts.length ≤ sizeLine)
    (hs : ∀ o i, subscripted slice false o i = operate [o, i] (getItem o i) := by intro _ _; rfl) : Ev g d env loc (.Subscript value slice pos) t := .mk fun A s W M R I =>
  Subscript_ (h1.to A s W M R I (fun o s₁ hr0 k₁ => h2.to A s₁ W M R (I.keeps k₁) (fun i s₂ r₂ k₂ => by
    simp only [Rep] at r₂ hr0
    obtain ⟨a, xs, n, rfl, hw, hl, hr⟩ := hr0
    obtain ⟨u, rfl⟩ := r₂
    obtain ⟨v, hv, hr'⟩ := (hr.keeps k₂).get hx
    have hlt : k.toNat < ts.length := by
      rcases Nat.lt_or_ge k.toNat ts.length with h | h
      · exact h
      · rw [List.getElem?_eq_none h] at hx; cases hx
    have hl' : IsTup s₂.heap a xs := ⟨_, kk k₂ _ _ hl, rfl, n, rfl⟩
    have hs' := size_of hr
    have hj : seqIndex? k xs.size = some k.toNat := seqIdx_pos h0 (by (first | lia | omega))
    rw [sizeLine_eq] at hsz
    exact tail_any hl'.typeIs slot_tuple_getitem.lookup (getItem_tuple hl' (by (first | lia | omega)) (by (first | lia | omega)) hj (by simpa using hv) ⟨hr', kt k₁ k₂⟩) (hs _ _))))

/-- the sign at a place -/
theorem ev_sign {value slice : Expr} {pos : Pos} {x : Str} {k : Int} {c : Nat} (h1 : Ev g d env loc value (.str x)) (h2 : Ev g d env loc slice (.int k)) (hc : (seqIndex? k x.length).bind (x.cps[·]?) = some c) (hsz : x.length ≤ sizeLine)
    (hk : -1000 ≤ k) (hs : ∀ o i, subscripted slice false o i = operate [o, i] (getItem o i) := by intro _ _; rfl) : Ev g d env loc (.Subscript value slice pos) (.str ⟨#[c]⟩) := .mk fun A s W M R I =>
  Subscript_ (h1.to A s W M R I (fun o s₁ hr0 k₁ => h2.to A s₁ W M R (I.keeps k₁) (fun i s₂ r₂ k₂ => by
    simp only [Rep] at r₂ hr0
    obtain ⟨v, rfl⟩ := hr0
    obtain ⟨u, rfl⟩ := r₂
    have hk' : k < 2 ^ 63 := by
      rcases Int.lt_or_le k (2 ^ 63) with h | h
      · exact h
      · rw [sizeLine_eq] at hsz
        rw [seqIdx_none (by (first | lia | omega)) (by (first | lia | omega))] at hc
        cases hc
    exact tail_any (typeIs_str _ _ _) slot_str_getitem.lookup (PyProof.Rows.getItem_str (by simp only [Bool.or_eq_false_iff, decide_eq_false_iff_not]; (first | lia | omega)) hc ⟨by simp only [Rep]; exact ⟨_, rfl⟩, kt (kt k₁ k₂) ktok⟩) (hs _ _))))

/-! slices -/
structure EvP (g : GC) (d : Nat) (env : Env) (loc : Loc) (e : Option Expr) (k : Option Int) : Prop where
  run : ∀ A s W M, Room A d → Inv g env loc W M s.heap →
  wpAny g.M A (evalPart e env) (fun v s' => (∃ p : Option (Int × Tok), v = partValue p ∧ p.map (·.1) = k) ∧ Keeps s s') bot s
theorem EvP.to {g : GC} {d : Nat} {env : Env} {loc : Loc} {e : Option Expr} {i : Option Int} {E : Value → Shared → Prop} (h : EvP g d env loc e i) (A s W M) (R : Room A d) (I : Inv g env loc W M s.heap) {Q : Value → Shared → Prop} (k : ∀ v s' (p : Option (Int × Tok)), v = partValue p → p.map (·.1) = i → Keeps s s' → Q v s') : wpAny g.M A (evalPart e env) Q E s :=
  wpAny_mono (h.run A s W M R I) (fun v s' x => x.1.elim fun p q => k v s' p q.1 q.2 x.2) fun _ _ h => h.elim
theorem evP_no : EvP g d env loc none none := .mk fun A s W M R I => wpAny_pure ⟨⟨none, rfl, rfl⟩, kr⟩
theorem evP_int {e : Expr} {i : Int} (h : Ev g d env loc e (.int i)) : EvP g d env loc (some e) (some i) := .mk fun A s W M R I =>
  h.to A s W M R I (fun v s' hr k => by simp only [Rep] at hr; obtain ⟨t, rfl⟩ := hr; exact ⟨⟨some (i, t), rfl, rfl⟩, k⟩)
theorem evP_none {e : Expr} (h : Ev g d env loc e .none) : EvP g d env loc (some e) none := .mk fun A s W M R I =>
  h.to A s W M R I (fun v s' hr k => by simp only [Rep] at hr; subst hr; exact ⟨⟨none, rfl, rfl⟩, k⟩)

theorem part_is (p : Option (Int × Tok)) : IsPart (partValue p) (p.map (·.1)) := by
  cases p with
  | none => exact .none
  | some q => exact .int q.1 q.2

noncomputable def sliceT (ts : List T) (lo hi st : Option Int) : List T := (sliceRange (sliceBounds lo hi st ts.length).1 (sliceBounds lo hi st ts.length).2.1 (sliceBounds lo hi st ts.length).2.2).filterMap (ts[·]?)
theorem RepL.pick {C : Addr} {h : Heap} {W : Addr → Prop} {ts : List T} {vs : List Value} (x : RepL C h W ts vs) : ∀ idx : List Nat, RepL C h W (idx.filterMap (ts[·]?)) (idx.filterMap (vs[·]?))
  | [] => .nil
  | i :: r => by
    have ih := x.pick r
    have hlen := x.length
    cases hi : ts[i]? with
    | none =>
      have : vs[i]? = none := by rw [List.getElem?_eq_none_iff] at *; (first | lia | omega)
      simp only [List.filterMap_cons, hi, this]; exact ih
    | some t =>
      obtain ⟨v, hv, hr⟩ := x.get hi
      simp only [List.filterMap_cons, hi, hv]; exact .cons hr ih
theorem slicePick_rep {C : Addr} {h : Heap} {W : Addr → Prop} {ts : List T} {xs : Array Value} (x : RepL C h W ts xs.toList) (lo hi st : Option Int) : RepL C h W (sliceT ts lo hi st) (slicePick xs lo hi st).toList := by
  have hs := size_of x
  unfold slicePick sliceT
  rw [hs]
  have := x.pick (sliceRange (sliceBounds lo hi st ts.length).1 (sliceBounds lo hi st ts.length).2.1 (sliceBounds lo hi st ts.length).2.2)
  simpa using this

theorem sub_slice_hs (l u : Option Expr) (st : Option Expr) (p : Pos) (o i : Value) : ∃ ops, subscripted (.Slice l u st p) false o i = operate ops (getItem o i) := by
  cases st
  · exact ⟨[i, o], rfl⟩
  · exact ⟨[o, i], rfl⟩

theorem evF_slice {value : Expr} {l u st : Option Expr} {p pos : Pos} {ts : List T} {lo hi sp : Option Int} (h1 : EvT g d env loc value ts) (hl : EvP g d env loc l lo) (hu : EvP g d env loc u hi) (hst : EvP g d env loc st sp) (h0 : sp ≠ some 0) (hsz : ts.length ≤ sizeLine) :
    EvF g d env loc (.Subscript value (.Slice l u st p) pos) (sliceT ts lo hi sp) := .mk fun A s W M R I =>
  Subscript_ (h1.to A s W M R I (fun o s₁ a xs n e hL hr k₁ => wpAny_Slice (hl.to A s₁ W M R (I.keeps k₁) (fun v1 s₂ p1 e1 q1 k₂ =>
    hu.to A s₂ W M R (I.keeps (kt k₁ k₂)) (fun v2 s₃ p2 e2 q2 k₃ => hst.to A s₃ W M R (I.keeps (kt (kt k₁ k₂) k₃)) (fun v3 s₄ p3 e3 q3 k₄ => by
      subst e; subst e1; subst e2; subst e3
      have K2 := kt (kt k₂ k₃) k₄
      have hL' : IsL (s₄.heap.push { cls := .type "slice", data := .fields #[partValue p1, partValue p2, partValue p3] }) a xs n := Heap.get?_push_of_some _ (kk K2 _ _ hL)
      obtain ⟨ops, hops⟩ := sub_slice_hs l u st p (.ref a) (.ref s₄.heap.objs.size)
      have P1 := part_is p1; have P2 := part_is p2; have P3 := part_is p3
      rw [q1] at P1; rw [q2] at P2; rw [q3] at P3
      refine tail_any (T := "list") ⟨_, hL', rfl⟩ slot_list_getitem.lookup (wpAny_getItem_list_slice (isList hL') (Heap.IsSliceOf.new _ _ _ _) P1 P2 P3 h0 ?_ (by rw [size_of hr]; exact hsz)) hops
      have kk4 : ∀ b o, s.heap.get? b = some o → s₄.heap.get? b = some o := kk (kt k₁ K2)
      refine ⟨_, _, 0, rfl, ?_, Heap.get?_push_size _ rfl, ?_, ?_⟩
      · cases q : s.heap.get? (s₄.heap.push { cls := Value.type "slice", data := .fields #[partValue p1, partValue p2, partValue p3] }).objs.size with
        | none => rfl
        | some o => exact absurd (Heap.lt_size (Heap.get?_push_of_some { cls := Value.type "slice", data := .fields #[partValue p1, partValue p2, partValue p3] } (kk4 _ _ q))) (Nat.lt_irrefl _)
      · refine RepL.mono ?_ _ _ (slicePick_rep (hr.keeps K2) lo hi sp)
        intro b o e hw
        have e2 := Heap.get?_push_of_some { cls := Value.type "slice", data := .fields #[partValue p1, partValue p2, partValue p3] } e
        refine ⟨Heap.get?_push_of_some _ e2, fun q => q.elim hw fun q => ?_⟩
        rw [q] at e2
        exact absurd (Heap.lt_size e2) (Nat.lt_irrefl _)
      · obtain ⟨h', t', rfl, kf⟩ := kt k₁ K2
        exact ⟨_, _, rfl, fun b o e => Heap.get?_push_of_some _ (Heap.get?_push_of_some _ (kf b o e))⟩))))))

theorem sliceMade_eq (x : Str) (t : Tok) (l u : Option (Int × Tok)) : sliceMade x t l u none = if ((1 : Int) == 1 && (Builtin.Str.strSliceIndices (l.map (·.1)) (u.map (·.1)) 1 x.length).length == x.length) = true then .val (.str x t) else .str (Txt.slice x (l.map (·.1)) (u.map (·.1))) := by
  unfold sliceMade Txt.slice slicePicked
  simp only [Option.map_none, Option.getD_none]
  split <;> rfl

theorem ev_slice {value : Expr} {l u : Option Expr} {p pos : Pos} {x : Str} {lo hi : Option Int} (h1 : Ev g d env loc value (.str x)) (hl : EvP g d env loc l lo) (hu : EvP g d env loc u hi) (hsz : x.length ≤ sizeLine) :
    Ev g d env loc (.Subscript value (.Slice l u none p) pos) (.str (Txt.slice x lo hi)) := .mk fun A s W M R I =>
  Subscript_ (h1.to A s W M R I (fun o s₁ hr k₁ => wpAny_Slice (hl.to A s₁ W M R (I.keeps k₁) (fun v1 s₂ p1 e1 q1 k₂ =>
    hu.to A s₂ W M R (I.keeps (kt k₁ k₂)) (fun v2 s₃ p2 e2 q2 k₃ => by
      refine wpAny_pure ?_
      simp only [Rep] at hr
      obtain ⟨t, rfl⟩ := hr
      subst e1; subst e2
      have K := kt (kt k₁ k₂) k₃
      refine tail_any (T := "str") (typeIs_str _ x t) PySem.F.slot_str_getitem.lookup (wpAny_getItem_str_slice (l := p1) (u := p2) (st := none) ⟨_, Heap.get?_push_size _ rfl, rfl, rfl⟩ rfl ?_) (ops := [_, _]) rfl
      rw [sliceMade_eq, q1, q2]
      have kp : Keeps s { s₃ with heap := s₃.heap.push { cls := .type "slice", data := .fields #[partValue p1, partValue p2, Value.none] } } := by
        obtain ⟨h', t', rfl, kf⟩ := K
        exact ⟨_, _, rfl, fun b o e => Heap.get?_push_of_some _ (kf b o e)⟩
      split
      · rename_i hc
        have : Txt.slice x lo hi = x := by unfold Txt.slice; rw [if_pos hc]
        rw [this]
        exact ⟨by simp only [Rep]; exact ⟨_, rfl⟩, kp⟩
      · exact ⟨Nat.le_trans (Txt.slice_le x _ _) hsz, by simp only [Rep]; exact ⟨_, rfl⟩, kt kp ktok⟩)))))
end
end Mine

open PySem PySem.W PySem.Calls PyProof.Rows
set_option linter.unusedVariables false
namespace Mine
open PySem.Builtin PySem.Builtin.Str

/-! the library's calls, once more with the ends that are wanted here -/
section
variable {prog : Program} {w : World} {A : Around} {E : Value → Shared → Prop} {s : Shared} {x y : Str} {t u : Tok} {Q : Value → Shared → Prop}
noncomputable def find4 (x y : Str) (i j : Int) : Int := match occurrences x y (fromIndex x.length i) (min (fromIndex x.length j) x.length) 1 with | k :: _ => (k : Int) | [] => -1
noncomputable def rfind4 (x y : Str) (i j : Int) : Int := match lastOccurrence x y (fromIndex x.length i) (min (fromIndex x.length j) x.length) with | some k => (k : Int) | none => -1
theorem gives_find4 (x y : Str) (i j : Int) (t u v v' : Tok) : Gives («str.find» ⟨[.str x t, .str y u, .int i v, .int j v'], []⟩) (.int (find4 x y i j)) := by
  show Gives (match occurrences x y (fromIndex x.length i) (min (fromIndex x.length j) x.length) 1 with | k :: _ => retInt k | [] => (do rule "str.find.not-found"; retInt (-1))) _
  unfold find4
  cases occurrences x y (fromIndex x.length i) (min (fromIndex x.length j) x.length) 1 with
  | nil => exact .rule (.of_eq rfl)
  | cons k _ => exact .of_eq rfl
theorem gives_rfind4 (x y : Str) (i j : Int) (t u v v' : Tok) : Gives («str.rfind» ⟨[.str x t, .str y u, .int i v, .int j v'], []⟩) (.int (rfind4 x y i j)) := by
  show Gives (match lastOccurrence x y (fromIndex x.length i) (min (fromIndex x.length j) x.length) with | some k => retInt k | none => (do rule "str.rfind.not-found"; retInt (-1))) _
  unfold rfind4
  cases lastOccurrence x y (fromIndex x.length i) (min (fromIndex x.length j) x.length) with
  | none => exact .rule (.of_eq rfl)
  | some k => exact .of_eq rfl
theorem call_find4 {i j : Int} {v v' : Tok} (h : Q (.int (find4 x y i j) s.toks) { s with toks := s.toks + 1 }) : wpAny (model prog w) A (call (.builtin "str.find") [.str x t, .str y u, .int i v, .int j v']) Q E s :=
  call_gives F.slot_str_find (typeIs_str _ _ _) F.entry_str_find (F.args_str_find_4 _ _ _ _) (gives_find4 x y i j t u v v') h
theorem call_rfind4 {i j : Int} {v v' : Tok} (h : Q (.int (rfind4 x y i j) s.toks) { s with toks := s.toks + 1 }) : wpAny (model prog w) A (call (.builtin "str.rfind") [.str x t, .str y u, .int i v, .int j v']) Q E s :=
  call_gives F.slot_str_rfind (typeIs_str _ _ _) F.entry_str_rfind (F.args_str_rfind_4 _ _ _ _) (gives_rfind4 x y i j t u v v') h

theorem call_split (hy : (y.length == 0) = false)
    (hq : ∀ l tk, l.map (·.1) = Txt.split x y → Q (.ref s.heap.objs.size) { s with heap := s.heap.push { cls := .type "list", data := .seq (strValues l).toArray }, toks := tk })
    (hsz : x.length + 2 ≤ sizeLine) :
    wpAny (model prog w) A (call (.builtin "str.split") [.str x t, .str y u]) Q E s := by
  cases h1 : (decide (x.length < y.length) || decide (strKind x < strKind y))
  · cases hf : (occurrences x y 0 x.length (x.length + 1)).isEmpty
    · have hle := split_le x y
      have hsp : Txt.split x y = partsBetween x (occurrences x y 0 x.length (x.length + 1)) y.length := by
        unfold Txt.split; rw [if_neg (ne_true_of_eq_false h1), if_neg (ne_true_of_eq_false hf)]
      rw [hsp] at hle
      refine call_meets F.slot_str_split (typeIs_str _ _ _) F.entry_str_split (F.args_str_split_2 _ _) (meets_str_split_sep x y t u h1 hy hf (by (first | lia | omega)) (by (first | lia | omega))) ?_
      show wants Q E _ { s with toks := _, heap := s.heap.push { cls := .type "list", data := .seq (strsFrom s.toks (partsBetween x (occurrences x y 0 x.length (x.length + 1)) y.length)).toArray } }
      rw [strsFrom_eq]
      exact hq (numbered s.toks _) _ ((numbered_texts _ _).trans hsp.symm)
    · exact call_meets F.slot_str_split (typeIs_str _ _ _) F.entry_str_split (F.args_str_split_2 _ _) (meets_str_split_not_found x y t u h1 hy hf)
        (hq [(x, t)] s.toks (by unfold Txt.split; rw [if_neg (ne_true_of_eq_false h1), if_pos hf]; rfl))
  · exact call_meets F.slot_str_split (typeIs_str _ _ _) F.entry_str_split (F.args_str_split_2 _ _) (meets_str_split_cannot_occur x y t u h1)
      (hq [(x, t)] s.toks (by unfold Txt.split; rw [if_pos h1]; rfl))

theorem call_mul {l : Addr} {items : Array Value} {k : Nat} {n : Int} (hl : IsL s.heap l items k) (hlo : -(2 ^ 63 : Int) ≤ n) (hhi : n < 2 ^ 63) (hsz : items.size * n.toNat ≤ 2 ^ 24)
    (h : Q (.ref s.heap.objs.size) { s with heap := s.heap.push { cls := .type "list", data := .seq (List.foldl (fun x1 x2 => x1 ++ x2) #[] (List.replicate (if items.isEmpty = true then 0 else n.toNat) items)) } }) :
    wpAny (model prog w) A (binaryOp .Mult (.ref l) (.int n u)) Q E s :=
  wpAny_binaryOp_repeat_ref (T := "list") (U := "int") (by decide) ⟨_, hl, rfl⟩ (fun s' => typeIs_int s' n u) noFill_list_mul F.fills_int_mul F.slot_int_rmul repeat_list F.slot_int_index.lookup
    (call_meets F.slot_int_rmul (typeIs_int s n u) F.entry_int_rmul (F.args_int_rmul_2 _ _) (int___rmul___int_list n u l items k)
      ⟨hl, rfl, ⟨_, hl, rfl⟩, call_meets F.slot_list_mul ⟨_, hl, rfl⟩ F.entry_list_mul (F.args_list_mul_2 _ _)
        (AutoListH.list___mul___list_int_3 l items k n u (by simp [Builtin.List.listFitsIndex]; (first | lia | omega)) (by (first | lia | omega)) (by simp [Builtin.List.listTooLong, sizeLine]; (first | lia | omega)))
        ⟨hl, h⟩⟩)
end

section
variable {g : GC} {d : Nat} {env : Env} {loc : Loc}

/-- a fresh list laid on top of the heap -/
theorem fresh_list {s s' : Shared} {W : Addr → Prop} {ts : List T} {vs : Array Value} {tk : Nat} (K : Keeps s s') (hr : RepL g.C s'.heap W ts vs.toList) :
    FPost g s W ts (.ref s'.heap.objs.size) { s' with heap := s'.heap.push { cls := .type "list", data := .seq vs }, toks := tk } := by
  refine ⟨_, vs, 0, rfl, ?_, Heap.get?_push_size _ rfl, ?_, ?_⟩
  · cases q : s.heap.get? s'.heap.objs.size with
    | none => rfl
    | some o => exact absurd (Heap.lt_size (kk K _ _ q)) (Nat.lt_irrefl _)
  · refine RepL.mono (fun b o e hw => ⟨Heap.get?_push_of_some _ e, fun q => q.elim hw fun q => ?_⟩) _ _ hr
    rw [q] at e
    exact absurd (Heap.lt_size e) (Nat.lt_irrefl _)
  · obtain ⟨h', t', rfl, kf⟩ := K
    exact ⟨_, _, rfl, fun b o e => Heap.get?_push_of_some _ (kf b o e)⟩

/-! rows of values -/
structure EvL (g : GC) (d : Nat) (env : Env) (loc : Loc) (es : List Expr) (ts : List T) : Prop where
  run : ∀ A s W M pos, Room A d → Inv g env loc W M s.heap →
  wpAny g.M A (spliced (backTo pos (starEach es env))) (fun vs s' => RepL g.C s'.heap W ts vs ∧ Keeps s s') bot s
theorem EvL.to {g : GC} {d : Nat} {env : Env} {loc : Loc} {es : List Expr} {ts : List T} {E : Value → Shared → Prop} (h : EvL g d env loc es ts) (A s W M pos) (R : Room A d) (I : Inv g env loc W M s.heap) {Q : List Value → Shared → Prop} (k : ∀ v s', RepL g.C s'.heap W ts v → Keeps s s' → Q v s') : wpAny g.M A (spliced (backTo pos (starEach es env))) Q E s :=
  wpAny_mono (h.run A s W M pos R I) (fun v s' x => k v s' x.1 x.2) fun _ _ h => h.elim
theorem evL_nil : EvL g d env loc [] [] := .mk fun A s W M pos R I => spliced_nil ⟨.nil, kr⟩
theorem evL_cons {e : Expr} {es : List Expr} {t : T} {ts : List T} (h : Ev g d env loc e t) (hr : EvL g d env loc es ts) (hs : ∀ env, starEach (e :: es) env = (false, eval e env) :: starEach es env := by intro _; rfl) : EvL g d env loc (e :: es) (t :: ts) := .mk fun A s W M pos R I => by
  rw [hs]
  exact spliced_cons (h.to A s W M R I (fun v s₁ r₁ k₁ => hr.to A s₁ W M pos R (I.keeps k₁) (fun vs s₂ r₂ k₂ => ⟨.cons (r₁.keeps k₂) r₂, kt k₁ k₂⟩)))

theorem evF_list {es : List Expr} {ts : List T} {pos : Pos} (h : EvL g d env loc es ts) (hsz : ts.length ≤ sizeLine) : EvF g d env loc (.List es pos) ts := .mk fun A s W M R I =>
  List_ (h.to A s W M pos R I (fun vs s₁ r₁ k₁ => by
    refine wpAny_newObj_type (fresh_list (tk := s₁.toks) k₁ (by simpa using r₁)) ?_
    show vs.toArray.size ≤ sizeLine
    rw [List.size_toArray, r₁.length]; exact hsz))

theorem ev_tuple {es : List Expr} {ts : List T} {k : Nat} {pos : Pos} (h : EvL g d env loc es ts) (hsz : ts.length ≤ sizeLine) : Ev g d env loc (.Tuple es k pos) (.tup ts) := .mk fun A s W M R I =>
  Tuple_ (h.to A s W M pos R I (fun vs s₁ r₁ k₁ => by
    have live := (I.base.keeps k₁).live
    refine wpAny_newObj_type ⟨?_, ?_⟩ ?_
    · simp only [Rep]
      refine ⟨_, vs.toArray, 0, rfl, live _ ?_, Heap.get?_push_size _ rfl, RepL.mono (fun b o e hw => ⟨Heap.get?_push_of_some _ e, hw⟩) _ _ (by simpa using r₁)⟩
      cases q : s₁.heap.get? s₁.heap.objs.size with
      | none => rfl
      | some o => exact absurd (Heap.lt_size q) (Nat.lt_irrefl _)
    · obtain ⟨h', t', rfl, kf⟩ := k₁
      exact ⟨_, _, rfl, fun b o e => Heap.get?_push_of_some _ (kf b o e)⟩
    · show vs.toArray.size ≤ sizeLine
      rw [List.size_toArray, r₁.length]; exact hsz))

/-- a name that the text does not bind: a built-in function, a built-in type -/
structure BltIs (g : GC) (env : Env) (x : Str) (v : Value) : Prop where
  kind : env.kindOf x = some .globalImplicit
  miss : g.mg x = none
  val : bootBuiltins x = some v
  nn : x ≠ "__name__"
  nd : (x == ("__debug__" : Str)) = false

section
variable {A : Around} {s : Shared} {W M : Addr → Prop} {x : Str} {p pos : Pos} {Q : Value → Shared → Prop} {e₁ e₂ e₃ e₄ : Expr}
theorem callB1 {id : String} (B : BltIs g env x (.builtin id)) (I : Inv g env loc W M s.heap) (h : wpAny g.M A (eval e₁ env) (fun v s₁ => wpAny g.M A (call (.builtin id) [v]) Q bot s₁) bot s)
    (he : starEach [e₁] env = [(false, eval e₁ env)] := by rfl) : wpAny g.M A (eval (.Call (.Name x p) [e₁] [] pos) env) Q bot s :=
  Call_ (nm_blt I B.kind B.miss B.val B.nn (by
    rw [he]
    exact callWith_builtin rfl (evalArgs_plain (spliced_cons (wpAny_mono h (fun v s₁ h₁ => spliced_nil h₁) fun _ _ h => h.elim)))) B.nd)
theorem callB2 {id : String} (B : BltIs g env x (.builtin id)) (I : Inv g env loc W M s.heap) (h : wpAny g.M A (eval e₁ env) (fun v s₁ => wpAny g.M A (eval e₂ env) (fun u s₂ => wpAny g.M A (call (.builtin id) [v, u]) Q bot s₂) bot s₁) bot s)
    (he : starEach [e₁, e₂] env = [(false, eval e₁ env), (false, eval e₂ env)] := by rfl) : wpAny g.M A (eval (.Call (.Name x p) [e₁, e₂] [] pos) env) Q bot s :=
  Call_ (nm_blt I B.kind B.miss B.val B.nn (by
    rw [he]
    exact callWith_builtin rfl (evalArgs_plain (spliced_cons (wpAny_mono h (fun v s₁ h₁ => spliced_cons (wpAny_mono h₁ (fun u s₂ h₂ => spliced_nil h₂) fun _ _ h => h.elim)) fun _ _ h => h.elim)))) B.nd)
theorem callT1 {id : String} (B : BltIs g env x (.type id)) (I : Inv g env loc W M s.heap) (h : wpAny g.M A (eval e₁ env) (fun v s₁ => wpAny g.M A (call (.type id) [v]) Q bot s₁) bot s)
    (he : starEach [e₁] env = [(false, eval e₁ env)] := by rfl) : wpAny g.M A (eval (.Call (.Name x p) [e₁] [] pos) env) Q bot s :=
  Call_ (nm_blt I B.kind B.miss B.val B.nn (by
    rw [he]
    exact PySem.callWith_type rfl (evalArgs_plain (spliced_cons (wpAny_mono h (fun v s₁ h₁ => spliced_nil h₁) fun _ _ h => h.elim)))) B.nd)
theorem callT2 {id : String} (B : BltIs g env x (.type id)) (I : Inv g env loc W M s.heap) (h : wpAny g.M A (eval e₁ env) (fun v s₁ => wpAny g.M A (eval e₂ env) (fun u s₂ => wpAny g.M A (call (.type id) [v, u]) Q bot s₂) bot s₁) bot s)
    (he : starEach [e₁, e₂] env = [(false, eval e₁ env), (false, eval e₂ env)] := by rfl) : wpAny g.M A (eval (.Call (.Name x p) [e₁, e₂] [] pos) env) Q bot s :=
  Call_ (nm_blt I B.kind B.miss B.val B.nn (by
    rw [he]
    exact PySem.callWith_type rfl (evalArgs_plain (spliced_cons (wpAny_mono h (fun v s₁ h₁ => spliced_cons (wpAny_mono h₁ (fun u s₂ h₂ => spliced_nil h₂) fun _ _ h => h.elim)) fun _ _ h => h.elim)))) B.nd)
theorem callT3 {id : String} (B : BltIs g env x (.type id)) (I : Inv g env loc W M s.heap) (h : wpAny g.M A (eval e₁ env) (fun v s₁ => wpAny g.M A (eval e₂ env) (fun u s₂ => wpAny g.M A (eval e₃ env) (fun u₃ s₃ => wpAny g.M A (call (.type id) [v, u, u₃]) Q bot s₃) bot s₂) bot s₁) bot s)
    (he : starEach [e₁, e₂, e₃] env = [(false, eval e₁ env), (false, eval e₂ env), (false, eval e₃ env)] := by rfl) : wpAny g.M A (eval (.Call (.Name x p) [e₁, e₂, e₃] [] pos) env) Q bot s :=
  Call_ (nm_blt I B.kind B.miss B.val B.nn (by
    rw [he]
    exact PySem.callWith_type rfl (evalArgs_plain (spliced_cons (wpAny_mono h (fun v s₁ h₁ => spliced_cons (wpAny_mono h₁ (fun u s₂ h₂ => spliced_cons (wpAny_mono h₂ (fun u s₂ h₂ => spliced_nil h₂) fun _ _ h => h.elim)) fun _ _ h => h.elim)) fun _ _ h => h.elim)))) B.nd)
end

theorem ev_len {x : Str} {p pos : Pos} {e : Expr} {ts : List T} (B : BltIs g env x (.builtin "len")) (h : EvT g d env loc e ts) (hsz : ts.length ≤ sizeLine) (he : ∀ env, starEach [e] env = [(false, eval e env)] := by intro _; rfl) :
    Ev g d env loc (.Call (.Name x p) [e] [] pos) (.int ts.length) := .mk fun A s W M R I =>
  callB1 B I (h.to A s W M R I (fun v s₁ a xs n e hl hr k₁ => by
    subst e
    have := size_of hr
    rw [sizeLine_eq] at hsz
    refine PyProof.Rows.len_list (isList hl) (by (first | lia | omega)) ⟨?_, kt k₁ ktok⟩
    simp only [Rep]
    exact ⟨_, by rw [this]⟩)) (he env)
theorem ev_lenS {x : Str} {p pos : Pos} {e : Expr} {y : Str} (B : BltIs g env x (.builtin "len")) (h : Ev g d env loc e (.str y)) (hsz : y.length ≤ sizeLine) (he : ∀ env, starEach [e] env = [(false, eval e env)] := by intro _; rfl) :
    Ev g d env loc (.Call (.Name x p) [e] [] pos) (.int y.length) := .mk fun A s W M R I =>
  callB1 B I (h.to A s W M R I (fun v s₁ hr k₁ => by
    simp only [Rep] at hr
    obtain ⟨t, rfl⟩ := hr
    rw [sizeLine_eq] at hsz
    refine PyProof.Rows.len_str (by (first | lia | omega)) ⟨?_, kt k₁ ktok⟩
    simp only [Rep]
    exact ⟨_, rfl⟩)) (he env)
theorem ev_max2 {x : Str} {p pos : Pos} {e₁ e₂ : Expr} {a b : Int} (B : BltIs g env x (.builtin "max")) (h₁ : Ev g d env loc e₁ (.int a)) (h₂ : Ev g d env loc e₂ (.int b))
    (he : ∀ env, starEach [e₁, e₂] env = [(false, eval e₁ env), (false, eval e₂ env)] := by intro _; rfl) : Ev g d env loc (.Call (.Name x p) [e₁, e₂] [] pos) (.int (max a b)) := .mk fun A s W M R I =>
  callB2 B I (h₁.to A s W M R I (fun v s₁ hr k₁ => h₂.to A s₁ W M R (I.keeps k₁) (fun u s₂ hr' k₂ => by
    simp only [Rep] at hr hr'
    obtain ⟨t, rfl⟩ := hr
    obtain ⟨t', rfl⟩ := hr'
    refine max_two_ints R.1 fun h' tk hk => ⟨?_, kt (kt k₁ k₂) (kh hk)⟩
    simp only [Rep]
    split
    · exact ⟨_, by rw [Int.max_eq_right (by (first | lia | omega))]⟩
    · exact ⟨_, by rw [Int.max_eq_left (by (first | lia | omega))]⟩))) (he env)
theorem ev_min2 {x : Str} {p pos : Pos} {e₁ e₂ : Expr} {a b : Int} (B : BltIs g env x (.builtin "min")) (h₁ : Ev g d env loc e₁ (.int a)) (h₂ : Ev g d env loc e₂ (.int b))
    (he : ∀ env, starEach [e₁, e₂] env = [(false, eval e₁ env), (false, eval e₂ env)] := by intro _; rfl) : Ev g d env loc (.Call (.Name x p) [e₁, e₂] [] pos) (.int (min a b)) := .mk fun A s W M R I =>
  callB2 B I (h₁.to A s W M R I (fun v s₁ hr k₁ => h₂.to A s₁ W M R (I.keeps k₁) (fun u s₂ hr' k₂ => by
    simp only [Rep] at hr hr'
    obtain ⟨t, rfl⟩ := hr
    obtain ⟨t', rfl⟩ := hr'
    refine min_two_ints R.1 fun h' tk hk => ⟨?_, kt (kt k₁ k₂) (kh hk)⟩
    simp only [Rep]
    split
    · exact ⟨_, by rw [Int.min_eq_right (by (first | lia | omega))]⟩
    · exact ⟨_, by rw [Int.min_eq_left (by (first | lia | omega))]⟩))) (he env)
/-- the greatest of a list of ints -/
theorem ev_maxL {x : Str} {p pos : Pos} {e : Expr} {is : List Int} {m : Int} (B : BltIs g env x (.builtin "max")) (h : EvT g d env loc e (is.map T.int)) (hm : m ∈ is) (hle : ∀ a ∈ is, a ≤ m)
    (he : ∀ env, starEach [e] env = [(false, eval e env)] := by intro _; rfl) : Ev g d env loc (.Call (.Name x p) [e] [] pos) (.int m) := .mk fun A s W M R I =>
  callB1 B I (h.to A s W M R I (fun v s₁ a xs n e hl hr k₁ => by
    subst e
    have hi := hr.ints
    obtain ⟨ys, hy⟩ := hi.allInts.items
    have hns : is = ys.toList.map (·.1) := by rw [← hi.numsOf, ← nums_intItems, ← hy]
    have hl' := isList hl
    have hxs : xs = intItems ys := by rw [← hy]
    rw [hxs] at hl'
    have hsz : 0 < ys.size := by
      have : 0 < is.length := List.length_pos_of_mem hm
      rw [hns, List.length_map, Array.length_toList] at this; exact this
    refine max_intList R.1 hl' hsz fun v h' tk hv hk => ⟨?_, kt k₁ (kh hk)⟩
    obtain ⟨t, rfl⟩ := intItems_at hv
    obtain ⟨h1, h2⟩ := argBest_gt (numAt ys) (ys.size - 1)
    simp only [Rep]
    refine ⟨t, ?_⟩
    congr 1
    refine Int.le_antisymm (hle _ ?_) ?_
    · rw [hns, numAt_eq]; exact getD_mem (by rw [List.length_map, Array.length_toList]; (first | lia | omega))
    · rw [hns] at hm
      obtain ⟨j, hj, rfl⟩ := mem_getD hm
      rw [List.length_map, Array.length_toList] at hj
      rw [← numAt_eq]; exact h2 j (by (first | lia | omega)))) (he env)

/-- tuple(a list) -/
theorem ev_tupL {x : Str} {p pos : Pos} {e : Expr} {ts : List T} (B : BltIs g env x (.type "tuple")) (h : EvT g d env loc e ts) (hsz : ts.length ≤ sizeLine) (he : ∀ env, starEach [e] env = [(false, eval e env)] := by intro _; rfl) :
    Ev g d env loc (.Call (.Name x p) [e] [] pos) (.tup ts) := .mk fun A s W M R I =>
  callT1 B I (h.to A s W M R I (fun v s₁ a xs n e hl hr k₁ => by
    subst e
    refine call_tuple_list (isList hl) (fun h' hk => ?_) (by rw [size_of hr]; exact hsz)
    have K : Keeps s { s₁ with heap := h'.push { cls := .type "tuple", data := .seq xs } } := kt k₁ (kh fun b o e => Heap.get?_push_of_some _ (hk b o e))
    refine ⟨?_, K⟩
    simp only [Rep]
    refine ⟨_, xs, 0, rfl, ?_, Heap.get?_push_size _ rfl, RepL.mono (fun b o e hw => ⟨Heap.get?_push_of_some _ (hk b o e), hw⟩) _ _ hr⟩
    refine (I.base.keeps k₁).live _ ?_
    cases q : s₁.heap.get? h'.objs.size with
    | none => rfl
    | some o => exact absurd (Heap.lt_size (hk _ _ q)) (Nat.lt_irrefl _))) (he env)

/-- list(a text): its signs -/
noncomputable def signT (x : Str) : List T := x.cps.toList.map fun c => T.str ⟨#[c]⟩
theorem evF_signs {x : Str} {p pos : Pos} {e : Expr} {y : Str} (B : BltIs g env x (.type "list")) (h : Ev g d env loc e (.str y)) (hsz : y.length ≤ sizeLine) (he : ∀ env, starEach [e] env = [(false, eval e env)] := by intro _; rfl) :
    EvF g d env loc (.Call (.Name x p) [e] [] pos) (signT y) := .mk fun A s W M R I =>
  callT1 B I (h.to A s W M R I (fun v s₁ hr k₁ => by
    simp only [Rep] at hr
    obtain ⟨t, rfl⟩ := hr
    refine call_list_str R.1 y t (fun h' tk acc c' hk hg ⟨hn, ha⟩ => ?_) hsz
    refine ⟨_, acc, c', rfl, ?_, hg, RepL.of_get ?_ fun i t v e1 e2 => ?_, kt k₁ (kh hk)⟩
    · cases q : s.heap.get? s₁.heap.objs.size with
      | none => rfl
      | some o => exact absurd (Heap.lt_size (kk k₁ _ _ q)) (Nat.lt_irrefl _)
    · simp [signT, hn]
    · obtain ⟨c, u, hc, rfl⟩ := ha i v (by simpa using e2)
      simp only [signT, List.getElem?_map, Array.getElem?_toList, hc, Option.map_some, Option.some.injEq] at e1
      subst e1
      simp only [Rep]; exact ⟨_, rfl⟩)) (he env)

/-- list(range(a, b, c)) -/
noncomputable def rangeT (a c : Int) (n : Nat) : List T := (List.range n).map fun (i : Nat) => T.int (a + (i : Int) * c)
/-- what a range's expression hands on -/
inductive RPost (s : Shared) (a b c : Int) (v : Value) (s' : Shared) : Prop
  | mk (r : Addr) (t u v' : Tok) (e : v = .ref r) (hn : s.heap.get? r = none) (hr : IsRange s'.heap r a b c t u v') (k : Keeps s s')
structure EvR (g : GC) (d : Nat) (env : Env) (loc : Loc) (e : Expr) (a b c : Int) : Prop where
  run : ∀ A s W M, Room A d → Inv g env loc W M s.heap →
  wpAny g.M A (eval e env) (RPost s a b c) bot s
theorem EvR.to {g : GC} {d : Nat} {env : Env} {loc : Loc} {e : Expr} {a b c : Int} {E : Value → Shared → Prop} (h : EvR g d env loc e a b c) (A s W M) (R : Room A d) (I : Inv g env loc W M s.heap) {Q : Value → Shared → Prop} (k : ∀ v s' r t u v', v = .ref r → s.heap.get? r = none → IsRange s'.heap r a b c t u v' → Keeps s s' → Q v s') : wpAny g.M A (eval e env) Q E s :=
  wpAny_mono (h.run A s W M R I) (fun v s' ⟨r, t, u, v', e, hn, hr, q⟩ => k v s' r t u v' e hn hr q) fun _ _ h => h.elim
theorem push_new {s s' : Shared} (K : Keeps s s') : s.heap.get? s'.heap.objs.size = none := by
  cases q : s.heap.get? s'.heap.objs.size with
  | none => rfl
  | some o => exact absurd (Heap.lt_size (kk K _ _ q)) (Nat.lt_irrefl _)
theorem evR_1 {x : Str} {p pos : Pos} {e : Expr} {b : Int} (B : BltIs g env x (.type "range")) (h : Ev g d env loc e (.int b)) (he : ∀ env, starEach [e] env = [(false, eval e env)] := by intro _; rfl) :
    EvR g d env loc (.Call (.Name x p) [e] [] pos) 0 b 1 := .mk fun A s W M R I =>
  callT1 B I (h.to A s W M R I (fun v s₁ hr k₁ => by
    simp only [Rep] at hr
    obtain ⟨t, rfl⟩ := hr
    exact call_range_1 ⟨_, _, _, _, rfl, push_new k₁, Heap.get?_push_size _ rfl, kt k₁ (kh fun b o e => Heap.get?_push_of_some _ e)⟩)) (he env)
theorem evR_2 {x : Str} {p pos : Pos} {e₁ e₂ : Expr} {a b : Int} (B : BltIs g env x (.type "range")) (h₁ : Ev g d env loc e₁ (.int a)) (h₂ : Ev g d env loc e₂ (.int b)) (he : ∀ env, starEach [e₁, e₂] env = [(false, eval e₁ env), (false, eval e₂ env)] := by intro _; rfl) :
    EvR g d env loc (.Call (.Name x p) [e₁, e₂] [] pos) a b 1 := .mk fun A s W M R I =>
  callT2 B I (h₁.to A s W M R I (fun v s₁ hr k₁ => h₂.to A s₁ W M R (I.keeps k₁) (fun u s₂ hr' k₂ => by
    simp only [Rep] at hr hr'
    obtain ⟨t, rfl⟩ := hr
    obtain ⟨t', rfl⟩ := hr'
    exact call_range_2 ⟨_, _, _, _, rfl, push_new (kt k₁ k₂), Heap.get?_push_size _ rfl, kt (kt k₁ k₂) (kh fun b o e => Heap.get?_push_of_some _ e)⟩))) (he env)
theorem evR_3 {x : Str} {p pos : Pos} {e₁ e₂ e₃ : Expr} {a b c : Int} (B : BltIs g env x (.type "range")) (h₁ : Ev g d env loc e₁ (.int a)) (h₂ : Ev g d env loc e₂ (.int b)) (h₃ : Ev g d env loc e₃ (.int c)) (hc : c ≠ 0) (hc' : c.natAbs < 1073741824)
    (he : ∀ env, starEach [e₁, e₂, e₃] env = [(false, eval e₁ env), (false, eval e₂ env), (false, eval e₃ env)] := by intro _; rfl) :
    EvR g d env loc (.Call (.Name x p) [e₁, e₂, e₃] [] pos) a b c := .mk fun A s W M R I =>
  callT3 B I (h₁.to A s W M R I (fun v s₁ hr k₁ => h₂.to A s₁ W M R (I.keeps k₁) (fun u s₂ hr' k₂ => h₃.to A s₂ W M R (I.keeps (kt k₁ k₂)) (fun u s₃ hr₃ k₃ => by
    simp only [Rep] at hr hr' hr₃
    obtain ⟨t, rfl⟩ := hr
    obtain ⟨t', rfl⟩ := hr'
    obtain ⟨t₃, rfl⟩ := hr₃
    exact call_range_3 hc ⟨_, _, _, _, rfl, push_new (kt (kt k₁ k₂) k₃), Heap.get?_push_size _ rfl, kt (kt (kt k₁ k₂) k₃) (kh fun b o e => Heap.get?_push_of_some _ e)⟩ (.inl (PyProof.noPylong_small hc')))))) (he env)
theorem evF_range {x : Str} {p pos : Pos} {e : Expr} {a b c : Int} {n : Nat} (B : BltIs g env x (.type "list")) (h : EvR g d env loc e a b c) (hsmall : Builtin.Range.small a b c = true) (hn : Builtin.Range.rangeSize a b c = n) (hle : n ≤ 2 ^ 24)
    (he : ∀ env, starEach [e] env = [(false, eval e env)] := by intro _; rfl) : EvF g d env loc (.Call (.Name x p) [e] [] pos) (rangeT a c n) := .mk fun A s W M R I =>
  callT1 B I (h.to A s W M R I (fun v s₁ r t u v' e hnew hr k₁ => by
    subst e
    refine call_list_range R.1 hr hsmall hn hle fun h' tk acc c' hk hg ⟨hn, ha⟩ => ?_
    refine ⟨_, acc, c', rfl, push_new k₁, hg, RepL.of_get ?_ fun i t v e1 e2 => ?_, kt k₁ (kh hk)⟩
    · simp [rangeT, hn]
    · obtain ⟨u, rfl⟩ := ha i v (by simpa using e2)
      simp only [rangeT, List.getElem?_map] at e1
      have hi : i < n := by
        have : i < acc.toList.length := by
          rcases Nat.lt_or_ge i acc.toList.length with q | q
          · exact q
          · rw [List.getElem?_eq_none q] at e2; cases e2
        simpa [hn] using this
      rw [List.getElem?_range hi] at e1
      simp only [Option.map_some, Option.some.injEq] at e1
      subst e1
      simp only [Rep]; exact ⟨_, rfl⟩)) (he env)

/-! + and * of lists -/
theorem evF_add {l r : Expr} {pos : Pos} {ts us : List T} (h₁ : EvT g d env loc l ts) (h₂ : EvT g d env loc r us) (hsz : ts.length + us.length ≤ sizeLine) : EvF g d env loc (.BinOp l .Add r pos) (ts ++ us) := .mk fun A s W M R I =>
  wpAny_BinOp (h₁.to A s W M R I (fun v s₁ a xs n e hl hr k₁ => h₂.to A s₁ W M R (I.keeps k₁) (fun u s₂ b ys n' e' hl' hr' k₂ => by
    subst e; subst e'
    refine PySem.P.add_list (kk k₂ _ _ hl) hl' (fresh_list (tk := s₂.toks) (kt k₁ k₂) ?_) (by rw [size_of hr, size_of hr']; exact hsz)
    rw [Array.toList_append]
    exact (hr.keeps k₂).append hr')))
theorem RepL.rep {C : Addr} {h : Heap} {W : Addr → Prop} {t : T} {v : Value} (x : Rep C h W t v) : ∀ n, RepL C h W (List.replicate n t) (List.replicate n v)
  | 0 => .nil
  | n + 1 => .cons x (RepL.rep x n)
theorem foldl_one (v : Value) : ∀ (n : Nat) (acc : Array Value), (List.foldl (fun x1 x2 => x1 ++ x2) acc (List.replicate n #[v])).toList = acc.toList ++ List.replicate n v
  | 0, acc => by simp
  | n + 1, acc => by rw [List.replicate_succ, List.foldl_cons, foldl_one v n]; simp [List.replicate_succ]
theorem oneOf {xs : Array Value} (h : xs.size = 0 + 1) : ∃ v, xs = #[v] := by
  obtain ⟨l⟩ := xs
  obtain ⟨a, rfl⟩ := List.length_eq_one_iff.mp h
  exact ⟨a, rfl⟩
theorem evF_mul {l r : Expr} {pos : Pos} {t : T} {n : Int} (h₁ : EvT g d env loc l [t]) (h₂ : Ev g d env loc r (.int n)) (hn : n.natAbs ≤ 2 ^ 24) : EvF g d env loc (.BinOp l .Mult r pos) (List.replicate n.toNat t) := .mk fun A s W M R I =>
  wpAny_BinOp (h₁.to A s W M R I (fun v s₁ a xs c e hl hr k₁ => h₂.to A s₁ W M R (I.keeps k₁) (fun u s₂ hr' k₂ => by
    subst e
    simp only [Rep] at hr'
    obtain ⟨tk, rfl⟩ := hr'
    have hsz := size_of hr
    simp only [List.length_cons, List.length_nil] at hsz
    obtain ⟨v, hv⟩ := oneOf hsz
    subst hv
    refine call_mul (kk k₂ _ _ hl) (by (first | lia | omega)) (by (first | lia | omega)) (by simp only [List.size_toArray, List.length_cons, List.length_nil]; (first | lia | omega)) (fresh_list (tk := s₂.toks) (kt k₁ k₂) ?_)
    have : (#[v] : Array Value).isEmpty = false := rfl
    rw [this]
    simp only [Bool.false_eq_true, if_false]
    rw [foldl_one]
    simp only [RepL, List.nil_append] at hr ⊢
    obtain ⟨v', r', e, hv, _⟩ := hr
    cases e
    exact RepL.rep (hv.keeps k₂) _)))
end
end Mine

open PySem PySem.W PySem.Calls PyProof.Rows
set_option linter.unusedVariables false
set_option maxRecDepth 100000
namespace Mine
open PySem.Builtin PySem.Builtin.Str

section
variable {g : GC} {d : Nat} {env : Env} {loc : Loc}

/-- a method's call has the plain form -/
structure MethForm (o : Expr) (name : Str) (apos : Pos) (args : List Expr) (pos : Pos) : Prop where
  run : ∀ env, eval (.Call (.Attribute o name apos) args [] pos) env = (do
      let ov ← eval o env
      standAt apos.atName
      let (f, first) ← holding [ov] (getMethod ov name (do return (← importBound o env).getD true))
      callWith pos f first (backTo pos (starEach args env)) [])

/-- what a method of str gives -/
structure StrMeth (name : Str) (id : String) : Prop where
  run : ∀ (M : Model) (A : Around) (E : Value → Shared → Prop) (s : Shared) (x : Str) (t : Tok) (pl : Sem Bool) (Q : Value × List Value → Shared → Prop), Q (.builtin id, [.str x t]) s → wpAny M A (getMethod (.str x t) name pl) Q E s
theorem sm_split : StrMeth "split" "str.split" := .mk fun M A E s x t pl Q h => GM.split h
theorem sm_join : StrMeth "join" "str.join" := .mk fun M A E s x t pl Q h => GM.join h
theorem sm_find : StrMeth "find" "str.find" := .mk fun M A E s x t pl Q h => GM.find h
theorem sm_rfind : StrMeth "rfind" "str.rfind" := .mk fun M A E s x t pl Q h => GM.rfind h
theorem sm_starts : StrMeth "startswith" "str.startswith" := .mk fun M A E s x t pl Q h => GM.startswith h
theorem sm_ends : StrMeth "endswith" "str.endswith" := .mk fun M A E s x t pl Q h => GM.endswith h
theorem sm_lower : StrMeth "lower" "str.lower" := .mk fun M A E s x t pl Q h => GM.lower h

section
variable {A : Around} {s : Shared} {W M : Addr → Prop} {o e₁ e₂ e₃ : Expr} {name : Str} {apos pos : Pos} {x : Str} {id : String} {Q : Value → Shared → Prop}
theorem meth0 (hm : MethForm o name apos [] pos) (sm : StrMeth name id) (R : Room A d) (I : Inv g env loc W M s.heap) (ho : Ev g d env loc o (.str x))
    (h : ∀ s₁ t, Keeps s s₁ → wpAny g.M A (call (.builtin id) [.str x t]) Q bot s₁) : wpAny g.M A (eval (.Call (.Attribute o name apos) [] [] pos) env) Q bot s :=
  MethodCall_ (ho.to A s W M R I (fun v s₁ r₁ k₁ => by
    simp only [Rep] at r₁
    obtain ⟨t, rfl⟩ := r₁
    exact sm.run _ _ _ _ _ _ _ _ (callWith_method0 (h s₁ t k₁)))) (hm.run env)
theorem meth1 (hm : MethForm o name apos [e₁] pos) (sm : StrMeth name id) (R : Room A d) (I : Inv g env loc W M s.heap) (ho : Ev g d env loc o (.str x))
    (h : ∀ s₁ t, Keeps s s₁ → wpAny g.M A (eval e₁ env) (fun v s₂ => wpAny g.M A (call (.builtin id) [.str x t, v]) Q bot s₂) bot s₁)
    (he : starEach [e₁] env = [(false, eval e₁ env)]) : wpAny g.M A (eval (.Call (.Attribute o name apos) [e₁] [] pos) env) Q bot s :=
  MethodCall_ (ho.to A s W M R I (fun v s₁ r₁ k₁ => by
    simp only [Rep] at r₁
    obtain ⟨t, rfl⟩ := r₁
    refine sm.run _ _ _ _ _ _ _ _ ?_
    rw [he]
    exact callWith_builtin rfl (evalArgs_plain (spliced_cons (wpAny_mono (h s₁ t k₁) (fun v s₁ h₁ => spliced_nil h₁) fun _ _ h => h.elim))))) (hm.run env)
theorem meth3 (hm : MethForm o name apos [e₁, e₂, e₃] pos) (sm : StrMeth name id) (R : Room A d) (I : Inv g env loc W M s.heap) (ho : Ev g d env loc o (.str x))
    (h : ∀ s₁ t, Keeps s s₁ → wpAny g.M A (eval e₁ env) (fun v s₂ => wpAny g.M A (eval e₂ env) (fun v₂ s₃ => wpAny g.M A (eval e₃ env) (fun v₃ s₄ => wpAny g.M A (call (.builtin id) [.str x t, v, v₂, v₃]) Q bot s₄) bot s₃) bot s₂) bot s₁)
    (he : starEach [e₁, e₂, e₃] env = [(false, eval e₁ env), (false, eval e₂ env), (false, eval e₃ env)]) : wpAny g.M A (eval (.Call (.Attribute o name apos) [e₁, e₂, e₃] [] pos) env) Q bot s :=
  MethodCall_ (ho.to A s W M R I (fun v s₁ r₁ k₁ => by
    simp only [Rep] at r₁
    obtain ⟨t, rfl⟩ := r₁
    refine sm.run _ _ _ _ _ _ _ _ ?_
    rw [he]
    exact callWith_builtin rfl (evalArgs_plain (spliced_cons (wpAny_mono (h s₁ t k₁) (fun v s₁ h₁ => spliced_cons (wpAny_mono h₁ (fun u s₂ h₂ => spliced_cons (wpAny_mono h₂ (fun u s₂ h₂ => spliced_nil h₂) fun _ _ h => h.elim)) fun _ _ h => h.elim)) fun _ _ h => h.elim))))) (hm.run env)
end

section
variable {o e₁ e₂ e₃ : Expr} {apos pos : Pos} {x y : Str}
theorem ev_starts (ho : Ev g d env loc o (.str x)) (h : Ev g d env loc e₁ (.str y)) (hm : MethForm o "startswith" apos [e₁] pos := by exact ⟨fun _ => rfl⟩) (he : ∀ env, starEach [e₁] env = [(false, eval e₁ env)] := by intro _; rfl) :
    Ev g d env loc (.Call (.Attribute o "startswith" apos) [e₁] [] pos) (.bool (Txt.startswith x y)) := .mk fun A s W M R I =>
  meth1 hm sm_starts R I ho (fun s₁ t k₁ => h.to A s₁ W M R (I.keeps k₁) (fun v s₂ r k₂ => by
    simp only [Rep] at r; obtain ⟨u, rfl⟩ := r
    exact SC.startswith ⟨by simp only [Rep], kt k₁ k₂⟩)) (he env)
theorem ev_ends (ho : Ev g d env loc o (.str x)) (h : Ev g d env loc e₁ (.str y)) (hm : MethForm o "endswith" apos [e₁] pos := by exact ⟨fun _ => rfl⟩) (he : ∀ env, starEach [e₁] env = [(false, eval e₁ env)] := by intro _; rfl) :
    Ev g d env loc (.Call (.Attribute o "endswith" apos) [e₁] [] pos) (.bool (Txt.endswith x y)) := .mk fun A s W M R I =>
  meth1 hm sm_ends R I ho (fun s₁ t k₁ => h.to A s₁ W M R (I.keeps k₁) (fun v s₂ r k₂ => by
    simp only [Rep] at r; obtain ⟨u, rfl⟩ := r
    exact SC.endswith ⟨by simp only [Rep], kt k₁ k₂⟩)) (he env)
theorem ev_find (ho : Ev g d env loc o (.str x)) (h : Ev g d env loc e₁ (.str y)) (hm : MethForm o "find" apos [e₁] pos := by exact ⟨fun _ => rfl⟩) (he : ∀ env, starEach [e₁] env = [(false, eval e₁ env)] := by intro _; rfl) :
    Ev g d env loc (.Call (.Attribute o "find" apos) [e₁] [] pos) (.int (Txt.find x y)) := .mk fun A s W M R I =>
  meth1 hm sm_find R I ho (fun s₁ t k₁ => h.to A s₁ W M R (I.keeps k₁) (fun v s₂ r k₂ => by
    simp only [Rep] at r; obtain ⟨u, rfl⟩ := r
    exact SC.find ⟨by simp only [Rep]; exact ⟨_, rfl⟩, kt (kt k₁ k₂) ktok⟩)) (he env)
theorem ev_find4 {i j : Int} (ho : Ev g d env loc o (.str x)) (h : Ev g d env loc e₁ (.str y)) (h₂ : Ev g d env loc e₂ (.int i)) (h₃ : Ev g d env loc e₃ (.int j)) (hm : MethForm o "find" apos [e₁, e₂, e₃] pos := by exact ⟨fun _ => rfl⟩)
    (he : ∀ env, starEach [e₁, e₂, e₃] env = [(false, eval e₁ env), (false, eval e₂ env), (false, eval e₃ env)] := by intro _; rfl) :
    Ev g d env loc (.Call (.Attribute o "find" apos) [e₁, e₂, e₃] [] pos) (.int (find4 x y i j)) := .mk fun A s W M R I =>
  meth3 hm sm_find R I ho (fun s₁ t k₁ => h.to A s₁ W M R (I.keeps k₁) (fun v s₂ r k₂ => h₂.to A s₂ W M R (I.keeps (kt k₁ k₂)) (fun v s₃ r₃ k₃ => h₃.to A s₃ W M R (I.keeps (kt (kt k₁ k₂) k₃)) (fun v s₄ r₄ k₄ => by
    simp only [Rep] at r r₃ r₄; obtain ⟨u, rfl⟩ := r; obtain ⟨u₃, rfl⟩ := r₃; obtain ⟨u₄, rfl⟩ := r₄
    exact call_find4 ⟨by simp only [Rep]; exact ⟨_, rfl⟩, kt (kt (kt (kt k₁ k₂) k₃) k₄) ktok⟩)))) (he env)
theorem ev_rfind4 {i j : Int} (ho : Ev g d env loc o (.str x)) (h : Ev g d env loc e₁ (.str y)) (h₂ : Ev g d env loc e₂ (.int i)) (h₃ : Ev g d env loc e₃ (.int j)) (hm : MethForm o "rfind" apos [e₁, e₂, e₃] pos := by exact ⟨fun _ => rfl⟩)
    (he : ∀ env, starEach [e₁, e₂, e₃] env = [(false, eval e₁ env), (false, eval e₂ env), (false, eval e₃ env)] := by intro _; rfl) :
    Ev g d env loc (.Call (.Attribute o "rfind" apos) [e₁, e₂, e₃] [] pos) (.int (rfind4 x y i j)) := .mk fun A s W M R I =>
  meth3 hm sm_rfind R I ho (fun s₁ t k₁ => h.to A s₁ W M R (I.keeps k₁) (fun v s₂ r k₂ => h₂.to A s₂ W M R (I.keeps (kt k₁ k₂)) (fun v s₃ r₃ k₃ => h₃.to A s₃ W M R (I.keeps (kt (kt k₁ k₂) k₃)) (fun v s₄ r₄ k₄ => by
    simp only [Rep] at r r₃ r₄; obtain ⟨u, rfl⟩ := r; obtain ⟨u₃, rfl⟩ := r₃; obtain ⟨u₄, rfl⟩ := r₄
    exact call_rfind4 ⟨by simp only [Rep]; exact ⟨_, rfl⟩, kt (kt (kt (kt k₁ k₂) k₃) k₄) ktok⟩)))) (he env)
theorem ev_lower (ho : Ev g d env loc o (.str x)) (hx : x.length ≤ 5000000) (hm : MethForm o "lower" apos [] pos := by exact ⟨fun _ => rfl⟩) :
    Ev g d env loc (.Call (.Attribute o "lower" apos) [] [] pos) (.str (Txt.lower x)) := .mk fun A s W M R I =>
  meth0 hm sm_lower R I ho fun s₁ t k₁ => SC.lower (fit_lower (by (first | lia | omega))) ⟨by simp only [Rep]; exact ⟨_, rfl⟩, kt k₁ ktok⟩
theorem ev_join {ys : List Str} (ho : Ev g d env loc o (.str x)) (h : EvT g d env loc e₁ (ys.map T.str)) (hsz : (ys.map (·.length)).sum + ys.length * x.length ≤ 16777216) (hm : MethForm o "join" apos [e₁] pos := by exact ⟨fun _ => rfl⟩) (he : ∀ env, starEach [e₁] env = [(false, eval e₁ env)] := by intro _; rfl) :
    Ev g d env loc (.Call (.Attribute o "join" apos) [e₁] [] pos) (.str (Txt.join x ys)) := .mk fun A s W M R I =>
  meth1 hm sm_join R I ho (fun s₁ t k₁ => h.to A s₁ W M R (I.keeps k₁) (fun v s₂ a xs n e hl hr k₂ => by
    subst e
    exact join_list (isList hl) hr.strs hsz fun t' k => ⟨by simp only [Rep]; exact ⟨_, rfl⟩, kt (kt k₁ k₂) ktok⟩)) (he env)
theorem strValues_rep {C : Addr} {h : Heap} {W : Addr → Prop} : ∀ (l : List (Str × Tok)), RepL C h W ((l.map (·.1)).map T.str) (strValues l)
  | [] => .nil
  | p :: r => .cons (by simp only [Rep]; exact ⟨_, rfl⟩) (strValues_rep r)
theorem evF_split (ho : Ev g d env loc o (.str x)) (h : Ev g d env loc e₁ (.str y)) (hy : (y.length == 0) = false) (hsz : x.length + 2 ≤ sizeLine) (hm : MethForm o "split" apos [e₁] pos := by exact ⟨fun _ => rfl⟩) (he : ∀ env, starEach [e₁] env = [(false, eval e₁ env)] := by intro _; rfl) :
    EvF g d env loc (.Call (.Attribute o "split" apos) [e₁] [] pos) ((Txt.split x y).map T.str) := .mk fun A s W M R I =>
  meth1 hm sm_split R I ho (fun s₁ t k₁ => h.to A s₁ W M R (I.keeps k₁) (fun v s₂ r k₂ => by
    simp only [Rep] at r; obtain ⟨u, rfl⟩ := r
    refine call_split hy (fun l tk e => fresh_list (tk := tk) (kt k₁ k₂) ?_) hsz
    rw [← e]
    simpa using strValues_rep l)) (he env)
end

/-! calls of the text's own defs -/
structure FnAt (g : GC) (f : Addr) : Prop where
  at_ : ∃ o fd, g.h0.get? f = some o ∧ o.data = .func fd
theorem callDef {A : Around} {s : Shared} {W M : Addr → Prop} {f : Addr} {pos : Pos} {first : List Value} {e : Expr} {es : List Expr} {ts : List T} {ft : List T} {t : T} {dd : Nat} (F : FnAt g f) (R : Room A d) (I : Inv g env loc W M s.heap) (hf : RepL g.C s.heap W ft first)
    (h : EvL g d env loc (e :: es) ts) (hs : ∀ env, starEach (e :: es) env = (false, eval e env) :: starEach es env) (hc : Calls g dd (.ref f) (ft ++ ts) t) (hd : dd ≤ d) :
    wpAny g.M A (callWith pos (.ref f) first (backTo pos (starEach (e :: es) env)) []) (fun v s' => Rep g.C s'.heap W t v ∧ Keeps s s') bot s := by
  obtain ⟨o, fd, ho, hdat⟩ := F.at_
  have h' := h.run A s W M pos R I
  rw [hs] at h' ⊢
  refine callWith_function (o := o) (fd := fd) (evalArgs_plain (wpAny_mono h' (fun vs s₁ ⟨r₁, k₁⟩ => ⟨⟨(I.keeps k₁).base.keep0 _ _ ho |>.1, hdat⟩, ?_⟩) fun _ _ h => h.elim))
  refine wpAny_call (codeAny_mono (hc.run A s₁ W (first ++ vs) (R.mono hd) (I.keeps k₁).base ((hf.keeps k₁).append r₁)) fun r s₂ ⟨v, e, rv, k₂⟩ => ?_)
  subst e
  exact ⟨rv, kt k₁ k₂⟩
/-- a def of the top, called by its name -/
theorem ev_call {x : Str} {p pos : Pos} {f : Addr} {e : Expr} {es : List Expr} {ts : List T} {t : T} {dd : Nat} (hk : env.kindOf x = some .globalImplicit) (hv : g.mg x = some (.ref f)) (F : FnAt g f) (h : EvL g d env loc (e :: es) ts)
    (hc : Calls g dd (.ref f) ts t) (hd : dd ≤ d) (hnd : (x == ("__debug__" : Str)) = false := by decide +kernel) (hs : ∀ env, starEach (e :: es) env = (false, eval e env) :: starEach es env := by intro _; rfl) :
    Ev g d env loc (.Call (.Name x p) (e :: es) [] pos) t := .mk fun A s W M R I =>
  Call_ (nm_glob I hk hv (callDef (ft := []) F R I .nil h hs hc hd) hnd)

/-! the class -/
structure WSF (g : GC) : Prop where
  ga : findIn g.K (.ref g.C) "__getattribute__" = some (some (.builtin "object.__getattribute__"))
  gattr : findIn g.K (.ref g.C) "__getattr__" = some none
  hasDict : (clsIn g.K g.C).any (·.hasDict) = true
  raw : findIn g.K (.ref g.C) "raw" = some none
  n : findIn g.K (.ref g.C) "n" = some none
  nt : findIn g.K (.ref g.C) "nt" = some none
  norm : findIn g.K (.ref g.C) "norm" = some none
  simple : findIn g.K (.ref g.C) "is_simple" = some none
theorem kinB {W : Addr → Prop} {h : Heap} (B : Base g W h) : g.K.In h := g.kin.keeps fun b o e => (B.keep0 b o e).1

structure AttrForm (value : Expr) (attr : Str) (pos : Pos) : Prop where
  run : ∀ env, eval (.Attribute value attr pos) env = (do
      let o ← eval value env
      standAt pos.atName
      let r ← holding [o] (getAttr o attr true)
      letTemporaryGo value o r
      pure r)
theorem findObj_own {K : Frag} {C : Addr} {od : Obj} {nm : Str} {v : Value} (hd : (clsIn K C).any (·.hasDict) = true) (hf : findIn K (.ref C) nm = some none) (hl : lookIn nm od = some (some v)) : findObj K C (some od) nm = some (.value v) := by
  obtain ⟨cd, hc, hh⟩ := any_some hd
  unfold findObj
  rw [hc, hf]
  simp only [Option.bind_some, PySem.W.ownOf, hh, if_true, hl]
theorem wsAttr {A : Around} {s : Shared} {W M : Addr → Prop} {a dx : Addr} {od : Obj} {nm : Str} {v : Value} {Q : Value → Shared → Prop} (F : WSF g) (X : g.K.In s.heap) (ha : s.heap.get? a = some (instObj g.C dx)) (hd : s.heap.get? dx = some od) (hf : findIn g.K (.ref g.C) nm = some none)
    (hl : lookIn nm od = some (some v)) (hh : handedIn v = true) (h : Q v { s with toks := s.toks + 1 }) : wpAny g.M A (getAttr (.ref a) nm true) Q bot s :=
  get_value X ⟨ha, rfl, rfl, hd⟩ F.ga (findObj_own F.hasDict hf hl) hh h
theorem handed_rep {C : Addr} {h : Heap} {W : Addr → Prop} {t : T} {v : Value} (x : Rep C h W t v) : handedIn v = true := by
  cases t <;> simp only [Rep] at x
  · subst x; rfl
  · subst x; rfl
  · obtain ⟨t, rfl⟩ := x; rfl
  · obtain ⟨t, rfl⟩ := x; rfl
  · obtain ⟨a, _, _, rfl, _⟩ := x; rfl
  · obtain ⟨a, _, _, rfl, _⟩ := x; rfl
  · obtain ⟨a, _, _, _, _, _, _, rfl, _⟩ := x; rfl
section
variable {value : Expr} {pos : Pos} {raw : Str} {n nt : Int} {norm : T} {simple : Bool} (F : WSF g)
include F
theorem ev_n (h : Ev g d env loc value (.ws raw n nt norm simple)) (hf : AttrForm value "n" pos := by exact ⟨fun _ => rfl⟩) : Ev g d env loc (.Attribute value "n" pos) (.int n) := .mk fun A s W M R I =>
  Attribute_any_ (h.to A s W M R I (fun v s₁ r k => by
    simp only [Rep] at r
    obtain ⟨a, dx, od, t1, t2, t3, nv, rfl, hw, ha, hwd, hd, l1, l2, l3, l4, l5, l6, l7, l8, hr⟩ := r
    exact wsAttr (W := W) (M := M) F (kinB (I.keeps k).base) ha hd F.n l2 rfl ⟨by simp only [Rep]; exact ⟨_, rfl⟩, kt k ktok⟩)) (hf.run env)
theorem ev_nt (h : Ev g d env loc value (.ws raw n nt norm simple)) (hf : AttrForm value "nt" pos := by exact ⟨fun _ => rfl⟩) : Ev g d env loc (.Attribute value "nt" pos) (.int nt) := .mk fun A s W M R I =>
  Attribute_any_ (h.to A s W M R I (fun v s₁ r k => by
    simp only [Rep] at r
    obtain ⟨a, dx, od, t1, t2, t3, nv, rfl, hw, ha, hwd, hd, l1, l2, l3, l4, l5, l6, l7, l8, hr⟩ := r
    exact wsAttr (W := W) (M := M) F (kinB (I.keeps k).base) ha hd F.nt l3 rfl ⟨by simp only [Rep]; exact ⟨_, rfl⟩, kt k ktok⟩)) (hf.run env)
theorem ev_simple (h : Ev g d env loc value (.ws raw n nt norm simple)) (hf : AttrForm value "is_simple" pos := by exact ⟨fun _ => rfl⟩) : Ev g d env loc (.Attribute value "is_simple" pos) (.bool simple) := .mk fun A s W M R I =>
  Attribute_any_ (h.to A s W M R I (fun v s₁ r k => by
    simp only [Rep] at r
    obtain ⟨a, dx, od, t1, t2, t3, nv, rfl, hw, ha, hwd, hd, l1, l2, l3, l4, l5, l6, l7, l8, hr⟩ := r
    exact wsAttr (W := W) (M := M) F (kinB (I.keeps k).base) ha hd F.simple l5 rfl ⟨by simp only [Rep], kt k ktok⟩)) (hf.run env)
theorem ev_norm (h : Ev g d env loc value (.ws raw n nt norm simple)) (hf : AttrForm value "norm" pos := by exact ⟨fun _ => rfl⟩) : Ev g d env loc (.Attribute value "norm" pos) norm := .mk fun A s W M R I =>
  Attribute_any_ (h.to A s W M R I (fun v s₁ r k => by
    simp only [Rep] at r
    obtain ⟨a, dx, od, t1, t2, t3, nv, rfl, hw, ha, hwd, hd, l1, l2, l3, l4, l5, l6, l7, l8, hr⟩ := r
    exact wsAttr (W := W) (M := M) F (kinB (I.keeps k).base) ha hd F.norm l4 (handed_rep hr) ⟨hr.keeps ktok, kt k ktok⟩)) (hf.run env)
/-- a method of the class, called with arguments -/
theorem ev_meth {name : Str} {apos : Pos} {f : Addr} {e : Expr} {es : List Expr} {ts : List T} {t : T} {dd : Nat} (h : Ev g d env loc value (.ws raw n nt norm simple)) (hn : name = "less" ∨ name = "indent_level" ∨ name = "longest_run_of_spaces")
    (hf : findIn g.K (.ref g.C) name = some (some (.ref f))) (ht : typeIn g.K (.ref f) = some (.type "function")) (Ff : FnAt g f) (ha : EvL g d env loc (e :: es) ts) (hc : Calls g dd (.ref f) (.ws raw n nt norm simple :: ts) t) (hd : dd ≤ d)
    (hm : MethForm value name apos (e :: es) pos := by intro _; rfl) (hs : ∀ env, starEach (e :: es) env = (false, eval e env) :: starEach es env := by intro _; rfl) :
    Ev g d env loc (.Call (.Attribute value name apos) (e :: es) [] pos) t := .mk fun A s W M R I =>
  MethodCall_ (h.to A s W M R I (fun v s₁ r k => by
    have r' := r
    simp only [Rep] at r
    obtain ⟨a, dx, od, t1, t2, t3, nv, rfl, hw, ha', hwd, hd', l1, l2, l3, l4, l5, l6, l7, l8, hr⟩ := r
    refine method_fn (od := some od) (kinB (I.keeps k).base) ⟨ha', rfl, rfl, hd'⟩ F.ga F.gattr hf ht ?_ ?_
    · rcases hn with rfl | rfl | rfl
      · show (lookIn _ od).map _ = _; rw [l6]; rfl
      · show (lookIn _ od).map _ = _; rw [l7]; rfl
      · show (lookIn _ od).map _ = _; rw [l8]; rfl
    · exact wpAny_mono (callDef (ft := [.ws raw n nt norm simple]) Ff R (I.keeps k) (.cons r' .nil) ha hs hc hd) (fun v s' ⟨q, k'⟩ => ⟨q, kt k k'⟩) fun _ _ h => h.elim)) (hm.run env)
/-- without arguments -/
theorem ev_meth0 {name : Str} {apos : Pos} {f : Addr} {t : T} {dd : Nat} (h : Ev g d env loc value (.ws raw n nt norm simple)) (hn : name = "less" ∨ name = "indent_level" ∨ name = "longest_run_of_spaces")
    (hf : findIn g.K (.ref g.C) name = some (some (.ref f))) (ht : typeIn g.K (.ref f) = some (.type "function")) (Ff : FnAt g f) (hc : Calls g dd (.ref f) [.ws raw n nt norm simple] t) (hd : dd ≤ d)
    (hm : MethForm value name apos [] pos := by exact ⟨fun _ => rfl⟩) :
    Ev g d env loc (.Call (.Attribute value name apos) [] [] pos) t := .mk fun A s W M R I =>
  MethodCall_ (h.to A s W M R I (fun v s₁ r k => by
    have r' := r
    simp only [Rep] at r
    obtain ⟨a, dx, od, t1, t2, t3, nv, rfl, hw, ha', hwd, hd', l1, l2, l3, l4, l5, l6, l7, l8, hr⟩ := r
    refine method_fn (od := some od) (kinB (I.keeps k).base) ⟨ha', rfl, rfl, hd'⟩ F.ga F.gattr hf ht ?_ ?_
    · rcases hn with rfl | rfl | rfl
      · show (lookIn _ od).map _ = _; rw [l6]; rfl
      · show (lookIn _ od).map _ = _; rw [l7]; rfl
      · show (lookIn _ od).map _ = _; rw [l8]; rfl
    · obtain ⟨o, fd, ho, hdat⟩ := Ff.at_
      refine callWith_function (args := []) (o := o) (fd := fd) (PyProof.Rows.evalArgs_none ⟨⟨((I.keeps k).base.keep0 _ _ ho).1, hdat⟩, ?_⟩)
      refine wpAny_call (codeAny_mono (hc.run A s₁ W [.ref a] (R.mono hd) (I.keeps k).base (.cons r' .nil)) fun r s₂ ⟨v, e, rv, k₂⟩ => ?_)
      subst e
      exact ⟨rv, kt k k₂⟩)) (hm.run env)
end
end
end Mine

open PySem PySem.W PySem.Calls PyProof.Rows
set_option linter.unusedVariables false
set_option maxRecDepth 100000
namespace Mine

section
variable {g : GC} {d : Nat} {env : Env} {loc : Loc} {W M : Addr → Prop}

theorem stepT {s : Shared} {h : Heap} {t : Nat} {b : Addr} (hs : Heap.SameBut b s.heap h) (hb : M b) (hm : (h.get? b).isSome) : Step s W M { s with heap := h, toks := t } W M where
  rest := ⟨_, _, rfl⟩
  keep a o e hn := (hs.2 a fun q => hn (q ▸ hb)).trans e
  live a e := by
    have e' : h.get? a = none := e
    by_cases q : a = b
    · subst q; rw [e'] at hm; cases hm
    · rw [← hs.2 a q]; exact e'
  Mnew a h := .inl h
  Wkeep a h _ := h
  Wnew a h := .inl h
theorem stepK {s s' : Shared} (k : Keeps s s') : Step s W M s' W M where
  rest := by obtain ⟨h, t, e, _⟩ := k; exact ⟨h, t, e⟩
  keep a o e _ := kk k a o e
  live a e := by
    cases q : s.heap.get? a with
    | none => rfl
    | some o => rw [kk k a o q] at e; cases e
  Mnew a h := .inl h
  Wkeep a h _ := h
  Wnew a h := .inl h

noncomputable def notSeq (o : Obj) : Prop := match o.data with | .seq .. => False | _ => True
noncomputable def notDict (o : Obj) : Prop := match o.data with | .dict .. => False | _ => True

/-- a value stays what it shows over a change of one wild object that is no list of its own -/
theorem lvKeep {C L b : Addr} {h h' : Heap} {o : Obj} {lv : LV} {v : Value} (x : LVRep C h W M L lv v) (hs : Heap.SameBut b h h') (hb : W b) (ho : h.get? b = some o) (h1 : notSeq o) (h2 : b = L ∨ notDict o) : LVRep C h' W M L lv v := by
  have hc : ∀ a o, h.get? a = some o → ¬ W a → h'.get? a = some o ∧ ¬ W a := fun a o e hw => ⟨(hs.2 a fun q => hw (q ▸ hb)).trans e, hw⟩
  cases lv with
  | val t => exact Rep.mono hc t _ x
  | own ts =>
    obtain ⟨a, xs, n, e, hM, hl, hr⟩ := x
    refine ⟨a, xs, n, e, hM, (hs.2 a fun q => ?_).trans hl, RepL.mono hc ts _ hr⟩
    subst q
    rw [hl] at ho
    cases ho
    exact h1
  | obj at' =>
    obtain ⟨x, dx, es, n, e, hw, hx, hM, hne, hd, hk, hl, ha⟩ := x
    refine ⟨x, dx, es, n, e, hw, (hc _ _ hx hw).1, hM, hne, (hs.2 dx fun q => ?_).trans hd, hk, hl, fun nm => ?_⟩
    · rcases h2 with h2 | h2
      · exact hne (q.trans h2)
      · subst q; rw [hd] at ho; cases ho; exact h2
    · have := ha nm
      cases q : getA at'.2 nm with
      | none => rw [q] at this; exact this
      | some t => rw [q] at this; obtain ⟨v, e1, e2⟩ := this; exact ⟨v, e1, Rep.mono hc _ _ e2⟩

theorem nsObj {h : Heap} {L : Addr} {m : Str → Option Value} (hn : h.Ns L m) : ∃ o es n, h.get? L = some o ∧ o.data = .dict es n := let ⟨o, es, n, ho, hd, _⟩ := hn; ⟨o, es, n, ho, hd⟩

noncomputable def Stores (env : Env) (x : String) : Prop := env.kindOf (Str.ofString x) = some .local ∨ (env.kindOf (Str.ofString x) = some .cell ∧ ∃ c, env.cells.lookup (Str.ofString x) = some c)

theorem isCell_keep {h h' : Heap} {b c : Addr} {v : Option Value} (x : h.IsCell c v) (hs : Heap.SameBut b h h') (hne : c ≠ b) : h'.IsCell c v := let ⟨o, ho, hd⟩ := x; ⟨o, (hs.2 c hne).trans ho, hd⟩

/-- a store, whatever is stored -/
theorem storeG {A : Around} {s : Shared} {x : String} {lv : LV} {v : Value} {Q : Unit → Shared → Prop} {E : Value → Shared → Prop} (I : Inv g env loc W M s.heap) (hst : Stores env x) (hv : LVRep g.C s.heap W M env.locals lv v)
    {m : Str → Option Value} {val : String → Value} (hn : s.heap.Ns env.locals m) (hl : ∀ x lv, Loc.get loc x = some lv → At env s.heap m x (val x) ∧ LVRep g.C s.heap W M env.locals lv (val x))
    (huq : ∀ x y tx ty, Loc.get loc x = some (.own tx) → Loc.get loc y = some (.own ty) → val x = val y → x = y) (hobq : ∀ x y a b, Loc.get loc x = some (.obj a) → Loc.get loc y = some (.obj b) → x = y)
    (hu : ∀ ts, lv = .own ts → ∀ y ty, Loc.get loc y = some (.own ty) → y ≠ x → val y ≠ v) (hob : ∀ a, lv ≠ .obj a)
    (h : ∀ s', Inv g env (Loc.set loc x lv) W M s'.heap → Step s W M s' W M → (∃ b, Heap.SameBut b s.heap s'.heap ∧ M b ∧ (b = env.locals ∨ env.cells.lookup (Str.ofString x) = some b)) → Q () s') : wpAny g.M A (storeName env (Str.ofString x) v) Q E s := by
  obtain ⟨oL, esL, nL, hoL, hdL⟩ := nsObj hn
  have uniq : ∀ y z ty tz, Loc.get (Loc.set loc x lv) y = some (.own ty) → Loc.get (Loc.set loc x lv) z = some (.own tz) → (if y = x then v else val y) = (if z = x then v else val z) → y = z := by
    intro y z ty tz ey ez e
    rw [Loc.get_set] at ey ez
    by_cases hy : y = x
    · by_cases hz : z = x
      · rw [hy, hz]
      · subst hy
        rw [if_pos rfl] at ey
        rw [if_neg (fun q => hz q.symm)] at ez
        rw [if_pos rfl, if_neg hz] at e
        exact absurd e.symm (hu ty (Option.some.inj ey) z tz ez hz)
    · by_cases hz : z = x
      · subst hz
        rw [if_pos rfl] at ez
        rw [if_neg (fun q => hy q.symm)] at ey
        rw [if_neg hy, if_pos rfl] at e
        exact absurd e (hu tz (Option.some.inj ez) y ty ey hy)
      · rw [if_neg (fun q => hy q.symm)] at ey
        rw [if_neg (fun q => hz q.symm)] at ez
        rw [if_neg hy, if_neg hz] at e
        exact huq y z ty tz ey ez e
  have uniqO : ∀ y z a b, Loc.get (Loc.set loc x lv) y = some (.obj a) → Loc.get (Loc.set loc x lv) z = some (.obj b) → y = z := by
    intro y z a b ey ez
    rw [Loc.get_set] at ey ez
    by_cases hy : x = y
    · rw [if_pos hy] at ey; exact absurd (Option.some.inj ey) (hob a)
    · by_cases hz : x = z
      · rw [if_pos hz] at ez; exact absurd (Option.some.inj ez) (hob b)
      · rw [if_neg hy] at ey; rw [if_neg hz] at ez; exact hobq y z a b ey ez
  -- the rest of the frame, over a change of one object
  have rest : ∀ (b : Addr) (o : Obj) (h' : Heap), s.heap.get? b = some o → (h'.get? b).isSome → M b → notSeq o → (b = env.locals ∨ notDict o) → Heap.SameBut b s.heap h' →
      (∃ m', h'.Ns env.locals m' ∧ (∀ y w, y ≠ x → At env s.heap m y w → At env h' m' y w) ∧ At env h' m' x v) → 
      (∀ (y : String) c, env.kindOf (Str.ofString y) = some .cell → env.cells.lookup (Str.ofString y) = some c → ∃ v₀, h'.IsCell c v₀) → Inv g env (Loc.set loc x lv) W M h' := by
    intro b o h' hob' hsome hMb h1 h2 hs ⟨m', hn', hat, hatx⟩ hcells
    refine ⟨⟨fun a oa e => ?_, fun a e => ?_⟩, I.kind, I.glob, I.blt, I.MW, I.ML, fun y c e1 e2 => ⟨hcells y c e1 e2, (I.cells y c e1 e2).2⟩, I.inj, m', fun y => if y = x then v else val y, hn', fun y lv' e => ?_, uniq, uniqO⟩
    · have := I.base.keep0 a oa e
      exact ⟨(hs.2 a fun q => this.2 (q ▸ I.MW _ hMb)).trans this.1, this.2⟩
    · by_cases q : a = b
      · subst q; rw [e] at hsome; cases hsome
      · exact I.base.live a (by rw [← hs.2 a q]; exact e)
    · rw [Loc.get_set] at e
      by_cases hy : y = x
      · subst hy
        rw [if_pos rfl] at e
        cases e
        rw [if_pos rfl]
        exact ⟨hatx, lvKeep hv hs (I.MW _ hMb) hob' h1 h2⟩
      · rw [if_neg (fun q => hy q.symm)] at e
        rw [if_neg hy]
        exact ⟨hat y _ hy (hl y lv' e).1, lvKeep (hl y lv' e).2 hs (I.MW _ hMb) hob' h1 h2⟩
  rcases hst with hk | ⟨hk, c, hc⟩
  · refine wpAny_storeName_local hk hn (fun h' hn' hs => ?_) (by rw [I.kind]; rfl)
    obtain ⟨oL', _, _, hoL', _⟩ := nsObj hn'
    have nc : ∀ (y : String) c, env.kindOf (Str.ofString y) = some .cell → env.cells.lookup (Str.ofString y) = some c → c ≠ env.locals := by
      intro y c e1 e2 q
      obtain ⟨⟨v₀, o, ho, hd⟩, _⟩ := I.cells y c e1 e2
      rw [q, hoL] at ho; cases ho
      rw [hd] at hdL; cases hdL
    refine h _ (rest env.locals oL h' hoL (by rw [hoL']; rfl) I.ML (by unfold notSeq; rw [hdL]; trivial) (.inl rfl) hs ⟨_, hn', fun y w hy ha => ?_, .inl ⟨hk, if_pos rfl⟩⟩ fun y c e1 e2 => ?_) (stepT hs I.ML (by rw [hoL']; rfl)) ⟨env.locals, hs, I.ML, .inl rfl⟩
    · rcases ha with ⟨h1, h2⟩ | ⟨h1, c, h2, h3⟩
      · exact .inl ⟨h1, by dsimp only; rw [if_neg (fun q => hy (ofString_inj q))]; exact h2⟩
      · exact .inr ⟨h1, c, h2, isCell_keep h3 hs (nc y c h1 h2)⟩
    · obtain ⟨⟨v₀, hv₀⟩, _⟩ := I.cells y c e1 e2
      exact ⟨v₀, isCell_keep hv₀ hs (nc y c e1 e2)⟩
  · obtain ⟨⟨v₀, hv₀⟩, hMc⟩ := I.cells x c hk hc
    obtain ⟨oc, hoc, hdc⟩ := id hv₀
    refine wpAny_storeName_cell I.kind hk hc hv₀ fun h' hcell hs => ?_
    obtain ⟨oc', hoc', hdc'⟩ := id hcell
    have hcL : c ≠ env.locals := by rintro rfl; rw [hoL] at hoc; cases hoc; rw [hdL] at hdc; cases hdc
    have st : Step s W M { s with heap := h' } W M := stepT hs hMc (by rw [hoc']; rfl)
    refine h _ (rest c oc h' hoc (by rw [hoc']; rfl) hMc (by unfold notSeq; rw [hdc]; trivial) (.inr (by unfold notDict; rw [hdc]; trivial)) hs ⟨m, hn.at' fun o e => (hs.2 _ (Ne.symm hcL)).trans e, fun y w hy ha => ?_, .inr ⟨hk, c, hc, hcell⟩⟩ fun y c' e1 e2 => ?_) st ⟨c, hs, hMc, .inr hc⟩
    · rcases ha with ⟨h1, h2⟩ | ⟨h1, c', h2, h3⟩
      · exact .inl ⟨h1, h2⟩
      · exact .inr ⟨h1, c', h2, isCell_keep h3 hs fun q => hy (I.inj y x c (q ▸ h2) hc)⟩
    · by_cases q : c' = c
      · subst q; exact ⟨_, hcell⟩
      · obtain ⟨⟨v₁, hv₁⟩, _⟩ := I.cells y c' e1 e2
        exact ⟨v₁, isCell_keep hv₁ hs q⟩

theorem storeV {A : Around} {s : Shared} {x : String} {t : T} {v : Value} {Q : Unit → Shared → Prop} {E : Value → Shared → Prop} (I : Inv g env loc W M s.heap) (hst : Stores env x) (hv : Rep g.C s.heap W t v)
    (h : ∀ s', Inv g env (Loc.set loc x (.val t)) W M s'.heap → Step s W M s' W M → Q () s') : wpAny g.M A (storeName env (Str.ofString x) v) Q E s := by
  obtain ⟨m, val, hn, hl, huq, hobq⟩ := I.ex
  exact storeG (lv := .val t) I hst hv hn hl huq hobq (fun ts e => by cases e) (fun a e => by cases e) fun s' I' st _ => h s' I' st

theorem storeVT {A : Around} {s : Shared} {x : String} {t : T} {v : Value} {Q : Unit → Shared → Prop} {E : Value → Shared → Prop} (I : Inv g env loc W M s.heap) (hst : Stores env x) (hv : Rep g.C s.heap W t v)
    (h : ∀ s', Inv g env (Loc.set loc x (.val t)) W M s'.heap → Step s W M s' W M → (∃ b, Heap.SameBut b s.heap s'.heap ∧ M b ∧ (b = env.locals ∨ env.cells.lookup (Str.ofString x) = some b)) → Q () s') : wpAny g.M A (storeName env (Str.ofString x) v) Q E s := by
  obtain ⟨m, val, hn, hl, huq, hobq⟩ := I.ex
  exact storeG (lv := .val t) I hst hv hn hl huq hobq (fun ts e => by cases e) (fun a e => by cases e) h

/-- what is fresh becomes the frame's own -/
theorem Inv.grow {s s' : Shared} {a : Addr} (I : Inv g env loc W M s.heap) (k : Keeps s s') (hn : s.heap.get? a = none) (hs : (s'.heap.get? a).isSome) : Inv g env loc (fun b => W b ∨ b = a) (fun b => M b ∨ b = a) s'.heap := by
  refine I.move (fun b o e hw => ⟨kk k b o e, fun q => q.elim hw fun q => ?_⟩) (fun b o e hm => ⟨kk k b o e, .inl hm⟩) (fun b q => q.elim (fun q => .inl (I.MW b q)) .inr) (fun b e q => ?_)
  · subst q; rw [hn] at e; cases e
  · rcases q with q | q
    · exact (I.base.keeps k).live b e q
    · subst q; rw [e] at hs; cases hs
theorem stepGrow {s s' : Shared} {a : Addr} (k : Keeps s s') (hn : s.heap.get? a = none) : Step s W M s' (fun b => W b ∨ b = a) (fun b => M b ∨ b = a) where
  rest := by obtain ⟨h, t, e, _⟩ := k; exact ⟨h, t, e⟩
  keep a o e _ := kk k a o e
  live a e := by
    cases q : s.heap.get? a with
    | none => rfl
    | some o => rw [kk k a o q] at e; cases e
  Mnew b h := h.imp id fun (q : b = a) => q ▸ hn
  Wkeep b h _ := .inl h
  Wnew b h := h.imp id fun (q : b = a) => q ▸ hn

theorem storeO {A : Around} {s s₁ : Shared} {x : String} {ts : List T} {a : Addr} {xs : Array Value} {n : Nat} {Q : Unit → Shared → Prop} {E : Value → Shared → Prop} (I : Inv g env loc W M s.heap) (hst : Stores env x) (k : Keeps s s₁) (hn : s.heap.get? a = none) (hl : IsL s₁.heap a xs n)
    (hr : RepL g.C s₁.heap (fun b => W b ∨ b = a) ts xs.toList)
    (h : ∀ s', Inv g env (Loc.set loc x (.own ts)) (fun b => W b ∨ b = a) (fun b => M b ∨ b = a) s'.heap → Step s W M s' (fun b => W b ∨ b = a) (fun b => M b ∨ b = a) → Q () s') : wpAny g.M A (storeName env (Str.ofString x) (.ref a)) Q E s₁ := by
  have I₁ := I.grow k hn (by rw [hl]; rfl)
  obtain ⟨m, val, hnm, hlv, huq, hobq⟩ := I.ex
  have hne : ∀ b o, s.heap.get? b = some o → b ≠ a := fun b o e q => by subst q; rw [hn] at e; cases e
  refine storeG (lv := .own ts) I₁ hst ⟨a, xs, n, rfl, .inr rfl, hl, hr⟩ (m := m) (val := val) (hnm.at' fun o e => kk k _ o e) (fun y lv e => ⟨atMove (fun c o _ _ e => kk k c o e) (hlv y lv e).1, lvMove (fun b o e hw => ⟨kk k b o e, fun q => q.elim hw (hne b o e)⟩) (fun b o e hm => ⟨kk k b o e, .inl hm⟩) (hlv y lv e).2⟩)
    huq hobq (fun ts' _ y ty ey hy e => ?_) (fun a e => by cases e) fun s' I' st _ => h s' I' ((stepGrow k hn).trans st I.MW I.base.live)
  obtain ⟨b, ys, n', e', hM, hl', hr'⟩ := (hlv y _ ey).2
  rw [e] at e'
  cases e'
  exact hne a _ hl' rfl
end
end Mine

open PySem PySem.W PySem.Calls PyProof.Rows
set_option linter.unusedVariables false
set_option maxRecDepth 100000
namespace Mine

section
variable {prog : Program} {w : World} {A : Around} {E : Value → Shared → Prop} {s : Shared}
theorem call_setItem {l : Addr} {items : Array Value} {n : Nat} {k : Int} {t : Tok} {v : Value} {Q : Unit → Shared → Prop} (hl : IsL s.heap l items n) (h0 : 0 ≤ k) (hfit : k < 2 ^ 63) (hn : k < items.size)
    (hQ : Q () { s with heap := s.heap.update l (Obj.mapSeq (·.setIfInBounds k.toNat v)) }) : wpAny (model prog w) A (setItem (.ref l) (.int k t) v) Q E s := by
  have hT : s.TypeIs (.ref l) "list" := ⟨_, hl, rfl⟩
  unfold setItem
  refine wpAny_holding ?_
  refine wpAny_bind (wpAny_sequenceKey hT (by decide) ?_)
  refine wpAny_bind (wpAny_callSpecial?_slot (name := Str.ofString "__setitem__") hT PySem.slot_list_setitem (wpAny_call_entry PySem.slot_list_setitem hT PySem.entry_list_setitem ?_ (PySem.args_list_setitem _ _ _)))
  show wpAny _ _ (Builtin.List.listSubscript? (.int k t) >>= _) _ _ s
  refine wpAny_bind (wpAny_listSubscript_int (fitsIndex_of h0 hfit) ?_)
  clear hfit
  obtain ⟨j, rfl⟩ := Int.eq_ofNat_of_zero_le h0
  have hj : j < items.size := by (first | lia | omega)
  have hx' : items[j]? = some items[j] := Array.getElem?_eq_getElem hj
  show wpAny _ _ ((seqItemAt l j >>= fun r => pure (r.map (j, ·))) >>= _) _ _ s
  refine wpAny_bind (wpAny_bind (wpAny_seqItemAt hl rfl (wpAny_pure ?_)))
  rw [hx']
  show wpAny _ _ (setSeqItemAt l j v >>= _) _ _ s
  refine wpAny_bind (wpAny_setSeqItemAt hl rfl ?_)
  exact wpAny_pure ⟨.none, rfl, wpAny_pure hQ⟩
end

section
variable {g : GC} {d : Nat} {env : Env} {loc : Loc} {Q : Fl → Loc → Prop}

theorem ex_nil (h : Q .next loc) : Ex g d env loc [] Q := .mk fun A s W M R I => wpAny_execs_nil ⟨W, M, loc, .next, I, Step.refl, rfl, h⟩
noncomputable def after (g : GC) (d : Nat) (env : Env) (rest : List Stmt) (Q : Fl → Loc → Prop) : Fl → Loc → Prop
  | .next, loc => Ex g d env loc rest Q
  | f, loc => Q f loc
theorem ex_cons {st : Stmt} {rest : List Stmt} (h : Ex1 g d env loc st (after g d env rest Q)) : Ex g d env loc (st :: rest) Q := .mk fun A s W M R I =>
  wpAny_execs_cons (h.to A s W M R I (fun f s₁ W₁ M₁ loc₁ fl I₁ st₁ hf hq => by
    cases fl with
    | next =>
      simp only [FlRep] at hf
      subst hf
      exact Ex.to hq A s₁ W₁ M₁ R I₁ (fun f s₂ W₂ M₂ loc₂ fl I₂ st₂ hf hq => ⟨W₂, M₂, loc₂, fl, I₂, st₁.trans st₂ I.MW I.base.live, hf, hq⟩)
    | brk =>
      simp only [FlRep] at hf
      subst hf
      exact ⟨W₁, M₁, loc₁, .brk, I₁, st₁, rfl, hq⟩
    | ret t =>
      simp only [FlRep] at hf
      obtain ⟨v, rfl, hr⟩ := hf
      exact ⟨W₁, M₁, loc₁, .ret t, I₁, st₁, ⟨v, rfl, hr⟩, hq⟩))
theorem Ex.mono {ss : List Stmt} {Q' : Fl → Loc → Prop} (h : Ex g d env loc ss Q) (hq : ∀ f l, Q f l → Q' f l) : Ex g d env loc ss Q' := .mk fun A s W M R I =>
  h.to A s W M R I (fun f s₁ W₁ M₁ loc₁ fl I₁ st₁ hf q => ⟨W₁, M₁, loc₁, fl, I₁, st₁, hf, hq _ _ q⟩)

theorem x_assign {x : String} {px pos : Pos} {value : Expr} {t : T} (h : Ev g d env loc value t) (hst : Stores env x) (hq : Q .next (loc.set x (.val t))) (hs : swapsWith value (some (.Name (Str.ofString x) px)) pos.line env = pure false := by rfl) :
    Ex1 g d env loc (.Assign [.Name (Str.ofString x) px] value pos) Q := .mk fun A s W M R I =>
  wpAny_Assign_Name (h.to A s W M R I (fun v s₁ r₁ k₁ => storeV (I.keeps k₁) hst r₁ fun s₂ I₂ st₂ => ⟨W, M, _, .next, I₂, (stepK k₁).trans st₂ I.MW I.base.live, rfl, hq⟩)) hs
theorem x_assignF {x : String} {px pos : Pos} {value : Expr} {ts : List T} (h : EvF g d env loc value ts) (hst : Stores env x) (hq : Q .next (loc.set x (.own ts))) (hs : swapsWith value (some (.Name (Str.ofString x) px)) pos.line env = pure false := by rfl) :
    Ex1 g d env loc (.Assign [.Name (Str.ofString x) px] value pos) Q := .mk fun A s W M R I =>
  wpAny_Assign_Name (h.to A s W M R I (fun v s₁ a xs n e hn hl hr k₁ => by
    subst e
    exact storeO I hst k₁ hn hl hr fun s₂ I₂ st₂ => ⟨_, _, _, .next, I₂, st₂, rfl, hq⟩)) hs

theorem assignV {A : Around} {s : Shared} {W M : Addr → Prop} {x : String} {px : Pos} {t : T} {v : Value} {Q : Unit → Shared → Prop} {E : Value → Shared → Prop} (I : Inv g env loc W M s.heap) (hst : Stores env x) (hv : Rep g.C s.heap W t v)
    (h : ∀ s', Inv g env (Loc.set loc x (.val t)) W M s'.heap → Step s W M s' W M → Q () s') : wpAny g.M A (assign (.Name (Str.ofString x) px) env v) Q E s := PyProof.Rows.assign_Name (storeV I hst hv h)
theorem Rep.step {C : Addr} {s s' : Shared} {W M W' M' : Addr → Prop} {t : T} {v : Value} (st : Step s W M s' W' M') (hMW : ∀ a, M a → W a) (x : Rep C s.heap W t v) : Rep C s'.heap W' t v :=
  Rep.mono (fun a o e hw => ⟨st.keep a o e fun q => hw (hMW a q), fun q => by rcases st.Wnew a q with q | q; exact hw q; rw [e] at q; cases q⟩) _ _ x
theorem x_assign2 {x y : String} {px py pos : Pos} {value : Expr} {t : T} (h : Ev g d env loc value t) (hx : Stores env x) (hy : Stores env y) (hq : Q .next ((loc.set x (.val t)).set y (.val t)))
    (hw : swappedStores [.Name (Str.ofString x) px, .Name (Str.ofString y) py] value env = pure none := by rfl) :
    Ex1 g d env loc (.Assign [.Name (Str.ofString x) px, .Name (Str.ofString y) py] value pos) Q := .mk fun A s W M R I =>
  wpAny_Assign_two (h.to A s W M R I (fun v s₁ r₁ k₁ => assignV (I.keeps k₁) hx r₁ fun s₂ I₂ st₂ => assignV I₂ hy (r₁.step st₂ I.MW) fun s₃ I₃ st₃ =>
    ⟨W, M, _, .next, I₃, ((stepK k₁).trans st₂ I.MW I.base.live).trans st₃ I.MW I.base.live, rfl, hq⟩)) rfl hw
theorem x_assign3 {x y z : String} {px py pz pos : Pos} {value : Expr} {t : T} (h : Ev g d env loc value t) (hx : Stores env x) (hy : Stores env y) (hz : Stores env z) (hq : Q .next (((loc.set x (.val t)).set y (.val t)).set z (.val t)))
    (hw : swappedStores [.Name (Str.ofString x) px, .Name (Str.ofString y) py, .Name (Str.ofString z) pz] value env = pure none := by rfl) :
    Ex1 g d env loc (.Assign [.Name (Str.ofString x) px, .Name (Str.ofString y) py, .Name (Str.ofString z) pz] value pos) Q := .mk fun A s W M R I =>
  wpAny_Assign_three (h.to A s W M R I (fun v s₁ r₁ k₁ => assignV (I.keeps k₁) hx r₁ fun s₂ I₂ st₂ => assignV I₂ hy (r₁.step st₂ I.MW) fun s₃ I₃ st₃ => assignV I₃ hz ((r₁.step st₂ I.MW).step st₃ I.MW) fun s₄ I₄ st₄ =>
    ⟨W, M, _, .next, I₄, (((stepK k₁).trans st₂ I.MW I.base.live).trans st₃ I.MW I.base.live).trans st₄ I.MW I.base.live, rfl, hq⟩)) rfl hw

theorem unpackTup {A : Around} {s : Shared} {W : Addr → Prop} {ts : List T} {v : Value} {n : Nat} {Q : List Value → Shared → Prop} (hh : A.handled = none) (r : Rep g.C s.heap W (.tup ts) v) (hn : n = ts.length)
    (h : ∀ vs s', RepL g.C s'.heap W ts vs → Keeps s s' → Q vs s') : wpAny g.M A (unpackItems v n none) Q bot s := by
  simp only [Rep] at r
  obtain ⟨a, xs, c, rfl, hw, hl, hr⟩ := r
  have hsz := size_of hr
  rw [hn, ← hsz]
  refine unpackItems_tuple hh ⟨_, hl, rfl, c, rfl⟩ fun h' he => ?_
  have K : Keeps s { s with heap := h' } := kh fun b o e => he b o (Nat.ne_of_lt (Heap.lt_size e)) e
  exact h _ _ (hr.keeps K) K

/-- x, y = (.., ..): the stores exchanged -/
theorem x_swap {x y : String} {elts : List Expr} {k : Nat} {tpos pos : Pos} {value : Expr} {t u : T} (h : Ev g d env loc value (.tup [t, u])) (hx : Stores env x) (hy : Stores env y) (hq : Q .next ((loc.set y (.val u)).set x (.val t)))
    (hs : swapsWithSole [.Tuple elts k tpos] value pos.line env = pure false := by rfl) (hw : swappedStores [.Tuple elts k tpos] value env = pure (some [Str.ofString x, Str.ofString y]) := by rfl) :
    Ex1 g d env loc (.Assign [.Tuple elts k tpos] value pos) Q := .mk fun A s W M R I =>
  Assign_Tuple_swapped (h.to A s W M R I (fun v s₁ r₁ k₁ => unpackTup R.1 r₁ rfl fun vs s₂ r₂ k₂ => by
    simp only [RepL] at r₂
    obtain ⟨v1, _, rfl, h1, v2, _, rfl, h2, rfl⟩ := r₂
    show wpAny g.M A (do holding [v1] (bindName env (Str.ofString y) v2); assignInOrder [fun v => bindName env (Str.ofString x) v] [v1]) _ _ _
    refine wpAny_bind (wpAny_holding (wpAny_bindName (storeV ((I.keeps k₁).keeps k₂) hy h2 fun s₃ I₃ st₃ => ?_)))
    show wpAny g.M A (do holding [] (bindName env (Str.ofString x) v1); assignInOrder [] []) _ _ _
    refine wpAny_bind (wpAny_holding (wpAny_bindName (storeV I₃ hx (h1.step st₃ I.MW) fun s₄ I₄ st₄ => ?_)))
    exact wpAny_pure ⟨W, M, _, .next, I₄, ((stepK (kt k₁ k₂)).trans st₃ I.MW I.base.live).trans st₄ I.MW I.base.live, rfl, hq⟩)) hs hw

/-- x, y = a pair -/
theorem x_pair {x y : String} {px py : Pos} {k : Nat} {tpos pos : Pos} {value : Expr} {t u : T} (h : Ev g d env loc value (.tup [t, u])) (hx : Stores env x) (hy : Stores env y) (hq : Q .next ((loc.set x (.val t)).set y (.val u)))
    (hs : swapsWithSole [.Tuple [.Name (Str.ofString x) px, .Name (Str.ofString y) py] k tpos] value pos.line env = pure false := by rfl) (hw : swappedStores [.Tuple [.Name (Str.ofString x) px, .Name (Str.ofString y) py] k tpos] value env = pure none := by rfl) :
    Ex1 g d env loc (.Assign [.Tuple [.Name (Str.ofString x) px, .Name (Str.ofString y) py] k tpos] value pos) Q := .mk fun A s W M R I =>
  Assign_Tuple (h.to A s W M R I (fun v s₁ r₁ k₁ => by
    show wpAny g.M A (do standAt tpos; unpack v [(false, fun v => assign (.Name (Str.ofString x) px) env v), (false, fun v => assign (.Name (Str.ofString y) py) env v)]) _ _ _
    refine wpAny_bind (wpAny_standAt ?_)
    show wpAny g.M A (do assignInOrder [fun v => assign (.Name (Str.ofString x) px) env v, fun v => assign (.Name (Str.ofString y) py) env v] (← holding [v] (unpackItems v 2 none))) _ _ _
    refine wpAny_bind (wpAny_holding (unpackTup R.1 r₁ rfl fun vs s₂ r₂ k₂ => ?_))
    simp only [RepL] at r₂
    obtain ⟨v1, _, rfl, h1, v2, _, rfl, h2, rfl⟩ := r₂
    show wpAny g.M A (do holding [v2] (assign (.Name (Str.ofString x) px) env v1); assignInOrder [fun v => assign (.Name (Str.ofString y) py) env v] [v2]) _ _ _
    refine wpAny_bind (wpAny_holding (assignV ((I.keeps k₁).keeps k₂) hx h1 fun s₃ I₃ st₃ => ?_))
    show wpAny g.M A (do holding [] (assign (.Name (Str.ofString y) py) env v2); assignInOrder [] []) _ _ _
    refine wpAny_bind (wpAny_holding (assignV I₃ hy (h2.step st₃ I.MW) fun s₄ I₄ st₄ => ?_))
    exact wpAny_pure ⟨W, M, _, .next, I₄, ((stepK (kt k₁ k₂)).trans st₃ I.MW I.base.live).trans st₄ I.MW I.base.live, rfl, hq⟩)) hs hw

structure InS (g : GC) (op : Operator) (a b t : T) : Prop where
  run : ∀ A s W v u, Room A 0 → Base g W s.heap → Rep g.C s.heap W a v → Rep g.C s.heap W b u → wpAny g.M A (inplaceOp op v u) (fun r s' => Rep g.C s'.heap W t r ∧ Keeps s s') bot s
theorem InS.to {g : GC} {op : Operator} {a b t : T} {E : Value → Shared → Prop} (h : InS g op a b t) (A s W v u) (R : Room A 0) (B : Base g W s.heap) (x : Rep g.C s.heap W a v) (y : Rep g.C s.heap W b u) {Q : Value → Shared → Prop} (k : ∀ r s', Rep g.C s'.heap W t r → Keeps s s' → Q r s') : wpAny g.M A (inplaceOp op v u) Q E s :=
  wpAny_mono (h.run A s W v u R B x y) (fun v s' x => k v s' x.1 x.2) fun _ _ h => h.elim
theorem i_add (a b : Int) : InS g .Add (.int a) (.int b) (.int (a + b)) := .mk fun A s W v u hh B x y => by
  simp only [Rep] at x y; obtain ⟨t, rfl⟩ := x; obtain ⟨t', rfl⟩ := y
  exact iadd_int ⟨by simp only [Rep]; exact ⟨_, rfl⟩, ktok⟩
theorem i_sub (a b : Int) : InS g .Sub (.int a) (.int b) (.int (a - b)) := .mk fun A s W v u hh B x y => by
  simp only [Rep] at x y; obtain ⟨t, rfl⟩ := x; obtain ⟨t', rfl⟩ := y
  exact isub_int ⟨by simp only [Rep]; exact ⟨_, rfl⟩, ktok⟩
theorem i_div (a b : Int) (h0 : b ≠ 0) (hp : Builtin.divisionGoesByPylong a b = false) : InS g .FloorDiv (.int a) (.int b) (.int (a.fdiv b)) := .mk fun A s W v u hh B x y => by
  simp only [Rep] at x y; obtain ⟨t, rfl⟩ := x; obtain ⟨t', rfl⟩ := y
  exact ifloordiv_int h0 ⟨by simp only [Rep]; exact ⟨_, rfl⟩, ktok⟩ (.inl hp)
theorem i_cat (a b : Str) (h : a.length + b.length ≤ sizeLine) : InS g .Add (.str a) (.str b) (.str (a ++ b)) := .mk fun A s W v u hh B x y => by
  simp only [Rep] at x y; obtain ⟨t, rfl⟩ := x; obtain ⟨t', rfl⟩ := y
  exact iadd_str (fun t' tk => ⟨by simp only [Rep]; exact ⟨_, rfl⟩, ktok⟩) h
theorem x_aug {x : String} {px pos : Pos} {op : Operator} {value : Expr} {a b t : T} (hl : Loc.get loc x = some (.val a)) (h : Ev g d env loc value b) (ho : InS g op a b t) (hst : Stores env x) (hq : Q .next (loc.set x (.val t))) :
    Ex1 g d env loc (.AugAssign (.Name (Str.ofString x) px) op value pos) Q := .mk fun A s W M R I =>
  wpAny_AugAssign_Name (by
    obtain ⟨m, val, hn, hv, _⟩ := I.ex
    obtain ⟨ha, hr⟩ := hv x _ hl
    have body : wpAny g.M A (eval value env) (fun v s₂ => wpAny g.M A (inplaceOp op (val x) v) (fun r s₃ => wpAny g.M A (storeName env (Str.ofString x) r) (fun _ => XPost g env s W M Q Flow.next) bot s₃) bot s₂) bot s :=
      h.to A s W M R I (fun v s₁ r₁ k₁ => ho.to A s₁ W _ v (R.mono (Nat.zero_le _)) (I.keeps k₁).base (Rep.keeps hr k₁) r₁ (fun r s₂ r₂ k₂ => storeV ((I.keeps k₁).keeps k₂) hst r₂ fun s₃ I₃ st₃ =>
        ⟨W, M, _, .next, I₃, (stepK (kt k₁ k₂)).trans st₃ I.MW I.base.live, rfl, hq⟩))
    rcases ha with ⟨hk, hm⟩ | ⟨hk, c, hc, hi⟩
    · exact wpAny_loadName_local I.kind hk hn hm body
    · exact wpAny_loadName_cell I.kind hk hc hi body)

theorem x_if {test : Expr} {body orelse : List Stmt} {pos : Pos} {c : Bool} (h : EvB g d env loc test c) (h1 : c = true → Ex g d env loc body Q) (h2 : c = false → Ex g d env loc orelse Q) : Ex1 g d env loc (.If test body orelse pos) Q := .mk fun A s W M R I =>
  wpAny_If (h.to A s W M R I (fun b s₁ e k₁ => by
    subst e
    have K := stepK (W := W) (M := M) k₁
    cases b with
    | true => exact (h1 rfl).to A s₁ W M R (I.keeps k₁) (fun f s₂ W₂ M₂ loc₂ fl I₂ st₂ hf hq => ⟨W₂, M₂, loc₂, fl, I₂, K.trans st₂ I.MW I.base.live, hf, hq⟩)
    | false => exact (h2 rfl).to A s₁ W M R (I.keeps k₁) (fun f s₂ W₂ M₂ loc₂ fl I₂ st₂ hf hq => ⟨W₂, M₂, loc₂, fl, I₂, K.trans st₂ I.MW I.base.live, hf, hq⟩)))
theorem x_ret {e : Expr} {pos : Pos} {t : T} (h : Ev g d env loc e t) (hq : Q (.ret t) loc) : Ex1 g d env loc (.Return (some e) pos) Q := .mk fun A s W M R I =>
  wpAny_Return_some (h.to A s W M R I (fun v s₁ r₁ k₁ => ⟨W, M, loc, .ret t, I.keeps k₁, stepK k₁, ⟨v, rfl, r₁⟩, hq⟩))
theorem x_brk {pos : Pos} (hq : Q .brk loc) : Ex1 g d env loc (.Break pos) Q := .mk fun A s W M R I => wpAny_Break ⟨W, M, loc, .brk, I, Step.refl, rfl, hq⟩
theorem x_assert {test : Expr} {msg : Option Expr} {pos : Pos} (h : EvB g d env loc test true) (hq : Q .next loc) : Ex1 g d env loc (.Assert test msg pos) Q := .mk fun A s W M R I =>
  wpAny_Assert_holds (h.to A s W M R I (fun b s₁ e k₁ => ⟨e, W, M, loc, .next, I.keeps k₁, stepK k₁, rfl, hq⟩))

/-- a name's own list becomes plain data -/
theorem ex_freeze {x : String} {ts : List T} {ss : List Stmt} (hl : Loc.get loc x = some (.own ts)) (h : Ex g d env (loc.set x (.val (.list ts))) ss Q) : Ex g d env loc ss Q := .mk fun A s W M R I => by
  obtain ⟨m, val, hn, hv, huq, hob⟩ := I.ex
  obtain ⟨hat, a, xs, n, ea, hM, hL, hr⟩ := hv x _ hl
  obtain ⟨oL, esL, nL, hoL, hdL⟩ := nsObj hn
  have haL : a ≠ env.locals := by
    rintro rfl
    have hL' : s.heap.get? env.locals = some _ := hL
    rw [hoL] at hL'; cases hL'; cases hdL
  have hc : ∀ b o, s.heap.get? b = some o → ¬ W b → s.heap.get? b = some o ∧ ¬ (W b ∧ b ≠ a) := fun b o e hw => ⟨e, fun q => hw q.1⟩
  have I' : Inv g env (loc.set x (.val (.list ts))) (fun b => W b ∧ b ≠ a) (fun b => M b ∧ b ≠ a) s.heap := by
    refine ⟨⟨fun b o e => ⟨(I.base.keep0 b o e).1, fun q => (I.base.keep0 b o e).2 q.1⟩, fun b e q => I.base.live b e q.1⟩, I.kind, I.glob, I.blt, fun b q => ⟨I.MW b q.1, q.2⟩, ⟨I.ML, haL.symm⟩, fun y c e1 e2 => ?_, I.inj, m, val, hn, fun y lv e => ?_, fun y z ty tz ey ez e => ?_, fun y z a b ey ez => ?_⟩
    · obtain ⟨⟨v₀, o, ho, hd⟩, hMc⟩ := I.cells y c e1 e2
      exact ⟨⟨v₀, o, ho, hd⟩, hMc, by rintro rfl; rw [hL] at ho; cases ho; cases hd⟩
    · rw [Loc.get_set] at e
      by_cases hy : x = y
      · rw [if_pos hy] at e
        cases e
        subst hy
        refine ⟨hat, ?_⟩
        simp only [LVRep, Rep]
        exact ⟨a, xs, n, ea, fun q => q.2 rfl, hL, RepL.mono hc _ _ hr⟩
      · rw [if_neg hy] at e
        refine ⟨(hv y lv e).1, ?_⟩
        have hv2 := (hv y lv e).2
        cases lv with
        | val t => exact Rep.mono hc _ _ hv2
        | own us =>
          obtain ⟨b, ys, n', eb, hMb, hLb, hrb⟩ := hv2
          refine ⟨b, ys, n', eb, ⟨hMb, ?_⟩, hLb, RepL.mono hc _ _ hrb⟩
          rintro rfl
          exact hy (huq x y ts us hl e (ea.trans eb.symm))
        | obj at' =>
          obtain ⟨z, dx, es, n', ez, hw, hx, hMd, hne, hd, hk, hlen, ha⟩ := hv2
          refine ⟨z, dx, es, n', ez, fun q => hw q.1, hx, ⟨hMd, ?_⟩, hne, hd, hk, hlen, fun nm => ?_⟩
          · rintro rfl
            have hL' : s.heap.get? dx = some _ := hL
            exact absurd (congrArg (fun o : Option Obj => o.map fun p => p.cls) (hL'.symm.trans hd)) (by simp)
          · have := ha nm
            cases q : getA at'.2 nm with
            | none => rw [q] at this; exact this
            | some t => rw [q] at this; obtain ⟨v, e1, e2⟩ := this; exact ⟨v, e1, Rep.mono hc _ _ e2⟩
    · rw [Loc.get_set] at ey ez
      split at ey
      · cases ey
      · split at ez
        · cases ez
        · exact huq y z ty tz ey ez e
    · rw [Loc.get_set] at ey ez
      split at ey
      · cases ey
      · split at ez
        · cases ez
        · exact hob y z a b ey ez
  have st : Step s W M s (fun b => W b ∧ b ≠ a) (fun b => M b ∧ b ≠ a) := ⟨⟨s.heap, s.toks, rfl⟩, fun _ _ e _ => e, fun _ e => e, fun b q => .inl q.1, fun b q hm => ⟨q, fun e => hm (e ▸ hM)⟩, fun b q => .inl q.1⟩
  exact h.to A s _ _ R I' (fun f s₂ W₂ M₂ loc₂ fl I₂ st₂ hf hq => ⟨W₂, M₂, loc₂, fl, I₂, st.trans st₂ I.MW I.base.live, hf, hq⟩)
end
end Mine

open PySem PySem.W PySem.Calls PyProof.Rows
set_option linter.unusedVariables false
set_option maxRecDepth 100000
namespace Mine

section
variable {g : GC} {d : Nat} {env : Env} {loc : Loc} {Q : Fl → Loc → Prop} {W M : Addr → Prop}

theorem clsNe {h : Heap} {a b : Addr} {o o' : Obj} (h1 : h.get? a = some o) (h2 : h.get? b = some o') (hc : o.cls ≠ o'.cls) : a ≠ b := by
  rintro rfl
  rw [h1] at h2
  exact hc (congrArg Obj.cls (Option.some.inj h2))

/-- a name's own list is changed in place -/
theorem mutOwn {s s₁ : Shared} {x : String} {ts ts' : List T} {a : Addr} {xs' : Array Value} {n' : Nat} {h' : Heap} {m : Str → Option Value} {val : String → Value} (I : Inv g env loc W M s.heap) (K : Keeps s s₁)
    (hn : s.heap.Ns env.locals m) (hv : ∀ x lv, Loc.get loc x = some lv → At env s.heap m x (val x) ∧ LVRep g.C s.heap W M env.locals lv (val x))
    (huq : ∀ x y tx ty, Loc.get loc x = some (.own tx) → Loc.get loc y = some (.own ty) → val x = val y → x = y) (hob : ∀ x y a b, Loc.get loc x = some (.obj a) → Loc.get loc y = some (.obj b) → x = y)
    (hl : Loc.get loc x = some (.own ts)) (ea : val x = .ref a) (hs : Heap.SameBut a s₁.heap h') (hL' : IsL h' a xs' n') (hr' : RepL g.C s₁.heap W ts' xs'.toList) :
    Inv g env (loc.set x (.own ts')) W M h' ∧ ∀ tk, Step s W M { s₁ with heap := h', toks := tk } W M := by
  obtain ⟨hat, a', xs, n, ea', hM, hL, hr⟩ := hv x _ hl
  rw [ea] at ea'
  cases ea'
  obtain ⟨oL, esL, nL, hoL, hdL⟩ := nsObj hn
  have hLs : s.heap.get? a = some _ := hL
  have haL : env.locals ≠ a := by
    rintro q
    rw [← q, hoL] at hLs; cases hLs; cases hdL
  have hMa : M a := hM
  have hWa : W a := I.MW a hM
  have k := kk K
  have hc : ∀ b o, s.heap.get? b = some o → ¬ W b → h'.get? b = some o ∧ ¬ W b := fun b o e hw => ⟨(hs.2 b fun q => hw (q ▸ hWa)).trans (k b o e), hw⟩
  have hc₁ : ∀ b o, s₁.heap.get? b = some o → ¬ W b → h'.get? b = some o ∧ ¬ W b := fun b o e hw => ⟨(hs.2 b fun q => hw (q ▸ hWa)).trans e, hw⟩
  have hsome : (h'.get? a).isSome := by rw [show h'.get? a = some _ from hL']; rfl
  have live : ∀ b, h'.get? b = none → s.heap.get? b = none := fun b e => by
    by_cases q : b = a
    · subst q; rw [e] at hsome; cases hsome
    · rw [hs.2 b q] at e
      cases q2 : s.heap.get? b with
      | none => rfl
      | some o => rw [k b o q2] at e; cases e
  refine ⟨⟨⟨fun b o e => hc b o (I.base.keep0 b o e).1 (I.base.keep0 b o e).2, fun b e => I.base.live b (live b e)⟩, I.kind, I.glob, I.blt, I.MW, I.ML, fun y c e1 e2 => ?_, I.inj, m, val, hn.at' fun o e => (hs.2 _ haL).trans (k _ o e), fun y lv e => ?_, fun y z ty tz ey ez e => ?_, fun y z a b ey ez => ?_⟩, fun tk => ⟨?_, fun b o e hm => (hs.2 b fun q => hm (q ▸ hMa)).trans (k b o e), fun b e => live b e, fun _ h => .inl h, fun _ h _ => h, fun _ h => .inl h⟩⟩
  · obtain ⟨⟨v₀, o, ho, hd⟩, hMc⟩ := I.cells y c e1 e2
    refine ⟨⟨v₀, o, (hs.2 c ?_).trans (k _ _ ho), hd⟩, hMc⟩
    rintro rfl; rw [hLs] at ho; cases ho; cases hd
  · have hatk : ∀ y, At env s.heap m y (val y) → At env h' m y (val y) := fun y ha => by
      rcases ha with h | ⟨h1, c, h2, o, ho, hd⟩
      · exact .inl h
      · refine .inr ⟨h1, c, h2, o, (hs.2 c ?_).trans (k _ _ ho), hd⟩
        rintro rfl; rw [hLs] at ho; cases ho; cases hd
    rw [Loc.get_set] at e
    by_cases hy : x = y
    · rw [if_pos hy] at e
      cases e
      subst hy
      exact ⟨hatk x hat, a, xs', n', ea, hMa, hL', RepL.mono hc₁ _ _ hr'⟩
    · rw [if_neg hy] at e
      refine ⟨hatk y (hv y lv e).1, ?_⟩
      have hv2 := (hv y lv e).2
      cases lv with
      | val t => exact Rep.mono hc _ _ hv2
      | own us =>
        obtain ⟨b, ys, c, eb, hMb, hLb, hrb⟩ := hv2
        refine ⟨b, ys, c, eb, hMb, (hs.2 b ?_).trans (k _ _ hLb), RepL.mono hc _ _ hrb⟩
        rintro rfl
        exact hy (huq x y ts us hl e (ea.trans eb.symm))
      | obj at' =>
        obtain ⟨z, dx, es, c, ez, hw, hx, hMd, hne, hd, hk, hlen, ha⟩ := hv2
        refine ⟨z, dx, es, c, ez, hw, (hc _ _ hx hw).1, hMd, hne, (hs.2 dx (clsNe hd hLs (by simp))).trans (k _ _ hd), hk, hlen, fun nm => ?_⟩
        have := ha nm
        cases q : getA at'.2 nm with
        | none => rw [q] at this; exact this
        | some t => rw [q] at this; obtain ⟨v, e1, e2⟩ := this; exact ⟨v, e1, Rep.mono hc _ _ e2⟩
  · have fix : ∀ y ty, Loc.get (loc.set x (.own ts')) y = some (.own ty) → ∃ ty', Loc.get loc y = some (.own ty') := fun y ty ey => by
      rw [Loc.get_set] at ey
      split at ey
      · rename_i q; subst q; exact ⟨_, hl⟩
      · exact ⟨_, ey⟩
    obtain ⟨_, ey'⟩ := fix y ty ey
    obtain ⟨_, ez'⟩ := fix z tz ez
    exact huq y z _ _ ey' ez' e
  · rw [Loc.get_set] at ey ez
    split at ey
    · cases ey
    · split at ez
      · cases ez
      · exact hob y z a b ey ez
  · obtain ⟨h₁, t₁, rfl, _⟩ := K; exact ⟨_, _, rfl⟩

theorem ofFun {env : Env} (hk : env.scope.kind = .function) : interactive env = false := by unfold interactive; rw [hk]; rfl
theorem nameAt {A : Around} {s : Shared} {x : String} {px : Pos} {v : Value} {m : Str → Option Value} {Q : Value → Shared → Prop} {E : Value → Shared → Prop} (hk : env.scope.kind = .function) (hn : s.heap.Ns env.locals m) (ha : At env s.heap m x v) (h : Q v s)
    (hd : (Str.ofString x == ("__debug__" : Str)) = false) : wpAny g.M A (eval (.Name (Str.ofString x) px) env) Q E s := by
  rcases ha with ⟨h1, h2⟩ | ⟨h1, c, hc, hi⟩
  · exact wpAny_Name (wpAny_loadName_local hk h1 hn h2 h) hd
  · exact wpAny_Name (wpAny_loadName_cell hk h1 hc hi h) hd
theorem atK {s s' : Shared} {m : Str → Option Value} {x : String} {v : Value} (k : Keeps s s') (a : At env s.heap m x v) : At env s'.heap m x v := atMove (fun c o _ _ e => kk k c o e) a
theorem nsK {s s' : Shared} {m : Str → Option Value} {L : Addr} (k : Keeps s s') (a : s.heap.Ns L m) : s'.heap.Ns L m := a.at' fun o e => kk k _ o e

theorem x_append {x : String} {px apos cpos epos : Pos} {e : Expr} {ts : List T} {t : T} (hl : Loc.get loc x = some (.own ts)) (h : Ev g d env loc e t) (hsz : ts.length ≤ sizeLine) (hq : Q .next (loc.set x (.own (ts ++ [t]))))
    (hm : MethForm (.Name (Str.ofString x) px) "append" apos [e] cpos := by exact ⟨fun _ => rfl⟩) (he : ∀ env, starEach [e] env = [(false, eval e env)] := by intro _; rfl)
    (hs : swapsWith (.Call (.Attribute (.Name (Str.ofString x) px) "append" apos) [e] [] cpos) none epos.line env = pure false := by rfl) (hd : (Str.ofString x == ("__debug__" : Str)) = false := by decide +kernel) :
    Ex1 g d env loc (.Expr (.Call (.Attribute (.Name (Str.ofString x) px) "append" apos) [e] [] cpos) epos) Q := .mk fun A s W M R I => by
  obtain ⟨m, val, hn, hv, huq, hob⟩ := I.ex
  obtain ⟨hat, a, xs, n, ea, hM, hL, hr⟩ := hv x _ hl
  refine wpAny_Expr (MethodCall_ (nameAt I.kind hn hat ?_ hd) (hm.run env)) (ofFun I.kind) hs
  rw [ea]
  have hL0 : s.heap.get? a = some _ := hL
  refine Calls.getMethod_list_append hL0 rfl rfl ?_
  dsimp only
  rw [he]
  refine PySem.P.append_list (h.to A s W M R I (fun v s₁ r₁ k₁ => ?_))
  have hL₁ : IsL s₁.heap a xs n := kk k₁ _ _ hL0
  have hsz' := size_of hr
  obtain ⟨I₂, st⟩ := mutOwn (ts' := ts ++ [t]) (h' := s₁.heap.update a (Obj.mapSeq fun xs => xs.push v)) I k₁ hn hv huq hob hl ea (Heap.SameBut.update ..) (IsL.update hL₁ _) (by rw [Array.toList_push]; exact (hr.keeps k₁).snoc r₁)
  exact ⟨xs, n, by (first | lia | omega), hL₁, W, M, _, .next, I₂, st s₁.toks, rfl, hq⟩

theorem RepL.erase {C : Addr} {h : Heap} {W : Addr → Prop} {ts : List T} {vs : List Value} (x : RepL C h W ts vs) (k : Nat) : RepL C h W (ts.eraseIdx k) (vs.eraseIdx k) := by
  rw [List.eraseIdx_eq_take_drop_succ, List.eraseIdx_eq_take_drop_succ]
  exact (x.take k).append (x.drop (k + 1))
theorem RepL.set {C : Addr} {h : Heap} {W : Addr → Prop} {ts : List T} {vs : List Value} {t : T} {v : Value} (x : RepL C h W ts vs) (y : Rep C h W t v) (k : Nat) : RepL C h W (ts.set k t) (vs.set k v) := by
  have hlen := x.length
  refine .of_get (by simp [hlen]) fun i t' v' e1 e2 => ?_
  rw [List.getElem?_set] at e1 e2
  by_cases hk : k = i
  · rw [if_pos hk] at e1 e2
    split at e1
    · rename_i hlt
      rw [if_pos (by (first | lia | omega))] at e2
      cases e1; cases e2; exact y
    · cases e1
  · rw [if_neg hk] at e1 e2
    obtain ⟨v'', hv, hr⟩ := x.get e1
    rw [hv] at e2; cases e2; exact hr

theorem x_del {x : String} {px spos pos : Pos} {i : Expr} {ts : List T} {k : Int} {j : Nat} (hl : Loc.get loc x = some (.own ts)) (hi : Ev g d env loc i (.int k)) (hj : seqIndex? k ts.length = some j) (hk : -1000 ≤ k ∧ k ≤ 1000) (hsz : ts.length ≤ sizeLine) (hq : Q .next (loc.set x (.own (ts.eraseIdx j))))
    (hd : (Str.ofString x == ("__debug__" : Str)) = false := by decide +kernel) : Ex1 g d env loc (.Delete [.Subscript (.Name (Str.ofString x) px) i spos] pos) Q := .mk fun A s W M R I => by
  obtain ⟨m, val, hn, hv, huq, hob⟩ := I.ex
  obtain ⟨hat, a, xs, n, ea, hM, hL, hr⟩ := hv x _ hl
  refine wpAny_Delete (wpAny_deleteEach_cons (wpAny_delete_Subscript (nameAt I.kind hn hat ?_ hd)))
  refine hi.to A s W M R I (fun v s₁ r₁ k₁ => ?_)
  simp only [Rep] at r₁
  obtain ⟨u, rfl⟩ := r₁
  rw [ea]
  have hL0 : s.heap.get? a = some _ := hL
  have hL₁ : s₁.heap.get? a = some _ := kk k₁ _ _ hL0
  have hsz' := size_of hr
  refine delItem_at (k := j) hL₁ (by simp [Builtin.List.listFitsIndex]; (first | lia | omega)) (by rw [hsz']; exact hj) (fun h' hs hg => ?_) (by (first | lia | omega))
  obtain ⟨I₂, st⟩ := mutOwn (ts' := ts.eraseIdx j) (xs' := (xs.toList.eraseIdx j).toArray) (n' := n + 1) (h' := h') I k₁ hn hv huq hob hl ea hs hg (by simpa using (hr.keeps k₁).erase j)
  exact wpAny_deleteEach_nil ⟨W, M, _, .next, I₂, st s₁.toks, rfl, hq⟩

theorem x_setitem {x : String} {px spos pos : Pos} {i value : Expr} {ts : List T} {t : T} {k : Int} (hl : Loc.get loc x = some (.own ts)) (h : Ev g d env loc value t) (hi : Ev g d env loc i (.int k)) (h0 : 0 ≤ k) (h1 : k < ts.length) (hsz : ts.length ≤ sizeLine) (hq : Q .next (loc.set x (.own (ts.set k.toNat t))))
    (hs : swapsWith value (some (.Subscript (.Name (Str.ofString x) px) i spos)) pos.line env = pure false := by rfl) (hd : (Str.ofString x == ("__debug__" : Str)) = false := by decide +kernel) :
    Ex1 g d env loc (.Assign [.Subscript (.Name (Str.ofString x) px) i spos] value pos) Q := .mk fun A s W M R I => by
  obtain ⟨m, val, hn, hv, huq, hob⟩ := I.ex
  obtain ⟨hat, a, xs, n, ea, hM, hL, hr⟩ := hv x _ hl
  refine wpAny_Assign_Subscript (h.to A s W M R I (fun v s₁ r₁ k₁ => nameAt I.kind (nsK k₁ hn) (atK k₁ hat) ?_ hd)) hs
  refine hi.to A s₁ W M R (I.keeps k₁) (fun iv s₂ r₂ k₂ => ?_)
  simp only [Rep] at r₂
  obtain ⟨u, rfl⟩ := r₂
  rw [ea]
  have hL0 : s.heap.get? a = some _ := hL
  have hL₂ : IsL s₂.heap a xs n := kk (kt k₁ k₂) _ _ hL0
  have hsz' := size_of hr
  rw [sizeLine_eq] at hsz
  refine call_setItem hL₂ h0 (by (first | lia | omega)) (by (first | lia | omega)) ?_
  obtain ⟨I₂, st⟩ := mutOwn (ts' := ts.set k.toNat t) (h' := s₂.heap.update a (Obj.mapSeq (·.setIfInBounds k.toNat v))) I (kt k₁ k₂) hn hv huq hob hl ea (Heap.SameBut.update ..) (IsL.update hL₂ _) (by
    rw [Array.toList_setIfInBounds]; exact (hr.keeps (kt k₁ k₂)).set (r₁.keeps k₂) k.toNat)
  exact ⟨W, M, _, .next, I₂, st s₂.toks, rfl, hq⟩
end
end Mine

open PySem PySem.W PySem.Calls PyProof.Rows
set_option linter.unusedVariables false
set_option maxRecDepth 100000
namespace Mine

inductive IPost (g : GC) (s : Shared) (W : Addr → Prop) (items : List T) (it : Value) (s₂ : Shared) : Prop
  | mk (I : Addr) (fp : List Addr) (n : Nat) (P : Nat → Value → Prop) (St : Nat → Heap → Prop) (e : it = .ref I) (hW : ∀ A' : Around, A'.handled = none → Walks g.prog g.w A' I fp [I] n P St) (hst : St 0 s₂.heap) (k : Keeps s s₂)
    (hn : s.heap.get? I = none) (hl : ∀ i h, St i h → (h.get? I).isSome) (hfp : ∀ b ∈ fp, b ≠ I → (s₂.heap.get? b).isSome ∧ ¬ W b) (e' : n = items.length) (hP : ∀ i v t, P i v → items[i]? = some t → Rep g.C s₂.heap (fun b => W b ∨ b = I) t v)
/-- an expression over which a loop goes: its items -/
structure It (g : GC) (d : Nat) (env : Env) (loc : Loc) (e : Expr) (items : List T) : Prop where
  run : ∀ A s W M, Room A d → Inv g env loc W M s.heap → wpAny g.M A (eval e env) (fun v s₁ => wpAny g.M A (pyIter v) (IPost g s W items) bot s₁) bot s

section
variable {g : GC} {d : Nat} {env : Env} {loc : Loc} {Q : Fl → Loc → Prop} {W M : Addr → Prop}

theorem It.to {e : Expr} {items : List T} {s : Shared} {Q : Value → Shared → Prop} {E : Value → Shared → Prop} (h : It g d env loc e items) (A : Around) (R : Room A d) (I : Inv g env loc W M s.heap) (k : ∀ s₂ Ia fp P St, (∀ A' : Around, A'.handled = none → Walks g.prog g.w A' Ia fp [Ia] items.length P St) → St 0 s₂.heap → Keeps s s₂ →
    s.heap.get? Ia = none → (∀ i h, St i h → (h.get? Ia).isSome) → (∀ b ∈ fp, b ≠ Ia → (s₂.heap.get? b).isSome ∧ ¬ W b) → (∀ i v t, P i v → items[i]? = some t → Rep g.C s₂.heap (fun b => W b ∨ b = Ia) t v) → Q (.ref Ia) s₂) :
    wpAny g.M A (eval e env) (fun v s₁ => wpAny g.M A (pyIter v) Q E s₁) E s :=
  wpAny_mono (h.run A s W M R I) (fun v s₁ h₁ => wpAny_mono h₁ (fun it s₂ h₂ => by
    obtain ⟨Ia, fp, n, P, St, rfl, hW, hst0, q, hnew, halive, hfp, rfl, hP⟩ := h₂
    exact k s₂ Ia fp P St hW hst0 q hnew halive hfp hP) fun _ _ h => h.elim) fun _ _ h => h.elim

theorem it_list {e : Expr} {ts : List T} (h : Ev g d env loc e (.list ts)) : It g d env loc e ts := .mk fun A s W M R I =>
  h.to A s W M R I (fun v s₁ r k => by
    simp only [Rep] at r
    obtain ⟨a, xs, n, rfl, hw, hl, hr⟩ := r
    refine wpAny_pyIter_list (isList hl) ?_
    have K : Keeps s { s₁ with heap := s₁.heap.push { cls := .type "list_iterator", data := .fields #[.ref a, .int 0 0] } } := kt k (kh fun b o e => Heap.get?_push_of_some _ e)
    have hne : a ≠ s₁.heap.objs.size := Nat.ne_of_lt (Heap.lt_size hl)
    refine ⟨_, [s₁.heap.objs.size, a], xs.size, _, _, rfl, fun A' hh => Walks.list hh s₁.heap.objs.size a hne xs, ⟨⟨_, Heap.get?_push_size _ rfl, rfl, rfl⟩, (isList hl).push _⟩, K, push_new k, fun i h st => ?_, fun b hb hn => ?_, size_of hr, fun i v t hP ht => ?_⟩
    · obtain ⟨⟨o, ho, _⟩, _⟩ := st; rw [ho]; rfl
    · simp only [List.mem_cons, List.not_mem_nil, or_false] at hb
      rcases hb with hb | hb
      · exact absurd hb hn
      · subst hb
        refine ⟨?_, hw⟩
        rw [show _ = some _ from Heap.get?_push_of_some _ hl]; rfl
    · obtain ⟨t', e1, e2⟩ := hr.get' (i := i) (v := v) (by simpa using hP)
      rw [ht] at e1; cases e1
      exact Rep.mono (fun b o e hw => ⟨Heap.get?_push_of_some _ e, fun q => q.elim hw fun q => by subst q; exact absurd (Heap.lt_size e) (Nat.lt_irrefl _)⟩) _ _ e2)

theorem it_range {e : Expr} {a b c : Int} {n : Nat} (h : EvR g d env loc e a b c) (hsmall : Builtin.Range.small a b c = true) (hn : Builtin.Range.rangeSize a b c = n) : It g d env loc e (rangeT a c n) := .mk fun A s W M R I =>
  h.to A s W M R I (fun v s₁ r t u v' e hnew hr k => by
    subst e
    refine wpAny_pyIter_range hr hsmall ?_
    have K : Keeps s { s₁ with heap := s₁.heap.push { cls := .type "range_iterator", data := .fields #[rawInt a, rawInt (Builtin.Range.rangeSize a b c), rawInt c] } } := kt k (kh fun b o e => Heap.get?_push_of_some _ e)
    refine ⟨_, [s₁.heap.objs.size], n, _, _, rfl, fun A' hh => Walks.range hh s₁.heap.objs.size a c n, ?_, K, push_new k, fun i h st => ?_, fun b hb hne => ?_, by simp [rangeT], fun i v t hP ht => ?_⟩
    · rw [hn]
      have := Heap.get?_push_size s₁.heap (o := { cls := .type "range_iterator", data := .fields #[rawInt a, rawInt (n : Int), rawInt c] }) rfl
      simpa using this
    · rw [show h.get? _ = some _ from st]; rfl
    · simp only [List.mem_cons, List.not_mem_nil, or_false] at hb; exact absurd hb hne
    · obtain ⟨tk, rfl⟩ := hP
      have hi : i < n := by
        rcases Nat.lt_or_ge i n with q | q
        · exact q
        · rw [List.getElem?_eq_none (by simpa [rangeT] using q)] at ht; cases ht
      simp only [rangeT, List.getElem?_map, List.getElem?_range hi, Option.map_some, Option.some.injEq] at ht
      subst ht
      simp only [Rep]; exact ⟨_, rfl⟩)

theorem it_signs {e : Expr} {x : Str} (h : Ev g d env loc e (.str x)) (ha : x.cps.all (· < 128) = true) : It g d env loc e (signT x) := .mk fun A s W M R I =>
  h.to A s W M R I (fun v s₁ r k => by
    simp only [Rep] at r
    obtain ⟨t, rfl⟩ := r
    refine wpAny_pyIter_ascii ha ?_
    refine ⟨_, [s₁.heap.objs.size], x.cps.size, _, _, rfl, fun A' hh => Walks.strAscii hh s₁.heap.objs.size x t, ?_, kt k (kh fun b o e => Heap.get?_push_of_some _ e), push_new k, fun i h st => ?_, fun b hb hne => ?_, by simp [signT], fun i v t' hP ht => ?_⟩
    · exact ⟨_, Heap.get?_push_size _ rfl, rfl, rfl⟩
    · obtain ⟨o, ho, _⟩ := st; rw [ho]; rfl
    · simp only [List.mem_cons, List.not_mem_nil, or_false] at hb; exact absurd hb hne
    · obtain ⟨c, u, hc, rfl⟩ := hP
      simp only [signT, List.getElem?_map, Array.getElem?_toList, hc, Option.map_some, Option.some.injEq] at ht
      subst ht
      simp only [Rep]; exact ⟨_, rfl⟩)

noncomputable def turnQ (J : Loc → Prop) (Q : Fl → Loc → Prop) : Fl → Loc → Prop
  | .next, l => J l
  | .brk, l => Q .next l
  | .ret t, l => Q (.ret t) l

theorem Step.touch {s s' : Shared} {W M W' M' : Addr → Prop} {I : Addr} {h' : Heap} {tk : Nat} (x : Step s W M s' W' M') (hI : M I) (hk : ∀ b o, b ∉ [I] → s'.heap.get? b = some o → h'.get? b = some o) (ha : (h'.get? I).isSome) : Step s W M { s' with heap := h', toks := tk } W' M' where
  rest := by obtain ⟨h, t, rfl⟩ := x.rest; exact ⟨_, _, rfl⟩
  keep a o e hm := hk a o (fun q => hm (by rw [List.mem_singleton.mp q]; exact hI)) (x.keep a o e hm)
  live a e := by
    have e' : h'.get? a = none := e
    have hne : a ≠ I := by rintro rfl; rw [e'] at ha; cases ha
    refine x.live a ?_
    cases q : s'.heap.get? a with
    | none => rfl
    | some o => rw [hk a o (by simpa using hne) q] at e'; cases e'
  Mnew := x.Mnew
  Wkeep := x.Wkeep
  Wnew := x.Wnew
theorem Inv.touch {s' : Shared} {W' M' : Addr → Prop} {loc' : Loc} {I : Addr} {h' : Heap} (J : Inv g env loc' W' M' s'.heap) (hW : W' I) (hM : ¬ M' I) (hk : ∀ b o, b ∉ [I] → s'.heap.get? b = some o → h'.get? b = some o) (ha : (h'.get? I).isSome) : Inv g env loc' W' M' h' := by
  refine J.move (fun b o e hw => ⟨hk b o (fun q => hw (by rw [List.mem_singleton.mp q]; exact hW)) e, hw⟩) (fun b o e hm => ⟨hk b o (fun q => hM (by rw [← List.mem_singleton.mp q]; exact hm)) e, hm⟩) J.MW fun b e => J.base.live b ?_
  have hb : b ≠ I := by rintro rfl; rw [e] at ha; cases ha
  cases q : s'.heap.get? b with
  | none => rfl
  | some o => rw [hk b o (by simpa using hb) q] at e; cases e

inductive FInv (g : GC) (env : Env) (s₂ : Shared) (W₁ M₁ : Addr → Prop) (Ia : Addr) (St : Nat → Heap → Prop) (J : Nat → Loc → Prop) (n c : Nat) (s' : Shared) : Prop
  | mk (i : Nat) (loc' : Loc) (W' M' : Addr → Prop) (e : c = n - i) (hi : i ≤ n) (I' : Inv g env loc' W' M' s'.heap) (st' : Step s₂ W₁ M₁ s' W' M') (hW' : W' Ia) (hM' : ¬ M' Ia) (hst : St i s'.heap) (hJ : J i loc')
theorem x_for {x : String} {px pos : Pos} {iter : Expr} {body : List Stmt} {items : List T} (h : It g d env loc iter items) (hst : Stores env x) (J : Nat → Loc → Prop) (h0 : J 0 loc)
    (turn : ∀ i t loc', items[i]? = some t → J i loc' → Ex g d env (Loc.set loc' x (.val t)) body (turnQ (J (i + 1)) Q)) (fin : ∀ loc', J items.length loc' → Q .next loc')
    (hs : ∀ x, foldedSetIterable iter env x = pure x := by intro _; rfl) : Ex1 g d env loc (.For (.Name (Str.ofString x) px) iter body [] pos) Q := .mk fun A s W M R I => by
  refine wpAny_For (h.to A R I fun s₂ Ia fp P St hW hst0 k hnew halive hfp hP => ?_) hs
  have WK := hW A R.1
  have hM : ¬ M Ia := fun q => I.base.live Ia hnew (I.MW _ q)
  have hIs : (s₂.heap.get? Ia).isSome := halive 0 _ hst0
  have I₂ : Inv g env loc (fun b => W b ∨ b = Ia) M s₂.heap := I.wide k (fun b q => q ▸ hnew) fun b q => q ▸ hIs
  have st₀ : Step s W M s₂ (fun b => W b ∨ b = Ia) (fun b => M b ∨ b = Ia) := stepGrow k hnew
  have st₁ : Step s W M s₂ (fun b => W b ∨ b = Ia) M := ⟨st₀.rest, st₀.keep, st₀.live, fun a h => .inl h, fun a h _ => .inl h, st₀.Wnew⟩
  have st₂ : Step s₂ (fun b => W b ∨ b = Ia) (fun b => M b ∨ b = Ia) s₂ (fun b => W b ∨ b = Ia) M := ⟨⟨_, _, rfl⟩, fun _ _ e _ => e, fun _ e => e, fun _ h => .inl (.inl h), fun _ h _ => h, fun _ h => .inl h⟩
  have done : ∀ (s' : Shared) (W' M' : Addr → Prop) (loc' : Loc) (fl : Fl) (f : Flow), Inv g env loc' W' M' s'.heap → Step s₂ (fun b => W b ∨ b = Ia) (fun b => M b ∨ b = Ia) s' W' M' → FlRep g.C s'.heap W' fl f → Q fl loc' →
      XPost g env s W M Q f s' := fun s' W' M' loc' fl f I' st hf hq => ⟨W', M', loc', fl, I', st₀.trans st I.MW I.base.live, hf, hq⟩
  refine codeAny_forLoop (FInv g env s₂ (fun b => W b ∨ b = Ia) (fun b => M b ∨ b = Ia) Ia St J items.length) ?_ (items.length - 0) ⟨0, loc, _, M, rfl, Nat.zero_le _, I₂, st₂, .inr rfl, hM, hst0, h0⟩
  rintro c s' ⟨i, loc', W', M', rfl, hi, I', st', hW', hM', hsti, hJ⟩
  by_cases hlt : i < items.length
  · refine WK.item i s' _ _ hlt hsti fun v h' tk hPi hst1 hk => ?_
    obtain ⟨t, ht⟩ : ∃ t, items[i]? = some t := ⟨items[i], by simp [hlt]⟩
    have ha := halive _ _ hst1
    have I₃ : Inv g env loc' W' M' ({ s' with heap := h', toks := tk } : Shared).heap := I'.touch hW' hM' hk ha
    have st₃ : Step s₂ _ _ { s' with heap := h', toks := tk } W' M' := st'.touch (I := Ia) (.inr rfl) hk ha
    have MW₀ : ∀ a, (M a ∨ a = Ia) → (W a ∨ a = Ia) := fun a q => q.imp (I.MW a) id
    have live₀ := I₂.base.live
    refine assignV I₃ hst ((hP i v t hPi ht).step st₃ MW₀) fun s₄ I₄ st₄ => ?_
    refine (turn i t loc' ht hJ).to A s₄ W' M' R I₄ (fun f s₅ W₅ M₅ loc₅ fl I₅ st₅ hf hq => ?_)
    have st₆ := (st₃.trans st₄ MW₀ live₀).trans st₅ MW₀ live₀
    have hIa : (({ s' with heap := h', toks := tk } : Shared).heap.get? Ia).isSome := ha
    have hI4 : (s₄.heap.get? Ia).isSome := by
      obtain ⟨o, ho⟩ := Option.isSome_iff_exists.mp hIa
      rw [st₄.keep Ia o ho hM']; rfl
    have hW₅ : W₅ Ia := st₅.Wkeep Ia hW' hM'
    have hM₅ : ¬ M₅ Ia := fun q => by
      rcases st₅.Mnew Ia q with q | q
      · exact hM' q
      · rw [q] at hI4; cases hI4
    have hst5 : St (i + 1) s₅.heap := by
      refine WK.frame _ _ _ hst1 fun b hb o e => ?_
      have hMb : ¬ M' b := by
        by_cases q : b = Ia
        · rw [q]; exact hM'
        · obtain ⟨hs2, hw⟩ := hfp b hb q
          intro q2
          rcases st'.Wnew b (I'.MW b q2) with q3 | q3
          · rcases q3 with q3 | q3
            · exact hw q3
            · exact q q3
          · rw [q3] at hs2; cases hs2
      exact st₅.keep b o (st₄.keep b o e hMb) hMb
    cases fl with
    | next =>
      simp only [FlRep] at hf
      subst hf
      exact ⟨items.length - (i + 1), Nat.sub_lt_sub_left hlt (Nat.lt_succ_self i), i + 1, loc₅, W₅, M₅, rfl, hlt, I₅, st₆, hW₅, hM₅, hst5, hq⟩
    | brk =>
      simp only [FlRep] at hf
      subst hf
      exact done s₅ W₅ M₅ loc₅ .next _ I₅ st₆ rfl hq
    | ret t =>
      simp only [FlRep] at hf
      obtain ⟨v, rfl, hr⟩ := hf
      exact done s₅ W₅ M₅ loc₅ (.ret t) _ I₅ st₆ ⟨v, rfl, hr⟩ hq
  · have hin : i = items.length := Nat.le_antisymm hi (Nat.le_of_not_lt hlt)
    subst hin
    refine WK.done s' _ _ hsti fun h' tk hk => wpAny_execs_nil ?_
    have st := st₀.trans st' I.MW I.base.live
    have hnI : ∀ b o, s.heap.get? b = some o → b ∉ [Ia] := fun b o e q => by rw [List.mem_singleton.mp q, hnew] at e; cases e
    have back : ∀ b, b ≠ Ia → h'.get? b = none → s'.heap.get? b = none := fun b hb e => by
      cases q : s'.heap.get? b with
      | none => rfl
      | some o => rw [hk b o (by simpa using hb) q] at e; cases e
    refine ⟨fun b => W' b ∧ b ≠ Ia, M', loc', .next, ?_, ?_, rfl, fin loc' hJ⟩
    · refine I'.move (fun b o e hw => ⟨hk b o (fun q => hw (by rw [List.mem_singleton.mp q]; exact hW')) e, fun q => hw q.1⟩) (fun b o e hm => ⟨hk b o (fun q => hM' (by rw [← List.mem_singleton.mp q]; exact hm)) e, hm⟩)
        (fun b q => ⟨I'.MW b q, fun e => hM' (e ▸ q)⟩) fun b e q => I'.base.live b (back b q.2 e) q.1
    · exact ⟨by obtain ⟨h1, t1, rfl⟩ := st.rest; exact ⟨_, _, rfl⟩, fun b o e hm => hk b o (hnI b o e) (st.keep b o e hm), fun b e => by
          by_cases q : b = Ia
          · rw [q]; exact hnew
          · exact st.live b (back b q e), st.Mnew, fun b hw hm => ⟨st.Wkeep b hw hm, fun q => I.base.live Ia hnew (q ▸ hw)⟩, fun b q => st.Wnew b q.1⟩

theorem x_while {test : Expr} {body : List Stmt} {pos : Pos} (J : Nat → Loc → Prop) (n : Nat) (h0 : J n loc)
    (turn : ∀ n loc', J n loc' → ∃ b, EvB g d env loc' test b ∧ (b = true → Ex g d env loc' body (turnQ (fun l => ∃ m, m < n ∧ J m l) Q)) ∧ (b = false → Q .next loc')) : Ex1 g d env loc (.While test body [] pos) Q := .mk fun A s W M R I => by
  refine wpAny_While (codeAny_whileLoop (fun c s' => ∃ loc' W' M', Inv g env loc' W' M' s'.heap ∧ Step s W M s' W' M' ∧ J c loc') ?_ n ⟨loc, W, M, I, Step.refl, h0⟩)
  rintro c s' ⟨loc', W', M', I', st', hJ⟩
  obtain ⟨b, hb, ht, hf⟩ := turn c loc' hJ
  refine hb.to A s' W' M' R I' (fun b' s₂ e k => ?_)
  subst e
  have st₂ := st'.trans (stepK (W := W') (M := M') k) I.MW I.base.live
  cases b' with
  | false =>
    simp only [Bool.false_eq_true, if_false]
    exact wpAny_execs_nil ⟨W', M', loc', .next, I'.keeps k, st₂, rfl, hf rfl⟩
  | true =>
    simp only [if_true]
    refine (ht rfl).to A s₂ W' M' R (I'.keeps k) (fun f s₃ W₃ M₃ loc₃ fl I₃ st₃ hfl hq => ?_)
    have st₄ := st₂.trans st₃ I.MW I.base.live
    cases fl with
    | next =>
      simp only [FlRep] at hfl
      subst hfl
      obtain ⟨m, hm, hJm⟩ := hq
      exact ⟨m, hm, loc₃, W₃, M₃, I₃, st₄, hJm⟩
    | brk =>
      simp only [FlRep] at hfl
      subst hfl
      exact ⟨W₃, M₃, loc₃, .next, I₃, st₄, rfl, hq⟩
    | ret t =>
      simp only [FlRep] at hfl
      obtain ⟨v, rfl, hr⟩ := hfl
      exact ⟨W₃, M₃, loc₃, .ret t, I₃, st₄, ⟨v, rfl, hr⟩, hq⟩
end
end Mine

open PySem PySem.W PySem.Calls PyProof.Rows
set_option linter.unusedVariables false
set_option maxRecDepth 100000
namespace Mine
open Builtin Builtin.ObjectAttr

section
variable {g : GC} {d : Nat} {env : Env} {loc : Loc} {Q : Fl → Loc → Prop} {W M : Addr → Prop}

/-! an object's dict -/
noncomputable def KeysStr (es : List DictEntry) : Prop := ∀ e ∈ es, ∃ k t, e.key = .str k t
theorem getL_put (nm nm' : Str) (hsh : Int) (tk : Tok) (v : Value) : ∀ (es : List DictEntry), KeysStr es → getL nm' (putL nm hsh (.str nm tk) v es) = if nm = nm' then some (some v) else getL nm' es
  | [], _ => by
    unfold putL getL
    simp only [List.find?_cons, List.find?_nil, Value.isStr, List.any_cons, List.any_nil, Bool.or_false]
    by_cases h : nm = nm'
    · simp [h]
    · have : (nm == nm') = false := by simpa using h
      simp [this, h, DictEntry.refKey]
  | e :: r, hk => by
    have ih := getL_put nm nm' hsh tk v r fun e he => hk e (.tail _ he)
    obtain ⟨k, t, hkey⟩ := hk e (.head _)
    have nr : e.refKey = false := by simp [DictEntry.refKey, hkey]
    unfold putL
    by_cases h1 : e.key.isStr nm = true
    · rw [if_pos h1]
      have hkn : k = nm := by rw [hkey] at h1; simpa [Value.isStr] using h1
      subst hkn
      unfold getL
      simp only [List.find?_cons, hkey, Value.isStr]
      by_cases h : k = nm'
      · simp [h]
      · have : (k == nm') = false := by simpa using h
        simp only [this, h, if_false, List.any_cons, DictEntry.refKey, hkey, Bool.false_or]
    · rw [if_neg h1]
      unfold getL at ih ⊢
      simp only [List.find?_cons]
      cases h2 : e.key.isStr nm' with
      | true =>
        have hkn : k = nm' := by rw [hkey] at h2; simpa [Value.isStr] using h2
        have hne : ¬ nm = nm' := by rintro rfl; exact h1 (by rw [hkey]; simpa [Value.isStr] using hkn)
        simp [hne]
      | false =>
        simp only [List.any_cons, nr, Bool.false_or]
        exact ih
theorem keys_put {nm : Str} {hsh : Int} {tk : Tok} {v : Value} : ∀ {es : List DictEntry}, KeysStr es → KeysStr (putL nm hsh (.str nm tk) v es)
  | [], _ => fun e he => by
    simp only [putL, List.mem_singleton] at he
    subst he; exact ⟨_, _, rfl⟩
  | e :: r, hk => fun e' he => by
    unfold putL at he
    split at he
    · rcases List.mem_cons.mp he with rfl | he
      · obtain ⟨k, t, h⟩ := hk e (.head _); exact ⟨k, t, h⟩
      · exact hk e' (.tail _ he)
    · rcases List.mem_cons.mp he with rfl | he
      · exact hk _ (.head _)
      · exact keys_put (fun e he => hk e (.tail _ he)) e' he
theorem len_put {nm : Str} {hsh : Int} {key v : Value} : ∀ {es : List DictEntry}, (putL nm hsh key v es).length = if es.any (·.key.isStr nm) then es.length else es.length + 1
  | [] => rfl
  | e :: r => by
    unfold putL
    by_cases h : e.key.isStr nm = true
    · rw [if_pos h]; simp [h]
    · rw [if_neg h, List.length_cons, len_put]
      have : e.key.isStr nm = false := by simpa using h
      simp only [List.any_cons, this, Bool.false_or, List.length_cons]
      split <;> rfl
theorem noRef {es : List DictEntry} (h : KeysStr es) : es.any (·.refKey) = false := by
  rw [List.any_eq_false]; intro e he
  obtain ⟨k, t, hk⟩ := h e he
  simp [DictEntry.refKey, hk]
theorem any_get {nm : Str} {es : List DictEntry} (h : KeysStr es) : es.any (·.key.isStr nm) = true ↔ ∃ v, getL nm es = some (some v) := by
  unfold getL
  cases hf : es.find? (·.key.isStr nm) with
  | some e =>
    refine ⟨fun _ => ⟨_, rfl⟩, fun _ => List.any_eq_true.mpr ⟨e, List.mem_of_find?_eq_some hf, List.find?_some (p := fun e : DictEntry => e.key.isStr nm) hf⟩⟩
  | none =>
    have : es.any (·.key.isStr nm) = false := by
      rw [List.any_eq_false]; intro e he; simpa using List.find?_eq_none.mp hf e he
    rw [this]
    constructor
    · intro h; cases h
    · rintro ⟨v, hv⟩; rw [noRef h] at hv; simp at hv
theorem setA_len (l : List (String × T)) (x : String) (t : T) : (setA l x t).length = if (getA l x).isSome then l.length else l.length + 1 := by
  induction l with
  | nil => rfl
  | cons p r ih =>
    obtain ⟨k, u⟩ := p
    unfold setA getA
    split
    · simp
    · simp only [List.length_cons, ih]; split <;> rfl

structure InitF (g : GC) : Prop where
  over : plainOver g.K g.C = true
  sa : findIn g.K (.ref g.C) "__setattr__" = some (some (.builtin "object.__setattr__"))
  hasDict : (clsIn g.K g.C).any (·.hasDict) = true

theorem call_setAttr {A : Around} {s : Shared} {x dx : Addr} {es : List DictEntry} {n : Nat} {nm : Str} {v : Value} {Q : Unit → Shared → Prop} (F : InitF g) (X : g.K.In s.heap) (hx : s.heap.get? x = some (instObj g.C dx)) (hd : s.heap.get? dx = some (dictOf es n)) (hk : KeysStr es) (hl : es.length ≤ 1000)
    (hf : findIn g.K (.ref g.C) nm = some none) (h : ∀ tk, Q () { s with heap := s.heap.update dx (Obj.putName nm (PyData.keyHash g.w.params nm) (.str nm tk) v), toks := tk + 1 }) : wpAny g.M A (setAttr (.ref x) nm v) Q bot s := by
  have I : InstAt s.heap x (instObj g.C dx) g.C (some (dictOf es n)) := ⟨hx, rfl, rfl, hd⟩
  refine set_plain X I F.sa ?_
  have ht : takerIn g.K g.C nm = some none := by unfold takerIn; rw [hf]; rfl
  have X' : g.K.In ({ s with toks := s.toks + 1 } : Shared).heap := X
  have I' : InstAt ({ s with toks := s.toks + 1 } : Shared).heap x (instObj g.C dx) g.C (some (dictOf es n)) := I
  refine osa_open X' I' F.over ht fun b => ?_
  obtain ⟨cd, hc, hd'⟩ := any_some F.hasDict
  have hx' : ({ s with toks := s.toks + 1 } : Shared).heap.get? x = some (instObj g.C dx) := hx
  refine wpAny_bind (wpAny_pure (wpAny_bind (wpAny_bind (wpAny_loadPart hx' (wpAny_bind ((looks_clsIn X' hc).here ?_))))))
  rw [hd']
  refine wpAny_pure (a := some dx) (wpAny_bind (wpAny_pure (wpAny_bind ?_)))
  unfold nsSet
  have D : ({ s with toks := s.toks + 1 + 1 } : Shared).heap.get? dx = some (dictOf es n) := hd
  refine wpAny_bind (wpAny_bind (wpAny_askSetting (wpAny_pure (wpAny_bind (wpAny_mkText (wpAny_bind (wpAny_loadPart D ?_)))))))
  dsimp only
  have c : (!es.toArray.any (·.key.isStr nm) && es.toArray.any (·.refKey)) = false := by
    rw [← Array.any_toList, ← Array.any_toList]
    have := noRef hk
    simp only [this, Bool.and_false]
  rw [aRefKeyMayBeTheName_at, c]
  refine wpAny_updatePart D ?_
  have D' := Heap.get?_update_self (Obj.putName nm (PyData.keyHash g.w.params nm) (.str nm (s.toks + 1)) v) D (by rw [putName_dict]; rfl)
  refine wpAny_bind (wpAny_lookBehind D' (by
    rw [putName_dict]
    refine pastItsLine_dict ?_
    rw [List.size_toArray, len_put, sizeLine_eq]; split <;> (first | lia | omega)) ?_)
  exact wpAny_pure (h (s.toks + 1))

theorem x_setattr {x : String} {px spos pos : Pos} {nm : String} {value : Expr} {at' : Addr × List (String × T)} {t : T} (F : InitF g) (hf : findIn g.K (.ref g.C) (Str.ofString nm) = some none) (hl : Loc.get loc x = some (.obj at')) (h : Ev g d env loc value t) (hlen : at'.2.length ≤ 100) (hq : Q .next (loc.set x (.obj (at'.1, setA at'.2 nm t))))
    (hs : swapsWith value (some (.Attribute (.Name (Str.ofString x) px) (Str.ofString nm) spos)) pos.line env = pure false := by rfl) (hd : (Str.ofString x == ("__debug__" : Str)) = false := by decide +kernel) :
    Ex1 g d env loc (.Assign [.Attribute (.Name (Str.ofString x) px) (Str.ofString nm) spos] value pos) Q := .mk fun A s W M R I => by
  obtain ⟨m, val, hn, hv, huq, hob⟩ := I.ex
  obtain ⟨hat, z, dx, es, n, ez, hwz, hz, hMd, hne, hdx, hkeys, hlenes, hattr⟩ := hv x _ hl
  refine plainObj_wpAny_Assign_Attribute (h.to A s W M R I (fun v s₁ r₁ k₁ => nameAt I.kind (nsK k₁ hn) (atK k₁ hat) ?_ hd)) hs
  rw [ez.1]
  have k := kk k₁
  refine call_setAttr F (kinB (I.keeps k₁).base) (k _ _ hz) (k _ _ hdx) hkeys (by (first | lia | omega)) hf fun tk => ?_
  have hD₁ : s₁.heap.get? dx = some (dictOf es n) := k _ _ hdx
  generalize hh' : s₁.heap.update dx (Obj.putName (Str.ofString nm) (PyData.keyHash g.w.params (Str.ofString nm)) (.str (Str.ofString nm) tk) v) = h'
  have hs' : Heap.SameBut dx s₁.heap h' := hh' ▸ Heap.SameBut.update ..
  have hD' : h'.get? dx = some (dictOf (putL (Str.ofString nm) (PyData.keyHash g.w.params (Str.ofString nm)) (.str (Str.ofString nm) tk) v es) (putN (Str.ofString nm) es n)) := by
    rw [← hh', ← putName_dict]
    exact Heap.get?_update_self _ hD₁ (by rw [putName_dict]; rfl)
  have hWd : W dx := I.MW _ hMd
  have hc : ∀ b o, s.heap.get? b = some o → ¬ W b → h'.get? b = some o ∧ ¬ W b := fun b o e hw => ⟨(hs'.2 b fun q => hw (q ▸ hWd)).trans (k b o e), hw⟩
  have hc₁ : ∀ b o, s₁.heap.get? b = some o → ¬ W b → h'.get? b = some o ∧ ¬ W b := fun b o e hw => ⟨(hs'.2 b fun q => hw (q ▸ hWd)).trans e, hw⟩
  have live : ∀ b, h'.get? b = none → s.heap.get? b = none := fun b e => by
    by_cases q : b = dx
    · subst q; rw [hD'] at e; cases e
    · rw [hs'.2 b q] at e
      cases q2 : s.heap.get? b with
      | none => rfl
      | some o => rw [k b o q2] at e; cases e
  refine ⟨W, M, _, .next, ⟨⟨fun b o e => hc b o (I.base.keep0 b o e).1 (I.base.keep0 b o e).2, fun b e => I.base.live b (live b e)⟩, I.kind, I.glob, I.blt, I.MW, I.ML, fun y c e1 e2 => ?_, I.inj, m, val, hn.at' fun o e => (hs'.2 _ hne.symm).trans (k _ o e), fun y lv e => ?_, fun y z' ty tz ey ez' e => ?_, fun y z' a b ey ez' => ?_⟩, ⟨by obtain ⟨h₁, t₁, rfl, _⟩ := k₁; exact ⟨_, _, rfl⟩, fun b o e hm => (hs'.2 b fun q => hm (q ▸ hMd)).trans (k b o e), fun b e => live b e, fun _ h => .inl h, fun _ h _ => h, fun _ h => .inl h⟩, rfl, hq⟩
  · obtain ⟨⟨v₀, o, ho, hdc⟩, hMc⟩ := I.cells y c e1 e2
    refine ⟨⟨v₀, o, (hs'.2 c ?_).trans (k _ _ ho), hdc⟩, hMc⟩
    rintro rfl; rw [hdx] at ho; cases ho; cases hdc
  · have hatk : ∀ y, At env s.heap m y (val y) → At env h' m y (val y) := fun y ha => by
      rcases ha with h | ⟨h1, c, h2, o, ho, hdc⟩
      · exact .inl h
      · refine .inr ⟨h1, c, h2, o, (hs'.2 c ?_).trans (k _ _ ho), hdc⟩
        rintro rfl; rw [hdx] at ho; cases ho; cases hdc
    rw [Loc.get_set] at e
    by_cases hy : x = y
    · rw [if_pos hy] at e
      cases e
      subst hy
      refine ⟨hatk x hat, z, dx, _, _, ez, hwz, (hc _ _ hz hwz).1, hMd, hne, hD', keys_put hkeys, ?_, fun nm' => ?_⟩
      · rw [len_put, setA_len]
        by_cases q : es.any (·.key.isStr (Str.ofString nm)) = true
        · rw [if_pos q]; split <;> (first | lia | omega)
        · rw [if_neg q]
          have hnone : getA at'.2 nm = none := by
            cases hg : getA at'.2 nm with
            | none => rfl
            | some u =>
              have := hattr nm
              rw [hg] at this
              obtain ⟨w, hw, _⟩ := this
              exact absurd ((any_get hkeys).mpr ⟨w, hw⟩) q
          rw [hnone]
          have : ¬ (none : Option T).isSome = true := by simp
          rw [if_neg this]; (first | lia | omega)
      · rw [getA_set]
        by_cases hnm : nm = nm'
        · rw [if_pos hnm]
          subst hnm
          exact ⟨v, by rw [getL_put _ _ _ _ _ _ hkeys, if_pos rfl], Rep.mono hc₁ _ _ r₁⟩
        · rw [if_neg hnm]
          have e0 : getL (Str.ofString nm') (putL (Str.ofString nm) (PyData.keyHash g.w.params (Str.ofString nm)) (.str (Str.ofString nm) tk) v es) = getL (Str.ofString nm') es := by
            rw [getL_put _ _ _ _ _ _ hkeys, if_neg (fun q => hnm (ofString_inj q))]
          have := hattr nm'
          cases q : getA at'.2 nm' with
          | none => rw [q] at this; exact e0.trans this
          | some u => rw [q] at this; obtain ⟨w, e1, e2⟩ := this; exact ⟨w, e0.trans e1, Rep.mono hc _ _ e2⟩
    · rw [if_neg hy] at e
      refine ⟨hatk y (hv y lv e).1, ?_⟩
      have hv2 := (hv y lv e).2
      cases lv with
      | val t => exact Rep.mono hc _ _ hv2
      | own us =>
        obtain ⟨b, ys, c, eb, hMb, hLb, hrb⟩ := hv2
        exact ⟨b, ys, c, eb, hMb, (hs'.2 b (clsNe hLb hdx (by simp))).trans (k _ _ hLb), RepL.mono hc _ _ hrb⟩
      | obj at'' => exact absurd (hob x y _ _ hl e) hy
  · rw [Loc.get_set] at ey ez'
    split at ey
    · cases ey
    · split at ez'
      · cases ez'
      · exact huq y z' ty tz ey ez' e
  · have fix : ∀ y ty, Loc.get (loc.set x (.obj (at'.1, setA at'.2 nm t))) y = some (.obj ty) → ∃ ty', Loc.get loc y = some (.obj ty') := fun y ty ey => by
      rw [Loc.get_set] at ey
      split at ey
      · rename_i q; subst q; exact ⟨_, hl⟩
      · exact ⟨_, ey⟩
    obtain ⟨_, ey'⟩ := fix y a ey
    obtain ⟨_, ez''⟩ := fix z' b ez'
    exact hob y z' _ _ ey' ez''

/-- an attribute of the object in the making -/
theorem ev_objattr {x : String} {px pos : Pos} {nm : String} {at' : Addr × List (String × T)} {t : T} (F : WSF g) (hf : findIn g.K (.ref g.C) (Str.ofString nm) = some none) (hl : Loc.get loc x = some (.obj at')) (ha : getA at'.2 nm = some t)
    (hfm : AttrForm (.Name (Str.ofString x) px) (Str.ofString nm) pos := by exact ⟨fun _ => rfl⟩) (hd : (Str.ofString x == ("__debug__" : Str)) = false := by decide +kernel) : Ev g d env loc (.Attribute (.Name (Str.ofString x) px) (Str.ofString nm) pos) t := .mk fun A s W M R I => by
  obtain ⟨m, val, hn, hv, huq, hob⟩ := I.ex
  obtain ⟨hat, z, dx, es, n, ez, hwz, hz, hMd, hne, hdx, hkeys, hlenes, hattr⟩ := hv x _ hl
  have := hattr nm
  rw [ha] at this
  obtain ⟨v, e1, e2⟩ := this
  refine Attribute_any_ (nameAt I.kind hn hat ?_ hd) (hfm.run env)
  rw [ez.1]
  exact wsAttr (W := W) (M := M) F (kinB I.base) hz hdx hf e1 (handed_rep e2) ⟨e2.keeps ktok, ktok⟩

/-- an attribute of the class itself -/
theorem ev_clsattr {x : Str} {px pos : Pos} {nm : Str} {mc : Value} {y : Str} {tk : Tok} (hk : env.kindOf x = some .globalImplicit) (hv : g.mg x = some (.ref g.C)) (hr : readsIn g.K g.C mc = true) (hc : findCls g.K (.ref g.C) mc nm = some (.val (.str y tk)))
    (hfm : AttrForm (.Name x px) nm pos := by exact ⟨fun _ => rfl⟩) (hd : (x == ("__debug__" : Str)) = false := by decide +kernel) : Ev g d env loc (.Attribute (.Name x px) nm pos) (.str y) := .mk fun A s W M R I =>
  Attribute_any_ (nm_glob I hk hv (cls_value (kinB I.base) hr hc rfl ⟨by simp only [Rep]; exact ⟨_, rfl⟩, ktok⟩) hd) (hfm.run env)
end
end Mine

open PySem PySem.W PySem.Calls PyProof.Rows
set_option linter.unusedVariables false
set_option maxRecDepth 100000
namespace Mine

/-- a def's frame -/
noncomputable abbrev envD (sc : Scope) (L f : Addr) (q : Str) (cd : Value) : Env := newEnv sc L mainGlobals [] (q ++ ".<locals>.") (some f) cd none builtinsNs

section
variable {g : GC} {d : Nat}

noncomputable def binds (ps : List String) (vs : List Value) : List (Str × Value) := (ps.map Str.ofString).zip vs
noncomputable def params (ps : List String) (ts : List T) : Loc := ps.zip (ts.map LV.val)

theorem binds_none : ∀ {ps : List String} {vs : List Value} {x : String}, x ∉ ps → (binds ps vs).reverse.lookup (Str.ofString x) = none
  | [], _, _, _ => rfl
  | p :: ps, [], _, _ => rfl
  | p :: ps, v :: vs, x, h => by
    have hr : x ∉ ps := fun q => h (.tail _ q)
    have hp : ¬ Str.ofString x = Str.ofString p := fun q => h (by rw [ofString_inj q]; exact .head _)
    show ((Str.ofString p, v) :: binds ps vs).reverse.lookup _ = none
    rw [List.reverse_cons, List.lookup_append, binds_none hr]
    have : (Str.ofString x == Str.ofString p) = false := by simpa using hp
    simp [List.lookup_cons, this]
theorem binds_get {C : Addr} {h : Heap} {W : Addr → Prop} : ∀ {ps : List String} {ts : List T} {vs : List Value} {x : String} {lv : LV}, ps.Nodup → ps.length = ts.length → RepL C h W ts vs → Loc.get (params ps ts) x = some lv →
    ∃ t v, lv = .val t ∧ (binds ps vs).reverse.lookup (Str.ofString x) = some v ∧ Rep C h W t v ∧ x ∈ ps
  | [], _, _, _, _, _, _, _, e => by cases e
  | p :: ps, [], _, _, _, _, hl, _, _ => by cases hl
  | p :: ps, t :: ts, vs, x, lv, hnd, hl, hr, e => by
    simp only [RepL] at hr
    obtain ⟨v, r, rfl, hv, hr⟩ := hr
    obtain ⟨hp, hnd'⟩ := List.nodup_cons.mp hnd
    have e' : Loc.get ((p, .val t) :: params ps ts) x = some lv := e
    show ∃ t' v', _ ∧ ((Str.ofString p, v) :: binds ps r).reverse.lookup _ = _ ∧ _
    rw [List.reverse_cons, List.lookup_append]
    unfold Loc.get at e'
    by_cases hx : p = x
    · subst hx
      rw [if_pos rfl] at e'
      cases e'
      refine ⟨t, v, rfl, ?_, hv, .head _⟩
      rw [binds_none hp]; simp [List.lookup_cons]
    · rw [if_neg hx] at e'
      obtain ⟨t', v', e1, e2, e3, e4⟩ := binds_get hnd' (by simpa using hl) hr e'
      exact ⟨t', v', e1, by rw [e2]; rfl, e3, .tail _ e4⟩

noncomputable def retQ (t : T) : Fl → Loc → Prop
  | .ret u, _ => u = t
  | .next, _ => t = .none
  | .brk, _ => False

/-- a frame just opened -/
theorem openFrame {s : Shared} {W : Addr → Prop} {sc : Scope} {f : Addr} {q : Str} {cd : Value} {ps : List String} {ts : List T} {vs : List Value} {h₀ : Heap} (B : Base g W s.heap) (hr : RepL g.C s.heap W ts vs) (hnd : ps.Nodup) (hl : ps.length = ts.length)
    (hk : sc.kind = .function) (hcell : ∀ x ∈ sc.names, x.2 ≠ .cell) (hloc : ∀ p ∈ ps, sc.names.lookup (Str.ofString p) = some .local) (hn : h₀.Ns s.heap.objs.size (fun x => (binds ps vs).reverse.lookup x)) (hkeep : ∀ b o, s.heap.get? b = some o → h₀.get? b = some o) :
    Inv g (envD sc s.heap.objs.size f q cd) (params ps ts) (fun b => W b ∨ b = s.heap.objs.size) (fun b => b = s.heap.objs.size) h₀ := by
  have hnew : s.heap.get? s.heap.objs.size = none := push_new kr
  have hne : ∀ b o, s.heap.get? b = some o → b ≠ s.heap.objs.size := fun b o e => Nat.ne_of_lt (Heap.lt_size e)
  obtain ⟨oL, esL, nL, hoL, hdL⟩ := nsObj hn
  refine ⟨⟨fun b o e => ⟨hkeep b o (B.keep0 b o e).1, fun q => q.elim (B.keep0 b o e).2 (hne b o (B.keep0 b o e).1)⟩, fun b e q => ?_⟩, hk, rfl, rfl, fun b q => .inr q, rfl, fun x c e1 e2 => ?_, fun x y c e1 e2 => ?_, _, fun x => ((binds ps vs).reverse.lookup (Str.ofString x)).getD .none, hn, fun x lv e => ?_, fun x y tx ty e1 e2 _ => ?_, fun x y a b e1 e2 => ?_⟩
  · rcases q with q | q
    · refine B.live b ?_ q
      cases q2 : s.heap.get? b with
      | none => rfl
      | some o => rw [hkeep b o q2] at e; cases e
    · subst q; rw [hoL] at e; cases e
  · cases e2
  · cases e1
  · obtain ⟨t, v, rfl, e1, e2, e3⟩ := binds_get hnd hl hr e
    refine ⟨.inl ⟨hloc x e3, by (try dsimp only); rw [e1]; rfl⟩, ?_⟩
    rw [e1]
    exact Rep.mono (fun b o e hw => ⟨hkeep b o e, fun q => q.elim hw (hne b o e)⟩) _ _ e2
  · obtain ⟨t, v, h, _⟩ := binds_get hnd hl hr e1; cases h
  · obtain ⟨t, v, h, _⟩ := binds_get hnd hl hr e1; cases h

theorem Room.deeper {A : Around} {env : Env} (R : Room A (d + 1)) : Room (A.deeper env) d := ⟨R.1, by have := R.2.1; show A.depth + 1 + d ≤ 900; (first | lia | omega), by have := R.2.2; show A.units + 3 + 20 * d ≤ 9000; (first | lia | omega)⟩

/-- what a def's frame leaves -/
theorem closeFrame {s : Shared} {W W' M' : Addr → Prop} {h₀ : Heap} {tk : Nat} {s' : Shared} (B : Base g W s.heap) (hkeep : ∀ b o, s.heap.get? b = some o → h₀.get? b = some o)
    (st : Step { s with heap := h₀, toks := tk } (fun b => W b ∨ b = s.heap.objs.size) (fun b => b = s.heap.objs.size) s' W' M') : Keeps s s' ∧ ∀ b, W b → W' b := by
  have hne : ∀ b o, s.heap.get? b = some o → b ≠ s.heap.objs.size := fun b o e => Nat.ne_of_lt (Heap.lt_size e)
  refine ⟨?_, fun b hw => st.Wkeep b (.inl hw) fun q => ?_⟩
  · obtain ⟨h1, t1, e⟩ := st.rest
    refine ⟨h1, t1, e, fun b o eb => ?_⟩
    have := st.keep b o (hkeep b o eb) (hne b o eb)
    rw [e] at this; exact this
  · subst q
    exact B.live _ (push_new kr) hw

theorem calls_def {nm q : Str} {params' : Arguments} {body : List Stmt} {sc : Scope} {dV kV doc pm cd ct oc : Value} {an od : Option Addr} {osl : Array (Option Value)} {f : Addr} {ps : List String} {ts : List T} {t : T}
    (ho : g.K.lookup f = some ⟨oc, od, .func (fnOf nm q params' body sc dV kV doc pm an cd ct), osl⟩) (hcd : codeIn g.K cd q = true)
    (hbind : ∀ vs : List Value, vs.length = ps.length → bindArgs (fnOf nm q params' body sc dV kV doc pm an cd ct) ⟨vs, []⟩ = pure (binds ps vs))
    (hcell : ∀ x ∈ sc.names, x.2 ≠ .cell) (hloc : ∀ p ∈ ps, sc.names.lookup (Str.ofString p) = some .local) (hnd : ps.Nodup) (hl : ps.length = ts.length) (hco : sc.isCoroutine = false) (hgen : sc.isGenerator = false) (hk : sc.kind = .function)
    (h : ∀ L, Ex g d (envD sc L f q cd) (params ps ts) body (retQ t)) : Calls g (d + 1) (.ref f) ts t := .mk fun A s W vs R B hr => by
  have X := kinB B
  have hlim := g.top.nolimit.keeps fun b o e => (B.keep0 b o e).1
  refine codeAny_call_def (binds := binds ps vs) (by have := R.2.1; show A.depth < 1000; (first | lia | omega)) (X _ _ ho) rfl hlim (codeRec_of X hcd) rfl (BindsTo.of_eq (hbind vs (by rw [hr.length, hl]))) hcell (fun x hx => ?_) (fun h₀ hn hkeep => ?_) hco hgen hk
  · obtain ⟨p, hp, e⟩ := List.mem_map.mp (List.of_mem_zip (a := x.1) (b := x.2) hx).1
    rw [← e]; exact hloc p hp
  · have I := openFrame (f := f) (q := q) (cd := cd) (sc := sc) B hr hnd hl hk hcell hloc hn hkeep
    refine (h _).to _ { s with heap := h₀, toks := s.toks + (binds ps vs).length } _ _ R.deeper I (fun fl s' W' M' loc' fl' I' st hf hq => ?_)
    obtain ⟨K, hW⟩ := closeFrame B hkeep st
    cases fl' with
    | next =>
      simp only [FlRep] at hf
      subst hf
      exact ⟨_, rfl, by rw [show t = T.none from hq]; simp only [Rep], K⟩
    | brk => exact hq.elim
    | ret u =>
      simp only [FlRep] at hf
      obtain ⟨v, rfl, hrv⟩ := hf
      have : u = t := hq
      subst this
      exact ⟨v, rfl, Rep.mono (fun b o e hw => ⟨e, fun q => hw (hW b q)⟩) _ _ hrv, K⟩

/-- the class called: its object made, its __init__ walked -/
theorem calls_cls {nm q : Str} {params' : Arguments} {body : List Stmt} {sc : Scope} {dV kV doc pm cd ct oc : Value} {an od : Option Addr} {osl : Array (Option Value)} {f : Addr} {x : Str} {t : T} {at' : List (String × T)}
    (hmk : makesIn g.K g.C = true) (hi : findIn g.K (.ref g.C) "__init__" = some (some (.ref f))) (hty : typeIn g.K (.ref f) = some (.type "function"))
    (ho : g.K.lookup f = some ⟨oc, od, .func (fnOf nm q params' body sc dV kV doc pm an cd ct), osl⟩) (hcd : codeIn g.K cd q = true)
    (hbind : ∀ v u : Value, bindArgs (fnOf nm q params' body sc dV kV doc pm an cd ct) ⟨[v, u], []⟩ = pure (binds ["self", "ws"] [v, u]))
    (hcell : ∀ x ∈ sc.names, x.2 ≠ .cell) (hloc : ∀ p ∈ ["self", "ws"], sc.names.lookup (Str.ofString p) = some .local) (hco : sc.isCoroutine = false) (hgen : sc.isGenerator = false) (hk : sc.kind = .function)
    (h : ∀ L a, Ex g d (envD sc L f q cd) [("self", .obj (a, [])), ("ws", .val (.str x))] body (fun fl l => fl = .next ∧ Loc.get l "self" = some (.obj (a, at'))))
    {n nt : Int} {norm : T} {simple : Bool} (h1 : getA at' "raw" = some (.str x)) (h2 : getA at' "n" = some (.int n)) (h3 : getA at' "nt" = some (.int nt)) (h4 : getA at' "norm" = some norm) (h5 : getA at' "is_simple" = some (.bool simple))
    (h6 : getA at' "less" = none) (h7 : getA at' "indent_level" = none) (h8 : getA at' "longest_run_of_spaces" = none) : Calls g (d + 2) (.ref g.C) [.str x] (.ws x n nt norm simple) := .mk fun A s W vs R B hr => by
  have X := kinB B
  simp only [RepL, Rep] at hr
  obtain ⟨v, _, rfl, ⟨tx, rfl⟩, rfl⟩ := hr
  obtain ⟨hp, gs, dr, t, os⟩ := s
  refine make_core (makes_of X hmk) (looks_findIn X hi) (fun self => bind_fn X self hty) (.inl rfl) ?_
  generalize hh1 : (hp.push emptyDict).push (instObj g.C hp.objs.size) = h1p
  have k1 : ∀ b o, hp.get? b = some o → h1p.get? b = some o := fun b o e => hh1 ▸ Heap.get?_push_of_some _ (Heap.get?_push_of_some _ e)
  have sz : h1p.objs.size = hp.objs.size + 2 := by rw [← hh1, Heap.size_push, Heap.size_push]
  have hdx : h1p.get? hp.objs.size = some emptyDict := hh1 ▸ Heap.get?_push_of_some _ (Heap.get?_push_size _ rfl)
  have hx : h1p.get? (hp.objs.size + 1) = some (instObj g.C hp.objs.size) := by
    rw [← hh1]
    have := Heap.get?_push_size (hp.push emptyDict) (o := instObj g.C hp.objs.size) rfl
    rwa [Heap.size_push] at this
  have X1 : g.K.In h1p := X.keeps k1
  have hlim := (g.top.nolimit.keeps fun b o e => (B.keep0 b o e).1).keeps k1
  have hne : ∀ b o, hp.get? b = some o → b < hp.objs.size := fun b o e => Heap.lt_size e
  have fresh : ∀ b, hp.objs.size ≤ b → hp.get? b = none := fun b hb => by
    cases q : hp.get? b with
    | none => rfl
    | some o => exact absurd (Heap.lt_size q) (Nat.not_lt.mpr hb)
  have notW : ∀ b, hp.objs.size ≤ b → ¬ W b := fun b hb => B.live b (fresh b hb)
  refine codeAny_call_def (s := ⟨h1p, gs, dr, t, os⟩) (binds := binds ["self", "ws"] [.ref (hp.objs.size + 1), .str x tx]) ?_ (X1 _ _ ho) rfl hlim (codeRec_of X1 hcd) rfl (BindsTo.of_eq (hbind _ _)) hcell (fun y hy => ?_) (fun h₀ hn hkeep => ?_) hco hgen hk
  · have := R.2.1
    show A.depth + 1 < 1000
    (first | lia | omega)
  · obtain ⟨p, hp, e⟩ := List.mem_map.mp (List.of_mem_zip (a := y.1) (b := y.2) hy).1
    rw [← e]; exact hloc p hp
  · have kk0 : ∀ b o, hp.get? b = some o → h₀.get? b = some o := fun b o e => hkeep b o (k1 b o e)
    obtain ⟨oL, esL, nL, hoL, hdL⟩ := nsObj hn
    have hL : (⟨h1p, gs, dr, t, os⟩ : Shared).heap.objs.size = hp.objs.size + 2 := sz
    rw [hL] at hn hoL ⊢
    clear hL
    have I : Inv g (envD sc (hp.objs.size + 2) f q cd) [("self", .obj (hp.objs.size + 1, [])), ("ws", .val (.str x))] (fun b => W b ∨ b = hp.objs.size + 2 ∨ b = hp.objs.size) (fun b => b = hp.objs.size + 2 ∨ b = hp.objs.size) h₀ := by
      refine ⟨⟨fun b o e => ⟨kk0 b o (B.keep0 b o e).1, fun q => ?_⟩, fun b e q => ?_⟩, hk, rfl, rfl, fun b q => .inr q, .inl rfl, fun x c e1 e2 => ?_, fun x y c e1 e2 => ?_, _, fun y => if y = "self" then .ref (hp.objs.size + 1) else .str x tx, hn, fun y lv e => ?_, fun y z ty tz e1 e2 _ => ?_, fun y z a b e1 e2 => ?_⟩
      · have hb := hne b o (B.keep0 b o e).1
        rcases q with q | q | q
        · exact (B.keep0 b o e).2 q
        · rw [q] at hb; exact absurd hb (Nat.not_lt.mpr (Nat.le_add_right _ _))
        · rw [q] at hb; exact absurd hb (Nat.lt_irrefl _)
      · rcases q with q | q | q
        · refine B.live b ?_ q
          cases q2 : hp.get? b with
          | none => rfl
          | some o => rw [kk0 b o q2] at e; cases e
        · subst q; rw [hoL] at e; cases e
        · subst q; rw [hkeep _ _ hdx] at e; cases e
      · cases e2
      · cases e1
      · simp only [Loc.get] at e
        by_cases hy : "self" = y
        · subst hy
          simp only [if_true] at e
          cases e
          refine ⟨.inl ⟨hloc _ (.head _), rfl⟩, _, _, [], 0, ⟨rfl, rfl⟩, ?_, hkeep _ _ hx, .inr rfl, ?_, hkeep _ _ hdx, (fun _ h => nomatch h), Nat.zero_le _, fun nm => rfl⟩
          · rintro (q | q | q)
            · exact notW _ (Nat.le_succ _) q
            · exact absurd q (by simp)
            · exact absurd q (by simp)
          · show hp.objs.size ≠ hp.objs.size + 2
            simp
        · rw [if_neg hy] at e
          by_cases hy2 : "ws" = y
          · subst hy2
            simp only [if_true] at e
            cases e
            refine ⟨.inl ⟨hloc _ (.tail _ (.head _)), rfl⟩, ?_⟩
            simp only [LVRep, Rep]
            exact ⟨tx, rfl⟩
          · rw [if_neg hy2] at e; cases e
      · simp only [Loc.get] at e1
        split at e1
        · cases e1
        · split at e1 <;> cases e1
      · simp only [Loc.get] at e1 e2
        split at e1
        · split at e2
          · rename_i q1 q2; rw [← q1, ← q2]
          · split at e2 <;> cases e2
        · split at e1 <;> cases e1
    have R1 : Room (A.under (.builtin "type.__call__" ⟨.ref g.C :: [.str x tx], []⟩)) (d + 1) := ⟨R.1, by have := R.2.1; show A.depth + 1 + (d + 1) ≤ 900; (first | lia | omega), by have := R.2.2; show A.units + 1 + 20 * (d + 1) ≤ 9000; (first | lia | omega)⟩
    refine (h _ _).to _ _ _ _ R1.deeper I (fun fl s' W' M' loc' fl' I' st hf hq => ?_)
    obtain ⟨rfl, hself⟩ := hq
    simp only [FlRep] at hf
    subst hf
    have Wk : ∀ b, W b → W' b := fun b hw => st.Wkeep b (.inl hw) fun q => by
      rcases q with q | q
      · rw [q] at hw; exact notW _ (Nat.le_add_right _ _) hw
      · rw [q] at hw; exact notW _ (Nat.le_refl _) hw
    obtain ⟨m, val, hn', hv, _⟩ := I'.ex
    obtain ⟨hat, z, dx, es, c, ⟨ez, ez'⟩, hwz, hz, hMd, hned, hdd, hkeys, hlen, hattr⟩ := hv _ _ hself
    have ez2 : z = hp.objs.size + 1 := ez'
    subst ez2
    have back : ∀ (t : T) (v : Value), Rep g.C s'.heap W' t v → Rep g.C s'.heap W t v := fun t v r => Rep.mono (fun b o e hw => ⟨e, fun q => hw (Wk b q)⟩) _ _ r
    have get : ∀ (nm : String) (t : T), getA at' nm = some t → ∃ v, lookIn (Str.ofString nm) (dictOf es c) = some (some v) ∧ Rep g.C s'.heap W t v := fun nm t e => by
      have := hattr nm
      rw [show getA (hp.objs.size + 1, at').2 nm = some t from e] at this
      obtain ⟨v, e1, e2⟩ := this
      exact ⟨v, e1, back _ _ e2⟩
    have getN : ∀ (nm : String), getA at' nm = none → lookIn (Str.ofString nm) (dictOf es c) = some none := fun nm e => by
      have := hattr nm
      rw [show getA (hp.objs.size + 1, at').2 nm = none from e] at this
      exact this
    obtain ⟨v1, l1, r1⟩ := get _ _ h1
    obtain ⟨v2, l2, r2⟩ := get _ _ h2
    obtain ⟨v3, l3, r3⟩ := get _ _ h3
    obtain ⟨v4, l4, r4⟩ := get _ _ h4
    obtain ⟨v5, l5, r5⟩ := get _ _ h5
    simp only [Rep] at r1 r2 r3 r5
    obtain ⟨t1, rfl⟩ := r1
    obtain ⟨t2, rfl⟩ := r2
    obtain ⟨t3, rfl⟩ := r3
    subst r5
    have hK : Keeps (⟨hp, gs, dr, t, os⟩ : Shared) s' := by
      obtain ⟨h1', t1', e⟩ := st.rest
      refine ⟨h1', t1', e, fun b o eb => ?_⟩
      have hb := hne b o eb
      have := st.keep b o (kk0 b o eb) (fun q => by
        rcases q with q | q
        · rw [q] at hb; exact absurd hb (Nat.not_lt.mpr (Nat.le_add_right _ _))
        · rw [q] at hb; exact absurd hb (Nat.lt_irrefl _))
      rw [e] at this; exact this
    refine ⟨rfl, _, rfl, ?_, hK⟩
    simp only [Rep]
    refine ⟨_, dx, dictOf es c, t1, t2, t3, v4, rfl, notW _ (Nat.le_succ _), hz, fun q => ?_, hdd, l1, l2, l3, l4, l5, getN _ h6, getN _ h7, getN _ h8, r4⟩
    obtain ⟨o, ho'⟩ : ∃ o, hp.get? dx = some o := by
      cases q2 : hp.get? dx with
      | none => exact absurd q (B.live dx q2)
      | some o => exact ⟨o, rfl⟩
    have hb := hne _ _ ho'
    rcases st.Mnew dx hMd with (q2 | q2) | q2
    · rw [q2] at hb; exact absurd hb (Nat.not_lt.mpr (Nat.le_add_right _ _))
    · rw [q2] at hb; exact absurd hb (Nat.lt_irrefl _)
    · have : h₀.get? dx = none := q2
      rw [kk0 _ _ ho'] at this; cases this
end
end Mine

open PySem PySem.W PySem.Calls PyProof.Rows
set_option linter.unusedVariables false
set_option maxRecDepth 100000
namespace Mine

/-- a comprehension's frame -/
noncomputable def cenvOf (scope : Scope) (cl : List (Str × Addr)) (C : Addr) (env : Env) : Env :=
  { scope := relabel scope env, locals := C, globals := env.globals, cells := cellsFrom (C + 1) scope.names cl, qual := env.qual, func := none, code := env.code, frame := env.frame, builtins := env.builtins }

theorem cellsFrom_acc : ∀ (names : List (Str × NameKind)) (n : Nat) (acc : List (Str × Addr)), cellsFrom n names acc = cellsFrom n names [] ++ acc
  | [], _, _ => rfl
  | (nm, k) :: r, n, acc => by
    unfold cellsFrom
    split
    · rw [cellsFrom_acc r (n + 1) ((nm, n) :: acc), cellsFrom_acc r (n + 1) [(nm, n)], List.append_assoc]; rfl
    · exact cellsFrom_acc r n acc
theorem cellsFrom_le : ∀ (names : List (Str × NameKind)) (n : Nat) (acc : List (Str × Addr)) (x : Str × Addr), x ∈ cellsFrom n names acc → x ∈ acc ∨ n ≤ x.2
  | [], _, _, _, h => .inl h
  | (nm, k) :: r, n, acc, x, h => by
    unfold cellsFrom at h
    split at h
    · rcases cellsFrom_le r _ _ _ h with q | q
      · rcases List.mem_cons.mp q with q | q
        · subst q; exact .inr (Nat.le_refl _)
        · exact .inl q
      · exact .inr (Nat.le_of_succ_le q)
    · exact cellsFrom_le r _ _ _ h

inductive Sees (env cenv : Env) (loc : Loc) : Loc → Prop
  | nil : Sees env cenv loc []
  | cons {y : String} {t : T} {r : Loc} (h1 : Loc.get loc y = some (.val t)) (h2 : env.kindOf (Str.ofString y) = some .cell) (h3 : cenv.kindOf (Str.ofString y) = some .cell)
    (h4 : cenv.cells.lookup (Str.ofString y) = env.cells.lookup (Str.ofString y)) (hr : Sees env cenv loc r) : Sees env cenv loc ((y, .val t) :: r)
theorem Sees.at {env cenv : Env} {loc cloc : Loc} (S : Sees env cenv loc cloc) {y : String} {lv : LV} (e : Loc.get cloc y = some lv) :
    ∃ t, lv = .val t ∧ Loc.get loc y = some (.val t) ∧ env.kindOf (Str.ofString y) = some .cell ∧ cenv.kindOf (Str.ofString y) = some .cell ∧ cenv.cells.lookup (Str.ofString y) = env.cells.lookup (Str.ofString y) := by
  induction S with
  | nil => cases e
  | cons h1 h2 h3 h4 hr ih =>
    simp only [Loc.get] at e
    split at e
    · rename_i q; subst q; cases e; exact ⟨_, rfl, h1, h2, h3, h4⟩
    · exact ih e

noncomputable def Own (names : List (Str × NameKind)) (C : Addr) (b : Addr) : Prop := b = C ∨ ∃ n, (n, b) ∈ cellsFrom (C + 1) names []
theorem own_le {names : List (Str × NameKind)} {C b : Addr} (h : Own names C b) : C ≤ b := by
  rcases h with h | ⟨n, h⟩
  · exact Nat.le_of_eq h.symm
  · rcases cellsFrom_le _ _ _ _ h with q | q
    · cases q
    · exact Nat.le_of_succ_le q

section
variable {g : GC} {d : Nat} {env : Env} {loc : Loc} {W M : Addr → Prop}

theorem isNone {h : Heap} {a : Addr} (q : h.objs.size ≤ a) : h.get? a = none := by
  cases e : h.get? a with
  | none => rfl
  | some o => exact absurd (Heap.lt_size e) (Nat.not_lt.mpr q)

theorem comp_open {A : Around} {s : Shared} {scope : Scope} {cl : List (Str × Addr)} {cloc : Loc} {e : Expr} {it : Value} {E : Value → Shared → Prop} {PP : Value → Addr → Result → Shared → Prop} (I : Inv g env loc W M s.heap)
    (hcl : ∀ x c, (x, c) ∈ cl → env.kindOf x = some .cell ∧ env.cells.lookup x = some c) (hclS : ∀ x c, (x, c) ∈ cl → ∃ y, x = Str.ofString y) (hkind : scope.kind = .function) (hsee : ∀ C, Sees env (cenvOf scope cl C env) loc cloc)
    (h : ∀ s₄ : Shared, (∃ h tk, s₄ = { s with heap := h, toks := tk }) → (∀ b o, s.heap.get? b = some o → s₄.heap.get? b = some o) → IsL s₄.heap s.heap.objs.size #[] 0 →
      Inv g (cenvOf scope cl (s.heap.objs.size + 1) env) cloc (fun b => W b ∨ b = s.heap.objs.size ∨ Own scope.names (s.heap.objs.size + 1) b) (fun b => M b ∨ Own scope.names (s.heap.objs.size + 1) b) s₄.heap →
      codeAny g.M A (.compStart e 0 it (.ref s.heap.objs.size) (cenvOf scope cl (s.heap.objs.size + 1) env)) (PP (.ref s.heap.objs.size) (s.heap.objs.size + 1)) s₄) :
    wpAny g.M A (newList []) (fun acc s₃ => wpAny g.M A (newFunctionEnv scope env.globals cl [] env.qual none .none (some env)) (fun cenv s₄ =>
        codeAny g.M A (.compStart e 0 it acc { cenv with scope := relabel scope env }) (PP acc cenv.locals) s₄) E s₃) E s := by
  refine wpAny_newObj_type (hd := by size_fits) ?_
  simp only [newFunctionEnv, Option.isSome_some, if_true]
  generalize hH1 : s.heap.push { cls := .type "list", dict := none, data := .seq ([] : List Value).toArray } = H1
  have s1 : H1.objs.size = s.heap.objs.size + 1 := by rw [← hH1, Heap.size_push]
  have k1 : ∀ b o, s.heap.get? b = some o → H1.get? b = some o := fun b o e => hH1 ▸ Heap.get?_push_of_some _ e
  have hD : H1.get? s.heap.objs.size = some _ := hH1 ▸ Heap.get?_push_size _ rfl
  refine wpAny_bind (wpAny_alloc ?_)
  refine wpAny_bind (wpAny_layCells _ (fun name kind cells => by cases hkc : kind == NameKind.cell <;> simp [hkc]) _ _ _ _ ?_)
  dsimp only
  generalize hH2 : H1.push { cls := .type "dict", data := .dict #[] } = H2
  have s2 : H2.objs.size = s.heap.objs.size + 2 := by rw [← hH2, Heap.size_push, s1]
  have k2 : ∀ b o, H1.get? b = some o → H2.get? b = some o := fun b o e => hH2 ▸ Heap.get?_push_of_some _ e
  have hC : H2.Ns (s.heap.objs.size + 1) (fun _ => none) := by rw [← hH2, ← s1]; exact Heap.Ns.new H1 (.type "dict")
  have k3 := pushCells_keeps scope.names H2
  have ok := cellsFrom_ok scope.names H2 (s.heap.objs.size + 2) [] ⟨fun _ _ hm => (nomatch hm), List.Pairwise.nil⟩ (Nat.le_of_eq s2.symm)
  rw [s2] at ok ⊢
  refine wpAny_bind ?_
  rw [List.forIn_nil]
  refine wpAny_pure (wpAny_pure ?_)
  rw [s1]
  have K : ∀ b o, s.heap.get? b = some o → (pushCells H2 scope.names).get? b = some o := fun b o e => k3 b o (k2 b o (k1 b o e))
  have hnew : ∀ b, s.heap.objs.size ≤ b → s.heap.get? b = none := fun b q => isNone q
  have hCL : ∀ (x : Str) (c : Addr), (x, c) ∈ cl → (∃ v₀, s.heap.IsCell c v₀) ∧ M c ∧ c < s.heap.objs.size := fun x c hm => by
    obtain ⟨y, rfl⟩ := hclS x c hm
    obtain ⟨e1, e2⟩ := hcl _ _ hm
    obtain ⟨⟨v₀, hv⟩, hM⟩ := I.cells y c e1 e2
    exact ⟨⟨v₀, hv⟩, hM, hv.lt⟩
  have hspl : ∀ (x : Str) (c : Addr), (cenvOf scope cl (s.heap.objs.size + 1) env).cells.lookup x = some c → (x, c) ∈ cellsFrom (s.heap.objs.size + 1 + 1) scope.names [] ∨ (x, c) ∈ cl := fun x c e => by
    have e' : (cellsFrom (s.heap.objs.size + 1 + 1) scope.names cl).lookup x = some c := e
    rw [cellsFrom_acc] at e'
    exact List.mem_append.mp (mem_of_lookup e')
  obtain ⟨m, val, hn, hv, huq, hob⟩ := I.ex
  obtain ⟨oC, esC, nC, hoC, hdC⟩ := nsObj hC
  refine h _ ⟨_, _, rfl⟩ K (k3 _ _ (k2 _ _ hD)) ⟨⟨fun b o e => ⟨K b o (I.base.keep0 b o e).1, fun q => ?_⟩, fun b e q => ?_⟩, hkind, I.glob, I.blt, fun b q => q.imp (I.MW b) .inr, .inr (.inl rfl), fun x c e1 e2 => ?_, fun x y c e1 e2 => ?_,
    fun _ => none, val, hC.keeps k3, fun x lv e => ?_, fun x y tx ty e1 e2 _ => ?_, fun x y a b e1 e2 => ?_⟩
  · have hb := I.base.keep0 b o e
    have hlt := Heap.lt_size hb.1
    rcases q with q | q | q
    · exact hb.2 q
    · exact absurd q (Nat.ne_of_lt hlt)
    · exact absurd (own_le q) (Nat.not_le.mpr (Nat.lt_succ_of_lt hlt))
  · rcases q with q | q | q
    · refine I.base.live b ?_ q
      cases q2 : s.heap.get? b with
      | none => rfl
      | some o => rw [K b o q2] at e; cases e
    · subst q; rw [k3 _ _ (k2 _ _ hD)] at e; cases e
    · rcases q with q | ⟨n, q⟩
      · subst q; rw [k3 _ _ hoC] at e; cases e
      · obtain ⟨⟨o, ho, _⟩, _⟩ := ok.empty n b q
        rw [ho] at e; cases e
  · rcases hspl _ _ e2 with q | q
    · exact ⟨⟨none, (ok.empty _ _ q).1⟩, .inr (.inr ⟨_, q⟩)⟩
    · obtain ⟨⟨v₀, o, ho, hd⟩, hM, _⟩ := hCL _ _ q
      exact ⟨⟨v₀, o, K _ _ ho, hd⟩, .inl hM⟩
  · rcases hspl _ _ e1 with q1 | q1 <;> rcases hspl _ _ e2 with q2 | q2
    · exact ofString_inj (name_of_addr ok.apart q1 q2)
    · have a1 := (ok.empty _ _ q1).2; have a2 := (hCL _ _ q2).2.2; exact absurd a1 (Nat.not_le.mpr (Nat.lt_succ_of_lt (Nat.lt_succ_of_lt a2)))
    · have a1 := (ok.empty _ _ q2).2; have a2 := (hCL _ _ q1).2.2; exact absurd a1 (Nat.not_le.mpr (Nat.lt_succ_of_lt (Nat.lt_succ_of_lt a2)))
    · exact I.inj x y c (hcl _ _ q1).2 (hcl _ _ q2).2
  · obtain ⟨t, rfl, e1, e2, e3, e4⟩ := (hsee _).at e
    obtain ⟨ha, hr⟩ := hv x _ e1
    refine ⟨?_, ?_⟩
    · rcases ha with ⟨q, _⟩ | ⟨_, c, hc, o, ho, hd⟩
      · rw [e2] at q; cases q
      · exact .inr ⟨e3, c, e4.trans hc, o, K _ _ ho, hd⟩
    · exact Rep.mono (fun b o e hw => ⟨K b o e, fun q => by
        have hlt := Heap.lt_size e
        rcases q with q | q | q
        · exact hw q
        · exact absurd q (Nat.ne_of_lt hlt)
        · exact absurd (own_le q) (Nat.not_le.mpr (Nat.lt_succ_of_lt hlt))⟩) _ _ hr
  · obtain ⟨t, h, _⟩ := (hsee (s.heap.objs.size + 1)).at e1; cases h
  · obtain ⟨t, h, _⟩ := (hsee (s.heap.objs.size + 1)).at e1; cases h
end
end Mine

open PySem PySem.W PySem.Calls PyProof.Rows
set_option linter.unusedVariables false
set_option maxRecDepth 100000
namespace Mine

section
variable {g : GC} {d : Nat} {env : Env} {loc : Loc} {W M : Addr → Prop}

theorem Inv.weaken {h : Heap} {loc' : Loc} (I : Inv g env loc W M h) (hl : ∀ y lv, Loc.get loc' y = some lv → Loc.get loc y = some lv) : Inv g env loc' W M h := by
  obtain ⟨m, val, hn, hv, hu, ho⟩ := I.ex
  exact ⟨I.base, I.kind, I.glob, I.blt, I.MW, I.ML, I.cells, I.inj, m, val, hn, fun x lv e => hv x lv (hl x lv e), fun x y tx ty e1 e2 => hu x y tx ty (hl _ _ e1) (hl _ _ e2), fun x y a b e1 e2 => ho x y a b (hl _ _ e1) (hl _ _ e2)⟩

/-- a comprehension's loop: the state s', against s₂ at its start; I the iterator's addresses -/
structure CI (g : GC) (env : Env) (loc : Loc) (W M : Addr → Prop) (D : Addr) (wr : List Addr) (s₂ s' : Shared) (us : List T) : Prop where
  rest : ∃ h tk, s' = { s₂ with heap := h, toks := tk }
  keep : ∀ a o, s₂.heap.get? a = some o → a ∉ wr → s'.heap.get? a = some o
  inv : Inv g env loc W M s'.heap
  acc : ∃ ys n, IsL s'.heap D ys n ∧ RepL g.C s'.heap W us ys.toList
/-- only what came after s₂ is changed -/
noncomputable def Out (s₂ s s' : Shared) : Prop := ∀ b o, (s₂.heap.get? b).isSome → s.heap.get? b = some o → s'.heap.get? b = some o
theorem Out.trans {s₂ s s' s'' : Shared} (x : Out s₂ s s') (y : Out s₂ s' s'') : Out s₂ s s'' := fun b o q e => y b o q (x b o q e)
theorem Out.keeps {s₂ s s' : Shared} (k : Keeps s s') : Out s₂ s s' := fun b o _ e => kk k b o e

structure CF (W M : Addr → Prop) (D : Addr) (wr : List Addr) (s₂ : Shared) : Prop where
  WD : W D
  MD : ¬ M D
  nD : s₂.heap.get? D = none
  Ww : ∀ b ∈ wr, W b ∧ ¬ M b ∧ b ≠ D

variable {D : Addr} {wr : List Addr} {s₂ s' : Shared} {us : List T}

theorem CI.keeps {s'' : Shared} (x : CI g env loc W M D wr s₂ s' us) (k : Keeps s' s'') : CI g env loc W M D wr s₂ s'' us := by
  obtain ⟨ys, n, hl, hr⟩ := x.acc
  refine ⟨?_, fun a o e hm => kk k _ _ (x.keep a o e hm), x.inv.keeps k, ys, n, kk k _ _ hl, hr.keeps k⟩
  obtain ⟨h, tk, rfl⟩ := x.rest
  obtain ⟨h', t', rfl, _⟩ := k
  exact ⟨_, _, rfl⟩

theorem CI.store {A : Around} {x : String} {px : Pos} {t : T} {v : Value} {Q : Unit → Shared → Prop} {E : Value → Shared → Prop} (c : CI g env loc W M D wr s₂ s' us) (F : CF W M D wr s₂) (hst : Stores env x) (hv : Rep g.C s'.heap W t v)
    (hL : s₂.heap.get? env.locals = none) (hx : ∀ c, env.cells.lookup (Str.ofString x) = some c → s₂.heap.get? c = none)
    (h : ∀ s'', CI g env (loc.set x (.val t)) W M D wr s₂ s'' us → Out s₂ s' s'' → (∀ t v, Rep g.C s'.heap W t v → Rep g.C s''.heap W t v) → Q () s'') : wpAny g.M A (assign (.Name (Str.ofString x) px) env v) Q E s' :=
  PyProof.Rows.assign_Name (storeVT c.inv hst hv fun s'' I' st ⟨b, hs, hM, hb⟩ => by
    have hb2 : s₂.heap.get? b = none := by
      rcases hb with hb | hb
      · rw [hb]; exact hL
      · exact hx b hb
    have hbD : D ≠ b := fun q => F.MD (q ▸ hM)
    have hrep : ∀ t v, Rep g.C s'.heap W t v → Rep g.C s''.heap W t v := fun t v r => r.step st c.inv.MW
    obtain ⟨ys, n, hl, hr⟩ := c.acc
    refine h s'' ⟨?_, fun a o e hm => (hs.2 a fun q => ?_).trans (c.keep a o e hm), I', ys, n, (hs.2 D hbD).trans hl, RepL.mono (fun a o e hw => ⟨st.keep a o e fun q => hw (c.inv.MW a q), hw⟩) _ _ hr⟩ (fun a o q e => (hs.2 a fun q' => ?_).trans e) hrep
    · obtain ⟨h1, t1, e1⟩ := c.rest
      obtain ⟨h2, t2, e2⟩ := st.rest
      rw [e1] at e2; exact ⟨_, _, e2⟩
    · rw [q, hb2] at e; cases e
    · rw [q', hb2] at q; cases q)

theorem CI.weaken {loc' : Loc} (c : CI g env loc W M D wr s₂ s' us) (hl : ∀ y lv, Loc.get loc' y = some lv → Loc.get loc y = some lv) : CI g env loc' W M D wr s₂ s' us := ⟨c.rest, c.keep, c.inv.weaken hl, c.acc⟩

/-- a change of what is wild and not the frame's -/
theorem CI.touch {h' : Heap} {tk : Nat} (c : CI g env loc W M D wr s₂ s' us) (F : CF W M D wr s₂) (hk : ∀ b o, b ∉ wr → s'.heap.get? b = some o → h'.get? b = some o) (ha : ∀ b ∈ wr, (h'.get? b).isSome) :
    CI g env loc W M D wr s₂ { s' with heap := h', toks := tk } us := by
  have hD : D ∉ wr := fun q => (F.Ww D q).2.2 rfl
  obtain ⟨ys, n, hl, hr⟩ := c.acc
  refine ⟨?_, fun a o e hm => hk a o hm (c.keep a o e hm), c.inv.move (fun b o e hw => ⟨hk b o (fun q => hw (F.Ww b q).1) e, hw⟩) (fun b o e hm => ⟨hk b o (fun q => (F.Ww b q).2.1 hm) e, hm⟩) c.inv.MW fun b e => c.inv.base.live b ?_, ys, n, hk _ _ hD hl, RepL.mono (fun b o e hw => ⟨hk b o (fun q => hw (F.Ww b q).1) e, hw⟩) _ _ hr⟩
  · obtain ⟨h1, t1, rfl⟩ := c.rest; exact ⟨_, _, rfl⟩
  · have e' : h'.get? b = none := e
    cases q : s'.heap.get? b with
    | none => rfl
    | some o =>
      by_cases hb : b ∈ wr
      · have := ha b hb; rw [e'] at this; cases this
      · rw [hk b o hb q] at e'; cases e'

theorem CI.append {A : Around} {u : T} {v : Value} {Q : Value → Shared → Prop} {E : Value → Shared → Prop} (c : CI g env loc W M D wr s₂ s' us) (F : CF W M D wr s₂) (hv : Rep g.C s'.heap W u v) (hsz : us.length ≤ sizeLine)
    (h : ∀ w s'', CI g env loc W M D wr s₂ s'' (us ++ [u]) → Out s₂ s' s'' → Q w s'') : wpAny g.M A (call (.builtin "list.append") [.ref D, v]) Q E s' := by
  obtain ⟨ys, n, hl, hr⟩ := c.acc
  have hlen := size_of hr
  refine wpAny_list_append_plain (items := ys) ⟨n, hl⟩ (fun h' ⟨n', hl'⟩ hs => ?_) (by (first | lia | omega))
  have hne : ∀ a, ¬ W a → a ≠ D := fun a hw q => hw (q ▸ F.WD)
  have hrep : ∀ ts vs, RepL g.C s'.heap W ts vs → RepL g.C h' W ts vs := fun ts vs r => RepL.mono (fun b o e hw => ⟨(hs.2 b (hne b hw)).trans e, hw⟩) _ _ r
  refine h _ _ ⟨?_, fun a o e hm => (hs.2 a fun q => ?_).trans (c.keep a o e hm), c.inv.move (fun b o e hw => ⟨(hs.2 b (hne b hw)).trans e, hw⟩) (fun b o e hm => ⟨(hs.2 b fun q => F.MD (q ▸ hm)).trans e, hm⟩) c.inv.MW fun b e => c.inv.base.live b ?_, _, _, hl', ?_⟩ (fun b o q e => (hs.2 b fun q' => ?_).trans e)
  · obtain ⟨h1, t1, rfl⟩ := c.rest; exact ⟨_, _, rfl⟩
  · rw [q, F.nD] at e; cases e
  · by_cases q : b = D
    · have hl2 : h'.get? D = some _ := hl'
      have e2 : h'.get? b = none := e
      rw [q, hl2] at e2; cases e2
    · rw [← hs.2 b q]; exact e
  · rw [Array.toList_push]
    have := RepL.snoc hr hv
    exact hrep _ _ this
  · rw [q', F.nD] at q; cases q
end
end Mine

open PySem PySem.W PySem.Calls PyProof.Rows
set_option linter.unusedVariables false
set_option maxRecDepth 100000
namespace Mine

structure CompR (g : GC) (d : Nat) (env : Env) (loc : Loc) (e : Expr) (first : Sem Value) (scope : Scope) (ts : List T) : Prop where
  run : ∀ A s W M (pos : Pos) (use : Option (Value → Sem Unit)) (Q : Value → Shared → Prop), Room A d → Inv g env loc W M s.heap →
   (∀ s' D ys n C m, Keeps s s' → s.heap.get? D = none → s.heap.get? C = none → D ≠ C → IsL s'.heap D ys n → RepL g.C s'.heap (fun b => W b ∨ b = D ∨ b = C) ts ys.toList → s'.heap.Ns C m → compPost g.M A bot use Q (.ref D) C (.ok .next) s') →
   wpAny g.M A (comprehension e scope env pos (newList []) false first use) Q bot s

structure TestsOk (g : GC) (d : Nat) (env : Env) (loc : Loc) (ifs : List Expr) (b : Bool) : Prop where
  run : ∀ A s W M, Room A d → Inv g env loc W M s.heap →
    wpAny g.M A (forIn ifs true fun c r => if r = true then do let ok ← isTrue c env (eval c env); pure (ForInStep.yield ok) else pure (ForInStep.yield r)) (fun ok s' => ok = b ∧ Keeps s s') bot s

section
variable {g : GC} {d : Nat} {env : Env} {loc : Loc} {W M : Addr → Prop}

theorem TestsOk.to {ifs : List Expr} {b : Bool} {E : Value → Shared → Prop} (h : TestsOk g d env loc ifs b) (A s W M) (R : Room A d) (I : Inv g env loc W M s.heap) {Q : Bool → Shared → Prop} (k : ∀ c s', c = b → Keeps s s' → Q c s') :
    wpAny g.M A (forIn ifs true fun c r => if r = true then do let ok ← isTrue c env (eval c env); pure (ForInStep.yield ok) else pure (ForInStep.yield r)) Q E s :=
  wpAny_mono (h.run A s W M R I) (fun v s' x => k v s' x.1 x.2) fun _ _ h => h.elim
theorem tests_nil : TestsOk g d env loc [] true := .mk fun A s W M R I => wpAny_tests_nil ⟨rfl, kr⟩
theorem tests_one {c : Expr} {b : Bool} (h : EvB g d env loc c b) : TestsOk g d env loc [c] b := .mk fun A s W M R I => wpAny_tests_one (h.run A s W M R I)

/-- what a comprehension's scope and closure must be -/
structure Scoped (env : Env) (loc : Loc) (scope : Scope) (cl : List (Str × Addr)) (cloc : Loc) : Prop where
  clos : closureFor scope env = pure cl
  kind : scope.kind = .function
  names : ∀ x ∈ scope.names, x.2 = .local → scope.names.lookup x.1 = some .local
  cells : ∀ x c, (x, c) ∈ cl → env.kindOf x = some .cell ∧ env.cells.lookup x = some c
  str : ∀ x c, (x, c) ∈ cl → ∃ y, x = Str.ofString y
  sees : ∀ C, Sees env (cenvOf scope cl C env) loc cloc
structure Target (env : Env) (scope : Scope) (cl : List (Str × Addr)) (cloc : Loc) (x : String) : Prop where
  st : ∀ C, Stores (cenvOf scope cl C env) x
  own : ∀ C c, (cenvOf scope cl C env).cells.lookup (Str.ofString x) = some c → C ≤ c
  no : Loc.get cloc x = none

/-- the start of a comprehension's loop -/
theorem comp_begin {s₂ s₄ : Shared} {scope : Scope} {cl : List (Str × Addr)} {cloc : Loc} {wr : List Addr} (I₂ : Inv g env loc W M s₂.heap) (hwr : ∀ b ∈ wr, W b ∧ ¬ M b)
    (hrest : ∃ h tk, s₄ = { s₂ with heap := h, toks := tk }) (hkeep : ∀ b o, s₂.heap.get? b = some o → s₄.heap.get? b = some o) (hl : IsL s₄.heap s₂.heap.objs.size #[] 0)
    (I₄ : Inv g (cenvOf scope cl (s₂.heap.objs.size + 1) env) cloc (fun b => W b ∨ b = s₂.heap.objs.size ∨ Own scope.names (s₂.heap.objs.size + 1) b) (fun b => M b ∨ Own scope.names (s₂.heap.objs.size + 1) b) s₄.heap) (hal : ∀ b ∈ wr, (s₂.heap.get? b).isSome) :
    CF (fun b => W b ∨ b = s₂.heap.objs.size ∨ Own scope.names (s₂.heap.objs.size + 1) b) (fun b => M b ∨ Own scope.names (s₂.heap.objs.size + 1) b) s₂.heap.objs.size wr s₂ ∧
    CI g (cenvOf scope cl (s₂.heap.objs.size + 1) env) cloc (fun b => W b ∨ b = s₂.heap.objs.size ∨ Own scope.names (s₂.heap.objs.size + 1) b) (fun b => M b ∨ Own scope.names (s₂.heap.objs.size + 1) b) s₂.heap.objs.size wr s₂ s₄ [] := by
  have nD : s₂.heap.get? s₂.heap.objs.size = none := isNone (Nat.le_refl _)
  have hOD : ¬ Own scope.names (s₂.heap.objs.size + 1) s₂.heap.objs.size := fun q => absurd (own_le q) (Nat.not_le.mpr (Nat.lt_succ_self _))
  refine ⟨⟨.inr (.inl rfl), fun q => q.elim (fun q => I₂.base.live _ nD (I₂.MW _ q)) hOD, nD, fun b hb => ⟨.inl (hwr b hb).1, fun q => ?_, ?_⟩⟩, ⟨hrest, fun a o e _ => hkeep a o e, I₄, _, _, hl, .nil⟩⟩
  · rcases q with q | q
    · exact (hwr b hb).2 q
    · have h1 := own_le q
      have h2 := hal b hb
      rw [isNone (Nat.le_of_succ_le h1)] at h2
      cases h2
  · rintro rfl
    have := hal _ hb
    rw [nD] at this; cases this

theorem Rep.up {C : Addr} {s₂ s' : Shared} {W W' : Addr → Prop} {wr : List Addr} {t : T} {v : Value} (r : Rep C s₂.heap W t v) (hk : ∀ a o, s₂.heap.get? a = some o → a ∉ wr → s'.heap.get? a = some o) (hwr : ∀ b ∈ wr, W b)
    (hW : ∀ a, (s₂.heap.get? a).isSome → W' a → W a) : Rep C s'.heap W' t v :=
  Rep.mono (fun a o e hw => ⟨hk a o e fun q => hw (hwr a q), fun q => hw (hW a (by rw [e]; rfl) q)⟩) _ _ r
theorem W4_up {s₂ : Shared} {names : List (Str × NameKind)} : ∀ a, (s₂.heap.get? a).isSome → (W a ∨ a = s₂.heap.objs.size ∨ Own names (s₂.heap.objs.size + 1) a) → W a := fun a ha q => by
  rcases q with q | q | q
  · exact q
  · rw [q, isNone (Nat.le_refl _)] at ha; cases ha
  · rw [isNone (Nat.le_of_succ_le (own_le q))] at ha; cases ha

/-- the end of a comprehension's loop -/
theorem comp_end {A : Around} {s s₂ s' : Shared} {W' M' : Addr → Prop} {scope : Scope} {cl : List (Str × Addr)} {cloc : Loc} {wr : List Addr} {us : List T} {use : Option (Value → Sem Unit)} {Q : Value → Shared → Prop} {h' : Heap} {tk : Nat}
    (F : CF W' M' s₂.heap.objs.size wr s₂) (c : CI g (cenvOf scope cl (s₂.heap.objs.size + 1) env) cloc W' M' s₂.heap.objs.size wr s₂ s' us)
    (hW : ∀ b, W b → W' b) (hOwn : W' (s₂.heap.objs.size + 1)) (hCw : s₂.heap.objs.size + 1 ∉ wr) (k : Keeps s s₂) (hwr : ∀ b ∈ wr, s.heap.get? b = none) (hk : ∀ b o, b ∉ wr → s'.heap.get? b = some o → h'.get? b = some o)
    (hp : ∀ s' D ys n C m, Keeps s s' → s.heap.get? D = none → s.heap.get? C = none → D ≠ C → IsL s'.heap D ys n → RepL g.C s'.heap (fun b => W b ∨ b = D ∨ b = C) us ys.toList → s'.heap.Ns C m → compPost g.M A bot use Q (.ref D) C (.ok .next) s') :
    compPost g.M A bot use Q (.ref s₂.heap.objs.size) (s₂.heap.objs.size + 1) (.ok .next) { s' with heap := h', toks := tk } := by
  obtain ⟨ys, n, hl, hr⟩ := c.acc
  obtain ⟨m, val, hn, _⟩ := c.inv.ex
  have hnone : ∀ b, s₂.heap.objs.size ≤ b → s.heap.get? b = none := fun b hb => by
    cases q : s.heap.get? b with
    | none => rfl
    | some o => have := kk k b o q; rw [isNone hb] at this; cases this
  refine hp _ _ ys n _ m ?_ (hnone _ (Nat.le_refl _)) (hnone _ (Nat.le_succ _)) (Nat.ne_of_lt (Nat.lt_succ_self _)) (hk _ _ (fun q => (F.Ww _ q).2.2 rfl) hl) (RepL.mono (fun b o e hw => ⟨hk b o (fun q => hw (F.Ww b q).1) e, fun q => ?_⟩) _ _ hr) ?_
  · obtain ⟨h1, t1, rfl⟩ := c.rest
    have hkk := kk k
    obtain ⟨h0, t0, rfl, _⟩ := k
    exact ⟨h', tk, rfl, fun b o e => hk b o (fun q => by rw [hwr b q] at e; cases e) (c.keep b o (hkk b o e) fun q => by rw [hwr b q] at e; cases e)⟩
  · rcases q with q | q | q
    · exact hw (hW b q)
    · rw [q] at hw; exact hw F.WD
    · rw [q] at hw; exact hw hOwn
  · exact hn.at' fun o e => hk _ o hCw e

theorem comp_list {x : String} {px pos : Pos} {iter elt : Expr} {ifs : List Expr} {scope : Scope} {cl : List (Str × Addr)} {cloc : Loc} {items : List T} {p : T → Bool} {f : T → T} (h : It g d env loc iter items) (S : Scoped env loc scope cl cloc) (X : Target env scope cl cloc x)
    (htest : ∀ C t, t ∈ items → TestsOk g d (cenvOf scope cl C env) (cloc.set x (.val t)) ifs (p t)) (helt : ∀ C t, t ∈ items → p t = true → Ev g d (cenvOf scope cl C env) (cloc.set x (.val t)) elt (f t)) (hsz : items.length ≤ 100)
    (hs : ∀ x, foldedSetIterable iter env x = pure x := by intro _; rfl) :
    CompR g d env loc (.ListComp elt [⟨.Name (Str.ofString x) px, iter, ifs, 0⟩] scope pos) (firstIter [⟨.Name (Str.ofString x) px, iter, ifs, 0⟩] env) scope ((items.filter p).map f) := .mk fun A s W M pos' use Q R I hp => by
  refine wpAny_comprehension_free (g := ⟨.Name (Str.ofString x) px, iter, ifs, 0⟩) (gs := []) rfl hs S.clos S.kind S.names ?_
  refine h.to A R I fun s₂ Ia fp P St hW hst0 k hnew halive hfp hP => ?_
  have WK := hW A R.1
  have hM : ¬ M Ia := fun q => I.base.live Ia hnew (I.MW _ q)
  have hIs : (s₂.heap.get? Ia).isSome := halive 0 _ hst0
  have I₂ : Inv g env loc (fun b => W b ∨ b = Ia) M s₂.heap := I.wide k (fun b q => q ▸ hnew) fun b q => q ▸ hIs
  refine comp_open (PP := compPost g.M A bot use Q) I₂ S.cells S.str S.kind S.sees fun s₄ hrest hkeep hlD I₄ => ?_
  have hal : ∀ b ∈ [Ia], (s₂.heap.get? b).isSome := fun b hb => by rw [List.mem_singleton.mp hb]; exact hIs
  have hwW : ∀ b ∈ [Ia], (W b ∨ b = Ia) := fun b hb => .inr (List.mem_singleton.mp hb)
  obtain ⟨F, c₀⟩ := comp_begin (wr := [Ia]) I₂ (fun b hb => ⟨hwW b hb, by rw [List.mem_singleton.mp hb]; exact hM⟩) hrest hkeep hlD I₄ hal
  have hfp2 : ∀ b ∈ fp, (s₂.heap.get? b).isSome := fun b hb => by
    by_cases q : b = Ia
    · rw [q]; exact hIs
    · exact (hfp b hb q).1
  have hst4 : St 0 s₄.heap := WK.frame _ _ _ hst0 fun b _ o e => hkeep b o e
  have hnL : s₂.heap.get? (s₂.heap.objs.size + 1) = none := isNone (Nat.le_succ _)
  have hnx : ∀ c, (cenvOf scope cl (s₂.heap.objs.size + 1) env).cells.lookup (Str.ofString x) = some c → s₂.heap.get? c = none := fun c hc => isNone (Nat.le_of_succ_le (X.own _ c hc))
  have hCw : s₂.heap.objs.size + 1 ∉ [Ia] := fun q => by rw [← List.mem_singleton.mp q, hnL] at hIs; cases hIs
  have loop : codeAny g.M A (.compLoop (.ListComp elt [⟨.Name (Str.ofString x) px, iter, ifs, 0⟩] scope pos) 0 (.ref Ia) (.ref s₂.heap.objs.size) (cenvOf scope cl (s₂.heap.objs.size + 1) env)) (compPost g.M A bot use Q (.ref s₂.heap.objs.size) (s₂.heap.objs.size + 1)) s₄ := by
    refine codeAny_compLoop_tests (fun c s' => ∃ i, c = items.length - i ∧ i ≤ items.length ∧ St i s'.heap ∧ CI g (cenvOf scope cl (s₂.heap.objs.size + 1) env) cloc _ _ s₂.heap.objs.size [Ia] s₂ s' (((items.take i).filter p).map f)) ?_ (items.length - 0) ⟨0, rfl, Nat.zero_le _, hst4, c₀⟩
    rintro c s' ⟨i, rfl, hi, hsti, ci⟩
    by_cases hlt : i < items.length
    · refine WK.item i s' _ _ hlt hsti fun v h' tk hPi hst1 hk => ?_
      obtain ⟨t, ht⟩ : ∃ t, items[i]? = some t := ⟨items[i], by simp [hlt]⟩
      have hmem : t ∈ items := List.mem_of_getElem? ht
      have c₁ := ci.touch (tk := tk) F hk (fun b hb => by rw [List.mem_singleton.mp hb]; exact halive _ _ hst1)
      have hv := (hP i v t hPi ht).up (s' := { s' with heap := h', toks := tk }) c₁.keep hwW (W4_up (names := scope.names))
      have htake : items.take (i + 1) = items.take i ++ [t] := by rw [List.take_add_one, ht]; rfl
      refine c₁.store F (X.st _) hv hnL hnx fun s₃ c₃ o₃ _ => ?_
      have hback : ∀ y lv, Loc.get cloc y = some lv → Loc.get (cloc.set x (.val t)) y = some lv := fun y lv e => by
        rw [Loc.get_set, if_neg]
        · exact e
        · rintro rfl; rw [X.no] at e; cases e
      refine (htest _ t hmem).to A s₃ _ _ R c₃.inv (fun ok s₅ e k₅ => ?_)
      subst e
      have c₅ := c₃.keeps k₅
      have o₅ := o₃.trans (.keeps k₅)
      cases hpt : p t with
      | false =>
        simp only [Bool.false_eq_true, if_false]
        refine ⟨items.length - (i + 1), Nat.sub_lt_sub_left hlt (Nat.lt_succ_self i), i + 1, rfl, hlt, WK.frame _ _ _ hst1 fun b hb o e => o₅ b o (hfp2 b hb) e, ?_⟩
        rw [htake, List.filter_append, show List.filter p [t] = [] by simp [hpt], List.append_nil]
        exact c₅.weaken hback
      | true =>
        simp only [if_true]
        refine (helt _ t hmem hpt).to A s₅ _ _ R c₅.inv (fun u s₆ r₆ k₆ => ?_)
        refine (c₅.keeps k₆).append F r₆ ?_ fun w s₇ c₇ o₇ => ?_
        · have h1 : ((items.take i).filter p).length ≤ (items.take i).length := List.length_filter_le _ _
          rw [List.length_map]
          have h2 : (items.take i).length ≤ items.length := List.length_take_le' ..
          have : 100 ≤ sizeLine := by decide
          (first | lia | omega)
        · refine ⟨items.length - (i + 1), Nat.sub_lt_sub_left hlt (Nat.lt_succ_self i), i + 1, rfl, hlt, WK.frame _ _ _ hst1 fun b hb o e => (o₅.trans (.keeps k₆)).trans o₇ b o (hfp2 b hb) e, ?_⟩
          rw [htake, List.filter_append, show List.filter p [t] = [t] from List.filter_cons_of_pos hpt, List.map_append]
          exact c₇.weaken hback
    · have hin : i = items.length := Nat.le_antisymm hi (Nat.le_of_not_lt hlt)
      subst hin
      rw [List.take_length] at ci
      refine WK.done s' _ _ hsti fun h' tk hk => ?_
      exact comp_end F ci (fun b hb => .inl (.inl hb)) (.inr (.inr (.inl rfl))) hCw k (fun b hb => by rw [List.mem_singleton.mp hb]; exact hnew) hk hp
  exact codeAny_compStart_list loop (WK.self 0 _ _ _ hst4 loop)

/-- a comprehension as a value: a fresh list -/
theorem evF_comp {elt : Expr} {c : Comprehension} {gens : List Comprehension} {scope : Scope} {pos : Pos} {ts : List T} (h : CompR g d env loc (.ListComp elt (c :: gens) scope pos) (firstIter (c :: gens) env) scope ts) (ha : firstAsync (c :: gens) = false := by rfl) :
    EvF g d env loc (.ListComp elt (c :: gens) scope pos) ts := .mk fun A s W M R I => by
  show wpAny g.M A (comprehension _ scope env (firstIterPos (c :: gens) pos) (newList []) (firstAsync (c :: gens)) (firstIter (c :: gens) env)) _ _ s
  rw [ha]
  refine h.run A s W M _ none _ R I fun s' D ys n C m k hD hC hne hl hr hn => ?_
  refine ⟨m, hn, fun h' hs => ⟨D, ys, n, rfl, hD, (hs.2 D hne).trans hl, RepL.mono (fun b o e hw => ⟨(hs.2 b fun q => hw (.inr (.inr q))).trans e, fun q => hw (q.imp id .inl)⟩) _ _ hr, ?_⟩⟩
  have hkk := kk k
  obtain ⟨h0, t0, rfl, _⟩ := k
  exact ⟨_, _, rfl, fun b o e => (hs.2 b fun q => by rw [q, hC] at e; cases e).trans (hkk b o e)⟩
end
end Mine

open PySem PySem.W PySem.Calls PyProof.Rows
set_option linter.unusedVariables false
set_option maxRecDepth 100000
namespace Mine

section
variable {g : GC} {d : Nat} {env : Env} {loc : Loc} {W M : Addr → Prop} {Q : Fl → Loc → Prop}

/-- a name is given a comprehension's list (stores exchanged) -/
theorem x_assignC {x : String} {px pos cpos : Pos} {elt : Expr} {c : Comprehension} {gens : List Comprehension} {scope : Scope} {ts : List T} (h : CompR g d env loc (.ListComp elt (c :: gens) scope cpos) (firstIter (c :: gens) env) scope ts) (hst : Stores env x)
    (hq : Q .next (loc.set x (.val (.list ts)))) (hs : swapsWith (.ListComp elt (c :: gens) scope cpos) (some (.Name (Str.ofString x) px)) pos.line env = pure true := by rfl) (ha : firstAsync (c :: gens) = false := by rfl) :
    Ex1 g d env loc (.Assign [.Name (Str.ofString x) px] (.ListComp elt (c :: gens) scope cpos) pos) Q := .mk fun A s W M R I => by
  rw [exec_Assign_Name_used _ _ _ _ hs]
  refine wpAny_bind (wpAny_standAt (wpAny_bind ?_))
  show wpAny g.M A (comprehension _ scope env (firstIterPos (c :: gens) cpos) (newList []) (firstAsync (c :: gens)) (firstIter (c :: gens) env) (some (assign (.Name (Str.ofString x) px) env)) >>= fun _ => pure ()) _ _ s
  rw [ha]
  refine wpAny_bind (h.run A s W M _ _ _ R I fun s' D ys n C m k hD hC hne hl hr hn => ?_)
  obtain ⟨oC, esC, nC, hoC, hdC⟩ := nsObj hn
  have hMC : ¬ M C := fun q => I.base.live C hC (I.MW C q)
  have hWC : ¬ W C := I.base.live C hC
  have I' : Inv g env loc (fun b => W b ∨ b = C) M s'.heap := I.wide k (fun b q => q ▸ hC) fun b q => by rw [q, hoC]; rfl
  have hv : Rep g.C s'.heap (fun b => W b ∨ b = C) (.list ts) (.ref D) := by
    simp only [Rep]
    exact ⟨D, ys, n, rfl, fun q => q.elim (I.base.live D hD) hne, hl, RepL.mono (fun b o e hw => ⟨e, fun q => hw (q.imp id .inr)⟩) _ _ hr⟩
  refine assignV (px := px) I' hst hv fun s'' I'' st => ⟨m, hn.at' fun o e => st.keep C o e hMC, fun h' hs' => ?_⟩
  refine wpAny_pure (wpAny_pure ⟨W, M, _, .next, I''.move (fun b o e hw => ⟨(hs'.2 b fun q => hw (.inr q)).trans e, fun q => hw (.inl q)⟩) (fun b o e hm => ⟨(hs'.2 b fun q => hMC (q ▸ hm)).trans e, hm⟩) I.MW fun b e q => ?_, ⟨?_, fun b o e hm => ?_, fun b e => ?_, fun _ q => .inl q, fun _ q _ => q, fun _ q => .inl q⟩, rfl, hq⟩)
  · have hb : b ≠ C := fun q' => hWC (q' ▸ q)
    rw [hs'.2 b hb] at e
    exact I''.base.live b e (.inl q)
  · obtain ⟨h1, t1, e1⟩ := st.rest
    obtain ⟨h0, t0, rfl, _⟩ := k
    rw [e1]; exact ⟨_, _, rfl⟩
  · have hb : b ≠ C := fun q' => by rw [q', hC] at e; cases e
    exact (hs'.2 b hb).trans (st.keep b o (kk k b o e) hm)
  · by_cases hb : b = C
    · rw [hb]; exact hC
    · have e' : h'.get? b = none := e
      rw [hs'.2 b hb] at e'
      have := st.live b e'
      cases q : s.heap.get? b with
      | none => rfl
      | some o => rw [kk k b o q] at this; cases this

theorem all4 {P : Addr → Prop} {a b c d : Addr} (h1 : P a) (h2 : P b) (h3 : P c) (h4 : P d) : ∀ x ∈ [a, b, c, d], P x :=
  List.forall_mem_cons.2 ⟨h1, List.forall_mem_cons.2 ⟨h2, List.forall_mem_cons.2 ⟨h3, List.forall_mem_cons.2 ⟨h4, fun _ h => absurd h List.not_mem_nil⟩⟩⟩⟩
theorem someLive {h : Heap} {a : Addr} {o : Obj} (e : h.get? a = some o) : (h.get? a).isSome := by rw [e]; rfl
theorem all7 {P : Addr → Prop} {a b c d e f g : Addr} (h1 : P a) (h2 : P b) (h3 : P c) (h4 : P d) (h5 : P e) (h6 : P f) (h7 : P g) : ∀ x ∈ [a, b, c, d, e, f, g], P x :=
  List.forall_mem_cons.2 ⟨h1, List.forall_mem_cons.2 ⟨h2, List.forall_mem_cons.2 ⟨h3, all4 h4 h5 h6 h7⟩⟩⟩
theorem zipLive {h : Heap} {z TI TO i1 i2 l1 l2 : Addr} {f0 : Value} {i j : Nat} (a1 : IsZip h z TI TO f0) (a2 : ∃ a b, IsPair h TO a b) (a3 : h.IsListIter i1 l1 i) (a4 : h.IsListIter i2 l2 j) : ∀ b ∈ [z, TO, i1, i2], (h.get? b).isSome :=
  all4 (someLive a1) (a2.elim fun _ q => q.elim fun _ q => someLive q) (a3.elim fun _ q => someLive q.1) (a4.elim fun _ q => someLive q.1)

theorem zip_loop {x y : String} {px py tp pos : Pos} {iter elt : Expr} {zk : Nat} {scope : Scope} {cl : List (Str × Addr)} {cloc : Loc} {us : List T} {E : T → T → T → Prop} {z : Addr} {fp wr : List Addr} {n : Nat} {Pt : Nat → Array Value → Prop} {St : Nat → Heap → Prop} {Mid : Nat → Addr → Heap → Prop}
    {A : Around} {s s₂ : Shared} {use : Option (Value → Sem Unit)} {Qc : Value → Shared → Prop} (R : Room A d) (S : Scoped env loc scope cl cloc) (X : Target env scope cl cloc x) (Y : Target env scope cl cloc y)
    (helt : ∀ C t u r, E t u r → Ev g d (cenvOf scope cl C env) ((cloc.set x (.val t)).set y (.val u)) elt r)
    (hp : ∀ s' D ys n C m, Keeps s s' → s.heap.get? D = none → s.heap.get? C = none → D ≠ C → IsL s'.heap D ys n → RepL g.C s'.heap (fun b => W b ∨ b = D ∨ b = C) us ys.toList → s'.heap.Ns C m → compPost g.M A bot use Qc (.ref D) C (.ok .next) s')
    (k : Keeps s s₂) (WK : WalksT g.prog g.w A z fp wr n Pt St Mid) (I₂ : Inv g env loc (fun b => W b ∨ b ∈ wr) M s₂.heap) (hnew : ∀ b ∈ wr, s.heap.get? b = none) (hwM : ∀ b ∈ wr, (W b ∨ b ∈ wr) ∧ ¬ M b)
    (hPt : ∀ i vals, Pt i vals → ∃ v1 v2 t u r, vals = #[v1, v2] ∧ us[i]? = some r ∧ E t u r ∧ Rep g.C s₂.heap (fun b => W b ∨ b ∈ wr) t v1 ∧ Rep g.C s₂.heap (fun b => W b ∨ b ∈ wr) u v2) (hn : us.length = n) (hsz : n ≤ 100)
    (hSl : ∀ i h, St i h → ∀ b ∈ wr, (h.get? b).isSome) (hMl : ∀ i T h, Mid i T h → ∀ b ∈ wr, (h.get? b).isSome) (hst0 : St 0 s₂.heap) (hfp : ∀ b ∈ fp, (s₂.heap.get? b).isSome) :
    wpAny g.M A (newList []) (fun acc s₃ => wpAny g.M A (newFunctionEnv scope env.globals cl [] env.qual none .none (some env)) (fun cenv s₄ =>
        codeAny g.M A (.compStart (.ListComp elt [⟨.Tuple [.Name (Str.ofString x) px, .Name (Str.ofString y) py] zk tp, iter, [], 0⟩] scope pos) 0 (.ref z) acc { cenv with scope := relabel scope env }) (compPost g.M A bot use Qc acc cenv.locals) s₄) bot s₃) bot s₂ := by
  refine comp_open (PP := compPost g.M A bot use Qc) I₂ S.cells S.str S.kind S.sees fun s₄ hrest hkeep hlD I₄ => ?_
  obtain ⟨F, c₀⟩ := comp_begin (wr := wr) I₂ hwM hrest hkeep hlD I₄ (hSl _ _ hst0)
  have hst4 := WK.frame 0 _ s₄.heap hst0 fun b _ o e => hkeep b o e
  have hnL : s₂.heap.get? (s₂.heap.objs.size + 1) = none := isNone (Nat.le_succ _)
  have hCw : s₂.heap.objs.size + 1 ∉ wr := fun q => by have := hSl _ _ hst0 _ q; rw [hnL] at this; cases this
  have loop : codeAny g.M A (.compLoop (.ListComp elt [⟨.Tuple [.Name (Str.ofString x) px, .Name (Str.ofString y) py] zk tp, iter, [], 0⟩] scope pos) 0 (.ref z) (.ref s₂.heap.objs.size) (cenvOf scope cl (s₂.heap.objs.size + 1) env)) (compPost g.M A bot use Qc (.ref s₂.heap.objs.size) (s₂.heap.objs.size + 1)) s₄ := by
    refine PyProof.Rows.LCp.codeAny_compLoop_pair (fun c s' => ∃ i, c = n - i ∧ i ≤ n ∧ St i s'.heap ∧ CI g (cenvOf scope cl (s₂.heap.objs.size + 1) env) cloc _ _ s₂.heap.objs.size wr s₂ s' (us.take i)) ?_ (n - 0) ⟨0, rfl, Nat.zero_le _, hst4, c₀⟩
    rintro c s' ⟨i, rfl, hi, hsti, ci⟩
    by_cases hlt : i < n
    · refine WK.item i s' _ _ hlt hsti fun Tt vals h₃ tk hPi hTsz hT hMid hk₃ => ?_
      obtain ⟨v1, v2, t, u, r, rfl, hr, hE, hrt, hru⟩ := hPt i vals hPi
      have c₁ := ci.touch (tk := tk) F hk₃ (hMl _ _ _ hMid)
      refine WK.go [.Name (Str.ofString x) px, .Name (Str.ofString y) py] zk tp i Tt { s' with heap := h₃, toks := tk } _ _ hMid fun h₄ hst₄ hk₄ => ?_
      have c₂ := c₁.touch (tk := tk) F hk₄ (hSl _ _ hst₄)
      obtain ⟨o, ho, hc, hd⟩ := hT
      refine PyProof.Rows.assign_Tuple_tuple R.1 ⟨o, hk₄ _ _ (WK.apart i Tt h₃ hMid) ho, hc, hd⟩ rfl rfl fun h₅ he₅ => ?_
      have k₅ : Keeps { s' with heap := h₄, toks := tk } { s' with heap := h₅, toks := tk } := kh fun b o e => he₅ b o (Nat.ne_of_lt (Heap.lt_size e)) e
      have c₅ := c₂.keeps k₅
      have hvt := hrt.up (s' := { s' with heap := h₅, toks := tk }) c₅.keep (fun b hb => (hwM b hb).1) (W4_up (names := scope.names))
      have hvu := hru.up (s' := { s' with heap := h₅, toks := tk }) c₅.keep (fun b hb => (hwM b hb).1) (W4_up (names := scope.names))
      refine assignInOrder_cons (c₅.store F (X.st _) hvt hnL (fun c hc => isNone (Nat.le_of_succ_le (X.own _ c hc))) fun s₆ c₆ o₆ m₆ => ?_)
      refine assignInOrder_cons (c₆.store F (Y.st _) (m₆ _ _ hvu) hnL (fun c hc => isNone (Nat.le_of_succ_le (Y.own _ c hc))) fun s₇ c₇ o₇ m₇ => ?_)
      refine assignInOrder_nil ?_
      refine (helt _ t u r hE).to A s₇ _ _ R c₇.inv (fun w s₈ r₈ k₈ => ?_)
      refine (c₇.keeps k₈).append F r₈ (Nat.le_trans (List.length_take_le _ _) (Nat.le_trans hi (Nat.le_trans hsz (by decide)))) fun w' s₉ c₉ o₉ => ⟨n - (i + 1), Nat.sub_lt_sub_left hlt (Nat.lt_succ_self i), i + 1, rfl, hlt, ?_, ?_⟩
      · exact WK.frame (i + 1) _ s₉.heap hst₄ fun b hb o e => o₉ b o (hfp b hb) (kk k₈ b o (o₇ b o (hfp b hb) (o₆ b o (hfp b hb) (kk k₅ b o e))))
      · rw [List.take_add_one, hr]
        refine c₉.weaken fun z lv e => ?_
        rw [Loc.get_set, if_neg, Loc.get_set, if_neg]
        · exact e
        · rintro rfl; rw [X.no] at e; cases e
        · rintro rfl; rw [Y.no] at e; cases e
    · have hin : i = n := Nat.le_antisymm hi (Nat.le_of_not_lt hlt)
      subst hin
      rw [List.take_of_length_le (Nat.le_of_eq hn)] at ci
      refine WK.done s' _ _ hsti fun h₃ tk hk => ?_
      exact comp_end F ci (fun b hb => .inl (.inl hb)) (.inr (.inr (.inl rfl))) hCw k hnew hk hp
  exact codeAny_compStart_list loop (WK.self 0 _ _ _ hst4 loop)

/-- the same, from the heap before the iterator was laid -/
theorem zip_fin {x y : String} {px py tp pos : Pos} {iter elt : Expr} {zk : Nat} {scope : Scope} {cl : List (Str × Addr)} {cloc : Loc} {us : List T} {E : T → T → T → Prop} {z : Addr} {fp wr : List Addr} {n : Nat} {Pt : Nat → Array Value → Prop} {St : Nat → Heap → Prop} {Mid : Nat → Addr → Heap → Prop}
    {A : Around} {s s₁ : Shared} {h' : Heap} {use : Option (Value → Sem Unit)} {Qc : Value → Shared → Prop} (R : Room A d) (S : Scoped env loc scope cl cloc) (X : Target env scope cl cloc x) (Y : Target env scope cl cloc y)
    (helt : ∀ C t u r, E t u r → Ev g d (cenvOf scope cl C env) ((cloc.set x (.val t)).set y (.val u)) elt r)
    (hp : ∀ s' D ys n C m, Keeps s s' → s.heap.get? D = none → s.heap.get? C = none → D ≠ C → IsL s'.heap D ys n → RepL g.C s'.heap (fun b => W b ∨ b = D ∨ b = C) us ys.toList → s'.heap.Ns C m → compPost g.M A bot use Qc (.ref D) C (.ok .next) s')
    (k : Keeps s s₁) (hk' : ∀ b o, s₁.heap.get? b = some o → h'.get? b = some o) (WK : WalksT g.prog g.w A z fp wr n Pt St Mid) (I : Inv g env loc W M s.heap) (hnone : ∀ b ∈ wr, s₁.heap.get? b = none)
    (hPt : ∀ i vals, Pt i vals → ∃ v1 v2 t u r, vals = #[v1, v2] ∧ us[i]? = some r ∧ E t u r ∧ Rep g.C s₁.heap W t v1 ∧ Rep g.C s₁.heap W u v2) (hn : us.length = n) (hsz : n ≤ 100)
    (hSl : ∀ i h, St i h → ∀ b ∈ wr, (h.get? b).isSome) (hMl : ∀ i T h, Mid i T h → ∀ b ∈ wr, (h.get? b).isSome) (hst0 : St 0 h') (hfp : ∀ b ∈ fp, (h'.get? b).isSome) :
    wpAny g.M A (newList []) (fun acc s₃ => wpAny g.M A (newFunctionEnv scope env.globals cl [] env.qual none .none (some env)) (fun cenv s₄ =>
        codeAny g.M A (.compStart (.ListComp elt [⟨.Tuple [.Name (Str.ofString x) px, .Name (Str.ofString y) py] zk tp, iter, [], 0⟩] scope pos) 0 (.ref z) acc { cenv with scope := relabel scope env }) (compPost g.M A bot use Qc acc cenv.locals) s₄) bot s₃) bot { s₁ with heap := h' } := by
  have k' : Keeps s { s₁ with heap := h' } := kt k (kh hk')
  have hnew : ∀ b ∈ wr, s.heap.get? b = none := fun b hb => by
    cases q : s.heap.get? b with
    | none => rfl
    | some o => exact nS ((hnone b hb).symm.trans (kk k b o q))
  have up : ∀ t v, Rep g.C s₁.heap W t v → Rep g.C h' (fun b => W b ∨ b ∈ wr) t v := fun t v r => Rep.mono (fun b o e hw => ⟨hk' b o e, fun q => q.elim hw fun q => nS ((hnone b q).symm.trans e)⟩) _ _ r
  exact zip_loop R S X Y helt hp k' WK (I.wide k' hnew (hSl _ _ hst0)) hnew (fun b hb => ⟨.inr hb, fun q => I.base.live b (hnew b hb) (I.MW b q)⟩)
    (fun i vals hv => by
      obtain ⟨v1, v2, t, u, r, a, b, c, d, e⟩ := hPt i vals hv
      exact ⟨v1, v2, t, u, r, a, b, c, up _ _ d, up _ _ e⟩) hn hsz hSl hMl hst0 hfp

theorem comp_zip {x y : String} {px py tp zp zpos pos : Pos} {e1 e2 elt : Expr} {zk : Nat} {scope : Scope} {cl : List (Str × Addr)} {cloc : Loc} {as bs : List T} {f : T → T → T} (B : BltIs g env (Str.ofString "zip") (.type "zip")) (h1 : Ev g d env loc e1 (.list as)) (h2 : Ev g d env loc e2 (.list bs))
    (S : Scoped env loc scope cl cloc) (X : Target env scope cl cloc x) (Y : Target env scope cl cloc y)
    (helt : ∀ C t u, t ∈ as → u ∈ bs → Ev g d (cenvOf scope cl C env) ((cloc.set x (.val t)).set y (.val u)) elt (f t u)) (hsz : as.length ≤ 100)
    (hs : ∀ x, foldedSetIterable (.Call (.Name (Str.ofString "zip") zp) [e1, e2] [] zpos) env x = pure x := by intro _; rfl) (he : ∀ env, starEach [e1, e2] env = [(false, eval e1 env), (false, eval e2 env)] := by intro _; rfl) :
    CompR g d env loc (.ListComp elt [⟨.Tuple [.Name (Str.ofString x) px, .Name (Str.ofString y) py] zk tp, .Call (.Name (Str.ofString "zip") zp) [e1, e2] [] zpos, [], 0⟩] scope pos)
      (firstIter [⟨.Tuple [.Name (Str.ofString x) px, .Name (Str.ofString y) py] zk tp, .Call (.Name (Str.ofString "zip") zp) [e1, e2] [] zpos, [], 0⟩] env) scope (List.zipWith f as bs) := .mk fun A s W M pos' use Q R I hp => by
  refine wpAny_comprehension_free (g := ⟨.Tuple [.Name (Str.ofString x) px, .Name (Str.ofString y) py] zk tp, .Call (.Name (Str.ofString "zip") zp) [e1, e2] [] zpos, [], 0⟩) (gs := []) rfl hs S.clos S.kind S.names ?_
  refine callT2 B I (h1.to A s W M R I (fun v s₀ r₁ k₁ => h2.to A s₀ W M R (I.keeps k₁) (fun u s₁ r₂ k₂ => ?_))) (he env)
  have r₁' := r₁.keeps k₂
  have K₁ := kt k₁ k₂
  simp only [Rep] at r₁' r₂
  obtain ⟨l1, xs, n1, rfl, hw1, hl1, hr1⟩ := r₁'
  obtain ⟨l2, ys, n2, rfl, hw2, hl2, hr2⟩ := r₂
  refine call_zip_2 (isList hl1) (isList hl2) fun h' hz hTI hTO hi1 hi2 hsize hk' => wpAny_pyIter_zip hz ?_
  have WK := WalksT.zip2 (prog := g.prog) (w := g.w) R.1 _ _ _ _ _ l1 l2 (zipApart_new (Heap.lt_size hl1) (Heap.lt_size hl2)) xs ys
  rw [size_of hr1, size_of hr2] at WK
  have hfp : ∀ b ∈ [s₁.heap.objs.size + 4, s₁.heap.objs.size + 2, s₁.heap.objs.size + 3, s₁.heap.objs.size, s₁.heap.objs.size + 1, l1, l2], (h'.get? b).isSome :=
    all7 (someLive hz) (someLive hTI) (someLive hTO) (hi1.elim fun _ q => someLive q.1) (hi2.elim fun _ q => someLive q.1) (someLive (hk' _ _ hl1)) (someLive (hk' _ _ hl2))
  have hnone : ∀ b ∈ [s₁.heap.objs.size + 4, s₁.heap.objs.size + 3, s₁.heap.objs.size, s₁.heap.objs.size + 1], s₁.heap.get? b = none := all4 (isNone (Nat.le_add_right _ _)) (isNone (Nat.le_add_right _ _)) (isNone (Nat.le_refl _)) (isNone (Nat.le_add_right _ _))
  exact zip_fin (us := List.zipWith f as bs) (E := fun t u r => t ∈ as ∧ u ∈ bs ∧ r = f t u) R S X Y (fun C t u r h => by obtain ⟨h1, h2, rfl⟩ := h; exact helt C t u h1 h2) hp K₁ hk' WK I (fun b hb => hnone b hb)
    (fun i vals hv => by
      obtain ⟨v1, v2, e1, e2, rfl⟩ := hv
      obtain ⟨t, ht, hrt⟩ := hr1.get' (i := i) (v := v1) (by rw [Array.getElem?_toList]; exact e1)
      obtain ⟨u, hu, hru⟩ := hr2.get' (i := i) (v := v2) (by rw [Array.getElem?_toList]; exact e2)
      exact ⟨v1, v2, t, u, f t u, rfl, by rw [List.getElem?_zipWith, ht, hu], ⟨List.mem_of_getElem? ht, List.mem_of_getElem? hu, rfl⟩, hrt, hru⟩)
    List.length_zipWith (Nat.le_trans (Nat.min_le_left ..) hsz) (fun i h q => zipLive q.1 q.2.2.1 q.2.2.2.1 q.2.2.2.2.1) (fun i T h q => zipLive q.1 q.2.2.1 q.2.2.2.1 q.2.2.2.2.1)
    ⟨hz, hTI, ⟨_, _, hTO⟩, hi1, hi2, (isList hl1).at fun o e => hk' _ o e, (isList hl2).at fun o e => hk' _ o e⟩ hfp
end
end Mine

open PySem PySem.W PySem.Calls PyProof.Rows
set_option linter.unusedVariables false
set_option maxRecDepth 100000
namespace Mine

section
variable {g : GC} {d : Nat} {env : Env} {loc : Loc}

noncomputable abbrev intsT (l : List Int) : T := .list (l.map T.int)
noncomputable abbrev rowsT (l : List (List Int)) : T := .list (l.map intsT)

theorem c_in (k : Int) (l : List Int) : CmpS g .In (.int k) (intsT l) (l.any (· == k)) := .mk fun A s W v u hh B x y => by
  simp only [Rep] at x y
  obtain ⟨t, rfl⟩ := x
  obtain ⟨a, xs, n, rfl, hw, hl, hr⟩ := y
  exact in_list_ints (vs := xs.toList) (by simpa using isList hl) hr.ints ⟨rfl, kr⟩

theorem readsAll_rows {C : Addr} {h : Heap} {W : Addr → Prop} : ∀ {rows : List (List Int)} {vs : List Value}, RepL C h W (rows.map intsT) vs → ∃ as, ReadsAll h vs (rows.map fun r => PyData.list (r.map PyData.int)) as
  | [], _, x => by simp only [List.map_nil, RepL] at x; subst x; exact ⟨_, .nil⟩
  | r :: rows, _, x => by
    simp only [List.map_cons, RepL, Rep] at x
    obtain ⟨v, vs, rfl, ⟨a, xs, n, rfl, hw, hl, hr⟩, h2⟩ := x
    obtain ⟨as, h3⟩ := readsAll_rows h2
    exact ⟨_, .cons (reads_of_ints (vs := xs.toList) (by simpa using isList hl) hr.ints) h3⟩
theorem canLay_rows : ∀ rows : List (List Int), PyData.canLayAll0 (rows.map fun r => PyData.list (r.map PyData.int)) = true
  | [] => by simp [PyData.canLayAll0]
  | r :: rows => by simp only [List.map_cons, PyData.canLayAll0, PyData.canLay0, canLayAll0_ints r, canLay_rows rows]; rfl
theorem depth_rows : ∀ rows : List (List Int), PyData.depthAll (rows.map fun r => PyData.list (r.map PyData.int)) ≤ 1
  | [] => by simp [PyData.depthAll]
  | r :: rows => by
    have h1 := PyProof.Rows.depthAll_ints r
    have h2 := depth_rows rows
    simp only [List.map_cons, PyData.depthAll, PyData.depth]
    (first | lia | omega)
/-- rows of ints beside the same rows -/
theorem c_neSame (l : List (List Int)) : CmpS g .NotEq (rowsT l) (rowsT l) false := .mk fun A s W v u hh B x y => by
  simp only [Rep] at x y
  obtain ⟨a, xs, n, rfl, hw, hl, hr⟩ := x
  obtain ⟨b, ys, n', rfl, hw', hl', hr'⟩ := y
  obtain ⟨as, h1⟩ := readsAll_rows hr
  obtain ⟨bs, h2⟩ := readsAll_rows hr'
  have hc : PyData.canLay0 (.list (l.map fun r => PyData.list (r.map PyData.int))) = true := by simp only [PyData.canLay0]; exact canLay_rows l
  have hd : PyData.depth (.list (l.map fun r => PyData.list (r.map PyData.int))) ≤ 2 := by have := depth_rows l; simp only [PyData.depth]; (first | lia | omega)
  refine SeqAt.compareNe_reads (Reads.list hl rfl rfl h1) (Reads.list hl' rfl rfl h2) hc hc ?_ ⟨by rw [SeqAt.eqv_refl _ hc]; rfl, kr⟩
  have := hh.2.2
  show A.units + min _ _ < 9900
  (first | lia | omega)

/-- a def's frame with cells of its own -/
noncomputable abbrev envC (sc : Scope) (L f : Addr) (q : Str) (cd : Value) : Env := newEnv sc L mainGlobals (cellsFrom (L + 1) sc.names []) (q ++ ".<locals>.") (some f) cd none builtinsNs

theorem calls_law {nm q : Str} {params' : Arguments} {body : List Stmt} {sc : Scope} {dV kV doc pm cd ct oc : Value} {an od : Option Addr} {osl : Array (Option Value)} {f : Addr} {p : String} {t₀ t : T} {h₀ : Heap}
    (ho : g.h0.get? f = some ⟨oc, od, .func (fnOf nm q params' body sc dV kV doc pm an cd ct), osl⟩) (hcd : g.h0.CodeRec cd q)
    (hbind : ∀ v : Value, bindArgs (fnOf nm q params' body sc dV kV doc pm an cd ct) ⟨[v], []⟩ = pure [(Str.ofString p, v)])
    (hloc : sc.names.lookup (Str.ofString p) = some .local) (hco : sc.isCoroutine = false) (hgen : sc.isGenerator = false) (hk : sc.kind = .function)
    (h : ∀ L, Ex g d (envC sc L f q cd) [(p, .val t₀)] body (retQ t)) : Calls g (d + 1) (.ref f) [t₀] t := .mk fun A s W vs R B hr => by
  have k0 : ∀ b o, g.h0.get? b = some o → s.heap.get? b = some o := fun b o e => (B.keep0 b o e).1
  have hlim := g.top.nolimit.keeps k0
  simp only [RepL] at hr
  obtain ⟨v, _, rfl, hv, rfl⟩ := hr
  refine codeAny_call_cells (by have := R.2.1; show A.depth < 1000; (first | lia | omega)) (k0 _ _ ho) rfl hlim (hcd.keeps k0) rfl (hbind v) rfl (fun x hx => ?_) (fun s₁ x => ?_) hco hgen hk
  · rw [List.mem_singleton.mp hx]; exact .inl hloc
  · generalize hL : s.heap.objs.size = L at x ⊢
    have hdef : callEnvC (fnOf nm q params' body sc dV kV doc pm an cd ct) L f = envC sc L f q cd := rfl
    rw [hdef] at x ⊢
    have hne : ∀ b o, s.heap.get? b = some o → b < L := fun b o e => hL ▸ Heap.lt_size e
    have habove : ∀ n c, (envC sc L f q cd).cells.lookup n = some c → L < c := fun n c e => x.above n c (mem_of_lookup e)
    have hm : bindL (envC sc L f q cd).kindOf [(Str.ofString p, v)] (fun _ => none) (Str.ofString p) = some v := by
      have : (envC sc L f q cd).kindOf (Str.ofString p) = some .local := hloc
      simp [bindL, this]
    obtain ⟨oL, esL, nL, hoL, hdL⟩ := nsObj x.toInCall.ns
    have hup : ∀ b o, s.heap.get? b = some o → ¬ W b → s₁.heap.get? b = some o ∧ ¬ (W b ∨ b = L ∨ ∃ n, (envC sc L f q cd).cells.lookup n = some b) := fun b o e hw => ⟨x.toInCall.keep b o e, fun q => by
      rcases q with q | q | ⟨n, q⟩
      · exact hw q
      · exact absurd (hne b o e) (by rw [q]; exact Nat.lt_irrefl _)
      · exact absurd (hne b o e) (Nat.not_lt.mpr (Nat.le_of_lt (habove _ _ q)))⟩
    have I : Inv g (envC sc L f q cd) [(p, .val t₀)] (fun b => W b ∨ b = L ∨ ∃ n, (envC sc L f q cd).cells.lookup n = some b) (fun b => b = L ∨ ∃ n, (envC sc L f q cd).cells.lookup n = some b) s₁.heap := by
      refine ⟨⟨fun b o e => hup b o (k0 b o e) (B.keep0 b o e).2, fun b e q => ?_⟩, hk, rfl, rfl, fun b q => .inr q, .inl rfl, fun y c e1 e2 => ⟨⟨_, x.cell _ _ e2⟩, .inr ⟨_, e2⟩⟩, fun y z c e1 e2 => ofString_inj (name_of_addr x.apart (mem_of_lookup e1) (mem_of_lookup e2)), _, fun _ => v, x.toInCall.ns, fun y lv e => ?_, fun y z ty tz e1 e2 _ => ?_, fun y z a b e1 e2 => ?_⟩
      · rcases q with q | q | ⟨n, q⟩
        · refine B.live b ?_ q
          cases q2 : s.heap.get? b with
          | none => rfl
          | some o => rw [x.toInCall.keep b o q2] at e; cases e
        · subst q
          have e' : s₁.heap.get? b = none := e
          rw [show s₁.heap.get? b = some oL from hoL] at e'; cases e'
        · obtain ⟨o, ho, _⟩ := x.cell _ _ q
          rw [ho] at e; cases e
      · simp only [Loc.get] at e
        split at e
        · rename_i q; subst q; cases e
          exact ⟨.inl ⟨hloc, hm⟩, Rep.mono hup _ _ hv⟩
        · cases e
      · simp only [Loc.get] at e1; split at e1 <;> cases e1
      · simp only [Loc.get] at e1; split at e1 <;> cases e1
    refine (h L).to _ s₁ _ _ R.deeper I (fun fl s' W' M' loc' fl' I' st hf hq => ?_)
    have K : Keeps s s' := by
      obtain ⟨h1, t1, e1⟩ := x.toInCall.same
      obtain ⟨h2, t2, e2⟩ := st.rest
      refine ⟨h2, t2, by rw [e2, e1], fun b o e => ?_⟩
      have := st.keep b o (x.toInCall.keep b o e) fun q => by
        rcases q with q | ⟨n, q⟩
        · exact absurd (hne b o e) (by rw [q]; exact Nat.lt_irrefl _)
        · exact absurd (hne b o e) (Nat.not_lt.mpr (Nat.le_of_lt (habove _ _ q)))
      rw [e2] at this; exact this
    have hW : ∀ b, W b → W' b := fun b hw => by
      by_cases hb : b = L ∨ ∃ n, (envC sc L f q cd).cells.lookup n = some b
      · refine absurd hw (B.live b ?_)
        cases q2 : s.heap.get? b with
        | none => rfl
        | some o =>
          rcases hb with q | ⟨n, q⟩
          · exact absurd (hne b o q2) (by rw [q]; exact Nat.lt_irrefl _)
          · exact absurd (hne b o q2) (Nat.not_lt.mpr (Nat.le_of_lt (habove _ _ q)))
      · exact st.Wkeep b (.inl hw) hb
    cases fl' with
    | next =>
      simp only [FlRep] at hf
      subst hf
      exact ⟨_, rfl, by rw [show t = T.none from hq]; simp only [Rep], K⟩
    | brk => exact hq.elim
    | ret u =>
      simp only [FlRep] at hf
      obtain ⟨v, rfl, hrv⟩ := hf
      have : u = t := hq
      subst this
      exact ⟨v, rfl, Rep.mono (fun b o e hw => ⟨e, fun q => hw (hW b q)⟩) _ _ hrv, K⟩
end
end Mine

open PySem PySem.W PySem.Calls PyProof.Rows
set_option linter.unusedVariables false
set_option maxRecDepth 100000
namespace Mine

noncomputable def fnBody : Stmt → List Stmt | .FunctionDef _ _ b .. => b | _ => []
noncomputable def fnScope : Stmt → Scope | .FunctionDef _ _ _ _ _ _ sc .. => sc | _ => { kind := .function, names := [], isGenerator := false, isCoroutine := false }
noncomputable def clsBody : Stmt → List Stmt | .ClassDef _ _ _ b .. => b | _ => []
noncomputable def nth (i : Nat) : Stmt := (PySem.Challenge.pw_pg0284_01.main.body).getD i (.Pass default)
noncomputable def cth (i : Nat) : Stmt := (clsBody (nth 6)).getD i (.Pass default)

theorem stD {sc : Scope} {L f : Addr} {q : Str} {cd : Value} {x : String} (h : sc.names.lookup (Str.ofString x) = some .local) : Stores (envD sc L f q cd) x := .inl h
theorem kiD {sc : Scope} {L f : Addr} {q : Str} {cd : Value} {x : Str} {k : NameKind} (h : sc.names.lookup x = some k) : (envD sc L f q cd).kindOf x = some k := h

structure BltG (g : GC) (x : Str) (v : Value) : Prop where
  miss : g.mg x = none
  val : bootBuiltins x = some v
  nn : x ≠ "__name__"
  nd : (x == ("__debug__" : Str)) = false
theorem BltG.at {g : GC} {x : Str} {v : Value} (B : BltG g x v) {env : Env} (h : env.kindOf x = some .globalImplicit) : BltIs g env x v := ⟨h, B.miss, B.val, B.nn, B.nd⟩

structure DefAt (g : GC) (st : Stmt) (ps : List String) (f : Addr) : Prop where
  fn : FnAt g f
  calls : ∀ d ts t, ps.length = ts.length → (∀ L q cd, Ex g d (envD (fnScope st) L f q cd) (params ps ts) (fnBody st) (retQ t)) → Calls g (d + 1) (.ref f) ts t

/-- what the walk asks of the top -/
structure Fx (g : GC) where
  (fEm fStrip fInit fLong fInd fLess fSub fLev fLeads fCols fWays fWords : Addr)
  len : BltG g "len" (.builtin "len")
  max : BltG g "max" (.builtin "max")
  min : BltG g "min" (.builtin "min")
  range : BltG g "range" (.type "range")
  list : BltG g "list" (.type "list")
  tuple : BltG g "tuple" (.type "tuple")
  zip : BltG g "zip" (.type "zip")
  marker : GlobIs g "ELLIPSIS_MARKER" (.str "...")
  move : GlobIs g "_MOVE_COST" (.int 2)
  case : GlobIs g "_CASE_COST" (.int 1)
  size : GlobIs g "_MAX_STRING_SIZE" (.int 40)
  ws : WSF g
  init : InitF g
  wsAt : g.mg "Whitespace" = some (.ref g.C)
  em : DefAt g (nth 3) ["want", "got"] fEm
  emAt : g.mg "_ellipsis_match" = some (.ref fEm)
  strip : DefAt g (nth 4) ["msg"] fStrip
  stripAt : g.mg "_strip_exception_details" = some (.ref fStrip)
  sub : DefAt g (nth 11) ["ch_a", "ch_b"] fSub
  subAt : g.mg "_substitution_cost" = some (.ref fSub)
  lev : DefAt g (nth 12) ["a", "b", "max_cost"] fLev
  levAt : g.mg "_levenshtein_distance" = some (.ref fLev)
  leads : DefAt g (nth 14) ["told"] fLeads
  leadsAt : g.mg "_law_leads" = some (.ref fLeads)
  cols : DefAt g (nth 15) ["lead"] fCols
  colsAt : g.mg "_law_columns" = some (.ref fCols)
  ways : DefAt g (nth 16) ["leads"] fWays
  waysAt : g.mg "_law_ways" = some (.ref fWays)
  words : DefAt g (nth 17) ["rows"] fWords
  wordsAt : g.mg "_law_words" = some (.ref fWords)

section
variable {g : GC} {d : Nat} {env : Env} {loc : Loc} {Q : Fl → Loc → Prop}
theorem Loc.set_same : ∀ {loc : Loc} {x : String} {lv : LV}, Loc.get loc x = some lv → Loc.set loc x lv = loc
  | [], _, _, h => by cases h
  | (k, v) :: r, x, lv, h => by
    simp only [Loc.get] at h
    simp only [Loc.set]
    split at h
    · rename_i q; subst q; cases h; rw [if_pos rfl]
    · rename_i q; rw [if_neg q, Loc.set_same h]
theorem lz {n : Nat} (h : n ≤ 1000) : n ≤ sizeLine := by rw [sizeLine_eq]; (first | lia | omega)
/-- if test: x = value -/
theorem x_ifset {test value : Expr} {x : String} {px pos ipos : Pos} {c : Bool} {old t r : T} (h : EvB g d env loc test c) (hx : Loc.get loc x = some (.val old)) (hv : c = true → Ev g d env loc value t) (hst : Stores env x)
    (h1 : c = true → r = t) (h2 : c = false → r = old) (hq : Q .next (loc.set x (.val r))) (hs : swapsWith value (some (.Name (Str.ofString x) px)) pos.line env = pure false := by rfl) :
    Ex1 g d env loc (.If test [.Assign [.Name (Str.ofString x) px] value pos] [] ipos) Q := x_if h
  (fun e => ex_cons (x_assign (hv e) hst (by rw [← h1 e]; exact ex_nil hq) hs))
  (fun e => ex_nil (by rw [h2 e, Loc.set_same hx] at hq; exact hq))
theorem x_ifint {test value : Expr} {x : String} {px pos ipos : Pos} {c : Bool} {old t : Int} (h : EvB g d env loc test c) (hx : Loc.get loc x = some (.val (.int old))) (hv : c = true → Ev g d env loc value (.int t)) (hst : Stores env x)
    (hq : Q .next (loc.set x (.val (.int (if c then t else old))))) (hs : swapsWith value (some (.Name (Str.ofString x) px)) pos.line env = pure false := by rfl) :
    Ex1 g d env loc (.If test [.Assign [.Name (Str.ofString x) px] value pos] [] ipos) Q := x_ifset h hx hv hst (fun e => by rw [e]; rfl) (fun e => by rw [e]; rfl) hq hs
end

noncomputable def strip (x : Str) : Str :=
  let e0 : Int := x.length
  let i := Txt.find x (Str.ofString "\n")
  let e1 := if decide (0 ≤ i) then i else e0
  let i2 := find4 x (Str.ofString ":") 0 e1
  let e2 := if decide (0 ≤ i2) then i2 else e1
  let i3 := rfind4 x (Str.ofString ".") 0 e2
  let s := if decide (0 ≤ i3) then i3 + 1 else 0
  Txt.slice x (some s) (some e2)

theorem walk_strip {g : GC} (F : Fx g) (d : Nat) (x : Str) (hx : x.length ≤ 1000) (L f : Addr) (q : Str) (cd : Value) : Ex g d (envD (fnScope (nth 4)) L f q cd) (params ["msg"] [.str x]) (fnBody (nth 4)) (retQ (.str (strip x))) := by
  have hz : x.length ≤ sizeLine := by rw [sizeLine_eq]; (first | lia | omega)
  have S : ∀ y, ((fnScope (nth 4)).names.lookup (Str.ofString y) == some .local) = true → Stores (envD (fnScope (nth 4)) L f q cd) y := fun y h => stD (by simpa using h)
  refine ex_cons (x_swap (x := "start") (y := "end") (ev_tuple (evL_cons ev_int (evL_cons (ev_lenS (F.len.at (kiD (by decide +kernel))) (ev_name (by rfl)) hz) evL_nil)) (lz (by simp))) (S _ (by decide +kernel)) (S _ (by decide +kernel)) ?_)
  refine ex_cons (x_assign (ev_find (ev_name (by rfl)) ev_str) (S _ (by decide +kernel)) ?_)
  refine ex_cons (x_ifint (evB_cmp (ev_name (by rfl)) ev_int (c_ge _ _)) (by rfl) (fun _ => ev_name (by rfl)) (S _ (by decide +kernel)) ?_)
  refine ex_cons (x_assign (ev_find4 (ev_name (by rfl)) ev_str ev_int (ev_name (by rfl))) (S _ (by decide +kernel)) ?_)
  refine ex_cons (x_ifint (evB_cmp (ev_name (by rfl)) ev_int (c_ge _ _)) (by rfl) (fun _ => ev_name (by rfl)) (S _ (by decide +kernel)) ?_)
  refine ex_cons (x_assign (ev_rfind4 (ev_name (by rfl)) ev_str ev_int (ev_name (by rfl))) (S _ (by decide +kernel)) ?_)
  refine ex_cons (x_ifint (evB_cmp (ev_name (by rfl)) ev_int (c_ge _ _)) (by rfl) (fun _ => ev_bin (ev_name (by rfl)) ev_int (b_add _ _)) (S _ (by decide +kernel)) ?_)
  exact ex_cons (x_ret (ev_slice (ev_name (by rfl)) (evP_int (ev_name (by rfl))) (evP_int (ev_name (by rfl))) hz) rfl)
end Mine

open PySem PySem.W PySem.Calls PyProof.Rows
set_option linter.unusedVariables false
set_option maxRecDepth 100000
namespace Mine

section
variable {g : GC} {d : Nat} {env : Env} {loc : Loc} {Q : Fl → Loc → Prop}
theorem evB_is {e : Expr} {c c' : Bool} (h : EvB g d env loc e c) (q : c = c') : EvB g d env loc e c' := q ▸ h
theorem ev_is {e : Expr} {t u : T} (h : Ev g d env loc e t) (q : t = u) : Ev g d env loc e u := q ▸ h
/-- an if that is passed by -/
theorem x_pass {test : Expr} {body : List Stmt} {pos : Pos} (h : EvB g d env loc test false) (hq : Q .next loc) : Ex1 g d env loc (.If test body [] pos) Q := x_if h (fun e => nomatch e) fun _ => ex_nil hq
end

noncomputable def scan (got : Str) : List Str → Int → Option Int
  | [], p => some p
  | w :: r, p => if find4 got w p got.length < 0 then none else scan got r (find4 got w p got.length + w.length)
theorem scan_append (got : Str) : ∀ (l r : List Str) (p : Int), scan got (l ++ r) p = (scan got l p).bind (scan got r)
  | [], _, _ => rfl
  | w :: l, r, p => by
    simp only [List.cons_append, scan]
    split
    · rfl
    · exact scan_append got l r _

theorem walk_em {g : GC} (F : Fx g) (d : Nat) (want got : Str) (ws : List Str) (hin : (Builtin.Str.occurrences want "..." 0 want.length 1).isEmpty = false) (hsp : Txt.split want "..." = ws) (h2 : 2 ≤ ws.length) (h0 : ws[0]? = some (Str.ofString "")) (hl : ws[ws.length - 1]? = some (Str.ofString ""))
    (hw : want.length ≤ 900) (hg : got.length ≤ 900) (hn : ws.length ≤ 900) (hws : ∀ w ∈ ws, w.length ≤ 900) (L f : Addr) (q : Str) (cd : Value) : Ex g d (envD (fnScope (nth 3)) L f q cd) (params ["want", "got"] [.str want, .str got]) (fnBody (nth 3)) (retQ (.bool (scan got ws 0).isSome)) := by
  have S : ∀ y, ((fnScope (nth 3)).names.lookup (Str.ofString y) == some .local) = true → Stores (envD (fnScope (nth 3)) L f q cd) y := fun y h => stD (by simpa using h)
  have K : ∀ y, ((fnScope (nth 3)).names.lookup y == some .globalImplicit) = true → (envD (fnScope (nth 3)) L f q cd).kindOf y = some .globalImplicit := fun y h => kiD (by simpa using h)
  refine ex_cons (x_pass (evB_is (evB_cmp (ev_glob (K _ (by decide +kernel)) F.marker) (ev_name (by rfl)) (c_snotin _ _)) (by rw [hin]; rfl)) ?_)
  refine ex_cons (x_assign (ev_fresh (evF_split (ev_name (by rfl)) (ev_glob (K _ (by decide +kernel)) F.marker) (by decide +kernel) (lz (by (first | lia | omega))))) (S _ (by decide +kernel)) ?_)
  rw [hsp]
  refine ex_cons (x_assert (evB_is (evB_cmp (ev_len (F.len.at (K _ (by decide +kernel))) (evT_val (ev_name (by rfl))) (lz (by simp; (first | lia | omega)))) ev_int (c_ge _ _)) (by simp; (first | lia | omega))) ?_)
  refine ex_cons (x_swap (x := "startpos") (y := "endpos") (ev_tuple (evL_cons ev_int (evL_cons (ev_lenS (F.len.at (K _ (by decide +kernel))) (ev_name (by rfl)) (lz (by (first | lia | omega)))) evL_nil)) (lz (by simp))) (S _ (by decide +kernel)) (S _ (by decide +kernel)) ?_)
  refine ex_cons (x_assign (ev_item (t := .str (Str.ofString "")) (evT_val (ev_name (by rfl))) ev_int (by decide) (by simp [h0]) (lz (by simp; (first | lia | omega)))) (S _ (by decide +kernel)) ?_)
  refine ex_cons (x_pass (evB_is (evB_plain (ev_name (by rfl)) (t_str _ (by decide +kernel))) (by decide +kernel)) ?_)
  refine ex_cons (x_assign (ev_itemN (t := .str (Str.ofString "")) (evT_val (ev_name (by rfl))) (ev_neg ev_int) (by decide) (by simp; (first | lia | omega)) (by
    rw [show ((-1 + ((ws.map T.str).length : Int)).toNat) = ws.length - 1 by simp; (first | lia | omega)]
    simp [hl]) (lz (by simp; (first | lia | omega)))) (S _ (by decide +kernel)) ?_)
  refine ex_cons (x_pass (evB_is (evB_plain (ev_name (by rfl)) (t_str _ (by decide +kernel))) (by decide +kernel)) ?_)
  refine ex_cons (x_pass (evB_is (evB_cmp (ev_name (by rfl)) (ev_name (by rfl)) (c_gt _ _)) (by simp)) ?_)
  refine ex_cons (x_for (it_list (ev_name (by rfl))) (S _ (by decide +kernel)) (fun i loc => ∃ p u, scan got (ws.take i) 0 = some p ∧ loc = [("want", .val (.str want)), ("got", .val (.str got)), ("ws", .val (.list (ws.map T.str))), ("endpos", .val (.int got.length)), ("startpos", .val (.int p)), ("w", .val u)]) ⟨0, _, rfl, rfl⟩ ?_ ?_)
  · rintro i t loc' ht ⟨p, u, hp, rfl⟩
    rw [List.getElem?_map] at ht
    obtain ⟨w, hw', rfl⟩ := Option.map_eq_some_iff.mp ht
    have hwl := hws w (List.mem_of_getElem? hw')
    have htake : ws.take (i + 1) = ws.take i ++ [w] := by rw [List.take_add_one, hw']; rfl
    have hdrop : ws = ws.take i ++ w :: ws.drop (i + 1) := by
      have h1 := List.getElem?_eq_some_iff.mp hw'
      obtain ⟨h1, h2⟩ := h1
      conv => lhs; rw [← List.take_append_drop i ws, List.drop_eq_getElem_cons h1, h2]
    refine ex_cons (x_assign (ev_find4 (ev_name (by rfl)) (ev_name (by rfl)) (ev_name (by rfl)) (ev_name (by rfl))) (S _ (by decide +kernel)) ?_)
    refine ex_cons (x_if (evB_cmp (ev_name (by rfl)) ev_int (c_lt _ _)) (fun hc => ?_) (fun hc => ?_))
    · have hc' : find4 got w p got.length < 0 := by simpa using hc
      refine ex_cons (x_ret ev_bool ?_)
      show T.bool false = T.bool (scan got ws 0).isSome
      rw [hdrop, scan_append, hp]
      simp [scan, hc']
    · have hc' : ¬ find4 got w p got.length < 0 := by simpa using hc
      refine ex_nil (ex_cons (x_aug (by rfl) (ev_lenS (F.len.at (K _ (by decide +kernel))) (ev_name (by rfl)) (lz (by (first | lia | omega)))) (i_add _ _) (S _ (by decide +kernel)) (ex_nil ?_)))
      exact ⟨_, _, by rw [htake, scan_append, hp]; simp only [Option.bind_some, scan, hc', if_false], rfl⟩
  · rintro loc' ⟨p, u, hp, rfl⟩
    rw [List.length_map, List.take_length] at hp
    rw [hp]
    exact ex_cons (x_ret ev_bool rfl)
end Mine

open PySem PySem.W PySem.Calls PyProof.Rows
set_option linter.unusedVariables false
set_option maxRecDepth 100000
namespace Mine

noncomputable def Loc.del : Loc → String → Loc
  | [], _ => []
  | (k, v) :: r, x => if k = x then Loc.del r x else (k, v) :: Loc.del r x
theorem Loc.get_del : ∀ {loc : Loc} {x y : String} {lv : LV}, Loc.get (Loc.del loc x) y = some lv → Loc.get loc y = some lv ∧ y ≠ x
  | [], _, _, _, e => by cases e
  | (k, v) :: r, x, y, lv, e => by
    simp only [Loc.del] at e
    split at e
    · rename_i q
      obtain ⟨h1, h2⟩ := Loc.get_del e
      refine ⟨?_, h2⟩
      simp only [Loc.get]
      rw [if_neg (show ¬ k = y from fun h => h2 (h.symm.trans q))]
      exact h1
    · rename_i q
      simp only [Loc.get] at e ⊢
      split at e
      · rename_i q2
        rw [if_pos q2]
        exact ⟨e, fun h => q (q2.trans h)⟩
      · rename_i q2
        rw [if_neg q2]
        exact Loc.get_del e
section
variable {g : GC} {d : Nat} {env : Env} {loc : Loc} {Q : Fl → Loc → Prop}
theorem ex_drop {ss : List Stmt} (x : String) (h : Ex g d env (Loc.del loc x) ss Q) : Ex g d env loc ss Q := .mk fun A s W M R I => h.run A s W M R (I.weaken fun y lv e => (Loc.get_del e).1)
end

noncomputable def colStep (size col : Int) (c : Nat) : Int := col + (if ((⟨#[c]⟩ : Str) == Str.ofString " ") = true then 1 else size - col.fmod size)
noncomputable def colAt (size : Int) (l : List Nat) : Int := l.foldl (colStep size) 0
noncomputable def cols (lead : Str) : List Int := (List.range 7).map fun (k : Nat) => colAt (1 + (k : Int) * 1) lead.cps.toList

theorem walk_cols {g : GC} (F : Fx g) (d : Nat) (lead : Str) (ha : lead.cps.all (· < 128) = true) (L f : Addr) (q : Str) (cd : Value) :
    Ex g d (envD (fnScope (nth 15)) L f q cd) (params ["lead"] [.str lead]) (fnBody (nth 15)) (retQ (intsT (cols lead))) := by
  have S : ∀ y, ((fnScope (nth 15)).names.lookup (Str.ofString y) == some .local) = true → Stores (envD (fnScope (nth 15)) L f q cd) y := fun y h => stD (by simpa using h)
  have K : ∀ y, ((fnScope (nth 15)).names.lookup y == some .globalImplicit) = true → (envD (fnScope (nth 15)) L f q cd).kindOf y = some .globalImplicit := fun y h => kiD (by simpa using h)
  refine ex_cons (x_assignF (evF_list evL_nil (lz (by simp))) (S _ (by decide +kernel)) ?_)
  refine ex_cons (x_for (it_range (n := 7) (evR_2 (F.range.at (K _ (by decide +kernel))) ev_int ev_int) (by decide +kernel) (by decide +kernel)) (S _ (by decide +kernel))
    (fun i loc => loc = [("lead", .val (.str lead)), ("columns", .own (((List.range i).map fun (k : Nat) => colAt (1 + (k : Int) * 1) lead.cps.toList).map T.int))]) rfl ?_ ?_)
  · rintro i t loc' ht rfl
    have hi : i < 7 := by
      rcases Nat.lt_or_ge i 7 with q | q
      · exact q
      · rw [List.getElem?_eq_none (by simpa [rangeT] using q)] at ht; cases ht
    simp only [rangeT, List.getElem?_map, List.getElem?_range hi, Option.map_some, Option.some.injEq] at ht
    subst ht
    generalize hsz : (1 + (i : Int) * 1) = size
    have hs0 : size ≠ 0 := by (first | lia | omega)
    refine ex_cons (x_assign ev_int (S _ (by decide +kernel)) ?_)
    refine ex_cons (x_for (it_signs (ev_name (by rfl)) ha) (S _ (by decide +kernel))
      (fun j loc => loc = [("lead", .val (.str lead)), ("columns", .own (((List.range i).map fun (k : Nat) => colAt (1 + (k : Int) * 1) lead.cps.toList).map T.int)), ("size", .val (.int size)), ("column", .val (.int (colAt size (lead.cps.toList.take j))))]) rfl ?_ ?_)
    · rintro j t loc' ht rfl
      simp only [signT, List.getElem?_map] at ht
      obtain ⟨c, hc, rfl⟩ := Option.map_eq_some_iff.mp ht
      refine ex_cons (x_aug (t := .int (colStep size (colAt size (lead.cps.toList.take j)) c)) (by rfl)
        (ev_if (t := .int (if ((⟨#[c]⟩ : Str) == Str.ofString " ") = true then 1 else size - (colAt size (lead.cps.toList.take j)).fmod size)) (evB_cmp (ev_name (by rfl)) ev_str (c_seq _ _)) (fun e => ev_is ev_int (by rw [if_pos e]))
          (fun e => ev_is (ev_bin (ev_name (by rfl)) (ev_bin (ev_name (by rfl)) (ev_name (by rfl)) (b_mod _ _ hs0)) (b_sub _ _)) (by rw [if_neg (by rw [e]; decide)]))) (i_add _ _) (S _ (by decide +kernel)) ?_)
      refine ex_drop "sign" (ex_nil ?_)
      rw [show colAt size (List.take (j + 1) lead.cps.toList) = colStep size (colAt size (lead.cps.toList.take j)) c by rw [List.take_add_one, hc]; simp [colAt, List.foldl_append]]
      rfl
    · rintro loc' rfl
      refine ex_cons (x_append (by rfl) (ev_name (by rfl)) (lz (by simp; (first | lia | omega))) ?_)
      refine ex_drop "size" (ex_drop "column" (ex_drop "sign" (ex_nil ?_)))
      rw [show (List.map (fun (k : Nat) => colAt (1 + (k : Int) * 1) lead.cps.toList) (List.range (i + 1))).map T.int = (List.map (fun (k : Nat) => colAt (1 + (k : Int) * 1) lead.cps.toList) (List.range i)).map T.int ++ [T.int (colAt size (lead.cps.toList.take (signT lead).length))] by
        rw [List.range_succ, List.map_append, List.map_append, ← hsz]
        rw [show lead.cps.toList.take (signT lead).length = lead.cps.toList from List.take_of_length_le (by simp [signT])]
        rfl]
      rfl
  · rintro loc' rfl
    refine ex_freeze (x := "columns") (by rfl) (ex_cons (x_ret (ev_name (by rfl)) ?_))
    show T.list _ = intsT _
    simp only [rangeT, cols, List.length_map, List.length_range]

theorem walk_sub {g : GC} (F : Fx g) (d : Nat) (a b : Str) (ha : a.length ≤ 900) (hb : b.length ≤ 900) (hne : (a == b) = false) (hl : (Txt.lower a == Txt.lower b) = false) (L f : Addr) (q : Str) (cd : Value) :
    Ex g d (envD (fnScope (nth 11)) L f q cd) (params ["ch_a", "ch_b"] [.str a, .str b]) (fnBody (nth 11)) (retQ (.int 2)) := by
  have K : ∀ y, ((fnScope (nth 11)).names.lookup y == some .globalImplicit) = true → (envD (fnScope (nth 11)) L f q cd).kindOf y = some .globalImplicit := fun y h => kiD (by simpa using h)
  refine ex_cons (x_pass (evB_is (evB_cmp (ev_name (by rfl)) (ev_name (by rfl)) (c_seq _ _)) hne) ?_)
  refine ex_cons (x_pass (evB_is (evB_cmp (ev_lower (ev_name (by rfl)) (by (first | lia | omega))) (ev_lower (ev_name (by rfl)) (by (first | lia | omega))) (c_seq _ _)) hl) ?_)
  exact ex_cons (x_ret (ev_glob (K _ (by decide +kernel)) F.move) rfl)
end Mine

open PySem PySem.W PySem.Calls PyProof.Rows
set_option linter.unusedVariables false
set_option maxRecDepth 100000
namespace Mine

theorem range_pick {α : Type} : ∀ (l : List α) (m : Nat), (List.range m).filterMap (fun k => l[k]?) = l.take m
  | [], m => by
    rw [List.take_nil, List.filterMap_eq_nil_iff]
    intro a _; simp
  | x :: l, 0 => by simp
  | x :: l, m + 1 => by
    rw [List.range_succ_eq_map, List.filterMap_cons]
    simp only [List.getElem?_cons_zero, List.filterMap_map, List.take_succ_cons]
    congr 1
    exact range_pick l m
theorem range_seg {α : Type} (l : List α) (lo m : Nat) : (List.range m).filterMap (fun k => l[lo + k]?) = (l.drop lo).take m := by
  rw [← range_pick]
  congr 1; funext k; rw [List.getElem?_drop]
theorem fm_congr {α β : Type} {f g : α → Option β} : ∀ {l : List α}, (∀ x ∈ l, f x = g x) → l.filterMap f = l.filterMap g
  | [], _ => rfl
  | x :: l, h => by
    rw [List.filterMap_cons, List.filterMap_cons, h x List.mem_cons_self, fm_congr fun y hy => h y (List.mem_cons_of_mem _ hy)]
theorem range_rev {α : Type} (l : List α) : (List.range l.length).filterMap (fun k => l[l.length - 1 - k]?) = l.reverse := by
  have h := range_pick l.reverse l.length
  rw [List.take_of_length_le (by simp)] at h
  rw [← h]
  exact fm_congr fun k hk => by rw [List.getElem?_reverse (by simpa using hk)]
theorem sliceRange_up (a b : Nat) : sliceRange a b 1 = (List.range (b - a)).map fun k => a + k := by
  unfold sliceRange
  simp only [show (1 : Int) > 0 by decide, if_true]
  have h1 : (if (a : Int) < b then ((b : Int) - a + 1 - 1) / 1 else 0 : Int).toNat = b - a := by
    split
    · rw [Int.ediv_one]; (first | lia | omega)
    · (first | lia | omega)
  rw [h1]
  refine List.map_congr_left fun k _ => by (first | lia | omega)
theorem sliceRange_down (n : Nat) : sliceRange ((n : Int) - 1) (-1) (-1) = (List.range n).map fun k => n - 1 - k := by
  unfold sliceRange
  simp only [show ¬ ((-1 : Int) > 0) by decide, if_false]
  have h1 : (if (n : Int) - 1 > -1 then ((n : Int) - 1 - -1 - -1 - 1) / - -1 else 0 : Int).toNat = n := by
    split
    · rw [show (- -1 : Int) = 1 by decide, Int.ediv_one]; (first | lia | omega)
    · (first | lia | omega)
  rw [h1]
  refine List.map_congr_left fun k _ => by (first | lia | omega)
theorem sliceT_rev (ts : List T) : sliceT ts none none (some (-1)) = ts.reverse := by
  rw [← range_rev]
  show (sliceRange ((ts.length : Int) - 1) (-1) (-1)).filterMap _ = _
  rw [sliceRange_down, List.filterMap_map]
  rfl
theorem sliceT_seg (ts : List T) (lo hi : Option Int) (a b : Nat) (ha : (sliceBounds lo hi none ts.length).1 = a) (hb : (sliceBounds lo hi none ts.length).2.1 = b) : sliceT ts lo hi none = (ts.drop a).take (b - a) := by
  unfold sliceT
  rw [ha, hb, show (sliceBounds lo hi none ts.length).2.2 = 1 from rfl, sliceRange_up, List.filterMap_map, ← range_seg]
  rfl
theorem sliceT_take (ts : List T) (k : Nat) : sliceT ts none (some (k : Int)) none = ts.take k := by
  rw [sliceT_seg ts _ _ 0 (min k ts.length) rfl (by
    show max 0 (min (if (k : Int) < 0 then (k : Int) + ts.length else k) (ts.length : Int)) = _
    rw [if_neg (by (first | lia | omega))]; (first | lia | omega))]
  rw [List.drop_zero, Nat.sub_zero, List.take_eq_take_iff]; (first | lia | omega)
theorem sliceT_init (ts : List T) : sliceT ts none (some (-1)) none = ts.dropLast := by
  rw [sliceT_seg ts _ _ 0 (ts.length - 1) rfl (by
    show max 0 (min ((-1 : Int) + ts.length) ts.length) = _
    (first | lia | omega))]
  rw [List.drop_zero, Nat.sub_zero, List.dropLast_eq_take]
theorem sliceT_last (ts : List T) : sliceT ts (some (-1)) none none = ts.drop (ts.length - 1) := by
  rw [sliceT_seg ts _ _ (ts.length - 1) ts.length (by
    show max 0 (min ((-1 : Int) + ts.length) ts.length) = _
    (first | lia | omega)) rfl]
  rw [List.take_of_length_le (by simp)]

theorem rs_up (n : Nat) : Builtin.Range.rangeSize 0 n 1 = n := by
  unfold Builtin.Range.rangeSize
  rw [if_pos (by decide)]
  split
  · rw [Int.ediv_one]; (first | lia | omega)
  · (first | lia | omega)
theorem rs_down (j : Nat) : Builtin.Range.rangeSize ((j : Int) - 1) (-1) (-1) = j := by
  unfold Builtin.Range.rangeSize
  rw [if_neg (by decide)]
  split
  · rw [show (- -1 : Int) = 1 by decide, Int.ediv_one]; (first | lia | omega)
  · (first | lia | omega)
theorem rs_two (n : Nat) : Builtin.Range.rangeSize 2 (2 * ((n : Int) + 1)) 2 = n := by
  unfold Builtin.Range.rangeSize
  rw [if_pos (by decide)]
  split
  · (first | lia | omega)
  · (first | lia | omega)
theorem small_up {n : Nat} (h : n ≤ 100000) : Builtin.Range.small 0 n 1 = true := PySem.small_one (by decide) (by decide) (by (first | lia | omega)) (by (first | lia | omega))
theorem small_down {j : Nat} (h : j ≤ 8) : Builtin.Range.small ((j : Int) - 1) (-1) (-1) = true := by
  have : ∀ j : Fin 9, Builtin.Range.small ((j.val : Int) - 1) (-1) (-1) = true := by decide +kernel
  exact this ⟨j, by (first | lia | omega)⟩
theorem small_two {j : Nat} (h : j ≤ 40) : Builtin.Range.small 2 (2 * ((j : Int) + 1)) 2 = true := by
  have : ∀ j : Fin 41, Builtin.Range.small 2 (2 * ((j.val : Int) + 1)) 2 = true := by decide +kernel
  exact this ⟨j, by (first | lia | omega)⟩
theorem nn (k : Nat) : (0 : Int) ≤ (k : Int) := Int.natCast_nonneg k
theorem nk (k : Nat) : (-1000 : Int) ≤ (k : Int) := Int.le_trans (by decide) (nn k)
theorem range_at {a : Int} {n i : Nat} {t : T} (h : (rangeT a 1 n)[i]? = some t) : i < n ∧ t = .int (a + (i : Nat)) := by
  unfold rangeT at h
  rw [List.getElem?_map] at h
  obtain ⟨k, hk, rfl⟩ := Option.map_eq_some_iff.mp h
  obtain ⟨h1, h2⟩ := List.getElem?_eq_some_iff.mp hk
  rw [List.getElem_range] at h2
  subst h2
  exact ⟨by simpa using h1, by rw [Int.mul_one]⟩
theorem range0_at {n i : Nat} {t : T} (h : (rangeT 0 1 n)[i]? = some t) : i < n ∧ t = .int (i : Nat) := by
  obtain ⟨h1, rfl⟩ := range_at h
  exact ⟨h1, by rw [Int.zero_add]⟩
theorem rangeD_at {j i : Nat} {t : T} (h : (rangeT ((j : Int) - 1) (-1) j)[i]? = some t) : i < j ∧ t = .int ((j - 1 - i : Nat) : Int) := by
  unfold rangeT at h
  rw [List.getElem?_map] at h
  obtain ⟨k, hk, rfl⟩ := Option.map_eq_some_iff.mp h
  obtain ⟨h1, h2⟩ := List.getElem?_eq_some_iff.mp hk
  rw [List.getElem_range] at h2
  subst h2
  have h3 : i < j := by simpa using h1
  exact ⟨h3, by congr 1; (first | lia | omega)⟩
theorem rangeT_len (a c : Int) (n : Nat) : (rangeT a c n).length = n := by simp [rangeT]
theorem lzn {n m : Nat} (h : n ≤ m) (hm : m ≤ 1000 := by decide) : n ≤ sizeLine := lz (Nat.le_trans h hm)
theorem lzm {α β : Type} {f : α → β} {l : List α} {m : Nat} (h : l.length ≤ m) (hm : m ≤ 1000 := by decide) : (l.map f).length ≤ sizeLine := by rw [List.length_map]; exact lzn h hm
end Mine

open PySem PySem.W PySem.Calls PyProof.Rows
set_option linter.unusedVariables false
set_option maxRecDepth 100000
namespace Mine

noncomputable def wayStep (C : List (List Int)) (st : List Int × List Int) (i : Nat) : List Int × List Int :=
  (if (List.zipWith (· - ·) (C.getD i []) st.2).all (· < 0) then st.1 ++ [(i : Int)] else st.1, List.zipWith min (C.getD i []) st.2)
noncomputable def waySt (C : List (List Int)) (j k : Nat) : List Int × List Int := (List.range k).foldl (fun st k => wayStep C st (j - 1 - k)) ([(j : Int)], C.getD j [])
noncomputable def wayOf (C : List (List Int)) (j : Nat) : List Int := (waySt C j j).1.reverse
noncomputable def ways (C : List (List Int)) : List (List Int) := (List.range C.length).map (wayOf C)
theorem waySt_succ (C : List (List Int)) (j k : Nat) : waySt C j (k + 1) = wayStep C (waySt C j k) (j - 1 - k) := by
  unfold waySt; rw [List.range_succ, List.foldl_append]; rfl

theorem waySt_len (C : List (List Int)) (j : Nat) : ∀ k, (waySt C j k).1.length ≤ k + 1
  | 0 => Nat.le_refl _
  | k + 1 => by
    rw [waySt_succ]
    have := waySt_len C j k
    simp only [wayStep]
    split
    · rw [List.length_append, List.length_singleton]; (first | lia | omega)
    · (first | lia | omega)
theorem max_of : ∀ (is : List Int), is ≠ [] → ∃ m, m ∈ is ∧ ∀ a ∈ is, a ≤ m
  | [], h => absurd rfl h
  | [x], _ => ⟨x, by simp, by simp⟩
  | x :: y :: r, _ => by
    obtain ⟨m, h1, h2⟩ := max_of (y :: r) (by simp)
    by_cases h : x ≤ m
    · exact ⟨m, List.mem_cons_of_mem _ h1, fun a ha => by
        rcases List.mem_cons.mp ha with q | q
        · rw [q]; exact h
        · exact h2 a q⟩
    · exact ⟨x, List.mem_cons_self, fun a ha => by
        rcases List.mem_cons.mp ha with q | q
        · rw [q]; exact Int.le_refl _
        · have := h2 a q; (first | lia | omega)⟩
theorem max_neg {is : List Int} {m : Int} (h1 : m ∈ is) (h2 : ∀ a ∈ is, a ≤ m) : decide (m < 0) = is.all (· < 0) := by
  rw [Bool.eq_iff_iff, decide_eq_true_eq, List.all_eq_true]
  constructor
  · intro h a ha
    have := h2 a ha
    simp; (first | lia | omega)
  · intro h
    simpa using h m h1

theorem zipT (f : Int → Int → Int) (F : T → T → T) (hF : ∀ a b, F (.int a) (.int b) = .int (f a b)) : ∀ (l r : List Int), List.zipWith F (l.map T.int) (r.map T.int) = (List.zipWith f l r).map T.int
  | [], _ => rfl
  | _ :: _, [] => rfl
  | a :: l, b :: r => by simp [hF, zipT f F hF l r]

noncomputable def intOp (f : Int → Int → Int) : T → T → T
  | .int a, .int b => .int (f a b)
  | _, _ => .none
noncomputable def colsT : T → T
  | .str s => intsT (cols s)
  | _ => .none

theorem tgt0 {env : Env} {scope : Scope} {cl : List (Str × Addr)} {cloc : Loc} {x : String} (h1 : ∀ C, (cenvOf scope cl C env).kindOf (Str.ofString x) = some .local) (h2 : ∀ C, cellsFrom (C + 1) scope.names cl = cl) (h3 : cl.lookup (Str.ofString x) = none) (h4 : Loc.get cloc x = none) : Target env scope cl cloc x :=
  ⟨fun C => .inl (h1 C), fun C c h => (by
    have h' : (cellsFrom (C + 1) scope.names cl).lookup (Str.ofString x) = some c := h
    rw [h2, h3] at h'; cases h') , h4⟩
theorem cols_len (s : Str) : (cols s).length = 7 := by simp [cols]

theorem walk_ways {g : GC} (F : Fx g) (d : Nat) (ls : List Str) (hn : ls.length ≤ 8) (ha : ∀ s ∈ ls, s.cps.all (· < 128) = true) (L f : Addr) (q : Str) (cd : Value) :
    Ex g (d + 1) (envD (fnScope (nth 16)) L f q cd) (params ["leads"] [.list (ls.map T.str)]) (fnBody (nth 16)) (retQ (rowsT (ways (ls.map cols)))) := by
  have S : ∀ y, ((fnScope (nth 16)).names.lookup (Str.ofString y) == some .local) = true → Stores (envD (fnScope (nth 16)) L f q cd) y := fun y h => stD (by simpa using h)
  have K : ∀ y, ((fnScope (nth 16)).names.lookup y == some .globalImplicit) = true → (envD (fnScope (nth 16)) L f q cd).kindOf y = some .globalImplicit := fun y h => kiD (by simpa using h)
  have hmap : ((ls.map T.str).filter fun _ => true).map colsT = (ls.map cols).map intsT := by
    rw [List.filter_eq_self.mpr (fun _ _ => rfl), List.map_map, List.map_map]; rfl
  refine ex_cons (x_assignC (comp_list (x := "lead") (cl := []) (cloc := []) (p := fun _ => true) (f := colsT) (it_list (ev_name (by rfl))) ⟨by rfl, by rfl, by decide +kernel, fun _ _ h => (nomatch h), fun _ _ h => (nomatch h), fun _ => .nil⟩ (tgt0 (fun C => by rfl) (fun C => by rfl) (by rfl) (by rfl))
    (fun C t _ => tests_nil) (fun C t ht _ => ?_) (by simp; (first | lia | omega))) (S _ (by decide +kernel)) ?_)
  · obtain ⟨s, hs, rfl⟩ := List.mem_map.mp ht
    exact ev_call (by rfl) F.colsAt F.cols.fn (evL_cons (ev_name (by rfl)) evL_nil) (F.cols.calls d _ _ rfl fun L q cd => walk_cols F d s (ha s hs) L _ q cd) (Nat.le_refl _)
  rw [hmap]
  generalize hC : ls.map cols = C
  have hCl : C.length = ls.length := by rw [← hC]; simp
  have hC7 : ∀ c ∈ C, c.length = 7 := fun c hc => by
    rw [← hC] at hc
    obtain ⟨s, _, rfl⟩ := List.mem_map.mp hc
    exact cols_len s
  refine ex_cons (x_assignF (evF_list evL_nil (lz (by simp))) (S _ (by decide +kernel)) ?_)
  refine ex_cons (x_for (it_range (n := ls.length) (evR_1 (F.range.at (K _ (by decide +kernel))) (ev_is (ev_len (F.len.at (K _ (by decide +kernel))) (evT_val (ev_name (by rfl))) (lzm hn)) (by rw [List.length_map]))) (small_up (Nat.le_trans hn (by decide))) (rs_up _)) (S _ (by decide +kernel))
    (fun i loc => loc = [("leads", .val (.list (ls.map T.str))), ("columns", .val (rowsT C)), ("ways", .own (((List.range i).map (wayOf C)).map intsT))]) (by rfl) ?_ ?_)
  · rintro j t loc' ht rfl
    obtain ⟨hj, rfl⟩ := range0_at ht
    have hget : ∀ i : Nat, i < C.length → (C.map intsT)[((i : Int)).toNat]? = some (intsT (C.getD i [])) := fun i hi => by
      simp [List.getElem?_map, List.getElem?_eq_getElem hi, List.getD_eq_getElem?_getD]
    have hjC : j < C.length := hCl.symm ▸ hj
    have hCz : (C.map intsT).length ≤ sizeLine := lzm (hCl.symm ▸ hn)
    have hlen7 : ∀ i : Nat, i < C.length → (C.getD i []).length = 7 := fun i hi => by
      rw [List.getD_eq_getElem?_getD, List.getElem?_eq_getElem hi]; exact hC7 _ (List.getElem_mem hi)
    refine ex_cons (x_assignF (evF_list (evL_cons (ev_name (by rfl)) evL_nil) (lz (by simp))) (S _ (by decide +kernel)) ?_)
    refine ex_cons (x_assign (ev_item (evT_val (ev_name (by rfl))) (ev_name (by rfl)) (nn _) (hget j hjC) hCz) (S _ (by decide +kernel)) ?_)
    have h7 : ∀ k, k ≤ j → (waySt C j k).2.length = 7 := fun k => by
      induction k with
      | zero => intro _; exact hlen7 j hjC
      | succ k ih =>
        intro hk
        rw [waySt_succ]
        simp only [wayStep, List.length_zipWith, hlen7 (j - 1 - k) (by (first | lia | omega)), ih (by (first | lia | omega))]; rfl
    refine ex_cons (x_for (it_range (n := j) (evR_3 (F.range.at (K _ (by decide +kernel))) (ev_bin (ev_name (by rfl)) ev_int (b_sub _ _)) (ev_neg ev_int) (ev_neg ev_int) (by decide) (by decide)) (small_down (by (first | lia | omega))) (rs_down j)) (S _ (by decide +kernel))
      (fun k loc => loc = [("leads", .val (.list (ls.map T.str))), ("columns", .val (rowsT C)), ("ways", .own (((List.range j).map (wayOf C)).map intsT)), ("j", .val (.int j)), ("way", .own ((waySt C j k).1.map T.int)), ("least", .val (intsT (waySt C j k).2))]) (by rfl) ?_ ?_)
    · rintro k t loc' ht rfl
      have hk : k < j := by
        rcases Nat.lt_or_ge k j with q | q
        · exact q
        · rw [List.getElem?_eq_none (by simpa [rangeT] using q)] at ht; cases ht
      simp only [rangeT, List.getElem?_map, List.getElem?_range hk, Option.map_some, Option.some.injEq] at ht
      generalize hi : j - 1 - k = i
      rw [show ((j : Int) - 1 + (k : Int) * -1) = (i : Int) by (first | lia | omega)] at ht
      subst ht
      have hiC : i < C.length := by (first | lia | omega)
      have hst := waySt_succ C j k
      rw [hi] at hst
      have hw7 := h7 k (by (first | lia | omega))
      have hwl := waySt_len C j k
      generalize waySt C j k = st at hst hw7 hwl
      have hz : ∀ f : Int → Int → Int, List.zipWith (intOp f) ((C.getD i []).map T.int) (st.2.map T.int) = (List.zipWith f (C.getD i []) st.2).map T.int := fun f => zipT f _ (fun _ _ => rfl) _ _
      have hne : List.zipWith (· - ·) (C.getD i []) st.2 ≠ [] := fun e => by
        have := congrArg List.length e
        rw [List.length_zipWith, hlen7 i hiC, hw7] at this; cases this
      obtain ⟨m, hm1, hm2⟩ := max_of _ hne
      refine ex_cons (x_if (c := (List.zipWith (· - ·) (C.getD i []) st.2).all (· < 0)) (evB_is (evB_cmp (ev_maxL (m := m) (is := List.zipWith (· - ·) (C.getD i []) st.2) (F.max.at (K _ (by decide +kernel)))
        (evT_fresh (hz _ ▸ evF_comp (comp_zip (x := "here") (y := "there") (cl := []) (cloc := []) (f := intOp (· - ·)) (F.zip.at (K _ (by decide +kernel))) (ev_item (evT_val (ev_name (by rfl))) (ev_name (by rfl)) (nn _) (hget i hiC) hCz) (ev_name (by rfl))
          ⟨by rfl, by rfl, by decide +kernel, fun _ _ h => (nomatch h), fun _ _ h => (nomatch h), fun _ => .nil⟩ (tgt0 (fun C => by rfl) (fun C => by rfl) (by rfl) (by rfl)) (tgt0 (fun C => by rfl) (fun C => by rfl) (by rfl) (by rfl))
          (fun _ t u ht hu => by
            obtain ⟨a, _, rfl⟩ := List.mem_map.mp ht
            obtain ⟨b, _, rfl⟩ := List.mem_map.mp hu
            exact ev_bin (ev_name (by rfl)) (ev_name (by rfl)) (b_sub _ _)) (by rw [List.length_map, hlen7 i hiC]; decide)))) hm1 hm2) ev_int (c_lt _ _)) (max_neg hm1 hm2)) ?_ ?_)
      · intro hc
        refine ex_cons (x_append (by rfl) (ev_name (by rfl)) ?_ (ex_nil ?_))
        · exact lz (by rw [List.length_map]; (first | lia | omega))
        refine ex_cons (x_assignC (hz _ ▸ comp_zip (x := "here") (y := "there") (cl := []) (cloc := []) (f := intOp min) (F.zip.at (K _ (by decide +kernel))) (ev_item (evT_val (ev_name (by rfl))) (ev_name (by rfl)) (nn _) (hget i hiC) hCz) (ev_name (by rfl))
          ⟨by rfl, by rfl, by decide +kernel, fun _ _ h => (nomatch h), fun _ _ h => (nomatch h), fun _ => .nil⟩ (tgt0 (fun C => by rfl) (fun C => by rfl) (by rfl) (by rfl)) (tgt0 (fun C => by rfl) (fun C => by rfl) (by rfl) (by rfl))
          (fun _ t u ht hu => by
            obtain ⟨a, _, rfl⟩ := List.mem_map.mp ht
            obtain ⟨b, _, rfl⟩ := List.mem_map.mp hu
            exact ev_min2 (F.min.at (by rfl)) (ev_name (by rfl)) (ev_name (by rfl))) (by rw [List.length_map, hlen7 i hiC]; decide)) (S _ (by decide +kernel)) ?_)
        refine ex_drop "i" (ex_nil ?_)
        rw [hst]
        simp only [wayStep, hc, if_true, List.map_append]
        rfl
      · intro hc
        refine ex_nil (ex_cons (x_assignC (hz _ ▸ comp_zip (x := "here") (y := "there") (cl := []) (cloc := []) (f := intOp min) (F.zip.at (K _ (by decide +kernel))) (ev_item (evT_val (ev_name (by rfl))) (ev_name (by rfl)) (nn _) (hget i hiC) hCz) (ev_name (by rfl))
          ⟨by rfl, by rfl, by decide +kernel, fun _ _ h => (nomatch h), fun _ _ h => (nomatch h), fun _ => .nil⟩ (tgt0 (fun C => by rfl) (fun C => by rfl) (by rfl) (by rfl)) (tgt0 (fun C => by rfl) (fun C => by rfl) (by rfl) (by rfl))
          (fun _ t u ht hu => by
            obtain ⟨a, _, rfl⟩ := List.mem_map.mp ht
            obtain ⟨b, _, rfl⟩ := List.mem_map.mp hu
            exact ev_min2 (F.min.at (by rfl)) (ev_name (by rfl)) (ev_name (by rfl))) (by rw [List.length_map, hlen7 i hiC]; decide)) (S _ (by decide +kernel)) ?_))
        refine ex_drop "i" (ex_nil ?_)
        rw [hst]
        simp only [wayStep, hc]
        rfl
    · rintro loc' rfl
      rw [show (rangeT ((j : Int) - 1) (-1) j).length = j from rangeT_len _ _ _]
      refine ex_cons (x_append (by rfl) (ev_fresh (evF_slice (evT_own (by rfl)) evP_no evP_no (evP_int (ev_neg ev_int)) (by decide) ?_)) (lz (by simp; (first | lia | omega))) ?_)
      · have := waySt_len C j j
        exact lz (by rw [List.length_map]; (first | lia | omega))
      refine ex_drop "j" (ex_drop "way" (ex_drop "least" (ex_nil ?_)))
      rw [show (-(1 : Int)) = -1 from rfl, sliceT_rev, List.range_succ, List.map_append, List.map_append, ← List.map_reverse]
      rfl
  · rintro loc' rfl
    refine ex_freeze (x := "ways") (by rfl) (ex_cons (x_ret (ev_name (by rfl)) ?_))
    show T.list _ = rowsT _
    rw [show (rangeT 0 1 ls.length).length = C.length by simp [rangeT, hCl]]
    rfl
end Mine

open PySem PySem.W PySem.Calls PyProof.Rows
set_option linter.unusedVariables false
set_option maxRecDepth 100000
namespace Mine

noncomputable def lists (n : Nat) : List (List Nat) := match n with
  | 0 => [[]]
  | n + 1 => (lists n).flatMap fun l => [32 :: l, 9 :: l]
noncomputable def allLeads : List Str := ((List.range 7).flatMap lists).map fun l => ⟨l.toArray⟩
noncomputable def isLead (s : Str) : Bool := decide (s.cps.size ≤ 6) && s.cps.all fun c => c == 32 || c == 9
theorem mem_lists : ∀ l : List Nat, (l.all fun c => c == 32 || c == 9) = true → l ∈ lists l.length
  | [], _ => by simp [lists]
  | c :: l, h => by
    rw [List.all_cons, Bool.and_eq_true] at h
    simp only [List.length_cons, lists, List.mem_flatMap]
    refine ⟨l, mem_lists l h.2, ?_⟩
    have := h.1
    simp only [Bool.or_eq_true, beq_iff_eq] at this
    rcases this with q | q <;> simp [q]
theorem mem_leads {s : Str} (h : isLead s = true) : s ∈ allLeads := by
  simp only [isLead, Bool.and_eq_true, decide_eq_true_eq] at h
  refine List.mem_map.mpr ⟨s.cps.toList, List.mem_flatMap.mpr ⟨s.cps.toList.length, ?_, mem_lists _ ?_⟩, ?_⟩
  · simp; (first | lia | omega)
  · rw [← Array.all_toList] at h; exact h.2
  · simp

noncomputable def bitsGo : Nat → Int → Str → Str
  | 0, _, acc => acc
  | n + 1, r, acc => if decide (1 < r) then bitsGo n (r.fdiv 2) (acc ++ (if r.fmod 2 == 1 then Str.ofString "\t" else Str.ofString " ")) else acc
noncomputable def piece : Nat → Str
  | 0 => Str.ofString " "
  | 1 => Str.ofString "\t"
  | 2 => Str.ofString "  \t"
  | _ => Str.ofString " \t"
noncomputable def turned (l : Str) : Str := let runs := Txt.split l (Str.ofString "\t"); Txt.join (Str.ofString "\t") (runs.dropLast.reverse ++ runs.drop (runs.length - 1))
noncomputable def leadNext (ls : List Str) (n : Int) : Str :=
  let kind := if ls.length > 0 then n.fmod 3 else 0
  let rest := n.fdiv 3
  if kind == 0 then bitsGo 7 (rest.fmod 127 + 1) (Str.ofString "")
  else if kind == 1 then Txt.slice (ls.getD (ls.length - 1) (Str.ofString "") ++ piece (rest.fmod 4).toNat) none (some 6)
  else turned (ls.getD (rest.fmod ls.length).toNat (Str.ofString ""))
noncomputable def leadsOf (told : List Int) : List Str := told.foldl (fun ls n => ls ++ [leadNext ls n]) []

theorem bits_ok : ∀ r : Fin 128, isLead (bitsGo 7 (r.val : Int) (Str.ofString "")) = true := by decide +kernel
theorem piece_ok : ∀ l ∈ allLeads, ∀ k : Fin 4, isLead (Txt.slice (l ++ piece k.val) none (some 6)) = true := by decide +kernel
noncomputable def permuted (runs : List Str) : List Str := runs.dropLast.reverse ++ runs.drop (runs.length - 1)
theorem turned_ok : ∀ l ∈ allLeads, (isLead (turned l) && decide (((permuted (Txt.split l (Str.ofString "\t"))).map (·.length)).sum + (permuted (Txt.split l (Str.ofString "\t"))).length * (Str.ofString "\t").length ≤ 16777216) && decide ((Txt.split l (Str.ofString "\t")).length ≤ 7)) = true := by decide +kernel
theorem small_lead : ∀ l ∈ allLeads, (decide (l.length ≤ 6) && l.cps.all (· < 128)) = true := by decide +kernel
end Mine

open PySem PySem.W PySem.Calls PyProof.Rows
set_option linter.unusedVariables false
set_option maxRecDepth 100000
namespace Mine

theorem fdiv3 (n : Int) : True := trivial
theorem leadNext_ok {ls : List Str} (h : ∀ l ∈ ls, isLead l = true) (n : Int) : isLead (leadNext ls n) = true := by
  unfold leadNext
  dsimp only
  have hm : ∀ a b : Int, 0 < b → 0 ≤ a.fmod b ∧ a.fmod b < b := fun a b hb => ⟨Int.fmod_nonneg_of_pos a hb, Int.fmod_lt_of_pos a hb⟩
  have hget : ∀ i : Nat, isLead (ls.getD i (Str.ofString "")) = true := fun i => by
    rw [List.getD_eq_getElem?_getD]
    cases q : ls[i]? with
    | none => decide +kernel
    | some l => exact h l (List.mem_of_getElem? q)
  generalize (if ls.length > 0 then n.fmod 3 else 0) = kind
  split
  · obtain ⟨h0, h1⟩ := hm (n.fdiv 3) 127 (by decide)
    have := bits_ok ⟨((n.fdiv 3).fmod 127 + 1).toNat, by (first | lia | omega)⟩
    rwa [show (((⟨((n.fdiv 3).fmod 127 + 1).toNat, by (first | lia | omega)⟩ : Fin 128).val : Int)) = (n.fdiv 3).fmod 127 + 1 by dsimp only; (first | lia | omega)] at this
  · split
    · obtain ⟨h0, h1⟩ := hm (n.fdiv 3) 4 (by decide)
      exact piece_ok _ (mem_leads (hget _)) ⟨((n.fdiv 3).fmod 4).toNat, by (first | lia | omega)⟩
    · have := turned_ok _ (mem_leads (hget ((n.fdiv 3).fmod ls.length).toNat))
      simp only [Bool.and_eq_true] at this
      exact this.1.1
theorem leadsGo_ok : ∀ (told : List Int) (ls : List Str), (∀ l ∈ ls, isLead l = true) → (told.foldl (fun ls n => ls ++ [leadNext ls n]) ls).length = ls.length + told.length ∧ ∀ l ∈ told.foldl (fun ls n => ls ++ [leadNext ls n]) ls, isLead l = true
  | [], ls, h => ⟨by simp, h⟩
  | n :: r, ls, h => by
    obtain ⟨h1, h2⟩ := leadsGo_ok r (ls ++ [leadNext ls n]) (fun l hl => by
      rcases List.mem_append.mp hl with q | q
      · exact h l q
      · rw [List.mem_singleton.mp q]; exact leadNext_ok h n)
    exact ⟨by rw [List.foldl_cons, h1]; simp; (first | lia | omega), h2⟩
theorem leadsOf_len (told : List Int) : (leadsOf told).length = told.length := by have := (leadsGo_ok told [] (fun _ h => nomatch h)).1; simpa [leadsOf] using this
theorem leadsOf_ok (told : List Int) : ∀ l ∈ leadsOf told, isLead l = true := (leadsGo_ok told [] (fun _ h => nomatch h)).2

section
variable {g : GC} {d : Nat} {env : Env} {loc : Loc} {Q : Fl → Loc → Prop}
theorem evT_is {e : Expr} {ts us : List T} (h : EvT g d env loc e ts) (q : ts = us) : EvT g d env loc e us := q ▸ h
end
theorem str_len_append (a b : Str) : (a ++ b).length = a.length + b.length := by show (a.cps ++ b.cps).size = _; rw [Array.size_append]; rfl

theorem walk_leads {g : GC} (F : Fx g) (d : Nat) (told : List Int) (hn : told.length ≤ 8) (L f : Addr) (q : Str) (cd : Value) :
    Ex g d (envD (fnScope (nth 14)) L f q cd) (params ["told"] [intsT told]) (fnBody (nth 14)) (retQ (.list ((leadsOf told).map T.str))) := by
  have S : ∀ y, ((fnScope (nth 14)).names.lookup (Str.ofString y) == some .local) = true → Stores (envD (fnScope (nth 14)) L f q cd) y := fun y h => stD (by simpa using h)
  have K : ∀ y, ((fnScope (nth 14)).names.lookup y == some .globalImplicit) = true → (envD (fnScope (nth 14)) L f q cd).kindOf y = some .globalImplicit := fun y h => kiD (by simpa using h)
  refine ex_cons (x_assignF (evF_list evL_nil (lz (by simp))) (S _ (by decide +kernel)) ?_)
  refine ex_cons (x_for (it_list (ev_name (by rfl))) (S _ (by decide +kernel)) (fun i loc => loc = [("told", .val (intsT told)), ("leads", .own ((leadsOf (told.take i)).map T.str))]) (by rfl) ?_ ?_)
  · rintro i t loc' ht rfl
    rw [List.getElem?_map] at ht
    obtain ⟨n, hn', rfl⟩ := Option.map_eq_some_iff.mp ht
    have hi : i < told.length := (List.getElem?_eq_some_iff.mp hn').1
    have hls := leadsOf_len (told.take i)
    rw [List.length_take_of_le (Nat.le_of_lt hi)] at hls
    have hok := leadsOf_ok (told.take i)
    have hnext : leadsOf (told.take (i + 1)) = leadsOf (told.take i) ++ [leadNext (leadsOf (told.take i)) n] := by
      rw [List.take_add_one, hn']; simp [leadsOf, List.foldl_append]
    rw [hnext]
    generalize leadsOf (told.take i) = ls at hls hok
    have hget : ∀ k : Nat, k < ls.length → (ls.map T.str)[k]? = some (.str (ls.getD k (Str.ofString ""))) := fun k hk => by
      rw [List.getElem?_map, List.getD_eq_getElem?_getD, List.getElem?_eq_getElem hk]; rfl
    have hsm : ∀ k : Nat, (ls.getD k (Str.ofString "")).length ≤ 6 := fun k => by
      rw [List.getD_eq_getElem?_getD]
      cases q : ls[k]? with
      | none => decide +kernel
      | some l =>
        have := small_lead l (mem_leads (hok l (List.mem_of_getElem? q)))
        rw [Bool.and_eq_true, decide_eq_true_eq] at this
        exact this.1
    have hi8 : ls.length ≤ 8 := hls ▸ Nat.le_trans (Nat.le_of_lt hi) hn
    have hlen : (ls.map T.str).length ≤ sizeLine := lzm hi8
    generalize hkind : (if ls.length > 0 then n.fmod 3 else 0) = kind
    refine ex_cons (x_assign (t := .int kind) (ev_if (c := decide (0 < (ls.length : Int))) (evB_is (evB_cmp (ev_len (F.len.at (K _ (by decide +kernel))) (evT_own (by rfl)) hlen) ev_int (c_gt _ _)) (by rw [List.length_map])) (fun hc => ev_is (ev_bin (ev_name (by rfl)) ev_int (b_mod _ _ (by decide))) ?_) (fun hc => ev_is ev_int ?_)) (S _ (by decide +kernel)) ?_)
    · rw [← hkind, if_pos (by simpa using hc)]
    · rw [← hkind, if_neg (by simpa using hc)]
    refine ex_cons (x_assign (ev_bin (ev_name (by rfl)) ev_int (b_div _ _ (by decide) (by rfl))) (S _ (by decide +kernel)) ?_)
    generalize hrest : n.fdiv 3 = rest
    have hm : ∀ a b : Int, 0 < b → 0 ≤ a.fmod b ∧ a.fmod b < b := fun a b hb => ⟨Int.fmod_nonneg_of_pos a hb, Int.fmod_lt_of_pos a hb⟩
    refine ex_cons (x_if (c := (kind == 0)) (evB_cmp (ev_name (by rfl)) ev_int (c_eq _ _)) (fun hc => ?_) (fun hc => ?_))
    · refine ex_cons (x_assign (ev_bin (ev_bin (ev_name (by rfl)) ev_int (b_mod _ _ (by decide))) ev_int (b_add _ _)) (S _ (by decide +kernel)) ?_)
      refine ex_cons (x_assign ev_str (S _ (by decide +kernel)) ?_)
      have hL : leadNext ls n = bitsGo 7 (rest.fmod 127 + 1) (Str.ofString "") := by
        unfold leadNext; dsimp only; rw [hkind, hrest, if_pos hc]
      obtain ⟨h0, h1⟩ := hm rest 127 (by decide)
      refine ex_cons (x_while (fun m loc => ∃ r acc, 0 ≤ r ∧ r < 2 ^ m ∧ m ≤ 7 ∧ acc.length + m ≤ 7 ∧ bitsGo m r acc = leadNext ls n ∧ loc = [("told", .val (intsT told)), ("leads", .own (ls.map T.str)), ("number", .val (.int n)), ("kind", .val (.int kind)), ("rest", .val (.int r)), ("lead", .val (.str acc))])
        7 ⟨_, _, by (first | lia | omega), by (first | lia | omega), by (first | lia | omega), by decide +kernel, hL.symm, by rfl⟩ ?_)
      rintro m loc' ⟨r, acc, hr0, hr1, hm7, hac, hb, rfl⟩
      refine ⟨decide (1 < r), evB_cmp (ev_name (by rfl)) ev_int (c_gt _ _), fun hc1 => ?_, fun hc1 => ?_⟩
      · cases m with
        | zero => have := of_decide_eq_true hc1; (first | lia | omega)
        | succ m =>
          simp only [bitsGo, hc1, if_true] at hb
          refine ex_cons (x_aug (t := .str (acc ++ (if r.fmod 2 == 1 then Str.ofString "\t" else Str.ofString " "))) (by rfl) (ev_if (t := .str (if r.fmod 2 == 1 then Str.ofString "\t" else Str.ofString " ")) (evB_cmp (ev_bin (ev_name (by rfl)) ev_int (b_mod _ _ (by decide))) ev_int (c_eq _ _)) (fun e => ev_is ev_str (by rw [if_pos e])) (fun e => ev_is ev_str (by rw [if_neg (by rw [e]; decide)]))) (i_cat _ _ (lz ?_)) (S _ (by decide +kernel)) ?_)
          · split
            · have : (Str.ofString "\t").length = 1 := by decide +kernel
              (first | lia | omega)
            · have : (Str.ofString " ").length = 1 := by decide +kernel
              (first | lia | omega)
          refine ex_cons (x_aug (by rfl) ev_int (i_div _ _ (by decide) (by rfl)) (S _ (by decide +kernel)) (ex_nil ?_))
          refine ⟨m, Nat.lt_succ_self _, _, _, ?_, ?_, by (first | lia | omega), ?_, hb, by rfl⟩
          · rw [Int.fdiv_eq_ediv_of_nonneg _ (by decide)]; (first | lia | omega)
          · rw [Int.fdiv_eq_ediv_of_nonneg _ (by decide)]
            have : (2 : Int) ^ (m + 1) = 2 ^ m * 2 := Int.pow_succ ..
            (first | lia | omega)
          · rw [str_len_append]
            split
            · have : (Str.ofString "\t").length = 1 := by decide +kernel
              (first | lia | omega)
            · have : (Str.ofString " ").length = 1 := by decide +kernel
              (first | lia | omega)
      · have hacc : acc = leadNext ls n := by
          cases m with
          | zero => exact hb
          | succ m => simpa only [bitsGo, hc1, Bool.false_eq_true, if_false] using hb
        subst hacc
        refine ex_nil (ex_cons (x_append (by rfl) (ev_name (by rfl)) hlen ?_))
        refine ex_drop "number" (ex_drop "kind" (ex_drop "rest" (ex_drop "lead" (ex_nil ?_))))
        rw [List.map_append]
        rfl
    · have hpos : 0 < ls.length := by
        rcases Nat.eq_zero_or_pos ls.length with h | h
        · rw [if_neg (by (first | lia | omega))] at hkind; subst hkind; cases hc
        · exact h
      refine ex_cons (x_if (c := (kind == 1)) (evB_cmp (ev_name (by rfl)) ev_int (c_eq _ _)) (fun hc1 => ?_) (fun hc1 => ?_))
      · obtain ⟨h0, h1⟩ := hm rest 4 (by decide)
        have hL : leadNext ls n = Txt.slice (ls.getD (ls.length - 1) (Str.ofString "") ++ piece (rest.fmod 4).toNat) none (some 6) := by
          unfold leadNext; dsimp only; rw [hkind, hrest, if_neg (by rw [hc]; decide), if_pos hc1]
        have hpl : (piece (rest.fmod 4).toNat).length ≤ 3 := by
          have : ∀ k : Fin 4, (piece k.val).length ≤ 3 := by decide +kernel
          exact this ⟨(rest.fmod 4).toNat, by (first | lia | omega)⟩
        have h6 := hsm (ls.length - 1)
        refine ex_cons (x_assign (ev_slice (ev_bin (ev_itemN (evT_own (by rfl)) (ev_neg ev_int) (by decide) (by rw [List.length_map]; (first | lia | omega)) (t := .str (ls.getD (ls.length - 1) (Str.ofString ""))) ?_ hlen)
          (ev_item (t := .str (piece (rest.fmod 4).toNat)) (evT_fresh (evF_list (evL_cons ev_str (evL_cons ev_str (evL_cons ev_str (evL_cons ev_str evL_nil)))) (lz (by simp)))) (ev_bin (ev_name (by rfl)) ev_int (b_mod _ _ (by decide))) h0 ?_ (lz (by simp))) (b_cat _ _ (lz (by (first | lia | omega))))) evP_no (evP_int ev_int) (lz (by rw [str_len_append]; (first | lia | omega)))) (S _ (by decide +kernel)) ?_)
        · rw [show ((-1 + ((ls.map T.str).length : Int)).toNat) = ls.length - 1 by rw [List.length_map]; (first | lia | omega)]
          exact hget _ (by (first | lia | omega))
        · have : ∀ k : Fin 4, [T.str (Str.ofString " "), T.str (Str.ofString "\t"), T.str (Str.ofString "  \t"), T.str (Str.ofString " \t")][k.val]? = some (.str (piece k.val))
            | ⟨0, _⟩ => rfl
            | ⟨1, _⟩ => rfl
            | ⟨2, _⟩ => rfl
            | ⟨3, _⟩ => rfl
          exact this ⟨(rest.fmod 4).toNat, by (first | lia | omega)⟩
        refine ex_nil (ex_nil (ex_cons (x_append (by rfl) (ev_name (by rfl)) hlen ?_)))
        refine ex_drop "number" (ex_drop "kind" (ex_drop "rest" (ex_drop "lead" (ex_nil ?_))))
        rw [List.map_append, hL]
        rfl
      · obtain ⟨h0, h1⟩ := hm rest ls.length (by (first | lia | omega))
        generalize hk : (rest.fmod ls.length).toNat = k at *
        have hL : leadNext ls n = turned (ls.getD k (Str.ofString "")) := by
          unfold leadNext; dsimp only; rw [hkind, hrest, if_neg (by rw [hc]; decide), if_neg (by rw [hc1]; decide), hk]
        have hlk : isLead (ls.getD k (Str.ofString "")) = true := by
          rw [List.getD_eq_getElem?_getD, List.getElem?_eq_getElem (show k < ls.length by (first | lia | omega))]
          exact hok _ (List.getElem_mem _)
        have ht := turned_ok _ (mem_leads hlk)
        simp only [Bool.and_eq_true, decide_eq_true_eq] at ht
        have h6 := hsm k
        refine ex_cons (x_assign (ev_fresh (evF_split (ev_item (evT_own (by rfl)) (ev_bin (ev_name (by rfl)) (ev_is (ev_len (F.len.at (K _ (by decide +kernel))) (evT_own (by rfl)) hlen) (by rw [List.length_map])) (b_mod _ _ (by (first | lia | omega)))) h0 (by rw [hk]; exact hget k (by (first | lia | omega))) hlen) ev_str (by decide +kernel) (lz (by (first | lia | omega))))) (S _ (by decide +kernel)) ?_)
        have hturn : turned (ls.getD k (Str.ofString "")) = Txt.join (Str.ofString "\t") ((Txt.split (ls.getD k (Str.ofString "")) (Str.ofString "\t")).dropLast.reverse ++ (Txt.split (ls.getD k (Str.ofString "")) (Str.ofString "\t")).drop ((Txt.split (ls.getD k (Str.ofString "")) (Str.ofString "\t")).length - 1)) := rfl
        generalize Txt.split (ls.getD k (Str.ofString "")) (Str.ofString "\t") = runs at ht hturn
        have hr : (runs.map T.str).length ≤ sizeLine := lzm ht.2
        refine ex_cons (x_assign (ev_join ev_str (evT_is (us := (runs.dropLast.reverse ++ runs.drop (runs.length - 1)).map T.str) (evT_fresh (evF_add (evT_fresh (evF_slice (evT_fresh (evF_slice (evT_val (ev_name (by rfl))) evP_no (evP_int (ev_neg ev_int)) evP_no (by decide) hr)) evP_no evP_no (evP_int (ev_neg ev_int)) (by decide) ?_)) (evT_fresh (evF_slice (evT_val (ev_name (by rfl))) (evP_int (ev_neg ev_int)) evP_no evP_no (by decide) hr)) ?_)) ?_) ?_) (S _ (by decide +kernel)) ?_)
        · rw [show (-(1 : Int)) = -1 from rfl, sliceT_init]; exact lz (by simp; (first | lia | omega))
        · rw [show (-(1 : Int)) = -1 from rfl, sliceT_rev, sliceT_init, sliceT_last]; exact lz (by simp; (first | lia | omega))
        · rw [show (-(1 : Int)) = -1 from rfl, sliceT_rev, sliceT_init, sliceT_last]; simp
        · exact ht.1.2
        refine ex_nil (ex_nil (ex_cons (x_append (by rfl) (ev_name (by rfl)) hlen ?_)))
        refine ex_drop "number" (ex_drop "kind" (ex_drop "rest" (ex_drop "runs" (ex_drop "lead" (ex_nil ?_)))))
        rw [List.map_append, hL, hturn]
        rfl
  · rintro loc' rfl
    rw [List.length_map, List.take_length]
    exact ex_freeze (x := "leads") (by rfl) (ex_cons (x_ret (ev_name (by rfl)) rfl))
end Mine

open PySem PySem.W PySem.Calls PyProof.Rows
set_option linter.unusedVariables false
set_option maxRecDepth 100000
namespace Mine

section
variable {g : GC} {d : Nat} {env : Env} {loc : Loc} {Q : Fl → Loc → Prop}
theorem Ex1.mono {st : Stmt} {Q' : Fl → Loc → Prop} (h : Ex1 g d env loc st Q) (hq : ∀ f l, Q f l → Q' f l) : Ex1 g d env loc st Q' := .mk fun A s W M R I =>
  h.to A s W M R I (fun f s₁ W₁ M₁ loc₁ fl I₁ st₁ hf q => ⟨W₁, M₁, loc₁, fl, I₁, st₁, hf, hq _ _ q⟩)
/-- the class called by its name -/
theorem ev_new {x : Str} {p pos : Pos} {e : Expr} {es : List Expr} {ts : List T} {t : T} {dd : Nat} (hk : env.kindOf x = some .globalImplicit) (hv : g.mg x = some (.ref g.C)) (hkeep : keepIn g.K (.ref g.C) = true) (h : EvL g d env loc (e :: es) ts)
    (hc : Calls g dd (.ref g.C) ts t) (hd : dd ≤ d) (hnd : (x == ("__debug__" : Str)) = false := by decide +kernel) (hs : ∀ env, starEach (e :: es) env = (false, eval e env) :: starEach es env := by intro _; rfl) (hplain : (backTo pos (starEach es env)).any (·.1) = false := by rfl) :
    Ev g d env loc (.Call (.Name x p) (e :: es) [] pos) t := .mk fun A s W M R I =>
  Call_ (nm_glob I hk hv (callWith_K (K := g.K) (kinB I.base) hkeep (h.to A s W M pos R I (fun vs s₁ r₁ k₁ => ⟨kinB (I.keeps k₁).base, wpAny_call (codeAny_mono (hc.run A s₁ W ([] ++ vs) (R.mono hd) (I.keeps k₁).base r₁) fun r s₂ ⟨v, e, rv, k₂⟩ => by
    subst e
    exact ⟨rv, kt k₁ k₂⟩)⟩)) (hs env) hplain) hnd)
theorem x_ifsetF {test value : Expr} {x : String} {px pos ipos : Pos} {c : Bool} {old ts r : List T} (h : EvB g d env loc test c) (hx : Loc.get loc x = some (.own old)) (hv : c = true → EvF g d env loc value ts) (hst : Stores env x)
    (h1 : c = true → r = ts) (h2 : c = false → r = old) (hq : Q .next (loc.set x (.own r))) (hs : swapsWith value (some (.Name (Str.ofString x) px)) pos.line env = pure false := by rfl) :
    Ex1 g d env loc (.If test [.Assign [.Name (Str.ofString x) px] value pos] [] ipos) Q := x_if h
  (fun e => ex_cons (x_assignF (hv e) hst (by rw [← h1 e]; exact ex_nil hq) hs))
  (fun e => ex_nil (by rw [h2 e, Loc.set_same hx] at hq; exact hq))
end

noncomputable def bump (cnt : List Int) (b : Nat) : List Int :=
  let cnt' := if cnt.length ≤ b then cnt ++ List.replicate (b - cnt.length + 1) 0 else cnt
  cnt'.set b (cnt'.getD b 0 + 1)
noncomputable def wsGo : List Nat → List Int → Nat → Nat → Nat → List Int × Nat × Nat × Nat
  | [], cnt, b, n, nt => (cnt, b, n, nt)
  | c :: r, cnt, b, n, nt => if ((⟨#[c]⟩ : Str) == Str.ofString " ") = true then wsGo r cnt (b + 1) (n + 1) nt else if ((⟨#[c]⟩ : Str) == Str.ofString "\t") = true then wsGo r (bump cnt b) 0 (n + 1) (nt + 1) else (cnt, b, n, nt)
noncomputable def wsT (x : Str) : T :=
  let r := wsGo x.cps.toList [] 0 0 0
  .ws x r.2.2.1 r.2.2.2 (.tup [.tup (r.1.map T.int), .int r.2.1]) (decide ((r.1.length : Int) ≤ 1))

/-- what the walk asks of the class -/
structure Fz (g : GC) (F : Fx g) (mc : Value) : Prop where
  keep : keepIn g.K (.ref g.C) = true
  reads : readsIn g.K g.C mc = true
  clsS : ∃ tk, findCls g.K (.ref g.C) mc "S" = some (.val (.str (Str.ofString " ") tk))
  clsT : ∃ tk, findCls g.K (.ref g.C) mc "T" = some (.val (.str (Str.ofString "\t") tk))
  cls : ∀ (d : Nat) (x : Str) (at' : List (String × T)) (n nt : Int) (norm : T) (simple : Bool),
    (∀ L a q cd, Ex g d (envD (fnScope (cth 1)) L F.fInit q cd) [("self", .obj (a, [])), ("ws", .val (.str x))] (fnBody (cth 1)) (fun fl l => fl = .next ∧ Loc.get l "self" = some (.obj (a, at')))) →
    getA at' "raw" = some (.str x) → getA at' "n" = some (.int n) → getA at' "nt" = some (.int nt) → getA at' "norm" = some norm → getA at' "is_simple" = some (.bool simple) →
    getA at' "less" = none → getA at' "indent_level" = none → getA at' "longest_run_of_spaces" = none → Calls g (d + 2) (.ref g.C) [.str x] (.ws x n nt norm simple)
  less : findIn g.K (.ref g.C) "less" = some (some (.ref F.fLess))
  lessT : typeIn g.K (.ref F.fLess) = some (.type "function")
  lessD : DefAt g (cth 6) ["self", "other"] F.fLess
  ind : findIn g.K (.ref g.C) "indent_level" = some (some (.ref F.fInd))
  indT : typeIn g.K (.ref F.fInd) = some (.type "function")
  indD : DefAt g (cth 3) ["self", "tabsize"] F.fInd
  long : findIn g.K (.ref g.C) "longest_run_of_spaces" = some (some (.ref F.fLong))
  longT : typeIn g.K (.ref F.fLong) = some (.type "function")
  longD : DefAt g (cth 2) ["self"] F.fLong

theorem bump_len (cnt : List Int) (b m : Nat) (h1 : cnt.length ≤ m) (h2 : b ≤ m) : (bump cnt b).length ≤ m + 1 := by
  unfold bump
  dsimp only
  rw [List.length_set]
  split
  · rw [List.length_append, List.length_replicate]; (first | lia | omega)
  · (first | lia | omega)

theorem walk_init {g : GC} (F : Fx g) {mc : Value} (Z : Fz g F mc) (d : Nat) (x : Str) (ha : x.cps.all (· < 128) = true) (hx : x.length ≤ 900) (L a f : Addr) (q : Str) (cd : Value) :
    Ex g d (envD (fnScope (cth 1)) L f q cd) [("self", .obj (a, [])), ("ws", .val (.str x))] (fnBody (cth 1))
      (fun fl l => fl = .next ∧ Loc.get l "self" = some (.obj (a, [("raw", .str x), ("n", .int (wsGo x.cps.toList [] 0 0 0).2.2.1), ("nt", .int (wsGo x.cps.toList [] 0 0 0).2.2.2), ("norm", .tup [.tup ((wsGo x.cps.toList [] 0 0 0).1.map T.int), .int (wsGo x.cps.toList [] 0 0 0).2.1]), ("is_simple", .bool (decide (((wsGo x.cps.toList [] 0 0 0).1.length : Int) ≤ 1)))]))) := by
  have S : ∀ y, ((fnScope (cth 1)).names.lookup (Str.ofString y) == some .local) = true → Stores (envD (fnScope (cth 1)) L f q cd) y := fun y h => stD (by simpa using h)
  have K : ∀ y, ((fnScope (cth 1)).names.lookup y == some .globalImplicit) = true → (envD (fnScope (cth 1)) L f q cd).kindOf y = some .globalImplicit := fun y h => kiD (by simpa using h)
  obtain ⟨tkS, hS⟩ := Z.clsS
  obtain ⟨tkT, hT⟩ := Z.clsT
  generalize htot : wsGo x.cps.toList [] 0 0 0 = tot
  refine ex_cons (x_setattr F.init F.ws.raw (by rfl) (ev_name (by rfl)) (by simp) ?_)
  refine ex_cons (x_swap (x := "S") (y := "T") (ev_tuple (evL_cons (ev_clsattr (K _ (by decide +kernel)) F.wsAt Z.reads hS) (evL_cons (ev_clsattr (K _ (by decide +kernel)) F.wsAt Z.reads hT) evL_nil)) (lz (by simp))) (S _ (by decide +kernel)) (S _ (by decide +kernel)) ?_)
  refine ex_cons (x_assignF (evF_list evL_nil (lz (by simp))) (S _ (by decide +kernel)) ?_)
  refine ex_cons (x_assign3 ev_int (S _ (by decide +kernel)) (S _ (by decide +kernel)) (S _ (by decide +kernel)) ?_)
  refine ex_cons (Ex1.mono (x_for (Q := fun fl l => fl = .next ∧ ∃ cnt b n nt, cnt.length ≤ 901 ∧ (cnt, b, n, nt) = tot ∧ Loc.del l "ch" = [("self", .obj (a, [("raw", .str x)])), ("ws", .val (.str x)), ("T", .val (.str (Str.ofString "\t"))), ("S", .val (.str (Str.ofString " "))), ("count", .own (cnt.map T.int)), ("b", .val (.int (b : Nat))), ("n", .val (.int (n : Nat))), ("nt", .val (.int (nt : Nat)))]) (it_signs (ev_objattr F.ws F.ws.raw (by rfl) (by rfl)) ha) (S _ (by decide +kernel))
    (fun i loc => ∃ cnt b n nt, cnt.length ≤ i ∧ b ≤ i ∧ wsGo (x.cps.toList.drop i) cnt b n nt = tot ∧ loc = [("self", .obj (a, [("raw", .str x)])), ("ws", .val (.str x)), ("T", .val (.str (Str.ofString "\t"))), ("S", .val (.str (Str.ofString " "))), ("count", .own (cnt.map T.int)), ("b", .val (.int (b : Nat))), ("n", .val (.int (n : Nat))), ("nt", .val (.int (nt : Nat)))])
    ⟨[], 0, 0, 0, Nat.le_refl _, Nat.le_refl _, htot, by rfl⟩ ?_ ?_) ?_)
  · rintro i t loc' ht ⟨cnt, b, n, nt, hcl, hbi, hgo, rfl⟩
    simp only [signT, List.getElem?_map] at ht
    obtain ⟨c, hc, rfl⟩ := Option.map_eq_some_iff.mp ht
    obtain ⟨hi, hci⟩ := List.getElem?_eq_some_iff.mp hc
    have hi' : i < x.length := show i < x.cps.size by simpa using hi
    rw [List.drop_eq_getElem_cons hi, hci] at hgo
    have hcz : (cnt.map T.int).length ≤ sizeLine := lzm (Nat.le_trans hcl (Nat.le_trans (Nat.le_of_lt hi') hx))
    refine ex_cons (x_if (evB_cmp (ev_name (by rfl)) (ev_name (by rfl)) (c_seq _ _)) (fun h1 => ?_) (fun h1 => ?_))
    · refine ex_cons (x_assign (ev_bin (ev_name (by rfl)) ev_int (b_add _ _)) (S _ (by decide +kernel)) ?_)
      refine ex_cons (x_assign (ev_bin (ev_name (by rfl)) ev_int (b_add _ _)) (S _ (by decide +kernel)) ?_)
      refine ex_nil (ex_drop "ch" (ex_nil ⟨cnt, b + 1, n + 1, nt, Nat.le_succ_of_le hcl, Nat.succ_le_succ hbi, ?_, by rfl⟩))
      rw [← hgo]; simp only [wsGo, h1, if_true]
    · refine ex_cons (x_if (evB_cmp (ev_name (by rfl)) (ev_name (by rfl)) (c_seq _ _)) (fun h2 => ?_) (fun h2 => ?_))
      · refine ex_cons (x_assign (ev_bin (ev_name (by rfl)) ev_int (b_add _ _)) (S _ (by decide +kernel)) ?_)
        refine ex_cons (x_assign (ev_bin (ev_name (by rfl)) ev_int (b_add _ _)) (S _ (by decide +kernel)) ?_)
        generalize hcnt' : (if cnt.length ≤ b then cnt ++ List.replicate (b - cnt.length + 1) 0 else cnt) = cnt'
        have hlen' : b < cnt'.length ∧ cnt'.length ≤ i + 1 := by
          rw [← hcnt']
          split
          · rw [List.length_append, List.length_replicate]; (first | lia | omega)
          · (first | lia | omega)
        refine ex_cons (x_ifsetF (r := cnt'.map T.int) (evB_cmp (ev_name (by rfl)) (ev_is (ev_len (F.len.at (K _ (by decide +kernel))) (evT_own (by rfl)) hcz) (by rw [List.length_map])) (c_ge _ _)) (by rfl)
          (fun hc => evF_add (evT_own (by rfl)) (evT_fresh (evF_mul (evT_fresh (evF_list (evL_cons ev_int evL_nil) (lz (by simp)))) (ev_bin (ev_bin (ev_name (by rfl)) (ev_is (ev_len (F.len.at (K _ (by decide +kernel))) (evT_own (by rfl)) hcz) (by rw [List.length_map])) (b_sub _ _)) ev_int (b_add _ _)) (by (first | lia | omega)))) (lz (by rw [List.length_map, List.length_replicate]; (first | lia | omega))))
          (S _ (by decide +kernel)) (fun hc => ?_) (fun hc => ?_) ?_)
        · have hc' : cnt.length ≤ b := by have := of_decide_eq_true hc; (first | lia | omega)
          rw [← hcnt', if_pos hc', List.map_append, List.map_replicate, show ((b : Int) - (cnt.length : Int) + 1).toNat = b - cnt.length + 1 by (first | lia | omega)]
        · have hc' : ¬ cnt.length ≤ b := by have := of_decide_eq_false hc; (first | lia | omega)
          rw [← hcnt', if_neg hc']
        refine ex_cons (x_setitem (by rfl) (ev_bin (ev_item (t := .int (cnt'.getD b 0)) (evT_own (by rfl)) (ev_name (by rfl)) (nn _) ?_ (lz (by rw [List.length_map]; (first | lia | omega)))) ev_int (b_add _ _)) (ev_name (by rfl)) (nn _) (by rw [List.length_map]; (first | lia | omega)) (lz (by rw [List.length_map]; (first | lia | omega))) ?_)
        · rw [List.getElem?_map, List.getD_eq_getElem?_getD, show ((b : Int)).toNat = b from rfl, List.getElem?_eq_getElem hlen'.1]; rfl
        refine ex_cons (x_assign ev_int (S _ (by decide +kernel)) ?_)
        refine ex_nil (ex_nil (ex_drop "ch" (ex_nil ⟨bump cnt b, 0, n + 1, nt + 1, bump_len _ _ _ hcl hbi, Nat.zero_le _, ?_, ?_⟩)))
        · rw [← hgo]; simp only [wsGo, h1, h2, if_true, Bool.false_eq_true, if_false]
        · rw [show (bump cnt b).map T.int = (cnt'.map T.int).set ((b : Int)).toNat (.int (cnt'.getD b 0 + 1)) by
            unfold bump; dsimp only; rw [hcnt', List.map_set]; rfl]
          rfl
      · have htot' : (cnt, b, n, nt) = tot := by rw [← hgo]; simp only [wsGo, h1, h2, Bool.false_eq_true, if_false]
        exact ex_cons (x_brk ⟨rfl, cnt, b, n, nt, by (first | lia | omega), htot', by rfl⟩)
  · rintro loc' ⟨cnt, b, n, nt, hcl, hbi, hgo, rfl⟩
    have hl : (signT x).length = x.length := by simp [signT]; rfl
    refine ⟨rfl, cnt, b, n, nt, by (first | lia | omega), ?_, by rfl⟩
    rw [← hgo, List.drop_eq_nil_of_le (by simp [signT])]
    rfl
  · rintro fl l ⟨rfl, cnt, b, n, nt, hcl, rfl, hl⟩
    refine ex_drop "ch" ?_
    rw [hl]
    refine ex_cons (x_setattr F.init F.ws.n (by rfl) (ev_name (by rfl)) (by simp) ?_)
    refine ex_cons (x_setattr F.init F.ws.nt (by rfl) (ev_name (by rfl)) (by simp [setA]) ?_)
    refine ex_cons (x_setattr F.init F.ws.norm (by rfl) (ev_tuple (evL_cons (ev_tupL (F.tuple.at (K _ (by decide +kernel))) (evT_own (by rfl)) (lzm hcl)) (evL_cons (ev_name (by rfl)) evL_nil)) (lz (by simp))) (by simp [setA]) ?_)
    refine ex_cons (x_setattr F.init F.ws.simple (by rfl) (ev_cmp (ev_is (ev_len (F.len.at (K _ (by decide +kernel))) (evT_own (by rfl)) (lzm hcl)) (by rw [List.length_map])) ev_int (c_le _ _)) (by simp [setA]) ?_)
    exact ex_nil ⟨rfl, by rfl⟩
end Mine

open PySem PySem.W PySem.Calls PyProof.Rows
set_option linter.unusedVariables false
set_option maxRecDepth 100000
namespace Mine

section
variable {g : GC} {d : Nat} {env : Env} {loc : Loc} {Q : Fl → Loc → Prop}
theorem ev_lenT {x : Str} {p pos : Pos} {e : Expr} {ts : List T} (B : BltIs g env x (.builtin "len")) (h : Ev g d env loc e (.tup ts)) (hsz : ts.length ≤ sizeLine) (he : ∀ env, starEach [e] env = [(false, eval e env)] := by intro _; rfl) :
    Ev g d env loc (.Call (.Name x p) [e] [] pos) (.int ts.length) := .mk fun A s W M R I =>
  callB1 B I (h.to A s W M R I (fun v s₁ hr0 k₁ => by
    simp only [Rep] at hr0
    obtain ⟨a, xs, n, rfl, hw, hl, hr⟩ := hr0
    have := size_of hr
    rw [sizeLine_eq] at hsz
    refine PyProof.Rows.len_tuple (t := a) (items := xs) ⟨_, hl, rfl, n, rfl⟩ (by (first | lia | omega)) ⟨?_, kt k₁ ktok⟩
    simp only [Rep]
    exact ⟨_, by rw [this]⟩)) (he env)
end

theorem np_small {a b : Int} (h : b.natAbs < 2 ^ 64) : Builtin.divisionGoesByPylong a b = false := by
  unfold Builtin.divisionGoesByPylong
  dsimp only
  have : ¬ (if (b == 0) = true then 0 else b.natAbs.log2 / 30 + 1) > 300 := by
    split
    · decide
    · rename_i hb
      have h0 : b.natAbs ≠ 0 := by simpa using hb
      have := (Nat.log2_lt h0).mpr h
      (first | lia | omega)
  rw [Bool.and_eq_false_iff]
  exact .inl (decide_eq_false this)

noncomputable def longRun (cnt : List Int) (b : Nat) : Int := max ((cnt.length : Int) - 1) b
noncomputable def ilAt (cnt : List Int) (ts k : Nat) : Int := (List.range k).foldl (fun il k => il + ((ts + k : Nat) : Int).fdiv ts * cnt.getD (ts + k) 0) 0
noncomputable def indent (cnt : List Int) (b nt ts : Nat) : Int := b + ts * (ilAt cnt ts (cnt.length - ts) + nt)
noncomputable def wsR (x : Str) (r : List Int × Nat × Nat × Nat) : T := .ws x r.2.2.1 r.2.2.2 (.tup [.tup (r.1.map T.int), .int r.2.1]) (decide ((r.1.length : Int) ≤ 1))
theorem rs_seg (a b : Nat) : Builtin.Range.rangeSize a b 1 = ((b - a : Nat) : Int) := by
  unfold Builtin.Range.rangeSize
  rw [if_pos (by decide)]
  split
  · rw [Int.ediv_one]; (first | lia | omega)
  · (first | lia | omega)

theorem walk_long {g : GC} (F : Fx g) (d : Nat) (x : Str) (r : List Int × Nat × Nat × Nat) (hl : r.1.length ≤ 900) (L f : Addr) (q : Str) (cd : Value) :
    Ex g d (envD (fnScope (cth 2)) L f q cd) (params ["self"] [wsR x r]) (fnBody (cth 2)) (retQ (.int (longRun r.1 r.2.1))) := by
  have S : ∀ y, ((fnScope (cth 2)).names.lookup (Str.ofString y) == some .local) = true → Stores (envD (fnScope (cth 2)) L f q cd) y := fun y h => stD (by simpa using h)
  have K : ∀ y, ((fnScope (cth 2)).names.lookup y == some .globalImplicit) = true → (envD (fnScope (cth 2)) L f q cd).kindOf y = some .globalImplicit := fun y h => kiD (by simpa using h)
  refine ex_cons (x_pair (x := "count") (y := "trailing") (ev_norm F.ws (ev_name (by rfl))) (S _ (by decide +kernel)) (S _ (by decide +kernel)) ?_)
  refine ex_cons (x_ret (ev_max2 (F.max.at (K _ (by decide +kernel))) (ev_bin (ev_is (ev_lenT (F.len.at (K _ (by decide +kernel))) (ev_name (by rfl)) (lzm hl)) (by rw [List.length_map])) ev_int (b_sub _ _)) (ev_name (by rfl))) rfl)

theorem walk_indent {g : GC} (F : Fx g) (d : Nat) (x : Str) (r : List Int × Nat × Nat × Nat) (hl : r.1.length ≤ 900) (ts : Nat) (h0 : 1 ≤ ts) (h1 : ts ≤ 900) (L f : Addr) (q : Str) (cd : Value) :
    Ex g d (envD (fnScope (cth 3)) L f q cd) (params ["self", "tabsize"] [wsR x r, .int ts]) (fnBody (cth 3)) (retQ (.int (indent r.1 r.2.1 r.2.2.2 ts))) := by
  have S : ∀ y, ((fnScope (cth 3)).names.lookup (Str.ofString y) == some .local) = true → Stores (envD (fnScope (cth 3)) L f q cd) y := fun y h => stD (by simpa using h)
  have K : ∀ y, ((fnScope (cth 3)).names.lookup y == some .globalImplicit) = true → (envD (fnScope (cth 3)) L f q cd).kindOf y = some .globalImplicit := fun y h => kiD (by simpa using h)
  have hcz : (r.1.map T.int).length ≤ sizeLine := lzm hl
  refine ex_cons (x_pair (x := "count") (y := "trailing") (ev_norm F.ws (ev_name (by rfl))) (S _ (by decide +kernel)) (S _ (by decide +kernel)) ?_)
  refine ex_cons (x_assign ev_int (S _ (by decide +kernel)) ?_)
  refine ex_cons (x_for (it_range (n := r.1.length - ts) (evR_2 (F.range.at (K _ (by decide +kernel))) (ev_name (by rfl)) (ev_is (ev_lenT (F.len.at (K _ (by decide +kernel))) (ev_name (by rfl)) hcz) (by rw [List.length_map]))) (PySem.small_one (by (first | lia | omega)) (by (first | lia | omega)) (by (first | lia | omega)) (by (first | lia | omega))) (rs_seg _ _)) (S _ (by decide +kernel))
    (fun k loc => loc = [("self", .val (wsR x r)), ("tabsize", .val (.int ts)), ("count", .val (.tup (r.1.map T.int))), ("trailing", .val (.int r.2.1)), ("il", .val (.int (ilAt r.1 ts k)))]) (by rfl) ?_ ?_)
  · rintro k t loc' ht rfl
    have hk : k < r.1.length - ts := by
      rcases Nat.lt_or_ge k (r.1.length - ts) with q | q
      · exact q
      · rw [List.getElem?_eq_none (by simpa [rangeT] using q)] at ht; cases ht
    simp only [rangeT, List.getElem?_map, List.getElem?_range hk, Option.map_some, Option.some.injEq] at ht
    rw [show ((ts : Int) + (k : Int) * 1) = ((ts + k : Nat) : Int) by (first | lia | omega)] at ht
    subst ht
    have hb : (((ts + k : Nat) : Int).fdiv ts).natAbs ≤ 100000 := by
      rw [Int.fdiv_eq_ediv_of_nonneg _ (by (first | lia | omega))]
      have h1 : ((ts + k : Nat) : Int) / (ts : Int) ≤ ((ts + k : Nat) : Int) := Int.ediv_le_self _ (by (first | lia | omega))
      have h2 : 0 ≤ ((ts + k : Nat) : Int) / (ts : Int) := Int.ediv_nonneg (by (first | lia | omega)) (by (first | lia | omega))
      (first | lia | omega)
    refine ex_cons (x_assign (ev_bin (ev_name (by rfl)) (ev_bin (ev_bin (ev_name (by rfl)) (ev_name (by rfl)) (b_div _ _ (by (first | lia | omega)) (np_small (by (first | lia | omega))))) (ev_itemT (t := .int (r.1.getD (ts + k) 0)) (ev_name (by rfl)) (ev_name (by rfl)) (nn _) ?_ hcz) (b_mul _ _ hb)) (b_add _ _)) (S _ (by decide +kernel)) ?_)
    · rw [List.getElem?_map, List.getD_eq_getElem?_getD, show (((ts + k : Nat) : Int)).toNat = ts + k from rfl, List.getElem?_eq_getElem (show ts + k < r.1.length by (first | lia | omega))]; rfl
    refine ex_drop "i" (ex_nil ?_)
    rw [show ilAt r.1 ts (k + 1) = ilAt r.1 ts k + ((ts + k : Nat) : Int).fdiv ts * r.1.getD (ts + k) 0 by unfold ilAt; rw [List.range_succ, List.foldl_append]; rfl]
    rfl
  · rintro loc' rfl
    refine ex_cons (x_ret (ev_bin (ev_name (by rfl)) (ev_bin (ev_name (by rfl)) (ev_bin (ev_name (by rfl)) (ev_nt F.ws (ev_name (by rfl))) (b_add _ _)) (b_mul _ _ (by (first | lia | omega)))) (b_add _ _)) ?_)
    show T.int _ = T.int _
    rw [show (rangeT (ts : Int) 1 (r.1.length - ts)).length = r.1.length - ts from rangeT_len _ _ _]
    rfl

noncomputable def lessR (r1 r2 : List Int × Nat × Nat × Nat) : Bool :=
  if r2.2.2.1 ≤ r1.2.2.1 then false
  else if decide ((r1.1.length : Int) ≤ 1) && decide ((r2.1.length : Int) ≤ 1) then decide (r1.2.2.2 ≤ r2.2.2.2)
  else (List.range ((max (longRun r1.1 r1.2.1) (longRun r2.1 r2.2.1)).toNat)).all fun k => decide (indent r1.1 r1.2.1 r1.2.2.2 (2 + k) < indent r2.1 r2.2.1 r2.2.2.2 (2 + k))

theorem walk_less {g : GC} (F : Fx g) {mc : Value} (Z : Fz g F mc) (d : Nat) (x1 x2 : Str) (r1 r2 : List Int × Nat × Nat × Nat) (hl1 : r1.1.length ≤ 800) (hl2 : r2.1.length ≤ 800) (hb1 : r1.2.1 ≤ 800) (hb2 : r2.2.1 ≤ 800) (L f : Addr) (q : Str) (cd : Value) :
    Ex g (d + 1) (envD (fnScope (cth 6)) L f q cd) (params ["self", "other"] [wsR x1 r1, wsR x2 r2]) (fnBody (cth 6)) (retQ (.bool (lessR r1 r2))) := by
  have S : ∀ y, ((fnScope (cth 6)).names.lookup (Str.ofString y) == some .local) = true → Stores (envD (fnScope (cth 6)) L f q cd) y := fun y h => stD (by simpa using h)
  have K : ∀ y, ((fnScope (cth 6)).names.lookup y == some .globalImplicit) = true → (envD (fnScope (cth 6)) L f q cd).kindOf y = some .globalImplicit := fun y h => kiD (by simpa using h)
  refine ex_cons (x_if (evB_cmp (ev_n F.ws (ev_name (by rfl))) (ev_n F.ws (ev_name (by rfl))) (c_ge _ _)) (fun hc => ?_) (fun hc => ex_nil ?_))
  · refine ex_cons (x_ret ev_bool ?_)
    have : r2.2.2.1 ≤ r1.2.2.1 := by have := of_decide_eq_true hc; (first | lia | omega)
    show T.bool _ = T.bool _
    rw [lessR, if_pos this]
  have hn : ¬ r2.2.2.1 ≤ r1.2.2.1 := by have := of_decide_eq_false hc; (first | lia | omega)
  refine ex_cons (x_if (evB_and (evB_plain (ev_simple F.ws (ev_name (by rfl))) (t_bool _)) (fun _ => evB_and (evB_plain (ev_simple F.ws (ev_name (by rfl))) (t_bool _)) (fun _ => evB_and_nil))) (fun hs => ?_) (fun hs => ex_nil ?_))
  · refine ex_cons (x_ret (ev_cmp (ev_nt F.ws (ev_name (by rfl))) (ev_nt F.ws (ev_name (by rfl))) (c_le _ _)) ?_)
    show T.bool _ = T.bool _
    rw [lessR, if_neg hn, if_pos (by simpa using hs)]
    congr 1
    simp only [Int.ofNat_le]
  have hs' : ¬ (decide ((r1.1.length : Int) ≤ 1) && decide ((r2.1.length : Int) ≤ 1)) = true := by
    intro h; rw [Bool.and_true] at hs; rw [h] at hs; cases hs
  have long : ∀ (d : Nat) x (r : List Int × Nat × Nat × Nat), r.1.length ≤ 800 → Calls g (d + 1) (.ref F.fLong) [wsR x r] (.int (longRun r.1 r.2.1)) := fun d x r h => Z.longD.calls d _ _ rfl fun L q cd => walk_long F d x r (Nat.le_trans h (by decide)) L _ q cd
  have ind : ∀ (d : Nat) x (r : List Int × Nat × Nat × Nat) (ts : Nat), r.1.length ≤ 800 → 1 ≤ ts → ts ≤ 900 → Calls g (d + 1) (.ref F.fInd) [wsR x r, .int ts] (.int (indent r.1 r.2.1 r.2.2.2 ts)) := fun d x r ts h h0 h1 => Z.indD.calls d _ _ rfl fun L q cd => walk_indent F d x r (Nat.le_trans h (by decide)) ts h0 h1 L _ q cd
  refine ex_cons (x_assign (ev_bin (ev_max2 (F.max.at (K _ (by decide +kernel))) (ev_meth0 F.ws (ev_name (by rfl)) (.inr (.inr rfl)) Z.long Z.longT Z.longD.fn (long d _ _ hl1) (Nat.le_refl _)) (ev_meth0 F.ws (ev_name (by rfl)) (.inr (.inr rfl)) Z.long Z.longT Z.longD.fn (long d _ _ hl2) (Nat.le_refl _))) ev_int (b_add _ _)) (S _ (by decide +kernel)) ?_)
  have hN0 : 0 ≤ max (longRun r1.1 r1.2.1) (longRun r2.1 r2.2.1) ∧ max (longRun r1.1 r1.2.1) (longRun r2.1 r2.2.1) ≤ 800 := by unfold longRun; (first | lia | omega)
  have hless : lessR r1 r2 = (List.range ((max (longRun r1.1 r1.2.1) (longRun r2.1 r2.2.1)).toNat)).all fun k => decide (indent r1.1 r1.2.1 r1.2.2.2 (2 + k) < indent r2.1 r2.2.1 r2.2.2.2 (2 + k)) := by rw [lessR, if_neg hn, if_neg hs']
  generalize max (longRun r1.1 r1.2.1) (longRun r2.1 r2.2.1) = N at hN0 hless
  obtain ⟨N, rfl⟩ := Int.eq_ofNat_of_zero_le hN0.1
  rw [show ((N : Int)).toNat = N from rfl] at hless
  have hrs : Builtin.Range.rangeSize 2 ((N : Int) + 1 + 1) 1 = (N : Int) := by
    have := rs_seg 2 (N + 1 + 1)
    rw [show N + 1 + 1 - 2 = N by (first | lia | omega)] at this
    exact this
  refine ex_cons (x_for (it_range (n := N) (evR_2 (F.range.at (K _ (by decide +kernel))) ev_int (ev_bin (ev_name (by rfl)) ev_int (b_add _ _))) (PySem.small_one (by (first | lia | omega)) (by (first | lia | omega)) (by (first | lia | omega)) (by (first | lia | omega))) hrs) (S _ (by decide +kernel))
    (fun k loc => (∀ i, i < k → indent r1.1 r1.2.1 r1.2.2.2 (2 + i) < indent r2.1 r2.2.1 r2.2.2.2 (2 + i)) ∧ loc = [("self", .val (wsR x1 r1)), ("other", .val (wsR x2 r2)), ("n", .val (.int ((N : Int) + 1)))]) ⟨fun _ h => absurd h (Nat.not_lt_zero _), by rfl⟩ ?_ ?_)
  · rintro k t loc' ht ⟨hall, rfl⟩
    have hk : k < N := by
      rcases Nat.lt_or_ge k N with q | q
      · exact q
      · rw [List.getElem?_eq_none (by simpa [rangeT] using q)] at ht; cases ht
    simp only [rangeT, List.getElem?_map, List.getElem?_range hk, Option.map_some, Option.some.injEq] at ht
    rw [show ((2 : Int) + (k : Int) * 1) = ((2 + k : Nat) : Int) by (first | lia | omega)] at ht
    subst ht
    refine ex_cons (x_if (evB_cmp (ev_meth F.ws (ev_name (by rfl)) (.inr (.inl rfl)) Z.ind Z.indT Z.indD.fn (evL_cons (ev_name (by rfl)) evL_nil) (ind d x1 r1 (2 + k) hl1 (by (first | lia | omega)) (by (first | lia | omega))) (Nat.le_refl _) (hm := ⟨fun _ => rfl⟩)) (ev_meth F.ws (ev_name (by rfl)) (.inr (.inl rfl)) Z.ind Z.indT Z.indD.fn (evL_cons (ev_name (by rfl)) evL_nil) (ind d x2 r2 (2 + k) hl2 (by (first | lia | omega)) (by (first | lia | omega))) (Nat.le_refl _) (hm := ⟨fun _ => rfl⟩)) (c_ge _ _)) (fun hc => ?_) (fun hc => ?_))
    · refine ex_cons (x_ret ev_bool ?_)
      show T.bool false = T.bool (lessR r1 r2)
      have := of_decide_eq_true hc
      rw [hless]
      congr 1
      symm
      rw [List.all_eq_false]
      exact ⟨k, List.mem_range.mpr hk, by simp; (first | lia | omega)⟩
    · have := of_decide_eq_false hc
      refine ex_nil (ex_drop "ts" (ex_nil ⟨fun i hi => ?_, by rfl⟩))
      rcases Nat.lt_or_ge i k with q | q
      · exact hall i q
      · rw [show i = k by (first | lia | omega)]; (first | lia | omega)
  · rintro loc' ⟨hall, rfl⟩
    rw [show (rangeT 2 1 N).length = N by simp [rangeT]] at hall
    refine ex_cons (x_ret ev_bool ?_)
    show T.bool true = T.bool (lessR r1 r2)
    rw [hless]
    congr 1
    symm
    rw [List.all_eq_true]
    exact fun i hi => decide_eq_true (hall i (List.mem_range.mp hi))
end Mine

open PySem PySem.W PySem.Calls PyProof.Rows
set_option linter.unusedVariables false
set_option maxRecDepth 100000
namespace Mine

noncomputable def S (l : List Nat) : Str := ⟨l.toArray⟩
theorem S_len (l : List Nat) : (S l).length = l.length := by show l.toArray.size = _; simp
theorem lzS {l : List Nat} {m : Nat} (h : l.length ≤ m) (hm : m ≤ 1000 := by decide) : (S l).length ≤ sizeLine := by rw [S_len]; exact lzn h hm
theorem drop_le {l : List Nat} {k m : Nat} (h : l.length ≤ m) : (l.drop k).length ≤ m := Nat.le_trans (by rw [List.length_drop]; exact Nat.sub_le ..) h
theorem app_le {a b : List Nat} (h1 : a.length ≤ 8) (h2 : b.length ≤ 8) : (a ++ b).length ≤ 900 := by rw [List.length_append]; (first | lia | omega)
theorem app_lt {a b : List Nat} {k : Nat} (h : k < a.length) : k < (a ++ b).length := by rw [List.length_append]; exact Nat.lt_add_right _ h
theorem app_lt' {a b : List Nat} (h : 0 < b.length) : a.length < (a ++ b).length := by rw [List.length_append]; exact Nat.lt_add_of_pos_right h
theorem app_ge {a b : List Nat} {k : Nat} (h : k ≤ a.length) : k ≤ (a ++ b).length := by rw [List.length_append]; exact Nat.le_trans h (Nat.le_add_right ..)
theorem S_inj {l r : List Nat} (h : S l = S r) : l = r := by
  have := congrArg (fun s : Str => s.cps.toList) h
  simpa [S] using this
theorem S_append (l r : List Nat) : S l ++ S r = S (l ++ r) := by show (⟨l.toArray ++ r.toArray⟩ : Str) = _; simp [S]
theorem S_of (x : Str) : x = S x.cps.toList := by simp [S]
theorem S_beq (l r : List Nat) : (S l == S r) = decide (l = r) := by
  by_cases h : l = r
  · subst h; simp
  · simp only [h, decide_false, beq_eq_false_iff_ne, ne_eq]
    exact fun e => h (S_inj e)
open PySem.Builtin.Str in
theorem slice_seg (l : List Nat) (lo hi : Option Int) (a b : Nat) (hb : b ≤ l.length) (h : strSliceIndices lo hi 1 l.length = sliceRange a b 1) : Txt.slice (S l) lo hi = S ((l.drop a).take (b - a)) := by
  have hpick : ((strSliceIndices lo hi 1 l.length).filterMap ((S l).cps[·]?)) = (l.drop a).take (b - a) := by
    rw [h, sliceRange_up, List.filterMap_map, ← range_seg]
    refine fm_congr fun k _ => ?_
    simp [S]
  unfold Txt.slice
  rw [S_len, hpick]
  split
  · rename_i hc
    simp only [beq_self_eq_true, Bool.true_and, beq_iff_eq] at hc
    rw [h, sliceRange_up, List.length_map, List.length_range] at hc
    congr 1
    cases l with
    | nil => simp
    | cons x l =>
      rw [List.length_cons] at hc hb
      have ha : a = 0 := by (first | lia | omega)
      subst ha
      rw [List.drop_zero, List.take_of_length_le (by rw [List.length_cons]; (first | lia | omega))]
  · rfl
theorem slice_from (l : List Nat) (k : Nat) (hk : k ≤ l.length) : Txt.slice (S l) (some (k : Int)) none = S (l.drop k) := by
  rw [slice_seg l _ _ k l.length (Nat.le_refl _) (by
    show sliceRange (max 0 (min (if (k : Int) < 0 then (k : Int) + l.length else k) (l.length : Int))) (l.length : Int) 1 = _
    rw [if_neg (by (first | lia | omega)), show max 0 (min (k : Int) (l.length : Int)) = (k : Int) by (first | lia | omega)])]
  rw [List.take_of_length_le (by simp)]
theorem slice_all (x : Str) : Txt.slice x none none = x := by
  rw [S_of x, slice_seg _ _ _ 0 x.cps.toList.length (Nat.le_refl _) (by rfl)]
  rw [List.drop_zero, Nat.sub_zero, List.take_of_length_le (Nat.le_refl _)]
theorem slice_init (l : List Nat) : Txt.slice (S l) none (some (-1)) = S l.dropLast := by
  rw [slice_seg l _ _ 0 (l.length - 1) (by (first | lia | omega)) (by
    show sliceRange 0 (max 0 (min ((-1 : Int) + l.length) (l.length : Int))) 1 = _
    rw [show max 0 (min ((-1 : Int) + (l.length : Int)) (l.length : Int)) = ((l.length - 1 : Nat) : Int) by (first | lia | omega)]; rfl)]
  rw [List.drop_zero, Nat.sub_zero, List.dropLast_eq_take]
theorem slice_to (l : List Nat) (k : Nat) (hk : k ≤ l.length) : Txt.slice (S l) none (some (k : Int)) = S (l.take k) := by
  rw [slice_seg l _ _ 0 k hk (by
    show sliceRange 0 (max 0 (min (if (k : Int) < 0 then (k : Int) + l.length else k) (l.length : Int))) 1 = _
    rw [if_neg (by (first | lia | omega)), show max 0 (min (k : Int) (l.length : Int)) = (k : Int) by (first | lia | omega)]; rfl)]
  rw [List.drop_zero, Nat.sub_zero]
theorem sign_at (l : List Nat) (k : Nat) (hk : k < l.length) : (seqIndex? (k : Int) (S l).length).bind ((S l).cps[·]?) = some l[k] := by
  rw [S_len, seqIdx_pos (by (first | lia | omega)) (by (first | lia | omega))]
  simp [S, hk]
theorem sign_last (l : List Nat) (h : l ≠ []) : (seqIndex? (-1) (S l).length).bind ((S l).cps[·]?) = some (l.getLast h) := by
  have hp : 0 < l.length := List.length_pos_iff.mpr h
  rw [S_len, seqIdx_neg (by decide) (by (first | lia | omega)), show ((-1 : Int) + (l.length : Int)).toNat = l.length - 1 by (first | lia | omega)]
  simp [S, List.getLast_eq_getElem, hp]
noncomputable def letter (c : Nat) : Prop := 112 ≤ c ∧ c < 120
theorem apart {x y : Nat} (hx : letter x) (hy : letter y) (h : x ≠ y) : (S [x] == S [y]) = false ∧ (Txt.lower (S [x]) == Txt.lower (S [y])) = false := by
  have key : ∀ i j : Fin 8, i ≠ j → (Txt.lower (S [112 + i.val]) == Txt.lower (S [112 + j.val])) = false := by decide +kernel
  refine ⟨by rw [S_beq]; simpa using h, ?_⟩
  have := key ⟨x - 112, by unfold letter at hx; (first | lia | omega)⟩ ⟨y - 112, by unfold letter at hy; (first | lia | omega)⟩ (fun e => h (by
    have := congrArg Fin.val e
    simp only at this
    unfold letter at hx hy; (first | lia | omega)))
  simp only at this
  rwa [show 112 + (x - 112) = x by unfold letter at hx; (first | lia | omega), show 112 + (y - 112) = y by unfold letter at hy; (first | lia | omega)] at this
end Mine

open PySem PySem.W PySem.Calls PyProof.Rows
set_option linter.unusedVariables false
set_option maxRecDepth 100000
namespace Mine

noncomputable def rowAt (i j m : Nat) : List Int := (List.range m).map fun k => if k < j then 2 * (max (i + 1) (k + 1) : Nat) else 2 * (max i (k + 1) : Nat)
theorem rowAt_get {i j m : Nat} (h : j < m) : (rowAt i j m)[j]? = some ((2 : Int) * (max i (j + 1) : Nat)) := by
  unfold rowAt; rw [List.getElem?_map, List.getElem?_range h, Option.map_some, if_neg (Nat.lt_irrefl _)]
theorem rowAt_set {i j m : Nat} (h : j < m) : (rowAt i j m).set j (2 * (max (i + 1) (j + 1) : Nat)) = rowAt i (j + 1) m := by
  refine List.ext_getElem (by simp [rowAt]) fun k h1 h2 => ?_
  have hk : k < m := by simpa [rowAt] using h2
  simp only [List.getElem_set, rowAt, List.getElem_map, List.getElem_range]
  by_cases q : j = k
  · subst q; rw [if_pos rfl, if_pos (Nat.lt_succ_self _)]
  · rw [if_neg q]
    by_cases q2 : k < j
    · rw [if_pos q2, if_pos (by (first | lia | omega))]
    · rw [if_neg q2, if_neg (by (first | lia | omega))]
theorem rowAt_done (i m : Nat) : rowAt i m m = rowAt (i + 1) 0 m := by
  unfold rowAt
  refine List.map_congr_left fun k hk => ?_
  rw [if_pos (List.mem_range.mp hk), if_neg (Nat.not_lt_zero _)]
theorem rowAt_len (i j m : Nat) : (rowAt i j m).length = m := by simp [rowAt]

theorem dp {a b c : Int} (h1 : c ≤ a) (h2 : c ≤ b) : min (min a b + 2) (c + 2) = c + 2 := Int.min_eq_right (Int.add_le_add_right (Int.le_min.mpr ⟨h1, h2⟩) 2)
theorem dp0 (i : Nat) : min (min ((i : Int) * 2) (2 * (max i (0 + 1) : Nat)) + 2) ((i : Int) * 2 + 2) = 2 * (max (i + 1) (0 + 1) : Nat) := by
  have h : i ≤ max i (0 + 1) := Nat.le_max_left ..
  have e : max (i + 1) (0 + 1) = i + 1 := Nat.max_eq_left (Nat.succ_le_succ (Nat.zero_le _))
  rw [dp (Int.le_refl _) (by (first | lia | omega)), e]; (first | lia | omega)
theorem dp1 (i j : Nat) : min (min (2 * (max (i + 1) j : Nat) : Int) (2 * (max i (j + 1) : Nat)) + 2) (2 * (max i j : Nat) + 2) = 2 * (max (i + 1) (j + 1) : Nat) := by
  have h1 : max i j ≤ max (i + 1) j := Nat.max_le.mpr ⟨Nat.le_trans (Nat.le_succ i) (Nat.le_max_left ..), Nat.le_max_right ..⟩
  have h2 : max i j ≤ max i (j + 1) := Nat.max_le.mpr ⟨Nat.le_max_left .., Nat.le_trans (Nat.le_succ j) (Nat.le_max_right ..)⟩
  have e : max (i + 1) (j + 1) = max i j + 1 := Nat.add_max_add_right ..
  rw [dp (by (first | lia | omega)) (by (first | lia | omega)), e]; (first | lia | omega)
/-- the rows and columns of the distance -/
theorem lev_tail {g : GC} (F : Fx g) (d : Nat) (u v : List Nat) (hu : u ≠ []) (huv : u.length ≤ v.length) (hv8 : v.length ≤ 8) (lu : ∀ x ∈ u, letter x) (lv : ∀ x ∈ v, letter x) (hd : ∀ x ∈ u, x ∉ v) (pre post : T) (L f : Addr) (q : Str) (cd : Value) :
    Ex g (d + 1) (envD (fnScope (nth 12)) L f q cd) [("a", .val (.str (S u))), ("b", .val (.str (S v))), ("max_cost", .val (.int (2 * v.length : Nat))), ("pre", .val pre), ("post", .val post)] ((fnBody (nth 12)).drop 12) (retQ (.int (2 * v.length : Nat))) := by
  have hS : ∀ y, ((fnScope (nth 12)).names.lookup (Str.ofString y) == some .local) = true → Stores (envD (fnScope (nth 12)) L f q cd) y := fun y h => stD (by simpa using h)
  have hK : ∀ y, ((fnScope (nth 12)).names.lookup y == some .globalImplicit) = true → (envD (fnScope (nth 12)) L f q cd).kindOf y = some .globalImplicit := fun y h => kiD (by simpa using h)
  have hup : 0 < u.length := List.length_pos_iff.mpr hu
  have hu8 : u.length ≤ 8 := Nat.le_trans huv hv8
  have hrz : ∀ i j, ((rowAt i j u.length).map T.int).length ≤ sizeLine := fun i j => by rw [List.length_map, rowAt_len]; exact lzn hu8
  have lenU : ∀ {loc : Loc} {pos p : Pos} {e : Expr}, Ev g (d + 1) (envD (fnScope (nth 12)) L f q cd) loc e (.str (S u)) → (∀ env, starEach [e] env = [(false, eval e env)]) → Ev g (d + 1) (envD (fnScope (nth 12)) L f q cd) loc (.Call (.Name "len" p) [e] [] pos) (.int u.length) :=
    fun h he => ev_is (ev_lenS (F.len.at (hK _ (by decide +kernel))) h (by first | exact lzS hu8 | exact lzS hv8) he) (by rw [S_len])
  have lenV : ∀ {loc : Loc} {pos p : Pos} {e : Expr}, Ev g (d + 1) (envD (fnScope (nth 12)) L f q cd) loc e (.str (S v)) → (∀ env, starEach [e] env = [(false, eval e env)]) → Ev g (d + 1) (envD (fnScope (nth 12)) L f q cd) loc (.Call (.Name "len" p) [e] [] pos) (.int v.length) :=
    fun h he => ev_is (ev_lenS (F.len.at (hK _ (by decide +kernel))) h (by first | exact lzS hu8 | exact lzS hv8) he) (by rw [S_len])
  refine ex_cons (x_pass (evB_is (evB_cmp (ev_bin (ev_bin (lenV (ev_name (by rfl)) (fun _ => rfl)) (lenU (ev_name (by rfl)) (fun _ => rfl)) (b_sub _ _)) (ev_glob (hK _ (by decide +kernel)) F.move) (b_mul _ _ (by (first | lia | omega)))) (ev_name (by rfl)) (c_gt _ _)) (by simp; (first | lia | omega))) ?_)
  refine ex_cons (x_assignF (evF_range (n := u.length) (F.list.at (hK _ (by decide +kernel))) (evR_3 (F.range.at (hK _ (by decide +kernel))) (ev_glob (hK _ (by decide +kernel)) F.move) (ev_bin (ev_glob (hK _ (by decide +kernel)) F.move) (ev_bin (lenU (ev_name (by rfl)) (fun _ => rfl)) ev_int (b_add _ _)) (b_mul _ _ (by decide))) (ev_glob (hK _ (by decide +kernel)) F.move) (by decide) (by decide)) (small_two (by (first | lia | omega))) (rs_two _) (by (first | lia | omega))) (hS _ (by decide +kernel)) ?_)
  rw [show rangeT 2 2 u.length = (rowAt 0 0 u.length).map T.int by
    unfold rangeT rowAt; rw [List.map_map]
    refine List.map_congr_left fun k _ => ?_
    simp only [Function.comp, Nat.not_lt_zero, if_false]
    congr 1; (first | lia | omega)]
  refine ex_cons (x_assign ev_int (hS _ (by decide +kernel)) ?_)
  refine ex_cons (x_for (it_range (n := v.length) (evR_1 (F.range.at (hK _ (by decide +kernel))) (lenV (ev_name (by rfl)) (fun _ => rfl))) (small_up (by first | exact Nat.le_trans hv8 (by decide) | exact Nat.le_trans hu8 (by decide))) (rs_up _)) (hS _ (by decide +kernel))
    (fun i loc => loc = [("a", .val (.str (S u))), ("b", .val (.str (S v))), ("max_cost", .val (.int (2 * v.length : Nat))), ("pre", .val pre), ("post", .val post), ("row", .own ((rowAt i 0 u.length).map T.int)), ("result", .val (.int (if i = 0 then 0 else 2 * (max i u.length : Nat))))]) (by rfl) ?_ ?_)
  · rintro i t loc' ht rfl
    obtain ⟨hi, rfl⟩ := range0_at ht
    refine ex_cons (x_assign (ev_sign (ev_name (by rfl)) (ev_name (by rfl)) (sign_at v i hi) (lzS hv8) (nk _)) (hS _ (by decide +kernel)) ?_)
    refine ex_cons (x_assign2 (ev_bin (ev_name (by rfl)) (ev_glob (hK _ (by decide +kernel)) F.move) (b_mul _ _ (by (first | lia | omega)))) (hS _ (by decide +kernel)) (hS _ (by decide +kernel)) ?_)
    refine ex_cons (x_assign ev_int (hS _ (by decide +kernel)) ?_)
    refine ex_cons (x_for (it_range (n := u.length) (evR_1 (F.range.at (hK _ (by decide +kernel))) (lenU (ev_name (by rfl)) (fun _ => rfl))) (small_up (by first | exact Nat.le_trans hv8 (by decide) | exact Nat.le_trans hu8 (by decide))) (rs_up _)) (hS _ (by decide +kernel))
      (fun j loc => loc = [("a", .val (.str (S u))), ("b", .val (.str (S v))), ("max_cost", .val (.int (2 * v.length : Nat))), ("pre", .val pre), ("post", .val post), ("row", .own ((rowAt i j u.length).map T.int)), ("result", .val (.int (if j = 0 then (i : Int) * 2 else 2 * (max (i + 1) j : Nat)))), ("bindex", .val (.int i)), ("bchar", .val (.str (S [v[i]]))), ("distance", .val (.int (if j = 0 then (i : Int) * 2 else 2 * (max i j : Nat)))), ("minimum", .val (.int (if j = 0 then 9223372036854775807 else 2 * (i + 1 : Nat))))]) (by rfl) ?_ ?_)
    · rintro j t loc' ht rfl
      obtain ⟨hj, rfl⟩ := range0_at ht
      have hap := apart (lv _ (List.getElem_mem hi)) (lu _ (List.getElem_mem hj)) (fun e => hd _ (List.getElem_mem hj) (e ▸ List.getElem_mem hi))
      refine ex_cons (x_assign (ev_bin (ev_name (by rfl)) (ev_call (hK _ (by decide +kernel)) F.subAt F.sub.fn (evL_cons (ev_name (by rfl)) (evL_cons (ev_sign (ev_name (by rfl)) (ev_name (by rfl)) (sign_at u j hj) (lzS hu8) (nk _)) evL_nil)) (F.sub.calls d _ _ rfl fun L q cd => walk_sub F d (S [v[i]]) (S [u[j]]) (by rw [S_len]; simp) (by rw [S_len]; simp) hap.1 hap.2 L _ q cd) (Nat.le_refl _)) (b_add _ _)) (hS _ (by decide +kernel)) ?_)
      refine ex_cons (x_assign (ev_item (t := .int (2 * (max i (j + 1) : Nat))) (evT_own (by rfl)) (ev_name (by rfl)) (nn _) ?_ (hrz _ _)) (hS _ (by decide +kernel)) ?_)
      · rw [List.getElem?_map, show ((j : Int)).toNat = j from rfl, rowAt_get hj]; rfl
      refine ex_cons (x_assign (ev_bin (ev_min2 (F.min.at (hK _ (by decide +kernel))) (ev_name (by rfl)) (ev_name (by rfl))) (ev_glob (hK _ (by decide +kernel)) F.move) (b_add _ _)) (hS _ (by decide +kernel)) ?_)
      refine ex_cons (x_assign (t := .int (2 * (max (i + 1) (j + 1) : Nat))) (ev_is (ev_min2 (F.min.at (hK _ (by decide +kernel))) (ev_name (by rfl)) (ev_name (by rfl))) ?_) (hS _ (by decide +kernel)) ?_)
      · congr 1
        split
        · rename_i hj0; subst hj0; exact dp0 i
        · exact dp1 i j
      refine ex_cons (x_setitem (by rfl) (ev_name (by rfl)) (ev_name (by rfl)) (nn _) (by rw [List.length_map, rowAt_len]; (first | lia | omega)) (hrz _ _) ?_)
      refine ex_cons (x_ifint (evB_cmp (ev_name (by rfl)) (ev_name (by rfl)) (c_lt _ _)) (by rfl) (fun _ => ev_name (by rfl)) (hS _ (by decide +kernel)) ?_)
      refine ex_drop "index" (ex_drop "substitute" (ex_drop "insert_delete" (ex_nil ?_)))
      rw [← rowAt_set hj, List.map_set]
      rw [show (if (j + 1 = 0) then (i : Int) * 2 else 2 * (max (i + 1) (j + 1) : Nat)) = 2 * (max (i + 1) (j + 1) : Nat) from if_neg (by (first | lia | omega))]
      rw [show (if (j + 1 = 0) then (i : Int) * 2 else 2 * (max i (j + 1) : Nat)) = 2 * (max i (j + 1) : Nat) from if_neg (by (first | lia | omega))]
      rw [show (if (j + 1 = 0) then (9223372036854775807 : Int) else 2 * (i + 1 : Nat)) = (if decide ((2 * (max (i + 1) (j + 1) : Nat) : Int) < (if j = 0 then (9223372036854775807 : Int) else 2 * (i + 1 : Nat))) then (2 * (max (i + 1) (j + 1) : Nat) : Int) else (if j = 0 then 9223372036854775807 else 2 * (i + 1 : Nat))) by
        rw [if_neg (by (first | lia | omega))]
        by_cases q : j = 0
        · simp only [q, if_true]; rw [if_pos (by simp; (first | lia | omega))]; (first | lia | omega)
        · simp only [q, if_false]; rw [if_neg (by simp; (first | lia | omega))]]
      rfl
    · rintro loc' rfl
      rw [show (rangeT 0 1 u.length).length = u.length from rangeT_len _ _ _]
      have hu0 : ¬ u.length = 0 := by (first | lia | omega)
      refine ex_cons (x_pass (evB_is (evB_cmp (ev_name (by rfl)) (ev_name (by rfl)) (c_gt _ _)) (by rw [if_neg hu0]; simp; (first | lia | omega))) ?_)
      refine ex_drop "bindex" (ex_drop "bchar" (ex_drop "distance" (ex_drop "minimum" (ex_nil ?_))))
      rw [← rowAt_done, if_neg hu0, if_neg (show ¬ i + 1 = 0 by (first | lia | omega))]
      rfl
  · rintro loc' rfl
    rw [show (rangeT 0 1 v.length).length = v.length from rangeT_len _ _ _]
    refine ex_cons (x_ret (ev_name (by rfl)) ?_)
    show T.int _ = T.int _
    rw [if_neg (by (first | lia | omega))]
    congr 1; (first | lia | omega)
end Mine

open PySem PySem.W PySem.Calls PyProof.Rows
set_option linter.unusedVariables false
set_option maxRecDepth 100000
namespace Mine

section
variable {g : GC} {d : Nat} {env : Env} {loc : Loc} {Q : Fl → Loc → Prop}
theorem evB_and3 {e1 e2 e3 : Expr} {pos : Pos} {c1 c2 c3 : Bool} (h1 : EvB g d env loc e1 c1) (h2 : c1 = true → EvB g d env loc e2 c2) (h3 : c1 = true → c2 = true → EvB g d env loc e3 c3) : EvB g d env loc (.BoolOp .And [e1, e2, e3] pos) (c1 && (c2 && c3)) :=
  evB_is (evB_and h1 fun a => evB_and (h2 a) fun b => evB_and (h3 a b) fun _ => evB_and_nil) (by simp)
theorem evB_or2 {e1 e2 : Expr} {pos : Pos} {c1 c2 : Bool} (h1 : EvB g d env loc e1 c1) (h2 : EvB g d env loc e2 c2) : EvB g d env loc (.BoolOp .Or [e1, e2] pos) (c1 || c2) :=
  evB_is (evB_or h1 fun a => evB_or h2 fun b => evB_or_nil) (by simp)
theorem ev_from {value e : Expr} {pp pos : Pos} {l : List Nat} {k : Nat} (h : Ev g d env loc value (.str (S l))) (hk : Ev g d env loc e (.int (k : Nat))) (hle : k ≤ l.length) (hz : l.length ≤ 900) : Ev g d env loc (.Subscript value (.Slice (some e) none none pp) pos) (.str (S (l.drop k))) :=
  ev_is (ev_slice h (evP_int hk) evP_no (lzS hz)) (by rw [slice_from _ _ hle])
theorem ev_whole {value e : Expr} {pp pos : Pos} {x : Str} (h : Ev g d env loc value (.str x)) (hk : Ev g d env loc e .none) (hz : x.length ≤ 900) : Ev g d env loc (.Subscript value (.Slice none (some e) none pp) pos) (.str x) :=
  ev_is (ev_slice h evP_no (evP_none hk) (lz (by (first | lia | omega)))) (by rw [slice_all])
theorem ev_zeroOr {e e' : Expr} {pos : Pos} (h : Ev g d env loc e (.int 0)) (h' : Ev g d env loc e' .none) : Ev g d env loc (.BoolOp .Or [e, e'] pos) .none :=
  ev_or (c := false) h (t_int 0) (fun e => nomatch e) fun _ => h'
theorem ev_chr {value e : Expr} {pos : Pos} {l : List Nat} {k : Nat} (h : Ev g d env loc value (.str (S l))) (hk : Ev g d env loc e (.int (k : Nat))) (hlt : k < l.length) (hz : l.length ≤ 900) (hs : ∀ o i, subscripted e false o i = operate [o, i] (getItem o i) := by intro _ _; rfl) : Ev g d env loc (.Subscript value e pos) (.str (S [l[k]])) :=
  ev_sign h hk (sign_at l k hlt) (lzS hz) (nk _) hs
theorem ev_chrLast {value e : Expr} {pos : Pos} {l : List Nat} (h : Ev g d env loc value (.str (S l))) (hk : Ev g d env loc e (.int (-1))) (hne : l ≠ []) (hz : l.length ≤ 900) (hs : ∀ o i, subscripted e false o i = operate [o, i] (getItem o i) := by intro _ _; rfl) : Ev g d env loc (.Subscript value e pos) (.str (S [l.getLast hne])) :=
  ev_sign h hk (sign_last l hne) (lzS hz) (by decide) hs
/-- a string's truth -/
theorem evB_S {e : Expr} {l : List Nat} (h : Ev g d env loc e (.str (S l))) (hl : l.length ≤ 900) (he : ∀ env whole, isTrue e env whole = (do let v ← whole; standAt e.pos; holding [v] (truthy v)) := by intro _ _; rfl) : EvB g d env loc e (!l.isEmpty) :=
  evB_is (evB_plain h (t_str _ (lzS hl)) he) (by rw [S_len]; cases l <;> simp <;> (first | lia | omega))
end

theorem walk_lev {g : GC} (F : Fx g) (d : Nat) (p u v : List Nat) (hp8 : p.length ≤ 8) (hu8 : u.length ≤ 8) (hv8 : v.length ≤ 8) (lu : ∀ x ∈ u, letter x) (lv : ∀ x ∈ v, letter x) (hd : ∀ x ∈ u, x ∉ v) (L f : Addr) (q : Str) (cd : Value) :
    Ex g (d + 1) (envD (fnScope (nth 12)) L f q cd) (params ["a", "b", "max_cost"] [.str (S (p ++ u)), .str (S (p ++ v)), .int (2 * max u.length v.length : Nat)]) (fnBody (nth 12)) (retQ (.int (2 * max u.length v.length : Nat))) := by
  have hS : ∀ y, ((fnScope (nth 12)).names.lookup (Str.ofString y) == some .local) = true → Stores (envD (fnScope (nth 12)) L f q cd) y := fun y h => stD (by simpa using h)
  have hK : ∀ y, ((fnScope (nth 12)).names.lookup y == some .globalImplicit) = true → (envD (fnScope (nth 12)) L f q cd).kindOf y = some .globalImplicit := fun y h => kiD (by simpa using h)
  refine ex_cons (x_if (evB_is (evB_cmp (ev_name (by rfl)) (ev_name (by rfl)) (c_seq _ _)) (S_beq _ _)) (fun hc => ?_) (fun hc => ex_nil ?_))
  · have huv : u = v := List.append_cancel_left (of_decide_eq_true hc)
    subst huv
    have hu : u = [] := by
      cases u with
      | nil => rfl
      | cons x r => exact absurd List.mem_cons_self (hd x List.mem_cons_self)
    subst hu
    exact ex_cons (x_ret ev_int rfl)
  refine ex_cons (x_assign ev_int (hS _ (by decide +kernel)) ?_)
  refine ex_cons (x_while (fun m loc => ∃ k, k ≤ p.length ∧ m = p.length - k ∧ loc = [("a", .val (.str (S (p ++ u)))), ("b", .val (.str (S (p ++ v)))), ("max_cost", .val (.int (2 * max u.length v.length : Nat))), ("pre", .val (.int (k : Nat)))]) (p.length - 0) ⟨0, Nat.zero_le _, rfl, by rfl⟩ ?_)
  rintro m loc' ⟨k, hk, rfl, rfl⟩
  have hku : k ≤ (p ++ u).length := app_ge hk
  have hkv : k ≤ (p ++ v).length := app_ge hk
  have hzu : (p ++ u).length ≤ 900 := app_le hp8 hu8
  have hzv : (p ++ v).length ≤ 900 := app_le hp8 hv8
  by_cases hkp : k < p.length
  · refine ⟨true, evB_is (evB_and3 (evB_S (ev_from (ev_name (by rfl)) (ev_name (by rfl)) hku hzu) (by first | exact drop_le hzu | exact drop_le hzv)) (fun _ => evB_S (ev_from (ev_name (by rfl)) (ev_name (by rfl)) hkv hzv) (by first | exact drop_le hzu | exact drop_le hzv))
      (fun _ _ => evB_cmp (ev_chr (ev_name (by rfl)) (ev_name (by rfl)) (by first | exact app_lt hkp | exact app_lt' hu0) hzu) (ev_chr (ev_name (by rfl)) (ev_name (by rfl)) (by first | exact app_lt hkp | exact app_lt' hv0) hzv) (c_seq _ _))) ?_, fun _ => ?_, fun h => nomatch h⟩
    · rw [S_beq]
      simp only [List.getElem_append_left hkp, decide_true, Bool.and_true]
      rw [List.drop_append_of_le_length (by (first | lia | omega)), List.drop_append_of_le_length (by (first | lia | omega)), List.drop_eq_getElem_cons hkp]
      rfl
    · exact ex_cons (x_aug (by rfl) ev_int (i_add _ _) (hS _ (by decide +kernel)) (ex_nil ⟨p.length - (k + 1), Nat.sub_lt_sub_left hkp (Nat.lt_succ_self k), k + 1, hkp, rfl, by rfl⟩))
  have hkp' : k = p.length := Nat.le_antisymm hk (Nat.le_of_not_lt hkp)
  subst hkp'
  have du : (p ++ u).drop p.length = u := List.drop_left
  have dv : (p ++ v).drop p.length = v := List.drop_left
  refine ⟨false, evB_is (evB_and3 (evB_S (ev_from (ev_name (by rfl)) (ev_name (by rfl)) hku hzu) (by first | exact drop_le hzu | exact drop_le hzv)) (fun _ => evB_S (ev_from (ev_name (by rfl)) (ev_name (by rfl)) hkv hzv) (by first | exact drop_le hzu | exact drop_le hzv))
      (c3 := false) (fun h1 h2 => ?_)) (by simp), fun h => (nomatch h), fun _ => ?_⟩
  · rw [du] at h1; rw [dv] at h2
    have hu0 : 0 < u.length := by cases u with | nil => cases h1 | cons x r => simp
    have hv0 : 0 < v.length := by cases v with | nil => cases h2 | cons x r => simp
    refine evB_is (evB_cmp (ev_chr (ev_name (by rfl)) (ev_name (by rfl)) (by first | exact app_lt hkp | exact app_lt' hu0) hzu) (ev_chr (ev_name (by rfl)) (ev_name (by rfl)) (by first | exact app_lt hkp | exact app_lt' hv0) hzv) (c_seq _ _)) ?_
    rw [S_beq]
    simp only [List.getElem_append_right (Nat.le_refl _), Nat.sub_self]
    refine decide_eq_false fun e => hd _ (List.getElem_mem hu0) ?_
    rw [(List.cons.inj e).1]; exact List.getElem_mem hv0
  clear hku hkv hzu hzv hkp hk
  have hzu : u.length ≤ 900 := Nat.le_trans hu8 (by decide)
  have hzv : v.length ≤ 900 := Nat.le_trans hv8 (by decide)
  have hzu' : (S u).length ≤ 900 := by rw [S_len]; exact hzu
  have hzv' : (S v).length ≤ 900 := by rw [S_len]; exact hzv
  refine ex_cons (x_assign (ev_from (ev_name (by rfl)) (ev_name (by rfl)) (app_ge (Nat.le_refl _)) (by first | exact app_le hp8 hu8 | exact app_le hp8 hv8)) (hS _ (by decide +kernel)) ?_)
  refine ex_cons (x_assign (ev_from (ev_name (by rfl)) (ev_name (by rfl)) (app_ge (Nat.le_refl _)) (by first | exact app_le hp8 hu8 | exact app_le hp8 hv8)) (hS _ (by decide +kernel)) ?_)
  rw [du, dv]
  refine ex_cons (x_assign ev_int (hS _ (by decide +kernel)) ?_)
  refine ex_cons (x_while (fun m loc => loc = [("a", .val (.str (S u))), ("b", .val (.str (S v))), ("max_cost", .val (.int (2 * max u.length v.length : Nat))), ("pre", .val (.int (p.length : Nat))), ("post", .val (.int 0))]) 0 (by rfl) ?_)
  rintro m loc' rfl
  refine ⟨false, evB_is (evB_and3 (evB_S (ev_whole (ev_name (by rfl)) (ev_zeroOr (ev_name (by rfl)) ev_none) hzu') hzu) (fun _ => evB_S (ev_whole (ev_name (by rfl)) (ev_zeroOr (ev_name (by rfl)) ev_none) hzv') hzv) (c3 := false) (fun h1 h2 => ?_)) (by simp), fun h => (nomatch h), fun _ => ?_⟩
  · have hu0 : u ≠ [] := by rintro rfl; cases h1
    have hv0 : v ≠ [] := by rintro rfl; cases h2
    refine evB_is (evB_cmp (ev_chrLast (ev_name (by rfl)) (ev_bin (ev_name (by rfl)) ev_int (b_sub _ _)) hu0 hzu) (ev_chrLast (ev_name (by rfl)) (ev_bin (ev_name (by rfl)) ev_int (b_sub _ _)) hv0 hzv) (c_seq _ _)) ?_
    rw [S_beq]
    refine decide_eq_false fun e => hd _ (List.getLast_mem hu0) ?_
    rw [(List.cons.inj e).1]; exact List.getLast_mem hv0
  refine ex_cons (x_assign (ev_whole (ev_name (by rfl)) (ev_zeroOr (ev_name (by rfl)) ev_none) hzu') (hS _ (by decide +kernel)) ?_)
  refine ex_cons (x_assign (ev_whole (ev_name (by rfl)) (ev_zeroOr (ev_name (by rfl)) ev_none) hzv') (hS _ (by decide +kernel)) ?_)
  have lenU : ∀ {loc : Loc} {pos p : Pos} {e : Expr}, Ev g (d + 1) (envD (fnScope (nth 12)) L f q cd) loc e (.str (S u)) → (∀ env, starEach [e] env = [(false, eval e env)]) → Ev g (d + 1) (envD (fnScope (nth 12)) L f q cd) loc (.Call (.Name "len" p) [e] [] pos) (.int u.length) :=
    fun h he => ev_is (ev_lenS (F.len.at (hK _ (by decide +kernel))) h (by first | exact lzS hzu | exact lzS hzv) he) (by rw [S_len])
  have lenV : ∀ {loc : Loc} {pos p : Pos} {e : Expr}, Ev g (d + 1) (envD (fnScope (nth 12)) L f q cd) loc e (.str (S v)) → (∀ env, starEach [e] env = [(false, eval e env)]) → Ev g (d + 1) (envD (fnScope (nth 12)) L f q cd) loc (.Call (.Name "len" p) [e] [] pos) (.int v.length) :=
    fun h he => ev_is (ev_lenS (F.len.at (hK _ (by decide +kernel))) h (by first | exact lzS hzu | exact lzS hzv) he) (by rw [S_len])
  refine ex_cons (x_if (evB_or2 (evB_not (evB_S (ev_name (by rfl)) hzu)) (evB_not (evB_S (ev_name (by rfl)) hzv))) (fun hc => ?_) (fun hc => ex_nil ?_))
  · refine ex_cons (x_ret (ev_bin (ev_glob (hK _ (by decide +kernel)) F.move) (ev_bin (lenU (ev_name (by rfl)) (fun _ => rfl)) (lenV (ev_name (by rfl)) (fun _ => rfl)) (b_add _ _)) (b_mul _ _ (by decide))) ?_)
    show T.int _ = T.int _
    have : u.length = 0 ∨ v.length = 0 := by
      cases u with
      | nil => exact .inl rfl
      | cons x r =>
        cases v with
        | nil => exact .inr rfl
        | cons y s => cases hc
    congr 1; (first | lia | omega)
  have hu0 : u ≠ [] := by rintro rfl; cases hc
  have hv0 : v ≠ [] := by rintro rfl; simp at hc
  refine ex_cons (x_pass (evB_is (evB_or2 (evB_cmp (lenU (ev_name (by rfl)) (fun _ => rfl)) (ev_glob (hK _ (by decide +kernel)) F.size) (c_gt _ _)) (evB_cmp (lenV (ev_name (by rfl)) (fun _ => rfl)) (ev_glob (hK _ (by decide +kernel)) F.size) (c_gt _ _))) (by simp; (first | lia | omega))) ?_)
  refine ex_cons (x_if (evB_cmp (lenV (ev_name (by rfl)) (fun _ => rfl)) (lenU (ev_name (by rfl)) (fun _ => rfl)) (c_lt _ _)) (fun hc => ?_) (fun hc => ex_nil ?_))
  · have hlt : v.length < u.length := by have := of_decide_eq_true hc; (first | lia | omega)
    refine ex_cons (x_swap (x := "a") (y := "b") (ev_tuple (evL_cons (ev_name (by rfl)) (evL_cons (ev_name (by rfl)) evL_nil)) (lz (by simp))) (hS _ (by decide +kernel)) (hS _ (by decide +kernel)) (ex_nil ?_))
    rw [show max u.length v.length = u.length by (first | lia | omega)]
    exact lev_tail F d v u hv0 (by (first | lia | omega)) hu8 lv lu (fun x h1 h2 => hd x h2 h1) _ _ L f q cd
  · have hle : u.length ≤ v.length := by have := of_decide_eq_false hc; (first | lia | omega)
    rw [show max u.length v.length = v.length by (first | lia | omega)]
    exact lev_tail F d u v hu0 hle hv8 lu lv hd _ _ L f q cd
end Mine

open PySem PySem.W PySem.Calls PyProof.Rows
set_option linter.unusedVariables false
set_option maxRecDepth 100000
namespace Mine

noncomputable def R (x : Str) : List Int × Nat × Nat × Nat := wsGo x.cps.toList [] 0 0 0
noncomputable def above (pl : List (Str × Str)) : Str := match pl with | [] => Str.ofString "" | e :: _ => e.2
noncomputable def behind (x : Str) : Str := strip (Txt.slice x (some ((R x).2.2.1 : Nat)) none)
/-- off the pile goes what is not less -/
noncomputable def popped (pl : List (Str × Str)) (x : Str) : List (Str × Str) := pl.dropWhile fun e => !lessR (R e.1) (R x)
noncomputable def wstep (st : List (Str × Str) × List Str) (x : Str) : List (Str × Str) × List Str :=
  ((x, above (popped st.1 x) ++ behind x) :: popped st.1 x, st.2 ++ [above (popped st.1 x) ++ behind x])
noncomputable def wordsOf (rows : List Str) : List (Str × Str) × List Str := rows.foldl wstep ([], [])
noncomputable def pileT (pl : List (Str × Str)) : List T := pl.reverse.map fun e => T.tup [wsR e.1 (R e.1), .str e.2]

theorem wsGo_bound : ∀ (l : List Nat) (cnt : List Int) (b n nt m : Nat), cnt.length ≤ m → b ≤ m → n ≤ m → (wsGo l cnt b n nt).1.length ≤ m + l.length ∧ (wsGo l cnt b n nt).2.1 ≤ m + l.length ∧ (wsGo l cnt b n nt).2.2.1 ≤ m + l.length
  | [], cnt, b, n, nt, m, h1, h2, h3 => ⟨h1, h2, h3⟩
  | c :: l, cnt, b, n, nt, m, h1, h2, h3 => by
    unfold wsGo
    rw [List.length_cons]
    split
    · have := wsGo_bound l cnt (b + 1) (n + 1) nt (m + 1) (by (first | lia | omega)) (by (first | lia | omega)) (by (first | lia | omega))
      (first | lia | omega)
    · split
      · have := wsGo_bound l (bump cnt b) 0 (n + 1) (nt + 1) (m + 1) (bump_len _ _ _ h1 h2) (by (first | lia | omega)) (by (first | lia | omega))
        (first | lia | omega)
      · dsimp only; (first | lia | omega)
theorem R_bound (x : Str) : (R x).1.length ≤ x.length ∧ (R x).2.1 ≤ x.length ∧ (R x).2.2.1 ≤ x.length := by
  have := wsGo_bound x.cps.toList [] 0 0 0 0 (Nat.le_refl _) (Nat.le_refl _) (Nat.le_refl _)
  rw [show x.length = x.cps.toList.length by simp; rfl]
  unfold R; (first | lia | omega)

theorem R_800 {x : Str} (h : x.length ≤ 100) : (R x).1.length ≤ 800 ∧ (R x).2.1 ≤ 800 := ⟨Nat.le_trans (R_bound x).1 (Nat.le_trans h (by decide)), Nat.le_trans (R_bound x).2.1 (Nat.le_trans h (by decide))⟩
theorem calls_ws {g : GC} {F : Fx g} {mc : Value} (Z : Fz g F mc) (d : Nat) (x : Str) (ha : x.cps.all (· < 128) = true) (hx : x.length ≤ 900) : Calls g (d + 2) (.ref g.C) [.str x] (wsR x (R x)) :=
  Z.cls d x _ _ _ _ _ (fun L a q cd => walk_init F Z d x ha hx L a _ q cd) (by rfl) (by rfl) (by rfl) (by rfl) (by rfl) (by rfl) (by rfl) (by rfl)

theorem wordsOf_take (rows : List Str) (i : Nat) (x : Str) (h : rows[i]? = some x) : wordsOf (rows.take (i + 1)) = wstep (wordsOf (rows.take i)) x := by
  unfold wordsOf; rw [List.take_add_one, h]; simp [List.foldl_append]

theorem wordsOf_len : ∀ (rows : List Str) (st : List (Str × Str) × List Str) (m : Nat), (∀ x ∈ rows, (behind x).length = 1) → st.1.length ≤ m → st.2.length ≤ m → (∀ e ∈ st.1, e.2.length ≤ m) → (∀ e ∈ st.1, e.1.length ≤ 100) → (∀ x ∈ rows, x.length ≤ 100) →
    (rows.foldl wstep st).1.length ≤ m + rows.length ∧ (rows.foldl wstep st).2.length ≤ m + rows.length ∧ (∀ e ∈ (rows.foldl wstep st).1, e.2.length ≤ m + rows.length) ∧ (∀ e ∈ (rows.foldl wstep st).1, e.1.length ≤ 100)
  | [], st, m, _, h1, h2, h3, h4, _ => ⟨h1, h2, h3, h4⟩
  | x :: r, st, m, hb, h1, h2, h3, h4, h5 => by
    have hsub : ∀ e ∈ popped st.1 x, e ∈ st.1 := fun e he => (List.dropWhile_sublist _).subset he
    have hab : (above (popped st.1 x)).length ≤ m := by
      unfold above
      split
      · have : (Str.ofString "").length = 0 := by decide +kernel
        (first | lia | omega)
      · rename_i e r' he
        exact h3 e (hsub e (by rw [he]; exact List.mem_cons_self))
    have hbx := hb x List.mem_cons_self
    have hlen : (popped st.1 x).length ≤ st.1.length := (List.dropWhile_sublist _).length_le
    have := wordsOf_len r (wstep st x) (m + 1) (fun y hy => hb y (List.mem_cons_of_mem _ hy)) (by simp only [wstep, List.length_cons]; (first | lia | omega)) (by simp only [wstep, List.length_append, List.length_singleton]; (first | lia | omega))
      (fun e he => by
        rcases List.mem_cons.mp he with q | q
        · rw [q]; dsimp only; rw [str_len_append]; (first | lia | omega)
        · have := h3 e (hsub e q); (first | lia | omega))
      (fun e he => by
        rcases List.mem_cons.mp he with q | q
        · rw [q]; exact h5 x List.mem_cons_self
        · exact h4 e (hsub e q)) (fun y hy => h5 y (List.mem_cons_of_mem _ hy))
    rw [List.length_cons, show m + (r.length + 1) = m + 1 + r.length by (first | lia | omega)]
    exact this

theorem walk_words {g : GC} (F : Fx g) {mc : Value} (Z : Fz g F mc) (d : Nat) (rows : List Str) (hn : rows.length ≤ 8) (ha : ∀ x ∈ rows, x.cps.all (· < 128) = true) (hx : ∀ x ∈ rows, x.length ≤ 100) (hb : ∀ x ∈ rows, (behind x).length = 1) (L f : Addr) (q : Str) (cd : Value) :
    Ex g (d + 2) (envD (fnScope (nth 17)) L f q cd) (params ["rows"] [.list (rows.map T.str)]) (fnBody (nth 17)) (retQ (.list ((wordsOf rows).2.map T.str))) := by
  have hS : ∀ y, ((fnScope (nth 17)).names.lookup (Str.ofString y) == some .local) = true → Stores (envD (fnScope (nth 17)) L f q cd) y := fun y h => stD (by simpa using h)
  have hK : ∀ y, ((fnScope (nth 17)).names.lookup y == some .globalImplicit) = true → (envD (fnScope (nth 17)) L f q cd).kindOf y = some .globalImplicit := fun y h => kiD (by simpa using h)
  refine ex_cons (x_assignF (evF_list evL_nil (lz (by simp))) (hS _ (by decide +kernel)) ?_)
  refine ex_cons (x_assignF (evF_list evL_nil (lz (by simp))) (hS _ (by decide +kernel)) ?_)
  refine ex_cons (x_for (it_list (ev_name (by rfl))) (hS _ (by decide +kernel)) (fun i loc => loc = [("rows", .val (.list (rows.map T.str))), ("pile", .own (pileT (wordsOf (rows.take i)).1)), ("words", .own ((wordsOf (rows.take i)).2.map T.str))]) (by rfl) ?_ ?_)
  · rintro i t loc' ht rfl
    rw [List.getElem?_map] at ht
    obtain ⟨x, hxi, rfl⟩ := Option.map_eq_some_iff.mp ht
    have hmem := List.mem_of_getElem? hxi
    have hi : i < rows.length := (List.getElem?_eq_some_iff.mp hxi).1
    have hbound := wordsOf_len (rows.take i) ([], []) 0 (fun y hy => hb y (List.mem_of_mem_take hy)) (by simp) (by simp) (fun _ h => nomatch h) (fun _ h => nomatch h) (fun y hy => hx y (List.mem_of_mem_take hy))
    rw [List.length_take_of_le (Nat.le_of_lt hi)] at hbound
    change (wordsOf (rows.take i)).1.length ≤ _ ∧ (wordsOf (rows.take i)).2.length ≤ _ ∧ (∀ e ∈ (wordsOf (rows.take i)).1, _) ∧ (∀ e ∈ (wordsOf (rows.take i)).1, _) at hbound
    rw [wordsOf_take rows i x hxi]
    generalize wordsOf (rows.take i) = st at hbound
    obtain ⟨pl, ws⟩ := st
    dsimp only at hbound ⊢
    obtain ⟨hb1, hb2, hb3, hb4⟩ := hbound
    have hxl := hx x hmem
    have hRx := R_bound x
    refine ex_cons (x_assign (ev_new (hK _ (by decide +kernel)) F.wsAt Z.keep (evL_cons (ev_name (by rfl)) evL_nil) (calls_ws Z d x (ha x hmem) (Nat.le_trans hxl (by decide))) (Nat.le_refl _)) (hS _ (by decide +kernel)) ?_)
    have hcons : ∀ (e : Str × Str) (p : List (Str × Str)), pileT (e :: p) = pileT p ++ [.tup [wsR e.1 (R e.1), .str e.2]] := fun e p => by simp [pileT]
    have hplen : ∀ p : List (Str × Str), (pileT p).length = p.length := fun p => by simp [pileT]
    have hlast : ∀ (e : Str × Str) (p : List (Str × Str)), (pileT (e :: p))[((-1 : Int) + (pileT (e :: p)).length).toNat]? = some (.tup [wsR e.1 (R e.1), .str e.2]) := fun e p => by
      rw [show ((-1 : Int) + (pileT (e :: p)).length).toNat = (pileT p).length by rw [hplen, hplen, List.length_cons]; (first | lia | omega), hcons]
      simp
    refine ex_cons (Ex1.mono (x_while (Q := fun fl loc => fl = .next ∧ loc = [("rows", .val (.list (rows.map T.str))), ("pile", .own (pileT (popped pl x))), ("words", .own (ws.map T.str)), ("row", .val (.str x)), ("here", .val (wsR x (R x)))]) (fun m loc => ∃ p : List (Str × Str), p.length = m ∧ p.length ≤ i ∧ (∀ e ∈ p, e.1.length ≤ 100) ∧ popped p x = popped pl x ∧ loc = [("rows", .val (.list (rows.map T.str))), ("pile", .own (pileT p)), ("words", .own (ws.map T.str)), ("row", .val (.str x)), ("here", .val (wsR x (R x)))]) pl.length ⟨pl, rfl, by (first | lia | omega), hb4, rfl, by rfl⟩ ?_) ?_)
    · rintro m loc' ⟨p, hm, hpi, hp1, hpop, rfl⟩
      have hi8 : i ≤ 8 := Nat.le_trans (Nat.le_of_lt hi) hn
      have hpz : (pileT p).length ≤ sizeLine := by rw [hplen]; exact lzn (Nat.le_trans hpi hi8)
      cases p with
      | nil =>
        refine ⟨false, evB_is (evB_and (evB_cmp (ev_len (F.len.at (hK _ (by decide +kernel))) (evT_own (by rfl)) hpz) ev_int (c_gt _ _)) (b := true) (fun h => by cases h)) (by rfl), fun h => (nomatch h), fun _ => ⟨rfl, ?_⟩⟩
        rw [← hpop]; rfl
      | cons e p =>
        have he := hp1 e List.mem_cons_self
        have hRe := R_bound e.1
        refine ⟨!lessR (R e.1) (R x), evB_is (evB_and (evB_cmp (ev_len (F.len.at (hK _ (by decide +kernel))) (evT_own (by rfl)) hpz) ev_int (c_gt _ _)) (fun _ => evB_and (evB_not (evB_plain (ev_meth F.ws (ev_itemT (t := wsR e.1 (R e.1)) (ev_itemN (evT_own (by rfl)) (ev_neg ev_int) (by decide) (by rw [hplen, List.length_cons]; (first | lia | omega)) (hlast e p) hpz) ev_int (by decide) (by rfl) (lz (by simp))) (.inl rfl) Z.less Z.lessT Z.lessD.fn (evL_cons (ev_name (by rfl)) evL_nil)
          (Z.lessD.calls (d + 1) _ _ rfl fun L q cd => walk_less F Z d e.1 x (R e.1) (R x) (R_800 he).1 (R_800 hxl).1 (R_800 he).2 (R_800 hxl).2 L _ q cd) (Nat.le_refl _) (hm := ⟨fun _ => rfl⟩)) (t_bool _))) (fun _ => evB_and_nil))) ?_, fun hc => ?_, fun hc => ⟨rfl, ?_⟩⟩
        · rw [hplen, List.length_cons]
          rw [show decide ((0 : Int) < ((p.length + 1 : Nat) : Int)) = true from decide_eq_true (by (first | lia | omega))]
          simp
        · refine ex_cons (x_del (j := (pileT p).length) (by rfl) (ev_neg ev_int) ?_ (by decide) hpz (ex_nil ⟨p.length, by rw [← hm]; exact Nat.lt_succ_self _, p, rfl, by rw [List.length_cons] at hpi; (first | lia | omega), fun e' h => hp1 e' (List.mem_cons_of_mem _ h), ?_, ?_⟩))
          · rw [hplen, hplen, List.length_cons, seqIdx_neg (by decide) (by (first | lia | omega))]
            congr 1; (first | lia | omega)
          · rw [← hpop]; simp only [popped, List.dropWhile_cons, hc, if_true]
          · rw [show (pileT (e :: p)).eraseIdx (pileT p).length = pileT p by rw [hcons]; simp [List.eraseIdx_append_of_length_le]]
            rfl
        · rw [← hpop]; simp only [popped, List.dropWhile_cons, hc]; rfl
    · rintro fl loc' ⟨rfl, rfl⟩
      have hsub : ∀ e ∈ popped pl x, e ∈ pl := fun e he => (List.dropWhile_sublist _).subset he
      have hle : (popped pl x).length ≤ pl.length := (List.dropWhile_sublist _).length_le
      have hws : wstep (pl, ws) x = ((x, above (popped pl x) ++ behind x) :: popped pl x, ws ++ [above (popped pl x) ++ behind x]) := rfl
      rw [hws]
      dsimp only
      generalize popped pl x = p at hsub hle
      have hpz : (pileT p).length ≤ sizeLine := lz (by rw [hplen]; (first | lia | omega))
      have hab : (above p).length ≤ 8 := by
        unfold above
        split
        · decide +kernel
        · rename_i e p
          have := hb3 e (hsub e List.mem_cons_self)
          (first | lia | omega)
      refine ex_cons (x_assign (t := .str (above p)) (ev_if (c := decide (0 < (p.length : Int))) (evB_is (evB_cmp (ev_len (F.len.at (hK _ (by decide +kernel))) (evT_own (by rfl)) hpz) ev_int (c_gt _ _)) (by rw [hplen])) (fun hc => ?_) (fun hc => ?_)) (hS _ (by decide +kernel)) ?_)
      · cases p with
        | nil => cases hc
        | cons e p =>
          exact ev_itemT (ev_itemN (evT_own (by rfl)) (ev_neg ev_int) (by decide) (by rw [hplen, List.length_cons]; (first | lia | omega)) (hlast e p) hpz) ev_int (by decide) (by rfl) (lz (by simp))
      · cases p with
        | nil => exact ev_str
        | cons e p => have := of_decide_eq_false hc; rw [List.length_cons] at this; (first | lia | omega)
      have hslice : (Txt.slice x (some ((R x).2.2.1 : Nat)) none).length ≤ x.length := by
        have h1 : (R x).2.2.1 ≤ x.cps.toList.length := by rw [Array.length_toList]; exact hRx.2.2
        rw [(congrArg (fun y => Txt.slice y (some ((R x).2.2.1 : Nat)) none) (S_of x)).trans (slice_from _ _ h1), S_len, List.length_drop, Array.length_toList]
        exact Nat.sub_le _ _
      refine ex_cons (x_assign (ev_bin (ev_name (by rfl)) (ev_call (hK _ (by decide +kernel)) F.stripAt F.strip.fn (evL_cons (ev_slice (ev_name (by rfl)) (evP_int (ev_n F.ws (ev_name (by rfl)))) evP_no (lz (by (first | lia | omega)))) evL_nil) (F.strip.calls (d + 1) _ _ rfl fun L q cd => walk_strip F (d + 1) _ (by (first | lia | omega)) L _ q cd) (Nat.le_refl _)) (b_cat _ _ (lz (by have := hb x hmem; show (above p).length + (behind x).length ≤ 1000; (first | lia | omega))))) (hS _ (by decide +kernel)) ?_)
      refine ex_cons (x_append (by rfl) (ev_tuple (evL_cons (ev_name (by rfl)) (evL_cons (ev_name (by rfl)) evL_nil)) (lz (by simp))) hpz ?_)
      refine ex_cons (x_append (by rfl) (ev_name (by rfl)) (lz (by rw [List.length_map]; (first | lia | omega))) ?_)
      refine ex_drop "row" (ex_drop "here" (ex_drop "above" (ex_drop "word" (ex_nil ?_))))
      rw [hcons, List.map_append]
      rfl
  · rintro loc' rfl
    rw [List.length_map, List.take_length]
    exact ex_freeze (x := "words") (by rfl) (ex_cons (x_ret (ev_name (by rfl)) rfl))
end Mine

open PySem PySem.W PySem.Calls PyProof.Rows
set_option linter.unusedVariables false
set_option maxRecDepth 100000
namespace Mine
open PySem.Builtin PySem.Builtin.Str PySem.StrLaws

theorem occ_stay (s sub : Str) (hi : Nat) (x : Nat) : ∀ (l : List Nat) (free : Nat), (forIn l ((#[x] : Array Nat), free) (occBody s sub hi 1)).run.fst = #[x]
  | [], _ => rfl
  | a :: l, free => by
    rw [List.forIn_cons]
    unfold occBody
    rw [if_neg (by simp)]
    exact occ_stay s sub hi x l free
theorem occ_first (s sub : Str) (lo hi : Nat) (h1 : lo + sub.length ≤ hi) (h2 : subAt s sub lo = true) : occurrences s sub lo hi 1 = [lo] := by
  rw [occ_eq, show hi + 1 - lo = (hi - lo) + 1 by (first | lia | omega), List.range'_succ, List.forIn_cons]
  unfold occBody
  rw [if_pos ⟨⟨⟨by simp, Nat.le_refl _⟩, h1⟩, h2⟩]
  have := occ_stay s sub hi lo (List.range' (lo + 1) (hi - lo)) (lo + sub.length)
  simp only [List.push_toArray, List.nil_append] at this ⊢
  exact congrArg Array.toList this

theorem subAt_one (l : List Nat) (c i : Nat) (h : i < l.length) : subAt (S l) (S [c]) i = decide (l[i] = c) := by
  unfold subAt
  rw [S_len]
  show ((S l).cps.extract i (i + 1) == (S [c]).cps) = _
  rw [show (S l).cps.extract i (i + 1) = #[l[i]] by
    apply Array.ext'
    rw [Array.toList_extract, List.extract_eq_take_drop]
    show List.take (i + 1 - i) (List.drop i l) = [l[i]]
    rw [List.drop_eq_getElem_cons h, show i + 1 - i = 1 by (first | lia | omega)]
    rfl]
  show ((#[l[i]] : Array Nat) == #[c]) = _
  by_cases q : l[i] = c <;> simp [q]
theorem from_nat (n k : Nat) (h : k ≤ n) : fromIndex n (k : Int) = k := by
  unfold fromIndex; (first | lia | omega)
theorem find_hit (l : List Nat) (p : Nat) (h : p < l.length) : find4 (S l) (S [l[p]]) p (S l).length = p := by
  unfold find4
  rw [S_len, from_nat _ _ (by (first | lia | omega)), from_nat _ _ (Nat.le_refl _), Nat.min_self, occ_first _ _ _ _ (by rw [S_len]; simp; (first | lia | omega)) (by rw [subAt_one _ _ _ h]; simp)]
theorem find_empty (l : List Nat) (p : Nat) (h : p ≤ l.length) : find4 (S l) (S []) p (S l).length = p := by
  unfold find4
  rw [S_len, from_nat _ _ h, from_nat _ _ (Nat.le_refl _), Nat.min_self, occ_first _ _ _ _ (by rw [S_len]; simpa using h) (by
    unfold subAt; rw [S_len]; simp [S])]
theorem find_miss (l : List Nat) (c : Nat) (p : Int) (h : c ∉ l) : find4 (S l) (S [c]) p (S l).length = -1 := by
  unfold find4
  have : occurrences (S l) (S [c]) (fromIndex (S l).length p) (min (fromIndex (S l).length (S l).length) (S l).length) 1 = [] := by
    rw [List.eq_nil_iff_forall_not_mem]
    intro i hi
    obtain ⟨h1, h2⟩ := occ_spec _ _ _ _ _ i hi
    rw [S_len, S_len] at h1
    have hil : i < l.length := by have := Nat.min_le_right (fromIndex l.length l.length) l.length; simp at h1; (first | lia | omega)
    rw [subAt_one _ _ _ hil, decide_eq_true_eq] at h2
    exact h (h2 ▸ List.getElem_mem hil)
  rw [this]

/-- what the wanted text is cut into -/
noncomputable def cuts (A : List Nat) : List Str := S [] :: A.map (fun c => S [c]) ++ [S []]
theorem scan_prefix (A B : List Nat) (l : List Nat) : ∀ (A : List Nat) (p : Nat), l = l.take p ++ A ++ B → p ≤ l.length → scan (S l) (A.map fun c => S [c]) p = some ((p + A.length : Nat) : Int)
  | [], p, h, hp => by simp [scan]
  | c :: A, p, h, hp => by
    have hlen : (l.take p).length = p := List.length_take_of_le hp
    have hp' : p < l.length := by
      have := congrArg List.length h
      rw [List.length_append, List.length_append, hlen, List.length_cons] at this
      (first | lia | omega)
    have hc : l[p] = c := by
      have h2 : l[p]? = some c := by
        rw [h, List.append_assoc, List.getElem?_append_right (by (first | lia | omega)), hlen]; simp
      rw [List.getElem?_eq_getElem hp'] at h2; exact Option.some.inj h2
    have hf := find_hit l p hp'
    rw [hc] at hf
    simp only [List.map_cons, scan, hf]
    rw [if_neg (by (first | lia | omega)), S_len, show ((p : Int) + (([c] : List Nat).length : Nat)) = ((p + 1 : Nat) : Int) by simp]
    rw [scan_prefix A B l A (p + 1) (by
      rw [List.take_add_one, List.getElem?_eq_getElem hp', hc]
      simpa using h) hp']
    rw [List.length_cons]
    congr 2; (first | lia | omega)
theorem scan_yes (A B : List Nat) : (scan (S (A ++ B)) (cuts A) 0).isSome = true := by
  unfold cuts
  rw [List.cons_append, scan, show ((0 : Int)) = ((0 : Nat) : Int) from rfl, find_empty _ 0 (Nat.zero_le _), if_neg (by (first | lia | omega)), S_len, scan_append]
  rw [show (((0 : Nat) : Int) + (([] : List Nat).length : Nat)) = ((0 : Nat) : Int) by simp]
  rw [scan_prefix A B (A ++ B) A 0 (by simp) (Nat.zero_le _)]
  simp only [Option.bind_some, scan]
  rw [find_empty _ _ (by simp), if_neg (by (first | lia | omega))]
  rfl
theorem scan_no (l : List Nat) (c : Nat) (h : c ∉ l) : ∀ (ws : List Str) (p : Int), S [c] ∈ ws → (scan (S l) ws p).isSome = false
  | [], _, hm => nomatch hm
  | w :: ws, p, hm => by
    simp only [scan]
    split
    · rfl
    · rename_i hf
      rcases List.mem_cons.mp hm with q | q
      · subst q
        rw [find_miss l c p h] at hf
        exact absurd (by decide) hf
      · exact scan_no l c h ws _ q
end Mine

open PySem PySem.W PySem.Calls PyProof.Rows
set_option linter.unusedVariables false
set_option maxRecDepth 100000
namespace Mine

/-! the pile, by places -/
noncomputable def P (lt : Nat → Nat → Bool) : Nat → List Nat
  | 0 => []
  | j + 1 => j :: (P lt j).dropWhile fun i => !lt i j
noncomputable def A (lt : Nat → Nat → Bool) (j : Nat) : List Nat := (P lt (j + 1)).reverse
noncomputable def cond (lt : Nat → Nat → Bool) (i j : Nat) : Bool := (List.range j).all fun k => decide (k ≤ i) || lt i k

theorem dw_filter {p : Nat → Bool} : ∀ {L : List Nat}, L.Pairwise (fun a b => p a = true → p b = true) → L.dropWhile (fun i => !p i) = L.filter p
  | [], _ => rfl
  | a :: L, h => by
    obtain ⟨h1, h2⟩ := List.pairwise_cons.mp h
    cases hp : p a with
    | false => simp only [List.dropWhile_cons, List.filter_cons, hp, Bool.not_false, if_true]; exact dw_filter h2
    | true =>
      simp only [List.dropWhile_cons, List.filter_cons, hp, Bool.not_true, if_true]
      rw [List.filter_eq_self.mpr fun b hb => h1 b hb hp]; rfl

section
variable {lt : Nat → Nat → Bool} (ht : ∀ i j k, lt i j = true → lt j k = true → lt i k = true)
include ht
theorem P_pw : ∀ j, (P lt j).Pairwise (fun a b => lt b a = true) ∧ P lt (j + 1) = j :: (P lt j).filter (fun i => lt i j)
  | 0 => ⟨.nil, rfl⟩
  | j + 1 => by
    obtain ⟨h1, h2⟩ := P_pw j
    have hp : (P lt (j + 1)).Pairwise (fun a b => lt b a = true) := by
      rw [h2, List.pairwise_cons]
      exact ⟨fun b hb => (List.mem_filter.mp hb).2, h1.sublist List.filter_sublist⟩
    refine ⟨hp, ?_⟩
    rw [P, dw_filter (hp.imp fun hab h => ht _ _ _ hab h)]
theorem P_char : ∀ j, P lt j = ((List.range j).reverse).filter fun i => cond lt i j
  | 0 => rfl
  | j + 1 => by
    rw [(P_pw ht j).2, P_char j, List.filter_filter, List.range_succ, List.reverse_append, List.reverse_singleton, List.singleton_append, List.filter_cons]
    have hj : cond lt j (j + 1) = true := by
      unfold cond; rw [List.all_eq_true]; intro k hk
      simp only [Bool.or_eq_true, decide_eq_true_eq]; left; have := List.mem_range.mp hk; (first | lia | omega)
    rw [hj, if_pos rfl]
    congr 1
    refine List.filter_congr fun i hi => ?_
    have hij : i < j := by simpa using hi
    unfold cond
    rw [List.range_succ, List.all_append]
    simp only [List.all_cons, List.all_nil, Bool.and_true]
    rw [show decide (j ≤ i) = false from decide_eq_false (by (first | lia | omega)), Bool.false_or, Bool.and_comm]
theorem A_char (j : Nat) : A lt j = (List.range (j + 1)).filter fun i => cond lt i (j + 1) := by
  unfold A; rw [P_char ht, ← List.filter_reverse, List.reverse_reverse]
theorem P_desc : ∀ j, (P lt j).Pairwise (fun a b => b < a) ∧ ∀ i ∈ P lt j, i < j
  | 0 => ⟨.nil, fun _ h => nomatch h⟩
  | j + 1 => by
    obtain ⟨h1, h2⟩ := P_desc j
    rw [(P_pw ht j).2]
    refine ⟨List.pairwise_cons.mpr ⟨fun b hb => h2 b (List.mem_filter.mp hb).1, h1.sublist List.filter_sublist⟩, fun i hi => ?_⟩
    rcases List.mem_cons.mp hi with q | q
    · (first | lia | omega)
    · have := h2 i (List.mem_filter.mp q).1; (first | lia | omega)
end

theorem P_suffix (lt : Nat → Nat → Bool) : ∀ (j : Nat) (pre rest : List Nat) (i : Nat), P lt j = pre ++ i :: rest → P lt (i + 1) = i :: rest
  | 0, pre, rest, i, h => by cases pre <;> cases h
  | j + 1, [], rest, i, h => by
    have h' : j :: (P lt j).dropWhile (fun i => !lt i j) = i :: rest := h
    obtain ⟨e1, e2⟩ := List.cons.inj h'
    subst e1
    exact h
  | j + 1, x :: pre, rest, i, h => by
    have h' : j :: (P lt j).dropWhile (fun i => !lt i j) = x :: (pre ++ i :: rest) := h
    obtain ⟨e1, e2⟩ := List.cons.inj h'
    obtain ⟨t, ht⟩ := List.dropWhile_suffix (l := P lt j) (fun i => !lt i j)
    refine P_suffix lt j (t ++ pre) rest i ?_
    rw [← ht, e2, List.append_assoc]
theorem P_mem (lt : Nat → Nat → Bool) (j i : Nat) (h : i ∈ P lt j) : ∃ pre, P lt j = pre ++ P lt (i + 1) := by
  obtain ⟨pre, rest, e⟩ := List.append_of_mem h
  exact ⟨pre, by rw [P_suffix lt j pre rest i e]; exact e⟩
theorem A_mem (lt : Nat → Nat → Bool) (j i : Nat) (h : i ∈ A lt j) : ∃ B, A lt j = A lt i ++ B := by
  obtain ⟨pre, e⟩ := P_mem lt (j + 1) i (List.mem_reverse.mp h)
  exact ⟨pre.reverse, by unfold A; rw [e, List.reverse_append]⟩
theorem A_self (lt : Nat → Nat → Bool) (j : Nat) : j ∈ A lt j := by unfold A; rw [List.mem_reverse, P]; exact List.mem_cons_self

theorem first_in (M : List Nat) : ∀ L : List Nat, (∀ x ∈ L, x ∉ M) ∨ ∃ pre x rest, L = pre ++ x :: rest ∧ x ∈ M ∧ ∀ y ∈ pre, y ∉ M
  | [] => .inl fun _ h => nomatch h
  | a :: L => by
    by_cases ha : a ∈ M
    · exact .inr ⟨[], a, L, rfl, ha, fun _ h => nomatch h⟩
    · rcases first_in M L with h | ⟨pre, x, rest, rfl, h2, h3⟩
      · exact .inl fun x hx => by
          rcases List.mem_cons.mp hx with q | q
          · rw [q]; exact ha
          · exact h x q
      · exact .inr ⟨a :: pre, x, rest, rfl, h2, fun y hy => by
          rcases List.mem_cons.mp hy with q | q
          · rw [q]; exact ha
          · exact h3 y q⟩
theorem A_fork {lt : Nat → Nat → Bool} (ht : ∀ i j k, lt i j = true → lt j k = true → lt i k = true) (a b : Nat) : ∃ p u v, A lt a = p ++ u ∧ A lt b = p ++ v ∧ (∀ x ∈ u, x ∉ A lt b) ∧ (∀ x ∈ v, x ∉ A lt a) := by
  rcases first_in (P lt (b + 1)) (P lt (a + 1)) with h | ⟨pre, x, rest, e, hx, hpre⟩
  · refine ⟨[], A lt a, A lt b, rfl, rfl, fun x hx q => ?_, fun x hx q => ?_⟩
    · exact h x (List.mem_reverse.mp hx) (List.mem_reverse.mp q)
    · exact h x (List.mem_reverse.mp q) (List.mem_reverse.mp hx)
  · have hs := P_suffix lt _ _ _ _ e
    obtain ⟨pre', e'⟩ := P_mem lt _ _ hx
    refine ⟨A lt x, pre.reverse, pre'.reverse, ?_, ?_, fun y hy q => ?_, fun y hy q => ?_⟩
    · unfold A; rw [e, hs, List.reverse_append]
    · unfold A; rw [e', List.reverse_append]
    · exact hpre y (List.mem_reverse.mp hy) (List.mem_reverse.mp q)
    · have hy' := List.mem_reverse.mp hy
      have hd := (P_desc ht (b + 1)).1
      rw [e', hs] at hd
      have hyx : x < y := (List.pairwise_append.mp hd).2.2 y hy' x List.mem_cons_self
      have q' := List.mem_reverse.mp q
      rw [e] at q'
      rcases List.mem_append.mp q' with q | q
      · exact hpre y q (by rw [e']; exact List.mem_append_left _ hy')
      · rcases List.mem_cons.mp q with q | q
        · (first | lia | omega)
        · have hd2 := (P_desc ht (x + 1)).1
          rw [hs] at hd2
          have := (List.pairwise_cons.mp hd2).1 y q
          (first | lia | omega)

theorem filter_range {q : Nat → Bool} (m : Nat) : ∀ n, m ≤ n → (List.range n).filter (fun k => decide (k < m) && q k) = (List.range m).filter q
  | 0, h => by rw [show m = 0 by (first | lia | omega)]; rfl
  | n + 1, h => by
    rcases Nat.lt_or_ge n m with hn | hn
    · rw [show m = n + 1 by (first | lia | omega)]
      exact List.filter_congr fun k hk => by rw [decide_eq_true (List.mem_range.mp hk), Bool.true_and]
    · rw [List.range_succ, List.filter_append, filter_range m n hn]
      simp [Nat.not_lt.mpr hn]
theorem A_marks {lt : Nat → Nat → Bool} (ht : ∀ i j k, lt i j = true → lt j k = true → lt i k = true) (j n : Nat) (hj : j < n) : (List.range n).filter (fun k => decide (k ∈ A lt j)) = A lt j := by
  conv => rhs; rw [A_char ht]
  rw [← filter_range (j + 1) n hj]
  refine List.filter_congr fun k _ => ?_
  rw [A_char ht, Bool.eq_iff_iff]
  simp [List.mem_filter]

/-! the ways, by columns -/
noncomputable def neg (c a : List Int) : Bool := (List.zipWith (· - ·) c a).all (· < 0)
theorem neg_min : ∀ (c a b : List Int), a.length = b.length → neg c (List.zipWith min a b) = (neg c a && neg c b)
  | [], _, _, _ => by simp [neg]
  | _ :: _, [], [], _ => by simp [neg]
  | x :: c, y :: a, z :: b, h => by
    have ih := neg_min c a b (by simpa using h)
    unfold neg at ih ⊢
    simp only [List.zipWith_cons_cons, List.all_cons, ih]
    rw [Bool.eq_iff_iff]
    simp only [Bool.and_eq_true, decide_eq_true_eq]
    constructor
    · rintro ⟨h1, h2, h3⟩; exact ⟨⟨by (first | lia | omega), h2⟩, by (first | lia | omega), h3⟩
    · rintro ⟨⟨h1, h2⟩, h3, h4⟩; exact ⟨by (first | lia | omega), h2, h4⟩
theorem neg_least (C : List (List Int)) (hC : ∀ i, i < C.length → (C.getD i []).length = 7) (j : Nat) (hj : j < C.length) (c : List Int) : ∀ k, k ≤ j → (waySt C j k).2.length = 7 ∧ neg c (waySt C j k).2 = (List.range (k + 1)).all fun s => neg c (C.getD (j - s) [])
  | 0, _ => ⟨hC j hj, by simp [waySt]⟩
  | k + 1, hk => by
    obtain ⟨h1, h2⟩ := neg_least C hC j hj c k (by (first | lia | omega))
    have hl := hC (j - 1 - k) (by (first | lia | omega))
    rw [waySt_succ]
    refine ⟨by simp only [wayStep, List.length_zipWith, hl, h1]; rfl, ?_⟩
    simp only [wayStep]
    rw [neg_min _ _ _ (by rw [hl, h1]), h2, List.range_succ (n := k + 1), List.all_append]
    simp only [List.all_cons, List.all_nil, Bool.and_true]
    rw [Bool.and_comm, show j - 1 - k = j - (k + 1) by (first | lia | omega)]
theorem way_is (C : List (List Int)) (hC : ∀ i, i < C.length → (C.getD i []).length = 7) (lt : Nat → Nat → Bool) (hlt : ∀ i k, i < C.length → k < C.length → lt i k = neg (C.getD i []) (C.getD k []))
    (ht : ∀ i j k, lt i j = true → lt j k = true → lt i k = true) (j : Nat) (hj : j < C.length) : wayOf C j = (A lt j).map fun i : Nat => (i : Int) := by
  have key : ∀ k, k ≤ j → (waySt C j k).1 = (j : Int) :: (((List.range k).map fun s => j - 1 - s).filter fun i => cond lt i (j + 1)).map fun i : Nat => (i : Int) := fun k => by
    induction k with
    | zero => intro _; rfl
    | succ k ih =>
      intro hk
      rw [waySt_succ]
      have h2 := (neg_least C hC j hj (C.getD (j - 1 - k) []) k (by (first | lia | omega))).2
      unfold neg at h2
      simp only [wayStep]
      have hc : ((List.range (k + 1)).all fun s => neg (C.getD (j - 1 - k) []) (C.getD (j - s) [])) = cond lt (j - 1 - k) (j + 1) := by
        rw [Bool.eq_iff_iff, cond, List.all_eq_true, List.all_eq_true]
        constructor
        · intro h t ht'
          have ht2 := List.mem_range.mp ht'
          rw [Bool.or_eq_true, decide_eq_true_eq]
          by_cases q : t ≤ j - 1 - k
          · exact .inl q
          · right
            rw [hlt _ _ (by (first | lia | omega)) (by (first | lia | omega))]
            have := h (j - t) (List.mem_range.mpr (by (first | lia | omega)))
            rwa [show j - (j - t) = t by (first | lia | omega)] at this
        · intro h s hs
          have hs2 := List.mem_range.mp hs
          have := h (j - s) (List.mem_range.mpr (by (first | lia | omega)))
          rw [Bool.or_eq_true, decide_eq_true_eq] at this
          rcases this with q | q
          · (first | lia | omega)
          · rwa [hlt _ _ (by (first | lia | omega)) (by (first | lia | omega))] at q
      unfold neg at hc
      rw [h2, hc, ih (by (first | lia | omega)), List.range_succ, List.map_append, List.filter_append, List.map_append]
      cases hcc : cond lt (j - 1 - k) (j + 1) with
      | true => rw [if_pos rfl]; simp [hcc]
      | false => rw [if_neg (by decide)]; simp [hcc]
  unfold wayOf
  rw [key j (Nat.le_refl _), A_char ht, ← List.map_cons (f := fun i : Nat => (i : Int)) , ← List.map_reverse]
  congr 1
  rw [List.range_succ, List.filter_append, List.filter_cons]
  have hjj : cond lt j (j + 1) = true := by
    unfold cond; rw [List.all_eq_true]; intro k hk
    simp only [Bool.or_eq_true, decide_eq_true_eq]; left; have := List.mem_range.mp hk; (first | lia | omega)
  rw [if_pos hjj, List.reverse_cons, ← List.filter_reverse]
  congr 2
  refine List.ext_getElem (by simp) fun i h1 h2 => ?_
  simp only [List.getElem_reverse, List.getElem_map, List.getElem_range, List.length_map, List.length_range]
  have : i < j := by simpa using h2
  (first | lia | omega)
end Mine

open PySem PySem.W PySem.Calls PyProof.Rows
set_option linter.unusedVariables false
set_option maxRecDepth 100000
namespace Mine

noncomputable def ind (x : Str) (s : Nat) : Int := indent (R x).1 (R x).2.1 (R x).2.2.2 s
noncomputable def okLead (x : Str) : Bool :=
  ((R x).2.2.1 == x.length) && decide (((R x).2.2.1 : Int) = ind x 1) && (cols x == (List.range 7).map fun k => ind x (k + 1)) &&
  decide (0 ≤ longRun (R x).1 (R x).2.1) && decide (longRun (R x).1 (R x).2.1 ≤ 6) && decide (((R x).2.1 : Int) ≤ longRun (R x).1 (R x).2.1) && decide ((R x).2.1 ≤ 6) &&
  ((List.range 7).all fun k => !decide (longRun (R x).1 (R x).2.1 < ((k + 1 : Nat) : Int)) || decide (ind x (k + 1) = (R x).2.1 + ((k + 1 : Nat) : Int) * (R x).2.2.2)) &&
  (if decide (((R x).1.length : Int) ≤ 1) then (List.range 7).all fun k => decide (ind x (k + 1) = (R x).2.1 + ((k + 1 : Nat) : Int) * (R x).2.2.2) else decide (1 ≤ longRun (R x).1 (R x).2.1))
theorem leads_ok : ∀ x ∈ allLeads, okLead x = true := by decide +kernel

structure LeadF (x : Str) : Prop where
  n : (R x).2.2.1 = x.length
  n1 : ((R x).2.2.1 : Int) = ind x 1
  cols : cols x = (List.range 7).map fun k => ind x (k + 1)
  l0 : 0 ≤ longRun (R x).1 (R x).2.1
  l6 : longRun (R x).1 (R x).2.1 ≤ 6
  bl : ((R x).2.1 : Int) ≤ longRun (R x).1 (R x).2.1
  b6 : (R x).2.1 ≤ 6
  far : ∀ k, k < 7 → longRun (R x).1 (R x).2.1 < ((k + 1 : Nat) : Int) → ind x (k + 1) = (R x).2.1 + ((k + 1 : Nat) : Int) * (R x).2.2.2
  simple : ((R x).1.length : Int) ≤ 1 → ∀ k, k < 7 → ind x (k + 1) = (R x).2.1 + ((k + 1 : Nat) : Int) * (R x).2.2.2
  more : ¬ ((R x).1.length : Int) ≤ 1 → 1 ≤ longRun (R x).1 (R x).2.1
theorem leadF {x : Str} (h : isLead x = true) : LeadF x := by
  have := leads_ok x (mem_leads h)
  simp only [okLead, Bool.and_eq_true, decide_eq_true_eq, beq_iff_eq, List.all_eq_true, List.mem_range, Bool.or_eq_true, Bool.not_eq_true', decide_eq_false_iff_not] at this
  obtain ⟨⟨⟨⟨⟨⟨⟨⟨h1, h2⟩, h3⟩, h4⟩, h5⟩, h6⟩, h7⟩, h8⟩, h9⟩ := this
  refine ⟨h1, h2, h3, h4, h5, h6, h7, fun k hk hl => (h8 k hk).resolve_left fun q => q hl, fun hs => ?_, fun hs => ?_⟩
  · rw [if_pos hs] at h9
    intro k hk
    exact of_decide_eq_true (List.all_eq_true.mp h9 k (List.mem_range.mpr hk))
  · rw [if_neg hs] at h9
    simpa using h9

theorem neg_range (f g : Nat → Int) : neg ((List.range 7).map f) ((List.range 7).map g) = true ↔ ∀ k, k < 7 → f k < g k := by
  unfold neg
  rw [List.zipWith_map, List.all_eq_true]
  constructor
  · intro h k hk
    have : f k - g k ∈ List.zipWith (fun a b => f a - g b) (List.range 7) (List.range 7) := by
      rw [List.zipWith_self]
      exact List.mem_map.mpr ⟨k, List.mem_range.mpr hk, rfl⟩
    have := h _ this
    simp only [decide_eq_true_eq] at this
    (first | lia | omega)
  · intro h d hd
    rw [List.zipWith_self] at hd
    obtain ⟨k, hk, rfl⟩ := List.mem_map.mp hd
    have := h k (List.mem_range.mp hk)
    simp only [decide_eq_true_eq]; (first | lia | omega)

theorem less_cols {a b : Str} (ha : isLead a = true) (hb : isLead b = true) : lessR (R a) (R b) = neg (cols a) (cols b) := by
  have fa := leadF ha
  have fb := leadF hb
  rw [Bool.eq_iff_iff, fa.cols, fb.cols, neg_range]
  unfold lessR
  by_cases hn : (R b).2.2.1 ≤ (R a).2.2.1
  · rw [if_pos hn]
    constructor
    · intro h; cases h
    · intro h
      have := h 0 (by decide)
      have h1 := fa.n1
      have h2 := fb.n1
      simp only [Nat.zero_add] at this
      (first | lia | omega)
  rw [if_neg hn]
  have h1 : ind a 1 < ind b 1 := by have h1 := fa.n1; have h2 := fb.n1; (first | lia | omega)
  by_cases hs : (decide (((R a).1.length : Int) ≤ 1) && decide (((R b).1.length : Int) ≤ 1)) = true
  · rw [if_pos hs]
    rw [Bool.and_eq_true, decide_eq_true_eq, decide_eq_true_eq] at hs
    have sa := fa.simple hs.1
    have sb := fb.simple hs.2
    have b6 := fb.b6
    rw [decide_eq_true_eq]
    have a1 := sa 0 (by decide)
    have b1 := sb 0 (by decide)
    simp only [Nat.zero_add] at a1 b1
    constructor
    · intro h k hk
      rw [sa k hk, sb k hk]
      generalize (R a).2.2.2 = na at *
      generalize (R b).2.2.2 = nb at *
      generalize (R a).2.1 = ba at *
      generalize (R b).2.1 = bb at *
      have hmul : (k : Int) * na ≤ (k : Int) * nb := Int.mul_le_mul_of_nonneg_left (by (first | lia | omega)) (nn _)
      rw [show ((k + 1 : Nat) : Int) = (k : Int) + 1 from rfl, Int.add_mul, Int.add_mul, Int.one_mul, Int.one_mul]
      clear sa sb fa fb hs
      (first | lia | omega)
    · intro h
      have h7 := h 6 (by decide)
      rw [sa 6 (by decide), sb 6 (by decide)] at h7
      (first | lia | omega)
  · rw [if_neg hs]
    have hN1 : 1 ≤ max (longRun (R a).1 (R a).2.1) (longRun (R b).1 (R b).2.1) := by
      by_cases q : ((R a).1.length : Int) ≤ 1
      · have q2 : ¬ ((R b).1.length : Int) ≤ 1 := fun q2 => hs (by rw [decide_eq_true q, decide_eq_true q2]; rfl)
        have := fb.more q2; (first | lia | omega)
      · have := fa.more q; (first | lia | omega)
    have la6 := fa.l6
    have lb6 := fb.l6
    have bla := fa.bl
    have blb := fb.bl
    have fra := fa.far
    have frb := fb.far
    generalize longRun (R a).1 (R a).2.1 = la at *
    generalize longRun (R b).1 (R b).2.1 = lb at *
    obtain ⟨N, hN⟩ : ∃ N : Nat, max la lb = (N : Int) := ⟨(max la lb).toNat, by (first | lia | omega)⟩
    rw [hN, show ((N : Int)).toNat = N from rfl, List.all_eq_true]
    have hN6 : N ≤ 6 := by (first | lia | omega)
    have hla : la ≤ N := hN ▸ Int.le_max_left ..
    have hlb : lb ≤ N := hN ▸ Int.le_max_right ..
    have hN1' : 1 ≤ N := by (first | lia | omega)
    clear hN hN1 la6 lb6
    constructor
    · intro h k hk
      by_cases hk0 : k = 0
      · subst hk0; exact h1
      by_cases hkN : k ≤ N
      · have := h (k - 1) (List.mem_range.mpr (by (first | lia | omega)))
        rw [decide_eq_true_eq, show 2 + (k - 1) = k + 1 by (first | lia | omega)] at this
        exact this
      · have h0 := h (N - 1) (List.mem_range.mpr (by (first | lia | omega)))
        rw [decide_eq_true_eq, show 2 + (N - 1) = N + 1 by (first | lia | omega)] at h0
        change ind a (N + 1) < ind b (N + 1) at h0
        rw [fra N (by (first | lia | omega)) (by (first | lia | omega)), frb N (by (first | lia | omega)) (by (first | lia | omega))] at h0
        rw [fra k hk (by (first | lia | omega)), frb k hk (by (first | lia | omega))]
        generalize (R a).2.2.2 = na at *
        generalize (R b).2.2.2 = nb at *
        generalize (R a).2.1 = ba at *
        generalize (R b).2.1 = bb at *
        have hbb : (bb : Int) ≤ N := by (first | lia | omega)
        clear fra frb h hs hn fa fb
        have hle : na ≤ nb := by
          rcases Nat.lt_or_ge nb na with q | q
          · exfalso
            have : ((N + 1 : Nat) : Int) * (nb + 1) ≤ ((N + 1 : Nat) : Int) * na := Int.mul_le_mul_of_nonneg_left (by (first | lia | omega)) (by (first | lia | omega))
            rw [Int.mul_add, Int.mul_one] at this
            (first | lia | omega)
          · exact q
        have e : ((k + 1 : Nat) : Int) = ((N + 1 : Nat) : Int) + ((k - N : Nat) : Int) := by (first | lia | omega)
        have hmul : ((k - N : Nat) : Int) * na ≤ ((k - N : Nat) : Int) * nb := Int.mul_le_mul_of_nonneg_left (by (first | lia | omega)) (by (first | lia | omega))
        rw [e, Int.add_mul, Int.add_mul]
        (first | lia | omega)
    · intro h k hk
      have := h (1 + k) (by have := List.mem_range.mp hk; (first | lia | omega))
      rw [decide_eq_true_eq, show 2 + k = 1 + k + 1 by (first | lia | omega)]
      exact this

theorem neg_trans : ∀ (a b c : List Int), a.length = b.length → b.length = c.length → neg a b = true → neg b c = true → neg a c = true
  | [], _, _, _, _, _, _ => by simp [neg]
  | x :: a, y :: b, z :: c, h1, h2, h3, h4 => by
    have ih := neg_trans a b c (by simpa using h1) (by simpa using h2)
    unfold neg at ih h3 h4 ⊢
    simp only [List.zipWith_cons_cons, List.all_cons, Bool.and_eq_true, decide_eq_true_eq] at h3 h4 ⊢
    exact ⟨by (first | lia | omega), ih h3.2 h4.2⟩
end Mine

open PySem PySem.W PySem.Calls PyProof.Rows
set_option linter.unusedVariables false
set_option maxRecDepth 100000
namespace Mine

noncomputable def front : Nat → Str
  | 0 => Str.ofString ""
  | 1 => Str.ofString "m."
  | _ => Str.ofString "a.b."
noncomputable def tail : Nat → Str
  | 0 => Str.ofString ""
  | 1 => Str.ofString ": a.b"
  | _ => Str.ofString "\n.c: d"
noncomputable def rest (f k t : Nat) : Str := front f ++ S [112 + k] ++ tail t
noncomputable def okRest (k : Nat) (r : Str) : Bool := (strip r == S [112 + k]) && r.cps.all (· < 128) && decide (r.length ≤ 20) && (match r.cps.toList with | c :: _ => c != 32 && c != 9 | [] => false)
theorem rests_ok : ∀ (f : Fin 3) (k : Fin 8) (t : Fin 3), okRest k.val (rest f.val k.val t.val) = true := by decide +kernel

theorem str_assoc (a b c : Str) : a ++ b ++ c = a ++ (b ++ c) := by
  rw [S_of a, S_of b, S_of c]; simp only [S_append, List.append_assoc]
theorem isSp (c : Nat) : ((⟨#[c]⟩ : Str) == Str.ofString " ") = decide (c = 32) := by
  rw [show Str.ofString " " = S [32] by decide +kernel]
  exact (S_beq [c] [32]).trans (by simp)
theorem isTab (c : Nat) : ((⟨#[c]⟩ : Str) == Str.ofString "\t") = decide (c = 9) := by
  rw [show Str.ofString "\t" = S [9] by decide +kernel]
  exact (S_beq [c] [9]).trans (by simp)
theorem wsGo_stop (c : Nat) (r : List Nat) (h1 : c ≠ 32) (h2 : c ≠ 9) : ∀ (l : List Nat) (cnt : List Int) (b n nt : Nat), (∀ x ∈ l, x = 32 ∨ x = 9) → wsGo (l ++ c :: r) cnt b n nt = wsGo l cnt b n nt
  | [], cnt, b, n, nt, _ => by
    simp only [List.nil_append, wsGo, isSp, isTab, decide_eq_true_eq, if_neg h1, if_neg h2]
  | x :: l, cnt, b, n, nt, h => by
    simp only [List.cons_append, wsGo]
    split
    · exact wsGo_stop c r h1 h2 l _ _ _ _ fun y hy => h y (List.mem_cons_of_mem _ hy)
    · split
      · exact wsGo_stop c r h1 h2 l _ _ _ _ fun y hy => h y (List.mem_cons_of_mem _ hy)
      · rfl
theorem lead_chars {x : Str} (h : isLead x = true) : ∀ c ∈ x.cps.toList, c = 32 ∨ c = 9 := by
  simp only [isLead, Bool.and_eq_true] at h
  have := h.2
  rw [← Array.all_toList, List.all_eq_true] at this
  intro c hc
  simpa using this c hc
theorem cps_append (a b : Str) : (a ++ b).cps.toList = a.cps.toList ++ b.cps.toList := by
  show (a.cps ++ b.cps).toList = _; simp
theorem R_row {l r : Str} (hl : isLead l = true) {k : Nat} (hr : okRest k r = true) : R (l ++ r) = R l := by
  simp only [okRest, Bool.and_eq_true] at hr
  have h4 := hr.2
  unfold R
  rw [cps_append]
  cases h : r.cps.toList with
  | nil => rw [h] at h4; cases h4
  | cons c s =>
    rw [h] at h4
    simp only [Bool.and_eq_true, bne_iff_ne] at h4
    exact wsGo_stop c s h4.1 h4.2 _ _ _ _ _ (lead_chars hl)
theorem behind_row {l r : Str} (hl : isLead l = true) {k : Nat} (hr : okRest k r = true) : behind (l ++ r) = S [112 + k] := by
  unfold behind
  rw [R_row hl hr, (leadF hl).n]
  have h : Txt.slice (l ++ r) (some (l.length : Nat)) none = r := by
    have e : l ++ r = S (l.cps.toList ++ r.cps.toList) := by rw [S_of (l ++ r), cps_append]
    rw [e, show l.length = l.cps.toList.length by simp; rfl, slice_from _ _ (by simp), List.drop_left]
    exact (S_of r).symm
  rw [h]
  simp only [okRest, Bool.and_eq_true] at hr
  simpa using hr.1.1.1

noncomputable def letters (l : List Nat) : List Nat := l.map (112 + ·)
noncomputable def ltOf (ls : List Str) (i k : Nat) : Bool := neg (cols (ls.getD i (Str.ofString ""))) (cols (ls.getD k (Str.ofString "")))
theorem lt_trans (ls : List Str) : ∀ i j k, ltOf ls i j = true → ltOf ls j k = true → ltOf ls i k = true := fun i j k h1 h2 =>
  neg_trans _ _ _ (by rw [cols_len, cols_len]) (by rw [cols_len, cols_len]) h1 h2
theorem getLead {ls : List Str} (h : ∀ l ∈ ls, isLead l = true) (i : Nat) : isLead (ls.getD i (Str.ofString "")) = true := by
  rw [List.getD_eq_getElem?_getD]
  cases q : ls[i]? with
  | none => decide +kernel
  | some l => exact h l (List.mem_of_getElem? q)

/-- the rows: leads, and behind each of them a rest -/
structure RowsOf (ls rows : List Str) : Prop where
  lead : ∀ l ∈ ls, isLead l = true
  len : rows.length = ls.length
  row : ∀ k, k < ls.length → ∃ r, okRest k r = true ∧ rows.getD k (Str.ofString "") = ls.getD k (Str.ofString "") ++ r

theorem words_is {ls rows : List Str} (H : RowsOf ls rows) : ∀ m, m ≤ rows.length →
    wordsOf (rows.take m) = ((P (ltOf ls) m).map fun i => (rows.getD i (Str.ofString ""), S (letters (A (ltOf ls) i))), (List.range m).map fun j => S (letters (A (ltOf ls) j)))
  | 0, _ => rfl
  | m + 1, hm => by
    have ih := words_is H m (by (first | lia | omega))
    have hget : rows[m]? = some (rows.getD m (Str.ofString "")) := by
      rw [List.getD_eq_getElem?_getD, List.getElem?_eq_getElem (show m < rows.length by (first | lia | omega))]; rfl
    obtain ⟨r, hr, hrow⟩ := H.row m (by have := H.len; (first | lia | omega))
    have hR : R (rows.getD m (Str.ofString "")) = R (ls.getD m (Str.ofString "")) := by rw [hrow, R_row (getLead H.lead m) hr]
    have hB : behind (rows.getD m (Str.ofString "")) = S [112 + m] := by rw [hrow, behind_row (getLead H.lead m) hr]
    have hpop : popped ((P (ltOf ls) m).map fun i => (rows.getD i (Str.ofString ""), S (letters (A (ltOf ls) i)))) (rows.getD m (Str.ofString "")) =
        ((P (ltOf ls) m).dropWhile fun i => !ltOf ls i m).map fun i => (rows.getD i (Str.ofString ""), S (letters (A (ltOf ls) i))) := by
      unfold popped
      rw [List.dropWhile_map]
      congr 1
      have hlt : ∀ i ∈ P (ltOf ls) m, i < m := fun i hi => (P_desc (lt_trans ls) m).2 i hi
      have : ∀ L : List Nat, (∀ i ∈ L, i < m) → L.dropWhile ((fun e => !lessR (R e.1) (R (rows.getD m (Str.ofString "")))) ∘ fun i => (rows.getD i (Str.ofString ""), S (letters (A (ltOf ls) i)))) = L.dropWhile fun i => !ltOf ls i m := fun L hL => by
        induction L with
        | nil => rfl
        | cons i L ihL =>
          have hi := hL i List.mem_cons_self
          obtain ⟨r', hr', hrow'⟩ := H.row i (by have := H.len; (first | lia | omega))
          have e : lessR (R (rows.getD i (Str.ofString ""))) (R (rows.getD m (Str.ofString ""))) = ltOf ls i m := by
            rw [hR, hrow', R_row (getLead H.lead i) hr', less_cols (getLead H.lead i) (getLead H.lead m)]; rfl
          simp only [List.dropWhile_cons, Function.comp, e]
          rw [← ihL fun j hj => hL j (List.mem_cons_of_mem _ hj)]
      exact this _ hlt
    have hword : above (((P (ltOf ls) m).dropWhile fun i => !ltOf ls i m).map fun i => (rows.getD i (Str.ofString ""), S (letters (A (ltOf ls) i)))) ++ S [112 + m] = S (letters (A (ltOf ls) m)) := by
      have hA : A (ltOf ls) m = (((P (ltOf ls) m).dropWhile fun i => !ltOf ls i m)).reverse ++ [m] := by unfold A; rw [P, List.reverse_cons]
      rw [hA]
      cases hD : (P (ltOf ls) m).dropWhile fun i => !ltOf ls i m with
      | nil =>
        show Str.ofString "" ++ _ = _
        rw [show Str.ofString "" = S [] by decide +kernel, S_append]; rfl
      | cons i D =>
        obtain ⟨t, ht⟩ := List.dropWhile_suffix (l := P (ltOf ls) m) fun i => !ltOf ls i m
        rw [hD] at ht
        have hs := P_suffix (ltOf ls) m t D i ht.symm
        show S (letters (A (ltOf ls) i)) ++ _ = _
        rw [S_append]
        congr 1
        unfold letters A
        rw [hs, List.map_append]; rfl
    rw [wordsOf_take rows m _ hget, ih]
    unfold wstep
    dsimp only
    rw [hpop, hB, hword, List.range_succ, List.map_append]
    rfl

/-! the wanted texts -/
noncomputable def dots : Str := Str.ofString "..."
noncomputable def wantS (l : List Nat) : Str := dots ++ Txt.join dots (l.map fun c => S [c]) ++ dots
noncomputable def expd (m : Nat) : List Nat := (List.range (m + 1)).map (4 * ·)
noncomputable def joinL : List Nat → List Nat
  | [] => []
  | c :: r => c :: r.flatMap fun c => [46, 46, 46, c]
noncomputable def wantL (l : List Nat) : List Nat := [46, 46, 46] ++ joinL l ++ [46, 46, 46]
theorem dots_S : dots = S [46, 46, 46] := by decide +kernel
theorem join_go : ∀ (r acc : List Nat), ((r.map fun c => S [c]).foldl (fun (a : Array Nat) p => a ++ dots.cps ++ p.cps) acc.toArray) = (acc ++ r.flatMap fun c => [46, 46, 46, c]).toArray
  | [], acc => by simp
  | c :: r, acc => by
    rw [List.map_cons, List.foldl_cons, show acc.toArray ++ dots.cps ++ (S [c]).cps = (acc ++ [46, 46, 46, c]).toArray by rw [dots_S]; simp [S], join_go r, List.flatMap_cons, List.append_assoc]
theorem join_S (l : List Nat) : Txt.join dots (l.map fun c => S [c]) = S (joinL l) := by
  cases l with
  | nil => rfl
  | cons c r =>
    show (⟨(r.map fun c => S [c]).foldl (fun (a : Array Nat) p => a ++ dots.cps ++ p.cps) [c].toArray⟩ : Str) = _
    rw [join_go]; rfl
theorem want_S (l : List Nat) : wantS l = S (wantL l) := by
  unfold wantS wantL; rw [join_S, dots_S, S_append, S_append]
open PySem.Builtin PySem.Builtin.Str in
noncomputable def okWant (l : List Nat) : Bool := l.isEmpty ||
  ((occurrences (S (wantL l)) dots 0 (wantL l).length ((wantL l).length + 1) == expd l.length) && (partsBetween (S (wantL l)) (expd l.length) 3 == cuts l) &&
    !decide (strKind (S (wantL l)) < 1) && subAt (S (wantL l)) dots 0 && decide (3 ≤ (wantL l).length) && decide ((wantL l).length ≤ 100) && decide ((joinL l).length ≤ 50))
/-! the places of the dots: they hang on the text's shape alone -/
section
open PySem.Builtin PySem.Builtin.Str
theorem subAt_dots (L : List Nat) (i : Nat) : subAt (S L) dots i = decide ((L.drop i).take 3 = [46, 46, 46]) := by
  rw [dots_S]; unfold subAt; rw [S_len]
  show ((S L).cps.extract i (i + 3) == (S [46, 46, 46]).cps) = _
  rw [show (S L).cps.extract i (i + 3) = ((L.drop i).take 3).toArray by
    apply Array.ext'
    rw [Array.toList_extract, List.extract_eq_take_drop, Nat.add_sub_cancel_left]; rfl]
  by_cases q : (L.drop i).take 3 = [46, 46, 46]
  · rw [q]; rfl
  · rw [decide_eq_false q, beq_eq_false_iff_ne]; exact fun e => q (congrArg Array.toList e)
noncomputable def phi (c : Nat) : Nat := if c = 46 then 46 else 112
theorem phi_eq (c : Nat) : phi c = 46 ↔ c = 46 := by unfold phi; split <;> simp_all
theorem phi_dots (X : List Nat) : X.map phi = [46, 46, 46] ↔ X = [46, 46, 46] := by
  rw [show [46, 46, 46] = List.replicate 3 46 from rfl, List.eq_replicate_iff, List.eq_replicate_iff]
  simp only [List.length_map, List.forall_mem_map, phi_eq]
theorem subAt_phi (L : List Nat) (i : Nat) : subAt (S (L.map phi)) dots i = subAt (S L) dots i := by
  rw [subAt_dots, subAt_dots, ← List.map_drop, ← List.map_take, decide_eq_decide, phi_dots]
theorem occ_congr {s s' d : Str} (h : ∀ i, subAt s d i = subAt s' d i) (lo hi n : Nat) : occurrences s d lo hi n = occurrences s' d lo hi n := by
  unfold occurrences; simp only [h]
theorem joinL_map (f : Nat → Nat) (hf : f 46 = 46) (l : List Nat) : (joinL l).map f = joinL (l.map f) := by
  cases l with
  | nil => rfl
  | cons c r => simp only [joinL, List.map_cons, List.map_flatMap, List.flatMap_map, List.map_nil, hf]
theorem wantL_phi {l : List Nat} (h : ∀ c ∈ l, 112 ≤ c) : (wantL l).map phi = wantL (List.replicate l.length 112) := by
  unfold wantL
  rw [List.map_append, List.map_append, joinL_map phi rfl, show l.map phi = List.replicate l.length 112 from List.eq_replicate_iff.mpr ⟨List.length_map _, fun b hb => by
    obtain ⟨c, hc, rfl⟩ := List.mem_map.mp hb
    have := h c hc
    unfold phi; rw [if_neg (by (first | lia | omega))]⟩]; rfl
theorem shapes_ok : ∀ n, n < 9 → (n == 0 || ((occurrences (S (wantL (List.replicate n 112))) dots 0 (wantL (List.replicate n 112)).length ((wantL (List.replicate n 112)).length + 1) == expd n) && subAt (S (wantL (List.replicate n 112))) dots 0 &&
    decide (3 ≤ (wantL (List.replicate n 112)).length) && decide ((wantL (List.replicate n 112)).length ≤ 100) && decide ((joinL (List.replicate n 112)).length ≤ 50))) = true := by decide +kernel
theorem parts_at (f : Nat → Nat) (n : Nat) (h : n < 9) : partsBetween (S (wantL ((List.range n).map f))) (expd n) 3 = cuts ((List.range n).map f) ∨ n = 0 := by
  rcases n with _ | _ | _ | _ | _ | _ | _ | _ | _ | n
  · exact .inr rfl
  · exact .inl rfl
  · exact .inl rfl
  · exact .inl rfl
  · exact .inl rfl
  · exact .inl rfl
  · exact .inl rfl
  · exact .inl rfl
  · exact .inl rfl
  · exact absurd h (Nat.not_lt.mpr (Nat.le_add_left _ _))
theorem wants_ok {l : List Nat} (h : l.Sublist [112, 113, 114, 115, 116, 117, 118, 119]) : okWant l = true := by
  have hc : ∀ c ∈ l, 112 ≤ c ∧ c < 256 := fun c hc => (by decide : ∀ c ∈ [112, 113, 114, 115, 116, 117, 118, 119], 112 ≤ c ∧ c < 256) c (h.subset hc)
  have hn : l.length < 9 := Nat.lt_succ_of_le h.length_le
  have e := wantL_phi fun c q => (hc c q).1
  have el : (wantL l).length = (wantL (List.replicate l.length 112)).length := by rw [← e, List.length_map]
  have ej : (joinL l).length = (joinL (List.replicate l.length 112)).length := by
    have := el; simp only [wantL, List.length_append] at this; exact Nat.add_left_cancel (Nat.add_right_cancel this)
  have hs := shapes_ok _ hn
  have hp := parts_at (fun i => l.getD i 0) l.length hn
  rw [show (List.range l.length).map (fun i => l.getD i 0) = l from List.ext_getElem (by simp) fun i h1 h2 => by simp [h2]] at hp
  have hk : Builtin.Str.strKind (S (wantL l)) = 1 := by
    unfold Builtin.Str.strKind
    rw [if_pos]
    show ((wantL l).toArray.all (· < 256)) = true
    rw [List.all_toArray, List.all_eq_true]
    intro x hx
    refine decide_eq_true ?_
    simp only [wantL, List.mem_append, List.mem_cons, List.not_mem_nil, or_false] at hx
    rcases hx with (hx | hx) | hx
    · rcases hx with rfl | rfl | rfl <;> decide
    · cases l with
      | nil => cases hx
      | cons c r =>
        rcases List.mem_cons.mp hx with q | q
        · exact q ▸ (hc c List.mem_cons_self).2
        · obtain ⟨b, hb, hx⟩ := List.mem_flatMap.mp q
          simp only [List.mem_cons, List.not_mem_nil, or_false] at hx
          rcases hx with q | q | q | q
          · rw [q]; decide
          · rw [q]; decide
          · rw [q]; decide
          · exact q ▸ (hc b (List.mem_cons_of_mem _ hb)).2
    · rcases hx with rfl | rfl | rfl <;> decide
  have sp : ∀ i, subAt (S (wantL (List.replicate l.length 112))) dots i = subAt (S (wantL l)) dots i := fun i => by rw [← e, subAt_phi]
  rw [occ_congr sp, sp, ← el, ← ej] at hs
  unfold okWant
  rw [hk]
  cases hl : l with
  | nil => rfl
  | cons c r =>
    rw [← hl]
    have n0 : ¬ l.length = 0 := by rw [hl]; exact Nat.succ_ne_zero _
    have hp := hp.resolve_right n0
    simp only [Bool.or_eq_true, beq_iff_eq, n0, false_or, Bool.and_eq_true] at hs
    rw [hp, hs.1.1.1.1, hs.1.1.1.2, hs.1.1.2, hs.1.2, hs.2]
    simp
end
theorem A_letters (ls : List Str) (k : Nat) (hk : k < 8) : (letters (A (ltOf ls) k)).Sublist [112, 113, 114, 115, 116, 117, 118, 119] := by
  rw [A_char (lt_trans ls), show [112, 113, 114, 115, 116, 117, 118, 119] = letters (List.range 8) from rfl]
  unfold letters
  refine List.Sublist.map _ (List.filter_sublist.trans ?_)
  exact List.range_sublist.mpr hk
end Mine

open PySem PySem.W PySem.Calls PyProof.Rows
set_option linter.unusedVariables false
set_option maxRecDepth 100000
namespace Mine

/-- the rows' texts -/
noncomputable def fr (told : List Int) (k : Nat) : Nat := (((told.getD k 0).fdiv 381).fmod 3).toNat
noncomputable def tl (told : List Int) (k : Nat) : Nat := (((told.getD k 0).fdiv 1143).fmod 3).toNat
noncomputable def rowS (ls : List Str) (told : List Int) (k : Nat) : Str := ls.getD k (Str.ofString "") ++ front (fr told k) ++ S [112 + k] ++ tail (tl told k)
noncomputable def rowsL (ls : List Str) (told : List Int) : List Str := (List.range told.length).map (rowS ls told)
theorem fmod3 (a : Int) : (a.fmod 3).toNat < 3 ∧ 0 ≤ a.fmod 3 := by
  have h1 := Int.fmod_nonneg_of_pos a (show (0 : Int) < 3 by decide)
  have h2 := Int.fmod_lt_of_pos a (show (0 : Int) < 3 by decide)
  (first | lia | omega)
theorem row_rest (ls : List Str) (told : List Int) (k : Nat) (hk : k < 8) : ∃ r, okRest k r = true ∧ rowS ls told k = ls.getD k (Str.ofString "") ++ r := by
  refine ⟨rest (fr told k) k (tl told k), rests_ok ⟨_, (fmod3 _).1⟩ ⟨k, hk⟩ ⟨_, (fmod3 _).1⟩, ?_⟩
  unfold rowS rest
  rw [str_assoc, str_assoc, str_assoc]
theorem rows_of (ls : List Str) (told : List Int) (hn : told.length ≤ 8) (hl : ls.length = told.length) (hok : ∀ l ∈ ls, isLead l = true) : RowsOf ls (rowsL ls told) := by
  refine ⟨hok, by simp [rowsL, hl], fun k hk => ?_⟩
  obtain ⟨r, h1, h2⟩ := row_rest ls told k (by (first | lia | omega))
  refine ⟨r, h1, ?_⟩
  rw [← h2, List.getD_eq_getElem?_getD, rowsL, List.getElem?_map, List.getElem?_range (by (first | lia | omega))]; rfl
theorem rows_fit (ls : List Str) (told : List Int) (hn : told.length ≤ 8) (hok : ∀ l ∈ ls, isLead l = true) : ∀ x ∈ rowsL ls told, x.cps.all (· < 128) = true ∧ x.length ≤ 100 ∧ (behind x).length = 1 := by
  intro x hx
  obtain ⟨k, hk, rfl⟩ := List.mem_map.mp hx
  obtain ⟨r, h1, h2⟩ := row_rest ls told k (by have := List.mem_range.mp hk; (first | lia | omega))
  have hl := getLead hok k
  have hs := small_lead _ (mem_leads hl)
  have h1' := h1
  simp only [okRest, Bool.and_eq_true, decide_eq_true_eq] at h1' hs
  rw [h2]
  refine ⟨?_, ?_, ?_⟩
  · rw [← Array.all_toList, cps_append, List.all_append, Array.all_toList, Array.all_toList, hs.2, h1'.1.1.2]; rfl
  · rw [str_len_append]; have := h1'.1.2; (first | lia | omega)
  · rw [behind_row hl h1, S_len]; rfl

noncomputable def rowT (ls : List Str) (told : List Int) : T → T
  | .int i => .str (rowS ls told i.toNat)
  | _ => .none

noncomputable def clS (l : List (String × Addr)) : List (Str × Addr) := l.map fun p => (Str.ofString p.1, p.2)
noncomputable def ClOk (env : Env) : List (String × Addr) → Prop
  | [] => True
  | (x, c) :: r => (env.kindOf (Str.ofString x) = some .cell ∧ env.cells.lookup (Str.ofString x) = some c) ∧ ClOk env r
theorem ClOk.at {env : Env} : ∀ {l : List (String × Addr)}, ClOk env l → ∀ x c, (x, c) ∈ clS l → (∃ y, x = Str.ofString y) ∧ env.kindOf x = some .cell ∧ env.cells.lookup x = some c
  | [], _, _, _, h => nomatch h
  | (y, e) :: r, h, x, c, hm => by
    rcases List.mem_cons.mp hm with q | q
    · cases q; exact ⟨⟨y, rfl⟩, h.1⟩
    · exact h.2.at x c q
theorem scoped_of {env : Env} {loc : Loc} {scope : Scope} {l : List (String × Addr)} {cloc : Loc} (h1 : closureFor scope env = pure (clS l)) (h2 : scope.kind = .function) (h3 : ∀ x ∈ scope.names, x.2 = .local → scope.names.lookup x.1 = some .local) (h4 : ClOk env l)
    (h5 : ∀ C, Sees env (cenvOf scope (clS l) C env) loc cloc) : Scoped env loc scope (clS l) cloc := ⟨h1, h2, h3, fun x c h => (h4.at x c h).2, fun x c h => (h4.at x c h).1, h5⟩
section
variable {g : GC} {d : Nat} {env : Env} {loc : Loc} {Q : Fl → Loc → Prop}
theorem rangeT_mem {n : Nat} {t : T} (h : t ∈ rangeT 0 1 n) : ∃ k : Nat, k < n ∧ t = .int k := by
  obtain ⟨k, hk, rfl⟩ := List.mem_map.mp h
  exact ⟨k, List.mem_range.mp hk, by congr 1; (first | lia | omega)⟩
theorem rangeT_map {n : Nat} {f : T → T} : (rangeT 0 1 n).map f = (List.range n).map fun k : Nat => f (.int k) := by
  unfold rangeT; rw [List.map_map]
  refine List.map_congr_left fun k _ => ?_
  simp only [Function.comp]; congr 2; (first | lia | omega)
end

/-! what the law's texts come to -/
theorem A_last (lt : Nat → Nat → Bool) (k : Nat) : ∃ B, A lt k = B ++ [k] := ⟨_, by unfold A; rw [P, List.reverse_cons]⟩
theorem letters_last (lt : Nat → Nat → Bool) (k : Nat) : S (letters (A lt k)).dropLast ++ S [112 + k] = S (letters (A lt k)) := by
  obtain ⟨B, e⟩ := A_last lt k
  rw [e, S_append]; unfold letters; simp
theorem ones_sum : ∀ l : List Nat, ((l.map fun c => S [c]).map (·.length)).sum = l.length
  | [] => rfl
  | c :: l => by simp only [List.map_cons, List.sum_cons, ones_sum l, S_len, List.length_cons, List.length_nil]; (first | lia | omega)
theorem signs_S (l : List Nat) : signT (S l) = (l.map fun c => S [c]).map T.str := by
  unfold signT S; simp only [List.map_map]; rfl
theorem letters_len (ls : List Str) (k : Nat) (hk : k < 8) : (letters (A (ltOf ls) k)).length ≤ 8 := (A_letters ls k hk).length_le
theorem letters_letter (l : List Nat) (h : ∀ x ∈ l, x < 8) : ∀ c ∈ letters l, letter c := by
  intro c hc
  obtain ⟨x, hx, rfl⟩ := List.mem_map.mp hc
  have := h x hx
  unfold letter; (first | lia | omega)
theorem letters_mem (x : Nat) (l : List Nat) : 112 + x ∈ letters l ↔ x ∈ l := by
  unfold letters; rw [List.mem_map]
  constructor
  · rintro ⟨y, hy, e⟩; rwa [show x = y by (first | lia | omega)]
  · exact fun h => ⟨x, h, rfl⟩
theorem match_is (lt : Nat → Nat → Bool) (j k : Nat) : (scan (S (letters (A lt j))) (cuts (letters (A lt k))) 0).isSome = decide (k ∈ A lt j) := by
  by_cases h : k ∈ A lt j
  · obtain ⟨B, e⟩ := A_mem lt j k h
    rw [e, decide_eq_true (List.mem_append_left _ (A_self lt k)), show letters (A lt k ++ B) = letters (A lt k) ++ letters B by unfold letters; simp]
    exact scan_yes _ _
  · rw [decide_eq_false h]
    refine scan_no _ (112 + k) (fun q => h ((letters_mem k _).mp q)) _ _ ?_
    unfold cuts
    refine List.mem_append_left _ (List.mem_cons_of_mem _ (List.mem_map.mpr ⟨112 + k, (letters_mem k _).mpr (A_self lt k), rfl⟩))
structure WantF (l : List Nat) : Prop where
  hin : (Builtin.Str.occurrences (wantS l) dots 0 (wantS l).length 1).isEmpty = false
  hsp : Txt.split (wantS l) dots = cuts l
  len : (wantS l).length ≤ 100
  jlen : (Txt.join dots (l.map fun c => S [c])).length ≤ 50
theorem wantF (ls : List Str) (k : Nat) (hk : k < 8) : WantF (letters (A (ltOf ls) k)) := by
  have h := wants_ok (A_letters ls k hk)
  have hne : (letters (A (ltOf ls) k)).isEmpty = false := by
    obtain ⟨B, e⟩ := A_last (ltOf ls) k
    rw [e]; unfold letters; simp
  simp only [okWant, hne, Bool.false_or, Bool.and_eq_true, Bool.not_eq_true', decide_eq_true_eq, beq_iff_eq] at h
  obtain ⟨⟨⟨⟨⟨⟨h1, h2⟩, h3⟩, h4⟩, h5⟩, h6⟩, h7⟩ := h
  have hk1 : PySem.Builtin.Str.strKind dots = 1 := by decide +kernel
  have hd3 : dots.length = 3 := by decide +kernel
  refine ⟨?_, ?_, by rw [want_S, S_len]; exact h6, by rw [join_S, S_len]; exact h7⟩
  · rw [want_S, occ_first _ _ 0 _ (by rw [Nat.zero_add, S_len, hd3]; exact h5) h4]; rfl
  · unfold Txt.split
    rw [want_S, S_len, hd3, hk1, if_neg (by rw [decide_eq_false (Nat.not_lt.mpr h5), h3]; decide), h1, if_neg (by unfold expd; simp), h2]
theorem calls_em {g : GC} (F : Fx g) (d : Nat) (ls : List Str) (k j : Nat) (hk : k < 8) (hj : j < 8) : Calls g (d + 1) (.ref F.fEm) [.str (wantS (letters (A (ltOf ls) k))), .str (S (letters (A (ltOf ls) j)))] (.bool (decide (k ∈ A (ltOf ls) j))) := by
  have w := wantF ls k hk
  have hl := letters_len ls k hk
  have hg := letters_len ls j hj
  rw [← match_is]
  have hclen : (cuts (letters (A (ltOf ls) k))).length = (letters (A (ltOf ls) k)).length + 2 := by unfold cuts; simp
  refine F.em.calls d _ _ rfl fun L q cd => walk_em F d _ _ _ w.hin w.hsp (by (first | lia | omega)) ?_ ?_ (by have := w.len; (first | lia | omega)) (by rw [S_len]; (first | lia | omega)) (by (first | lia | omega)) (fun x hx => ?_) L _ q cd
  · rw [show Str.ofString "" = S [] by decide +kernel]; rfl
  · rw [show Str.ofString "" = S [] by decide +kernel, hclen]; unfold cuts
    rw [List.getElem?_append_right (by simp)]; simp
  · unfold cuts at hx
    rcases List.mem_append.mp hx with q | q
    · rcases List.mem_cons.mp q with q | q
      · rw [q, S_len]; simp
      · obtain ⟨c, _, rfl⟩ := List.mem_map.mp q; rw [S_len]; simp
    · rw [List.mem_singleton.mp q, S_len]; simp

noncomputable def wantT (ls : List Str) : T → T
  | .int i => .str (wantS (letters (A (ltOf ls) i.toNat)))
  | _ => .none
noncomputable def hitT (ls : List Str) (j : Nat) : T → Bool
  | .int i => decide (i.toNat ∈ A (ltOf ls) j)
  | _ => false
noncomputable abbrev castL (l : List Nat) : List Int := l.map fun i : Nat => (i : Int)
theorem hits_is (ls : List Str) (j n : Nat) (hj : j < n) : ((rangeT 0 1 n).filter (hitT ls j)).map id = (castL (A (ltOf ls) j)).map T.int := by
  rw [List.map_id, show rangeT 0 1 n = (List.range n).map fun k : Nat => T.int k from (List.map_id (rangeT 0 1 n)).symm.trans rangeT_map, List.filter_map, List.map_map]
  conv => rhs; rw [← A_marks (lt_trans ls) j n hj]
  rfl
theorem ways_is (ls : List Str) : ways (ls.map cols) = (List.range ls.length).map fun j => castL (A (ltOf ls) j) := by
  unfold ways
  rw [List.length_map]
  refine List.map_congr_left fun j hj => ?_
  have hget : ∀ i, i < (ls.map cols).length → (ls.map cols).getD i [] = cols (ls.getD i (Str.ofString "")) := fun i hi => by
    have hi' : i < ls.length := by simpa using hi
    simp [List.getD_eq_getElem?_getD, List.getElem?_map, List.getElem?_eq_getElem hi']
  exact way_is _ (fun i hi => by rw [hget i hi, cols_len]) (ltOf ls) (fun i k hi hk => by rw [hget i hi, hget k hk]; rfl) (lt_trans ls) j (by simpa using List.mem_range.mp hj)

/-- the marks of one word -/
noncomputable def markT (ls : List Str) (n : Nat) : T → T
  | .str w => .list (((rangeT 0 1 n).filter fun t => match t with | .int i => (scan w (cuts (letters (A (ltOf ls) i.toNat))) 0).isSome | _ => false).map id)
  | _ => .none
theorem markT_is (ls : List Str) (n j : Nat) (hj : j < n) : markT ls n (.str (S (letters (A (ltOf ls) j)))) = intsT (castL (A (ltOf ls) j)) := by
  unfold markT intsT
  rw [← hits_is ls j n hj]
  show T.list (List.map id (List.filter _ _)) = _
  congr 2
  refine List.filter_congr fun t ht => ?_
  obtain ⟨k, hk, rfl⟩ := rangeT_mem ht
  exact match_is _ _ _

theorem hnm : ∀ k, (h : k < 8) → [112, 113, 114, 115, 116, 117, 118, 119][k] = 112 + k := by decide +kernel
theorem below3 {P : Nat → Prop} (h0 : P 0) (h1 : P 1) (h2 : P 2) (i : Nat) (h : i < 3) : P i := by
  rcases i with _ | _ | _ | i
  · exact h0
  · exact h1
  · exact h2
  · exact absurd h (Nat.not_lt.mpr (Nat.le_add_left _ _))
theorem hfr : ∀ i, i < 3 → [T.str (Str.ofString ""), T.str (Str.ofString "m."), T.str (Str.ofString "a.b.")][i]? = some (.str (front i)) ∧ (front i).length ≤ 10 := below3 ⟨rfl, by decide +kernel⟩ ⟨rfl, by decide +kernel⟩ ⟨rfl, by decide +kernel⟩
theorem htl : ∀ i, i < 3 → [T.str (Str.ofString ""), T.str (Str.ofString ": a.b"), T.str (Str.ofString "\n.c: d")][i]? = some (.str (tail i)) ∧ (tail i).length ≤ 10 := below3 ⟨rfl, by decide +kernel⟩ ⟨rfl, by decide +kernel⟩ ⟨rfl, by decide +kernel⟩
theorem hget (a : Int) : ∃ i : Nat, i < 3 ∧ (a.fmod 3) = (i : Int) ∧ (a.fmod 3).toNat = i := ⟨(a.fmod 3).toNat, (fmod3 a).1, by have := (fmod3 a).2; (first | lia | omega), rfl⟩
theorem walk_law {g : GC} (F : Fx g) {mc : Value} (Z : Fz g F mc) (d : Nat) (script : List Int) (hs63 : script.length ≤ 63) (L f : Addr) (q : Str) (cd : Value) :
    Ex g (d + 3) (envC (fnScope (nth 18)) L f q cd) [("script", .val (intsT script))] (fnBody (nth 18)) (retQ (.bool true)) := by
  have hS : ∀ y, ((fnScope (nth 18)).names.lookup (Str.ofString y) == some .local) = true → Stores (envC (fnScope (nth 18)) L f q cd) y := fun y h => .inl (show (fnScope (nth 18)).names.lookup (Str.ofString y) = some .local by simpa using h)
  have hK : ∀ y, ((fnScope (nth 18)).names.lookup y == some .globalImplicit) = true → (envC (fnScope (nth 18)) L f q cd).kindOf y = some .globalImplicit := fun y h => show (fnScope (nth 18)).names.lookup y = some .globalImplicit by simpa using h
  generalize htold : script.take 4 ++ [1527, 3060, 450, 4] = told
  have hn8 : told.length ≤ 8 := by rw [← htold]; simp; (first | lia | omega)
  have hn1 : told.length ≤ 100000 := Nat.le_trans hn8 (by decide)
  have hn100 : told.length ≤ 100 := Nat.le_trans hn8 (by decide)
  refine ex_cons (x_assign (t := intsT told) (ev_is (ev_fresh (evF_add (evT_fresh (evF_slice (evT_val (ev_name (by rfl))) evP_no (evP_int ev_int) evP_no (by decide) (lz (by simp; (first | lia | omega))))) (evT_fresh (evF_list (evL_cons ev_int (evL_cons ev_int (evL_cons ev_int (evL_cons ev_int evL_nil)))) (lz (by simp)))) ?_)) ?_) (.inr ⟨by rfl, _, by rfl⟩) ?_)
  · rw [show (some (4 : Int)) = some ((4 : Nat) : Int) from rfl, sliceT_take]; exact lz (by simp; (first | lia | omega))
  · rw [show (some (4 : Int)) = some ((4 : Nat) : Int) from rfl, sliceT_take, ← htold, intsT, List.map_append, List.map_take]; rfl
  refine ex_cons (x_assign (t := .str (S [112, 113, 114, 115, 116, 117, 118, 119])) (ev_is ev_str (by congr 1)) (.inr ⟨by rfl, _, by rfl⟩) ?_)
  refine ex_cons (x_assign (ev_fresh (evF_list (evL_cons ev_str (evL_cons ev_str (evL_cons ev_str evL_nil))) (lz (by simp)))) (.inr ⟨by rfl, _, by rfl⟩) ?_)
  refine ex_cons (x_assign (ev_fresh (evF_list (evL_cons ev_str (evL_cons ev_str (evL_cons ev_str evL_nil))) (lz (by simp)))) (.inr ⟨by rfl, _, by rfl⟩) ?_)
  refine ex_cons (x_assign (ev_call (hK _ (by decide +kernel)) F.leadsAt F.leads.fn (evL_cons (ev_name (by rfl)) evL_nil) (F.leads.calls (d + 2) _ _ rfl fun L q cd => walk_leads F (d + 2) told hn8 L _ q cd) (Nat.le_refl _)) (.inr ⟨by rfl, _, by rfl⟩) ?_)
  have hls := leadsOf_len told
  have hok := leadsOf_ok told
  generalize leadsOf told = ls at hls hok
  have hRows := rows_of ls told hn8 hls hok
  have hFit := rows_fit ls told hn8 hok
  refine ex_cons (x_assignC (comp_list (x := "k") (cl := clS [("told", L + 1), ("tails", L + 4), ("names", L + 2), ("leads", L + 5), ("fronts", L + 3)])
    (cloc := [("told", .val (intsT told)), ("tails", .val (.list [.str (Str.ofString ""), .str (Str.ofString ": a.b"), .str (Str.ofString "\n.c: d")])), ("names", .val (.str (S [112, 113, 114, 115, 116, 117, 118, 119]))), ("leads", .val (.list (ls.map T.str))), ("fronts", .val (.list [.str (Str.ofString ""), .str (Str.ofString "m."), .str (Str.ofString "a.b.")]))])
    (p := fun _ => true) (f := rowT ls told) (it_range (n := told.length) (evR_1 (F.range.at (hK _ (by decide +kernel))) (ev_is (ev_len (F.len.at (hK _ (by decide +kernel))) (evT_val (ev_name (by rfl))) (lzm hn8)) (by rw [List.length_map]))) (small_up hn1) (rs_up _))
    (scoped_of (by rfl) (by rfl) (by decide +kernel) ⟨⟨by rfl, by rfl⟩, ⟨by rfl, by rfl⟩, ⟨by rfl, by rfl⟩, ⟨by rfl, by rfl⟩, ⟨by rfl, by rfl⟩, trivial⟩ fun _ => .cons (by rfl) (by rfl) (by rfl) (by rfl) (.cons (by rfl) (by rfl) (by rfl) (by rfl) (.cons (by rfl) (by rfl) (by rfl) (by rfl) (.cons (by rfl) (by rfl) (by rfl) (by rfl) (.cons (by rfl) (by rfl) (by rfl) (by rfl) .nil)))))
    (tgt0 (fun C => by rfl) (fun C => by rfl) (by rfl) (by rfl)) (fun C t _ => tests_nil) (fun C t ht _ => ?_) (by rw [rangeT_len]; exact hn100)) (hS _ (by decide +kernel)) ?_)
  · obtain ⟨k, hk, rfl⟩ := rangeT_mem ht
    obtain ⟨i1, hi1, e1, e1'⟩ := hget ((told.getD k 0).fdiv 381)
    obtain ⟨i2, hi2, e2, e2'⟩ := hget ((told.getD k 0).fdiv 1143)
    have hlead := small_lead _ (mem_leads (getLead hok k))
    rw [Bool.and_eq_true, decide_eq_true_eq] at hlead
    have htold : (told.map T.int)[((k : Int)).toNat]? = some (.int (told.getD k 0)) := by
      rw [List.getElem?_map, show ((k : Int)).toNat = k from rfl, List.getD_eq_getElem?_getD, List.getElem?_eq_getElem hk]; rfl
    have htz : (told.map T.int).length ≤ sizeLine := lzm hn8
    refine ev_is (ev_bin (ev_bin (ev_bin (ev_item (t := .str (ls.getD k (Str.ofString ""))) (evT_val (ev_name (by rfl))) (ev_name (by rfl)) (nn _) ?_ (lzm (hls.symm ▸ hn8)))
      (ev_item (t := .str (front i1)) (evT_val (ev_name (by rfl))) (ev_bin (ev_bin (ev_item (evT_val (ev_name (by rfl))) (ev_name (by rfl)) (nn _) htold htz) ev_int (b_div _ _ (by decide) (by rfl))) ev_int (b_mod _ _ (by decide))) (by rw [e1]; exact nn _) (by rw [e1']; exact (hfr i1 hi1).1) (lz (by simp))) (b_cat _ _ (lz (by have := (hfr i1 hi1).2; (first | lia | omega)))))
      (ev_chr (l := [112, 113, 114, 115, 116, 117, 118, 119]) (k := k) (ev_name (by rfl)) (ev_name (by rfl)) (Nat.lt_of_lt_of_le hk hn8) (by simp)) (b_cat _ _ (lz ?_)))
      (ev_item (t := .str (tail i2)) (evT_val (ev_name (by rfl))) (ev_bin (ev_bin (ev_item (evT_val (ev_name (by rfl))) (ev_name (by rfl)) (nn _) htold htz) ev_int (b_div _ _ (by decide) (by rfl))) ev_int (b_mod _ _ (by decide))) (by rw [e2]; exact nn _) (by rw [e2']; exact (htl i2 hi2).1) (lz (by simp))) (b_cat _ _ (lz ?_))) ?_
    · rw [List.getElem?_map, show ((k : Int)).toNat = k from rfl, List.getD_eq_getElem?_getD, List.getElem?_eq_getElem (show k < ls.length from hls.symm ▸ hk)]; rfl
    · have := (hfr i1 hi1).2; rw [str_len_append, S_len, List.length_singleton]; (first | lia | omega)
    · have := (hfr i1 hi1).2; have := (htl i2 hi2).2; rw [str_len_append, str_len_append, S_len, List.length_singleton]; (first | lia | omega)
    · show T.str _ = T.str (rowS ls told k)
      congr 1
      unfold rowS fr tl
      rw [e1', e2', hnm k (Nat.lt_of_lt_of_le hk hn8)]
  rw [show ((rangeT 0 1 told.length).filter fun _ => true).map (rowT ls told) = (rowsL ls told).map T.str by
    rw [List.filter_eq_self.mpr (fun _ _ => rfl), rangeT_map, rowsL, List.map_map]; rfl]
  have hrl : (rowsL ls told).length = told.length := by simp [rowsL]
  refine ex_cons (x_assign (ev_call (hK _ (by decide +kernel)) F.wordsAt F.words.fn (evL_cons (ev_name (by rfl)) evL_nil) (F.words.calls (d + 2) _ _ rfl fun L q cd => walk_words F Z d (rowsL ls told) (hrl.symm ▸ hn8) (fun x h => (hFit x h).1) (fun x h => (hFit x h).2.1) (fun x h => (hFit x h).2.2) L _ q cd) (Nat.le_refl _)) (.inr ⟨by rfl, _, by rfl⟩) ?_)
  have hwords : (wordsOf (rowsL ls told)).2 = (List.range told.length).map fun j => S (letters (A (ltOf ls) j)) := by
    have := words_is hRows told.length (Nat.le_of_eq hrl.symm)
    rw [List.take_of_length_le (Nat.le_of_eq hrl)] at this
    rw [this]
  rw [hwords]
  have hW : ∀ k : Nat, k < told.length → (((List.range told.length).map fun j => S (letters (A (ltOf ls) j))).map T.str)[((k : Int)).toNat]? = some (.str (S (letters (A (ltOf ls) k)))) := fun k hk => by
    rw [List.map_map, List.getElem?_map, show ((k : Int)).toNat = k from rfl, List.getElem?_range hk]; rfl
  have hWz : (((List.range told.length).map fun j => S (letters (A (ltOf ls) j))).map T.str).length ≤ sizeLine := by first | exact lzm (Nat.le_trans (Nat.le_of_eq List.length_range) hn8) | exact lz (by simp; (first | lia | omega))
  generalize hWs : ((List.range told.length).map fun j => S (letters (A (ltOf ls) j))).map T.str = Ws at hW hWz
  refine ex_cons (x_assign (ev_fresh (evF_comp (comp_list (x := "k") (cl := clS [("words", L + 6), ("names", L + 2)]) (cloc := [("words", .val (.list Ws)), ("names", .val (.str (S [112, 113, 114, 115, 116, 117, 118, 119])))])
    (p := fun _ => true) (f := wantT ls) (it_range (n := told.length) (evR_1 (F.range.at (hK _ (by decide +kernel))) (ev_is (ev_len (F.len.at (hK _ (by decide +kernel))) (evT_val (ev_name (by rfl))) (lzm hn8)) (by rw [List.length_map]))) (small_up hn1) (rs_up _))
    (scoped_of (by rfl) (by rfl) (by decide +kernel) ⟨⟨by rfl, by rfl⟩, ⟨by rfl, by rfl⟩, trivial⟩ fun _ => .cons (by rfl) (by rfl) (by rfl) (by rfl) (.cons (by rfl) (by rfl) (by rfl) (by rfl) .nil))
    (tgt0 (fun C => by rfl) (fun C => by rfl) (by rfl) (by rfl)) (fun C t _ => tests_nil) (fun C t ht _ => ?_) (by rw [rangeT_len]; exact hn100)))) (.inr ⟨by rfl, _, by rfl⟩) ?_)
  · obtain ⟨k, hk, rfl⟩ := rangeT_mem ht
    have w := wantF ls k (Nat.lt_of_lt_of_le hk hn8)
    have hl := letters_len ls k (Nat.lt_of_lt_of_le hk hn8)
    have hd3 : dots.length = 3 := by decide +kernel
    refine ev_is (ev_bin (ev_bin (ev_is ev_str (u := .str dots) rfl) (ev_join (ys := (letters (A (ltOf ls) k)).map fun c => S [c]) (ev_is ev_str (u := .str dots) rfl) (evT_is (evT_fresh (evF_signs (F.list.at (by rfl)) (ev_is (ev_bin (ev_slice (ev_item (evT_val (ev_name (by rfl))) (ev_name (by rfl)) (nn _) (hW k hk) hWz) evP_no (evP_int (ev_neg ev_int)) (lzS hl))
      (ev_chr (l := [112, 113, 114, 115, 116, 117, 118, 119]) (k := k) (ev_name (by rfl)) (ev_name (by rfl)) (Nat.lt_of_lt_of_le hk hn8) (by simp)) (b_cat _ _ (lz ?_))) ?_) (lzS hl))) (signs_S _)) ?_) (b_cat _ _ (lz (by have := w.jlen; (first | lia | omega))))) (ev_is ev_str (u := .str dots) rfl) (b_cat _ _ (lz ?_))) ?_
    · rw [show (-(1 : Int)) = -1 from rfl, slice_init, S_len, S_len, List.length_dropLast, List.length_singleton]; (first | lia | omega)
    · rw [show (-(1 : Int)) = -1 from rfl, slice_init, hnm k (Nat.lt_of_lt_of_le hk hn8), letters_last]
    · rw [ones_sum, List.length_map, hd3]; (first | lia | omega)
    · rw [str_len_append]; have := w.jlen; (first | lia | omega)
    · rfl
  rw [show ((rangeT 0 1 told.length).filter fun _ => true).map (wantT ls) = (List.range told.length).map fun k => T.str (wantS (letters (A (ltOf ls) k))) by
    rw [List.filter_eq_self.mpr (fun _ _ => rfl), rangeT_map]; rfl]
  have hV : ∀ k : Nat, k < told.length → ((List.range told.length).map fun k => T.str (wantS (letters (A (ltOf ls) k))))[((k : Int)).toNat]? = some (.str (wantS (letters (A (ltOf ls) k)))) := fun k hk => by
    rw [List.getElem?_map, show ((k : Int)).toNat = k from rfl, List.getElem?_range hk]; rfl
  have hVz : ((List.range told.length).map fun k => T.str (wantS (letters (A (ltOf ls) k)))).length ≤ sizeLine := by first | exact lzm (Nat.le_trans (Nat.le_of_eq List.length_range) hn8) | exact lz (by simp; (first | lia | omega))
  generalize (List.range told.length).map (fun k => T.str (wantS (letters (A (ltOf ls) k)))) = Vs at hV hVz
  have hmem : ∀ t ∈ Ws, ∃ j, j < told.length ∧ t = .str (S (letters (A (ltOf ls) j))) := fun t ht => by
    rw [← hWs, List.map_map] at ht
    obtain ⟨j, hj, rfl⟩ := List.mem_map.mp ht
    exact ⟨j, List.mem_range.mp hj, rfl⟩
  refine ex_cons (x_assign (ev_fresh (evF_comp (comp_list (x := "word") (cl := clS [("wanted", L + 7), ("told", L + 1)]) (cloc := [("wanted", .val (.list Vs)), ("told", .val (intsT told))])
    (p := fun _ => true) (f := markT ls told.length) (it_list (ev_name (by rfl)))
    (scoped_of (by rfl) (by rfl) (by decide +kernel) ⟨⟨by rfl, by rfl⟩, ⟨by rfl, by rfl⟩, trivial⟩ fun _ => .cons (by rfl) (by rfl) (by rfl) (by rfl) (.cons (by rfl) (by rfl) (by rfl) (by rfl) .nil))
    ⟨fun C => .inr ⟨by rfl, _, by rfl⟩, fun C c h => ?_, by rfl⟩ (fun C t _ => tests_nil) (fun C t ht _ => ?_) ?_))) (.inr ⟨by rfl, _, by rfl⟩) ?_)
  · have h' : some (C + 1) = some c := h
    cases h'
    exact Nat.le_succ _
  · obtain ⟨j, hj, rfl⟩ := hmem t ht
    refine ev_fresh (evF_comp (comp_list (x := "k") (cl := clS [("word", C + 1), ("wanted", L + 7)]) (cloc := [("word", .val (.str (S (letters (A (ltOf ls) j))))), ("wanted", .val (.list Vs))])
      (it_range (n := told.length) (evR_1 (F.range.at (by rfl)) (ev_is (ev_len (F.len.at (by rfl)) (evT_val (ev_name (by rfl))) (lzm hn8)) (by rw [List.length_map]))) (small_up hn1) (rs_up _))
      (scoped_of (by rfl) (by rfl) (by decide +kernel) ⟨⟨by rfl, by rfl⟩, ⟨by rfl, by rfl⟩, trivial⟩ fun _ => .cons (by rfl) (by rfl) (by rfl) (by rfl) (.cons (by rfl) (by rfl) (by rfl) (by rfl) .nil))
      (tgt0 (fun C => by rfl) (fun C => by rfl) (by rfl) (by rfl)) (fun C' t ht => ?_) (fun C' t ht _ => ev_name (by rfl)) (by rw [rangeT_len]; exact hn100)))
    obtain ⟨k, hk, rfl⟩ := rangeT_mem ht
    refine tests_one (evB_is (evB_plain (ev_call (by rfl) F.emAt F.em.fn (evL_cons (ev_item (evT_val (ev_name (by rfl))) (ev_name (by rfl)) (nn _) (hV k hk) hVz) (evL_cons (ev_name (by rfl)) evL_nil)) (calls_em F (d + 2) ls k j (Nat.lt_of_lt_of_le hk hn8) (Nat.lt_of_lt_of_le hj hn8)) (Nat.le_refl _)) (t_bool _)) (match_is _ _ _).symm)
  · have : Ws.length = told.length := by rw [← hWs]; simp
    (first | lia | omega)
  rw [show (Ws.filter fun _ => true).map (markT ls told.length) = ((List.range told.length).map fun j => castL (A (ltOf ls) j)).map intsT by
    rw [List.filter_eq_self.mpr (fun _ _ => rfl), ← hWs, List.map_map, List.map_map, List.map_map]
    exact List.map_congr_left fun j hj => markT_is ls told.length j (List.mem_range.mp hj)]
  refine ex_cons (x_pass (evB_cmp (ev_name (by rfl)) (ev_is (ev_call (hK _ (by decide +kernel)) F.waysAt F.ways.fn (evL_cons (ev_name (by rfl)) evL_nil) (F.ways.calls (d + 1) _ _ rfl fun L q cd => walk_ways F d ls (hls.symm ▸ hn8) (fun s h => by have := small_lead _ (mem_leads (hok s h)); rw [Bool.and_eq_true] at this; exact this.2) L _ q cd) (by (first | lia | omega))) (by rw [ways_is, hls])) (c_neSame _)) ?_)
  have hM : ∀ k : Nat, k < told.length → (((List.range told.length).map fun j => castL (A (ltOf ls) j)).map intsT)[((k : Int)).toNat]? = some (intsT (castL (A (ltOf ls) k))) := fun k hk => by
    rw [List.map_map, List.getElem?_map, show ((k : Int)).toNat = k from rfl, List.getElem?_range hk]; rfl
  have hMz : (((List.range told.length).map fun j => castL (A (ltOf ls) j)).map intsT).length ≤ sizeLine := by first | exact lzm (Nat.le_trans (Nat.le_of_eq List.length_range) hn8) | exact lz (by simp; (first | lia | omega))
  generalize ((List.range told.length).map fun j => castL (A (ltOf ls) j)).map intsT = Ms at hM hMz
  generalize (rowsL ls told).map T.str = Rs
  refine ex_cons (x_for (it_range (n := told.length) (evR_1 (F.range.at (hK _ (by decide +kernel))) (ev_is (ev_len (F.len.at (hK _ (by decide +kernel))) (evT_val (ev_name (by rfl))) (lzm hn8)) (by rw [List.length_map]))) (small_up hn1) (rs_up _)) (hS _ (by decide +kernel))
    (fun i loc => loc = [("script", .val (intsT script)), ("told", .val (intsT told)), ("names", .val (.str (S [112, 113, 114, 115, 116, 117, 118, 119]))), ("fronts", .val (.list [.str (Str.ofString ""), .str (Str.ofString "m."), .str (Str.ofString "a.b.")])), ("tails", .val (.list [.str (Str.ofString ""), .str (Str.ofString ": a.b"), .str (Str.ofString "\n.c: d")])), ("leads", .val (.list (ls.map T.str))), ("rows", .val (.list Rs)), ("words", .val (.list Ws)), ("wanted", .val (.list Vs)), ("marks", .val (.list Ms))]) (by rfl) ?_ ?_)
  · rintro i t loc' ht rfl
    obtain ⟨hi, rfl⟩ := range0_at ht
    refine ex_cons (x_for (it_range (n := i) (evR_1 (F.range.at (hK _ (by decide +kernel))) (ev_name (by rfl))) (small_up (Nat.le_trans (Nat.le_of_lt hi) hn1)) (rs_up _)) (.inr ⟨by rfl, _, by rfl⟩)
      (fun j loc => loc = [("script", .val (intsT script)), ("told", .val (intsT told)), ("names", .val (.str (S [112, 113, 114, 115, 116, 117, 118, 119]))), ("fronts", .val (.list [.str (Str.ofString ""), .str (Str.ofString "m."), .str (Str.ofString "a.b.")])), ("tails", .val (.list [.str (Str.ofString ""), .str (Str.ofString ": a.b"), .str (Str.ofString "\n.c: d")])), ("leads", .val (.list (ls.map T.str))), ("rows", .val (.list Rs)), ("words", .val (.list Ws)), ("wanted", .val (.list Vs)), ("marks", .val (.list Ms)), ("i", .val (.int (i : Nat)))]) (by rfl) ?_ ?_)
    · rintro j t loc' ht rfl
      obtain ⟨hj, rfl⟩ := range0_at ht
      obtain ⟨p, u, v, eI, eJ, hu, hv⟩ := A_fork (lt_trans ls) i j
      have lI := letters_len ls i (Nat.lt_of_lt_of_le hi hn8)
      have lJ := letters_len ls j (Nat.lt_of_lt_of_le (Nat.lt_trans hj hi) hn8)
      have hI8 : ∀ x ∈ A (ltOf ls) i, x < 8 := fun x hx => Nat.lt_of_lt_of_le ((P_desc (lt_trans ls) (i + 1)).2 x (List.mem_reverse.mp hx)) (Nat.lt_of_lt_of_le hi hn8)
      have hJ8 : ∀ x ∈ A (ltOf ls) j, x < 8 := fun x hx => Nat.lt_of_lt_of_le ((P_desc (lt_trans ls) (j + 1)).2 x (List.mem_reverse.mp hx)) (Nat.lt_of_lt_of_le (Nat.lt_trans hj hi) hn8)
      have mI := hM i hi
      have mJ := hM j (Nat.lt_trans hj hi)
      have wI := hW i hi
      have wJ := hW j (Nat.lt_trans hj hi)
      rw [eI] at lI hv mI wI hI8
      rw [eJ] at lJ hu mJ wJ hJ8
      unfold letters at lI lJ
      rw [List.length_map, List.length_append] at lI lJ
      have hpz : ∀ l : List Nat, l.length ≤ 8 → ((castL l).map T.int).length ≤ sizeLine := fun l h => by rw [List.map_map]; exact lzm h
      refine ex_cons (x_assignC (comp_list (x := "k") (cl := clS [("marks", L + 8), ("j", L + 9)]) (cloc := [("marks", .val (.list Ms)), ("j", .val (.int (j : Nat)))])
        (p := fun t => match t with | .int a => (castL (p ++ v)).any (· == a) | _ => false) (f := id) (it_list (ev_item (evT_val (ev_name (by rfl))) (ev_name (by rfl)) (nn _) mI hMz))
        (scoped_of (by rfl) (by rfl) (by decide +kernel) ⟨⟨by rfl, by rfl⟩, ⟨by rfl, by rfl⟩, trivial⟩ fun _ => .cons (by rfl) (by rfl) (by rfl) (by rfl) (.cons (by rfl) (by rfl) (by rfl) (by rfl) .nil))
        (tgt0 (fun C => by rfl) (fun C => by rfl) (by rfl) (by rfl)) (fun C t ht => ?_) (fun C t ht _ => ev_name (by rfl)) (by simp; (first | lia | omega))) (hS _ (by decide +kernel)) ?_)
      · obtain ⟨a, ha, rfl⟩ := List.mem_map.mp ht
        exact tests_one (evB_cmp (ev_name (by rfl)) (ev_item (evT_val (ev_name (by rfl))) (ev_name (by rfl)) (nn _) mJ hMz) (c_in _ _))
      have hshared : ((((castL (p ++ u)).map T.int).filter fun t => match t with | .int a => (castL (p ++ v)).any (· == a) | _ => false).map id).length = p.length := by
        rw [List.map_id, List.filter_map, List.length_map, List.filter_map, List.length_map, List.filter_append, List.length_append]
        have h1 : p.filter (((fun t => match t with | .int a => (castL (p ++ v)).any (· == a) | _ => false) ∘ T.int) ∘ fun i : Nat => (i : Int)) = p := List.filter_eq_self.mpr fun x hx => by
          simp only [Function.comp, List.any_eq_true]
          exact ⟨(x : Int), List.mem_map.mpr ⟨x, List.mem_append_left _ hx, rfl⟩, by simp⟩
        have h2 : u.filter (((fun t => match t with | .int a => (castL (p ++ v)).any (· == a) | _ => false) ∘ T.int) ∘ fun i : Nat => (i : Int)) = [] := List.filter_eq_nil_iff.mpr fun x hx => by
          simp only [Function.comp, List.any_eq_true, not_exists, not_and]
          intro y hy e
          obtain ⟨z, hz, rfl⟩ := List.mem_map.mp hy
          have : z = x := by have := beq_iff_eq.mp e; (first | lia | omega)
          exact hu x hx (this ▸ hz)
        rw [h1, h2]; rfl
      generalize ((((castL (p ++ u)).map T.int).filter fun t => match t with | .int a => (castL (p ++ v)).any (· == a) | _ => false).map id) = Sh at hshared
      have lenM : ∀ {e : Expr} {pos pp : Pos} {loc : Loc} {l : List Nat}, Ev g (d + 3) (envC (fnScope (nth 18)) L f q cd) loc e (intsT (castL l)) → l.length ≤ 8 → (∀ env, starEach [e] env = [(false, eval e env)]) → Ev g (d + 3) (envC (fnScope (nth 18)) L f q cd) loc (.Call (.Name "len" pp) [e] [] pos) (.int l.length) :=
        fun h hl he => ev_is (ev_len (F.len.at (hK _ (by decide +kernel))) (evT_val h) (hpz _ hl) he) (by simp)
      refine ex_cons (x_assign (t := .int (2 * max (letters u).length (letters v).length : Nat)) (ev_is (ev_bin ev_int (ev_bin (ev_max2 (F.max.at (hK _ (by decide +kernel))) (lenM (ev_item (evT_val (ev_name (by rfl))) (ev_name (by rfl)) (nn _) mI hMz) (by rw [List.length_append]; (first | lia | omega)) (fun _ => rfl)) (lenM (ev_item (evT_val (ev_name (by rfl))) (ev_name (by rfl)) (nn _) mJ hMz) (by rw [List.length_append]; (first | lia | omega)) (fun _ => rfl)))
        (ev_is (ev_len (F.len.at (hK _ (by decide +kernel))) (evT_val (ev_name (by rfl))) (lz (by (first | lia | omega)))) (by rw [hshared])) (b_sub _ _)) (b_mul _ _ (by decide))) ?_) (hS _ (by decide +kernel)) ?_)
      · congr 1
        unfold letters
        rw [List.length_append, List.length_append, List.length_map, List.length_map]; (first | lia | omega)
      have hlw : ∀ a b : List Nat, letters (a ++ b) = letters a ++ letters b := fun a b => by unfold letters; simp
      rw [hlw] at wI wJ
      refine ex_cons (x_pass (evB_is (evB_cmp (ev_call (hK _ (by decide +kernel)) F.levAt F.lev.fn (evL_cons (ev_item (evT_val (ev_name (by rfl))) (ev_name (by rfl)) (nn _) wI hWz) (evL_cons (ev_item (evT_val (ev_name (by rfl))) (ev_name (by rfl)) (nn _) wJ hWz) (evL_cons (ev_name (by rfl)) evL_nil)))
        (F.lev.calls (d + 1) _ _ rfl fun L q cd => walk_lev F d (letters p) (letters u) (letters v) (by unfold letters; simp; (first | lia | omega)) (by unfold letters; simp; (first | lia | omega)) (by unfold letters; simp; (first | lia | omega)) (letters_letter u fun x hx => hI8 x (List.mem_append_right _ hx)) (letters_letter v fun x hx => hJ8 x (List.mem_append_right _ hx)) (fun x hx hx' => ?_) L _ q cd) (by (first | lia | omega))) (ev_name (by rfl)) (c_ne _ _)) (by simp)) ?_)
      · obtain ⟨y, hy, rfl⟩ := List.mem_map.mp hx
        exact hu y hy (List.mem_append_right _ ((letters_mem y v).mp hx'))
      exact ex_drop "j" (ex_drop "shared" (ex_drop "due" (ex_nil (by rfl))))
    · rintro loc' rfl
      exact ex_drop "i" (ex_nil (by rfl))
  · rintro loc' rfl
    exact ex_cons (x_ret ev_bool rfl)
end Mine

open PySem PySem.W PySem.Calls PyProof.Rows
set_option linter.unusedVariables false
set_option maxRecDepth 100000
namespace Mine

noncomputable def mgIn (K : Frag) (x : Str) : Option (Option Value) := (K.lookup mainGlobals).bind (lookIn x)
theorem mg_of {K : Frag} {h : Heap} {m : Str → Option Value} (X : K.In h) (N : h.Ns mainGlobals m) {x : Str} {r : Option Value} (e : mgIn K x = some r) : m x = r := by
  unfold mgIn at e
  obtain ⟨o, ho, hl⟩ := Option.bind_eq_some_iff.mp e
  obtain ⟨o', es, ep, h1, h2, h3, h4⟩ := N
  rw [X _ _ ho] at h1
  cases h1
  unfold lookIn at hl
  rw [h2] at hl
  rw [← h4 x]
  unfold nsFind findBy
  have hf : es.find? (fun e => (fun n v => v.isStr n) x e.key) = es.toList.find? (·.key.isStr x) := by
    rw [← Array.find?_toList]
  rw [hf]
  dsimp only at hl
  cases q : es.toList.find? (·.key.isStr x) with
  | some e' => rw [q] at hl; simpa using hl
  | none =>
    rw [q] at hl
    dsimp only at hl
    split at hl
    · cases hl
    · simpa using hl

/-- a def as it lies on the heap -/
noncomputable def FnK (K : Frag) (f : Addr) (st : Stmt) (ps : List String) : Prop := ∃ (oc : Value) (od : Option Addr) (osl : Array (Option Value)) (nm q : Str) (params' : Arguments) (dV kV doc pm : Value) (an : Option Addr) (cd ct : Value),
  K.lookup f = some ⟨oc, od, .func (fnOf nm q params' (fnBody st) (fnScope st) dV kV doc pm an cd ct), osl⟩ ∧ codeIn K cd q = true ∧
  ∀ vs : List Value, vs.length = ps.length → bindArgs (fnOf nm q params' (fnBody st) (fnScope st) dV kV doc pm an cd ct) ⟨vs, []⟩ = pure (binds ps vs)
/-- a def's scope -/
structure ScOk (st : Stmt) (ps : List String) : Prop where
  cell : ∀ x ∈ (fnScope st).names, x.2 ≠ .cell
  loc : ∀ p ∈ ps, (fnScope st).names.lookup (Str.ofString p) = some .local
  nd : ps.Nodup
  co : (fnScope st).isCoroutine = false
  gen : (fnScope st).isGenerator = false
  kind : (fnScope st).kind = .function
theorem defAt_of {g : GC} {st : Stmt} {ps : List String} {f : Addr} (H : FnK g.K f st ps) (S : ScOk st ps) : DefAt g st ps f := by
  obtain ⟨oc, od, osl, nm, q, params', dV, kV, doc, pm, an, cd, ct, ho, hcd, hb⟩ := H
  exact ⟨⟨_, _, g.kin _ _ ho, rfl⟩, fun d ts t hl hex => calls_def ho hcd hb S.cell S.loc S.nd hl S.co S.gen S.kind fun L => hex L q cd⟩
theorem arity1 {F : List Value → Prop} (h : ∀ a, F [a]) (vs : List Value) (e : vs.length = 1) : F vs := by
  obtain ⟨a, rfl⟩ := List.length_eq_one_iff.mp e; exact h a
theorem arity2 {F : List Value → Prop} (h : ∀ a b, F [a, b]) (vs : List Value) (e : vs.length = 2) : F vs := by
  obtain ⟨a, t, rfl⟩ := List.exists_cons_of_length_eq_add_one e; exact arity1 (F := fun l => F (a :: l)) (h a) t (Nat.succ.inj e)
theorem arity3 {F : List Value → Prop} (h : ∀ a b c, F [a, b, c]) (vs : List Value) (e : vs.length = 3) : F vs := by
  obtain ⟨a, t, rfl⟩ := List.exists_cons_of_length_eq_add_one e; exact arity2 (F := fun l => F (a :: l)) (h a) t (Nat.succ.inj e)
theorem sc_em : ScOk (nth 3) ["want", "got"] := ⟨by decide +kernel, by decide +kernel, by decide, by rfl, by rfl, by rfl⟩
theorem sc_strip : ScOk (nth 4) ["msg"] := ⟨by decide +kernel, by decide +kernel, by decide, by rfl, by rfl, by rfl⟩
theorem sc_sub : ScOk (nth 11) ["ch_a", "ch_b"] := ⟨by decide +kernel, by decide +kernel, by decide, by rfl, by rfl, by rfl⟩
theorem sc_lev : ScOk (nth 12) ["a", "b", "max_cost"] := ⟨by decide +kernel, by decide +kernel, by decide, by rfl, by rfl, by rfl⟩
theorem sc_leads : ScOk (nth 14) ["told"] := ⟨by decide +kernel, by decide +kernel, by decide, by rfl, by rfl, by rfl⟩
theorem sc_cols : ScOk (nth 15) ["lead"] := ⟨by decide +kernel, by decide +kernel, by decide, by rfl, by rfl, by rfl⟩
theorem sc_ways : ScOk (nth 16) ["leads"] := ⟨by decide +kernel, by decide +kernel, by decide, by rfl, by rfl, by rfl⟩
theorem sc_words : ScOk (nth 17) ["rows"] := ⟨by decide +kernel, by decide +kernel, by decide, by rfl, by rfl, by rfl⟩
theorem sc_init : ScOk (cth 1) ["self", "ws"] := ⟨by decide +kernel, by decide +kernel, by decide, by rfl, by rfl, by rfl⟩
theorem sc_long : ScOk (cth 2) ["self"] := ⟨by decide +kernel, by decide +kernel, by decide, by rfl, by rfl, by rfl⟩
theorem sc_ind : ScOk (cth 3) ["self", "tabsize"] := ⟨by decide +kernel, by decide +kernel, by decide, by rfl, by rfl, by rfl⟩
theorem sc_less : ScOk (cth 6) ["self", "other"] := ⟨by decide +kernel, by decide +kernel, by decide, by rfl, by rfl, by rfl⟩

/-- what is read off the heap at the call -/
structure KF (K : Frag) (C fEm fStrip fInit fLong fInd fLess fSub fLev fLeads fCols fWays fWords : Addr) : Prop where
  len : mgIn K "len" = some none
  max : mgIn K "max" = some none
  min : mgIn K "min" = some none
  range : mgIn K "range" = some none
  list : mgIn K "list" = some none
  tuple : mgIn K "tuple" = some none
  zip : mgIn K "zip" = some none
  marker : ∃ t, mgIn K "ELLIPSIS_MARKER" = some (some (.str (Str.ofString "...") t))
  move : ∃ t, mgIn K "_MOVE_COST" = some (some (.int 2 t))
  case : ∃ t, mgIn K "_CASE_COST" = some (some (.int 1 t))
  size : ∃ t, mgIn K "_MAX_STRING_SIZE" = some (some (.int 40 t))
  wsAt : mgIn K "Whitespace" = some (some (.ref C))
  emAt : mgIn K "_ellipsis_match" = some (some (.ref fEm))
  stripAt : mgIn K "_strip_exception_details" = some (some (.ref fStrip))
  subAt : mgIn K "_substitution_cost" = some (some (.ref fSub))
  levAt : mgIn K "_levenshtein_distance" = some (some (.ref fLev))
  leadsAt : mgIn K "_law_leads" = some (some (.ref fLeads))
  colsAt : mgIn K "_law_columns" = some (some (.ref fCols))
  waysAt : mgIn K "_law_ways" = some (some (.ref fWays))
  wordsAt : mgIn K "_law_words" = some (some (.ref fWords))
  em : FnK K fEm (nth 3) ["want", "got"]
  strip : FnK K fStrip (nth 4) ["msg"]
  sub : FnK K fSub (nth 11) ["ch_a", "ch_b"]
  lev : FnK K fLev (nth 12) ["a", "b", "max_cost"]
  leads : FnK K fLeads (nth 14) ["told"]
  cols : FnK K fCols (nth 15) ["lead"]
  ways : FnK K fWays (nth 16) ["leads"]
  words : FnK K fWords (nth 17) ["rows"]
  init : FnK K fInit (cth 1) ["self", "ws"]
  long : FnK K fLong (cth 2) ["self"]
  ind : FnK K fInd (cth 3) ["self", "tabsize"]
  less : FnK K fLess (cth 6) ["self", "other"]
  ga : findIn K (.ref C) "__getattribute__" = some (some (.builtin "object.__getattribute__"))
  gattr : findIn K (.ref C) "__getattr__" = some none
  hasDict : (clsIn K C).any (·.hasDict) = true
  aRaw : findIn K (.ref C) "raw" = some none
  aN : findIn K (.ref C) "n" = some none
  aNt : findIn K (.ref C) "nt" = some none
  aNorm : findIn K (.ref C) "norm" = some none
  aSimple : findIn K (.ref C) "is_simple" = some none
  over : plainOver K C = true
  sa : findIn K (.ref C) "__setattr__" = some (some (.builtin "object.__setattr__"))
  keep : keepIn K (.ref C) = true
  reads : readsIn K C (.type "type") = true
  clsS : ∃ tk, findCls K (.ref C) (.type "type") "S" = some (.val (.str (Str.ofString " ") tk))
  clsT : ∃ tk, findCls K (.ref C) (.type "type") "T" = some (.val (.str (Str.ofString "\t") tk))
  makes : makesIn K C = true
  aInit : findIn K (.ref C) "__init__" = some (some (.ref fInit))
  initT : typeIn K (.ref fInit) = some (.type "function")
  aLess : findIn K (.ref C) "less" = some (some (.ref fLess))
  lessT : typeIn K (.ref fLess) = some (.type "function")
  aInd : findIn K (.ref C) "indent_level" = some (some (.ref fInd))
  indT : typeIn K (.ref fInd) = some (.type "function")
  aLong : findIn K (.ref C) "longest_run_of_spaces" = some (some (.ref fLong))
  longT : typeIn K (.ref fLong) = some (.type "function")

section
variable {fEm fStrip fInit fLong fInd fLess fSub fLev fLeads fCols fWays fWords : Addr}
theorem val_len : bootBuiltins "len" = some (.builtin "len") := by rfl
theorem val_max : bootBuiltins "max" = some (.builtin "max") := by rfl
theorem val_min : bootBuiltins "min" = some (.builtin "min") := by rfl
theorem val_range : bootBuiltins "range" = some (.type "range") := by rfl
theorem val_list : bootBuiltins "list" = some (.type "list") := by rfl
theorem val_tuple : bootBuiltins "tuple" = some (.type "tuple") := by rfl
theorem val_zip : bootBuiltins "zip" = some (.type "zip") := by rfl
noncomputable def mkFx (g : GC) (H : KF g.K g.C fEm fStrip fInit fLong fInd fLess fSub fLev fLeads fCols fWays fWords) : Fx g where
  fEm := fEm
  fStrip := fStrip
  fInit := fInit
  fLong := fLong
  fInd := fInd
  fLess := fLess
  fSub := fSub
  fLev := fLev
  fLeads := fLeads
  fCols := fCols
  fWays := fWays
  fWords := fWords
  len := ⟨mg_of g.kin g.top.g H.len, val_len, by decide +kernel, by decide +kernel⟩
  max := ⟨mg_of g.kin g.top.g H.max, val_max, by decide +kernel, by decide +kernel⟩
  min := ⟨mg_of g.kin g.top.g H.min, val_min, by decide +kernel, by decide +kernel⟩
  range := ⟨mg_of g.kin g.top.g H.range, val_range, by decide +kernel, by decide +kernel⟩
  list := ⟨mg_of g.kin g.top.g H.list, val_list, by decide +kernel, by decide +kernel⟩
  tuple := ⟨mg_of g.kin g.top.g H.tuple, val_tuple, by decide +kernel, by decide +kernel⟩
  zip := ⟨mg_of g.kin g.top.g H.zip, val_zip, by decide +kernel, by decide +kernel⟩
  marker := let ⟨_, h⟩ := H.marker; ⟨_, mg_of g.kin g.top.g h, fun _ _ => by simp only [Rep]; exact ⟨_, rfl⟩⟩
  move := let ⟨_, h⟩ := H.move; ⟨_, mg_of g.kin g.top.g h, fun _ _ => by simp only [Rep]; exact ⟨_, rfl⟩⟩
  case := let ⟨_, h⟩ := H.case; ⟨_, mg_of g.kin g.top.g h, fun _ _ => by simp only [Rep]; exact ⟨_, rfl⟩⟩
  size := let ⟨_, h⟩ := H.size; ⟨_, mg_of g.kin g.top.g h, fun _ _ => by simp only [Rep]; exact ⟨_, rfl⟩⟩
  ws := ⟨H.ga, H.gattr, H.hasDict, H.aRaw, H.aN, H.aNt, H.aNorm, H.aSimple⟩
  init := ⟨H.over, H.sa, H.hasDict⟩
  wsAt := mg_of g.kin g.top.g H.wsAt
  em := defAt_of H.em sc_em
  emAt := mg_of g.kin g.top.g H.emAt
  strip := defAt_of H.strip sc_strip
  stripAt := mg_of g.kin g.top.g H.stripAt
  sub := defAt_of H.sub sc_sub
  subAt := mg_of g.kin g.top.g H.subAt
  lev := defAt_of H.lev sc_lev
  levAt := mg_of g.kin g.top.g H.levAt
  leads := defAt_of H.leads sc_leads
  leadsAt := mg_of g.kin g.top.g H.leadsAt
  cols := defAt_of H.cols sc_cols
  colsAt := mg_of g.kin g.top.g H.colsAt
  ways := defAt_of H.ways sc_ways
  waysAt := mg_of g.kin g.top.g H.waysAt
  words := defAt_of H.words sc_words
  wordsAt := mg_of g.kin g.top.g H.wordsAt
theorem mkFz (g : GC) (H : KF g.K g.C fEm fStrip fInit fLong fInd fLess fSub fLev fLeads fCols fWays fWords) : Fz g (mkFx g H) (.type "type") where
  keep := H.keep
  reads := H.reads
  clsS := H.clsS
  clsT := H.clsT
  cls d x at' n nt norm simple hex h1 h2 h3 h4 h5 h6 h7 h8 := by
    obtain ⟨oc, od, osl, nm, q, params', dV, kV, doc, pm, an, cd, ct, ho, hcd, hb⟩ := H.init
    exact calls_cls (t := .none) H.makes H.aInit H.initT ho hcd (fun v u => hb [v, u] rfl) sc_init.cell sc_init.loc sc_init.co sc_init.gen sc_init.kind (fun L a => hex L a q cd) h1 h2 h3 h4 h5 h6 h7 h8
  less := H.aLess
  lessT := H.lessT
  lessD := defAt_of H.less sc_less
  ind := H.aInd
  indT := H.indT
  indD := defAt_of H.ind sc_ind
  long := H.aLong
  longT := H.longT
  longD := defAt_of H.long sc_long
end

theorem rep_ints {P : Params} {C : Addr} {h : Heap} {W : Addr → Prop} : ∀ {is : List Int} {vs : List Value}, WellAll P h vs (ofPys (is.map PyData.int)) → RepL C h W (is.map T.int) vs
  | [], _, x => by cases x; exact .nil
  | i :: is, _, x => by
    cases x with
    | cons a b =>
      have a' : Well P h _ (.int i) := a
      cases a'
      exact .cons (by simp only [Rep]; exact ⟨_, rfl⟩) (rep_ints b)
theorem rep_arg {P : Params} {C : Addr} {h : Heap} {W : Addr → Prop} {a : Addr} {is : List Int} (x : Well P h (.ref a) (ofPy (.list (is.map PyData.int)))) (hw : ¬ W a) : Rep C h W (intsT is) (.ref a) := by
  have x' : Well P h (.ref a) (.list (ofPys (is.map PyData.int))) := x
  cases x' with
  | list h1 h2 =>
    simp only [Rep]
    exact ⟨a, _, 0, rfl, hw, h1, rep_ints h2⟩

/-- law, called -/
theorem law_ends {g : GC} {fEm fStrip fInit fLong fInd fLess fSub fLev fLeads fCols fWays fWords : Addr} (H : KF g.K g.C fEm fStrip fInit fLong fInd fLess fSub fLev fLeads fCols fWays fWords) {P : Params} {s : Shared} (hs : g.h0 = s.heap)
    {fa a : Addr} {o : Obj} {nm q : Str} {params' : Arguments} {dV kV doc pm cd ct : Value} {an : Option Addr} (ho : s.heap.get? fa = some o) (hd : o.data = .func (fnOf nm q params' (fnBody (nth 18)) (fnScope (nth 18)) dV kV doc pm an cd ct)) (hcd : s.heap.CodeRec cd q)
    (hbind : ∀ v : Value, bindArgs (fnOf nm q params' (fnBody (nth 18)) (fnScope (nth 18)) dV kV doc pm an cd ct) ⟨[v], []⟩ = pure [(Str.ofString "script", v)])
    {is : List Int} (hw : Well P s.heap (.ref a) (ofPy (.list (is.map PyData.int)))) (h63 : is.length ≤ 63) : codeAny g.M callerA (.call (.ref fa) ⟨[.ref a], []⟩) (fun r s' => r = .ok (.ret (.bool true)) ∧ Keeps s s') s := by
  obtain ⟨oc, od, data, osl⟩ := o
  dsimp only at hd
  subst hd
  have base : Base g (fun _ => False) s.heap := ⟨fun b o e => ⟨hs ▸ e, id⟩, fun _ _ => id⟩
  have C := calls_law (d := 3) (t₀ := intsT is) (t := .bool true) (g := g) (p := "script") (h₀ := s.heap) (hs ▸ ho) (hs ▸ hcd) hbind (by rfl) (by rfl) (by rfl) (by rfl) fun L => walk_law (mkFx g H) (mkFz g H) 0 is h63 L fa q cd
  refine codeAny_mono (C.run callerA s (fun _ => False) [.ref a] ⟨by rfl, by decide +kernel, by decide +kernel⟩ base (.cons (rep_arg hw id) .nil)) fun r s' ⟨v, e, hv, k⟩ => ?_
  simp only [Rep] at hv
  subst hv
  exact ⟨e, k⟩

theorem law_join {K : Frag} {prog : Program} {w : World} {mg mb : Str → Option Value} {p : Program} {loose : List Str} {mean : ExcName → Option Value} {P : Params} {s : Shared} {C fEm fStrip fInit fLong fInd fLess fSub fLev fLeads fCols fWays fWords : Addr}
    (KX : K.In s.heap) (T : Top p loose mean mg mb s.heap) (H : KF K C fEm fStrip fInit fLong fInd fLess fSub fLev fLeads fCols fWays fWords)
    {fa a : Addr} {o : Obj} {nm q : Str} {params' : Arguments} {dV kV doc pm cd ct : Value} {an : Option Addr} (ho : s.heap.get? fa = some o) (hd : o.data = .func (fnOf nm q params' (fnBody (nth 18)) (fnScope (nth 18)) dV kV doc pm an cd ct)) (hcd : s.heap.CodeRec cd q)
    (hbind : ∀ v : Value, bindArgs (fnOf nm q params' (fnBody (nth 18)) (fnScope (nth 18)) dV kV doc pm an cd ct) ⟨[v], []⟩ = pure [(Str.ofString "script", v)])
    {is : List Int} (hw : Well P s.heap (.ref a) (ofPy (.list (is.map PyData.int)))) (h63 : is.length ≤ 63) : codeAny (model prog w) callerA (.call (.ref fa) ⟨[.ref a], []⟩) (fun r s' => r = .ok (.ret (.bool true)) ∧ Keeps s s') s :=
  law_ends (g := ⟨prog, w, K, mg, mb, p, loose, C, s.heap, KX, topRead_of T⟩) H rfl ho hd hcd hbind hw h63

theorem post_ok (args : List WData) : PySem.Challenge.rw_pg0284_01.row.claim.post args (.bool true) args = true := by
  refine postW_of (X := true) ?_ ?_ rfl
  · first | rfl | decide +kernel | (show WShape.has [] (.bool true) .bool = true; simp [WShape.has])
  · show (WTm.eq .res (.lit (.bool true))).value [] { args := args, res := some (.bool true), after := args } = _
    simp only [WTm.value]
    simp only [PySem.W.same, beq_self_eq_true]
end Mine

open PySem PySem.W PySem.Calls PyProof.Rows
set_option maxRecDepth 100000 in
set_option maxHeartbeats 8000000 in
theorem PySem.Challenge.cw_pg0284_01_holds : PySem.Challenge.rw_pg0284_01.Holds := by
  (w_on; o_law; k_head; (case hw => w_witness2); w_strict (
    k_fill
    intro w s₀ s₁ mg mb G Y fa o pm cd doc dV kV ho hd hcd hD hmg hg args vals as hpre hlay hrd hwl hlo
    have KX := kIn_of Y
    refine Ground.open G ?_
    intro T B D TE TW
    wrow_args hpre hlay hrd hwl hlo
    all_goals (
      refine enter_call ?_
      w_top on
      try refine codeAny_mono ?_ (fun _ _ g => GoodW.toG g)
      rename (Well _ _ _ _) => hW
      rename (¬ _ < _) => h63
      have hdV := Dflts.none hD rfl
      have hkV := Dflts.noKw hD
      subst hdV
      subst hkV
      refine codeAny_mono (Mine.law_join (C := 97) (fEm := 28) (fStrip := 35) (fInit := 52) (fLong := 59) (fInd := 66) (fLess := 87) (fSub := 108) (fLev := 115) (fLeads := 122) (fCols := 129) (fWays := 134) (fWords := 141) KX T (H := ?_) ho hd hcd (fun _ => rfl) hW (by omega)) ?_
      exact ⟨by rfl, by rfl, by rfl, by rfl, by rfl, by rfl, by rfl, ⟨_, by rfl⟩, ⟨_, by rfl⟩, ⟨_, by rfl⟩, ⟨_, by rfl⟩, by rfl, by rfl, by rfl, by rfl, by rfl, by rfl, by rfl, by rfl, by rfl,
        ⟨_, _, _, _, _, _, _, _, _, _, _, _, _, by rfl, by rfl, Mine.arity2 fun _ _ => by rfl⟩,
        ⟨_, _, _, _, _, _, _, _, _, _, _, _, _, by rfl, by rfl, Mine.arity1 fun _ => by rfl⟩,
        ⟨_, _, _, _, _, _, _, _, _, _, _, _, _, by rfl, by rfl, Mine.arity2 fun _ _ => by rfl⟩,
        ⟨_, _, _, _, _, _, _, _, _, _, _, _, _, by rfl, by rfl, Mine.arity3 fun _ _ _ => by rfl⟩,
        ⟨_, _, _, _, _, _, _, _, _, _, _, _, _, by rfl, by rfl, Mine.arity1 fun _ => by rfl⟩,
        ⟨_, _, _, _, _, _, _, _, _, _, _, _, _, by rfl, by rfl, Mine.arity1 fun _ => by rfl⟩,
        ⟨_, _, _, _, _, _, _, _, _, _, _, _, _, by rfl, by rfl, Mine.arity1 fun _ => by rfl⟩,
        ⟨_, _, _, _, _, _, _, _, _, _, _, _, _, by rfl, by rfl, Mine.arity1 fun _ => by rfl⟩,
        ⟨_, _, _, _, _, _, _, _, _, _, _, _, _, by rfl, by rfl, Mine.arity2 fun _ _ => by rfl⟩,
        ⟨_, _, _, _, _, _, _, _, _, _, _, _, _, by rfl, by rfl, Mine.arity1 fun _ => by rfl⟩,
        ⟨_, _, _, _, _, _, _, _, _, _, _, _, _, by rfl, by rfl, Mine.arity2 fun _ _ => by rfl⟩,
        ⟨_, _, _, _, _, _, _, _, _, _, _, _, _, by rfl, by rfl, Mine.arity2 fun _ _ => by rfl⟩,
        by rfl, by rfl, by rfl, by rfl, by rfl, by rfl, by rfl, by rfl, by rfl, by rfl, by rfl, by rfl, ⟨_, by rfl⟩, ⟨_, by rfl⟩, by rfl, by rfl, by rfl, by rfl, by rfl, by rfl, by rfl, by rfl, by rfl⟩
      rintro r s' ⟨rfl, h', tk, rfl, hk⟩
      exact ⟨.inl ⟨_, .bool true, [], rfl, fun _ => by rfl, .bool _, Mine.post_ok _, fun _ => ⟨List.nodup_nil, fun _ h => nomatch h⟩⟩, hk, rfl, hg⟩)))
