import PyProof.Rows.All
import Wide.All
import OpenK.AllK
import Wide.FinOn
import PySem.Challenge.RW_rw0100_01
set_option Elab.async false
set_option linter.all false

section
open PySem PySem.W PyProof.Rows PySem.Calls
set_option Elab.async false
set_option linter.unusedVariables false
set_option maxRecDepth 100000
namespace Mine

/-- a value as pure data -/
inductive PV where
  | none | bool (b : Bool) | int (i : Int) | str (s : Str)
  | list (xs : List PV) | tuple (xs : List PV)
  | inst (C : Addr) (ks : List Str) (fs : List PV)
  | raw (v : Value)
  | rng (a b : Int)

abbrev LObj (vs : List Value) (n : Nat) : Obj := { cls := .type "list", data := .seq vs.toArray n }
abbrev TObj (vs : List Value) (n : Nat) : Obj := { cls := .type "tuple", data := .seq vs.toArray n }

mutual
def Rep (h : Heap) (P : Addr → Prop) : PV → Value → Prop
  | .none, v => v = .none
  | .bool b, v => v = .bool b
  | .int i, v => ∃ t, v = .int i t
  | .str s, v => ∃ t, v = .str s t
  | .list xs, v => ∃ a vs n, v = .ref a ∧ ¬ P a ∧ h.get? a = some (LObj vs n) ∧ RepL h P xs vs
  | .tuple xs, v => ∃ a vs n, v = .ref a ∧ ¬ P a ∧ h.get? a = some (TObj vs n) ∧ RepL h P xs vs
  | .inst C ks fs, v => ∃ a d es n, v = .ref a ∧ ¬ P a ∧ ¬ P d ∧ h.get? a = some (instObj C d) ∧ h.get? d = some (dictOf es n) ∧
      es.map (fun e => e.key.isStr) = ks.map (fun k x => k == x) ∧ RepL h P fs (es.map (·.val))
  | .raw u, v => v = u
  | .rng a b, v => ∃ r t u w, v = .ref r ∧ ¬ P r ∧ IsRange h r a b 1 t u w
def RepL (h : Heap) (P : Addr → Prop) : List PV → List Value → Prop
  | [], vs => vs = []
  | p :: ps, vs => ∃ v r, vs = v :: r ∧ Rep h P p v ∧ RepL h P ps r
end

def Tr (P : Addr → Prop) (h : Heap) (P' : Addr → Prop) (h' : Heap) : Prop := ∀ a o, ¬ P a → h.get? a = some o → ¬ P' a ∧ h'.get? a = some o

theorem Tr.refl {P h} : Tr P h P h := fun _ _ a b => ⟨a, b⟩
theorem Tr.trans {P h P' h' P'' h''} (x : Tr P h P' h') (y : Tr P' h' P'' h'') : Tr P h P'' h'' := fun a o hn e => let ⟨u, v⟩ := x a o hn e; y a o u v

mutual
theorem Rep.tr {P h P' h'} (t : Tr P h P' h') : ∀ (p : PV) (v : Value), Rep h P p v → Rep h' P' p v
  | .none, _, x => x
  | .bool _, _, x => x
  | .int _, _, x => x
  | .str _, _, x => x
  | .raw _, _, x => x
  | .rng a b, v, x => by
    unfold Rep at x ⊢
    obtain ⟨r, t1, u, w, e, hp, hg⟩ := x
    obtain ⟨h1, h2⟩ := t _ _ hp hg
    exact ⟨r, t1, u, w, e, h1, h2⟩
  | .list xs, v, x => by
    unfold Rep at x ⊢
    obtain ⟨a, vs, n, e, hp, hl, r⟩ := x
    obtain ⟨u, w⟩ := t _ _ hp hl
    exact ⟨a, vs, n, e, u, w, RepL.tr t xs vs r⟩
  | .tuple xs, v, x => by
    unfold Rep at x ⊢
    obtain ⟨a, vs, n, e, hp, hl, r⟩ := x
    obtain ⟨u, w⟩ := t _ _ hp hl
    exact ⟨a, vs, n, e, u, w, RepL.tr t xs vs r⟩
  | .inst C ks fs, v, x => by
    unfold Rep at x ⊢
    obtain ⟨a, d, es, n, e, hp, hd, g1, g2, hk, r⟩ := x
    obtain ⟨u1, w1⟩ := t _ _ hp g1
    obtain ⟨u2, w2⟩ := t _ _ hd g2
    exact ⟨a, d, es, n, e, u1, u2, w1, w2, hk, RepL.tr t fs _ r⟩
theorem RepL.tr {P h P' h'} (t : Tr P h P' h') : ∀ (ps : List PV) (vs : List Value), RepL h P ps vs → RepL h' P' ps vs
  | [], _, x => x
  | p :: ps, vs, x => by
    unfold RepL at x ⊢
    obtain ⟨v, r, e, h1, h2⟩ := x
    exact ⟨v, r, e, Rep.tr t p v h1, RepL.tr t ps r h2⟩
end

theorem RepL.length {h P} : ∀ {ps : List PV} {vs : List Value}, RepL h P ps vs → vs.length = ps.length
  | [], _, x => by unfold RepL at x; subst x; rfl
  | _ :: ps, _, x => by
    unfold RepL at x
    obtain ⟨v, r, rfl, _, h2⟩ := x
    simp [RepL.length h2]

theorem RepL.get {h P} : ∀ {ps : List PV} {vs : List Value} {i : Nat} {p : PV}, RepL h P ps vs → ps[i]? = some p → ∃ v, vs[i]? = some v ∧ Rep h P p v
  | [], _, _, _, _, e => by simp at e
  | q :: ps, _, i, p, x, e => by
    unfold RepL at x
    obtain ⟨v, r, rfl, h1, h2⟩ := x
    cases i with
    | zero => simp at e; subst e; exact ⟨v, rfl, h1⟩
    | succ i => simp at e; obtain ⟨v', a, b⟩ := RepL.get h2 e; exact ⟨v', by simpa using a, b⟩

theorem RepL.append {h P} : ∀ {ps qs : List PV} {vs ws : List Value}, RepL h P ps vs → RepL h P qs ws → RepL h P (ps ++ qs) (vs ++ ws)
  | [], qs, _, ws, x, y => by unfold RepL at x; subst x; exact y
  | p :: ps, qs, _, ws, x, y => by
    unfold RepL at x
    obtain ⟨v, r, rfl, h1, h2⟩ := x
    show RepL h P (p :: (ps ++ qs)) (v :: (r ++ ws))
    unfold RepL
    exact ⟨v, _, rfl, h1, h2.append y⟩

theorem RepL.nil {h P} : RepL h P [] [] := by unfold RepL; rfl
theorem RepL.cons {h P p v ps vs} (x : Rep h P p v) (y : RepL h P ps vs) : RepL h P (p :: ps) (v :: vs) := by unfold RepL; exact ⟨v, vs, rfl, x, y⟩
theorem RepL.one {h P p v} (x : Rep h P p v) : RepL h P [p] [v] := .cons x .nil
theorem RepL.inv {h P p ps vs} (x : RepL h P (p :: ps) vs) : ∃ v r, vs = v :: r ∧ Rep h P p v ∧ RepL h P ps r := by unfold RepL at x; exact x
theorem RepL.inv0 {h P vs} (x : RepL h P [] vs) : vs = [] := by unfold RepL at x; exact x

theorem RepL.take {h P} (n : Nat) : ∀ {ps : List PV} {vs : List Value}, RepL h P ps vs → ∀ n, RepL h P (ps.take n) (vs.take n)
  | [], _, x, n => by rw [x.inv0]; simpa using RepL.nil
  | p :: ps, _, x, n => by
    obtain ⟨v, r, rfl, h1, h2⟩ := x.inv
    cases n with
    | zero => simpa using RepL.nil
    | succ n => simpa using RepL.cons h1 (RepL.take n h2 n)
theorem RepL.drop {h P} : ∀ {ps : List PV} {vs : List Value}, RepL h P ps vs → ∀ n, RepL h P (ps.drop n) (vs.drop n)
  | [], _, x, n => by rw [x.inv0]; simpa using RepL.nil
  | p :: ps, _, x, n => by
    obtain ⟨v, r, rfl, h1, h2⟩ := x.inv
    cases n with
    | zero => exact .cons h1 h2
    | succ n => simpa using RepL.drop h2 n

/-- the program and its world -/
abbrev prg : Program := PySem.Challenge.rw_rw0100_01.row.prog
end Mine
end

section
open PySem PySem.W PyProof.Rows PySem.Calls
set_option Elab.async false
set_option linter.unusedVariables false
set_option maxRecDepth 100000
namespace Mine

/-- all variable names of the text, numbered -/
def allNames : List Str := List.map Str.ofString ["?", "data", "self", "ws", "S", "T", "count", "b", "n", "nt", "ch", "trailing", "tabsize", "il", "i", "other", "ts", "x", "text", "ends", "pile", "opened", "marks", "sign", "symbol", "end", "block", "rows", "row", "k", "unit", "script", "depths", "heads", "total", "own", "number", "deep", "leads", "twice", "pairs", "j", "second", "dots", "below", "turn", "level", "lead", "order", "due", "m", "found", "ahead", "bounces", "at", "blanks", "tabs", "len", "range", "zip", "tuple", "max", "Whitespace", "quotedata", "CRLF", "_twin_re_1", "_twin_re_2", "EXACT_TOKEN_TYPES", "ENDMARKER", "ISEOF", "_law_rows", "_law_lead", "_law_page"]

inductive Slot where
  | val (p : PV)
  | own (ps : List PV)
  | obj (b C : Addr) (ks : List Str) (fs : List PV)
def Slot.mut : Slot → Bool
  | .val _ => false
  | _ => true
abbrev PEnv := List (Nat × Slot)
def PEnv.set : PEnv → Nat → Slot → PEnv
  | [], i, s => [(i, s)]
  | (j, t) :: r, i, s => if j == i then (j, s) :: r else (j, t) :: PEnv.set r i s
theorem PEnv.lookup_set (e : PEnv) (i : Nat) (s : Slot) (j : Nat) : (PEnv.set e i s).lookup j = if j = i then some s else e.lookup j := by
  induction e with
  | nil =>
    simp only [PEnv.set, List.lookup]
    by_cases h : j = i
    · subst h; simp
    · have : (j == i) = false := by simpa using h
      simp [this, h]
  | cons a r ih =>
    obtain ⟨k, t⟩ := a
    simp only [PEnv.set]
    by_cases hk : k = i
    · subst hk
      simp only [beq_self_eq_true, if_true, List.lookup]
      by_cases h : j = k
      · subst h; simp
      · have : (j == k) = false := by simpa using h
        simp [this, h]
    · have hk' : (k == i) = false := by simpa using hk
      simp only [hk', Bool.false_eq_true, if_false, List.lookup]
      by_cases h : j = k
      · subst h; simp [hk]
      · have : (j == k) = false := by simpa using h
        simp only [this]; exact ih
theorem PEnv.mem_set {e : PEnv} {i : Nat} {s : Slot} : ∀ {x : Nat × Slot}, x ∈ PEnv.set e i s → x ∈ e ∨ x = (i, s) := by
  induction e with
  | nil => intro x hx; simp [PEnv.set] at hx; exact .inr hx
  | cons a r ih =>
    intro x hx
    obtain ⟨k, t⟩ := a
    simp only [PEnv.set] at hx
    split at hx
    · rename_i hk
      rcases List.mem_cons.mp hx with h | h
      · right; rw [h]; simp at hk; rw [hk]
      · exact .inl (List.mem_cons_of_mem _ h)
    · rcases List.mem_cons.mp hx with h | h
      · exact .inl (h ▸ List.mem_cons_self)
      · exact (ih h).imp (List.mem_cons_of_mem _) id


structure Room (n : Nat) (A : Around) : Prop where
  depth : A.depth + n ≤ 900
  units : A.units + 10 * n ≤ 9000
  handled : A.handled = none
theorem Room.le {n m A} (r : Room n A) (h : m ≤ n) : Room m A := ⟨Nat.le_trans (Nat.add_le_add_left h _) r.depth, Nat.le_trans (by have := h; omega) r.units, r.handled⟩

/-- what stands all the while: the top's written part and the names -/
structure Stat (K : Frag) (h : Heap) : Prop where
  K : K.In h
  top : ∃ p loose mg mb, TopRead p loose mg mb h
theorem Stat.keeps {K h h'} (x : Stat K h) (k : ∀ b o, h.get? b = some o → h'.get? b = some o) : Stat K h' :=
  ⟨x.K.keeps k, let ⟨p, l, mg, mb, T⟩ := x.top; ⟨p, l, mg, mb, T.keeps k⟩⟩

structure Fx (tab : List (Nat × NameKind)) where
  w : World
  n : Nat
  K : Frag
  A : Around
  env : Env
  s₀ : Shared
  bm : Addr → Prop
  oc : List Addr
  its : List (Addr × Obj)

section
variable {tab : List (Nat × NameKind)}
abbrev Fx.L (X : Fx tab) : Addr := X.env.locals
def Fx.varOf (X : Fx tab) (h : Heap) (x : Str) (v : Value) : Prop := match X.env.kindOf x with
  | some .local => ∃ m, h.Ns X.L m ∧ m x = some v
  | some .cell | some .free => ∃ c, X.env.cells.lookup x = some c ∧ h.IsCell c (some v)
  | _ => False

def Fx.KindIs (X : Fx tab) (k : NameKind) (x : Str) : Prop := match k with
  | .cell => X.env.kindOf x = some .cell ∧ ∃ c, X.env.cells.lookup x = some c ∧ c ∈ X.oc
  | .free => (X.env.kindOf x = some .free ∨ X.env.kindOf x = some .cell) ∧ ∃ c, X.env.cells.lookup x = some c
  | k => X.env.kindOf x = some k

structure Fx.Ok (X : Fx tab) : Prop where
  room : Room X.n X.A
  fn : X.env.scope.kind = .function
  glob : X.env.globals = mainGlobals
  blt : X.env.builtins = builtinsNs
  stat : Stat X.K X.s₀.heap
  noq : X.env.kindOf (Str.ofString "?") = none
  kind : ∀ i k, tab.lookup i = some k → ∃ x, allNames[i]? = some x ∧ X.KindIs k x
  cell : ∀ x c, X.env.cells.lookup x = some c → c ∈ X.oc ∨ ∃ o, X.s₀.heap.get? c = some o
  inj : ∀ x y c, c ∈ X.oc → X.env.cells.lookup x = some c → X.env.cells.lookup y = some c → x = y
  loL : X.s₀.heap.objs.size ≤ X.L
  loc : ∀ c ∈ X.oc, X.s₀.heap.get? c = none
  loi : ∀ p ∈ X.its, X.s₀.heap.get? p.1 = none
  Lc : X.L ∉ X.oc
  Li : ∀ p ∈ X.its, p.1 ≠ X.L
  ci : ∀ p ∈ X.its, p.1 ∉ X.oc
  bm : ∀ a, X.bm a → ∃ o, X.s₀.heap.get? a = some o

def isMut (e : PEnv) (i : Nat) : Prop := ∃ sl, e.lookup i = some sl ∧ sl.mut = true

def Mut (X : Fx tab) (e : PEnv) (ρ : Nat → Addr) (a : Addr) : Prop :=
  X.bm a ∨ a = X.L ∨ a ∈ X.oc ∨ (∃ p ∈ X.its, p.1 = a) ∨ ∃ i, isMut e i ∧ a = ρ i

def SlotOk (X : Fx tab) (h : Heap) (P : Addr → Prop) (a : Addr) (x : Str) : Slot → Prop
  | .val p => ∃ v, X.varOf h x v ∧ Rep h P p v
  | .own ps => (x ≠ Str.ofString "?" → X.varOf h x (.ref a)) ∧ ∃ vs n, h.get? a = some (LObj vs n) ∧ RepL h P ps vs
  | .obj b C ks fs => ∃ es n, X.varOf h x (.ref b) ∧ ¬ P b ∧ h.get? b = some (instObj C a) ∧ h.get? a = some (dictOf es n) ∧
      es.map (fun e => e.key.isStr) = ks.map (fun k x => k == x) ∧ RepL h P fs (es.map (·.val))

structure Rel (X : Fx tab) (e : PEnv) (ρ : Nat → Addr) (s : Shared) : Prop where
  same : ∃ h tk, s = { X.s₀ with heap := h, toks := tk }
  tok : 0 < s.toks
  keep : ∀ b o, X.s₀.heap.get? b = some o → s.heap.get? b = some o
  ns : ∃ m, s.heap.Ns X.L m
  cells : ∀ c ∈ X.oc, ∃ v, s.heap.IsCell c v
  its : ∀ p ∈ X.its, s.heap.get? p.1 = some p.2
  lo : ∀ i, isMut e i → X.s₀.heap.get? (ρ i) = none
  apL : ∀ i, isMut e i → ρ i ≠ X.L
  apc : ∀ i, isMut e i → ρ i ∉ X.oc
  api : ∀ i, isMut e i → ∀ p ∈ X.its, p.1 ≠ ρ i
  apo : ∀ i j, isMut e i → isMut e j → ρ i = ρ j → i = j
  names : ∀ i sl, e.lookup i = some sl → ∃ x, allNames[i]? = some x ∧ SlotOk X s.heap (Mut X e ρ) (ρ i) x sl

/-- an extension that leaves all but the frame's dict as it is -/
def KeepsL (X : Fx tab) (s s' : Shared) : Prop := ∃ h' tk, s' = { s with heap := h', toks := tk } ∧ (0 < s.toks → 0 < tk) ∧ (∀ m, s.heap.Ns X.L m → h'.Ns X.L m) ∧ ∀ b o, b ≠ X.L → s.heap.get? b = some o → h'.get? b = some o

theorem lookup_isCell_ne {h : Heap} {c L : Addr} {v : Option Value} {m} (x : h.IsCell c v) (y : h.Ns L m) : c ≠ L := fun e => by
  obtain ⟨o, ho, hd⟩ := x
  obtain ⟨o', es, ep, ho', hd', _⟩ := y
  rw [e, ho'] at ho; cases ho
  rw [hd] at hd'; cases hd'

theorem varOf_keepsL {X : Fx tab} {s s' : Shared} (k : KeepsL X s s') (hn : ∃ m, s.heap.Ns X.L m) {x v} (h : X.varOf s.heap x v) : X.varOf s'.heap x v := by
  obtain ⟨h', tk, rfl, kt, kn, kk⟩ := k
  obtain ⟨m0, hm0⟩ := hn
  unfold Fx.varOf at h ⊢
  split at h
  · obtain ⟨m, a, b⟩ := h; exact ⟨m, kn m a, b⟩
  · obtain ⟨c, a, b⟩ := h
    exact ⟨c, a, let ⟨o, ho, hd⟩ := b; ⟨o, kk _ _ (lookup_isCell_ne b hm0) ho, hd⟩⟩
  · obtain ⟨c, a, b⟩ := h
    exact ⟨c, a, let ⟨o, ho, hd⟩ := b; ⟨o, kk _ _ (lookup_isCell_ne b hm0) ho, hd⟩⟩
  · exact h.elim

theorem Rel.mutEx {X : Fx tab} {e ρ s} (ok : X.Ok) (r : Rel X e ρ s) : ∀ a, Mut X e ρ a → ∃ o, s.heap.get? a = some o := by
  rintro a (h | h | h | ⟨p, hp, rfl⟩ | ⟨i, hi, rfl⟩)
  · obtain ⟨o, ho⟩ := ok.bm a h; exact ⟨o, r.keep a o ho⟩
  · subst h; obtain ⟨m, o, _, _, ho, _⟩ := r.ns; exact ⟨o, ho⟩
  · obtain ⟨v, o, ho, _⟩ := r.cells a h; exact ⟨o, ho⟩
  · exact ⟨_, r.its p hp⟩
  · obtain ⟨sl, hl, hm⟩ := hi
    obtain ⟨x, _, hs⟩ := r.names i sl hl
    cases sl with
    | val p => cases hm
    | own ps => obtain ⟨_, vs, n, hg, _⟩ := hs; exact ⟨_, hg⟩
    | obj b C ks fs => obtain ⟨es, n, _, _, _, hg, _⟩ := hs; exact ⟨_, hg⟩

theorem SlotOk.tr {X : Fx tab} {s s' : Shared} {P P' a x sl} (hv : ∀ v, X.varOf s.heap x v → X.varOf s'.heap x v) (t : Tr P s.heap P' s'.heap)
    (ha : ∀ o, s.heap.get? a = some o → sl.mut = true → s'.heap.get? a = some o) (h : SlotOk X s.heap P a x sl) : SlotOk X s'.heap P' a x sl := by
  cases sl with
  | val p => obtain ⟨v, h1, h2⟩ := h; exact ⟨v, hv _ h1, Rep.tr t _ _ h2⟩
  | own ps => obtain ⟨h1, vs, n, h2, h3⟩ := h; exact ⟨fun q => hv _ (h1 q), vs, n, ha _ h2 rfl, RepL.tr t _ _ h3⟩
  | obj b C ks fs =>
    obtain ⟨es, n, h1, h2, h3, h4, h5, h6⟩ := h
    obtain ⟨u, w⟩ := t _ _ h2 h3
    exact ⟨es, n, hv _ h1, u, w, ha _ h4 rfl, h5, RepL.tr t _ _ h6⟩

/-- T1: an extension keeps the relation -/
theorem Rel.keepsL {X : Fx tab} {e ρ s s'} (ok : X.Ok) (r : Rel X e ρ s) (k : KeepsL X s s') : Rel X e ρ s' ∧ Tr (Mut X e ρ) s.heap (Mut X e ρ) s'.heap := by
  have t : Tr (Mut X e ρ) s.heap (Mut X e ρ) s'.heap := fun a o hn ha => ⟨hn, by
    obtain ⟨h', tk, rfl, _, _, kk⟩ := k
    exact kk a o (fun q => hn (.inr (.inl q))) ha⟩
  have hv : ∀ x v, X.varOf s.heap x v → X.varOf s'.heap x v := fun x v => varOf_keepsL k r.ns
  refine ⟨?_, t⟩
  obtain ⟨h', tk, rfl, kt, kn, kk⟩ := k
  have hL : ∀ b o, X.s₀.heap.get? b = some o → b ≠ X.L := fun b o q z => by
    have := Heap.lt_size q; rw [z] at this; exact Nat.lt_irrefl _ (Nat.lt_of_lt_of_le this ok.loL)
  obtain ⟨m, hm⟩ := r.ns
  refine ⟨?_, kt r.tok, fun b o q => kk b o (hL b o q) (r.keep b o q), ⟨m, kn m hm⟩, fun c hc => ?_, fun p hp => kk _ _ (ok.Li p hp) (r.its p hp), r.lo, r.apL, r.apc, r.api, r.apo, fun i sl hl => ?_⟩
  · obtain ⟨h₁, tk₁, rfl⟩ := r.same; exact ⟨h', tk, rfl⟩
  · obtain ⟨v, hv⟩ := r.cells c hc
    exact ⟨v, let ⟨o, ho, hd⟩ := hv; ⟨o, kk _ _ (fun q => ok.Lc (q ▸ hc)) ho, hd⟩⟩
  · obtain ⟨x, hx, h⟩ := r.names i sl hl
    exact ⟨x, hx, SlotOk.tr (hv x) t (fun o ho hm' => kk _ _ (r.apL i ⟨sl, hl, hm'⟩) ho) h⟩

theorem tokd {M : Model} {A : Around} {s : Shared} {α : Type} {t : Sem α} {Q : α → Shared → Prop} (h : wpAny M A t (fun v s' => (0 < s.toks → 0 < s'.toks) → Q v s') (fun _ _ => False) s) : wpAny M A t Q (fun _ _ => False) s :=
  wpAny_mono (wpAny_toks h) (fun _ _ ⟨a, b⟩ => b fun c => Nat.lt_of_lt_of_le c a) fun _ _ ⟨_, b⟩ => b
end
end Mine
end

section
open PySem PySem.W PyProof.Rows PySem.Calls
set_option Elab.async false
set_option linter.unusedVariables false
set_option maxRecDepth 100000
namespace Mine

theorem names_nodup : allNames.Nodup := by decide +kernel
theorem name_inj {i j : Nat} {x : Str} (h : allNames[i]? = some x) (g : allNames[j]? = some x) : i = j := by
  have hi : i < allNames.length := by
    rcases Nat.lt_or_ge i allNames.length with q | q
    · exact q
    · rw [List.getElem?_eq_none q] at h; cases h
  exact (List.getElem?_inj hi names_nodup).mp (h.trans g.symm)

theorem ns_unique {h : Heap} {a : Addr} {m m' : Str → Option Value} (x : h.Ns a m) (y : h.Ns a m') : m = m' := by
  obtain ⟨o, es, ep, h1, h2, _, h3⟩ := x
  obtain ⟨o', es', ep', g1, g2, _, g3⟩ := y
  rw [h1] at g1; cases g1
  rw [h2] at g2; cases g2
  funext n; rw [← h3, ← g3]

section
variable {tab : List (Nat × NameKind)}

structure Stored (X : Fx tab) (x : Str) (v : Value) (s s' : Shared) : Prop where
  same : ∃ h' tk, s' = { s with heap := h', toks := tk } ∧ (0 < s.toks → 0 < tk)
  at_ : ∃ c, (c = X.L ∨ c ∈ X.oc) ∧ Heap.SameBut c s.heap s'.heap
  ns : ∃ m, s'.heap.Ns X.L m
  cells : ∀ c ∈ X.oc, ∃ v, s'.heap.IsCell c v
  this : X.varOf s'.heap x v
  other : ∀ y, y ≠ x → ∀ u, X.varOf s.heap y u → X.varOf s'.heap y u

theorem storeName_ok {X : Fx tab} {e ρ s} (ok : X.Ok) (r : Rel X e ρ s) {i : Nat} {x : Str} {k : NameKind} (hi : tab.lookup i = some k) (hx : allNames[i]? = some x) (hk : k = .local ∨ k = .cell) {v : Value}
    {Q : Unit → Shared → Prop} (h : ∀ s', Stored X x v s s' → Q () s') : wpAny (model prg X.w) X.A (storeName X.env x v) Q (fun _ _ => False) s := by
  obtain ⟨x', hx', hkx⟩ := ok.kind i k hi
  rw [hx] at hx'; cases hx'
  obtain ⟨m, hm⟩ := r.ns
  rcases hk with rfl | rfl
  · have hkx : X.env.kindOf x = some .local := hkx
    refine wpAny_storeName_local hkx hm (fun h' hn hs => h _ ⟨⟨h', _, rfl, fun h => by omega⟩, ⟨X.L, .inl rfl, hs⟩, ⟨_, hn⟩, fun c hc => ?_, ?_, fun y hy u hu => ?_⟩) (by rw [ok.fn]; rfl)
    · obtain ⟨v', hv'⟩ := r.cells c hc
      exact ⟨v', hv'.sameBut hs (fun q => ok.Lc ((show c = X.L from q) ▸ hc))⟩
    · unfold Fx.varOf; rw [hkx]; exact ⟨_, hn, by simp⟩
    · unfold Fx.varOf at hu ⊢
      split at hu
      · obtain ⟨m', a, b⟩ := hu
        rw [ns_unique a hm] at b
        exact ⟨_, hn, by simp [hy, b]⟩
      · obtain ⟨c, a, b⟩ := hu; exact ⟨c, a, b.sameBut hs (lookup_isCell_ne b hm)⟩
      · obtain ⟨c, a, b⟩ := hu; exact ⟨c, a, b.sameBut hs (lookup_isCell_ne b hm)⟩
      · exact hu
  · obtain ⟨hkx, c, hc, hco⟩ := hkx
    obtain ⟨v₀, hv₀⟩ := r.cells c hco
    have hcL : X.L ≠ c := fun q => ok.Lc (q ▸ hco)
    refine wpAny_storeName_cell ok.fn hkx hc hv₀ (fun h' hv hs => h _ ⟨⟨h', _, rfl, fun h => by omega⟩, ⟨c, .inr hco, hs⟩, ⟨m, hm.sameBut hs hcL⟩, fun d hd => ?_, ?_, fun y hy u hu => ?_⟩)
    · by_cases q : d = c
      · subst q; exact ⟨_, hv⟩
      · obtain ⟨v', hv'⟩ := r.cells d hd; exact ⟨v', hv'.sameBut hs q⟩
    · unfold Fx.varOf; rw [hkx]; exact ⟨c, hc, hv⟩
    · have ne : ∀ d, X.env.cells.lookup y = some d → d ≠ c := fun d hd q => hy (ok.inj x y c hco hc (q ▸ hd)).symm
      unfold Fx.varOf at hu ⊢
      split at hu
      · obtain ⟨m', a, b⟩ := hu
        exact ⟨m', a.sameBut hs hcL, b⟩
      · obtain ⟨d, a, b⟩ := hu; exact ⟨d, a, b.sameBut hs (ne d a)⟩
      · obtain ⟨d, a, b⟩ := hu; exact ⟨d, a, b.sameBut hs (ne d a)⟩
      · exact hu

theorem isMut_set {e : PEnv} {i : Nat} {sl : Slot} {j : Nat} (h : isMut (e.set i sl) j) : (j = i ∧ sl.mut = true) ∨ (j ≠ i ∧ isMut e j) := by
  obtain ⟨t, ht, hm⟩ := h
  rw [PEnv.lookup_set] at ht
  by_cases q : j = i
  · rw [if_pos q] at ht; cases ht; exact .inl ⟨q, hm⟩
  · rw [if_neg q] at ht; exact .inr ⟨q, t, ht, hm⟩

/-- the common part of a store: what is not stored into stays -/
theorem Stored.get {X : Fx tab} {x v s s'} (st : Stored X x v s s') {a o} (hL : a ≠ X.L) (hc : a ∉ X.oc) (h : s.heap.get? a = some o) : s'.heap.get? a = some o := by
  obtain ⟨c, hc', hs⟩ := st.at_
  refine (hs.2 a fun q => ?_).trans h
  rcases hc' with z | z
  · exact hL (q.trans z)
  · exact hc (q ▸ z)
theorem Stored.size {X : Fx tab} {x v s s'} (st : Stored X x v s s') : s'.heap.objs.size = s.heap.objs.size := let ⟨_, _, hs⟩ := st.at_; hs.1

/-- T2, T3: a value stored in a name -/
theorem Rel.store {X : Fx tab} {e ρ s s' x v} (ok : X.Ok) (r : Rel X e ρ s) {i : Nat} (hx : allNames[i]? = some x) (st : Stored X x v s s') {p : PV} (hp : Rep s.heap (Mut X e ρ) p v) :
    Rel X (e.set i (.val p)) ρ s' ∧ Tr (Mut X e ρ) s.heap (Mut X (e.set i (.val p)) ρ) s'.heap := by
  have mm : ∀ j, isMut (e.set i (.val p)) j → j ≠ i ∧ isMut e j := fun j h => by
    rcases isMut_set h with ⟨_, h⟩ | h
    · cases h
    · exact h
  have sub : ∀ a, Mut X (e.set i (.val p)) ρ a → Mut X e ρ a := by
    rintro a (h | h | h | h | ⟨j, hj, rfl⟩)
    · exact .inl h
    · exact .inr (.inl h)
    · exact .inr (.inr (.inl h))
    · exact .inr (.inr (.inr (.inl h)))
    · exact .inr (.inr (.inr (.inr ⟨j, (mm j hj).2, rfl⟩)))
  have t : Tr (Mut X e ρ) s.heap (Mut X (e.set i (.val p)) ρ) s'.heap := fun a o hn ha =>
    ⟨fun q => hn (sub a q), st.get (fun q => hn (.inr (.inl q))) (fun q => hn (.inr (.inr (.inl q)))) ha⟩
  refine ⟨⟨?_, by obtain ⟨h₂, tk₂, rfl, ht⟩ := st.same; exact ht r.tok, fun b o q => ?_, st.ns, st.cells, fun p' hp' => st.get (ok.Li p' hp') (ok.ci p' hp') (r.its p' hp'), fun j h => r.lo j (mm j h).2, fun j h => r.apL j (mm j h).2, fun j h => r.apc j (mm j h).2,
    fun j h => r.api j (mm j h).2, fun j k h h' => r.apo j k (mm j h).2 (mm k h').2, fun j sl hl => ?_⟩, t⟩
  · obtain ⟨h₁, tk₁, rfl⟩ := r.same; obtain ⟨h₂, tk₂, rfl, _⟩ := st.same; exact ⟨h₂, tk₂, rfl⟩
  · have lt := Heap.lt_size q
    exact st.get (fun z => by rw [z] at lt; exact Nat.lt_irrefl _ (Nat.lt_of_lt_of_le lt ok.loL)) (fun z => by rw [ok.loc b z] at q; cases q) (r.keep b o q)
  · rw [PEnv.lookup_set] at hl
    by_cases q : j = i
    · rw [if_pos q] at hl; cases hl
      exact ⟨x, q ▸ hx, v, st.this, Rep.tr t _ _ hp⟩
    · rw [if_neg q] at hl
      obtain ⟨y, hy, h⟩ := r.names j sl hl
      exact ⟨y, hy, SlotOk.tr (st.other y (fun z => q (name_inj hy (z ▸ hx)))) t (fun o ho hm => st.get (r.apL j ⟨sl, hl, hm⟩) (r.apc j ⟨sl, hl, hm⟩) ho) h⟩

@[reducible] def Fx.push (X : Fx tab) (a : Addr) (o : Obj) : Fx tab := { X with its := (a, o) :: X.its }
@[reducible] def Fx.withIts (X : Fx tab) (l : List (Addr × Obj)) : Fx tab := { X with its := l }

theorem Mut.push {X : Fx tab} {a o e ρ b} : Mut (X.push a o) e ρ b ↔ Mut X e ρ b ∨ b = a := by
  unfold Mut
  constructor
  · rintro (h | h | h | ⟨p, hp, rfl⟩ | h)
    · exact .inl (.inl h)
    · exact .inl (.inr (.inl h))
    · exact .inl (.inr (.inr (.inl h)))
    · rcases List.mem_cons.mp hp with rfl | hp
      · exact .inr rfl
      · exact .inl (.inr (.inr (.inr (.inl ⟨p, hp, rfl⟩))))
    · exact .inl (.inr (.inr (.inr (.inr h))))
  · rintro ((h | h | h | ⟨p, hp, rfl⟩ | h) | rfl)
    · exact .inl h
    · exact .inr (.inl h)
    · exact .inr (.inr (.inl h))
    · exact .inr (.inr (.inr (.inl ⟨p, List.mem_cons_of_mem _ hp, rfl⟩)))
    · exact .inr (.inr (.inr (.inr h)))
    · exact .inr (.inr (.inr (.inl ⟨_, List.mem_cons_self, rfl⟩)))

theorem Fx.Ok.push {X : Fx tab} (ok : X.Ok) {a o} (h1 : X.s₀.heap.get? a = none) (h2 : a ≠ X.L) (h3 : a ∉ X.oc) : (X.push a o).Ok where
  room := ok.room
  fn := ok.fn
  glob := ok.glob
  blt := ok.blt
  stat := ok.stat
  noq := ok.noq
  kind := ok.kind
  cell := ok.cell
  inj := ok.inj
  loL := ok.loL
  loc := ok.loc
  loi := fun p hp => by
    rcases List.mem_cons.mp hp with rfl | hp
    · exact h1
    · exact ok.loi p hp
  Lc := ok.Lc
  Li := fun p hp => by
    rcases List.mem_cons.mp hp with rfl | hp
    · exact h2
    · exact ok.Li p hp
  ci := fun p hp => by
    rcases List.mem_cons.mp hp with rfl | hp
    · exact h3
    · exact ok.ci p hp
  bm := ok.bm
theorem Fx.Ok.pop {X : Fx tab} {a o} (ok : (X.push a o).Ok) : X.Ok where
  room := ok.room
  fn := ok.fn
  glob := ok.glob
  blt := ok.blt
  stat := ok.stat
  noq := ok.noq
  kind := ok.kind
  cell := ok.cell
  inj := ok.inj
  loL := ok.loL
  loc := ok.loc
  loi := fun p hp => ok.loi p (List.mem_cons_of_mem _ hp)
  Lc := ok.Lc
  Li := fun p hp => ok.Li p (List.mem_cons_of_mem _ hp)
  ci := fun p hp => ok.ci p (List.mem_cons_of_mem _ hp)
  bm := ok.bm

/-- an object that stands apart is taken into the ledger -/
theorem Rel.push {X : Fx tab} {e ρ s} (r : Rel X e ρ s) {s' : Shared} (ok : X.Ok) (k : KeepsL X s s') {a o} (ha : s.heap.get? a = none) (ho : s'.heap.get? a = some o) :
    (X.push a o).Ok ∧ Rel (X.push a o) e ρ s' ∧ Tr (Mut X e ρ) s.heap (Mut (X.push a o) e ρ) s'.heap := by
  have hno : ∀ b ob, s.heap.get? b = some ob → b ≠ a := fun b ob q z => by
    rw [z, ha] at q; cases q
  have hm : ¬ Mut X e ρ a := fun q => by
    obtain ⟨ob, h⟩ := r.mutEx ok a q
    rw [ha] at h; cases h
  have h0 : X.s₀.heap.get? a = none := by
    cases q : X.s₀.heap.get? a with
    | none => rfl
    | some ob => have := r.keep a ob q; rw [ha] at this; cases this
  obtain ⟨r', t⟩ := r.keepsL ok k
  have t' : Tr (Mut X e ρ) s.heap (Mut (X.push a o) e ρ) s'.heap := fun b ob hn hb => ⟨fun q => by
    rcases Mut.push.mp q with q | q
    · exact hn q
    · exact hno b ob hb q, (t b ob hn hb).2⟩
  have okp : (X.push a o).Ok := ok.push h0 (fun q => hm (.inr (.inl q))) (fun q => hm (.inr (.inr (.inl q))))
  refine ⟨okp, ⟨r'.same, r'.tok, r'.keep, r'.ns, r'.cells, fun p hp => ?_, r'.lo, r'.apL, r'.apc, fun i hi p hp => ?_, r'.apo, fun i sl hl => ?_⟩, t'⟩
  · rcases List.mem_cons.mp hp with rfl | hp
    · exact ho
    · exact r'.its p hp
  · rcases List.mem_cons.mp hp with rfl | hp
    · exact fun q => hm (.inr (.inr (.inr (.inr ⟨i, hi, q⟩))))
    · exact r'.api i hi p hp
  · obtain ⟨x, hx, h⟩ := r.names i sl hl
    obtain ⟨h', tk, rfl, kt, kn, kk⟩ := k
    refine ⟨x, hx, SlotOk.tr (X := X.push a o) (s := s) (s' := { s with heap := h', toks := tk }) (fun v => varOf_keepsL (X := X) ⟨h', tk, rfl, kt, kn, kk⟩ r.ns) t' (fun ob hob hmu => kk _ _ (r.apL i ⟨sl, hl, hmu⟩) hob) ?_⟩
    exact h

/-- an object of the ledger is let go: it stands as it is from now on -/
theorem Rel.pop {X : Fx tab} {a o e ρ s} (r : Rel (X.push a o) e ρ s) : Rel X e ρ s ∧ Tr (Mut (X.push a o) e ρ) s.heap (Mut X e ρ) s.heap := by
  have t : Tr (Mut (X.push a o) e ρ) s.heap (Mut X e ρ) s.heap := fun b ob hn hb => ⟨fun q => hn (Mut.push.mpr (.inl q)), hb⟩
  refine ⟨⟨r.same, r.tok, r.keep, r.ns, r.cells, fun p hp => r.its p (List.mem_cons_of_mem _ hp), r.lo, r.apL, r.apc, fun i hi p hp => r.api i hi p (List.mem_cons_of_mem _ hp), r.apo, fun i sl hl => ?_⟩, t⟩
  obtain ⟨x, hx, h⟩ := r.names i sl hl
  exact ⟨x, hx, SlotOk.tr (X := X) (s := s) (s' := s) (fun _ h => h) t (fun _ h _ => h) h⟩

def upd (ρ : Nat → Addr) (i : Nat) (a : Addr) : Nat → Addr := fun j => if j = i then a else ρ j

/-- T4: a list of the ledger becomes a name's own -/
theorem Rel.storeOwn {X : Fx tab} {a : Addr} {vs : List Value} {n : Nat} {e ρ s s' x} (okp : (X.push a (LObj vs n)).Ok) (r : Rel (X.push a (LObj vs n)) e ρ s) {i : Nat} (hx : allNames[i]? = some x) (hap : ∀ p ∈ X.its, p.1 ≠ a)
    (st : Stored X x (.ref a) s s') {ps : List PV} (hp : RepL s.heap (Mut (X.push a (LObj vs n)) e ρ) ps vs) :
    Rel X (e.set i (.own ps)) (upd ρ i a) s' ∧ Tr (Mut (X.push a (LObj vs n)) e ρ) s.heap (Mut X (e.set i (.own ps)) (upd ρ i a)) s'.heap := by
  have mm : ∀ j, isMut (e.set i (.own ps)) j → j = i ∨ (j ≠ i ∧ isMut e j) := fun j h => by
    rcases isMut_set h with ⟨h, _⟩ | h
    · exact .inl h
    · exact .inr h
  have hu : ∀ j, j ≠ i → upd ρ i a j = ρ j := fun j h => by simp [upd, h]
  have hui : upd ρ i a i = a := by simp [upd]
  have ne : ∀ j, isMut e j → ρ j ≠ a := fun j h q => r.api j h _ List.mem_cons_self q.symm
  have sub : ∀ b, Mut X (e.set i (.own ps)) (upd ρ i a) b → Mut (X.push a (LObj vs n)) e ρ b := by
    rintro b (h | h | h | h | ⟨j, hj, rfl⟩)
    · exact Mut.push.mpr (.inl (.inl h))
    · exact Mut.push.mpr (.inl (.inr (.inl h)))
    · exact Mut.push.mpr (.inl (.inr (.inr (.inl h))))
    · exact Mut.push.mpr (.inl (.inr (.inr (.inr (.inl h)))))
    · rcases mm j hj with rfl | ⟨h1, h2⟩
      · rw [hui]; exact Mut.push.mpr (.inr rfl)
      · rw [hu j h1]; exact Mut.push.mpr (.inl (.inr (.inr (.inr (.inr ⟨j, h2, rfl⟩)))))
  have aL : a ≠ X.L := okp.Li _ List.mem_cons_self
  have ac : a ∉ X.oc := okp.ci _ List.mem_cons_self
  have t : Tr (Mut (X.push a (LObj vs n)) e ρ) s.heap (Mut X (e.set i (.own ps)) (upd ρ i a)) s'.heap := fun b o hn hb =>
    ⟨fun q => hn (sub b q), st.get (fun q => hn (Mut.push.mpr (.inl (.inr (.inl q))))) (fun q => hn (Mut.push.mpr (.inl (.inr (.inr (.inl q)))))) hb⟩
  have ok := okp.pop
  refine ⟨⟨?_, by obtain ⟨h₂, tk₂, rfl, ht⟩ := st.same; exact ht r.tok, fun b o q => ?_, st.ns, st.cells, fun p' hp' => st.get (ok.Li p' hp') (ok.ci p' hp') (r.its p' (List.mem_cons_of_mem _ hp')), fun j h => ?_, fun j h => ?_, fun j h => ?_,
    fun j h p' hp' => ?_, fun j k h h' => ?_, fun j sl hl => ?_⟩, t⟩
  · obtain ⟨h₁, tk₁, rfl⟩ := r.same; obtain ⟨h₂, tk₂, rfl, _⟩ := st.same; exact ⟨h₂, tk₂, rfl⟩
  · have lt := Heap.lt_size q
    exact st.get (fun z => by rw [z] at lt; exact Nat.lt_irrefl _ (Nat.lt_of_lt_of_le lt ok.loL)) (fun z => by rw [ok.loc b z] at q; cases q) (r.keep b o q)
  · rcases mm j h with rfl | ⟨h1, h2⟩
    · rw [hui]; exact okp.loi _ List.mem_cons_self
    · rw [hu j h1]; exact r.lo j h2
  · rcases mm j h with rfl | ⟨h1, h2⟩
    · rw [hui]; exact aL
    · rw [hu j h1]; exact r.apL j h2
  · rcases mm j h with rfl | ⟨h1, h2⟩
    · rw [hui]; exact ac
    · rw [hu j h1]; exact r.apc j h2
  · rcases mm j h with rfl | ⟨h1, h2⟩
    · rw [hui]; exact hap p' hp'
    · rw [hu j h1]; exact r.api j h2 p' (List.mem_cons_of_mem _ hp')
  · rcases mm j h with rfl | ⟨h1, h2⟩ <;> rcases mm k h' with rfl | ⟨g1, g2⟩
    · intro _; rfl
    · rw [hui, hu k g1]; intro q; exact absurd q.symm (ne k g2)
    · rw [hui, hu j h1]; intro q; exact absurd q (ne j h2)
    · rw [hu j h1, hu k g1]; exact r.apo j k h2 g2
  · rw [PEnv.lookup_set] at hl
    by_cases q : j = i
    · rw [if_pos q] at hl; cases hl
      subst q
      refine ⟨x, hx, ?_⟩
      rw [hui]
      exact ⟨fun _ => st.this, vs, n, st.get aL ac (r.its _ List.mem_cons_self), RepL.tr t _ _ hp⟩
    · rw [if_neg q] at hl
      rw [hu j q]
      obtain ⟨y, hy, h⟩ := r.names j sl hl
      exact ⟨y, hy, SlotOk.tr (X := X) (st.other y (fun z => q (name_inj hy (z ▸ hx)))) t (fun o ho hm => st.get (r.apL j ⟨sl, hl, hm⟩) (r.apc j ⟨sl, hl, hm⟩) ho) h⟩
end
end Mine
end

section
open PySem PySem.W PyProof.Rows PySem.Calls
set_option Elab.async false
set_option linter.unusedVariables false
set_option maxRecDepth 100000
namespace Mine

section
variable {tab : List (Nat × NameKind)}

theorem isMut_same {e : PEnv} {i : Nat} {sl sl' : Slot} (hi : e.lookup i = some sl) (h1 : sl.mut = true) (h2 : sl'.mut = true) (j : Nat) : isMut (e.set i sl') j ↔ isMut e j := by
  constructor
  · intro h
    rcases isMut_set h with ⟨rfl, _⟩ | ⟨_, h⟩
    · exact ⟨sl, hi, h1⟩
    · exact h
  · rintro ⟨t, ht, hm⟩
    by_cases q : j = i
    · subst q; exact ⟨sl', by rw [PEnv.lookup_set, if_pos rfl], h2⟩
    · exact ⟨t, by rw [PEnv.lookup_set, if_neg q]; exact ht, hm⟩

theorem varOf_but {X : Fx tab} {h h' : Heap} (ok : X.Ok) {I : Addr} (Ic : I ∉ X.oc) (I0 : X.s₀.heap.get? I = none) (hN : ∀ m, h.Ns X.L m → h'.Ns X.L m) (kp : ∀ b ob, b ≠ X.L → b ≠ I → h.get? b = some ob → h'.get? b = some ob) :
    ∀ x v, X.varOf h x v → X.varOf h' x v := by
  have hcL : ∀ x c, X.env.cells.lookup x = some c → c ≠ X.L := fun x c hx q => by
    rcases ok.cell x c hx with z | ⟨o, ho⟩
    · exact ok.Lc (q ▸ z)
    · have := Heap.lt_size ho; rw [q] at this; exact Nat.lt_irrefl _ (Nat.lt_of_lt_of_le this ok.loL)
  have hc : ∀ x c, X.env.cells.lookup x = some c → c ≠ I := fun x c hx q => by
    rcases ok.cell x c hx with z | ⟨o, ho⟩
    · exact Ic (q ▸ z)
    · rw [q, I0] at ho; cases ho
  intro x v h
  unfold Fx.varOf at h ⊢
  split at h
  · obtain ⟨m', a, b⟩ := h
    exact ⟨m', hN _ a, b⟩
  · obtain ⟨c, a, ob, h1, h2⟩ := h
    exact ⟨c, a, ob, kp _ _ (hcL x c a) (hc x c a) h1, h2⟩
  · obtain ⟨c, a, ob, h1, h2⟩ := h
    exact ⟨c, a, ob, kp _ _ (hcL x c a) (hc x c a) h1, h2⟩
  · exact h

/-- a name's own object is changed -/
theorem Rel.change {X : Fx tab} {e ρ s} (ok : X.Ok) (r : Rel X e ρ s) {i : Nat} {sl sl' : Slot} (hi : e.lookup i = some sl) (h1 : sl.mut = true) (h2 : sl'.mut = true) {h' tk} (ht : 0 < s.toks → 0 < tk) (hN : ∀ m, s.heap.Ns X.L m → h'.Ns X.L m) (kp : ∀ b o, b ≠ X.L → b ≠ ρ i → s.heap.get? b = some o → h'.get? b = some o)
    (hn : ∀ x, allNames[i]? = some x → (∀ v, X.varOf s.heap x v → X.varOf h' x v) → Tr (Mut X e ρ) s.heap (Mut X e ρ) h' → SlotOk X s.heap (Mut X e ρ) (ρ i) x sl → SlotOk X h' (Mut X e ρ) (ρ i) x sl') :
    Rel X (e.set i sl') ρ { s with heap := h', toks := tk } ∧ Tr (Mut X e ρ) s.heap (Mut X (e.set i sl') ρ) h' := by
  have hmi : isMut e i := ⟨sl, hi, h1⟩
  have mm := isMut_same hi h1 h2
  have hM : Mut X (e.set i sl') ρ = Mut X e ρ := by
    funext a; unfold Mut; simp only [mm]
  have t : Tr (Mut X e ρ) s.heap (Mut X e ρ) h' := fun b o hb ho => ⟨hb, kp b o (fun q => hb (.inr (.inl q))) (fun q => hb (.inr (.inr (.inr (.inr ⟨i, hmi, q⟩))))) ho⟩
  have get : ∀ {a o}, a ≠ X.L → a ≠ ρ i → s.heap.get? a = some o → h'.get? a = some o := fun z q ho => kp _ _ z q ho
  obtain ⟨m, hm⟩ := r.ns
  have hv := varOf_but ok (r.apc i hmi) (r.lo i hmi) hN kp
  refine ⟨⟨?_, ht r.tok, fun b o q => get (fun z => by have := Heap.lt_size q; rw [z] at this; exact Nat.lt_irrefl _ (Nat.lt_of_lt_of_le this ok.loL)) (fun z => ?_) (r.keep b o q), ⟨m, hN m hm⟩, fun c hc => ?_, fun p hp => get (ok.Li p hp) (r.api i hmi p hp) (r.its p hp),
    fun j hj => r.lo j ((mm j).mp hj), fun j hj => r.apL j ((mm j).mp hj), fun j hj => r.apc j ((mm j).mp hj), fun j hj => r.api j ((mm j).mp hj), fun j k hj hk => r.apo j k ((mm j).mp hj) ((mm k).mp hk), fun j sl'' hl => ?_⟩, by rw [hM]; exact t⟩
  · obtain ⟨h₁, tk₁, rfl⟩ := r.same; exact ⟨h', tk, rfl⟩
  · rw [z, r.lo i hmi] at q; cases q
  · obtain ⟨v, ob, h1, h2⟩ := r.cells c hc; exact ⟨v, ob, kp _ _ (fun q => ok.Lc (q ▸ hc)) (fun q => r.apc i hmi (q ▸ hc)) h1, h2⟩
  · rw [hM]
    rw [PEnv.lookup_set] at hl
    by_cases q : j = i
    · rw [if_pos q] at hl; cases hl
      subst q
      obtain ⟨x, hx, h⟩ := r.names j sl hi
      exact ⟨x, hx, hn x hx (hv x) t h⟩
    · rw [if_neg q] at hl
      obtain ⟨x, hx, h⟩ := r.names j sl'' hl
      exact ⟨x, hx, SlotOk.tr (X := X) (s := s) (s' := { s with heap := h', toks := tk }) (hv x) t (fun o ho hm' => get (r.apL j ⟨sl'', hl, hm'⟩) (fun z => q (r.apo j i ⟨sl'', hl, hm'⟩ hmi z)) ho) h⟩

theorem Rel.own {X : Fx tab} {e ρ s} (r : Rel X e ρ s) {i : Nat} {ps : List PV} (hi : e.lookup i = some (.own ps)) {x : Str} (hx : allNames[i]? = some x) :
    (x ≠ Str.ofString "?" → X.varOf s.heap x (.ref (ρ i))) ∧ ∃ vs n, s.heap.get? (ρ i) = some (LObj vs n) ∧ RepL s.heap (Mut X e ρ) ps vs := by
  obtain ⟨y, hy, h1, vs, n, h2, h3⟩ := r.names i _ hi
  rw [hx] at hy; cases hy
  exact ⟨h1, vs, n, h2, h3⟩
theorem ok_notq {X : Fx tab} (ok : X.Ok) {i : Nat} {k : NameKind} {x : Str} (hx : allNames[i]? = some x) (hi : tab.lookup i = some k) : x ≠ Str.ofString "?" := fun q => by
  obtain ⟨x', hx', hkx⟩ := ok.kind i k hi
  rw [hx] at hx'; cases hx'
  have h0 := ok.noq
  rw [← q] at h0
  cases k with
  | cell => rw [hkx.1] at h0; cases h0
  | free => rcases hkx.1 with z | z <;> (rw [z] at h0; cases h0)
  | _ => (have hk' := hkx; unfold Fx.KindIs at hk'; rw [h0] at hk'; cases hk')

theorem Rel.changeOwn {X : Fx tab} {e ρ s} (ok : X.Ok) (r : Rel X e ρ s) {i : Nat} {ps ps' : List PV} (hi : e.lookup i = some (.own ps)) {h' tk} (hs : Heap.SameBut (ρ i) s.heap h') {vs n} (hg : h'.get? (ρ i) = some (LObj vs n))
    (hp : RepL s.heap (Mut X e ρ) ps' vs) (ht : 0 < s.toks → 0 < tk := by exact fun h => h) : Rel X (e.set i (.own ps')) ρ { s with heap := h', toks := tk } ∧ Tr (Mut X e ρ) s.heap (Mut X (e.set i (.own ps')) ρ) h' :=
  r.change ok hi rfl rfl ht (fun m hm => hm.sameBut hs (Ne.symm (r.apL i ⟨_, hi, rfl⟩))) (fun b o _ hb ho => (hs.2 b hb).trans ho) fun _ _ hv t h => ⟨fun q => hv _ (h.1 q), vs, n, hg, RepL.tr t _ _ hp⟩

/-- an own list is let go: from now on it stands as it is -/
theorem Rel.freeze {X : Fx tab} {e ρ s} (ok : X.Ok) (r : Rel X e ρ s) {i : Nat} {sl : Slot} (hi : e.lookup i = some sl) (h1 : sl.mut = true) (p : PV)
    (hp : ∀ P', ¬ P' (ρ i) → Tr (Mut X e ρ) s.heap P' s.heap → ∀ x, allNames[i]? = some x → SlotOk X s.heap (Mut X e ρ) (ρ i) x sl → ∃ v, X.varOf s.heap x v ∧ Rep s.heap P' p v) :
    Rel X (e.set i (.val p)) ρ s ∧ Tr (Mut X e ρ) s.heap (Mut X (e.set i (.val p)) ρ) s.heap := by
  have hmi : isMut e i := ⟨_, hi, h1⟩
  have mm : ∀ j, isMut (e.set i (.val p)) j → j ≠ i ∧ isMut e j := fun j h => by
    rcases isMut_set h with ⟨_, h⟩ | h
    · cases h
    · exact h
  have sub : ∀ a, Mut X (e.set i (.val p)) ρ a → Mut X e ρ a ∧ a ≠ ρ i := by
    rintro a (h | h | h | ⟨p', hp', rfl⟩ | ⟨j, hj, rfl⟩)
    · exact ⟨.inl h, fun q => by obtain ⟨o, ho⟩ := ok.bm a h; rw [q, r.lo i hmi] at ho; cases ho⟩
    · exact ⟨.inr (.inl h), fun q => r.apL i hmi (q.symm.trans h)⟩
    · exact ⟨.inr (.inr (.inl h)), fun q => r.apc i hmi (q ▸ h)⟩
    · exact ⟨.inr (.inr (.inr (.inl ⟨p', hp', rfl⟩))), r.api i hmi p' hp'⟩
    · exact ⟨.inr (.inr (.inr (.inr ⟨j, (mm j hj).2, rfl⟩))), fun q => (mm j hj).1 (r.apo j i (mm j hj).2 hmi q)⟩
  have t : Tr (Mut X e ρ) s.heap (Mut X (e.set i (.val p)) ρ) s.heap := fun a o hn ho => ⟨fun q => hn (sub a q).1, ho⟩
  refine ⟨⟨r.same, r.tok, r.keep, r.ns, r.cells, r.its, fun j h => r.lo j (mm j h).2, fun j h => r.apL j (mm j h).2, fun j h => r.apc j (mm j h).2,
    fun j h => r.api j (mm j h).2, fun j k h h' => r.apo j k (mm j h).2 (mm k h').2, fun j sl' hl => ?_⟩, t⟩
  rw [PEnv.lookup_set] at hl
  by_cases q : j = i
  · rw [if_pos q] at hl; cases hl
    subst q
    obtain ⟨x, hx, h⟩ := r.names j sl hi
    exact ⟨x, hx, hp _ (fun z => (sub _ z).2 rfl) t x hx h⟩
  · rw [if_neg q] at hl
    obtain ⟨x, hx, h⟩ := r.names j sl' hl
    exact ⟨x, hx, SlotOk.tr (X := X) (s := s) (s' := s) (fun _ h => h) t (fun _ h _ => h) h⟩

theorem Rel.freezeOwn {X : Fx tab} {e ρ s} (ok : X.Ok) (r : Rel X e ρ s) {i : Nat} {ps : List PV} (hi : e.lookup i = some (.own ps)) (h0 : i ≠ 0) :
    Rel X (e.set i (.val (.list ps))) ρ s ∧ Tr (Mut X e ρ) s.heap (Mut X (e.set i (.val (.list ps))) ρ) s.heap := by
  refine r.freeze ok hi rfl _ fun P' hP t x hx h => ?_
  obtain ⟨h1, vs, n, h2, h3⟩ := h
  refine ⟨_, h1 fun q => h0 (name_inj hx (q ▸ rfl)), ?_⟩
  unfold Rep
  exact ⟨_, vs, n, rfl, hP, h2, RepL.tr t _ _ h3⟩

theorem Rel.freezeObj {X : Fx tab} {e ρ s} (ok : X.Ok) (r : Rel X e ρ s) {i : Nat} {xb C ks fs} (hi : e.lookup i = some (.obj xb C ks fs)) :
    Rel X (e.set i (.val (.inst C ks fs))) ρ s ∧ Tr (Mut X e ρ) s.heap (Mut X (e.set i (.val (.inst C ks fs))) ρ) s.heap :=
  r.freeze ok hi rfl _ fun P' hP t x hx h => by
    obtain ⟨es, n, h1, h2, h3, h4, h5, h6⟩ := h
    refine ⟨_, h1, ?_⟩
    unfold Rep
    obtain ⟨u, w⟩ := t _ _ h2 h3
    exact ⟨_, _, es, n, rfl, u, hP, w, h4, h5, RepL.tr t _ _ h6⟩

/-- names are forgotten -/
def Sub (e' e : PEnv) : Prop := ∀ i sl, e'.lookup i = some sl → e.lookup i = some sl
theorem Sub.nil {e} : Sub [] e := fun _ _ h => by simp at h
theorem Sub.cons {i sl r e} (h : List.lookup i e = some sl) (hr : Sub r e) : Sub ((i, sl) :: r) e := fun j sl' hl => by
  rw [List.lookup_cons] at hl
  by_cases q : j = i
  · subst q; simp at hl; subst hl; exact h
  · have : (j == i) = false := by simpa using q
    rw [this] at hl; exact hr j sl' hl
theorem Rel.sub {X : Fx tab} {e e' ρ s} (r : Rel X e ρ s) (h : Sub e' e) : Rel X e' ρ s ∧ Tr (Mut X e ρ) s.heap (Mut X e' ρ) s.heap := by
  have mm : ∀ j, isMut e' j → isMut e j := fun j ⟨sl, a, b⟩ => ⟨sl, h j sl a, b⟩
  have sub : ∀ a, Mut X e' ρ a → Mut X e ρ a := by
    rintro a (h | h | h | h | ⟨j, hj, rfl⟩)
    · exact .inl h
    · exact .inr (.inl h)
    · exact .inr (.inr (.inl h))
    · exact .inr (.inr (.inr (.inl h)))
    · exact .inr (.inr (.inr (.inr ⟨j, mm j hj, rfl⟩)))
  have t : Tr (Mut X e ρ) s.heap (Mut X e' ρ) s.heap := fun a o hn ho => ⟨fun q => hn (sub a q), ho⟩
  refine ⟨⟨r.same, r.tok, r.keep, r.ns, r.cells, r.its, fun j h => r.lo j (mm j h), fun j h => r.apL j (mm j h), fun j h => r.apc j (mm j h),
    fun j h => r.api j (mm j h), fun j k h h' => r.apo j k (mm j h) (mm k h'), fun j sl hl => ?_⟩, t⟩
  obtain ⟨x, hx, hs⟩ := r.names j sl (h j sl hl)
  exact ⟨x, hx, SlotOk.tr (X := X) (s := s) (s' := s) (fun _ h => h) t (fun _ h _ => h) hs⟩

/-! the judgements -/
abbrev No : Value → Shared → Prop := fun _ _ => False

def Ev (X : Fx tab) (e : PEnv) (t : Sem Value) (p : PV) (e' : PEnv) : Prop := X.Ok → ∀ ρ s, Rel X e ρ s →
  wpAny (model prg X.w) X.A t (fun v s' => Rel X e' ρ s' ∧ Tr (Mut X e ρ) s.heap (Mut X e' ρ) s'.heap ∧ Rep s'.heap (Mut X e' ρ) p v) No s
def EvL (X : Fx tab) (e : PEnv) (t : Sem (List Value)) (ps : List PV) (e' : PEnv) : Prop := X.Ok → ∀ ρ s, Rel X e ρ s →
  wpAny (model prg X.w) X.A t (fun vs s' => Rel X e' ρ s' ∧ Tr (Mut X e ρ) s.heap (Mut X e' ρ) s'.heap ∧ RepL s'.heap (Mut X e' ρ) ps vs) No s
def Ts (X : Fx tab) (e : PEnv) (t : Sem Bool) (b : Bool) (e' : PEnv) : Prop := X.Ok → ∀ ρ s, Rel X e ρ s →
  wpAny (model prg X.w) X.A t (fun v s' => Rel X e' ρ s' ∧ Tr (Mut X e ρ) s.heap (Mut X e' ρ) s'.heap ∧ v = b) No s

inductive PF where
  | next | brk | cont | ret (p : PV)
def FRep (h : Heap) (P : Addr → Prop) : PF → Flow → Prop
  | .next, f => f = .next
  | .brk, f => f = .brk
  | .cont, f => f = .cont
  | .ret p, f => ∃ v, f = .ret v ∧ Rep h P p v
theorem FRep.tr {P h P' h'} (t : Tr P h P' h') : ∀ {f : PF} {fl : Flow}, FRep h P f fl → FRep h' P' f fl
  | .next, _, x => x
  | .brk, _, x => x
  | .cont, _, x => x
  | .ret p, _, ⟨v, a, b⟩ => ⟨v, a, Rep.tr t _ _ b⟩
def Ex (X : Fx tab) (e : PEnv) (t : Sem Flow) (f : PF) (e' : PEnv) : Prop := X.Ok → ∀ ρ s, Rel X e ρ s →
  wpAny (model prg X.w) X.A t (fun fl s' => ∃ ρ', Rel X e' ρ' s' ∧ Tr (Mut X e ρ) s.heap (Mut X e' ρ') s'.heap ∧ FRep s'.heap (Mut X e' ρ') f fl) No s

/-- a pure step on values: the heap may grow, nothing else -/
def Kp (s s' : Shared) : Prop := ∃ h' tk, s' = { s with heap := h', toks := tk } ∧ (0 < s.toks → 0 < tk) ∧ ∀ b o, s.heap.get? b = some o → h'.get? b = some o
theorem Kp.toL {X : Fx tab} {s s'} (k : Kp s s') : KeepsL X s s' := by
  obtain ⟨h', tk, rfl, kt, kk⟩ := k
  exact ⟨h', tk, rfl, kt, fun m hm => hm.keeps kk, fun b o _ => kk b o⟩
theorem Kp.of_keeps {s s' : Shared} (ht : 0 < s.toks → 0 < s'.toks) (k : Keeps s s') : Kp s s' := by
  obtain ⟨h', tk, rfl, kk⟩ := k
  exact ⟨h', tk, rfl, ht, kk⟩
theorem Kp.refl (s : Shared) : Kp s s := ⟨s.heap, s.toks, rfl, id, fun _ _ h => h⟩
theorem Kp.trans {s s' s''} (a : Kp s s') (b : Kp s' s'') : Kp s s'' := by
  obtain ⟨h', tk, rfl, kt, kk⟩ := a
  obtain ⟨h'', tk', rfl, kt', kk'⟩ := b
  exact ⟨h'', tk', rfl, fun h => kt' (kt h), fun b o h => kk' b o (kk b o h)⟩
theorem Kp.tok (s : Shared) (t : Nat) (ht : 0 < s.toks → 0 < t := by intro _; first | assumption | omega) : Kp s { s with toks := t } := ⟨s.heap, t, rfl, ht, fun _ _ h => h⟩
theorem Kp.push (s : Shared) (o : Obj) (t : Nat) (ht : 0 < s.toks → 0 < t := by intro _; first | assumption | omega) : Kp s { s with heap := s.heap.push o, toks := t } := ⟨_, t, rfl, ht, fun _ _ h => Heap.get?_push_of_some _ h⟩
theorem Kp.tr {s s'} (k : Kp s s') (P : Addr → Prop) : Tr P s.heap P s'.heap := by
  obtain ⟨h', tk, rfl, kt, kk⟩ := k
  exact fun a o hn ho => ⟨hn, kk a o ho⟩
theorem Kp.L {X : Fx tab} {s s'} (k : Kp s s') : KeepsL X s s' := k.toL

/-- a step on values within a frame -/
def Pu (X : Fx tab) (s : Shared) (P : Addr → Prop) (t : Sem Value) (p : PV) : Prop :=
  wpAny (model prg X.w) X.A t (fun v s' => KeepsL X s s' ∧ Rep s'.heap P p v) No s
/-- what a step may ask of its state -/
structure Cx (X : Fx tab) (s : Shared) (P : Addr → Prop) : Prop where
  stat : Stat X.K s.heap
  ex : ∀ a, P a → ∃ o, s.heap.get? a = some o
  keep : ∀ b o, X.s₀.heap.get? b = some o → s.heap.get? b = some o
  ns : ∃ m, s.heap.Ns X.L m
  PL : P X.L
  tok : 0 < s.toks

theorem Rel.cx {X : Fx tab} {e ρ s} (ok : X.Ok) (r : Rel X e ρ s) : Cx X s (Mut X e ρ) := ⟨ok.stat.keeps r.keep, r.mutEx ok, r.keep, r.ns, .inr (.inl rfl), r.tok⟩

theorem Ev.pure' {X : Fx tab} {e t p} (h : X.Ok → ∀ s P, Cx X s P → Pu X s P t p) : Ev X e t p e := fun ok ρ s r =>
  wpAny_mono (h ok s _ (r.cx ok)) (fun v s' ⟨k, hr⟩ => let ⟨r', t⟩ := r.keepsL ok k; ⟨r', t, hr⟩) fun _ _ h => h

theorem fresh_size {h : Heap} : h.get? h.objs.size = none := by
  cases q : h.get? h.objs.size with
  | none => rfl
  | some o => exact absurd (Heap.lt_size q) (Nat.lt_irrefl _)
theorem Cx.new {X : Fx tab} {s P} (c : Cx X s P) {a} (h : s.heap.get? a = none) : ¬ P a := fun q => by
  obtain ⟨o, ho⟩ := c.ex a q; rw [h] at ho; cases ho

theorem KeepsL.refl {X : Fx tab} (s : Shared) : KeepsL X s s := (Kp.refl s).toL
theorem KeepsL.trans {X : Fx tab} {s s' s''} (a : KeepsL X s s') (b : KeepsL X s' s'') : KeepsL X s s'' := by
  obtain ⟨h', tk, rfl, kt, kn, kk⟩ := a
  obtain ⟨h'', tk', rfl, kt', kn', kk'⟩ := b
  exact ⟨h'', tk', rfl, fun h => kt' (kt h), fun m h => kn' m (kn m h), fun b o hb h => kk' b o hb (kk b o hb h)⟩
theorem KeepsL.tr {X : Fx tab} {s s'} (k : KeepsL X s s') {P : Addr → Prop} (hP : P X.L) : Tr P s.heap P s'.heap := by
  obtain ⟨h', tk, rfl, kt, kn, kk⟩ := k
  exact fun a o hn ho => ⟨hn, kk a o (fun q => hn (q ▸ hP)) ho⟩
theorem Cx.step {X : Fx tab} {s s' P} (ok : X.Ok) (c : Cx X s P) (k : KeepsL X s s') : Cx X s' P := by
  obtain ⟨m, hm⟩ := c.ns
  obtain ⟨h', tk, rfl, kt, kn, kk⟩ := k
  have hL : ∀ b o, X.s₀.heap.get? b = some o → b ≠ X.L := fun b o q z => by
    have := Heap.lt_size q; rw [z] at this; exact Nat.lt_irrefl _ (Nat.lt_of_lt_of_le this ok.loL)
  have kp : ∀ b o, X.s₀.heap.get? b = some o → h'.get? b = some o := fun b o q => kk b o (hL b o q) (c.keep b o q)
  refine ⟨ok.stat.keeps kp, fun a ha => ?_, kp, ⟨m, kn m hm⟩, c.PL, kt c.tok⟩
  obtain ⟨o, ho⟩ := c.ex a ha
  by_cases q : a = X.L
  · subst q; obtain ⟨o', _, _, h', _⟩ := kn m hm; exact ⟨o', h'⟩
  · exact ⟨o, kk a o q ho⟩

/-- the bridge to the library's frames and ledgers: all below the frame's dict is ground, all above is ledger -/
def below (h : Heap) (L : Addr) : Heap := { h with objs := h.objs.extract 0 L }
theorem below_get {h : Heap} {L a : Nat} : (below h L).get? a = if a < L then h.get? a else none := by
  have key : (h.objs.extract 0 L)[a]? = if a < L then h.objs[a]? else none := by
    rw [Array.getElem?_extract]
    by_cases q : a < L
    · by_cases z : a < h.objs.size
      · have z1 : a < min L h.objs.size - 0 := by omega
        rw [if_pos z1, if_pos q, Nat.zero_add]
      · have z1 : ¬ a < min L h.objs.size - 0 := by omega
        have z2 : h.objs.size ≤ a := by omega
        rw [if_neg z1, if_pos q, Array.getElem?_eq_none z2]
    · have z1 : ¬ a < min L h.objs.size - 0 := by omega
      rw [if_neg z1, if_neg q]
  unfold below Heap.get?
  dsimp only
  rw [key]
  by_cases q : a < L
  · rw [if_pos q, if_pos q]
  · rw [if_neg q, if_neg q]
def aboveL (h : Heap) (L : Addr) : List (Addr × Obj) := (List.range h.objs.size).filterMap fun a => if L < a then (h.get? a).map fun o => (a, o) else none
theorem mem_aboveL {h : Heap} {L : Addr} {p : Addr × Obj} : p ∈ aboveL h L ↔ L < p.1 ∧ h.get? p.1 = some p.2 := by
  unfold aboveL
  simp only [List.mem_filterMap, List.mem_range]
  constructor
  · rintro ⟨a, _, h2⟩
    split at h2
    · rename_i q
      cases r : h.get? a with
      | none => rw [r] at h2; cases h2
      | some o => rw [r] at h2; cases h2; exact ⟨q, r⟩
    · cases h2
  · rintro ⟨h1, h2⟩
    exact ⟨p.1, Heap.lt_size h2, by rw [if_pos h1, h2]; rfl⟩

theorem Cx.bridge {X : Fx tab} {s P} (ok : X.Ok) (c : Cx X s P) : ∃ h₀ news m, Fr h₀ X.L s.heap m ∧ News h₀ X.L s.heap news ∧ Stat X.K h₀ ∧
    (∀ b o, b ≠ X.L → s.heap.get? b = some o → h₀.get? b = some o ∨ (b, o) ∈ news) ∧
    (∀ h' tk new, (0 < s.toks → 0 < tk) → Fr h₀ X.L h' m → News h₀ X.L h' (new ++ news) → KeepsL X s { s with heap := h', toks := tk }) := by
  obtain ⟨m, hm⟩ := c.ns
  have all : ∀ b o, b ≠ X.L → s.heap.get? b = some o → (below s.heap X.L).get? b = some o ∨ (b, o) ∈ aboveL s.heap X.L := fun b o hb ho => by
    rcases Nat.lt_or_gt_of_ne hb with q | q
    · exact .inl (by rw [below_get, if_pos q]; exact ho)
    · exact .inr (mem_aboveL.mpr ⟨q, ho⟩)
  refine ⟨below s.heap X.L, aboveL s.heap X.L, m, ⟨hm, fun b o h => ?_, ?_⟩, fun p hp => ?_, ok.stat.keeps fun b o h => ?_, all, fun h' tk new ht F N => ⟨h', tk, rfl, ht, fun m' hm' => ?_, fun b o hb ho => ?_⟩⟩
  · rw [below_get] at h; split at h
    · exact h
    · cases h
  · show (s.heap.objs.extract 0 X.L).size ≤ X.L
    rw [Array.size_extract]; exact Nat.le_trans (Nat.sub_le _ _) (Nat.min_le_left _ _)
  · obtain ⟨h1, h2⟩ := mem_aboveL.mp hp
    exact ⟨h2, Nat.ne_of_gt h1, by rw [below_get, if_neg (Nat.not_lt.mpr (Nat.le_of_lt h1))]⟩
  · rw [below_get, if_pos (Nat.lt_of_lt_of_le (Heap.lt_size h) ok.loL)]; exact c.keep b o h
  · rw [ns_unique hm' hm]; exact F.ns
  · rcases all b o hb ho with q | q
    · exact F.keep b o q
    · exact (N _ (List.mem_append_right _ q)).1
end
end Mine
end

section
open PySem PySem.W PyProof.Rows PySem.Calls
set_option Elab.async false
set_option linter.unusedVariables false
set_option maxRecDepth 100000
namespace Mine

section
variable {tab : List (Nat × NameKind)} {X : Fx tab} {e e₁ e₂ e₃ : PEnv} {p q out : PV}

theorem Ev.mono_tr {t : Sem Value} (h : Ev X e t p e₁) : Ev X e t p e₁ := h

/-! names and literals -/
theorem rep_int {h P i t} : Rep h P (.int i) (.int i t) := by unfold Rep; exact ⟨t, rfl⟩
theorem rep_str {h P x t} : Rep h P (.str x) (.str x t) := by unfold Rep; exact ⟨t, rfl⟩
theorem rep_bool {h P b} : Rep h P (.bool b) (.bool b) := by unfold Rep; rfl
theorem rep_none {h P} : Rep h P .none .none := by unfold Rep; rfl
theorem rep_raw {h P v} : Rep h P (.raw v) v := by unfold Rep; rfl
theorem rep_list {h P a vs ps n} (hp : ¬ P a) (hg : h.get? a = some (LObj vs n)) (hr : RepL h P ps vs) : Rep h P (.list ps) (.ref a) := by
  unfold Rep; exact ⟨a, vs, n, rfl, hp, hg, hr⟩
theorem rep_tuple {h P a vs ps n} (hp : ¬ P a) (hg : h.get? a = some (TObj vs n)) (hr : RepL h P ps vs) : Rep h P (.tuple ps) (.ref a) := by
  unfold Rep; exact ⟨a, vs, n, rfl, hp, hg, hr⟩

theorem Ev.ret (t : Sem Value) (h : ∀ s P, Cx X s P → Pu X s P t p) : Ev X e t p e := Ev.pure' fun _ s P c => h s P c

theorem Ev.cint {i k pos} : Ev X e (eval (.Constant (.int i) k pos) X.env) (.int i) e := Ev.ret _ fun s P _ => wpAny_Constant_int ⟨(Kp.tok s _).toL, rep_int⟩
theorem Ev.cstr {x k pos} : Ev X e (eval (.Constant (.str x) k pos) X.env) (.str x) e := Ev.ret _ fun s P _ => Constant_str ⟨(Kp.tok s _).toL, rep_str⟩
theorem Ev.cbool {b k pos} : Ev X e (eval (.Constant (.bool b) k pos) X.env) (.bool b) e := Ev.ret _ fun s P _ => Constant_bool ⟨KeepsL.refl s, rep_bool⟩
theorem Ev.cnone {k pos} : Ev X e (eval (.Constant .none k pos) X.env) .none e := Ev.ret _ fun s P _ => Constant_none ⟨KeepsL.refl s, rep_none⟩

theorem loadVar (ok : X.Ok) {i : Nat} {k : NameKind} {x : Str} (hi : tab.lookup i = some k) (hx : allNames[i]? = some x) (hk : k = .local ∨ k = .cell ∨ k = .free) {v : Value} {s : Shared} (hv : X.varOf s.heap x v)
    {Q : Value → Shared → Prop} (h : Q v s) {pos : Pos} (hd : (x == ("__debug__" : Str)) = false ∧ (x == ("__classdict__" : Str)) = false) : wpAny (model prg X.w) X.A (eval (.Name x pos) X.env) Q No s := by
  obtain ⟨x', hx', hkx⟩ := ok.kind i k hi
  rw [hx] at hx'; cases hx'
  unfold Fx.varOf at hv
  rcases hk with rfl | rfl | rfl
  · have hkx : X.env.kindOf x = some .local := hkx
    rw [hkx] at hv; obtain ⟨m, a, b⟩ := hv
    exact wpAny_Name (wpAny_loadName_local ok.fn hkx a b h) hd.1
  · have hkx : X.env.kindOf x = some .cell := hkx.1
    rw [hkx] at hv; obtain ⟨c, a, b⟩ := hv
    exact wpAny_Name (wpAny_loadName_cell ok.fn hkx a b h) hd.1
  · rcases hkx.1 with hkx | hkx
    · rw [hkx] at hv; obtain ⟨c, a, b⟩ := hv
      exact wpAny_Name (wpAny_loadName_free ok.fn hkx a b h hd.2) hd.1
    · rw [hkx] at hv; obtain ⟨c, a, b⟩ := hv
      exact wpAny_Name (wpAny_loadName_cell ok.fn hkx a b h) hd.1
theorem plainName {i : Nat} {x : Str} (hx : allNames[i]? = some x) : (x == ("__debug__" : Str)) = false ∧ (x == ("__classdict__" : Str)) = false := by
  have h : ∀ y ∈ allNames, (y == ("__debug__" : Str)) = false ∧ (y == ("__classdict__" : Str)) = false := by decide +kernel
  exact h x (List.mem_of_getElem? hx)
def isVar (k : NameKind) : Bool := match k with | .local | .cell | .free => true | _ => false
theorem isVar_or {k : NameKind} (h : isVar k = true) : k = .local ∨ k = .cell ∨ k = .free := by cases k <;> simp_all [isVar]

/-- a name that holds a value -/
theorem Ev.name {i : Nat} {k : NameKind} {x : Str} {pos : Pos} (hx : allNames[i]? = some x) (hi : tab.lookup i = some k) (he : e.lookup i = some (.val p)) (hk : isVar k = true) : Ev X e (eval (.Name x pos) X.env) p e := fun ok ρ s R => by
  obtain ⟨y, hy, v, hv, hr⟩ := R.names i _ he
  rw [hx] at hy; cases hy
  exact loadVar ok hi hx (isVar_or hk) hv ⟨R, Tr.refl, hr⟩ (plainName hx)

/-- a name of the top -/
theorem Ev.glob {x : Str} {v : Value} {pos : Pos} (hx : X.env.kindOf x = some .globalImplicit) (hv : nsIn X.K mainGlobals x = some (some v)) (hd : (x == ("__debug__" : Str)) = false) : Ev X e (eval (.Name x pos) X.env) (.raw v) e :=
  Ev.pure' fun ok s P c => by
    obtain ⟨p, loose, mg, mb, T⟩ := c.stat.top
    exact Name_function_global ok.fn hx (loadGlobal_global (by rw [ok.glob]; exact T.g) (mg_of c.stat.K T.g hv) ⟨KeepsL.refl s, rep_raw⟩) hd
/-- a built-in name -/
theorem Ev.blt {x : Str} {v : Value} {pos : Pos} (hx : X.env.kindOf x = some .globalImplicit) (hn : nsIn X.K mainGlobals x = some none) (hv : bootBuiltins x = some v) (hne : x ≠ "__name__") (hd : (x == ("__debug__" : Str)) = false) : Ev X e (eval (.Name x pos) X.env) (.raw v) e :=
  Ev.pure' fun ok s P c => by
    obtain ⟨p, loose, mg, mb, T⟩ := c.stat.top
    exact Name_function_global ok.fn hx (loadGlobal_builtin (by rw [ok.glob]; exact T.g) (mg_none_of c.stat.K T.g hn) (by rw [ok.blt]; exact T.b) ((T.builtins x hne).trans hv) ⟨KeepsL.refl s, rep_raw⟩) hd

/-! operators -/
def Bin (X : Fx tab) (op : Operator) (p q out : PV) : Prop := X.Ok → ∀ s P, Cx X s P → ∀ v u, Rep s.heap P p v → Rep s.heap P q u → Pu X s P (binaryOp op v u) out
def Cmp (X : Fx tab) (op : CmpOp) (p q : PV) (b : Bool) : Prop := X.Ok → ∀ s P, Cx X s P → ∀ v u, Rep s.heap P p v → Rep s.heap P q u → Pu X s P (compareOp op v u) (.bool b)
def Una (X : Fx tab) (op : UnaryOp) (p out : PV) : Prop := X.Ok → ∀ s P, Cx X s P → ∀ v, Rep s.heap P p v → Pu X s P (unaryOp op v) out

theorem Ev.binop {l r : Expr} {op : Operator} {pos : Pos} (h1 : Ev X e (eval l X.env) p e₁) (h2 : Ev X e₁ (eval r X.env) q e₂) (hop : Bin X op p q out) : Ev X e (eval (.BinOp l op r pos) X.env) out e₂ := fun ok ρ s R =>
  wpAny_BinOp (wpAny_mono (h1 ok ρ s R) (fun v s1 ⟨R1, t1, rp⟩ => wpAny_mono (h2 ok ρ s1 R1) (fun u s2 ⟨R2, t2, rq⟩ => wpAny_mono (hop ok s2 _ (R2.cx ok) v u (Rep.tr t2 _ _ rp) rq) (fun x s3 ⟨k, rx⟩ =>
    let ⟨R3, t3⟩ := R2.keepsL ok k; ⟨R3, (t1.trans t2).trans t3, rx⟩) fun _ _ h => h) fun _ _ h => h) fun _ _ h => h)
theorem Ev.unop {x : Expr} {op : UnaryOp} {pos : Pos} (h1 : Ev X e (eval x X.env) p e₁) (hop : Una X op p out) : Ev X e (eval (.UnaryOp op x pos) X.env) out e₁ := fun ok ρ s R =>
  wpAny_UnaryOp (wpAny_mono (h1 ok ρ s R) (fun v s1 ⟨R1, t1, rp⟩ => wpAny_mono (hop ok s1 _ (R1.cx ok) v rp) (fun x s3 ⟨k, rx⟩ =>
    let ⟨R3, t3⟩ := R1.keepsL ok k; ⟨R3, t1.trans t3, rx⟩) fun _ _ h => h) fun _ _ h => h)
theorem Ev.cmp {l r : Expr} {op : CmpOp} {pos : Pos} {b : Bool} (h1 : Ev X e (eval l X.env) p e₁) (h2 : Ev X e₁ (eval r X.env) q e₂) (hop : Cmp X op p q b) (hm : behindInMarks op r = false) : Ev X e (eval (.Compare l [op] [r] pos) X.env) (.bool b) e₂ := fun ok ρ s R =>
  wpAny_Compare1 (wpAny_mono (h1 ok ρ s R) (fun v s1 ⟨R1, t1, rp⟩ => wpAny_mono (h2 ok ρ s1 R1) (fun u s2 ⟨R2, t2, rq⟩ => wpAny_mono (hop ok s2 _ (R2.cx ok) v u (Rep.tr t2 _ _ rp) rq) (fun x s3 ⟨k, rx⟩ =>
    let ⟨R3, t3⟩ := R2.keepsL ok k; ⟨R3, (t1.trans t2).trans t3, rx⟩) fun _ _ h => h) fun _ _ h => h) fun _ _ h => h) hm

/-! tests -/
def Tru (p : PV) (b : Bool) : Prop := match p with
  | .bool c => c = b
  | _ => False
theorem Ts.cmp {l r : Expr} {op : CmpOp} {pos : Pos} {b : Bool} {whole} (h1 : Ev X e (eval l X.env) p e₁) (h2 : Ev X e₁ (eval r X.env) q e₂) (hop : Cmp X op p q b) (hm : behindInMarks op r = false) : Ts X e (isTrue (.Compare l [op] [r] pos) X.env whole) b e₂ := fun ok ρ s R =>
  wpAny_isTrue_Compare1 (wpAny_mono (h1 ok ρ s R) (fun v s1 ⟨R1, t1, rp⟩ => wpAny_mono (h2 ok ρ s1 R1) (fun u s2 ⟨R2, t2, rq⟩ => wpAny_mono (hop ok s2 _ (R2.cx ok) v u (Rep.tr t2 _ _ rp) rq) (fun x s3 ⟨k, rx⟩ => by
    obtain ⟨R3, t3⟩ := R2.keepsL ok k
    unfold Rep at rx; subst rx
    exact wpAny_truthy_bool ⟨R3, (t1.trans t2).trans t3, rfl⟩) fun _ _ h => h) fun _ _ h => h) fun _ _ h => h) hm
/-- an expression that gives a bool, tested -/
theorem Ts.bool {ex : Expr} {b : Bool} (h : Ev X e (eval ex X.env) (.bool b) e₁) (he : isTrue ex X.env (eval ex X.env) = (do let v ← eval ex X.env; standAt ex.pos; holding [v] (truthy v))) : Ts X e (isTrue ex X.env (eval ex X.env)) b e₁ := fun ok ρ s R =>
  isTrue_plain (wpAny_mono (h ok ρ s R) (fun v s1 ⟨R1, t1, rp⟩ => by unfold Rep at rp; subst rp; exact wpAny_truthy_bool ⟨R1, t1, rfl⟩) fun _ _ h => h) he
theorem Ts.not {x : Expr} {b : Bool} {pos : Pos} {whole} (h : Ts X e (isTrue x X.env (eval x X.env)) b e₁) : Ts X e (isTrue (.UnaryOp .Not x pos) X.env whole) (!b) e₁ := fun ok ρ s R =>
  isTrue_not (wpAny_mono (h ok ρ s R) (fun _ _ ⟨a, b, c⟩ => ⟨a, b, by rw [c]⟩) fun _ _ h => h)
theorem Ts.orNil {pos : Pos} {whole} : Ts X e (isTrue (.BoolOp .Or [] pos) X.env whole) false e := fun _ _ _ R => isTrue_or_nil ⟨R, Tr.refl, rfl⟩
theorem Ts.andNil {pos : Pos} {whole} : Ts X e (isTrue (.BoolOp .And [] pos) X.env whole) true e := fun _ _ _ R => isTrue_and_nil ⟨R, Tr.refl, rfl⟩
theorem Ts.or {x : Expr} {rest : List Expr} {pos : Pos} {whole} {b c : Bool} (h1 : Ts X e (isTrue x X.env (eval x X.env)) b e₁) (h2 : b = false → Ts X e₁ (isTrue (.BoolOp .Or rest pos) X.env whole) c e₂) (he : b = true → e₂ = e₁) :
    Ts X e (isTrue (.BoolOp .Or (x :: rest) pos) X.env whole) (b || c) e₂ := fun ok ρ s R => by
  refine isTrue_or (wpAny_mono (h1 ok ρ s R) (fun v s1 ⟨R1, t1, hv⟩ => ?_) fun _ _ h => h)
  subst hv
  cases v with
  | true => simp only [if_true]; rw [he rfl]; exact ⟨R1, t1, rfl⟩
  | false => simp only [Bool.false_eq_true, if_false]; exact wpAny_mono (h2 rfl ok ρ s1 R1) (fun u s2 ⟨R2, t2, hu⟩ => ⟨R2, t1.trans t2, by simp [hu]⟩) fun _ _ h => h
theorem Ts.and {x : Expr} {rest : List Expr} {pos : Pos} {whole} {b c : Bool} (h1 : Ts X e (isTrue x X.env (eval x X.env)) b e₁) (h2 : b = true → Ts X e₁ (isTrue (.BoolOp .And rest pos) X.env whole) c e₂) (he : b = false → e₂ = e₁) :
    Ts X e (isTrue (.BoolOp .And (x :: rest) pos) X.env whole) (b && c) e₂ := fun ok ρ s R => by
  refine isTrue_and (wpAny_mono (h1 ok ρ s R) (fun v s1 ⟨R1, t1, hv⟩ => ?_) fun _ _ h => h)
  subst hv
  cases v with
  | false => simp only [Bool.false_eq_true, if_false]; rw [he rfl]; exact ⟨R1, t1, rfl⟩
  | true => simp only [if_true]; exact wpAny_mono (h2 rfl ok ρ s1 R1) (fun u s2 ⟨R2, t2, hu⟩ => ⟨R2, t1.trans t2, by simp [hu]⟩) fun _ _ h => h
/-- the and of bools as a value -/
theorem Ev.andOne {x : Expr} {pos : Pos} (h : Ev X e (eval x X.env) p e₁) : Ev X e (eval (.BoolOp .And [x] pos) X.env) p e₁ := fun ok ρ s R => BoolOp_one (h ok ρ s R)
theorem Ev.and {x y : Expr} {rest : List Expr} {pos : Pos} {b c : Bool} (h1 : Ev X e (eval x X.env) (.bool b) e₁) (h2 : b = true → Ev X e₁ (eval (.BoolOp .And (y :: rest) pos) X.env) (.bool c) e₂) (he : b = false → e₂ = e₁) :
    Ev X e (eval (.BoolOp .And (x :: y :: rest) pos) X.env) (.bool (b && c)) e₂ := fun ok ρ s R => by
  refine BoolOp_and (wpAny_mono (h1 ok ρ s R) (fun v s1 ⟨R1, t1, hv⟩ => ?_) fun _ _ h => h)
  unfold Rep at hv; subst hv
  refine wpAny_truthy_bool ?_
  cases b with
  | false => simp only [Bool.false_eq_true, if_false]; rw [he rfl]; exact ⟨R1, t1, rep_bool⟩
  | true => simp only [if_true, Bool.true_and]; exact wpAny_mono (h2 rfl ok ρ s1 R1) (fun u s2 ⟨R2, t2, hu⟩ => ⟨R2, t1.trans t2, hu⟩) fun _ _ h => h
theorem Ev.ifexp {test body orelse : Expr} {pos : Pos} {b : Bool} (h : Ts X e (isTrue test X.env (eval test X.env)) b e₁) (h1 : b = true → Ev X e₁ (eval body X.env) p e₂) (h2 : b = false → Ev X e₁ (eval orelse X.env) p e₂) :
    Ev X e (eval (.IfExp test body orelse pos) X.env) p e₂ := fun ok ρ s R => by
  refine wpAny_IfExp (wpAny_mono (h ok ρ s R) (fun v s1 ⟨R1, t1, hv⟩ => ?_) fun _ _ h => h)
  subst hv
  cases v with
  | true => simp only [if_true]; exact wpAny_mono (h1 rfl ok ρ s1 R1) (fun u s2 ⟨R2, t2, hu⟩ => ⟨R2, t1.trans t2, hu⟩) fun _ _ h => h
  | false => simp only [Bool.false_eq_true, if_false]; exact wpAny_mono (h2 rfl ok ρ s1 R1) (fun u s2 ⟨R2, t2, hu⟩ => ⟨R2, t1.trans t2, hu⟩) fun _ _ h => h

/-! lists of arguments -/
theorem EvL.nil : EvL X e (spliced []) [] e := fun _ _ _ R => spliced_nil ⟨R, Tr.refl, RepL.nil⟩
theorem EvL.cons {x : Sem Value} {rest : List (Bool × Sem Value)} {ps : List PV} (h1 : Ev X e x p e₁) (h2 : EvL X e₁ (spliced rest) ps e₂) : EvL X e (spliced ((false, x) :: rest)) (p :: ps) e₂ := fun ok ρ s R =>
  spliced_cons (wpAny_mono (h1 ok ρ s R) (fun v s1 ⟨R1, t1, rp⟩ => wpAny_mono (h2 ok ρ s1 R1) (fun vs s2 ⟨R2, t2, rq⟩ => ⟨R2, t1.trans t2, .cons (Rep.tr t2 _ _ rp) rq⟩) fun _ _ h => h) fun _ _ h => h)
end
end Mine
end

section
open PySem PySem.W PyProof.Rows PySem.Calls
set_option Elab.async false
set_option linter.unusedVariables false
set_option maxRecDepth 100000
namespace Mine

section
variable {tab : List (Nat × NameKind)} {X : Fx tab} {e e₁ e₂ e₃ : PEnv} {p q out : PV}

theorem rep_int_inv {h P i v} (x : Rep h P (.int i) v) : ∃ t, v = .int i t := by unfold Rep at x; exact x
theorem rep_str_inv {h P i v} (x : Rep h P (.str i) v) : ∃ t, v = .str i t := by unfold Rep at x; exact x
theorem rep_bool_inv {h P b v} (x : Rep h P (.bool b) v) : v = .bool b := by unfold Rep at x; exact x
theorem rep_raw_inv {h P b v} (x : Rep h P (.raw b) v) : v = b := by unfold Rep at x; exact x
theorem rep_list_inv {h P ps v} (x : Rep h P (.list ps) v) : ∃ a vs n, v = .ref a ∧ ¬ P a ∧ h.get? a = some (LObj vs n) ∧ RepL h P ps vs := by unfold Rep at x; exact x
theorem rep_tuple_inv {h P ps v} (x : Rep h P (.tuple ps) v) : ∃ a vs n, v = .ref a ∧ ¬ P a ∧ h.get? a = some (TObj vs n) ∧ RepL h P ps vs := by unfold Rep at x; exact x

theorem Bin.addInt {a b : Int} : Bin X .Add (.int a) (.int b) (.int (a + b)) := fun ok s P c v u hv hu => by
  obtain ⟨t, rfl⟩ := rep_int_inv hv; obtain ⟨t', rfl⟩ := rep_int_inv hu
  exact PyProof.Rows.add_int ⟨(Kp.tok s _).toL, rep_int⟩
theorem Bin.subInt {a b : Int} : Bin X .Sub (.int a) (.int b) (.int (a - b)) := fun ok s P c v u hv hu => by
  obtain ⟨t, rfl⟩ := rep_int_inv hv; obtain ⟨t', rfl⟩ := rep_int_inv hu
  exact PyProof.Rows.sub_int ⟨(Kp.tok s _).toL, rep_int⟩
theorem Bin.mulInt {a b : Int} (h1 : -(2 ^ 64) < a) (h2 : a < 2 ^ 64) : Bin X .Mult (.int a) (.int b) (.int (a * b)) := fun ok s P c v u hv hu => by
  obtain ⟨t, rfl⟩ := rep_int_inv hv; obtain ⟨t', rfl⟩ := rep_int_inv hu
  exact PyProof.Rows.mul_int ⟨(Kp.tok s _).toL, rep_int⟩ (.of_left (intBits_le_64 h1 h2))
theorem pylong_small {a b : Int} (h1 : 0 < b) (h2 : b < 2 ^ 64) : Builtin.divisionGoesByPylong a b = false := by
  unfold Builtin.divisionGoesByPylong
  have hl : b.natAbs.log2 < 64 := (Nat.log2_lt (by omega)).mpr (by omega)
  have h0 : ¬ (if (b == 0) = true then 0 else b.natAbs.log2 / 30 + 1) > 300 := by split <;> omega
  simp only [h0, decide_false, Bool.false_and]
theorem Bin.divInt {a b : Int} (hb : 0 < b) (hb2 : b < 2 ^ 64) : Bin X .FloorDiv (.int a) (.int b) (.int (a / b)) := fun ok s P c v u hv hu => by
  obtain ⟨t, rfl⟩ := rep_int_inv hv; obtain ⟨t', rfl⟩ := rep_int_inv hu
  refine PyProof.Rows.floordiv_int (by omega) ⟨(Kp.tok s _).toL, ?_⟩ (.inl (pylong_small hb hb2))
  rw [Int.fdiv_eq_ediv_of_nonneg _ (Int.le_of_lt hb)]; exact rep_int
theorem Bin.modInt {a b : Int} (hb : 0 < b) : Bin X .Mod (.int a) (.int b) (.int (a % b)) := fun ok s P c v u hv hu => by
  obtain ⟨t, rfl⟩ := rep_int_inv hv; obtain ⟨t', rfl⟩ := rep_int_inv hu
  refine PyProof.Rows.mod_int (by omega) ⟨(Kp.tok s _).toL, ?_⟩
  rw [Int.fmod_eq_emod_of_nonneg _ (Int.le_of_lt hb)]; exact rep_int
theorem Bin.powInt {a n : Int} (hn : 0 ≤ n) (hsz : (Builtin.Int.intBits a : Int) * n ≤ 2 ^ 27) : Bin X .Pow (.int a) (.int n) (.int (a ^ n.toNat)) := fun ok s P c v u hv hu => by
  obtain ⟨t, rfl⟩ := rep_int_inv hv; obtain ⟨t', rfl⟩ := rep_int_inv hu
  exact PyProof.Rows.pow_int hn hsz ⟨(Kp.tok s _).toL, rep_int⟩
theorem Bin.addStr {x y : Str} (hsz : x.length + y.length ≤ sizeLine) : Bin X .Add (.str x) (.str y) (.str (x ++ y)) := fun ok s P c v u hv hu => by
  obtain ⟨t, rfl⟩ := rep_str_inv hv; obtain ⟨t', rfl⟩ := rep_str_inv hu
  exact tokd (PyProof.Rows.add_str (fun t' tk ht => ⟨(Kp.tok s _ ht).toL, rep_str⟩) hsz)
theorem Bin.mulStr {x : Str} {n : Int} (hok : PySem.MulOk x n) : Bin X .Mult (.str x) (.int n) (.str (PySem.Txt.mul x n)) := fun ok s P c v u hv hu => by
  obtain ⟨t, rfl⟩ := rep_str_inv hv; obtain ⟨t', rfl⟩ := rep_int_inv hu
  exact tokd (PySem.SB.mul hok (fun t' tk ht => ⟨(Kp.tok s _ ht).toL, rep_str⟩))

theorem addListKp {w : World} {A : Around} {s : Shared} {a b : Addr} {vs ws : List Value} {n n' : Nat} (ha : s.heap.get? a = some (LObj vs n)) (hb : s.heap.get? b = some (LObj ws n')) (hsz : vs.length + ws.length ≤ sizeLine) :
    wpAny (model prg w) A (binaryOp .Add (.ref a) (.ref b)) (fun v s' => v = .ref s.heap.objs.size ∧ s' = { s with heap := s.heap.push (LObj (vs ++ ws) 0) }) No s := by
  have e : vs.toArray ++ ws.toArray = (vs ++ ws).toArray := by simp
  refine concat_meets ⟨_, ha, rfl⟩ ⟨_, hb, rfl⟩ noFill_list_add seq_list_add PySem.F.slot_list_add PySem.F.entry_list_add (PySem.F.args_list_add_2 _ _) (list_addW a b vs.toArray ws.toArray n n' none none #[] #[] (by simpa using hsz)) ⟨ha, hb, ?_⟩
  rw [e]
  exact ⟨rfl, rfl⟩
theorem Bin.addList {ps qs : List PV} (hsz : ps.length + qs.length ≤ sizeLine) : Bin X .Add (.list ps) (.list qs) (.list (ps ++ qs)) := fun ok s P c v u hv hu => by
  obtain ⟨a, vs, n, rfl, hpa, ha, ra⟩ := rep_list_inv hv
  obtain ⟨b, ws, n', rfl, hpb, hb, rb⟩ := rep_list_inv hu
  refine wpAny_mono (addListKp ha hb (by rw [ra.length, rb.length]; exact hsz)) (fun x s' h => ?_) fun _ _ h => h
  obtain ⟨rfl, rfl⟩ := h
  have k := Kp.push s (LObj (vs ++ ws) 0) s.toks
  exact ⟨k.toL, rep_list (c.new fresh_size) (Heap.get?_push_size _ rfl) ((RepL.tr (k.tr P) _ _ ra).append (RepL.tr (k.tr P) _ _ rb))⟩

/-! comparisons -/
theorem Cmp.eqInt {a b : Int} : Cmp X .Eq (.int a) (.int b) (a == b) := fun ok s P c v u hv hu => by
  obtain ⟨t, rfl⟩ := rep_int_inv hv; obtain ⟨t', rfl⟩ := rep_int_inv hu
  exact PyProof.Rows.eq_int ⟨KeepsL.refl s, rep_bool⟩
theorem Cmp.neInt {a b : Int} : Cmp X .NotEq (.int a) (.int b) (a != b) := fun ok s P c v u hv hu => by
  obtain ⟨t, rfl⟩ := rep_int_inv hv; obtain ⟨t', rfl⟩ := rep_int_inv hu
  exact PyProof.Rows.ne_int ⟨KeepsL.refl s, rep_bool⟩
theorem Cmp.ltInt {a b : Int} : Cmp X .Lt (.int a) (.int b) (decide (a < b)) := fun ok s P c v u hv hu => by
  obtain ⟨t, rfl⟩ := rep_int_inv hv; obtain ⟨t', rfl⟩ := rep_int_inv hu
  exact PyProof.Rows.lt_int ⟨KeepsL.refl s, rep_bool⟩
theorem Cmp.leInt {a b : Int} : Cmp X .LtE (.int a) (.int b) (decide (a ≤ b)) := fun ok s P c v u hv hu => by
  obtain ⟨t, rfl⟩ := rep_int_inv hv; obtain ⟨t', rfl⟩ := rep_int_inv hu
  exact PyProof.Rows.le_int ⟨KeepsL.refl s, rep_bool⟩
theorem Cmp.gtInt {a b : Int} : Cmp X .Gt (.int a) (.int b) (decide (b < a)) := fun ok s P c v u hv hu => by
  obtain ⟨t, rfl⟩ := rep_int_inv hv; obtain ⟨t', rfl⟩ := rep_int_inv hu
  exact PyProof.Rows.gt_int ⟨KeepsL.refl s, rep_bool⟩
theorem Cmp.geInt {a b : Int} : Cmp X .GtE (.int a) (.int b) (decide (b ≤ a)) := fun ok s P c v u hv hu => by
  obtain ⟨t, rfl⟩ := rep_int_inv hv; obtain ⟨t', rfl⟩ := rep_int_inv hu
  exact PyProof.Rows.ge_int ⟨KeepsL.refl s, rep_bool⟩
theorem Cmp.eqStr {a b : Str} : Cmp X .Eq (.str a) (.str b) (a == b) := fun ok s P c v u hv hu => by
  obtain ⟨t, rfl⟩ := rep_str_inv hv; obtain ⟨t', rfl⟩ := rep_str_inv hu
  exact PyProof.Rows.eq_str ⟨KeepsL.refl s, rep_bool⟩
theorem Cmp.neStr {a b : Str} : Cmp X .NotEq (.str a) (.str b) (a != b) := fun ok s P c v u hv hu => by
  obtain ⟨t, rfl⟩ := rep_str_inv hv; obtain ⟨t', rfl⟩ := rep_str_inv hu
  exact PyProof.Rows.ne_str ⟨KeepsL.refl s, rep_bool⟩
theorem Cmp.isBool {a b : Bool} : Cmp X .Is (.bool a) (.bool b) (a == b) := fun ok s P c v u hv hu => by
  rw [rep_bool_inv hv, rep_bool_inv hu]
  exact PyProof.Rows.is_bool ⟨KeepsL.refl s, rep_bool⟩

/-! values that are data -/
mutual
def PV.pd : PV → PyData
  | .none => .none
  | .bool b => .bool b
  | .int i => .int i
  | .str s => .str s
  | .list xs => .list (pdL xs)
  | .tuple xs => .tuple (pdL xs)
  | .inst _ _ _ => .none
  | .raw _ => .none
  | .rng _ _ => .none
def pdL : List PV → List PyData
  | [] => []
  | x :: r => x.pd :: pdL r
end
mutual
def PV.isPd : PV → Bool
  | .none => true
  | .bool b => true
  | .int i => true
  | .str s => PySem.PyData.strOk s
  | .list xs => isPdL xs
  | .tuple xs => isPdL xs
  | .inst _ _ _ => false
  | .raw _ => false
  | .rng _ _ => false
def isPdL : List PV → Bool
  | [] => true
  | x :: r => x.isPd && isPdL r
end
mutual
theorem Rep.reads {h P} : ∀ (p : PV) (v : Value), p.isPd = true → Rep h P p v → ∃ as, Reads h v p.pd as
  | .none, v, _, x => by unfold Rep at x; subst x; exact ⟨[], .none⟩
  | .bool b, v, _, x => by unfold Rep at x; subst x; exact ⟨[], .bool b⟩
  | .int i, v, _, x => by unfold Rep at x; obtain ⟨t, rfl⟩ := x; exact ⟨[], .int i t⟩
  | .str i, v, _, x => by unfold Rep at x; obtain ⟨t, rfl⟩ := x; exact ⟨[], .str i t⟩
  | .list xs, v, hp, x => by
    unfold Rep at x
    obtain ⟨a, vs, n, rfl, _, hg, r⟩ := x
    unfold PV.isPd at hp
    obtain ⟨as, k⟩ := RepL.reads xs vs hp r
    exact ⟨a :: as, by unfold PV.pd; exact .list hg rfl rfl k⟩
  | .tuple xs, v, hp, x => by
    unfold Rep at x
    obtain ⟨a, vs, n, rfl, _, hg, r⟩ := x
    unfold PV.isPd at hp
    obtain ⟨as, k⟩ := RepL.reads xs vs hp r
    exact ⟨as, by unfold PV.pd; exact .tuple hg rfl rfl k⟩
  | .inst _ _ _, v, hp, x => by unfold PV.isPd at hp; cases hp
  | .raw _, v, hp, x => by unfold PV.isPd at hp; cases hp
  | .rng _ _, v, hp, x => by unfold PV.isPd at hp; cases hp
theorem RepL.reads {h P} : ∀ (ps : List PV) (vs : List Value), isPdL ps = true → RepL h P ps vs → ∃ as, ReadsAll h vs (pdL ps) as
  | [], vs, _, x => by rw [x.inv0]; exact ⟨[], .nil⟩
  | p :: ps, vs, hp, x => by
    obtain ⟨v, r, rfl, h1, h2⟩ := x.inv
    unfold isPdL at hp
    rw [Bool.and_eq_true] at hp
    obtain ⟨as, k1⟩ := Rep.reads p v hp.1 h1
    obtain ⟨bs, k2⟩ := RepL.reads ps r hp.2 h2
    exact ⟨as ++ bs, by unfold pdL; exact .cons k1 k2⟩
end
mutual
theorem PV.canLay : ∀ (p : PV), p.isPd = true → p.pd.canLay0 = true
  | .none, _ => rfl
  | .bool b, _ => rfl
  | .int i, _ => rfl
  | .str i, h => by unfold PV.isPd at h; unfold PV.pd PyData.canLay0; exact h
  | .list xs, h => by unfold PV.isPd at h; unfold PV.pd PyData.canLay0; exact canLayL xs h
  | .tuple xs, h => by unfold PV.isPd at h; unfold PV.pd PyData.canLay0; exact canLayL xs h
  | .inst _ _ _, h => by unfold PV.isPd at h; cases h
  | .raw _, h => by unfold PV.isPd at h; cases h
  | .rng _ _, h => by unfold PV.isPd at h; cases h
theorem canLayL : ∀ (ps : List PV), isPdL ps = true → PyData.canLayAll0 (pdL ps) = true
  | [], _ => rfl
  | p :: ps, h => by
    unfold isPdL at h
    rw [Bool.and_eq_true] at h
    unfold pdL PyData.canLayAll0
    rw [PV.canLay p h.1, canLayL ps h.2]; rfl
end

/-- equality of data -/
def eqP (p q : PV) : Bool := PyData.eqv p.pd q.pd
theorem Cmp.eqPd (hp : p.isPd = true) (hq : q.isPd = true) (hd : min p.pd.depth q.pd.depth ≤ 100) : Cmp X .Eq p q (eqP p q) := fun ok s P c v u hv hu => by
  obtain ⟨as, r1⟩ := Rep.reads p v hp hv
  obtain ⟨bs, r2⟩ := Rep.reads q u hq hu
  have := ok.room.units
  exact PySem.SeqAt.compareEq_reads r1 r2 (PV.canLay p hp) (PV.canLay q hq) (by show _ < 9900; omega) ⟨KeepsL.refl s, rep_bool⟩
theorem Cmp.nePd (hp : p.isPd = true) (hq : q.isPd = true) (hd : min p.pd.depth q.pd.depth ≤ 100) : Cmp X .NotEq p q (!eqP p q) := fun ok s P c v u hv hu => by
  obtain ⟨as, r1⟩ := Rep.reads p v hp hv
  obtain ⟨bs, r2⟩ := Rep.reads q u hq hu
  have := ok.room.units
  exact PySem.SeqAt.compareNe_reads r1 r2 (PV.canLay p hp) (PV.canLay q hq) (by show _ < 9900; omega) ⟨KeepsL.refl s, rep_bool⟩
theorem Cmp.inPd {xs : List PV} (hp : p.isPd = true) (hq : isPdL xs = true) (hd : p.pd.depth ≤ 100) : Cmp X .In p (.list xs) (xs.any fun y => eqP y p) := fun ok s P c v u hv hu => by
  obtain ⟨as, r1⟩ := Rep.reads p v hp hv
  obtain ⟨bs, r2⟩ := Rep.reads (.list xs) u (by unfold PV.isPd; exact hq) hu
  have := ok.room.units
  have e : ∀ ys : List PV, (pdL ys).any (fun y => PyData.eqv y p.pd) = ys.any fun y => eqP y p := fun ys => by
    induction ys with
    | nil => rfl
    | cons a r ih => unfold pdL; rw [List.any_cons, List.any_cons, ih]; rfl
  refine PySem.SeqAt.in_list_reads (by unfold PV.pd at r2; exact r2) r1 (canLayL xs hq) (PV.canLay p hp) (by show _ < 9900; omega) ⟨KeepsL.refl s, ?_⟩
  rw [e]; exact rep_bool

theorem Una.negInt {a : Int} : Una X .USub (.int a) (.int (-a)) := fun ok s P c v hv => by
  obtain ⟨t, rfl⟩ := rep_int_inv hv
  exact PyProof.Rows.neg_int ⟨(Kp.tok s _).toL, rep_int⟩

/-! displays -/
theorem Ev.tuple {elts : List Expr} {k pos} {ps : List PV} (h : EvL X e (spliced (backTo pos (starEach elts X.env))) ps e₁) (hsz : ps.length ≤ sizeLine) : Ev X e (eval (.Tuple elts k pos) X.env) (.tuple ps) e₁ := fun ok ρ s R =>
  Tuple_ (wpAny_mono (h ok ρ s R) (fun vs s1 ⟨R1, t1, r⟩ => wpAny_newTuple (by
    have k := Kp.push s1 (TObj vs 0) s1.toks
    obtain ⟨R2, t2⟩ := R1.keepsL ok k.toL
    exact ⟨R2, t1.trans t2, rep_tuple ((R1.cx ok).new fresh_size) (Heap.get?_push_size _ rfl) (RepL.tr t2 _ _ r)⟩) (by rw [r.length]; exact hsz)) fun _ _ h => h)
theorem Ev.list {elts : List Expr} {pos} {ps : List PV} (h : EvL X e (spliced (backTo pos (starEach elts X.env))) ps e₁) (hsz : ps.length ≤ sizeLine) : Ev X e (eval (.List elts pos) X.env) (.list ps) e₁ := fun ok ρ s R =>
  List_ (wpAny_mono (h ok ρ s R) (fun vs s1 ⟨R1, t1, r⟩ => wpAny_newList (by
    have k := Kp.push s1 (LObj vs 0) s1.toks
    obtain ⟨R2, t2⟩ := R1.keepsL ok k.toL
    exact ⟨R2, t1.trans t2, rep_list ((R1.cx ok).new fresh_size) (Heap.get?_push_size _ rfl) (RepL.tr t2 _ _ r)⟩) (by rw [r.length]; exact hsz)) fun _ _ h => h)
end
end Mine
end

section
open PySem PySem.W PyProof.Rows PySem.Calls
set_option Elab.async false
set_option linter.unusedVariables false
set_option maxRecDepth 100000
namespace Mine

section
variable {tab : List (Nat × NameKind)} {X : Fx tab} {e e₁ e₂ e₃ : PEnv} {p q out : PV}

theorem subTail {prog : Program} {w : World} {A : Around} {E : Value → Shared → Prop} {s : Shared} {value slice : Expr} {o i : Value} {T id : String} {Q : Value → Shared → Prop} (hT : s.TypeIs o T)
    (hl : typeLookup (.type T) "__getitem__" = pure (some (.builtin id))) (h : wpAny (model prog w) A (getItem o i) Q E s)
    (hs : subscripted slice false o i = operate [o, i] (getItem o i)) : wpAny (model prog w) A (subscriptTail value slice o i) Q E s := by
  unfold subscriptTail
  refine wpAny_bind ?_
  rw [getitemInPython_of_ne hT.not_modules]
  refine wpAny_bind (wpAny_specialOf hT hl ?_)
  have fin : wpAny (model prog w) A (subscripted slice false o i) (fun r s₃ => wpAny (model prog w) A (letTemporaryGo value o r >>= fun _ => pure r) Q E s₃) E s := by
    rw [hs]
    exact wpAny_operating (wpAny_mono h (fun r s₃ h₃ => wpAny_bind (wpAny_letTemporaryGo (wpAny_pure h₃))) fun _ _ x => x)
  first
    | exact wpAny_pure (wpAny_bind fin)
    | exact wpAny_bind (wpAny_pure (wpAny_bind fin))
    | exact wpAny_bind fin

/-- an item of a value -/
def Item (X : Fx tab) (p q out : PV) : Prop := X.Ok → ∀ s P, Cx X s P → ∀ v u, Rep s.heap P p v → Rep s.heap P q u →
  (∃ T id, s.TypeIs v T ∧ typeLookup (.type T) "__getitem__" = pure (some (.builtin id))) ∧ Pu X s P (getItem v u) out
theorem Ev.sub {value slice : Expr} {pos : Pos} (h1 : Ev X e (eval value X.env) p e₁) (h2 : Ev X e₁ (eval slice X.env) q e₂) (hop : Item X p q out) (hs : ∀ o i, subscripted slice false o i = operate [o, i] (getItem o i)) :
    Ev X e (eval (.Subscript value slice pos) X.env) out e₂ := fun ok ρ s R =>
  Subscript_ (wpAny_mono (h1 ok ρ s R) (fun v s1 ⟨R1, t1, rp⟩ => wpAny_mono (h2 ok ρ s1 R1) (fun u s2 ⟨R2, t2, rq⟩ => by
    obtain ⟨⟨T, id, hT, hl⟩, hg⟩ := hop ok s2 _ (R2.cx ok) v u (Rep.tr t2 _ _ rp) rq
    refine subTail hT hl (wpAny_mono hg (fun x s3 h3 => ?_) fun _ _ h => h) (hs _ _)
    obtain ⟨k, rx⟩ := h3
    obtain ⟨R3, t3⟩ := R2.keepsL ok k
    exact ⟨R3, (t1.trans t2).trans t3, rx⟩) fun _ _ h => h) fun _ _ h => h)

theorem seqIndex_get {i : Int} {n j : Nat} (h : seqIndex? i n = some j) : j < n ∧ ((0 ≤ i ∧ i.toNat = j) ∨ (i < 0 ∧ -(n : Int) ≤ i ∧ (i + n).toNat = j)) := by
  unfold seqIndex? at h
  split at h
  · rename_i hi
    simp only at h
    split at h
    · rename_i hb
      simp only [Bool.and_eq_true, decide_eq_true_eq] at hb
      have := Option.some.inj h
      omega
    · cases h
  · rename_i hi
    simp only at h
    split at h
    · rename_i hb
      simp only [Bool.and_eq_true, decide_eq_true_eq] at hb
      have := Option.some.inj h
      omega
    · cases h

theorem getList {s : Shared} {A : Around} {w : World} {a : Addr} {vs : List Value} {n : Nat} {i : Int} {t : Tok} {j : Nat} {x : Value} (hg : s.heap.get? a = some (LObj vs n)) (hj : seqIndex? i vs.length = some j) (hb : -(2 ^ 63) ≤ i ∧ i < 2 ^ 63) (hx : vs[j]? = some x)
    {Q : Value → Shared → Prop} (h : Q x s) : wpAny (model prg w) A (getItem (.ref a) (.int i t)) Q No s := by
  obtain ⟨hjn, hc⟩ := seqIndex_get hj
  have hl : s.heap.IsList a vs.toArray := ⟨_, hg, rfl, n, rfl⟩
  rcases hc with ⟨h0, rfl⟩ | ⟨h0, h1, rfl⟩
  · exact wpAny_getItem_list hl h0 hb.2 (by simpa using hx) h
  · exact wpAny_getItem_list_neg hl h0 (by simpa using h1) hb.1 (by simpa using hx) h
theorem list_lookup : typeLookup (.type "list") "__getitem__" = pure (some (.builtin "list.__getitem__")) := slot_list_getitem.lookup

theorem Item.list {ps : List PV} {i : Int} {j : Nat} (hj : seqIndex? i ps.length = some j) (hx : ps[j]? = some out) (hb : -(2 ^ 63) ≤ i ∧ i < 2 ^ 63) : Item X (.list ps) (.int i) out := fun ok s P c v u hv hu => by
  obtain ⟨a, vs, n, rfl, hpa, ha, ra⟩ := rep_list_inv hv; obtain ⟨t, rfl⟩ := rep_int_inv hu
  refine ⟨⟨"list", _, ⟨_, ha, rfl⟩, list_lookup⟩, ?_⟩
  obtain ⟨x, hx', hr⟩ := ra.get hx
  exact getList ha (by rw [ra.length]; exact hj) hb hx' ⟨KeepsL.refl s, hr⟩
theorem Item.tuple {ps : List PV} {i : Int} {j : Nat} (hj : seqIndex? i ps.length = some j) (hx : ps[j]? = some out) (hb : -(2 ^ 63) ≤ i ∧ i < 2 ^ 63) : Item X (.tuple ps) (.int i) out := fun ok s P c v u hv hu => by
  obtain ⟨a, vs, n, rfl, hpa, ha, ra⟩ := rep_tuple_inv hv; obtain ⟨t, rfl⟩ := rep_int_inv hu
  have hT : IsTup s.heap a vs.toArray := ⟨_, ha, rfl, n, rfl⟩
  refine ⟨⟨"tuple", _, hT.typeIs, slot_tuple_getitem.lookup⟩, ?_⟩
  obtain ⟨x, hx', hr⟩ := ra.get hx
  exact PyProof.Rows.getItem_tuple hT hb.1 hb.2 (by simpa [ra.length] using hj) (by simpa using hx') ⟨KeepsL.refl s, hr⟩
theorem Item.str {x : Str} {i : Int} {c : Nat} (hc : (seqIndex? i x.length).bind (x.cps[·]?) = some c) (hb : -(2 ^ 63) ≤ i ∧ i < 2 ^ 63) : Item X (.str x) (.int i) (.str ⟨#[c]⟩) := fun ok s P cx v u hv hu => by
  obtain ⟨t, rfl⟩ := rep_str_inv hv; obtain ⟨t', rfl⟩ := rep_int_inv hu
  refine ⟨⟨"str", _, typeIs_str _ _ _, F.slot_str_getitem.lookup⟩, ?_⟩
  have hr : (decide (i < -(2 ^ 63 : Int)) || decide (i ≥ 2 ^ 63)) = false := by simp; omega
  exact PySem.P.getItem_str hr hc ⟨(Kp.tok s _).toL, rep_str⟩
/-- an item of a dict of the top, by a written key -/
theorem Item.top {a : Addr} {x : Str} {es : Array DictEntry} {n : Nat} {v : Value} (hl : X.K.lookup a = some ⟨.type "dict", none, .dict es n, #[]⟩) (hk : KeysLit X.w.params es.toList) (he : nsIn X.K a x = some (some v)) : Item X (.raw (.ref a)) (.str x) (.raw v) := fun ok s P cx v' u hv hu => by
  rw [rep_raw_inv hv]; obtain ⟨t', rfl⟩ := rep_str_inv hu
  have hm := mapOf_K (prog := prg) (w := X.w) cx.stat.K hl hk
  exact ⟨⟨"dict", _, hm.typeIs, slot_dict_getitem.lookup⟩, wpAny_getItem_of (strKind_is prg X.w x t') hm (find_K hl he) ⟨(Kp.tok s _).toL, rep_raw⟩⟩

/-! slices -/
def Part (p : PV) (o : Option Int) : Prop := match p, o with
  | .none, none => True
  | .int i, some j => i = j
  | _, _ => False
theorem Ev.pnone : Ev X e (evalPart none X.env) .none e := fun ok ρ s R => by
  rw [evalPart_none]; exact wpAny_pure ⟨R, Tr.refl, rep_none⟩
theorem Ev.psome {ex : Expr} (h : Ev X e (eval ex X.env) p e₁) : Ev X e (evalPart (some ex) X.env) p e₁ := h

theorem slice_room {s : Shared} {P} (cx : Cx X s P) (o o' : Obj) : KeepsL X s { s with heap := (s.heap.push o).push o' } ∧ s.heap.get? (s.heap.objs.size + 1) = none :=
  ⟨((Kp.push s o s.toks).trans (Kp.push _ o' s.toks)).toL, by
    cases q : s.heap.get? (s.heap.objs.size + 1) with
    | none => rfl
    | some ob => exact absurd (Heap.lt_size q) (Nat.not_lt.mpr (Nat.le_succ _))⟩
theorem part_is {h P o p v} (hp : Part p o) (hr : Rep h P p v) : IsPart v o := by
  unfold Part at hp
  split at hp
  · unfold Rep at hr; subst hr; exact .none
  · obtain ⟨t, rfl⟩ := rep_int_inv hr; subst hp; exact .int _ _
  · exact hp.elim

theorem sliced {h P} {ps : List PV} {vs : List Value} (r : RepL h P ps vs) (lo hi : Option Int) :
    ∃ qs : List PV, qs = ((ps.drop (lo.elim 0 (clipAt ps.length))).take (hi.elim ps.length (clipAt ps.length) - lo.elim 0 (clipAt ps.length))) ∧ ∃ ws, (slicePick vs.toArray lo hi none) = List.toArray ws ∧ RepL h P qs ws := by
  refine ⟨_, rfl, _, slicePick_plain _ _ _, ?_⟩
  have e : vs.toArray.size = ps.length := by simp [r.length]
  rw [e]
  exact RepL.take 0 (r.drop _) _

def slicePV (ps : List PV) (lo hi : Option Int) : List PV := (ps.drop (lo.elim 0 (clipAt ps.length))).take (hi.elim ps.length (clipAt ps.length) - lo.elim 0 (clipAt ps.length))

theorem Ev.sliceList {value : Expr} {lower upper : Option Expr} {pp pos : Pos} {ps : List PV} {lo hi : Option Int} {pl pu : PV} (h1 : Ev X e (eval value X.env) (.list ps) e₁) (h2 : Ev X e₁ (evalPart lower X.env) pl e₂) (h3 : Ev X e₂ (evalPart upper X.env) pu e₃)
    (hl : Part pl lo) (hu : Part pu hi) (hsz : ps.length ≤ sizeLine) (ht : ∀ o r, letTemporaryGo value o r = pure ()) : Ev X e (eval (.Subscript value (.Slice lower upper none pp) pos) X.env) (.list (slicePV ps lo hi)) e₃ := fun ok ρ s R => by
  refine wpAny_Subscript_list_slice (wpAny_mono (h1 ok ρ s R) (fun v s1 ⟨R1, t1, rp⟩ => wpAny_mono (h2 ok ρ s1 R1) (fun vl s2 ⟨R2, t2, r2⟩ => wpAny_mono (h3 ok ρ s2 R2) (fun vu s3 ⟨R3, t3, r3⟩ => ?_) fun _ _ h => h) fun _ _ h => h) fun _ _ h => h) ht
  obtain ⟨a, vs, n, rfl, hpa, ha, ra⟩ := rep_list_inv (Rep.tr t3 _ _ (Rep.tr t2 _ _ rp))
  obtain ⟨qs, hq, ws, hw, hr⟩ := sliced ra lo hi
  refine ⟨a, vs.toArray, lo, hi, rfl, ⟨_, ha, rfl, n, rfl⟩, by simpa [ra.length] using hsz, part_is hl (Rep.tr t3 _ _ r2), part_is hu r3, ?_⟩
  obtain ⟨k, hn⟩ := slice_room (R3.cx ok) ({ cls := .type "slice", data := .fields #[vl, vu, .none] }) ({ cls := .type "list", data := .seq (slicePick vs.toArray lo hi none) })
  obtain ⟨R4, t4⟩ := R3.keepsL ok k
  refine ⟨R4, ((t1.trans t2).trans t3).trans t4, ?_⟩
  have e : slicePV ps lo hi = qs := hq.symm
  rw [e]
  refine rep_list (n := 0) ((R3.cx ok).new hn) ?_ (RepL.tr t4 _ _ hr)
  show ((s3.heap.push _).push _).get? (s3.heap.objs.size + 1) = _
  have := Heap.get?_push_size (s3.heap.push { cls := .type "slice", data := .fields #[vl, vu, .none] }) (o := { cls := .type "list", data := .seq (slicePick vs.toArray lo hi none) }) rfl
  rw [Heap.size_push] at this
  rw [this, hw]

theorem Ev.sliceStr {value : Expr} {lower upper : Option Expr} {pp pos : Pos} {x : Str} {lo hi : Option Int} {pl pu : PV} (h1 : Ev X e (eval value X.env) (.str x) e₁) (h2 : Ev X e₁ (evalPart lower X.env) pl e₂) (h3 : Ev X e₂ (evalPart upper X.env) pu e₃)
    (hl : Part pl lo) (hu : Part pu hi) (hsz : x.length ≤ sizeLine) (ht : ∀ o r, letTemporaryGo value o r = pure ()) : Ev X e (eval (.Subscript value (.Slice lower upper none pp) pos) X.env) (.str (PySem.Txt.slice x lo hi)) e₃ := fun ok ρ s R => by
  refine tokd (wpAny_Subscript_str_slice (wpAny_mono (h1 ok ρ s R) (fun v s1 ⟨R1, t1, rp⟩ => wpAny_mono (h2 ok ρ s1 R1) (fun vl s2 ⟨R2, t2, r2⟩ => wpAny_mono (h3 ok ρ s2 R2) (fun vu s3 ⟨R3, t3, r3⟩ => ?_) fun _ _ h => h) fun _ _ h => h) fun _ _ h => h) ht)
  obtain ⟨t, rfl⟩ := rep_str_inv rp
  have hpv : ∀ {pl : PV} {lo : Option Int} {vl : Value} {h P}, Part pl lo → Rep h P pl vl → ∃ l : Option (Int × Tok), vl = partValue l ∧ l.map (·.1) = lo := by
    intro pl lo vl h P hp hr
    unfold Part at hp
    split at hp
    · unfold Rep at hr; subst hr; exact ⟨none, rfl, rfl⟩
    · obtain ⟨t, rfl⟩ := rep_int_inv hr; subst hp; exact ⟨some (_, t), rfl, rfl⟩
    · exact hp.elim
  obtain ⟨l, hl1, hl2⟩ := hpv hl r2
  obtain ⟨u, hu1, hu2⟩ := hpv hu r3
  refine ⟨x, t, l, u, rfl, hl1, hu1, ?_⟩
  subst hl2 hu2
  have fin : ∀ (t' : Tok) (k : Nat), (0 < s.toks → 0 < k) → Rel X e₃ ρ { s3 with heap := s3.heap.push { cls := .type "slice", data := .fields #[vl, vu, .none] }, toks := k } ∧ Tr (Mut X e ρ) s.heap (Mut X e₃ ρ) (s3.heap.push { cls := .type "slice", data := .fields #[vl, vu, .none] }) ∧
      Rep (s3.heap.push { cls := .type "slice", data := .fields #[vl, vu, .none] }) (Mut X e₃ ρ) (.str (PySem.Txt.slice x (l.map (·.1)) (u.map (·.1)))) (.str (PySem.Txt.slice x (l.map (·.1)) (u.map (·.1))) t') := fun t' k hk => by
    obtain ⟨R4, t4⟩ := R3.keepsL ok (Kp.push s3 ({ cls := .type "slice", data := .fields #[vl, vu, .none] }) k fun _ => hk R.tok).toL
    exact ⟨R4, ((t1.trans t2).trans t3).trans t4, rep_str⟩
  exact post_val_or_str ⟨Nat.le_trans (PySem.Txt.slice_le x _ _) hsz, fun t' k hk => fin t' k hk⟩
end
end Mine
end

section
open PySem PySem.W PyProof.Rows PySem.Calls
set_option Elab.async false
set_option linter.unusedVariables false
set_option maxRecDepth 100000
namespace Mine

section
variable {tab : List (Nat × NameKind)} {X : Fx tab} {e e₁ e₂ e₃ : PEnv} {p q out : PV}

/-- the arguments of a call -/
def Ar (X : Fx tab) (e : PEnv) (ts : List (Bool × Sem Value)) (ps : List PV) (e' : PEnv) : Prop := ts.any (·.1) = false ∧ (X.Ok → ∀ (f : Value) ρ s, Rel X e ρ s →
  wpAny (model prg X.w) X.A (evalArgs f true ts []) (fun a s' => a.kw = [] ∧ Rel X e' ρ s' ∧ Tr (Mut X e ρ) s.heap (Mut X e' ρ) s'.heap ∧ RepL s'.heap (Mut X e' ρ) ps a.pos) No s)
theorem Ar.nil : Ar X e [] [] e := ⟨rfl, fun ok f ρ s R => PySem.evalArgs_none ⟨rfl, R, Tr.refl, RepL.nil⟩⟩
theorem Ar.of {x : Sem Value} {rest : List (Bool × Sem Value)} {ps : List PV} (h : EvL X e (spliced ((false, x) :: rest)) ps e₁) (hn : rest.any (·.1) = false) : Ar X e ((false, x) :: rest) ps e₁ :=
  ⟨by simpa using hn, fun ok f ρ s R => evalArgs_plain (wpAny_mono (h ok ρ s R) (fun vs s' ⟨a, b, c⟩ => ⟨rfl, a, b, c⟩) fun _ _ h => h)⟩
theorem Ar.one {x : Sem Value} (h : Ev X e x p e₁) : Ar X e [(false, x)] [p] e₁ := Ar.of (EvL.cons h EvL.nil) rfl
theorem Ar.two {x y : Sem Value} (h : Ev X e x p e₁) (h2 : Ev X e₁ y q e₂) : Ar X e [(false, x), (false, y)] [p, q] e₂ := Ar.of (EvL.cons h (EvL.cons h2 EvL.nil)) rfl

/-- what a call gives -/
def Calls (X : Fx tab) (f : Value) (ps : List PV) (out : PV) : Prop := X.Ok → ∀ s P, Cx X s P → ∀ vs, RepL s.heap P ps vs → Pu X s P (call f vs) out

theorem callOn {ts : List (Bool × Sem Value)} {ps qs : List PV} {f : Value} {first : List Value} {pos : Pos} (ok : X.Ok) {ρ s} (R : Rel X e ρ s) (hf : RepL s.heap (Mut X e ρ) qs first) (ha : Ar X e ts ps e₁) (hc : Calls X f (qs ++ ps) out)
    (hw : ∀ Q, wpAny (model prg X.w) X.A (evalArgs f true ts []) (fun a s₁ => X.K.In s₁.heap ∧ wpAny (model prg X.w) X.A (call f (first ++ a.pos) a.kw) Q No s₁) No s → wpAny (model prg X.w) X.A (callWith pos f first ts []) Q No s) :
    wpAny (model prg X.w) X.A (callWith pos f first ts []) (fun v s' => Rel X e₁ ρ s' ∧ Tr (Mut X e ρ) s.heap (Mut X e₁ ρ) s'.heap ∧ Rep s'.heap (Mut X e₁ ρ) out v) No s := by
  refine hw _ (wpAny_mono (ha.2 ok f ρ s R) (fun a s1 h1 => ?_) fun _ _ h => h)
  obtain ⟨hkw, R1, t1, r1⟩ := h1
  refine ⟨(R1.cx ok).stat.K, ?_⟩
  rw [hkw]
  refine wpAny_mono (hc ok s1 _ (R1.cx ok) _ ((RepL.tr t1 _ _ hf).append r1)) (fun v s2 h2 => ?_) fun _ _ h => h
  obtain ⟨k, r2⟩ := h2
  obtain ⟨R2, t2⟩ := R1.keepsL ok k
  exact ⟨R2, t1.trans t2, r2⟩

inductive Callee (K : Frag) : Value → Prop
  | builtin (id : String) : Callee K (.builtin id)
  | type (T : String) : Callee K (.type T)
  | top (a : Addr) : keepIn K (.ref a) = true → Callee K (.ref a)
theorem Callee.with {f : Value} (h : Callee X.K f) {ts : List (Bool × Sem Value)} (hn : ts.any (·.1) = false) {first : List Value} {pos : Pos} {s : Shared} :
    ∀ Q, wpAny (model prg X.w) X.A (evalArgs f true ts []) (fun a s₁ => X.K.In s₁.heap ∧ wpAny (model prg X.w) X.A (call f (first ++ a.pos) a.kw) Q No s₁) No s → wpAny (model prg X.w) X.A (callWith pos f first ts []) Q No s := fun Q hq => by
  cases h with
  | builtin id => exact callWith_builtin hn (wpAny_mono hq (fun _ _ h => h.2) fun _ _ h => h)
  | type T => exact PySem.callWith_type hn (wpAny_mono hq (fun _ _ h => h.2) fun _ _ h => h)
  | top a hk => exact callWith_of (P := X.K.In) (by rw [hn]; rfl) (keeps_K hk) hq

/-- a call of a plain callee -/
theorem Ev.call {func : Expr} {args : List Expr} {pos : Pos} {f : Value} {ps : List PV} (hf : Ev X e (eval func X.env) (.raw f) e₁) (hk : Callee X.K f) (ha : Ar X e₁ (backTo pos (starEach args X.env)) ps e₂) (hc : Calls X f ps out)
    (he : eval (.Call func args [] pos) X.env = (do callWith pos (← eval func X.env) [] (backTo pos (starEach args X.env)) (backToKw pos (keywordEach [] X.env)))) : Ev X e (eval (.Call func args [] pos) X.env) out e₂ := fun ok ρ s R => by
  rw [he]
  refine wpAny_bind (wpAny_mono (hf ok ρ s R) (fun v s1 h1 => ?_) fun _ _ h => h)
  obtain ⟨R1, t1, rv⟩ := h1
  rw [rep_raw_inv rv]
  refine wpAny_mono (callOn (qs := []) (first := []) ok R1 RepL.nil ha hc (hk.with ha.1)) (fun v s2 h2 => ?_) fun _ _ h => h
  exact ⟨h2.1, t1.trans h2.2.1, h2.2.2⟩

theorem methodOn {o : Expr} {name : Str} {apos pos : Pos} {args : List Expr} {Q : Value → Shared → Prop} {s : Shared} (hbase : attributeBase o name X.env (eval o X.env) = eval o X.env)
    (hfew : methodCallForm (args.length + 0) (backTo pos (starEach args X.env)) (backToKw pos (keywordEach [] X.env)) = true) (hline : (apos.endLine == pos.line) = true)
    (h : wpAny (model prg X.w) X.A (eval o X.env) (fun ov s₁ => ∃ f first, (∀ pl Q', Q' (f, first) s₁ → wpAny (model prg X.w) X.A (getMethod ov name pl) Q' No s₁) ∧
      wpAny (model prg X.w) X.A (callWith pos f first (backTo pos (starEach args X.env)) []) Q No s₁) No s) : wpAny (model prg X.w) X.A (eval (.Call (.Attribute o name apos) args [] pos) X.env) Q No s := by
  rw [arm_eval_Call, hbase]
  refine wpAny_bind (wpAny_mono h (fun ov s₁ h₁ => ?_) fun _ _ e => e)
  obtain ⟨f, first, hg, hc⟩ := h₁
  refine wpAny_bind (wpAny_standAt ?_)
  have hpos : methodCallPos true o X.env apos pos = pure pos := by unfold methodCallPos; simp [hline]
  have hform : methodCallForm (args.length + ([] : List Keyword).length) (backTo pos (starEach args X.env)) (backToKw pos (keywordEach [] X.env)) = true := hfew
  unfold methodCall
  rw [hform]
  refine wpAny_bind (wpAny_holding (hg _ _ ?_))
  exact wpAny_bind (wpAny_of_eq hpos hc)

/-- a method of a built-in type -/
theorem Ev.meth {o : Expr} {name : Str} {apos pos : Pos} {args : List Expr} {T id : String} {ps : List PV} (ho : Ev X e (eval o X.env) p e₁) (ha : Ar X e₁ (backTo pos (starEach args X.env)) ps e₂)
    (hT : ∀ (s : Shared) P v, Rep s.heap P p v → s.TypeIs v T ∧ ∀ a, v = .ref a → ∃ o, s.heap.get? a = some o ∧ o.dict = none) (pa : PlainAttrs T) (slot : PySem.Slot T name id) (hty : typeOf (.builtin id) = pure (.type "method_descriptor"))
    (hc : Calls X (.builtin id) (p :: ps) out) (hbase : attributeBase o name X.env (eval o X.env) = eval o X.env)
    (hfew : methodCallForm (args.length + 0) (backTo pos (starEach args X.env)) (backToKw pos (keywordEach [] X.env)) = true) (hline : (apos.endLine == pos.line) = true) :
    Ev X e (eval (.Call (.Attribute o name apos) args [] pos) X.env) out e₂ := fun ok ρ s R => by
  refine methodOn hbase hfew hline (wpAny_mono (ho ok ρ s R) (fun v s1 h1 => ?_) fun _ _ h => h)
  obtain ⟨R1, t1, rv⟩ := h1
  obtain ⟨h1, h2⟩ := hT s1 _ v rv
  refine ⟨.builtin id, [v], fun pl Q' hq => getMethod_builtin h1 pa slot hty h2 hq, ?_⟩
  refine wpAny_mono (callOn (qs := [p]) (first := [v]) ok R1 (.one rv) ha hc ((Callee.builtin id).with ha.1)) (fun v s2 h2 => ?_) fun _ _ h => h
  exact ⟨h2.1, t1.trans h2.2.1, h2.2.2⟩

theorem str_is (x : Str) (s : Shared) (P : Addr → Prop) (v : Value) (h : Rep s.heap P (.str x) v) : s.TypeIs v "str" ∧ ∀ a, v = .ref a → ∃ o, s.heap.get? a = some o ∧ o.dict = none := by
  obtain ⟨t, rfl⟩ := rep_str_inv h
  exact ⟨typeIs_str _ _ _, fun a e => by cases e⟩

/-! a name's own list -/
theorem ownName (ok : X.Ok) {ρ s} (R : Rel X e ρ s) {i : Nat} {k : NameKind} {x : Str} {pos : Pos} {ps : List PV} (hx : allNames[i]? = some x) (hi : tab.lookup i = some k) (he : e.lookup i = some (.own ps)) (hk : isVar k = true) {Q : Value → Shared → Prop}
    (h : Q (.ref (ρ i)) s) : wpAny (model prg X.w) X.A (eval (.Name x pos) X.env) Q No s := loadVar ok hi hx (isVar_or hk) ((R.own he hx).1 (ok_notq ok hx hi)) h (plainName hx)

theorem base_name {x name : Str} {pos : Pos} {env : Env} : attributeBase (.Name x pos) name env (eval (.Name x pos) env) = eval (.Name x pos) env := rfl

theorem sameBut_get {h h' : Heap} {a b : Addr} {o : Obj} (hs : Heap.SameBut a h h') (hb : b ≠ a) (ho : h.get? b = some o) : h'.get? b = some o := (hs.2 b hb).trans ho

/-- x.append(v) -/
theorem Ev.append {i : Nat} {k : NameKind} {x : Str} {npos apos pos : Pos} {arg : Expr} {ps ps' : List PV} (hx : allNames[i]? = some x) (hi : tab.lookup i = some k) (hk : isVar k = true) (he : e.lookup i = some (.own ps)) (ha : Ar X e (backTo pos (starEach [arg] X.env)) [p] e₁)
    (he' : e₁.lookup i = some (.own ps')) (hsz : ps'.length ≤ sizeLine)
    (hfew : methodCallForm ([arg].length + 0) (backTo pos (starEach [arg] X.env)) (backToKw pos (keywordEach [] X.env)) = true) (hline : (apos.endLine == pos.line) = true) :
    Ev X e (eval (.Call (.Attribute (.Name x npos) "append" apos) [arg] [] pos) X.env) .none (e₁.set i (.own (ps' ++ [p]))) := fun ok ρ s R => by
  refine methodOn base_name hfew hline (ownName ok R hx hi he hk ?_)
  obtain ⟨_, vs, n, hg, _⟩ := R.own he hx
  refine ⟨.builtin "list.append", [.ref (ρ i)], fun pl Q' hq => getMethod_list_append hg rfl rfl hq, ?_⟩
  refine callWith_builtin ha.1 (wpAny_mono (ha.2 ok _ ρ s R) (fun a s1 h1 => ?_) fun _ _ h => h)
  obtain ⟨hkw, R1, t1, r1⟩ := h1
  rw [hkw]
  obtain ⟨v, r, hv, rv, rr⟩ := r1.inv
  rw [rr.inv0] at hv
  rw [hv]
  obtain ⟨_, ws, m, hg1, hr1⟩ := R1.own he' hx
  refine wpAny_list_append_plain ⟨m, hg1⟩ (fun h' hp hs => ?_) (by simpa [hr1.length] using hsz)
  obtain ⟨m', hg'⟩ := hp
  have e1 : (ws.toArray.push v) = (ws ++ [v]).toArray := by simp
  rw [e1] at hg'
  obtain ⟨R2, t2⟩ := R1.changeOwn ok (tk := s1.toks) he' hs hg' (hr1.append (.one rv))
  exact ⟨R2, t1.trans t2, rep_none⟩

/-- x.pop() -/
theorem Ev.pop {i : Nat} {k : NameKind} {x : Str} {npos apos pos : Pos} {ps : List PV} (hx : allNames[i]? = some x) (hi : tab.lookup i = some k) (hk : isVar k = true) (he : e.lookup i = some (.own (ps ++ [p]))) (hsz : ps.length + 1 ≤ sizeLine)
    (hfew : methodCallForm (([] : List Expr).length + 0) (backTo pos (starEach [] X.env)) (backToKw pos (keywordEach [] X.env)) = true) (hline : (apos.endLine == pos.line) = true) :
    Ev X e (eval (.Call (.Attribute (.Name x npos) "pop" apos) [] [] pos) X.env) p (e.set i (.own ps)) := fun ok ρ s R => by
  refine methodOn base_name hfew hline (ownName ok R hx hi he hk ?_)
  obtain ⟨_, vs, n, hg, hr⟩ := R.own he hx
  have hlen : vs.length = ps.length + 1 := by rw [hr.length]; simp
  refine ⟨.builtin "list.pop", [.ref (ρ i)], fun pl Q' hq => getMethod_builtin (T := "list") ⟨_, hg, rfl⟩ PySem.F.plainAttrs_list PySem.F.slot_list_pop PySem.F.type_list_pop (fun a h => by cases h; exact ⟨_, hg, rfl⟩) hq, ?_⟩
  refine callWith_builtin rfl (PySem.evalArgs_none ?_)
  obtain ⟨y, hy, ry⟩ := hr.get (i := ps.length) (p := p) (by simp)
  have hys : vs.toArray[vs.toArray.size - 1]? = some y := by simpa [hlen] using hy
  refine call_meets PySem.F.slot_list_pop ⟨_, hg, rfl⟩ PySem.F.entry_list_pop (PySem.F.args_list_pop_1 _) (PySem.MeetsSeq.list_pop_last (ρ i) vs.toArray n y hys (by simpa [hlen] using hsz)) ⟨hg, ?_⟩
  have hs := Heap.SameBut.update s.heap (ρ i) (Obj.mapSeq fun xs => xs.eraseIdxIfInBounds (vs.toArray.size - 1))
  have hmap : Obj.mapSeq (fun xs => xs.eraseIdxIfInBounds (vs.toArray.size - 1)) (LObj vs n) = LObj (vs.take ps.length) (n + 1) := by
    have e2 : vs.toArray.eraseIdxIfInBounds (vs.toArray.size - 1) = (vs.take ps.length).toArray := by
      have hlt : vs.toArray.size - 1 < vs.toArray.size := by simp [hlen]
      unfold Array.eraseIdxIfInBounds
      rw [dif_pos hlt, List.eraseIdx_toArray]
      congr 1
      have e3 : vs.toArray.size - 1 = ps.length := by simp [hlen]
      rw [e3, List.eraseIdx_eq_take_drop_succ, List.drop_eq_nil_of_le (by omega), List.append_nil]
    unfold Obj.mapSeq
    simp only [LObj, e2]
    have e4 : ((vs.take ps.length).toArray.size == vs.toArray.size) = false := by simp [hlen]
    rw [e4]; rfl
  have hg' : (s.heap.update (ρ i) (Obj.mapSeq fun xs => xs.eraseIdxIfInBounds (vs.toArray.size - 1))).get? (ρ i) = some (LObj (vs.take ps.length) (n + 1)) := by
    rw [Heap.get?_update_self _ hg (by rw [hmap]; rfl), hmap]
  have hr' : RepL s.heap (Mut X e ρ) ps (vs.take ps.length) := by
    have := RepL.take 0 hr ps.length
    simpa using this
  obtain ⟨R2, t2⟩ := R.changeOwn ok (tk := s.toks) he hs hg' hr'
  have hMe : Rep s.heap (Mut X e ρ) p y := ry
  exact ⟨R2, t2, Rep.tr t2 _ _ hMe⟩
end
end Mine
end

section
open PySem PySem.W PyProof.Rows PySem.Calls
set_option Elab.async false
set_option linter.unusedVariables false
set_option maxRecDepth 100000
namespace Mine

section
variable {tab : List (Nat × NameKind)} {X : Fx tab} {e e₁ e₂ e₃ : PEnv} {p q out : PV} {f : PF}

theorem Ex.nil : Ex X e (execs [] X.env) .next e := fun ok ρ s R => wpAny_execs_nil ⟨ρ, R, Tr.refl, rfl⟩
theorem Ex.cons {st : Stmt} {rest : List Stmt} (h1 : Ex X e (exec st X.env) .next e₁) (h2 : Ex X e₁ (execs rest X.env) f e₂) : Ex X e (execs (st :: rest) X.env) f e₂ := fun ok ρ s R =>
  wpAny_execs_cons (wpAny_mono (h1 ok ρ s R) (fun fl s1 ⟨ρ1, R1, t1, hf⟩ => by
    have : fl = .next := hf
    subst this
    exact wpAny_mono (h2 ok ρ1 s1 R1) (fun fl s2 ⟨ρ2, R2, t2, hf⟩ => ⟨ρ2, R2, t1.trans t2, hf⟩) fun _ _ h => h) fun _ _ h => h)
theorem Ex.stop {st : Stmt} {rest : List Stmt} (h1 : Ex X e (exec st X.env) f e₁) (hf : f ≠ .next) : Ex X e (execs (st :: rest) X.env) f e₁ := fun ok ρ s R =>
  wpAny_execs_cons (wpAny_mono (h1 ok ρ s R) (fun fl s1 ⟨ρ1, R1, t1, h⟩ => by
    cases f with
    | next => exact absurd rfl hf
    | brk => have : fl = .brk := h; subst this; exact ⟨ρ1, R1, t1, rfl⟩
    | cont => have : fl = .cont := h; subst this; exact ⟨ρ1, R1, t1, rfl⟩
    | ret p => obtain ⟨v, rfl, hr⟩ := h; exact ⟨ρ1, R1, t1, v, rfl, hr⟩) fun _ _ h => h)
/-- names are forgotten behind a step -/
theorem Ex.sub {t : Sem Flow} (h : Ex X e t f e₁) (hs : Sub e₂ e₁) : Ex X e t f e₂ := fun ok ρ s R =>
  wpAny_mono (h ok ρ s R) (fun fl s1 ⟨ρ1, R1, t1, hf⟩ => let ⟨R2, t2⟩ := R1.sub hs; ⟨ρ1, R2, t1.trans t2, FRep.tr t2 hf⟩) fun _ _ h => h
/-- names are forgotten ahead of a step -/
theorem Ex.sub' {t : Sem Flow} (hs : Sub e₁ e) (h : Ex X e₁ t f e₂) : Ex X e t f e₂ := fun ok ρ s R => by
  obtain ⟨R0, t0⟩ := R.sub hs
  exact wpAny_mono (h ok ρ s R0) (fun fl s1 ⟨ρ1, R1, t1, hf⟩ => ⟨ρ1, R1, t0.trans t1, hf⟩) fun _ _ h => h
theorem Ex.freeze {t : Sem Flow} {i : Nat} {ps : List PV} (hi : e.lookup i = some (.own ps)) (h0 : i ≠ 0) (h : Ex X (e.set i (.val (.list ps))) t f e₂) : Ex X e t f e₂ := fun ok ρ s R => by
  obtain ⟨R0, t0⟩ := R.freezeOwn ok hi h0
  exact wpAny_mono (h ok ρ s R0) (fun fl s1 ⟨ρ1, R1, t1, hf⟩ => ⟨ρ1, R1, t0.trans t1, hf⟩) fun _ _ h => h

theorem Ex.ret {ex : Expr} {pos : Pos} (h : Ev X e (eval ex X.env) p e₁) : Ex X e (exec (.Return (some ex) pos) X.env) (.ret p) e₁ := fun ok ρ s R =>
  wpAny_Return_some (wpAny_mono (h ok ρ s R) (fun v s1 ⟨R1, t1, r1⟩ => ⟨ρ, R1, t1, v, rfl, r1⟩) fun _ _ h => h)
theorem Ex.brk {pos : Pos} : Ex X e (exec (.Break pos) X.env) .brk e := fun ok ρ s R => wpAny_Break ⟨ρ, R, Tr.refl, rfl⟩
/-- an expression for its effect alone, that gives None -/
theorem Ex.expr {ex : Expr} {pos : Pos} (h : Ev X e (eval ex X.env) .none e₁) (hi : interactive X.env = false) (hs : swapsWith ex none pos.line X.env = pure false) : Ex X e (exec (.Expr ex pos) X.env) .next e₁ := fun ok ρ s R =>
  wpAny_Expr (wpAny_mono (h ok ρ s R) (fun v s1 ⟨R1, t1, r1⟩ => by unfold Rep at r1; subst r1; exact ⟨ρ, R1, t1, rfl⟩) fun _ _ h => h) hi hs
theorem Ex.if {test : Expr} {body orelse : List Stmt} {pos : Pos} {b : Bool} (h : Ts X e (isTrue test X.env (eval test X.env)) b e₁) (h1 : b = true → Ex X e₁ (execs body X.env) f e₂) (h2 : b = false → Ex X e₁ (execs orelse X.env) f e₂) :
    Ex X e (exec (.If test body orelse pos) X.env) f e₂ := fun ok ρ s R => by
  refine wpAny_If (wpAny_mono (h ok ρ s R) (fun v s1 ⟨R1, t1, hv⟩ => ?_) fun _ _ h => h)
  subst hv
  cases v with
  | true => simp only [if_true]; exact wpAny_mono (h1 rfl ok ρ s1 R1) (fun fl s2 ⟨ρ2, R2, t2, hf⟩ => ⟨ρ2, R2, t1.trans t2, hf⟩) fun _ _ h => h
  | false => simp only [Bool.false_eq_true, if_false]; exact wpAny_mono (h2 rfl ok ρ s1 R1) (fun fl s2 ⟨ρ2, R2, t2, hf⟩ => ⟨ρ2, R2, t1.trans t2, hf⟩) fun _ _ h => h

def stor (k : NameKind) : Bool := match k with | .local | .cell => true | _ => false
theorem stor_or {k : NameKind} (h : stor k = true) : k = .local ∨ k = .cell := by cases k <;> simp_all [stor]

/-- x = value -/
theorem Ex.assign {i : Nat} {k : NameKind} {x : Str} {npos pos : Pos} {value : Expr} (h : Ev X e (eval value X.env) p e₁) (hx : allNames[i]? = some x) (hi : tab.lookup i = some k) (hk : stor k = true)
    (hs : swapsWith value (some (.Name x npos)) pos.line X.env = pure false) : Ex X e (exec (.Assign [.Name x npos] value pos) X.env) .next (e₁.set i (.val p)) := fun ok ρ s R =>
  wpAny_Assign_Name (wpAny_mono (h ok ρ s R) (fun v s1 ⟨R1, t1, r1⟩ => storeName_ok ok R1 hi hx (stor_or hk) (fun s2 st => by
    obtain ⟨R2, t2⟩ := R1.store ok hx st r1
    exact ⟨ρ, R2, t1.trans t2, rfl⟩)) fun _ _ h => h) hs

/-! fresh lists -/
def Atoms (ps : List PV) (vs : List Value) : Prop := ∀ h P, RepL h P ps vs
theorem Atoms.nil : Atoms [] [] := fun _ _ => RepL.nil
def EvF (X : Fx tab) (e : PEnv) (t : Sem Value) (ps : List PV) : Prop := X.Ok → ∀ ρ s, Rel X e ρ s →
  wpAny (model prg X.w) X.A t (fun v s' => ∃ a vs n sm, v = .ref a ∧ Rel X e ρ sm ∧ Tr (Mut X e ρ) s.heap (Mut X e ρ) sm.heap ∧ sm.heap.get? a = none ∧ KeepsL X sm s' ∧ s'.heap.get? a = some (LObj vs n) ∧ Atoms ps vs) No s
theorem EvF.nil {pos : Pos} : EvF X e (eval (.List [] pos) X.env) [] := fun ok ρ s R =>
  List_ (spliced_nil (wpAny_newList ⟨_, [], 0, s, rfl, R, Tr.refl, fresh_size, (Kp.push s (LObj [] 0) s.toks).toL, Heap.get?_push_size _ rfl, Atoms.nil⟩ (by decide)))
theorem EvF.str {x : Str} {k : Nat} {cpos pos : Pos} : EvF X e (eval (.List [.Constant (.str x) k cpos] pos) X.env) [.str x] := fun ok ρ s R => by
  refine List_ ?_
  show wpAny _ _ (spliced [(false, eval (.Constant (.str x) k cpos) X.env)]) _ _ s
  refine spliced_cons (Constant_str (spliced_nil (wpAny_newList ?_ (show 1 ≤ sizeLine by decide))))
  have k := (Kp.tok s (s.toks + 1)).trans (Kp.push { s with toks := s.toks + 1 } (LObj [.str x s.toks] 0) (s.toks + 1))
  exact ⟨_, [.str x s.toks], 0, s, rfl, R, Tr.refl, fresh_size, k.toL, Heap.get?_push_size _ rfl, fun h P => .one rep_str⟩

theorem Ex.assignOwn {i : Nat} {k : NameKind} {x : Str} {npos pos : Pos} {value : Expr} {ps : List PV} (h : EvF X e (eval value X.env) ps) (hx : allNames[i]? = some x) (hi : tab.lookup i = some k) (hk : stor k = true)
    (hs : swapsWith value (some (.Name x npos)) pos.line X.env = pure false) : Ex X e (exec (.Assign [.Name x npos] value pos) X.env) .next (e.set i (.own ps)) := fun ok ρ s R =>
  wpAny_Assign_Name (wpAny_mono (h ok ρ s R) (fun v s1 h1 => by
    obtain ⟨a, vs, n, sm, rfl, R, tm, hn, kp, hg, at_⟩ := h1
    obtain ⟨okp, R1, t1⟩ := R.push ok kp hn hg
    replace t1 := tm.trans t1
    refine storeName_ok okp R1 (X := X.push a (LObj vs n)) hi hx (stor_or hk) (fun s2 st => ?_)
    have hap : ∀ p ∈ X.its, p.1 ≠ a := fun p hp q => by have := R.its p hp; rw [q, hn] at this; cases this
    have st' : Stored X x (.ref a) s1 s2 := ⟨st.same, st.at_, st.ns, st.cells, st.this, st.other⟩
    obtain ⟨R2, t2⟩ := R1.storeOwn okp hx hap st' (at_ _ _)
    exact ⟨_, R2, t1.trans t2, rfl⟩) fun _ _ h => h) hs

theorem assignName_ok {ρ s} (ok : X.Ok) (R : Rel X e ρ s) {i : Nat} {k : NameKind} {x : Str} {npos : Pos} {v : Value} (hx : allNames[i]? = some x) (hi : tab.lookup i = some k) (hk : stor k = true) (hr : Rep s.heap (Mut X e ρ) p v)
    {Q : Unit → Shared → Prop} (hQ : ∀ s', Rel X (e.set i (.val p)) ρ s' → Tr (Mut X e ρ) s.heap (Mut X (e.set i (.val p)) ρ) s'.heap → Q () s') : wpAny (model prg X.w) X.A (assign (.Name x npos) X.env v) Q No s :=
  wpAny_assign_Name (storeName_ok ok R hi hx (stor_or hk) (fun s2 st => by obtain ⟨R2, t2⟩ := R.store ok hx st hr; exact hQ s2 R2 t2))

/-- x = y = z = value, the value an int -/
theorem Ex.assign3 {i j l : Nat} {k k' k'' : NameKind} {x y z : Str} {p1 p2 p3 pos : Pos} {value : Expr} {n : Int} (h : Ev X e (eval value X.env) (.int n) e₁) (hx : allNames[i]? = some x) (hi : tab.lookup i = some k) (hk : stor k = true)
    (hy : allNames[j]? = some y) (hj : tab.lookup j = some k') (hk' : stor k' = true) (hz : allNames[l]? = some z) (hl : tab.lookup l = some k'') (hk'' : stor k'' = true)
    (hw : swappedStores [.Name x p1, .Name y p2, .Name z p3] value X.env = pure none) :
    Ex X e (exec (.Assign [.Name x p1, .Name y p2, .Name z p3] value pos) X.env) .next (((e₁.set i (.val (.int n))).set j (.val (.int n))).set l (.val (.int n))) := fun ok ρ s R =>
  wpAny_Assign_three (wpAny_mono (h ok ρ s R) (fun v s1 ⟨R1, t1, r1⟩ => by
    obtain ⟨t, rfl⟩ := rep_int_inv r1
    exact assignName_ok ok R1 hx hi hk r1 fun s2 R2 t2 => assignName_ok ok R2 hy hj hk' rep_int fun s3 R3 t3 => assignName_ok ok R3 hz hl hk'' rep_int fun s4 R4 t4 =>
      ⟨ρ, R4, ((t1.trans t2).trans t3).trans t4, rfl⟩) fun _ _ h => h) rfl hw

/-! unpacking -/
theorem assignIn_nil {M : Model} {A : Around} {vs : List Value} {Q : Unit → Shared → Prop} {s : Shared} (h : Q () s) : wpAny M A (assignInOrder [] vs) Q No s := wpAny_pure h
theorem assignIn_cons {M : Model} {A : Around} {t : Value → Sem Unit} {ts : List (Value → Sem Unit)} {v : Value} {vs : List Value} {Q : Unit → Shared → Prop} {s : Shared} (h : wpAny M A (t v) (fun _ s' => wpAny M A (assignInOrder ts vs) Q No s') No s) :
    wpAny M A (assignInOrder (t :: ts) (v :: vs)) Q No s := wpAny_bind (wpAny_holding h)

/-- a place that a part of a tuple goes to -/
structure Tgt (tab : List (Nat × NameKind)) (env : Env) (t : Value → Sem Unit) (i : Nat) : Prop where
  ex : ∃ x k, allNames[i]? = some x ∧ tab.lookup i = some k ∧ stor k = true ∧ ∀ (M : Model) (A : Around) (v : Value) (Q : Unit → Shared → Prop) (s : Shared), wpAny M A (storeName env x v) Q No s → wpAny M A (t v) Q No s
theorem Tgt.assign {i : Nat} {x : Str} {k : NameKind} {npos : Pos} {env : Env} (hx : allNames[i]? = some x) (hi : tab.lookup i = some k) (hk : stor k = true) : Tgt tab env (PySem.assign (.Name x npos) env) i :=
  ⟨x, k, hx, hi, hk, fun _ _ _ _ _ h => wpAny_assign_Name h⟩
theorem Tgt.bind {i : Nat} {x : Str} {k : NameKind} {env : Env} (hx : allNames[i]? = some x) (hi : tab.lookup i = some k) (hk : stor k = true) : Tgt tab env (bindName env x) i :=
  ⟨x, k, hx, hi, hk, fun _ _ _ _ _ h => wpAny_bindName h⟩

inductive Tgts (tab : List (Nat × NameKind)) (env : Env) : List (Value → Sem Unit) → List Nat → Prop
  | nil : Tgts tab env [] []
  | cons {t ts i is} : Tgt tab env t i → Tgts tab env ts is → Tgts tab env (t :: ts) (i :: is)

def setAll : PEnv → List Nat → List PV → PEnv
  | e, i :: is, p :: ps => setAll (e.set i (.val p)) is ps
  | e, _, _ => e

theorem storeAll {ρ} (ok : X.Ok) : ∀ {ts : List (Value → Sem Unit)} {is : List Nat} {ps : List PV} {vs : List Value} {e : PEnv} {s : Shared}, Tgts tab X.env ts is → Rel X e ρ s → RepL s.heap (Mut X e ρ) ps vs → ps.length = is.length →
    wpAny (model prg X.w) X.A (assignInOrder ts vs) (fun _ s' => Rel X (setAll e is ps) ρ s' ∧ Tr (Mut X e ρ) s.heap (Mut X (setAll e is ps) ρ) s'.heap) No s
  | _, _, ps, vs, e, s, .nil, R, r, hl => by
    cases ps with
    | nil => rw [r.inv0]; exact assignIn_nil ⟨R, Tr.refl⟩
    | cons _ _ => cases hl
  | _, _, ps, vs, e, s, .cons (t := t) (ts := ts) (i := i) (is := is) h hr, R, r, hl => by
    cases ps with
    | nil => cases hl
    | cons p ps =>
      obtain ⟨v, rs, rfl, h1, h2⟩ := r.inv
      obtain ⟨x, k, hx, hi, hk, hw⟩ := h.ex
      refine assignIn_cons (hw _ _ _ _ _ (storeName_ok ok R hi hx (stor_or hk) (fun s2 st => ?_)))
      obtain ⟨R2, t2⟩ := R.store ok hx st h1
      exact wpAny_mono (storeAll ok hr R2 (RepL.tr t2 _ _ h2) (by simpa using hl)) (fun _ s3 ⟨R3, t3⟩ => ⟨R3, t2.trans t3⟩) fun _ _ h => h

theorem extBut_keeps {X : Fx tab} {s : Shared} {h' : Heap} (hx : Heap.ExtBut s.heap.objs.size s.heap h') : KeepsL X s { s with heap := h' } :=
  (show Kp s { s with heap := h' } from ⟨h', s.toks, rfl, id, fun b o ho => hx b o (Nat.ne_of_lt (Heap.lt_size ho)) ho⟩).toL

/-- (x, y, ..) = a tuple's value -/
theorem Ex.unpack {elts : List Expr} {k : Nat} {tpos pos : Pos} {value : Expr} {ps : List PV} {is : List Nat} (h : Ev X e (eval value X.env) (.tuple ps) e₁) (ht : Tgts tab X.env ((assignEach elts X.env).map (·.2)) is) (hl : ps.length = is.length)
    (hn : (assignEach elts X.env).length = is.length) (hstar : (assignEach elts X.env).findIdx? (·.1) = none)
    (hs : swapsWithSole [.Tuple elts k tpos] value pos.line X.env = pure false) (hw : swappedStores [.Tuple elts k tpos] value X.env = pure none) :
    Ex X e (exec (.Assign [.Tuple elts k tpos] value pos) X.env) .next (setAll e₁ is ps) := fun ok ρ s R =>
  Assign_Tuple (wpAny_mono (h ok ρ s R) (fun v s1 ⟨R1, t1, r1⟩ => by
    obtain ⟨a, vs, n, rfl, hp, hg, hr⟩ := rep_tuple_inv r1
    show wpAny _ _ (do standAt tpos; PySem.unpack (Value.ref a) (assignEach elts X.env)) _ _ s1
    refine wpAny_bind (wpAny_standAt (unpack_tuple ok.room.handled (items := vs.toArray) ⟨_, hg, rfl, n, rfl⟩ (by simp [hn, hr.length, hl]) hstar (fun h' hx => ?_)))
    obtain ⟨R2, t2⟩ := R1.keepsL ok (extBut_keeps hx)
    exact wpAny_mono (storeAll ok ht R2 (RepL.tr t2 _ _ hr) hl) (fun _ s3 ⟨R3, t3⟩ => ⟨ρ, R3, (t1.trans t2).trans t3, rfl⟩) fun _ _ h => h) fun _ _ h => h) hs hw
/-- the same where the stores are exchanged -/
theorem Ex.unpackS {elts : List Expr} {k : Nat} {tpos pos : Pos} {value : Expr} {ps : List PV} {names : List Str} {is : List Nat} (h : Ev X e (eval value X.env) (.tuple ps) e₁) (ht : Tgts tab X.env (names.reverse.map fun n => bindName X.env n) is) (hl : ps.length = is.length)
    (hn : names.length = is.length)
    (hs : swapsWithSole [.Tuple elts k tpos] value pos.line X.env = pure false) (hw : swappedStores [.Tuple elts k tpos] value X.env = pure (some names)) :
    Ex X e (exec (.Assign [.Tuple elts k tpos] value pos) X.env) .next (setAll e₁ is ps.reverse) := fun ok ρ s R =>
  Assign_Tuple_swapped (wpAny_mono (h ok ρ s R) (fun v s1 ⟨R1, t1, r1⟩ => by
    obtain ⟨a, vs, n, rfl, hp, hg, hr⟩ := rep_tuple_inv r1
    have e1 : names.length = vs.toArray.size := by simp [hn, hr.length, hl]
    rw [e1]
    refine unpackItems_tuple ok.room.handled (items := vs.toArray) ⟨_, hg, rfl, n, rfl⟩ (fun h' hx => ?_)
    obtain ⟨R2, t2⟩ := R1.keepsL ok (extBut_keeps hx)
    have hrev : ∀ {h P} {ps : List PV} {vs : List Value}, RepL h P ps vs → RepL h P ps.reverse vs.reverse := by
      intro h P ps
      induction ps with
      | nil => intro vs r; rw [r.inv0]; exact RepL.nil
      | cons p ps ih => intro vs r; obtain ⟨v, r', rfl, a, b⟩ := r.inv; simpa using (ih b).append (.one a)
    exact wpAny_mono (storeAll ok ht R2 (RepL.tr t2 _ _ (hrev hr)) (by simpa using hl)) (fun _ s3 ⟨R3, t3⟩ => ⟨ρ, R3, (t1.trans t2).trans t3, rfl⟩) fun _ _ h => h) fun _ _ h => h) hs hw
end
end Mine
end

section
open PySem PySem.W PyProof.Rows PySem.Calls
set_option Elab.async false
set_option linter.unusedVariables false
set_option maxRecDepth 100000
namespace Mine

section
variable {tab : List (Nat × NameKind)} {X : Fx tab} {e e₁ e₂ e₃ : PEnv} {p q out : PV} {f : PF}

theorem no_noted {M : Model} {A : Around} {α : Type} {t : Sem α} {Q : α → Shared → Prop} {s : Shared} {E : Value → Shared → Prop} (h : wpAny M A t Q No s) : wpAny M A t Q E s := wpAny_mono h (fun _ _ h => h) fun _ _ h => h.elim

/-! while -/
def Wl (X : Fx tab) (test : Expr) (body : List Stmt) (e : PEnv) (f : PF) (e' : PEnv) : Prop := X.Ok → ∀ ρ s, Rel X e ρ s →
  codeAny (model prg X.w) X.A (.whileLoop test body [] X.env) (fun r s' => ∃ fl ρ', r = .ok fl ∧ Rel X e' ρ' s' ∧ Tr (Mut X e ρ) s.heap (Mut X e' ρ') s'.heap ∧ FRep s'.heap (Mut X e' ρ') f fl) s
theorem Wl.stop {test : Expr} {body : List Stmt} (h : Ts X e (isTrue test X.env (eval test X.env)) false e₁) : Wl X test body e .next e₁ := fun ok ρ s R => by
  refine codeAny_whileLoop (fun n s' => n = 0 ∧ s' = s) (fun n s' hI => ?_) 0 ⟨rfl, rfl⟩
  obtain ⟨rfl, rfl⟩ := hI
  refine no_noted (wpAny_mono (h ok ρ s' R) (fun b s2 ⟨R2, t2, hb⟩ => ?_) fun _ _ h => h)
  subst hb
  simp only [Bool.false_eq_true, if_false]
  exact wpAny_execs_nil ⟨.next, ρ, rfl, R2, t2, rfl⟩
theorem codeAny_again {M : Model} {A : Around} {c : Code} {R : Result → Shared → Prop} {s : Shared} (h : codeAny M A c R s) : codeAny M A c R s := h
theorem Wl.turn {test : Expr} {body : List Stmt} (h : Ts X e (isTrue test X.env (eval test X.env)) true e₁) (h2 : Ex X e₁ (execs body X.env) .next e₂) (h3 : Wl X test body e₂ f e₃) : Wl X test body e f e₃ := fun ok ρ s R => by
  refine codeAny_of_tree ?_
  show wpAny (model prg X.w) (X.A.under (.whileLoop test body [] X.env)) ((whileTurn test body [] X.env).onRaise (fun x => do noteFrame x X.env; theTreesLotGoes x)) _ _ s
  rw [Around.under_of_weight rfl]
  refine wpAny_onRaise ?_
  unfold whileTurn
  refine no_noted (wpAny_bind (wpAny_mono (h ok ρ s R) (fun b s2 ⟨R2, t2, hb⟩ => ?_) fun _ _ h => h))
  subst hb
  simp only [if_true]
  refine wpAny_bind (wpAny_mono (h2 ok ρ s2 R2) (fun fl s3 ⟨ρ3, R3, t3, hf⟩ => ?_) fun _ _ h => h)
  have : fl = .next := hf
  subst this
  refine wpAny_pure ⟨rfl, codeAny_mono (h3 ok ρ3 s3 R3) fun r s4 hr => ?_⟩
  obtain ⟨fl, ρ', rfl, R4, t4, hf⟩ := hr
  exact ⟨fl, ρ', rfl, R4, (t2.trans t3).trans t4, hf⟩
theorem Ex.while {test : Expr} {body : List Stmt} {pos : Pos} (h : Wl X test body e f e₁) : Ex X e (exec (.While test body [] pos) X.env) f e₁ := fun ok ρ s R =>
  wpAny_While (codeAny_mono (h ok ρ s R) fun r s' hr => by
    obtain ⟨fl, ρ', rfl, R', t', hf⟩ := hr
    exact ⟨ρ', R', t', hf⟩)

/-! iterators -/
theorem Rel.rePush {X : Fx tab} {I : Addr} {o o' : Obj} {e ρ s h' tk} (ok : (X.push I o).Ok) (r : Rel (X.push I o) e ρ s) (hap : ∀ p ∈ X.its, p.1 ≠ I) (kp : ∀ b ob, b ≠ I → s.heap.get? b = some ob → h'.get? b = some ob) (ho : h'.get? I = some o') (ht : 0 < tk) :
    (X.push I o').Ok ∧ Rel (X.push I o') e ρ { s with heap := h', toks := tk } ∧ Tr (Mut (X.push I o) e ρ) s.heap (Mut (X.push I o') e ρ) h' := by
  have IL : I ≠ X.L := ok.Li _ List.mem_cons_self
  have Ic : I ∉ X.oc := ok.ci _ List.mem_cons_self
  have I0 : X.s₀.heap.get? I = none := ok.loi _ List.mem_cons_self
  have t : Tr (Mut (X.push I o) e ρ) s.heap (Mut (X.push I o') e ρ) h' := fun b ob hn hb => ⟨fun q => hn (Mut.push.mpr (Mut.push.mp q)), kp b ob (fun q => hn (Mut.push.mpr (.inr q))) hb⟩
  have hIo : s.heap.get? I = some o := r.its _ List.mem_cons_self
  obtain ⟨m, hm⟩ := r.ns
  have hN : ∀ m, s.heap.Ns X.L m → h'.Ns X.L m := fun m hm => by
    obtain ⟨ob, es, ep, h1, r'⟩ := hm
    exact ⟨ob, es, ep, kp _ _ (Ne.symm IL) h1, r'⟩
  have hv0 := varOf_but ok.pop Ic I0 hN fun b ob _ => kp b ob
  have hm' : h'.Ns X.L m := hN m hm
  have hv : ∀ i sl, e.lookup i = some sl → ∀ x, allNames[i]? = some x → ∀ v, X.varOf s.heap x v → X.varOf h' x v := fun i sl hl x hx v h => hv0 x v h
  have okp : (X.push I o').Ok := ok.pop.push I0 IL Ic
  refine ⟨okp, ⟨?_, ht, fun b ob q => kp _ _ (fun z => by have q' : X.s₀.heap.get? b = some ob := q; rw [z, I0] at q'; cases q') (r.keep b ob q), ⟨m, hm'⟩, fun c hc => ?_, fun p hp => ?_, r.lo, r.apL, r.apc, fun i hi p hp => ?_, r.apo, fun i sl hl => ?_⟩, t⟩
  · obtain ⟨h₁, tk₁, rfl⟩ := r.same; exact ⟨h', tk, rfl⟩
  · obtain ⟨v, ob, h1, h2⟩ := r.cells c hc
    exact ⟨v, ob, kp _ _ (fun q => Ic (q ▸ hc)) h1, h2⟩
  · rcases List.mem_cons.mp hp with rfl | hp
    · exact ho
    · exact kp _ _ (hap p hp) (r.its p (List.mem_cons_of_mem _ hp))
  · rcases List.mem_cons.mp hp with rfl | hp
    · exact r.api i hi (I, o) List.mem_cons_self
    · exact r.api i hi p (List.mem_cons_of_mem _ hp)
  · obtain ⟨x, hx, h⟩ := r.names i sl hl
    exact ⟨x, hx, SlotOk.tr (X := X) (s := s) (s' := { s with heap := h', toks := tk }) (hv i sl hl x hx) t (fun ob hob hm => kp _ _ (fun q => r.api i ⟨sl, hl, hm⟩ (I, o) List.mem_cons_self q.symm) hob) h⟩

theorem Rel.dropAt {X : Fx tab} {I : Addr} {o : Obj} {e ρ s h' tk} (ok : (X.push I o).Ok) (r : Rel (X.push I o) e ρ s) (hap : ∀ p ∈ X.its, p.1 ≠ I) (kp : ∀ b ob, b ≠ I → s.heap.get? b = some ob → h'.get? b = some ob) (ht : 0 < tk) :
    Rel X e ρ { s with heap := h', toks := tk } ∧ Tr (Mut (X.push I o) e ρ) s.heap (Mut X e ρ) h' := by
  have IL : I ≠ X.L := ok.Li _ List.mem_cons_self
  have Ic : I ∉ X.oc := ok.ci _ List.mem_cons_self
  have I0 : X.s₀.heap.get? I = none := ok.loi _ List.mem_cons_self
  have t : Tr (Mut (X.push I o) e ρ) s.heap (Mut X e ρ) h' := fun b ob hn hb => ⟨fun q => hn (Mut.push.mpr (.inl q)), kp b ob (fun q => hn (Mut.push.mpr (.inr q))) hb⟩
  have hIo : s.heap.get? I = some o := r.its _ List.mem_cons_self
  obtain ⟨m, hm⟩ := r.ns
  have hN : ∀ m, s.heap.Ns X.L m → h'.Ns X.L m := fun m hm => by
    obtain ⟨ob, es, ep, h1, r'⟩ := hm
    exact ⟨ob, es, ep, kp _ _ (Ne.symm IL) h1, r'⟩
  have hv0 := varOf_but ok.pop Ic I0 hN fun b ob _ => kp b ob
  have hm' : h'.Ns X.L m := hN m hm
  have hv : ∀ i sl, e.lookup i = some sl → ∀ x, allNames[i]? = some x → ∀ v, X.varOf s.heap x v → X.varOf h' x v := fun i sl hl x hx v h => hv0 x v h
  refine ⟨⟨?_, ht, fun b ob q => kp _ _ (fun z => by have q' : X.s₀.heap.get? b = some ob := q; rw [z, I0] at q'; cases q') (r.keep b ob q), ⟨m, hm'⟩, fun c hc => ?_, fun p hp => ?_, r.lo, r.apL, r.apc, fun i hi p hp => ?_, r.apo, fun i sl hl => ?_⟩, t⟩
  · obtain ⟨h₁, tk₁, rfl⟩ := r.same; exact ⟨h', tk, rfl⟩
  · obtain ⟨v, ob, h1, h2⟩ := r.cells c hc
    exact ⟨v, ob, kp _ _ (fun q => Ic (q ▸ hc)) h1, h2⟩
  · exact kp _ _ (hap p hp) (r.its p (List.mem_cons_of_mem _ hp))
  · exact r.api i hi p (List.mem_cons_of_mem _ hp)
  · obtain ⟨x, hx, h⟩ := r.names i sl hl
    exact ⟨x, hx, SlotOk.tr (X := X) (s := s) (s' := { s with heap := h', toks := tk }) (hv i sl hl x hx) t (fun ob hob hm => kp _ _ (fun q => r.api i ⟨sl, hl, hm⟩ (I, o) List.mem_cons_self q.symm) hob) h⟩

/-- what an iterator of a value gives, item by item -/
structure Wk (X : Fx tab) (I : Addr) (fz : List Addr) (n : Nat) (Pv : Nat → Value → Prop) (St : Nat → Heap → Prop) : Prop where
  w : Walks prg X.w X.A I (I :: fz) [I] n Pv St
  live : ∀ i h, St i h → ∃ o, h.get? I = some o
def Iters (X : Fx tab) (p : PV) (items : List PV) : Prop := X.Ok → ∀ s P, Cx X s P → ∀ v, Rep s.heap P p v → ∀ (Q : Value → Shared → Prop),
  (∀ I fz Pv St s', s.heap.get? I = none → Kp s s' → s.heap.objs.size ≤ s'.heap.objs.size → (∀ A', A'.handled = none → Walks prg X.w A' I (I :: fz) [I] items.length Pv St) → (∀ i h, St i h → ∃ o, h.get? I = some o) → St 0 s'.heap → (∀ b ∈ fz, ¬ P b ∧ ∃ o, s.heap.get? b = some o) →
    (∀ P' h', Tr P s.heap P' h' → ∀ i v q, Pv i v → items[i]? = some q → Rep h' P' q v) → Q (.ref I) s') → wpAny (model prg X.w) X.A (pyIter v) Q No s

theorem Iters.list {ps : List PV} : Iters X (.list ps) ps := fun ok s P cx v hv Q hQ => by
  obtain ⟨a, vs, n, rfl, hp, hg, hr⟩ := rep_list_inv hv
  have hl : s.heap.IsList a vs.toArray := ⟨_, hg, rfl, n, rfl⟩
  have hne : a ≠ s.heap.objs.size := Nat.ne_of_lt (Heap.lt_size hg)
  have hsz : vs.toArray.size = ps.length := by simp [hr.length]
  refine wpAny_pyIter_list hl ?_
  refine hQ s.heap.objs.size [a] (fun i v => vs.toArray[i]? = some v) (fun i h => h.IsListIter s.heap.objs.size a i ∧ h.IsList a vs.toArray) _ fresh_size (Kp.push s _ s.toks) (by rw [Heap.size_push]; exact Nat.le_succ _) (fun A' hA => ?_) (fun i h st => ?_) ?_ ?_ (fun P' h' t i v q hv hq => ?_)
  · rw [← hsz]; exact Walks.list hA _ a hne vs.toArray
  · obtain ⟨⟨o, ho, _⟩, _⟩ := st; exact ⟨o, ho⟩
  · exact ⟨⟨_, Heap.get?_push_size _ rfl, rfl, rfl⟩, ⟨_, Heap.get?_push_of_some _ hg, rfl, n, rfl⟩⟩
  · intro b hb; simp at hb; subst hb; exact ⟨hp, _, hg⟩
  · obtain ⟨v', hv', r'⟩ := hr.get hq
    have : vs[i]? = some v := by simpa using hv
    rw [hv'] at this; cases this
    exact Rep.tr t _ _ r'

def chars (x : Str) : List PV := x.cps.toList.map fun c => .str ⟨#[c]⟩
theorem Iters.str {x : Str} : Iters X (.str x) (chars x) := fun ok s P cx v hv Q hQ => by
  obtain ⟨t, rfl⟩ := rep_str_inv hv
  have hsz : (chars x).length = x.cps.size := by simp [chars]
  refine wpAny_pyIter_strU ?_
  refine hQ s.heap.objs.size [] (SignAt x) (fun i h => h.IsStrIter s.heap.objs.size (strIterType x) x t i) _ fresh_size (Kp.push s _ s.toks) (by rw [Heap.size_push]; exact Nat.le_succ _) (fun A' hA => ?_) (fun i h st => ?_) ?_ ?_ (fun P' h' t i v q hv hq => ?_)
  · rw [hsz]
    unfold strIterType
    split
    · exact Walks.strAscii hA _ x t
    · exact Walks.strWide hA _ x t
  · obtain ⟨o, ho, _⟩ := st; exact ⟨o, ho⟩
  · exact ⟨_, Heap.get?_push_size _ rfl, rfl, rfl⟩
  · intro b hb; cases hb
  · obtain ⟨c, u, hc, rfl⟩ := hv
    have hq' : (chars x)[i]? = some (.str ⟨#[c]⟩) := by simp [chars, hc]
    rw [hq'] at hq; cases hq
    exact rep_str

def rngL (a : Int) (n : Nat) : List PV := (List.range n).map fun i => .int (a + (i : Nat))
theorem Iters.rng {a b : Int} (h1 : -(2 ^ 40) < a) (h2 : a < 2 ^ 40) (h3 : -(2 ^ 40) < b) (h4 : b < 2 ^ 40) : Iters X (.rng a b) (rngL a (b - a).toNat) := fun ok s P cx v hv Q hQ => by
  unfold Rep at hv
  obtain ⟨r, t, u, w, rfl, hp, hg⟩ := hv
  have hR : Builtin.Range.rangeSize a b 1 = ((b - a).toNat : Int) := PyProof.Rows.rangeSize_nat a b
  have hsm : Builtin.Range.small a b 1 = true := by
    unfold Builtin.Range.small
    rw [hR]
    simp only [Builtin.Range.rangeFitsLong, Bool.and_eq_true, Bool.or_eq_true, decide_eq_true_eq, beq_iff_eq]
    refine ⟨⟨⟨⟨by omega, by omega⟩, by omega⟩, by omega⟩, .inr ?_⟩
    rw [if_pos (by decide)]
    simp only [Bool.and_eq_true, decide_eq_true_eq]
    omega
  refine wpAny_pyIter_range hg hsm ?_
  rw [hR]
  refine hQ s.heap.objs.size [] (fun i v => ∃ t, v = .int (a + i * 1) t) (fun i h => IsRangeIter h s.heap.objs.size (a + (i : Nat) * 1) (((b - a).toNat : Int) - (i : Nat)) 1) _ fresh_size (Kp.push s _ s.toks) (by rw [Heap.size_push]; exact Nat.le_succ _) (fun A' hA => ?_) (fun i h st => ?_) ?_ ?_ (fun P' h' t i v q hv hq => ?_)
  · have : (rngL a (b - a).toNat).length = (b - a).toNat := by simp [rngL]
    rw [this]; exact Walks.range hA _ a 1 _
  · exact ⟨_, st⟩
  · show IsRangeIter _ _ _ _ _
    have e1 : a + ((0 : Nat) : Int) * 1 = a := by omega
    have e2 : ((b - a).toNat : Int) - ((0 : Nat) : Int) = (b - a).toNat := by omega
    rw [e1, e2]
    exact Heap.get?_push_size _ rfl
  · intro b hb; cases hb
  · obtain ⟨t, rfl⟩ := hv
    unfold rngL at hq
    rw [List.getElem?_map] at hq
    cases hi : (List.range (b - a).toNat)[i]? with
    | none => rw [hi] at hq; cases hq
    | some j =>
      rw [hi] at hq; cases hq
      have : j = i := by
        have := List.getElem?_eq_some_iff.mp hi
        obtain ⟨h, e⟩ := this
        simpa using e.symm
      subst this
      rw [Int.mul_one]; exact rep_int

/-! for -/
inductive Turns (B : PV → PEnv → PF → PEnv → Prop) : List PV → PEnv → PF → PEnv → Prop
  | done {a : PEnv} : Turns B [] a .next a
  | next {y : PV} {ys : List PV} {a b c : PEnv} {g : PF} : B y a .next b → Turns B ys b g c → Turns B (y :: ys) a g c
  | brk {y : PV} {ys : List PV} {a b : PEnv} : B y a .brk b → Turns B (y :: ys) a .next b
  | ret {y : PV} {ys : List PV} {a b : PEnv} {v : PV} : B y a (.ret v) b → Turns B (y :: ys) a (.ret v) b

theorem its_ne {X : Fx tab} {e ρ s I} (R : Rel X e ρ s) (h : s.heap.get? I = none) : ∀ p ∈ X.its, p.1 ≠ I := fun p hp q => by
  have := R.its p hp; rw [q, h] at this; cases this

theorem for_loop {I : Addr} {fz : List Addr} {Pv : Nat → Value → Prop} {St : Nat → Heap → Prop} {items : List PV} {target : Expr} {body : List Stmt} {ρ₁ : Nat → Addr} {s1 : Shared} {R : Result → Shared → Prop}
    (B : PV → PEnv → PF → PEnv → Prop) (okX : X.Ok) (hno : s1.heap.get? I = none) (R1 : Rel X e₁ ρ₁ s1) (W : Walks prg X.w X.A I (I :: fz) [I] items.length Pv St) (live : ∀ i h, St i h → ∃ o, h.get? I = some o)
    (hfz : ∀ b ∈ fz, ¬ Mut X e₁ ρ₁ b ∧ ∃ o, s1.heap.get? b = some o)
    (hv : ∀ P' h', Tr (Mut X e₁ ρ₁) s1.heap P' h' → ∀ i v q, Pv i v → items[i]? = some q → Rep h' P' q v)
    (turn : ∀ (o : Obj) (q : PV) (ei : PEnv) (fi : PF) (ei' : PEnv) ρi s' v, B q ei fi ei' → (X.push I o).Ok → Rel (X.push I o) ei ρi s' → Rep s'.heap (Mut (X.push I o) ei ρi) q v → ∀ (Q : Flow → Shared → Prop),
      (∀ fl ρ' s'', Rel (X.push I o) ei' ρ' s'' → Tr (Mut (X.push I o) ei ρi) s'.heap (Mut (X.push I o) ei' ρ') s''.heap → FRep s''.heap (Mut (X.push I o) ei' ρ') fi fl → Q fl s'') →
      wpAny (model prg X.w) X.A (letOwnedTupleGo target (.ref I) v) (fun _ s1' => wpAny (model prg X.w) X.A (assign target X.env v) (fun _ s2 => wpAny (model prg X.w) X.A (execs body X.env) Q No s2) No s1') No s')
    (hT : Turns B items e₁ f e₂)
    (hR : ∀ fl ρ' s', Rel X e₂ ρ' s' → Tr (Mut X e₁ ρ₁) s1.heap (Mut X e₂ ρ') s'.heap → FRep s'.heap (Mut X e₂ ρ') f fl → R (.ok fl) s')
    {s2 : Shared} (k2 : KeepsL X s1 s2) (st0 : St 0 s2.heap) : codeAny (model prg X.w) X.A (.forLoop target (.ref I) body [] X.env) R s2 := by
  have hap := its_ne R1 hno
  obtain ⟨o0, ho0⟩ := live _ _ st0
  obtain ⟨okp, R2, t2⟩ := R1.push okX k2 hno ho0
  refine codeAny_forLoop_any (fun k s' => ∃ i ei ρi o, k = items.length - i ∧ i ≤ items.length ∧ Turns B (items.drop i) ei f e₂ ∧ (X.push I o).Ok ∧ Rel (X.push I o) ei ρi s' ∧ St i s'.heap ∧ Tr (Mut X e₁ ρ₁) s1.heap (Mut (X.push I o) ei ρi) s'.heap)
    (fun k s' hI => ?_) items.length ⟨0, e₁, ρ₁, o0, rfl, Nat.zero_le _, by simpa using hT, okp, R2, st0, t2⟩
  obtain ⟨i, ei, ρi, o, rfl, hi, hTi, oki, Ri, sti, ti⟩ := hI
  refine no_noted (tokd ?_)
  rcases Nat.lt_or_ge i items.length with hlt | hge
  · obtain ⟨q, hq⟩ : ∃ q, items[i]? = some q := ⟨_, List.getElem?_eq_getElem hlt⟩
    have hd : items.drop i = q :: items.drop (i + 1) := by
      obtain ⟨h, rfl⟩ := List.getElem?_eq_some_iff.mp hq
      exact (List.drop_eq_getElem_cons h)
    rw [hd] at hTi
    refine W.item i s' _ _ hlt sti (fun v h' tk hPv sti' kp ht => ?_)
    have kp' : ∀ b ob, b ≠ I → s'.heap.get? b = some ob → h'.get? b = some ob := fun b ob hb => kp b ob (by simpa using hb)
    obtain ⟨o', ho'⟩ := live _ _ sti'
    obtain ⟨ok', R', t'⟩ := Ri.rePush (tk := tk) oki hap kp' ho' (ht Ri.tok)
    have tt := ti.trans t'
    have hrep := hv _ _ tt i v q hPv hq
    have frame : ∀ {ρ'' s''} {ej : PEnv}, Rel (X.push I o') ej ρ'' s'' → Tr (Mut (X.push I o') ei ρi) h' (Mut (X.push I o') ej ρ'') s''.heap → St (i + 1) s''.heap := fun {ρ'' s'' ej} R'' t'' =>
      W.frame _ _ _ sti' fun b hb ob hob => by
        rcases List.mem_cons.mp hb with rfl | hb
        · rw [ho'] at hob; cases hob; exact R''.its _ List.mem_cons_self
        · obtain ⟨h1, o1, h2⟩ := hfz b hb
          obtain ⟨a1, a2⟩ := tt b o1 h1 h2
          rw [a2] at hob; cases hob
          exact (t'' b _ a1 a2).2
    cases hTi with
    | next hB hrest =>
      refine wpAny_mono (turn o' q ei _ _ ρi _ v hB ok' R' hrep (fun fl s'' => match fl with | .next | .cont => _ | .brk => _ | .ret v => _) ?_) (fun _ s₁' h => wpAny_mono h (fun _ s₂ h => no_noted h) fun _ _ h => h.elim) fun _ _ h => h.elim
      intro fl ρ'' s'' R'' t'' hf
      have : fl = .next := hf
      subst this
      exact ⟨_, by omega, i + 1, _, ρ'', o', rfl, hlt, hrest, ok', R'', frame R'' t'', tt.trans t''⟩
    | brk hB =>
      refine wpAny_mono (turn o' q ei _ _ ρi _ v hB ok' R' hrep (fun fl s'' => match fl with | .next | .cont => _ | .brk => _ | .ret v => _) ?_) (fun _ s₁' h => wpAny_mono h (fun _ s₂ h => no_noted h) fun _ _ h => h.elim) fun _ _ h => h.elim
      intro fl ρ'' s'' R'' t'' hf
      have : fl = .brk := hf
      subst this
      obtain ⟨R3, t3⟩ := R''.pop
      exact hR _ ρ'' s'' R3 ((tt.trans t'').trans t3) rfl
    | ret hB =>
      refine wpAny_mono (turn o' q ei _ _ ρi _ v hB ok' R' hrep (fun fl s'' => match fl with | .next | .cont => _ | .brk => _ | .ret v => _) ?_) (fun _ s₁' h => wpAny_mono h (fun _ s₂ h => no_noted h) fun _ _ h => h.elim) fun _ _ h => h.elim
      intro fl ρ'' s'' R'' t'' hf
      obtain ⟨u, rfl, hu⟩ := hf
      obtain ⟨R3, t3⟩ := R''.pop
      exact hR _ ρ'' s'' R3 ((tt.trans t'').trans t3) ⟨u, rfl, Rep.tr t3 _ _ hu⟩
  · have hin : i = items.length := by omega
    subst hin
    simp only [List.drop_length] at hTi
    cases hTi with
    | done =>
      refine W.done s' _ _ sti (fun h' tk kp ht => ?_)
      have kp' : ∀ b ob, b ≠ I → s'.heap.get? b = some ob → h'.get? b = some ob := fun b ob hb => kp b ob (by simpa using hb)
      refine wpAny_execs_nil ?_
      obtain ⟨R3, t3⟩ := Ri.dropAt (tk := tk) oki hap kp' (ht Ri.tok)
      exact hR _ ρi _ R3 (ti.trans t3) rfl

theorem Ex.for {t : Nat} {k : NameKind} {x : Str} {npos pos : Pos} {iter : Expr} {body : List Stmt} {items : List PV} (h1 : Ev X e (eval iter X.env) q e₁) (hI : Iters X q items) (hx : allNames[t]? = some x) (ht : tab.lookup t = some k) (hk : stor k = true)
    (hT : Turns (fun p a g b => ∀ l, Ex (X.withIts l) (a.set t (.val p)) (execs body X.env) g b) items e₁ f e₂) (hs : ∀ v, foldedSetIterable iter X.env v = pure v) :
    Ex X e (exec (.For (.Name x npos) iter body [] pos) X.env) f e₂ := fun ok ρ s R => by
  refine wpAny_For (wpAny_mono (h1 ok ρ s R) (fun v s1 ⟨R1, t1, rv⟩ => ?_) fun _ _ h => h) hs
  refine hI ok s1 _ (R1.cx ok) v rv _ (fun I fz Pv St s2 hno k2 _ W live st0 hfz hv => ?_)
  refine for_loop _ ok hno R1 (W _ ok.room.handled) live hfz hv ?_ hT (fun fl ρ' s' R' t' hf => ⟨ρ', R', t1.trans t', hf⟩) k2.toL st0
  intro o q' ei fi ei' ρi s' v' hB okp Rp hr Q hQ
  refine wpAny_pure ?_
  refine assignName_ok okp Rp hx ht hk hr fun s3 R3 t3 => ?_
  exact wpAny_mono (hB ((I, o) :: X.its) okp ρi s3 R3) (fun fl s4 ⟨ρ4, R4, t4, hf⟩ => hQ fl ρ4 s4 R4 (t3.trans t4) hf) fun _ _ h => h
end
end Mine
end

section
open PySem PySem.W PyProof.Rows PySem.Calls
set_option Elab.async false
set_option linter.unusedVariables false
set_option maxRecDepth 100000
namespace Mine

/-- what a callee gives, wherever it is called -/
def Fn (F : Frag → World → Prop) (n : Nat) (f : Value) (ps : List PV) (out : PV) : Prop := ∀ (w : World) (K : Frag) (A : Around) (s : Shared) (P : Addr → Prop), F K w → Room n A → 0 < s.toks → Stat K s.heap → (∀ a, P a → ∃ o, s.heap.get? a = some o) →
  ∀ vs, RepL s.heap P ps vs → wpAny (model prg w) A (call f vs) (fun v s' => Kp s s' ∧ Rep s'.heap P out v) No s

theorem Fn.calls {tab : List (Nat × NameKind)} {X : Fx tab} {F : Frag → World → Prop} {n : Nat} {f : Value} {ps : List PV} {out : PV} (h : Fn F n f ps out) (hn : n ≤ X.n) (hK : F X.K X.w) : Calls X f ps out := fun ok s P cx vs hr =>
  wpAny_mono (h X.w X.K X.A s P hK (ok.room.le hn) cx.tok cx.stat cx.ex vs hr) (fun v s' h => ⟨h.1.toL, h.2⟩) fun _ _ h => h

def tabOk (tab : List (Nat × NameKind)) (names : List (Str × NameKind)) : Bool := names.lookup (Str.ofString "?") == none && tab.all fun p => (allNames[p.1]?).any fun x => names.lookup x == some p.2
theorem tabOk_get {tab : List (Nat × NameKind)} {names : List (Str × NameKind)} (h : tabOk tab names = true) {i : Nat} {k : NameKind} (hi : tab.lookup i = some k) : ∃ x, allNames[i]? = some x ∧ names.lookup x = some k := by
  have hm : (i, k) ∈ tab := by
    clear h
    induction tab with
    | nil => cases hi
    | cons a r ih =>
      obtain ⟨j, t⟩ := a
      rw [List.lookup_cons] at hi
      cases hb : i == j with
      | true => rw [hb] at hi; cases hi; rw [beq_iff_eq.mp hb]; exact List.mem_cons_self
      | false => rw [hb] at hi; exact List.mem_cons_of_mem _ (ih hi)
  have := List.all_eq_true.mp (Bool.and_eq_true_iff.mp h).2 _ hm
  cases hx : allNames[i]? with
  | none => rw [hx] at this; cases this
  | some x => rw [hx] at this; exact ⟨x, rfl, by simpa using this⟩

/-- the context of a call's body -/
@[reducible] def fx (tab : List (Nat × NameKind)) (K : Frag) (n : Nat) (w : World) (A : Around) (fd : FuncData) (a : Addr) (s : Shared) (P : Addr → Prop) : Fx tab :=
  { w := w, n := n, K := K, A := A.deeper (callEnvC fd s.heap.objs.size a), env := callEnvC fd s.heap.objs.size a, s₀ := s, bm := P, oc := fd.scope.names.filterMap fun p => if p.2 == .cell then (cellsFrom (s.heap.objs.size + 1) fd.scope.names []).lookup p.1 else none, its := [] }
theorem oc_mem {names : List (Str × NameKind)} {cs : List (Str × Addr)} {c : Addr} (h : c ∈ names.filterMap fun p => if p.2 == .cell then cs.lookup p.1 else none) : ∃ x, cs.lookup x = some c := by
  obtain ⟨p, _, hp⟩ := List.mem_filterMap.mp h
  split at hp
  · exact ⟨_, hp⟩
  · cases hp

theorem cellsFrom_mem : ∀ {names : List (Str × NameKind)} {n : Nat} {acc : List (Str × Addr)} {x : Str} {c : Addr}, (x, c) ∈ cellsFrom n names acc → (x, c) ∈ acc ∨ (x, NameKind.cell) ∈ names
  | [], _, _, _, _, h => .inl h
  | (y, k) :: r, n, acc, x, c, h => by
    unfold cellsFrom at h
    split at h
    · rename_i hk
      have hk' : k = .cell := by simpa using hk
      subst hk'
      rcases cellsFrom_mem h with h | h
      · rcases List.mem_cons.mp h with h | h
        · cases h; exact .inr List.mem_cons_self
        · exact .inl h
      · exact .inr (List.mem_cons_of_mem _ h)
    · exact (cellsFrom_mem h).imp id (List.mem_cons_of_mem _)

theorem fx_ok {tab : List (Nat × NameKind)} {K : Frag} {n : Nat} {w : World} {A : Around} {fd : FuncData} {a : Addr} {s s₁ : Shared} {P : Addr → Prop} {m cm : Str → Option Value}
    (hr : Room (n + 1) A) (hst : Stat K s.heap) (hP : ∀ a, P a → ∃ o, s.heap.get? a = some o) (ht : tabOk tab fd.scope.names = true) (hk : fd.scope.kind = .function) (hg : fd.globals = mainGlobals) (hb : fd.builtins = builtinsNs)
    (hfree : ∀ x ∈ fd.scope.names, x.2 ≠ .free) (ic : InCallC s (callEnvC fd s.heap.objs.size a).locals m (callEnvC fd s.heap.objs.size a).cells cm s₁) : (fx tab K n w A fd a s P).Ok where
  room := ⟨by have := hr.depth; show A.depth + 1 + n ≤ 900; omega, by have := hr.units; show A.units + 3 + 10 * n ≤ 9000; omega, hr.handled⟩
  fn := hk
  glob := hg
  blt := hb
  stat := hst
  noq := eq_of_beq (Bool.and_eq_true_iff.mp ht).1
  kind := fun i k hi => by
    obtain ⟨x, hx, hl⟩ := tabOk_get ht hi
    refine ⟨x, hx, ?_⟩
    cases k with
    | cell =>
      have := cellsFrom_some fd.scope.names (s.heap.objs.size + 1) [] (x := x) (.inl hl)
      obtain ⟨c, hc⟩ := Option.isSome_iff_exists.mp this
      exact ⟨hl, c, hc, List.mem_filterMap.mpr ⟨_, mem_of_lookup (α := NameKind) hl, by simpa using hc⟩⟩
    | free => exact absurd rfl (hfree _ (mem_of_lookup (α := NameKind) hl))
    | _ => exact hl
  cell := fun x c hx => by
    have hx' : (cellsFrom (s.heap.objs.size + 1) fd.scope.names []).lookup x = some c := hx
    rcases cellsFrom_mem (mem_of_lookup hx') with h | h
    · cases h
    · exact .inl (List.mem_filterMap.mpr ⟨_, h, by simpa using hx'⟩)
  inj := fun x y c _ hx hy => name_of_addr ic.apart (mem_of_lookup hx) (mem_of_lookup hy)
  loL := Nat.le_refl _
  loc := fun c hc => by
    obtain ⟨x, hx⟩ := oc_mem hc
    exact Heap.get?_none_of_le (Nat.le_of_lt (ic.above x c (mem_of_lookup hx)))
  loi := fun p hp => by cases hp
  Lc := fun hc => by
    obtain ⟨x, hx⟩ := oc_mem hc
    exact Nat.lt_irrefl _ (ic.above x _ (mem_of_lookup hx))
  Li := fun p hp => by cases hp
  ci := fun p hp => by cases hp
  bm := hP

theorem nodup_lookup : ∀ {l : List (Str × NameKind)} {x : Str} {k : NameKind}, l.lookup x = some k → (x, k) ∈ l := fun h => mem_of_lookup h

theorem fx_rel {tab : List (Nat × NameKind)} {K : Frag} {n : Nat} {w : World} {A : Around} {fd : FuncData} {a : Addr} {s s₁ : Shared} {P : Addr → Prop} {m cm : Str → Option Value} {e : PEnv}
    (ic : InCallC s (callEnvC fd s.heap.objs.size a).locals m (callEnvC fd s.heap.objs.size a).cells cm s₁) (hdis : ∀ x, fd.scope.names.lookup x = some .cell → fd.scope.names.lookup x ≠ some .local) (hP : ∀ a, P a → ∃ o, s.heap.get? a = some o)
    (hfn : fd.scope.kind = .function) (he : ∀ i sl, e.lookup i = some sl → ∃ x p v, sl = .val p ∧ allNames[i]? = some x ∧ fd.scope.names.lookup x = some .local ∧ m x = some v ∧ Rep s.heap P p v)
    (htk : 0 < s₁.toks) : Rel (fx tab K n w A fd a s P) e (fun _ => 0) s₁ := by
  have nm : ∀ i, ¬ isMut e i := fun i ⟨sl, hl, hm⟩ => by
    obtain ⟨x, p, v, rfl, _⟩ := he i sl hl
    cases hm
  have t : Tr P s.heap (Mut (fx tab K n w A fd a s P) e fun _ => 0) s₁.heap := fun b o hn ho => ⟨fun q => by
    have lt := Heap.lt_size ho
    rcases q with q | q | q | ⟨p, hp, _⟩ | ⟨i, hi, _⟩
    · exact hn q
    · have q' : b = s.heap.objs.size := q
      rw [q'] at lt; exact Nat.lt_irrefl _ lt
    · obtain ⟨x, hx⟩ := oc_mem q
      have h1 : s.heap.objs.size < b := ic.above x b (mem_of_lookup hx)
      exact Nat.lt_asymm h1 lt
    · cases hp
    · exact nm i hi, ic.toInCall.keep b o ho⟩
  refine ⟨ic.toInCall.same, htk, ic.toInCall.keep, ⟨m, ic.toInCall.ns⟩, fun c hc => ?_, (fun p hp => nomatch hp), fun i hi => absurd hi (nm i), fun i hi => absurd hi (nm i), fun i hi => absurd hi (nm i), fun i hi => absurd hi (nm i), fun i j hi => absurd hi (nm i), fun i sl hl => ?_⟩
  · obtain ⟨x, hx⟩ := oc_mem hc
    exact ⟨_, ic.cell x c hx⟩
  · obtain ⟨x, p, v, rfl, hx, hk, hm, hr⟩ := he i sl hl
    refine ⟨x, hx, v, ?_, Rep.tr t _ _ hr⟩
    have hk' : (fx tab K n w A fd a s P).env.kindOf x = some .local := hk
    unfold Fx.varOf
    rw [hk']
    exact ⟨m, ic.toInCall.ns, hm⟩

theorem bindL_other {kind : Str → Option NameKind} : ∀ {r : List (Str × Value)} {m : Str → Option Value} {x : Str}, (∀ y ∈ r, y.1 ≠ x) → bindL kind r m x = m x
  | [], _, _, _ => rfl
  | (n, v) :: r, m, x, h => by
    unfold bindL
    rw [bindL_other fun y hy => h y (List.mem_cons_of_mem _ hy)]
    split
    · have : x ≠ n := fun q => h (n, v) List.mem_cons_self q.symm
      simp [this]
    · rfl
theorem bindL_get {kind : Str → Option NameKind} : ∀ {xs : List Str} {vs : List Value} {m : Str → Option Value}, xs.Nodup → (∀ x ∈ xs, kind x = some .local) → ∀ {j : Nat} {x : Str} {v : Value}, xs[j]? = some x → vs[j]? = some v → bindL kind (xs.zip vs) m x = some v
  | [], _, _, _, _, j, x, v, h, _ => by simp at h
  | y :: xs, [], _, _, _, j, x, v, _, h => by simp at h
  | y :: xs, u :: vs, m, nd, hk, j, x, v, h1, h2 => by
    rw [List.nodup_cons] at nd
    show bindL kind ((y, u) :: xs.zip vs) m x = some v
    unfold bindL
    rw [if_pos (hk y List.mem_cons_self)]
    cases j with
    | zero =>
      simp at h1 h2; subst h1 h2
      rw [bindL_other fun z hz q => nd.1 (by have := (List.of_mem_zip hz).1; rw [q] at this; exact this)]
      simp
    | succ j =>
      simp at h1 h2
      exact bindL_get nd.2 (fun z hz => hk z (List.mem_cons_of_mem _ hz)) h1 h2
theorem lookup_zip : ∀ {is : List Nat} {qs : List Slot} {i : Nat} {sl : Slot}, (is.zip qs).lookup i = some sl → ∃ j : Nat, is[j]? = some i ∧ qs[j]? = some sl
  | [], _, _, _, h => by simp at h
  | _ :: _, [], _, _, h => by simp at h
  | k :: is, q :: qs, i, sl, h => by
    rw [List.zip_cons_cons, List.lookup_cons] at h
    cases hb : i == k with
    | true => rw [hb] at h; cases h; exact ⟨0, by simp [beq_iff_eq.mp hb], rfl⟩
    | false => rw [hb] at h; obtain ⟨j, a, b⟩ := lookup_zip h; exact ⟨j + 1, by simpa using a, by simpa using b⟩
theorem names_nd {is : List Nat} {xs : List Str} (h : is.map (fun i => allNames[i]?) = xs.map some) (nd : is.Nodup) : xs.Nodup := by
  induction is generalizing xs with
  | nil => cases xs with
    | nil => exact .nil
    | cons _ _ => simp at h
  | cons i is ih => cases xs with
    | nil => simp at h
    | cons x xs =>
      simp only [List.map_cons, List.cons.injEq] at h
      rw [List.nodup_cons] at nd ⊢
      refine ⟨fun hm => nd.1 ?_, ih h.2 nd.2⟩
      have : some x ∈ is.map (fun i => allNames[i]?) := by rw [h.2]; exact List.mem_map.mpr ⟨x, hm, rfl⟩
      obtain ⟨j, hj, hx⟩ := List.mem_map.mp this
      rw [name_inj h.1 hx]; exact hj

theorem call_cells {w : World} {A : Around} {s : Shared} {R : Result → Shared → Prop} {a : Addr} {o : Obj} {fd : FuncData} {body : List Stmt} {vals : List Value} {binds : List (Str × Value)}
    (hroom : A.depth < recursionLimit) (ho : s.heap.get? a = some o) (hdata : o.data = .func fd) (hlim : s.heap.NoLimit) (hcd : s.heap.CodeRec fd.code fd.qualname)
    (hbody : fd.body = .stmts body) (hbind : bindArgs fd ⟨vals, []⟩ = pure binds) (hclo : fd.closure = []) (htk : 0 < s.toks)
    (hkind : ∀ x ∈ binds, fd.scope.names.lookup x.1 = some .local)
    (h : ∀ s₁, 0 < s₁.toks → InCallC s (callEnvC fd s.heap.objs.size a).locals (bindL (callEnvC fd s.heap.objs.size a).kindOf binds fun _ => none) (callEnvC fd s.heap.objs.size a).cells
        (bindC (callEnvC fd s.heap.objs.size a).kindOf binds fun _ => none) s₁ →
      wpAny (model prg w) (A.deeper (callEnvC fd s.heap.objs.size a)) (execs body (callEnvC fd s.heap.objs.size a)) (fun f s' => R (.ok (.ret (match f with | .ret v => v | _ => .none))) s') No s₁)
    (hco : fd.scope.isCoroutine = false) (hgen : fd.scope.isGenerator = false) (hk : fd.scope.kind = .function) :
    codeAny (model prg w) A (.call (.ref a) ⟨vals, []⟩) R s := by
  refine codeAny_call_function hroom ho hdata hco hgen hbody hcd ?_
  rw [hbind, hclo]
  refine wpAny_pure (wpAny_with_toks (n := 1) htk (wpAny_newFunctionEnv_cells hk (fun x hx => .inl (hkind x hx)) fun env he s' x ht => ?_))
  subst he
  exact ⟨hlim.keeps x.toInCall.keep, codeAny_func (wpAny_mono (h s' ht x) (fun _ _ h => h) fun _ _ h => h.elim)⟩

/-- what is known of a def's object -/
def FD (K : Frag) (f : Addr) (body : List Stmt) (sc : Scope) (xs : List Str) : Prop := ∃ (oc : Value) (od : Option Addr) (osl : Array (Option Value)) (fd : FuncData), K.lookup f = some ⟨oc, od, .func fd, osl⟩ ∧ fd.body = .stmts body ∧ fd.closure = [] ∧ codeIn K fd.code fd.qualname = true ∧ fd.scope = sc ∧ fd.globals = mainGlobals ∧ fd.builtins = builtinsNs ∧
  ∀ vs : List Value, vs.length = xs.length → bindArgs fd ⟨vs, []⟩ = pure (xs.zip vs)
/-- a contract of a plain def of the text -/
theorem Fn.intro' (tab : List (Nat × NameKind)) {F : Frag → World → Prop} {n : Nat} {f : Addr} {ps : List PV} {out : PV} {body : List Stmt} {sc : Scope} (is : List Nat) (xs : List Str) (hF : ∀ K w, F K w → FD K f body sc xs)
    (hk : sc.kind = .function) (hco : sc.isCoroutine = false) (hgen : sc.isGenerator = false)
    (ht : tabOk tab sc.names = true) (hfree : ∀ x ∈ sc.names, x.2 ≠ .free)
    (hloc : xs.all (fun x => sc.names.lookup x == some .local) = true) (hxs : is.map (fun i => allNames[i]?) = xs.map some) (hnd : is.Nodup) (hlen : ps.length = xs.length)
    (h : ∀ X : Fx tab, X.n = n → F X.K X.w → X.env.scope = sc → ∃ e', Ex X (is.zip (ps.map Slot.val)) (execs body X.env) (.ret out) e') : Fn F (n + 1) (.ref f) ps out := fun w K A s P hFK hr htk hst hP vs hv => by
  obtain ⟨oc, od, osl, fd, hK, hbody, hcl, hcd, hsc, hg, hb, hbind⟩ := hF K w hFK
  subst hsc
  have hsc : fd.scope = fd.scope := rfl
  have hlv : vs.length = xs.length := by rw [hv.length, hlen]
  obtain ⟨p, loose, mg, mb, T⟩ := hst.top
  refine wpAny_call (call_cells (by have := hr.depth; show A.depth < 1000; omega) (hst.K _ _ hK) rfl T.nolimit (codeRec_of hst.K hcd) hbody (hbind vs hlv) hcl htk (fun x hx => ?_) (fun s₁ ht₁ ic => ?_) hco hgen hk)
  · have := (List.of_mem_zip hx).1
    simpa using List.all_eq_true.mp hloc _ this
  · obtain ⟨e', hE⟩ := h (fx tab K n w A fd f s P) rfl hFK hsc
    have ok := fx_ok (tab := tab) (K := K) (n := n) (w := w) hr hst hP ht hk hg hb hfree ic
    have R : Rel (fx tab K n w A fd f s P) (is.zip (ps.map Slot.val)) (fun _ => 0) s₁ := fx_rel ic (fun x hx => by rw [hx]; intro h; cases h) hP hk (fun i sl hl => ?_) ht₁
    · refine wpAny_mono (hE ok _ s₁ R) (fun fl s' h' => ?_) fun _ _ h => h.elim
      obtain ⟨ρ', R', t', v, rfl, hr'⟩ := h'
      refine ⟨?_, ?_⟩
      · obtain ⟨h', tk, rfl⟩ := R'.same
        exact ⟨h', tk, rfl, fun _ => R'.tok, R'.keep⟩
      · exact Rep.tr (fun b o hn ho => ⟨fun q => hn (.inl q), ho⟩) _ _ hr'
    · obtain ⟨j, hj1, hj2⟩ := lookup_zip hl
      obtain ⟨p, hp, rfl⟩ : ∃ p, ps[j]? = some p ∧ sl = .val p := by
        rw [List.getElem?_map] at hj2
        cases hq : ps[j]? with
        | none => rw [hq] at hj2; cases hj2
        | some p => rw [hq] at hj2; cases hj2; exact ⟨p, rfl, rfl⟩
      obtain ⟨v, hv1, hv2⟩ := hv.get hp
      obtain ⟨x, hx1, hx2⟩ : ∃ x, xs[j]? = some x ∧ allNames[i]? = some x := by
        have := congrArg (fun l => l[j]?) hxs
        simp only [List.getElem?_map, hj1, Option.map_some] at this
        cases hq : xs[j]? with
        | none => rw [hq] at this; cases this
        | some x => rw [hq] at this; exact ⟨x, rfl, Option.some.inj this⟩
      have hkx : ∀ y ∈ xs, (callEnvC fd s.heap.objs.size f).kindOf y = some .local := fun y hy => by
        show fd.scope.names.lookup y = some .local
        simpa using List.all_eq_true.mp hloc _ hy
      exact ⟨x, p, v, rfl, hx2, hkx x (List.mem_of_getElem? hx1), bindL_get (names_nd hxs hnd) hkx hx1 hv1, hv2⟩

end Mine
end

section
open PySem PySem.W PyProof.Rows PySem.Calls
set_option Elab.async false
set_option linter.unusedVariables false
set_option maxRecDepth 100000
namespace Mine

section
variable {tab : List (Nat × NameKind)} {X : Fx tab} {e e₁ e₂ e₃ : PEnv} {p q out : PV} {f : PF}

theorem key_isStr {v : Value} {k : Str} (h : v.isStr = fun x => k == x) : ∃ t, v = .str k t := by
  have h1 := congrFun h k
  cases v with
  | str s t =>
    have : (s == k) = true := by simpa [Value.isStr] using h1
    exact ⟨t, by rw [eq_of_beq this]⟩
  | _ => simp [Value.isStr] at h1

theorem getL_at : ∀ {es : List DictEntry} {ks : List Str}, es.map (fun e => e.key.isStr) = ks.map (fun k x => k == x) → ∀ {j : Nat} {name : Str} {v : Value}, ks[j]? = some name → ks.Nodup → (es.map (·.val))[j]? = some v → getL name es = some (some v)
  | [], ks, h, j, name, v, hj, nd, hv => by simp at hv
  | e :: es, [], h, _, _, _, _, _, _ => by simp at h
  | e :: es, k :: ks, h, j, name, v, hj, nd, hv => by
    simp only [List.map_cons, List.cons.injEq] at h
    rw [List.nodup_cons] at nd
    cases j with
    | zero =>
      simp at hj hv; subst hj hv
      unfold getL
      have : e.key.isStr k = true := by rw [h.1]; simp
      rw [List.find?_cons, this]
    | succ j =>
      simp at hj hv
      have ne : k ≠ name := fun q => nd.1 (q ▸ List.mem_of_getElem? hj)
      have hf : e.key.isStr name = false := by rw [h.1]; simpa using ne
      have hr : e.refKey = false := by obtain ⟨t, ht⟩ := key_isStr h.1; unfold DictEntry.refKey; rw [ht]
      have ih := getL_at h.2 hj nd.2 (by simpa using hv)
      unfold getL at ih ⊢
      rw [List.find?_cons, hf, List.any_cons, hr, Bool.false_or]
      exact ih
theorem getL_miss : ∀ {es : List DictEntry} {ks : List Str}, es.map (fun e => e.key.isStr) = ks.map (fun k x => k == x) → ∀ {name : Str}, name ∉ ks → getL name es = some none
  | [], ks, h, name, hn => rfl
  | e :: es, [], h, _, _ => by simp at h
  | e :: es, k :: ks, h, name, hn => by
    simp only [List.map_cons, List.cons.injEq] at h
    have ne : k ≠ name := fun q => hn (q ▸ List.mem_cons_self)
    have hf : e.key.isStr name = false := by rw [h.1]; simpa using ne
    have hr : e.refKey = false := by obtain ⟨t, ht⟩ := key_isStr h.1; unfold DictEntry.refKey; rw [ht]
    have ih := getL_miss h.2 (name := name) (fun q => hn (List.mem_cons_of_mem _ q))
    unfold getL at ih ⊢
    rw [List.find?_cons, hf, List.any_cons, hr, Bool.false_or]
    exact ih
theorem putL_miss : ∀ {es : List DictEntry} {ks : List Str}, es.map (fun e => e.key.isStr) = ks.map (fun k x => k == x) → ∀ {name : Str} {hs : Int} {key v : Value}, name ∉ ks → putL name hs key v es = es ++ [⟨hs, key, v⟩]
  | [], ks, h, name, _, _, _, hn => rfl
  | e :: es, [], h, _, _, _, _, _ => by simp at h
  | e :: es, k :: ks, h, name, hs, key, v, hn => by
    simp only [List.map_cons, List.cons.injEq] at h
    have ne : k ≠ name := fun q => hn (q ▸ List.mem_cons_self)
    have hf : e.key.isStr name = false := by rw [h.1]; simpa using ne
    unfold putL
    rw [hf]
    simp only [Bool.false_eq_true, if_false, List.cons_append]
    rw [putL_miss h.2 (fun q => hn (List.mem_cons_of_mem _ q))]

/-- what a class of the top must be for its instances' attributes -/
structure Cls (K : Frag) (C : Addr) : Prop where
  ga : findIn K (.ref C) "__getattribute__" = some (some (.builtin "object.__getattribute__"))
  gt : findIn K (.ref C) "__getattr__" = some none
  hd : hasDictIn K C = true
  sa : findIn K (.ref C) "__setattr__" = some (some (.builtin "object.__setattr__"))
  po : plainOver K C = true

theorem handed_rep {h P p v} (hr : Rep h P p v) (hp : match p with | .raw _ => False | _ => True) : handedIn v = true := by
  cases p with
  | raw u => exact hp.elim
  | none => unfold Rep at hr; subst hr; rfl
  | bool b => unfold Rep at hr; subst hr; rfl
  | int i => obtain ⟨t, rfl⟩ := rep_int_inv hr; rfl
  | str i => obtain ⟨t, rfl⟩ := rep_str_inv hr; rfl
  | list xs => obtain ⟨a, _, _, rfl, _⟩ := rep_list_inv hr; rfl
  | tuple xs => obtain ⟨a, _, _, rfl, _⟩ := rep_tuple_inv hr; rfl
  | inst C ks fs => unfold Rep at hr; obtain ⟨a, _, _, _, rfl, _⟩ := hr; rfl
  | rng a b => unfold Rep at hr; obtain ⟨a, _, _, _, rfl, _⟩ := hr; rfl
def PV.notRaw : PV → Bool
  | .raw _ => false
  | _ => true

theorem getOwn {s : Shared} {x d C : Addr} {es : List DictEntry} {n : Nat} {name : Str} {v : Value} {A : Around} {w : World} {K : Frag} (hK : K.In s.heap) (hC : Cls K C) (hx : s.heap.get? x = some (instObj C d)) (hd : s.heap.get? d = some (dictOf es n))
    (ha : findIn K (.ref C) name = some none) (hl : getL name es = some (some v)) (hv : handedIn v = true) {Q : Value → Shared → Prop} (h : Q v { s with toks := s.toks + 1 }) : wpAny (model prg w) A (getAttr (.ref x) name true) Q No s :=
  get_value hK (⟨hx, rfl, rfl, hd⟩ : InstAt s.heap x (instObj C d) C (some (dictOf es n))) hC.ga (findObj_own hC.hd ha rfl hl) hv h

/-- an attribute of an instance -/
theorem Ev.attr {value : Expr} {name : Str} {pos : Pos} {C : Addr} {ks : List Str} {fs : List PV} {j : Nat} (h : Ev X e (eval value X.env) (.inst C ks fs) e₁) (hC : Cls X.K C) (ha : findIn X.K (.ref C) name = some none)
    (hj : ks.idxOf? name = some j) (hf : fs[j]? = some p) (hnr : p.notRaw = true) (nd : ks.Nodup)
    (he : eval (.Attribute value name pos) X.env = (do
      let o ← eval value X.env
      standAt pos.atName
      let r ← holding [o] (getAttr o name true)
      letTemporaryGo value o r
      pure r) := by with_unfolding_all rfl) : Ev X e (eval (.Attribute value name pos) X.env) p e₁ := fun ok ρ s R => by
  refine Attribute_any_ (wpAny_mono (h ok ρ s R) (fun v s1 h1 => ?_) fun _ _ h => h) he
  obtain ⟨R1, t1, rv⟩ := h1
  unfold Rep at rv
  obtain ⟨a, d, es, n, rfl, pa, pd, g1, g2, hk, hr⟩ := rv
  have hkj : ks[j]? = some name := by
    have := List.idxOf?_eq_some_iff.mp hj
    obtain ⟨hlt, h1, _⟩ := this
    rw [List.getElem?_eq_getElem hlt]; simpa using h1
  obtain ⟨v, hv, rv⟩ := hr.get hf
  refine getOwn (R1.cx ok).stat.K hC g1 g2 ha (getL_at hk hkj nd hv) (handed_rep rv (by cases p <;> first | trivial | cases hnr)) ?_
  obtain ⟨R2, t2⟩ := R1.keepsL ok (Kp.tok s1 (s1.toks + 1)).toL
  exact ⟨R2, t1.trans t2, Rep.tr t2 _ _ rv⟩

/-- an attribute of the object that a name holds as its own -/
theorem Ev.attrObj {i : Nat} {k : NameKind} {x name : Str} {npos pos : Pos} {xb C : Addr} {ks : List Str} {fs : List PV} {j : Nat} (hx : allNames[i]? = some x) (hi : tab.lookup i = some k) (hk : isVar k = true) (he : e.lookup i = some (.obj xb C ks fs))
    (hC : Cls X.K C) (ha : findIn X.K (.ref C) name = some none) (hj : ks.idxOf? name = some j) (hf : fs[j]? = some p) (hnr : p.notRaw = true) (nd : ks.Nodup)
    (hev : eval (.Attribute (.Name x npos) name pos) X.env = (do
      let o ← eval (.Name x npos) X.env
      standAt pos.atName
      let r ← holding [o] (getAttr o name true)
      letTemporaryGo (.Name x npos) o r
      pure r) := by with_unfolding_all rfl) : Ev X e (eval (.Attribute (.Name x npos) name pos) X.env) p e := fun ok ρ s R => by
  obtain ⟨y, hy, es, n, hv, hb, g1, g2, hkk, hr⟩ := R.names i _ he
  rw [hx] at hy; cases hy
  refine Attribute_any_ (loadVar ok hi hx (isVar_or hk) hv ?_ (plainName hx)) hev
  have hkj : ks[j]? = some name := by
    have := List.idxOf?_eq_some_iff.mp hj
    obtain ⟨hlt, h1, _⟩ := this
    rw [List.getElem?_eq_getElem hlt]; simpa using h1
  obtain ⟨v, hv, rv⟩ := hr.get hf
  refine getOwn (R.cx ok).stat.K hC g1 g2 ha (getL_at hkk hkj nd hv) (handed_rep rv (by cases p <;> first | trivial | cases hnr)) ?_
  obtain ⟨R2, t2⟩ := R.keepsL ok (Kp.tok s (s.toks + 1)).toL
  exact ⟨R2, t2, Rep.tr t2 _ _ rv⟩

/-- a method of an instance's class -/
theorem Ev.methI {o : Expr} {name : Str} {apos pos : Pos} {args : List Expr} {C fa : Addr} {ks : List Str} {fs ps : List PV} (ho : Ev X e (eval o X.env) (.inst C ks fs) e₁) (ha : Ar X e₁ (backTo pos (starEach args X.env)) ps e₂)
    (hC : Cls X.K C) (hf : findIn X.K (.ref C) name = some (some (.ref fa))) (ht : typeIn X.K (.ref fa) = some (.type "function")) (hkeep : keepIn X.K (.ref fa) = true) (hn : name ∉ ks)
    (hc : Calls X (.ref fa) (.inst C ks fs :: ps) out) (hbase : attributeBase o name X.env (eval o X.env) = eval o X.env)
    (hfew : methodCallForm (args.length + 0) (backTo pos (starEach args X.env)) (backToKw pos (keywordEach [] X.env)) = true) (hline : (apos.endLine == pos.line) = true) :
    Ev X e (eval (.Call (.Attribute o name apos) args [] pos) X.env) out e₂ := fun ok ρ s R => by
  refine methodOn hbase hfew hline (wpAny_mono (ho ok ρ s R) (fun v s1 h1 => ?_) fun _ _ h => h)
  obtain ⟨R1, t1, rv⟩ := h1
  have rv' := rv
  unfold Rep at rv'
  obtain ⟨a, d, es, n, rfl, pa, pd, g1, g2, hk, hr⟩ := rv'
  refine ⟨.ref fa, [.ref a], fun pl Q' hq => method_fn (R1.cx ok).stat.K (⟨g1, rfl, rfl, g2⟩ : InstAt s1.heap a (instObj C d) C (some (dictOf es n))) hC.ga hC.gt hf ht (by show (lookIn name (dictOf es n)).map _ = _; rw [lookIn_dict, getL_miss hk hn]; rfl) hq, ?_⟩
  refine wpAny_mono (callOn (qs := [.inst C ks fs]) (first := [.ref a]) ok R1 (.one rv) ha hc ((Callee.top fa hkeep).with ha.1)) (fun v s2 h2 => ?_) fun _ _ h => h
  exact ⟨h2.1, t1.trans h2.2.1, h2.2.2⟩

/-- a value attribute of a class of the top -/
theorem Ev.attrCls {value : Expr} {name : Str} {pos : Pos} {C : Addr} {mc v : Value} (h : Ev X e (eval value X.env) (.raw (.ref C)) e₁) (hr : readsIn X.K C mc = true) (hf : findCls X.K (.ref C) mc name = some (.val v)) (hh : handedIn v = true) (hp : ∀ h P, Rep h P p v)
    (he : eval (.Attribute value name pos) X.env = (do
      let o ← eval value X.env
      standAt pos.atName
      let r ← holding [o] (getAttr o name true)
      letTemporaryGo value o r
      pure r) := by with_unfolding_all rfl) : Ev X e (eval (.Attribute value name pos) X.env) p e₁ := fun ok ρ s R => by
  refine Attribute_any_ (wpAny_mono (h ok ρ s R) (fun v s1 h1 => ?_) fun _ _ h => h) he
  obtain ⟨R1, t1, rv⟩ := h1
  rw [rep_raw_inv rv]
  refine cls_value (R1.cx ok).stat.K hr hf hh ?_
  obtain ⟨R2, t2⟩ := R1.keepsL ok (Kp.tok s1 (s1.toks + 1)).toL
  exact ⟨R2, t1.trans t2, hp _ _⟩

/-- x.name = value, for the object that x holds as its own -/
theorem Ex.setAttr {i : Nat} {k : NameKind} {x name : Str} {npos apos pos : Pos} {value : Expr} {xb C : Addr} {ks : List Str} {fs : List PV} (h : Ev X e (eval value X.env) p e₁) (hx : allNames[i]? = some x) (hi : tab.lookup i = some k) (hk : isVar k = true)
    (he : e₁.lookup i = some (.obj xb C ks fs)) (hC : Cls X.K C) (ht : takerIn X.K C name = some none) (hn : name ∉ ks) (hsz : ks.length ≤ 100)
    (hs : swapsWith value (some (.Attribute (.Name x npos) name apos)) pos.line X.env = pure false) :
    Ex X e (exec (.Assign [.Attribute (.Name x npos) name apos] value pos) X.env) .next (e₁.set i (.obj xb C (ks ++ [name]) (fs ++ [p]))) := fun ok ρ s R => by
  refine plainObj_wpAny_Assign_Attribute (wpAny_mono (h ok ρ s R) (fun v s1 h1 => ?_) fun _ _ h => h) hs
  obtain ⟨R1, t1, rv⟩ := h1
  obtain ⟨y, hy, es, n, hv, hb, g1, g2, hkk, hr⟩ := R1.names i _ he
  rw [hx] at hy; cases hy
  refine loadVar ok hi hx (isVar_or hk) hv ?_ (plainName hx)
  have hmi : isMut e₁ i := ⟨_, he, rfl⟩
  generalize hd : ρ i = d at *
  have dL : d ≠ X.L := hd ▸ R1.apL i hmi
  obtain ⟨m, hm⟩ := R1.ns
  -- the ground: all below the frame's dict but d; the ledger: d and all above
  let h₀ := (below s1.heap X.L).hide d
  let rest := (aboveL s1.heap X.L).filter fun p => p.1 ≠ d
  have cov : ∀ b o, b ≠ X.L → b ≠ d → s1.heap.get? b = some o → h₀.get? b = some o ∨ (b, o) ∈ rest := fun b o hb hbd ho => by
    rcases Nat.lt_or_gt_of_ne hb with z | z
    · left; show ((below s1.heap X.L).hide d).get? b = some o
      rw [Heap.hide_ne _ hbd, below_get, if_pos z]; exact ho
    · right; exact List.mem_filter.mpr ⟨mem_aboveL.mpr ⟨z, ho⟩, by simpa using hbd⟩
  have Fk : ∀ b o, h₀.get? b = some o → s1.heap.get? b = some o := fun b o hb => by
    have hb' := Heap.of_hide hb
    rw [below_get] at hb'; split at hb'
    · exact hb'
    · cases hb'
  have F : Fr h₀ X.L s1.heap m := ⟨hm, Fk, by
    show ((below s1.heap X.L).hide d).objs.size ≤ X.L
    rw [Heap.hide_size]
    show (s1.heap.objs.extract 0 X.L).size ≤ X.L
    rw [Array.size_extract]; exact Nat.le_trans (Nat.sub_le _ _) (Nat.min_le_left _ _)⟩
  have N : News h₀ X.L s1.heap ((d, dictOf es n) :: rest) := fun p hp => by
    rcases List.mem_cons.mp hp with rfl | hp
    · exact ⟨g2, dL, Heap.hide_self _ _⟩
    · obtain ⟨hp, hpd⟩ := List.mem_filter.mp hp
      obtain ⟨z1, z2⟩ := mem_aboveL.mp hp
      exact ⟨z2, Nat.ne_of_gt z1, by
        show ((below s1.heap X.L).hide d).get? p.1 = none
        rw [Heap.hide_ne _ (by simpa using hpd), below_get, if_neg (Nat.not_lt.mpr (Nat.le_of_lt z1))]⟩
  have hd0 : X.s₀.heap.get? d = none := hd ▸ R1.lo i hmi
  have X₀ : X.K.In h₀ := fun a o ho => by
    have h1 : X.s₀.heap.get? a = some o := ok.stat.K a o ho
    show ((below s1.heap X.L).hide d).get? a = some o
    rw [Heap.hide_ne _ (fun q => by rw [q, hd0] at h1; cases h1), below_get, if_pos (Nat.lt_of_lt_of_le (Heap.lt_size h1) ok.loL)]
    exact R1.keep a o h1
  have hlen : es.length = ks.length := by have := congrArg List.length hkk; simpa using this
  have hpl := putL_miss hkk (hs := PyData.keyHash X.w.params name) (key := .str name (s1.toks + 1)) (v := v) hn
  refine W.set_dict F X₀ N (⟨g1, rfl, rfl, g2⟩ : InstAt s1.heap xb (instObj C d) C (some (dictOf es n))) rfl hC.sa hC.po ht hC.hd (by rw [getL_miss hkk hn]; rfl) (es' := es ++ [⟨PyData.keyHash X.w.params name, .str name (s1.toks + 1), v⟩]) (n' := putN name es n)
    (by rw [hpl]) (.head fun p hp => by simpa using (List.mem_filter.mp hp).2) (by simp [hlen]; omega) (fun h' F' N' => ?_)
  have N1 := N' _ List.mem_cons_self
  have kp : ∀ b o, b ≠ X.L → b ≠ ρ i → s1.heap.get? b = some o → h'.get? b = some o := fun b o hb hbd ho => by
    rw [hd] at hbd
    rcases cov b o hb hbd ho with z | z
    · exact F'.keep b o z
    · exact (N' _ (List.mem_cons_of_mem _ z)).1
  obtain ⟨R2, t2⟩ := R1.change ok he rfl rfl (sl' := .obj xb C (ks ++ [name]) (fs ++ [p])) (h' := h') (tk := s1.toks + 2) (fun _ => by omega) (fun m' hm' => by rw [ns_unique hm' hm]; exact F'.ns) kp (fun x' hx' hv' t hs' => by
    rw [hx] at hx'; cases hx'
    obtain ⟨z1, z2⟩ := t _ _ hb g1
    refine ⟨_, _, hv' _ hv, z1, by rw [hd]; exact z2, by rw [hd]; exact N1.1, ?_, ?_⟩
    · rw [List.map_append, List.map_append, hkk]; rfl
    · rw [List.map_append]; exact (RepL.tr t _ _ hr).append (.one (Rep.tr t _ _ rv)))
  exact ⟨ρ, R2, t1.trans t2, rfl⟩
end
end Mine
end

section
open PySem PySem.W PyProof.Rows PySem.Calls
set_option Elab.async false
set_option linter.unusedVariables false
set_option maxRecDepth 100000
namespace Mine

section
variable {tab : List (Nat × NameKind)} {X : Fx tab} {e e₁ e₂ e₃ : PEnv} {p q out : PV} {f : PF}

/-! built-in callables -/
theorem Calls.lenList {ps : List PV} (h : ps.length < 2 ^ 40) : Calls X (.builtin "len") [.list ps] (.int ps.length) := fun ok s P cx vs hv => by
  obtain ⟨v, r, rfl, h1, h2⟩ := hv.inv
  rw [h2.inv0]
  obtain ⟨a, ws, n, rfl, hp, hg, hr⟩ := rep_list_inv h1
  refine call_len_list (⟨_, hg, rfl, n, rfl⟩ : s.heap.IsList a ws.toArray) (by simp [hr.length]; omega) ⟨(Kp.tok s _).toL, ?_⟩
  simp only [List.size_toArray, hr.length]; exact rep_int
theorem Calls.lenTuple {ps : List PV} (h : ps.length < 2 ^ 40) : Calls X (.builtin "len") [.tuple ps] (.int ps.length) := fun ok s P cx vs hv => by
  obtain ⟨v, r, rfl, h1, h2⟩ := hv.inv
  rw [h2.inv0]
  obtain ⟨a, ws, n, rfl, hp, hg, hr⟩ := rep_tuple_inv h1
  refine PySem.P.len_tuple hg (by simp [hr.length]; omega) ⟨(Kp.tok s _).toL, ?_⟩
  simp only [List.size_toArray, hr.length]; exact rep_int
theorem Calls.range1 {b : Int} : Calls X (.type "range") [.int b] (.rng 0 b) := fun ok s P cx vs hv => by
  obtain ⟨v, r, rfl, h1, h2⟩ := hv.inv
  rw [h2.inv0]
  obtain ⟨t, rfl⟩ := rep_int_inv h1
  refine call_range_1 ⟨(Kp.push s _ _).toL, ?_⟩
  unfold Rep
  exact ⟨_, _, _, _, rfl, cx.new fresh_size, Heap.get?_push_size _ rfl⟩
theorem Calls.range2 {a b : Int} : Calls X (.type "range") [.int a, .int b] (.rng a b) := fun ok s P cx vs hv => by
  obtain ⟨v, r, rfl, h1, h2⟩ := hv.inv
  obtain ⟨v', r', rfl, h3, h4⟩ := h2.inv
  rw [h4.inv0]
  obtain ⟨t, rfl⟩ := rep_int_inv h1
  obtain ⟨t', rfl⟩ := rep_int_inv h3
  refine call_range_2 ⟨(Kp.push s _ _).toL, ?_⟩
  unfold Rep
  exact ⟨_, _, _, _, rfl, cx.new fresh_size, Heap.get?_push_size _ rfl⟩
theorem Calls.max2 {a b : Int} : Calls X (.builtin "max") [.int a, .int b] (.int (max a b)) := fun ok s P cx vs hv => by
  obtain ⟨v, r, rfl, h1, h2⟩ := hv.inv
  obtain ⟨v', r', rfl, h3, h4⟩ := h2.inv
  rw [h4.inv0]
  obtain ⟨t, rfl⟩ := rep_int_inv h1
  obtain ⟨t', rfl⟩ := rep_int_inv h3
  refine tokd (max_two_ints ok.room.handled (fun h' tk hk ht => ⟨(show Kp s { s with heap := h', toks := tk } from ⟨h', tk, rfl, ht, hk⟩).toL, ?_⟩))
  split
  · rename_i h; rw [Int.max_eq_right (Int.le_of_lt h)]; exact rep_int
  · rename_i h; rw [Int.max_eq_left (Int.not_lt.mp h)]; exact rep_int
theorem Calls.tupleList {ps : List PV} (h : ps.length ≤ sizeLine) : Calls X (.type "tuple") [.list ps] (.tuple ps) := fun ok s P cx vs hv => by
  obtain ⟨v, r, rfl, h1, h2⟩ := hv.inv
  rw [h2.inv0]
  obtain ⟨a, ws, n, rfl, hp, hg, hr⟩ := rep_list_inv h1
  refine call_tuple_list (⟨_, hg, rfl, n, rfl⟩ : s.heap.IsList a ws.toArray) (fun h' hk => ?_) (by simp [hr.length]; omega)
  have k : Kp s { s with heap := h'.push { cls := .type "tuple", data := .seq ws.toArray } } := ⟨_, s.toks, rfl, id, fun b o ho => Heap.get?_push_of_some _ (hk b o ho)⟩
  have hn : s.heap.get? h'.objs.size = none := by
    cases q : s.heap.get? h'.objs.size with
    | none => rfl
    | some o => exact absurd (Heap.lt_size (hk _ _ q)) (Nat.lt_irrefl _)
  exact ⟨k.toL, rep_tuple (n := 0) (cx.new hn) (Heap.get?_push_size _ rfl) (RepL.tr (k.tr P) _ _ hr)⟩

/-! methods of str -/
theorem strs_of {h P} : ∀ {xs : List Str} {vs : List Value}, RepL h P (xs.map .str) vs → ∃ l : List (Str × Tok), vs = strValues l ∧ l.map (·.1) = xs
  | [], _, r => ⟨[], r.inv0, rfl⟩
  | x :: xs, _, r => by
    obtain ⟨v, r', rfl, h1, h2⟩ := RepL.inv r
    obtain ⟨t, rfl⟩ := rep_str_inv h1
    obtain ⟨l, rfl, rfl⟩ := strs_of h2
    exact ⟨(x, t) :: l, rfl, rfl⟩
theorem of_strs {h P} : ∀ {l : List (Str × Tok)}, RepL h P ((l.map (·.1)).map .str) (strValues l)
  | [] => RepL.nil
  | (x, t) :: l => RepL.cons rep_str of_strs

theorem Calls.join {x : Str} {xs : List Str} (hok : JoinOk x xs = true) : Calls X (.builtin "str.join") [.str x, .list (xs.map .str)] (.str (Txt.join x xs)) := fun ok s P cx vs hv => by
  obtain ⟨v, r, rfl, h1, h2⟩ := hv.inv
  obtain ⟨v', r', rfl, h3, h4⟩ := h2.inv
  rw [h4.inv0]
  obtain ⟨t, rfl⟩ := rep_str_inv h1
  obtain ⟨a, ws, n, rfl, hp, hg, hr⟩ := rep_list_inv h3
  obtain ⟨l, rfl, hl⟩ := strs_of hr
  exact tokd (PySem.SC.join (⟨_, hg, rfl, n, rfl⟩ : s.heap.IsList a (strValues l).toArray) hl hok (fun t' k ht => ⟨(Kp.tok s k ht).toL, rep_str⟩))


open Builtin Builtin.Str in
theorem split_exact {w : World} {A : Around} {s : Shared} {x y : Str} {t u : Tok} {Q : Value → Shared → Prop} (hy : (y.length == 0) = false) (hsz : x.length ≤ sizeLine)
    (hsz2 : (partsBetween x (occurrences x y 0 x.length (x.length + 1)) y.length).length ≤ sizeLine)
    (h : ∀ (l : List (Str × Tok)) k, l.map (·.1) = Txt.split x y → Q (.ref s.heap.objs.size) { s with heap := s.heap.push (LObj (strValues l) 0), toks := k }) :
    wpAny (model prg w) A (call (.builtin "str.split") [.str x t, .str y u]) Q No s := by
  cases h1 : (decide (x.length < y.length) || decide (strKind x < strKind y))
  · cases hf : (occurrences x y 0 x.length (x.length + 1)).isEmpty
    · refine call_meets F.slot_str_split (typeIs_str _ _ _) F.entry_str_split (F.args_str_split_2 _ _) (meets_str_split_sep x y t u h1 hy hf hsz hsz2) ?_
      show wants Q No _ { s with toks := _, heap := s.heap.push { cls := .type "list", data := .seq (strsFrom s.toks (partsBetween x (occurrences x y 0 x.length (x.length + 1)) y.length)).toArray } }
      rw [strsFrom_eq]
      exact h (numbered s.toks _) _ ((numbered_texts _ _).trans ((if_neg (ne_true_of_eq_false h1)).trans (if_neg (ne_true_of_eq_false hf))).symm)
    · exact call_meets F.slot_str_split (typeIs_str _ _ _) F.entry_str_split (F.args_str_split_2 _ _) (meets_str_split_not_found x y t u h1 hy hf) (h [(x, t)] _ ((if_neg (ne_true_of_eq_false h1)).trans (if_pos hf)).symm)
  · exact call_meets F.slot_str_split (typeIs_str _ _ _) F.entry_str_split (F.args_str_split_2 _ _) (meets_str_split_cannot_occur x y t u h1) (h [(x, t)] _ (if_pos h1).symm)

theorem Calls.split {x y : Str} (hy : (y.length == 0) = false) (hsz : x.length ≤ sizeLine) (hsz2 : (Builtin.Str.partsBetween x (Builtin.Str.occurrences x y 0 x.length (x.length + 1)) y.length).length ≤ sizeLine) :
    Calls X (.builtin "str.split") [.str x, .str y] (.list ((Txt.split x y).map .str)) := fun ok s P cx vs hv => by
  obtain ⟨v, r, rfl, h1, h2⟩ := hv.inv
  obtain ⟨v', r', rfl, h3, h4⟩ := h2.inv
  rw [h4.inv0]
  obtain ⟨t, rfl⟩ := rep_str_inv h1
  obtain ⟨u, rfl⟩ := rep_str_inv h3
  refine tokd (split_exact hy hsz hsz2 fun l k hl ht => ⟨(Kp.push s _ k ht).toL, rep_list (n := 0) (cx.new fresh_size) (Heap.get?_push_size _ rfl) ?_⟩)
  rw [← hl]; exact of_strs
end
end Mine
end

section
open PySem PySem.W PyProof.Rows PySem.Calls
set_option Elab.async false
set_option linter.unusedVariables false
set_option maxRecDepth 100000
namespace Mine

section
variable {tab : List (Nat × NameKind)} {X : Fx tab} {e e₁ e₂ e₃ : PEnv} {p q out : PV} {f : PF}

/-- values without parts in the heap -/
def PV.atom : PV → Bool
  | .none | .bool _ | .int _ | .str _ => true
  | _ => false
theorem Rep.atom {h P h' P'} : ∀ {p : PV} {v : Value}, p.atom = true → Rep h P p v → Rep h' P' p v
  | .none, _, _, x => x
  | .bool _, _, _, x => x
  | .int _, _, _, x => x
  | .str _, _, _, x => x
  | .list _, _, h, _ => by cases h
  | .tuple _, _, h, _ => by cases h
  | .inst _ _ _, _, h, _ => by cases h
  | .raw _, _, h, _ => by cases h
  | .rng _ _, _, h, _ => by cases h
theorem RepL.atoms {h P} : ∀ {ps : List PV} {vs : List Value}, ps.all PV.atom = true → RepL h P ps vs → Atoms ps vs
  | [], _, _, x => by rw [x.inv0]; exact Atoms.nil
  | p :: ps, _, ha, x => by
    obtain ⟨v, r, rfl, h1, h2⟩ := x.inv
    rw [List.all_cons, Bool.and_eq_true] at ha
    exact fun h' P' => .cons (Rep.atom ha.1 h1) (RepL.atoms ha.2 h2 h' P')

/-- an own list read as if it were let go -/
theorem ownCx (ok : X.Ok) {ρ s} (R : Rel X e ρ s) {i : Nat} {ps : List PV} {x : Str} (hx : allNames[i]? = some x) (he : e.lookup i = some (.own ps)) :
    Cx X s (fun b => Mut X e ρ b ∧ b ≠ ρ i) ∧ Rep s.heap (fun b => Mut X e ρ b ∧ b ≠ ρ i) (.list ps) (.ref (ρ i)) := by
  have c := R.cx ok
  refine ⟨⟨c.stat, fun a h => c.ex a h.1, c.keep, c.ns, ⟨c.PL, Ne.symm (R.apL i ⟨_, he, rfl⟩)⟩, c.tok⟩, ?_⟩
  obtain ⟨_, vs, n, hg, hr⟩ := R.own he hx
  exact rep_list (fun h => h.2 rfl) hg (RepL.tr (fun b o hb ho => ⟨fun h => hb h.1, ho⟩) _ _ hr)

theorem Ev.cmpOwn {i : Nat} {k : NameKind} {x : Str} {npos pos : Pos} {r : Expr} {op : CmpOp} {ps : List PV} {b : Bool} (hx : allNames[i]? = some x) (hi : tab.lookup i = some k) (hk : isVar k = true) (he : e.lookup i = some (.own ps)) (h2 : Ev X e (eval r X.env) q e)
    (hop : Cmp X op (.list ps) q b) (hm : behindInMarks op r = false) : Ev X e (eval (.Compare (.Name x npos) [op] [r] pos) X.env) (.bool b) e := fun ok ρ s R =>
  wpAny_Compare1 (ownName ok R hx hi he hk (wpAny_mono (h2 ok ρ s R) (fun u s2 ⟨R2, t2, rq⟩ => by
    obtain ⟨c, rl⟩ := ownCx ok R2 hx he
    refine wpAny_mono (hop ok s2 _ c _ u rl (Rep.tr (fun b o hb ho => ⟨fun h => hb h.1, ho⟩) _ _ rq)) (fun w s3 h3 => ?_) fun _ _ h => h
    obtain ⟨k3, rw3⟩ := h3
    obtain ⟨R3, t3⟩ := R2.keepsL ok k3
    exact ⟨R3, t2.trans t3, Rep.atom rfl rw3⟩) fun _ _ h => h)) hm
theorem Ts.cmpOwn {i : Nat} {k : NameKind} {x : Str} {npos pos : Pos} {r : Expr} {op : CmpOp} {ps : List PV} {b : Bool} {whole} (hx : allNames[i]? = some x) (hi : tab.lookup i = some k) (hk : isVar k = true) (he : e.lookup i = some (.own ps)) (h2 : Ev X e (eval r X.env) q e)
    (hop : Cmp X op (.list ps) q b) (hm : behindInMarks op r = false) : Ts X e (isTrue (.Compare (.Name x npos) [op] [r] pos) X.env whole) b e := fun ok ρ s R =>
  wpAny_isTrue_Compare1 (ownName ok R hx hi he hk (wpAny_mono (h2 ok ρ s R) (fun u s2 ⟨R2, t2, rq⟩ => by
    obtain ⟨c, rl⟩ := ownCx ok R2 hx he
    refine wpAny_mono (hop ok s2 _ c _ u rl (Rep.tr (fun b o hb ho => ⟨fun h => hb h.1, ho⟩) _ _ rq)) (fun w s3 h3 => ?_) fun _ _ h => h
    obtain ⟨k3, rw3⟩ := h3
    obtain ⟨R3, t3⟩ := R2.keepsL ok k3
    unfold Rep at rw3; subst rw3
    exact wpAny_truthy_bool ⟨R3, t2.trans t3, rfl⟩) fun _ _ h => h)) hm

/-- len(x) and its like, x a name's own list -/
theorem Ev.callOwn {func : Expr} {x : Str} {npos pos : Pos} {i : Nat} {k : NameKind} {fv : Value} {ps : List PV} (hf : Ev X e (eval func X.env) (.raw fv) e) (hkc : Callee X.K fv) (hx : allNames[i]? = some x) (hi : tab.lookup i = some k) (hk : isVar k = true) (he : e.lookup i = some (.own ps))
    (hc : Calls X fv [.list ps] out) (ha : out.atom = true)
    (hev : eval (.Call func [.Name x npos] [] pos) X.env = (do callWith pos (← eval func X.env) [] [(false, eval (.Name x npos) X.env)] [])) : Ev X e (eval (.Call func [.Name x npos] [] pos) X.env) out e := fun ok ρ s R => by
  rw [hev]
  refine wpAny_bind (wpAny_mono (hf ok ρ s R) (fun v s1 h1 => ?_) fun _ _ h => h)
  obtain ⟨R1, t1, rv⟩ := h1
  rw [rep_raw_inv rv]
  refine hkc.with rfl _ (evalArgs_plain (spliced_cons (ownName ok R1 hx hi he hk (spliced_nil ?_))))
  refine ⟨(R1.cx ok).stat.K, ?_⟩
  obtain ⟨c, rl⟩ := ownCx ok R1 hx he
  refine wpAny_mono (hc ok s1 _ c _ (.one rl)) (fun w s3 h3 => ?_) fun _ _ h => h
  obtain ⟨k3, rw3⟩ := h3
  obtain ⟨R3, t3⟩ := R1.keepsL ok k3
  exact ⟨R3, t1.trans t3, Rep.atom ha rw3⟩

/-- x[i], x a name's own list -/
theorem Ev.itemOwn {x : Str} {npos pos : Pos} {slice : Expr} {i : Nat} {k : NameKind} {ps : List PV} {z : Int} {j : Nat} (hx : allNames[i]? = some x) (hi : tab.lookup i = some k) (hk : isVar k = true) (he : e.lookup i = some (.own ps)) (h2 : Ev X e (eval slice X.env) (.int z) e)
    (hj : seqIndex? z ps.length = some j) (ho : ps[j]? = some out) (hb : -(2 ^ 63) ≤ z ∧ z < 2 ^ 63) (hs : ∀ o i, subscripted slice false o i = operate [o, i] (getItem o i)) :
    Ev X e (eval (.Subscript (.Name x npos) slice pos) X.env) out e := fun ok ρ s R =>
  Subscript_ (ownName ok R hx hi he hk (wpAny_mono (h2 ok ρ s R) (fun u s2 ⟨R2, t2, rq⟩ => by
    obtain ⟨t, rfl⟩ := rep_int_inv rq
    obtain ⟨_, vs, n, hg, hr⟩ := R2.own he hx
    refine subTail (T := "list") ⟨_, hg, rfl⟩ list_lookup ?_ (hs _ _)
    obtain ⟨w, hw, rw⟩ := hr.get ho
    exact getList hg (by rw [hr.length]; exact hj) hb hw ⟨R2, t2, rw⟩) fun _ _ h => h))

/-- x[i] = value, x a name's own list -/
theorem setItemW {A : Around} {w : World} {s : Shared} {a : Addr} {vs : List Value} {n : Nat} {k : Int} {t : Tok} {v : Value} {Q : Unit → Shared → Prop} (hg : s.heap.get? a = some (LObj vs n)) (h0 : 0 ≤ k) (hfit : k < 2 ^ 63) (hj : k.toNat < vs.length)
    (h : ∀ h', h'.get? a = some (LObj (vs.set k.toNat v) n) → Heap.SameBut a s.heap h' → Q () { s with heap := h' }) : wpAny (model prg w) A (setItem (.ref a) (.int k t) v) Q No s := by
  have hl : s.heap.IsList a vs.toArray := ⟨_, hg, rfl, n, rfl⟩
  unfold setItem
  try with_reducible refine wpAny_holding ?_
  first | refine wpAny_bind (wpAny_pure ?_) | skip
  refine wpAny_bind (wpAny_sequenceKey hl.typeIs (by decide) ?_)
  refine wpAny_bind (wpAny_callSpecial?_slot (name := Str.ofString "__setitem__") hl.typeIs slot_list_setitem
    (wpAny_call_entry slot_list_setitem hl.typeIs entry_list_setitem ?_ (args_list_setitem _ _ _)))
  show wpAny _ _ (Builtin.List.listSubscript? (.int k t) >>= _) _ _ s
  refine wpAny_bind (wpAny_listSubscript_int (fitsIndex_of h0 hfit) ?_)
  clear hfit
  obtain ⟨j, rfl⟩ := Int.eq_ofNat_of_zero_le h0
  have hj' : j < vs.length := hj
  have hx : vs.toArray[j]? = some vs[j] := by simp [hj']
  show wpAny _ _ ((seqItemAt a j >>= fun r => pure (r.map (j, ·))) >>= _) _ _ s
  refine wpAny_bind (wpAny_bind (wpAny_seqItemAt hg rfl (wpAny_pure ?_)))
  rw [hx]
  show wpAny _ _ (setSeqItemAt a j v >>= _) _ _ s
  have hm : Obj.mapSeq (fun xs => xs.setIfInBounds j v) (LObj vs n) = LObj (vs.set j v) n := by
    unfold Obj.mapSeq
    simp [LObj]
  have hfin : (s.heap.update a (Obj.mapSeq (·.setIfInBounds j v))).get? a = some (LObj (vs.set j v) n) := by
    rw [Heap.get?_update_self _ hg (by rw [hm]; rfl), hm]
  refine wpAny_bind (wpAny_setSeqItemAt hg rfl ?_)
  first
    | exact wpAny_bind (wpAny_pure (wpAny_pure ⟨.none, rfl, wpAny_pure (h _ hfin (Heap.SameBut.update ..))⟩))
    | exact wpAny_pure ⟨.none, rfl, wpAny_pure (h _ hfin (Heap.SameBut.update ..))⟩

theorem RepL.set {h P} : ∀ {ps : List PV} {vs : List Value} {j : Nat} {p : PV} {v : Value}, RepL h P ps vs → Rep h P p v → RepL h P (ps.set j p) (vs.set j v)
  | [], _, _, _, _, r, _ => by rw [r.inv0]; simpa using RepL.nil
  | q :: ps, _, j, p, v, r, x => by
    obtain ⟨u, r', rfl, h1, h2⟩ := r.inv
    cases j with
    | zero => exact .cons x h2
    | succ j => exact .cons h1 (RepL.set h2 x)

theorem Ex.setItem {x : Str} {npos spos pos : Pos} {value slice : Expr} {i : Nat} {k : NameKind} {ps : List PV} {j : Nat} (h : Ev X e (eval value X.env) p e₁) (hx : allNames[i]? = some x) (hi : tab.lookup i = some k) (hk : isVar k = true) (he : e₁.lookup i = some (.own ps))
    (h2 : Ev X e₁ (eval slice X.env) (.int j) e₁) (hj : j < ps.length) (hb : ps.length < 2 ^ 62) (hs : swapsWith value (some (.Subscript (.Name x npos) slice spos)) pos.line X.env = pure false) :
    Ex X e (exec (.Assign [.Subscript (.Name x npos) slice spos] value pos) X.env) .next (e₁.set i (.own (ps.set j p))) := fun ok ρ s R =>
  wpAny_Assign_Subscript (wpAny_mono (h ok ρ s R) (fun v s1 ⟨R1, t1, rv⟩ => ownName ok R1 hx hi he hk (wpAny_mono (h2 ok ρ s1 R1) (fun u s2 ⟨R2, t2, ru⟩ => by
    obtain ⟨t, rfl⟩ := rep_int_inv ru
    obtain ⟨_, vs, n, hg, hr⟩ := R2.own he hx
    refine setItemW hg (by omega) (by omega) (by rw [hr.length]; exact hj) (fun h' hg' hsb => ?_)
    rw [show ((j : Int).toNat) = j from rfl] at hg'
    obtain ⟨R3, t3⟩ := R2.changeOwn ok (tk := s2.toks) he hsb hg' (hr.set (Rep.tr t2 _ _ rv))
    exact ⟨ρ, R3, (t1.trans t2).trans t3, rfl⟩) fun _ _ h => h)) fun _ _ h => h) hs

/-! lists multiplied -/
theorem foldl_rep {vs : List Value} : ∀ (k : Nat) (acc : Array Value), List.foldl (fun x y => x ++ y) acc (List.replicate k vs.toArray) = acc ++ ((List.replicate k vs).flatten).toArray
  | 0, acc => by simp
  | k + 1, acc => by
    rw [List.replicate_succ, List.foldl_cons, foldl_rep k]
    simp [List.replicate_succ]
theorem Bin.mulOne {z : Int} (h1 : z < 2 ^ 20) (h2 : -(2 ^ 20) < z) (ha : p.atom = true) : Bin X .Mult (.list [p]) (.int z) (.list (List.replicate z.toNat p)) := fun ok s P c v u hv hu => by
  obtain ⟨a, vs, n, rfl, hpa, hg, ra⟩ := rep_list_inv hv
  obtain ⟨t, rfl⟩ := rep_int_inv hu
  obtain ⟨h₀, news, m, F, N, hst, cov, back⟩ := c.bridge ok
  obtain ⟨w, r, rfl, rw, rr⟩ := ra.inv
  rw [rr.inv0] at hg
  have hsz : (#[w] : Array Value).size = 1 := rfl
  refine PyProof.Rows.mul_list F N hg (by omega) (by omega) (by simp; omega) (fun h' F' N' => ?_)
  have hn := N' _ List.mem_cons_self
  have kp : KeepsL X s { s with heap := h', toks := s.toks } := back h' s.toks [_] id F' (by simpa using N')
  have e : List.foldl (fun x1 x2 => x1 ++ x2) #[] (List.replicate (if (#[w] : Array Value).isEmpty = true then 0 else z.toNat) #[w]) = (List.replicate z.toNat w).toArray := by
    have : (#[w] : Array Value).isEmpty = false := rfl
    rw [this]
    simp only [Bool.false_eq_true, if_false]
    rw [foldl_rep z.toNat #[] (vs := [w])]
    simp
  refine ⟨kp, rep_list (n := 0) (vs := List.replicate z.toNat w) (c.new fresh_size) ?_ ?_⟩
  · rw [hn.1, e]
  · have key : ∀ k, RepL h' P (List.replicate k p) (List.replicate k w) := fun k => by
      induction k with
      | zero => exact RepL.nil
      | succ k ih => rw [List.replicate_succ, List.replicate_succ]; exact .cons (Rep.atom ha rw) ih
    exact key _

/-- a fresh list: an own list and a list of atoms -/
theorem EvF.addOwn {x : Str} {npos pos : Pos} {r : Expr} {i : Nat} {k : NameKind} {ps qs : List PV} (hx : allNames[i]? = some x) (hi : tab.lookup i = some k) (hk : isVar k = true) (he : e.lookup i = some (.own ps)) (h2 : Ev X e (eval r X.env) (.list qs) e)
    (ha : ps.all PV.atom = true) (hb : qs.all PV.atom = true) (hsz : ps.length + qs.length ≤ sizeLine) : EvF X e (eval (.BinOp (.Name x npos) .Add r pos) X.env) (ps ++ qs) := fun ok ρ s R => by
  refine wpAny_BinOp (ownName ok R hx hi he hk (wpAny_mono (h2 ok ρ s R) (fun u s2 h2 => ?_) fun _ _ h => h))
  obtain ⟨R2, t2, ru⟩ := h2
  obtain ⟨b, ws, n', rfl, hpb, hgb, rb⟩ := rep_list_inv ru
  obtain ⟨_, vs, n, hg, hr⟩ := R2.own he hx
  refine wpAny_mono (addListKp hg hgb (by rw [hr.length, rb.length]; exact hsz)) (fun x s' h => ?_) fun _ _ h => h
  obtain ⟨rfl, rfl⟩ := h
  exact ⟨_, vs ++ ws, 0, s2, rfl, R2, t2, fresh_size, (Kp.push s2 (LObj (vs ++ ws) 0) s2.toks).toL, Heap.get?_push_size _ rfl, fun h' P' => (RepL.atoms ha hr h' P').append (RepL.atoms hb rb h' P')⟩
end
end Mine
end

section
open PySem PySem.W PyProof.Rows PySem.Calls
set_option Elab.async false
set_option linter.unusedVariables false
set_option maxRecDepth 100000
namespace Mine

/-- what `__init__` gives -/
def FnI (F : Frag → World → Prop) (n : Nat) (fI C : Addr) (ps : List PV) (ks : List Str) (fs : List PV) : Prop := ∀ (w : World) (K : Frag) (A : Around) (s : Shared) (P : Addr → Prop), F K w → Room n A → 0 < s.toks → Stat K s.heap → (∀ a, P a → ∃ o, s.heap.get? a = some o) →
  ∀ vs, RepL s.heap P ps vs → codeAny (model prg w) A (.call (.ref fI) ⟨.ref (s.heap.objs.size + 1) :: vs, []⟩) (fun r s' => r = .ok (.ret .none) ∧ Kp s s' ∧ Rep s'.heap P (.inst C ks fs) (.ref (s.heap.objs.size + 1)))
    { s with heap := (s.heap.push emptyDict).push (instObj C s.heap.objs.size) }

theorem Fn.cls {F : Frag → World → Prop} {n : Nat} {fI C : Addr} {ps : List PV} {ks : List Str} {fs : List PV} (h : FnI F n fI C ps ks fs) (hm : ∀ K w, F K w → makesIn K C = true) (hi : ∀ K w, F K w → findIn K (.ref C) "__init__" = some (some (.ref fI))) (hf : ∀ K w, F K w → typeIn K (.ref fI) = some (.type "function")) :
    Fn F (n + 1) (.ref C) ps (.inst C ks fs) := fun w K A s P hFK hr ht hst hP vs hv => by
  refine wpAny_call ?_
  refine make_core (makes_of hst.K (hm K w hFK)) (looks_findIn hst.K (hi K w hFK)) (fun self => bind_fn hst.K self (hf K w hFK)) (.inl rfl) ?_
  have room : Room n (A.under (.builtin "type.__call__" ⟨.ref C :: vs, []⟩)) := by
    have e1 : (Code.builtin "type.__call__" ⟨.ref C :: vs, []⟩).weight = 1 := by kernel_rfl
    have e2 : (Code.builtin "type.__call__" ⟨.ref C :: vs, []⟩).cUnits = 1 := by kernel_rfl
    exact ⟨by have := hr.depth; show A.depth + (Code.builtin "type.__call__" ⟨.ref C :: vs, []⟩).weight + n ≤ 900; omega, by have := hr.units; show A.units + (Code.builtin "type.__call__" ⟨.ref C :: vs, []⟩).cUnits + 10 * n ≤ 9000; omega, hr.handled⟩
  refine codeAny_mono (h w K _ s P hFK room ht hst hP vs hv) fun r s' hr => ?_
  obtain ⟨rfl, k, hrep⟩ := hr
  exact ⟨rfl, k, hrep⟩

/-- the context of the body of `__init__` -/
@[reducible] def fxI (tab : List (Nat × NameKind)) (K : Frag) (n : Nat) (w : World) (A : Around) (fd : FuncData) (a : Addr) (s : Shared) (L : Addr) (P : Addr → Prop) : Fx tab :=
  { w := w, n := n, K := K, A := A.deeper (callEnvC fd L a), env := callEnvC fd L a, s₀ := s, bm := P, oc := [], its := [] }

theorem fxI_ok {tab : List (Nat × NameKind)} {K : Frag} {n : Nat} {w : World} {A : Around} {fd : FuncData} {a L : Addr} {s : Shared} {P : Addr → Prop}
    (hr : Room (n + 1) A) (hst : Stat K s.heap) (hP : ∀ a, P a → ∃ o, s.heap.get? a = some o) (ht : tabOk tab fd.scope.names = true) (hk : fd.scope.kind = .function) (hg : fd.globals = mainGlobals) (hb : fd.builtins = builtinsNs)
    (hfree : ∀ x ∈ fd.scope.names, x.2 ≠ .free ∧ x.2 ≠ .cell) (hL : s.heap.objs.size ≤ L) : (fxI tab K n w A fd a s L P).Ok where
  room := ⟨by have := hr.depth; show A.depth + 1 + n ≤ 900; omega, by have := hr.units; show A.units + 3 + 10 * n ≤ 9000; omega, hr.handled⟩
  fn := hk
  glob := hg
  blt := hb
  stat := hst
  noq := eq_of_beq (Bool.and_eq_true_iff.mp ht).1
  kind := fun i k hi => by
    obtain ⟨x, hx, hl⟩ := tabOk_get ht hi
    refine ⟨x, hx, ?_⟩
    cases k with
    | cell => exact absurd rfl (hfree _ (mem_of_lookup (α := NameKind) hl)).2
    | free => exact absurd rfl (hfree _ (mem_of_lookup (α := NameKind) hl)).1
    | _ => exact hl
  cell := fun x c hx => by
    have hx' : (cellsFrom (L + 1) fd.scope.names []).lookup x = some c := hx
    rcases cellsFrom_mem (mem_of_lookup hx') with h | h
    · cases h
    · exact absurd rfl (hfree _ h).2
  inj := fun x y c hc _ _ => by cases hc
  loL := hL
  loc := fun c hc => by cases hc
  loi := fun p hp => by cases hp
  Lc := fun hc => by cases hc
  Li := fun p hp => by cases hp
  ci := fun p hp => by cases hp
  bm := hP

theorem FnI.intro' (tab : List (Nat × NameKind)) {F : Frag → World → Prop} {n : Nat} {f C : Addr} {ps : List PV} {ks : List Str} {fs : List PV} {body : List Stmt} {sc : Scope} (is : List Nat) (xs : List Str) (hF : ∀ K w, F K w → FD K f body sc (Str.ofString "self" :: xs))
    (hk : sc.kind = .function) (hco : sc.isCoroutine = false) (hgen : sc.isGenerator = false)
    (ht : tabOk tab sc.names = true) (hfree : ∀ x ∈ sc.names, x.2 ≠ .free ∧ x.2 ≠ .cell)
    (hloc : (Str.ofString "self" :: xs).all (fun x => sc.names.lookup x == some .local) = true) (hxs : (2 :: is).map (fun i => allNames[i]?) = (Str.ofString "self" :: xs).map some) (hnd : (2 :: is).Nodup) (hlen : ps.length = xs.length)
    (h : ∀ X : Fx tab, X.n = n → F X.K X.w → X.env.scope = sc → ∀ xb, ∃ e', Ex X ((2, .obj xb C [] []) :: is.zip (ps.map Slot.val)) (execs body X.env) .next e' ∧ e'.lookup 2 = some (.obj xb C ks fs)) : FnI F (n + 1) f C ps ks fs := fun w K A s P hFK hr htk hst hP vs hv => by
  obtain ⟨oc, od, osl, fd, hK, hbody, hcl, hcd, hsc, hg, hb, hbind⟩ := hF K w hFK
  subst hsc
  have hsc : fd.scope = fd.scope := rfl
  have hlv : vs.length = xs.length := by rw [hv.length, hlen]
  obtain ⟨p, loose, mg, mb, T⟩ := hst.top
  have kp : ∀ b o, s.heap.get? b = some o → ((s.heap.push emptyDict).push (instObj C s.heap.objs.size)).get? b = some o := fun b o hb => Heap.get?_push_of_some _ (Heap.get?_push_of_some _ hb)
  have sz1 : (s.heap.push emptyDict).objs.size = s.heap.objs.size + 1 := Heap.size_push ..
  have sz2 : ((s.heap.push emptyDict).push (instObj C s.heap.objs.size)).objs.size = s.heap.objs.size + 2 := by rw [Heap.size_push, sz1]
  have gx : ((s.heap.push emptyDict).push (instObj C s.heap.objs.size)).get? (s.heap.objs.size + 1) = some (instObj C s.heap.objs.size) := by rw [← sz1]; exact Heap.get?_push_size _ rfl
  have gd : ((s.heap.push emptyDict).push (instObj C s.heap.objs.size)).get? s.heap.objs.size = some (dictOf [] 0) := Heap.get?_push_of_some _ (Heap.get?_push_size _ rfl)
  generalize hH : (s.heap.push emptyDict).push (instObj C s.heap.objs.size) = H at *
  have st' : Stat K H := hst.keeps kp
  refine call_cells (s := { s with heap := H }) (by have := hr.depth; show A.depth < 1000; omega) (st'.K _ _ hK) rfl (T.keeps kp).nolimit (codeRec_of st'.K hcd) hbody (hbind (.ref (s.heap.objs.size + 1) :: vs) (by simp [hlv])) hcl htk (fun x hx => ?_) (fun s₁ ht₁ ic => ?_) hco hgen hk
  · have := (List.of_mem_zip hx).1
    simpa using List.all_eq_true.mp hloc _ this
  · obtain ⟨e', hE, hself⟩ := h (fxI tab K n w A fd f s H.objs.size P) rfl hFK hsc (s.heap.objs.size + 1)
    have ok := fxI_ok (tab := tab) (K := K) (n := n) (w := w) (a := f) (L := H.objs.size) hr hst hP ht hk hg hb hfree (by rw [sz2]; omega)
    have hkx : ∀ y ∈ (Str.ofString "self" :: xs), (callEnvC fd H.objs.size f).kindOf y = some .local := fun y hy => by
      show fd.scope.names.lookup y = some .local
      simpa using List.all_eq_true.mp hloc _ hy
    have hn2 : allNames[2]? = some (Str.ofString "self") := rfl
    have mut1 : ∀ i, isMut (((2, Slot.obj (s.heap.objs.size + 1) C [] []) : Nat × Slot) :: is.zip (ps.map Slot.val)) i → i = 2 := fun i ⟨sl, hl, hm⟩ => by
      rw [List.lookup_cons] at hl
      by_cases q : i = 2
      · exact q
      · have : (i == 2) = false := by simpa using q
        rw [this] at hl
        obtain ⟨j, _, hj2⟩ := lookup_zip hl
        rw [List.getElem?_map] at hj2
        cases hq : ps[j]? with
        | none => rw [hq] at hj2; cases hj2
        | some p => rw [hq] at hj2; cases hj2; cases hm
    have fresh : ∀ {b o}, s.heap.get? b = some o → b < s.heap.objs.size := fun h => Heap.lt_size h
    have hMut : ∀ b, Mut (fxI tab K n w A fd f s H.objs.size P) ((2, Slot.obj (s.heap.objs.size + 1) C [] []) :: is.zip (ps.map Slot.val)) (fun _ => s.heap.objs.size) b → P b ∨ b = H.objs.size ∨ b = s.heap.objs.size := fun b q => by
      rcases q with q | q | q | ⟨p, hp, _⟩ | ⟨i, _, hi⟩
      · exact .inl q
      · exact .inr (.inl q)
      · cases q
      · cases hp
      · exact .inr (.inr hi)
    have t : Tr P s.heap (Mut (fxI tab K n w A fd f s H.objs.size P) ((2, Slot.obj (s.heap.objs.size + 1) C [] []) :: is.zip (ps.map Slot.val)) fun _ => s.heap.objs.size) s₁.heap := fun b o hn ho => ⟨fun q => by
      have lt := fresh ho
      rcases hMut b q with q | q | q
      · exact hn q
      · rw [q] at lt; have lt' : H.objs.size < s.heap.objs.size := lt; omega
      · rw [q] at lt; exact Nat.lt_irrefl _ lt, ic.toInCall.keep b o (kp b o ho)⟩
    have R : Rel (fxI tab K n w A fd f s H.objs.size P) ((2, .obj (s.heap.objs.size + 1) C [] []) :: is.zip (ps.map Slot.val)) (fun _ => s.heap.objs.size) s₁ := by
      refine ⟨?_, ht₁, fun b o hb => ic.toInCall.keep b o (kp b o hb), ⟨_, ic.toInCall.ns⟩, fun c hc => (by cases hc), fun p hp => (by cases hp), fun i hi => ?_, fun i hi => ?_, fun i hi hc => (by cases hc), fun i hi p hp => (by cases hp), fun i j hi hj _ => (mut1 i hi).trans (mut1 j hj).symm, fun i sl hl => ?_⟩
      · obtain ⟨h', tk, rfl⟩ := ic.toInCall.same; exact ⟨h', tk, rfl⟩
      · exact fresh_size
      · show s.heap.objs.size ≠ H.objs.size; omega
      · rw [List.lookup_cons] at hl
        by_cases q : i = 2
        · subst q
          simp at hl; subst hl
          refine ⟨_, hn2, [], 0, ?_, fun q => ?_, ic.toInCall.keep _ _ gx, ic.toInCall.keep _ _ gd, rfl, RepL.nil⟩
          · have hk' : (fxI tab K n w A fd f s H.objs.size P).env.kindOf (Str.ofString "self") = some .local := hkx _ List.mem_cons_self
            unfold Fx.varOf
            rw [hk']
            exact ⟨_, ic.toInCall.ns, bindL_get (names_nd hxs hnd) hkx (j := 0) rfl rfl⟩
          · rcases hMut _ q with q | q | q
            · obtain ⟨o, ho⟩ := hP _ q
              have lt' : s.heap.objs.size + 1 < s.heap.objs.size := fresh ho
              omega
            · have q' : s.heap.objs.size + 1 = H.objs.size := q
              omega
            · have q' : s.heap.objs.size + 1 = s.heap.objs.size := q
              omega
        · have : (i == 2) = false := by simpa using q
          rw [this] at hl
          obtain ⟨j, hj1, hj2⟩ := lookup_zip hl
          obtain ⟨p, hp, rfl⟩ : ∃ p, ps[j]? = some p ∧ sl = .val p := by
            rw [List.getElem?_map] at hj2
            cases hq : ps[j]? with
            | none => rw [hq] at hj2; cases hj2
            | some p => rw [hq] at hj2; cases hj2; exact ⟨p, rfl, rfl⟩
          obtain ⟨v, hv1, hv2⟩ := hv.get hp
          obtain ⟨x, hx1, hx2⟩ : ∃ x, xs[j]? = some x ∧ allNames[i]? = some x := by
            have := congrArg (fun l => l[j + 1]?) hxs
            simp only [List.map_cons, List.getElem?_cons_succ, List.getElem?_map, hj1, Option.map_some] at this
            cases hq : xs[j]? with
            | none => rw [hq] at this; cases this
            | some x => rw [hq] at this; exact ⟨x, rfl, Option.some.inj this⟩
          refine ⟨x, hx2, v, ?_, Rep.tr t _ _ hv2⟩
          have hk' : (fxI tab K n w A fd f s H.objs.size P).env.kindOf x = some .local := hkx x (List.mem_cons_of_mem _ (List.mem_of_getElem? hx1))
          unfold Fx.varOf
          rw [hk']
          exact ⟨_, ic.toInCall.ns, bindL_get (names_nd hxs hnd) hkx (j := j + 1) (by simpa using hx1) (by simpa using hv1)⟩
    refine wpAny_mono (hE ok _ s₁ R) (fun fl s' h' => ?_) fun _ _ h => h.elim
    obtain ⟨ρ', R', t', hf⟩ := h'
    have hf' : fl = .next := hf
    subst hf'
    refine ⟨rfl, ?_, ?_⟩
    · obtain ⟨h', tk, rfl⟩ := R'.same
      exact ⟨h', tk, rfl, fun _ => R'.tok, R'.keep⟩
    · obtain ⟨R2, t2⟩ := R'.freezeObj ok hself
      obtain ⟨y, hy, v, hv', hr'⟩ := R2.names 2 (.val (.inst C ks fs)) (by rw [PEnv.lookup_set, if_pos rfl])
      obtain ⟨y', hy', es, n', hv'', _⟩ := R'.names 2 _ hself
      rw [hy] at hy'; cases hy'
      have e1 : v = .ref (s.heap.objs.size + 1) := by
        unfold Fx.varOf at hv' hv''
        have hk' : (fxI tab K n w A fd f s H.objs.size P).env.kindOf y = some .local := by
          rw [hn2] at hy; cases hy; exact hkx _ List.mem_cons_self
        rw [hk'] at hv' hv''
        obtain ⟨m1, a1, b1⟩ := hv'
        obtain ⟨m2, a2, b2⟩ := hv''
        rw [ns_unique a1 a2, b2] at b1
        exact (Option.some.inj b1).symm
      rw [← e1]
      exact Rep.tr (fun b o hn ho => ⟨fun q => hn (.inl q), ho⟩) _ _ hr'

end Mine
end

section
open PySem PySem.W PyProof.Rows PySem.Calls
set_option Elab.async false
set_option linter.unusedVariables false
set_option maxRecDepth 100000
namespace Mine

section
variable {tab : List (Nat × NameKind)} {X : Fx tab} {e e₁ e₂ e₃ : PEnv} {p q out : PV} {f : PF}

def NB (K : Frag) : Prop := ∀ h : Heap, K.In h → NoneBooked h
theorem NB.of {K : Frag} {c : Value} {od : Option Addr} {es : Array DictEntry} {n : Nat} {sl : Array (Option Value)} (hl : K.lookup cStatics = some ⟨c, od, .dict es n, sl⟩) (hk : StrKeys es) (hn : nsFind es sharingNotToldKey = none) : NB K :=
  fun h hK => ⟨fun x => nsFind es x, ⟨_, es, n, hK _ _ hl, rfl, hk, fun _ => rfl⟩, hn⟩

/-- o.replace('y', 'z') -/
theorem Ev.replaceCC {o : Expr} {apos p1 p2 pos : Pos} {k1 k2 : Nat} {x y z : Str} (ho : Ev X e (eval o X.env) (.str x) e₁) (hb : x.length + (x.length + 1) * z.length ≤ 16777216) (hnb : NB X.K)
    (hbase : attributeBase o "replace" X.env (eval o X.env) = eval o X.env)
    (hargs : backTo pos (starEach [.Constant (.str y) k1 p1, .Constant (.str z) k2 p2] X.env) = [(false, eval (.Constant (.str y) k1 p1) X.env), (false, eval (.Constant (.str z) k2 p2) X.env)])
    (hfew : methodCallForm (2 + 0) (backTo pos (starEach [.Constant (.str y) k1 p1, .Constant (.str z) k2 p2] X.env)) (backToKw pos (keywordEach [] X.env)) = true) (hline : (apos.endLine == pos.line) = true) :
    Ev X e (eval (.Call (.Attribute o "replace" apos) [.Constant (.str y) k1 p1, .Constant (.str z) k2 p2] [] pos) X.env) (.str (Txt.replace x y z)) e₁ := fun ok ρ s R => by
  refine methodOn hbase hfew hline (wpAny_mono (ho ok ρ s R) (fun v s1 h1 => ?_) fun _ _ h => h)
  obtain ⟨R1, t1, rv⟩ := h1
  obtain ⟨t, rfl⟩ := rep_str_inv rv
  refine ⟨.builtin "str.replace", [.str x t], fun pl Q' hq => getMethod_builtin (typeIs_str _ _ _) F.plainAttrs_str F.slot_str_replace F.type_str_replace (fun a h => by cases h) hq, ?_⟩
  rw [hargs]
  refine callWith_builtin rfl (evalArgs_plain (spliced_cons (Constant_str (spliced_cons (Constant_str (spliced_nil ?_))))))
  have h0 := R1.tok
  refine tokd (PySem.SC.replaceA (u := s1.toks) (v := s1.toks + 1) (by show @Ne Nat _ _; omega) (by show @Ne Nat _ _; omega) (by show @Ne Nat _ _; omega) hb (fun t' k ht => ?_) (hnb _ (R1.cx ok).stat.K))
  obtain ⟨R2, t2⟩ := R1.keepsL ok (Kp.tok s1 k (fun h => ht (Nat.lt_of_lt_of_le h (by show s1.toks ≤ s1.toks + 1 + 1; omega)))).toL
  exact ⟨R2, t1.trans t2, rep_str⟩

inductive PartC : Option Expr → Option Int → Prop
  | none : PartC none none
  | some {i k pos} : PartC (some (.Constant (.int i) k pos)) (some i)
theorem PartC.eval {o : Option Expr} {lo : Option Int} (h : PartC o lo) {A : Around} {w : World} {env : Env} {s : Shared} {Q : Value → Shared → Prop} (hq : ∀ l tk, l.map (·.1) = lo → s.toks ≤ tk → Q (partValue l) { s with toks := tk }) :
    wpAny (model prg w) A (evalPart o env) Q No s := by
  cases h with
  | none => rw [evalPart_none]; exact wpAny_pure (hq Option.none s.toks rfl (Nat.le_refl _))
  | some =>
    show wpAny _ _ (PySem.eval _ env) _ _ s
    exact wpAny_Constant_int (hq (Option.some (_, s.toks)) (s.toks + 1) rfl (Nat.le_succ _))

/-- o.replace('y', u[a:b]), where u[a:b] is not the whole of u -/
theorem Ev.replaceCS {o : Expr} {apos p1 np sp rp pos : Pos} {k1 : Nat} {x y u : Str} {ux : Str} {i : Nat} {k : NameKind} {lower upper : Option Expr} {lo hi : Option Int} (ho : Ev X e (eval o X.env) (.str x) e₁)
    (hx : allNames[i]? = some ux) (hi' : tab.lookup i = some k) (he : e₁.lookup i = some (.val (.str u))) (hk : isVar k = true) (hlo : PartC lower lo) (hup : PartC upper hi)
    (hpart : ∀ l r : Option (Int × Tok), l.map (·.1) = lo → r.map (·.1) = hi → ∃ z', PySem.Txt.slice u lo hi = z' ∧ (∀ t, sliceMade u t l r none = Made.str z') ∧ z'.length ≤ sizeLine)
    (hb : x.length + (x.length + 1) * (PySem.Txt.slice u lo hi).length ≤ 16777216) (hnb : NB X.K)
    (hbase : attributeBase o "replace" X.env (eval o X.env) = eval o X.env)
    (hargs : backTo pos (starEach [.Constant (.str y) k1 p1, .Subscript (.Name ux np) (.Slice lower upper none sp) rp] X.env) = [(false, eval (.Constant (.str y) k1 p1) X.env), (false, eval (.Subscript (.Name ux np) (.Slice lower upper none sp) rp) X.env)])
    (hfew : methodCallForm (2 + 0) (backTo pos (starEach [.Constant (.str y) k1 p1, .Subscript (.Name ux np) (.Slice lower upper none sp) rp] X.env)) (backToKw pos (keywordEach [] X.env)) = true) (hline : (apos.endLine == pos.line) = true) :
    Ev X e (eval (.Call (.Attribute o "replace" apos) [.Constant (.str y) k1 p1, .Subscript (.Name ux np) (.Slice lower upper none sp) rp] [] pos) X.env) (.str (Txt.replace x y (PySem.Txt.slice u lo hi))) e₁ := fun ok ρ s R => by
  refine methodOn hbase hfew hline (wpAny_mono (ho ok ρ s R) (fun v s1 h1 => ?_) fun _ _ h => h)
  obtain ⟨R1, t1, rv⟩ := h1
  obtain ⟨t, rfl⟩ := rep_str_inv rv
  refine ⟨.builtin "str.replace", [.str x t], fun pl Q' hq => getMethod_builtin (typeIs_str _ _ _) F.plainAttrs_str F.slot_str_replace F.type_str_replace (fun a h => by cases h) hq, ?_⟩
  rw [hargs]
  have h0 := R1.tok
  refine callWith_builtin rfl (evalArgs_plain (spliced_cons (Constant_str (spliced_cons (wpAny_Subscript_str_slice ?_ (fun _ _ => rfl))))))
  obtain ⟨R2, t2⟩ := R1.keepsL ok (Kp.tok s1 (s1.toks + 1)).toL
  obtain ⟨y', hy', v, hv, hr⟩ := R2.names i _ he
  rw [hx] at hy'; cases hy'
  refine loadVar ok hi' hx (isVar_or hk) hv ?_ (plainName hx)
  obtain ⟨tu, rfl⟩ := rep_str_inv hr
  refine hlo.eval fun l tk1 hl htk1 => hup.eval fun r tk2 hr2 htk2 => ⟨u, tu, l, r, rfl, rfl, rfl, ?_⟩
  obtain ⟨z', hz1, hz2, hz3⟩ := hpart l r hl hr2
  rw [hz2]
  refine ⟨hz3, spliced_nil ?_⟩
  rw [hz1] at hb ⊢
  have g1 : s1.toks + 1 ≤ tk1 := htk1
  have g2 : tk1 ≤ tk2 := htk2
  refine tokd (PySem.SC.replaceA (u := s1.toks) (v := tk2) (by show @Ne Nat _ _; omega) (by show @Ne Nat _ _; omega) (by show @Ne Nat _ _; omega) hb (fun t' k ht => ?_) ?_)
  · have kk : Kp s1 { s1 with heap := s1.heap.push { cls := .type "slice", data := .fields #[partValue l, partValue r, .none] }, toks := k } :=
      Kp.push s1 _ k (fun h => ht (by show 0 < tk2 + 1; omega))
    obtain ⟨R3, t3⟩ := R1.keepsL ok kk.toL
    exact ⟨R3, t1.trans t3, rep_str⟩
  · refine hnb _ ?_
    have := (R1.cx ok).stat.keeps (h' := s1.heap.push { cls := .type "slice", data := .fields #[partValue l, partValue r, .none] }) fun b o hb => Heap.get?_push_of_some _ hb
    exact this.K
end
end Mine
end

section
open PySem PySem.W PyProof.Rows PySem.Calls
set_option Elab.async false
set_option linter.unusedVariables false
set_option maxRecDepth 100000
namespace Mine

section
variable {tab : List (Nat × NameKind)} {X : Fx tab} {e e₁ e₂ e₃ : PEnv} {p q out : PV} {f : PF}

theorem Mut.its {X : Fx tab} {l l' : List (Addr × Obj)} (h : ∀ p, p ∈ l ↔ p ∈ l') {e ρ} : Mut (X.withIts l) e ρ = Mut (X.withIts l') e ρ := by
  funext a
  have : (∃ p ∈ l, p.1 = a) ↔ ∃ p ∈ l', p.1 = a := ⟨fun ⟨p, x, y⟩ => ⟨p, (h p).mp x, y⟩, fun ⟨p, x, y⟩ => ⟨p, (h p).mpr x, y⟩⟩
  have this' : (∃ p ∈ (X.withIts l).its, p.1 = a) = ∃ p ∈ (X.withIts l').its, p.1 = a := propext this
  unfold Mut
  rw [this']
theorem Rel.its_eq {X : Fx tab} {l l' : List (Addr × Obj)} (h : ∀ p, p ∈ l ↔ p ∈ l') {e ρ s} (r : Rel (X.withIts l) e ρ s) : Rel (X.withIts l') e ρ s := by
  refine ⟨r.same, r.tok, r.keep, r.ns, r.cells, fun p hp => r.its p ((h p).mpr hp), r.lo, r.apL, r.apc, fun i hi p hp => r.api i hi p ((h p).mpr hp), r.apo, fun i sl hl => ?_⟩
  obtain ⟨x, hx, hs⟩ := r.names i sl hl
  refine ⟨x, hx, ?_⟩
  rw [← Mut.its h]
  cases sl <;> exact hs
theorem Fx.Ok.its_eq {X : Fx tab} {l l' : List (Addr × Obj)} (h : ∀ p, p ∈ l ↔ p ∈ l') (o : (X.withIts l).Ok) : (X.withIts l').Ok where
  room := o.room
  fn := o.fn
  glob := o.glob
  blt := o.blt
  stat := o.stat
  noq := o.noq
  kind := o.kind
  cell := o.cell
  inj := o.inj
  loL := o.loL
  loc := o.loc
  loi := fun p hp => o.loi p ((h p).mpr hp)
  Lc := o.Lc
  Li := fun p hp => o.Li p ((h p).mpr hp)
  ci := fun p hp => o.ci p ((h p).mpr hp)
  bm := o.bm

/-- a value of a tuple that is taken apart: an atom or a fresh list -/
inductive MV where
  | val (p : PV)
  | own (ps : List PV)
inductive Match : List MV → List Value → List (Addr × Obj) → Prop
  | nil : Match [] [] []
  | val {p v ms vs L} : p.atom = true → (∀ h P, Rep h P p v) → Match ms vs L → Match (.val p :: ms) (v :: vs) L
  | own {ps ws a n ms vs L} : Atoms ps ws → Match ms vs L → Match (.own ps :: ms) (.ref a :: vs) ((a, LObj ws n) :: L)
theorem Match.append : ∀ {ms ms' vs vs' L L'}, Match ms vs L → Match ms' vs' L' → Match (ms ++ ms') (vs ++ vs') (L ++ L')
  | _, _, _, _, _, _, .nil, y => y
  | _, _, _, _, _, _, .val a b x, y => .val a b (x.append y)
  | _, _, _, _, _, _, .own a x, y => .own a (x.append y)
theorem Match.reverse : ∀ {ms vs L}, Match ms vs L → Match ms.reverse vs.reverse L.reverse
  | _, _, _, .nil => .nil
  | _, _, _, .val a b x => by
    rw [List.reverse_cons, List.reverse_cons]
    simpa using x.reverse.append (.val a b .nil)
  | _, _, _, .own a x => by
    rw [List.reverse_cons, List.reverse_cons, List.reverse_cons]
    exact x.reverse.append (.own a .nil)
theorem Match.length : ∀ {ms vs L}, Match ms vs L → vs.length = ms.length
  | _, _, _, .nil => rfl
  | _, _, _, .val _ _ x => by simp [x.length]
  | _, _, _, .own _ x => by simp [x.length]

def EvM (X : Fx tab) (e : PEnv) (ts : List (Bool × Sem Value)) (ms : List MV) : Prop := ∀ l : List (Addr × Obj), (X.withIts l).Ok → ∀ ρ s, Rel (X.withIts l) e ρ s →
  wpAny (model prg X.w) X.A (spliced ts) (fun vs s' => ∃ L, Match ms vs L ∧ (X.withIts (L ++ l)).Ok ∧ Rel (X.withIts (L ++ l)) e ρ s' ∧ Tr (Mut (X.withIts l) e ρ) s.heap (Mut (X.withIts (L ++ l)) e ρ) s'.heap ∧ (L.map (·.1)).Nodup ∧
    ∀ p ∈ L, ∀ q ∈ l, p.1 ≠ q.1) No s
theorem EvM.nil : EvM X e [] [] := fun l ok ρ s R => spliced_nil ⟨[], .nil, ok, R, Tr.refl, .nil, fun p hp => by cases hp⟩
theorem EvM.val {t : Sem Value} {ts : List (Bool × Sem Value)} {ms : List MV} (h : ∀ l, Ev (X.withIts l) e t p e) (ha : p.atom = true) (h2 : EvM X e ts ms) : EvM X e ((false, t) :: ts) (.val p :: ms) := fun l ok ρ s R =>
  spliced_cons (wpAny_mono (h l ok ρ s R) (fun v s1 ⟨R1, t1, rv⟩ => wpAny_mono (h2 l ok ρ s1 R1) (fun vs s2 ⟨L, hm, ok2, R2, t2, nd, ap⟩ =>
    ⟨L, .val ha (fun _ _ => Rep.atom ha rv) hm, ok2, R2, t1.trans t2, nd, ap⟩) fun _ _ h => h) fun _ _ h => h)
theorem EvM.own {t : Sem Value} {ts : List (Bool × Sem Value)} {ms : List MV} {ps : List PV} (h : ∀ l, EvF (X.withIts l) e t ps) (h2 : EvM X e ts ms) : EvM X e ((false, t) :: ts) (.own ps :: ms) := fun l ok ρ s R =>
  spliced_cons (wpAny_mono (h l ok ρ s R) (fun v s1 h1 => by
    obtain ⟨a, vs, n, sm, rfl, Rm, tm, hn, kp, hg, at_⟩ := h1
    obtain ⟨okp, R1, t1⟩ := Rm.push ok kp hn hg
    have ne := its_ne Rm hn
    refine wpAny_mono (h2 ((a, LObj vs n) :: l) okp ρ s1 R1) (fun ws s2 h2 => ?_) fun _ _ h => h
    obtain ⟨L, hm, ok2, R2, t2, nd, ap⟩ := h2
    have eqv : ∀ p, p ∈ L ++ (a, LObj vs n) :: l ↔ p ∈ (a, LObj vs n) :: L ++ l := fun p => by
      simp only [List.mem_append, List.mem_cons, List.cons_append]
      constructor
      · rintro (h | h | h)
        · exact .inr (.inl h)
        · exact .inl h
        · exact .inr (.inr h)
      · rintro (h | h | h)
        · exact .inr (.inl h)
        · exact .inl h
        · exact .inr (.inr h)
    refine ⟨(a, LObj vs n) :: L, .own at_ hm, ok2.its_eq eqv, R2.its_eq eqv, ?_, ?_, fun p hp q hq => ?_⟩
    · have := (tm.trans t1).trans t2
      rw [Mut.its eqv] at this
      exact this
    · rw [List.map_cons, List.nodup_cons]
      refine ⟨fun hc => ?_, nd⟩
      obtain ⟨p, hp, hpa⟩ := List.mem_map.mp hc
      exact ap p hp _ List.mem_cons_self hpa
    · rcases List.mem_cons.mp hp with rfl | hp
      · exact fun z => ne q hq z.symm
      · exact ap p hp q (List.mem_cons_of_mem _ hq)) fun _ _ h => h)

def setAllM : PEnv → List Nat → List MV → PEnv
  | e, i :: is, .val p :: ms => setAllM (e.set i (.val p)) is ms
  | e, i :: is, .own ps :: ms => setAllM (e.set i (.own ps)) is ms
  | e, _, _ => e

theorem storeAllM : ∀ {ts : List (Value → Sem Unit)} {is : List Nat} {ms : List MV} {vs : List Value} {L : List (Addr × Obj)} {e : PEnv} {ρ : Nat → Addr} {s : Shared}, Tgts tab X.env ts is → (X.withIts (L ++ X.its)).Ok → Rel (X.withIts (L ++ X.its)) e ρ s → Match ms vs L → ms.length = is.length →
    (L.map (·.1)).Nodup → (∀ p ∈ L, ∀ q ∈ X.its, p.1 ≠ q.1) →
    wpAny (model prg X.w) X.A (assignInOrder ts vs) (fun _ s' => ∃ ρ', Rel X (setAllM e is ms) ρ' s' ∧ Tr (Mut (X.withIts (L ++ X.its)) e ρ) s.heap (Mut X (setAllM e is ms) ρ') s'.heap) No s
  | _, _, ms, vs, L, e, ρ, s, .nil, ok, R, m, hl, _, _ => by
    cases m with
    | nil => exact assignIn_nil ⟨ρ, R, Tr.refl⟩
    | val _ _ _ => cases hl
    | own _ _ => cases hl
  | _, _, ms, vs, L, e, ρ, s, .cons (t := t) (ts := ts) (i := i) (is := is) h hr, ok, R, m, hl, nd, ap => by
    obtain ⟨x, k, hx, hi, hk, hw⟩ := h.ex
    cases m with
    | nil => cases hl
    | val ha hrep m =>
      refine assignIn_cons (hw _ _ _ _ _ (storeName_ok ok R hi hx (stor_or hk) (fun s2 st => ?_)))
      obtain ⟨R2, t2⟩ := R.store ok hx st (hrep _ _)
      exact wpAny_mono (storeAllM hr ok R2 m (by simpa using hl) nd ap) (fun _ s3 ⟨ρ3, R3, t3⟩ => ⟨ρ3, R3, t2.trans t3⟩) fun _ _ h => h
    | @own ps ws a n ms vs L hat m =>
      rw [List.map_cons, List.nodup_cons] at nd
      have okp : ((X.withIts (L ++ X.its)).push a (LObj ws n)).Ok := ok
      have Rp : Rel ((X.withIts (L ++ X.its)).push a (LObj ws n)) e ρ s := R
      refine assignIn_cons (hw _ _ _ _ _ (storeName_ok okp Rp hi hx (stor_or hk) (fun s2 st => ?_)))
      have st' : Stored (X.withIts (L ++ X.its)) x (.ref a) s s2 := ⟨st.same, st.at_, st.ns, st.cells, st.this, st.other⟩
      have hap : ∀ p ∈ (X.withIts (L ++ X.its)).its, p.1 ≠ a := fun p hp => by
        rcases List.mem_append.mp hp with hp | hp
        · exact fun z => nd.1 (List.mem_map.mpr ⟨p, hp, z⟩)
        · exact fun z => ap _ List.mem_cons_self p hp z.symm
      obtain ⟨R2, t2⟩ := Rp.storeOwn okp hx hap st' (hat _ _)
      exact wpAny_mono (storeAllM hr okp.pop R2 m (by simpa using hl) nd.2 fun p hp => ap p (List.mem_cons_of_mem _ hp)) (fun _ s3 ⟨ρ3, R3, t3⟩ => ⟨ρ3, R3, t2.trans t3⟩) fun _ _ h => h

/-- (x, y, ..) = (v, w, ..), stored in the order of writing -/
theorem Ex.unpackM {elts velts : List Expr} {k vk : Nat} {tpos vpos pos : Pos} {ms : List MV} {is : List Nat} (h : EvM X e (backTo vpos (starEach velts X.env)) ms) (ht : Tgts tab X.env ((assignEach elts X.env).map (·.2)) is) (hl : ms.length = is.length) (hsz : ms.length ≤ 100)
    (hn : (assignEach elts X.env).length = is.length) (hstar : (assignEach elts X.env).findIdx? (·.1) = none)
    (hs : swapsWithSole [.Tuple elts k tpos] (.Tuple velts vk vpos) pos.line X.env = pure false) (hw : swappedStores [.Tuple elts k tpos] (.Tuple velts vk vpos) X.env = pure none) :
    Ex X e (exec (.Assign [.Tuple elts k tpos] (.Tuple velts vk vpos) pos) X.env) .next (setAllM e is ms) := fun ok ρ s R =>
  Assign_Tuple (Tuple_ (wpAny_mono (h X.its ok ρ s R) (fun vs s1 h1 => by
    obtain ⟨L, hm, ok1, R1, t1, nd, ap⟩ := h1
    have hlen := hm.length
    refine wpAny_newTuple ?_ (by have : (100 : Nat) ≤ sizeLine := by decide
                                 omega)
    have kp := Kp.push s1 (TObj vs 0) s1.toks
    obtain ⟨R2, t2⟩ := R1.keepsL ok1 kp.toL
    show wpAny _ _ (do standAt tpos; PySem.unpack _ (assignEach elts X.env)) _ _ _
    refine wpAny_bind (wpAny_standAt (unpack_tuple ok.room.handled (items := vs.toArray) ⟨_, Heap.get?_push_size _ rfl, rfl, 0, rfl⟩ (by simp [hn, hlen, hl]) hstar (fun h' hx => ?_)))
    obtain ⟨R3, t3⟩ := R2.keepsL ok1 (extBut_keeps hx)
    exact wpAny_mono (storeAllM ht ok1 R3 hm hl nd ap) (fun _ s4 ⟨ρ4, R4, t4⟩ => ⟨ρ4, R4, ((t1.trans t2).trans t3).trans t4, rfl⟩) fun _ _ h => h) fun _ _ h => h)) hs hw
/-- the same where the stores are exchanged -/
theorem Ex.unpackMS {elts velts : List Expr} {k vk : Nat} {tpos vpos pos : Pos} {ms : List MV} {names : List Str} {is : List Nat} (h : EvM X e (backTo vpos (starEach velts X.env)) ms) (ht : Tgts tab X.env (names.reverse.map fun n => bindName X.env n) is) (hl : ms.length = is.length) (hsz : ms.length ≤ 100)
    (hn : names.length = is.length)
    (hs : swapsWithSole [.Tuple elts k tpos] (.Tuple velts vk vpos) pos.line X.env = pure false) (hw : swappedStores [.Tuple elts k tpos] (.Tuple velts vk vpos) X.env = pure (some names)) :
    Ex X e (exec (.Assign [.Tuple elts k tpos] (.Tuple velts vk vpos) pos) X.env) .next (setAllM e is ms.reverse) := fun ok ρ s R =>
  Assign_Tuple_swapped (Tuple_ (wpAny_mono (h X.its ok ρ s R) (fun vs s1 h1 => by
    obtain ⟨L, hm, ok1, R1, t1, nd, ap⟩ := h1
    have hlen := hm.length
    refine wpAny_newTuple ?_ (by have : (100 : Nat) ≤ sizeLine := by decide
                                 omega)
    have kp := Kp.push s1 (TObj vs 0) s1.toks
    obtain ⟨R2, t2⟩ := R1.keepsL ok1 kp.toL
    have e1 : names.length = vs.toArray.size := by simp [hn, hlen, hl]
    rw [e1]
    refine unpackItems_tuple ok.room.handled (items := vs.toArray) ⟨_, Heap.get?_push_size _ rfl, rfl, 0, rfl⟩ (fun h' hx => ?_)
    obtain ⟨R3, t3⟩ := R2.keepsL ok1 (extBut_keeps hx)
    have eqv : ∀ p, p ∈ L ++ X.its ↔ p ∈ L.reverse ++ X.its := fun p => by simp
    have fin := storeAllM ht (ok1.its_eq eqv) (R3.its_eq eqv) hm.reverse (by simpa using hl) (by rw [List.map_reverse]; exact (List.pairwise_reverse.mpr (nd.imp fun h => Ne.symm h))) (fun p hp => ap p (by simpa using hp))
    rw [← Mut.its eqv] at fin
    exact wpAny_mono fin (fun _ s4 ⟨ρ4, R4, t4⟩ => ⟨ρ4, R4, ((t1.trans t2).trans t3).trans t4, rfl⟩) fun _ _ h => h) fun _ _ h => h)) hs hw
end
end Mine
end

section
open PySem PySem.W PyProof.Rows PySem.Calls
set_option Elab.async false
set_option linter.unusedVariables false
set_option maxRecDepth 100000
namespace Mine

section
variable {tab : List (Nat × NameKind)} {X : Fx tab} {e e₁ e₂ e₃ : PEnv} {p q out : PV} {f : PF}

theorem Mut.withIts {l : List (Addr × Obj)} {e ρ b} : Mut (X.withIts (l ++ X.its)) e ρ b ↔ Mut X e ρ b ∨ ∃ p ∈ l, p.1 = b := by
  unfold Mut
  constructor
  · rintro (h | h | h | ⟨p, hp, rfl⟩ | h)
    · exact .inl (.inl h)
    · exact .inl (.inr (.inl h))
    · exact .inl (.inr (.inr (.inl h)))
    · rcases List.mem_append.mp hp with hp | hp
      · exact .inr ⟨p, hp, rfl⟩
      · exact .inl (.inr (.inr (.inr (.inl ⟨p, hp, rfl⟩))))
    · exact .inl (.inr (.inr (.inr (.inr h))))
  · rintro ((h | h | h | ⟨p, hp, rfl⟩ | h) | ⟨p, hp, rfl⟩)
    · exact .inl h
    · exact .inr (.inl h)
    · exact .inr (.inr (.inl h))
    · exact .inr (.inr (.inr (.inl ⟨p, List.mem_append_right _ hp, rfl⟩)))
    · exact .inr (.inr (.inr (.inr h)))
    · exact .inr (.inr (.inr (.inl ⟨p, List.mem_append_left _ hp, rfl⟩)))

theorem Fx.Ok.addIts {l : List (Addr × Obj)} (ok : X.Ok) (h : ∀ p ∈ l, X.s₀.heap.get? p.1 = none ∧ p.1 ≠ X.L ∧ p.1 ∉ X.oc) : (X.withIts (l ++ X.its)).Ok where
  room := ok.room
  fn := ok.fn
  glob := ok.glob
  blt := ok.blt
  stat := ok.stat
  noq := ok.noq
  kind := ok.kind
  cell := ok.cell
  inj := ok.inj
  loL := ok.loL
  loc := ok.loc
  loi := fun p hp => (List.mem_append.mp hp).elim (fun z => (h p z).1) (ok.loi p)
  Lc := ok.Lc
  Li := fun p hp => (List.mem_append.mp hp).elim (fun z => (h p z).2.1) (ok.Li p)
  ci := fun p hp => (List.mem_append.mp hp).elim (fun z => (h p z).2.2) (ok.ci p)
  bm := ok.bm
theorem Fx.Ok.dropIts {l : List (Addr × Obj)} (ok : (X.withIts (l ++ X.its)).Ok) : X.Ok where
  room := ok.room
  fn := ok.fn
  glob := ok.glob
  blt := ok.blt
  stat := ok.stat
  noq := ok.noq
  kind := ok.kind
  cell := ok.cell
  inj := ok.inj
  loL := ok.loL
  loc := ok.loc
  loi := fun p hp => ok.loi p (List.mem_append_right _ hp)
  Lc := ok.Lc
  Li := fun p hp => ok.Li p (List.mem_append_right _ hp)
  ci := fun p hp => ok.ci p (List.mem_append_right _ hp)
  bm := ok.bm

/-- objects that are new are taken into the ledger -/
theorem Rel.pushL {e ρ s} (r : Rel X e ρ s) {s' : Shared} (ok : X.Ok) (k : KeepsL X s s') {L : List (Addr × Obj)} (hn : ∀ p ∈ L, s.heap.get? p.1 = none) (ho : ∀ p ∈ L, s'.heap.get? p.1 = some p.2) :
    (X.withIts (L ++ X.its)).Ok ∧ Rel (X.withIts (L ++ X.its)) e ρ s' ∧ Tr (Mut X e ρ) s.heap (Mut (X.withIts (L ++ X.its)) e ρ) s'.heap := by
  have hm : ∀ p ∈ L, ¬ Mut X e ρ p.1 := fun p hp q => by
    obtain ⟨ob, h⟩ := r.mutEx ok _ q
    rw [hn p hp] at h; cases h
  have h0 : ∀ p ∈ L, X.s₀.heap.get? p.1 = none := fun p hp => by
    cases q : X.s₀.heap.get? p.1 with
    | none => rfl
    | some ob => have := r.keep _ ob q; rw [hn p hp] at this; cases this
  obtain ⟨r', t⟩ := r.keepsL ok k
  have t0 : ∀ b ob, ¬ Mut X e ρ b → s.heap.get? b = some ob → ¬ Mut (X.withIts (L ++ X.its)) e ρ b := fun b ob hnb hb q => by
    rcases Mut.withIts.mp q with q | ⟨p, hp, rfl⟩
    · exact hnb q
    · rw [hn p hp] at hb; cases hb
  have t' : Tr (Mut X e ρ) s.heap (Mut (X.withIts (L ++ X.its)) e ρ) s'.heap := fun b ob hnb hb => ⟨t0 b ob hnb hb, (t b ob hnb hb).2⟩
  refine ⟨ok.addIts fun p hp => ⟨h0 p hp, fun q => hm p hp (.inr (.inl q)), fun q => hm p hp (.inr (.inr (.inl q)))⟩, ⟨r'.same, r'.tok, r'.keep, r'.ns, r'.cells, fun p hp => ?_, r'.lo, r'.apL, r'.apc, fun i hi p hp => ?_, r'.apo, fun i sl hl => ?_⟩, t'⟩
  · rcases List.mem_append.mp hp with hp | hp
    · exact ho p hp
    · exact r'.its p hp
  · rcases List.mem_append.mp hp with hp | hp
    · exact fun q => hm p hp (.inr (.inr (.inr (.inr ⟨i, hi, q⟩))))
    · exact r'.api i hi p hp
  · obtain ⟨x, hx, h⟩ := r.names i sl hl
    obtain ⟨h', tk, rfl, kt, kn, kk⟩ := k
    refine ⟨x, hx, SlotOk.tr (X := X.withIts (L ++ X.its)) (s := s) (s' := { s with heap := h', toks := tk }) (fun v => varOf_keepsL (X := X) ⟨h', tk, rfl, kt, kn, kk⟩ r.ns) t' (fun ob hob hmu => kk _ _ (r.apL i ⟨sl, hl, hmu⟩) hob) ?_⟩
    cases sl <;> exact h

/-- objects of the ledger are changed, or let go -/
theorem Rel.moveL {L L' : List (Addr × Obj)} {e ρ s h' tk} (ok : (X.withIts (L ++ X.its)).Ok) (r : Rel (X.withIts (L ++ X.its)) e ρ s) (hap : ∀ p ∈ X.its, ∀ q ∈ L, p.1 ≠ q.1) (kp : ∀ b ob, (∀ q ∈ L, b ≠ q.1) → s.heap.get? b = some ob → h'.get? b = some ob)
    (hsub : ∀ p ∈ L', ∃ q ∈ L, q.1 = p.1) (ho : ∀ p ∈ L', h'.get? p.1 = some p.2) (ht : 0 < tk) :
    (X.withIts (L' ++ X.its)).Ok ∧ Rel (X.withIts (L' ++ X.its)) e ρ { s with heap := h', toks := tk } ∧ Tr (Mut (X.withIts (L ++ X.its)) e ρ) s.heap (Mut (X.withIts (L' ++ X.its)) e ρ) h' := by
  have IL : ∀ q ∈ L, X.L ≠ q.1 := fun q hq => (ok.Li _ (List.mem_append_left _ hq)).symm
  have Ic : ∀ q ∈ L, q.1 ∉ X.oc := fun q hq => ok.ci _ (List.mem_append_left _ hq)
  have I0 : ∀ q ∈ L, X.s₀.heap.get? q.1 = none := fun q hq => ok.loi _ (List.mem_append_left _ hq)
  have t : Tr (Mut (X.withIts (L ++ X.its)) e ρ) s.heap (Mut (X.withIts (L' ++ X.its)) e ρ) h' := fun b ob hn hb => ⟨fun q => hn (Mut.withIts.mpr ((Mut.withIts.mp q).imp id fun ⟨p, hp, hb⟩ => let ⟨q, hq, hqp⟩ := hsub p hp; ⟨q, hq, hqp.trans hb⟩)),
    kp b ob (fun q hq z => hn (Mut.withIts.mpr (.inr ⟨q, hq, z.symm⟩))) hb⟩
  obtain ⟨m, hm⟩ := r.ns
  have hN : ∀ m, s.heap.Ns X.L m → h'.Ns X.L m := fun m hm => by
    obtain ⟨ob, es, ep, h1, r'⟩ := hm
    exact ⟨ob, es, ep, kp _ _ IL h1, r'⟩
  have hc : ∀ x c, X.env.cells.lookup x = some c → ∀ q ∈ L, c ≠ q.1 := fun x c hx q hq z => by
    rcases ok.cell x c hx with y | ⟨o, ho⟩
    · exact Ic q hq (z ▸ y)
    · have ho' : X.s₀.heap.get? c = some o := ho
      rw [z, I0 q hq] at ho'; cases ho'
  have hv : ∀ x v, X.varOf s.heap x v → X.varOf h' x v := fun x v h => by
    unfold Fx.varOf at h ⊢
    split at h
    · obtain ⟨m', a, b⟩ := h
      exact ⟨m', hN _ a, b⟩
    · obtain ⟨c, a, ob, h1, h2⟩ := h
      exact ⟨c, a, ob, kp _ _ (hc x c a) h1, h2⟩
    · obtain ⟨c, a, ob, h1, h2⟩ := h
      exact ⟨c, a, ob, kp _ _ (hc x c a) h1, h2⟩
    · exact h
  have okp : (X.withIts (L' ++ X.its)).Ok := ok.dropIts.addIts fun p hp => by
    obtain ⟨q, hq, z⟩ := hsub p hp
    rw [← z]
    exact ⟨I0 q hq, (IL q hq).symm, Ic q hq⟩
  refine ⟨okp, ⟨?_, ht, fun b ob q => kp _ _ (fun w hw z => by have q' : X.s₀.heap.get? b = some ob := q; rw [z, I0 w hw] at q'; cases q') (r.keep b ob q), ⟨m, hN m hm⟩, fun c hc' => ?_, fun p hp => ?_, r.lo, r.apL, r.apc, fun i hi p hp => ?_, r.apo, fun i sl hl => ?_⟩, t⟩
  · obtain ⟨h₁, tk₁, rfl⟩ := r.same; exact ⟨h', tk, rfl⟩
  · obtain ⟨v, ob, h1, h2⟩ := r.cells c hc'
    exact ⟨v, ob, kp _ _ (fun q hq z => Ic q hq (z ▸ hc')) h1, h2⟩
  · rcases List.mem_append.mp hp with hp | hp
    · exact ho p hp
    · exact kp _ _ (hap p hp) (r.its p (List.mem_append_right _ hp))
  · rcases List.mem_append.mp hp with hp | hp
    · obtain ⟨q, hq, z⟩ := hsub p hp
      rw [← z]
      exact r.api i hi q (List.mem_append_left _ hq)
    · exact r.api i hi p (List.mem_append_right _ hp)
  · obtain ⟨x, hx, h⟩ := r.names i sl hl
    refine ⟨x, hx, SlotOk.tr (X := X.withIts (L' ++ X.its)) (s := s) (s' := { s with heap := h', toks := tk }) (hv x) t (fun ob hob hm => kp _ _ (fun q hq z => r.api i ⟨sl, hl, hm⟩ q (List.mem_append_left _ hq) z.symm) hob) ?_⟩
    cases sl <;> exact h

inductive TurnsZ (B : PV → PV → PEnv → PEnv → Prop) : List PV → List PV → PEnv → PEnv → Prop
  | nil1 {qs a} : TurnsZ B [] qs a a
  | nil2 {ps a} : TurnsZ B ps [] a a
  | next {p q ps qs a b c} : B p q a b → TurnsZ B ps qs b c → TurnsZ B (p :: ps) (q :: qs) a c
theorem TurnsZ.stop {B : PV → PV → PEnv → PEnv → Prop} {ps qs : List PV} {a b : PEnv} (h : TurnsZ B ps qs a b) (hl : min ps.length qs.length = 0) : b = a := by
  cases h with
  | nil1 => rfl
  | nil2 => rfl
  | next _ _ => simp at hl
theorem TurnsZ.go {B : PV → PV → PEnv → PEnv → Prop} {p q : PV} {ps qs : List PV} {a c : PEnv} (h : TurnsZ B (p :: ps) (q :: qs) a c) : ∃ b, B p q a b ∧ TurnsZ B ps qs b c := by
  cases h with
  | next x y => exact ⟨_, x, y⟩

theorem zip_loop {z : Addr} {fz wr : List Addr} {xs ys : Array Value} {St : Nat → Heap → Prop} {Mid : Nat → Addr → Heap → Prop} {ps qs : List PV} {elts : List Expr} {tk0 i j : Nat} {tpos : Pos} {body : List Stmt} {ρ₁ : Nat → Addr} {s1 s2 : Shared} {R : Result → Shared → Prop}
    (ok : X.Ok) (R1 : Rel X e₁ ρ₁ s1) (k2 : KeepsL X s1 s2) (W : WalksT prg X.w X.A z fz wr (min ps.length qs.length) (fun i vals => ∃ x y, xs[i]? = some x ∧ ys[i]? = some y ∧ vals = #[x, y]) St Mid) (hwr : ∀ b ∈ wr, s1.heap.get? b = none) (live : ∀ i h, St i h → ∀ b ∈ wr, ∃ o, h.get? b = some o)
    (hfz : ∀ b ∈ fz, b ∈ wr ∨ (¬ Mut X e₁ ρ₁ b ∧ (∃ o, s1.heap.get? b = some o)) ∨ (s1.heap.get? b = none ∧ ∃ o, s2.heap.get? b = some o))
    (hx : RepL s1.heap (Mut X e₁ ρ₁) ps xs.toList) (hy : RepL s1.heap (Mut X e₁ ρ₁) qs ys.toList)
    (ht : Tgts tab X.env ((assignEach elts X.env).map (·.2)) [i, j]) (hn : (assignEach elts X.env).length = 2) (hstar : (assignEach elts X.env).findIdx? (·.1) = none)
    (hT : TurnsZ (fun p q u v => ∀ l, Ex (X.withIts l) (setAll u [i, j] [p, q]) (execs body X.env) .next v) ps qs e₁ e₂)
    (hR : ∀ ρ' s', Rel X e₂ ρ' s' → Tr (Mut X e₁ ρ₁) s1.heap (Mut X e₂ ρ') s'.heap → R (.ok .next) s') (st0 : St 0 s2.heap) :
    codeAny (model prg X.w) X.A (.forLoop (.Tuple elts tk0 tpos) (.ref z) body [] X.env) R s2 := by
  have mk : ∀ (h : Heap) (l : List Addr), (∀ b ∈ l, ∃ o, h.get? b = some o) → ∃ L : List (Addr × Obj), L.map (·.1) = l ∧ ∀ p ∈ L, h.get? p.1 = some p.2 := fun h l => by
    induction l with
    | nil => exact fun _ => ⟨[], rfl, fun p hp => by cases hp⟩
    | cons b l ih =>
      intro hl
      obtain ⟨o, ho⟩ := hl b List.mem_cons_self
      obtain ⟨L, h1, h2⟩ := ih fun b hb => hl b (List.mem_cons_of_mem _ hb)
      refine ⟨(b, o) :: L, by rw [List.map_cons, h1], fun p hp => ?_⟩
      rcases List.mem_cons.mp hp with rfl | hp
      · exact ho
      · exact h2 p hp
  obtain ⟨L0, hL0, ho0⟩ := mk s2.heap wr (live 0 _ st0)
  have memL : ∀ {L : List (Addr × Obj)}, L.map (·.1) = wr → ∀ {b}, b ∈ wr ↔ ∃ p ∈ L, p.1 = b := by intro L h b; rw [← h]; exact List.mem_map
  obtain ⟨ok2, R2, t2⟩ := R1.pushL ok k2 (fun p hp => hwr _ ((memL hL0).mpr ⟨p, hp, rfl⟩)) ho0
  have hap : ∀ {L : List (Addr × Obj)}, L.map (·.1) = wr → ∀ p ∈ X.its, ∀ q ∈ L, p.1 ≠ q.1 := fun h p hp q hq z => by
    have h1 := R1.its p hp
    have h2 := hwr q.1 ((memL h).mpr ⟨q, hq, rfl⟩)
    rw [z, h2] at h1; cases h1
  -- the ledger holds what the walk reads, too
  obtain ⟨fr, hfr⟩ : ∃ fr : List Addr, fr = fz.filter fun b => decide (b ∉ wr) := ⟨_, rfl⟩
  refine codeAny_forLoop_any (fun k s' => ∃ n en ρn L, k = min ps.length qs.length - n ∧ n ≤ min ps.length qs.length ∧ TurnsZ (fun p q u v => ∀ l, Ex (X.withIts l) (setAll u [i, j] [p, q]) (execs body X.env) .next v) (ps.drop n) (qs.drop n) en e₂ ∧
    L.map (·.1) = wr ∧ (X.withIts (L ++ X.its)).Ok ∧ Rel (X.withIts (L ++ X.its)) en ρn s' ∧ St n s'.heap ∧ Tr (Mut X e₁ ρ₁) s1.heap (Mut (X.withIts (L ++ X.its)) en ρn) s'.heap ∧ Tr (Mut (X.withIts (L0 ++ X.its)) e₁ ρ₁) s2.heap (Mut (X.withIts (L ++ X.its)) en ρn) s'.heap)
    (fun k s' hI => ?_) (min ps.length qs.length) ⟨0, e₁, ρ₁, L0, rfl, Nat.zero_le _, by simpa using hT, hL0, ok2, R2, st0, t2, Tr.refl⟩
  obtain ⟨n, en, ρn, L, rfl, hn', hTn, hL, okL, RL, stn, tn, tn2⟩ := hI
  refine no_noted (tokd ?_)
  have kpL : ∀ {h' : Heap}, (∀ b o, b ∉ wr → s'.heap.get? b = some o → h'.get? b = some o) → ∀ b ob, (∀ q ∈ L, b ≠ q.1) → s'.heap.get? b = some ob → h'.get? b = some ob := fun kp b ob hb => kp b ob fun z => by
    obtain ⟨q, hq, e⟩ := (memL hL).mp z
    exact hb q hq e.symm
  rcases Nat.lt_or_ge n (min ps.length qs.length) with hlt | hge
  · refine W.item n s' _ _ hlt stn (fun T vals h' tk hv hT' hTup mid kp ht' => ?_)
    obtain ⟨x, y, hxi, hyi, rfl⟩ := hv
    refine no_noted (E := _) ?_
    refine W.go elts tk0 tpos n T { s' with heap := h', toks := tk } _ _ mid (fun h'' st' kp' => ?_)
    have kp2 : ∀ b o, b ∉ wr → s'.heap.get? b = some o → h''.get? b = some o := fun b o hb ho => kp' b o hb (kp b o hb ho)
    obtain ⟨L', hL', ho'⟩ := mk h'' wr (live _ _ st')
    obtain ⟨ok3, R3, t3⟩ := RL.moveL (L' := L') (h' := h'') (tk := tk) okL (hap hL) (kpL kp2) (fun p hp => (memL hL).mp ((memL hL').mpr ⟨p, hp, rfl⟩)) ho' (ht' RL.tok)
    obtain ⟨p, hp⟩ : ∃ p, ps[n]? = some p := ⟨_, List.getElem?_eq_getElem (by omega)⟩
    obtain ⟨q, hq⟩ : ∃ q, qs[n]? = some q := ⟨_, List.getElem?_eq_getElem (by omega)⟩
    have hd1 : ps.drop n = p :: ps.drop (n + 1) := by
      obtain ⟨h, rfl⟩ := List.getElem?_eq_some_iff.mp hp
      exact List.drop_eq_getElem_cons h
    have hd2 : qs.drop n = q :: qs.drop (n + 1) := by
      obtain ⟨h, rfl⟩ := List.getElem?_eq_some_iff.mp hq
      exact List.drop_eq_getElem_cons h
    rw [hd1, hd2] at hTn
    obtain ⟨em, hB, hrest⟩ := hTn.go
    have rx : Rep s1.heap (Mut X e₁ ρ₁) p x := by
      obtain ⟨v, hv, r⟩ := hx.get hp
      have : xs.toList[n]? = some x := by simpa using hxi
      rw [hv] at this; cases this; exact r
    have ry : Rep s1.heap (Mut X e₁ ρ₁) q y := by
      obtain ⟨v, hv, r⟩ := hy.get hq
      have : ys.toList[n]? = some y := by simpa using hyi
      rw [hv] at this; cases this; exact r
    have tt := tn.trans t3
    obtain ⟨oT, hoT, hcT, nT, hdT⟩ := hTup
    have hTk : h''.get? T = some oT := kp' T oT (W.apart _ _ _ mid) hoT
    refine no_noted ?_
    show wpAny _ _ (do standAt tpos; PySem.unpack (.ref T) (assignEach elts X.env)) _ _ _
    refine wpAny_bind (wpAny_standAt (unpack_tuple ok.room.handled (items := #[x, y]) ⟨oT, hTk, hcT, nT, hdT⟩ (by simp [hn]) hstar (fun h3 hx3 => ?_)))
    obtain ⟨R4, t4⟩ := R3.keepsL ok3 (extBut_keeps hx3)
    refine wpAny_mono (storeAll ok3 ht R4 (.cons (Rep.tr (tt.trans t4) _ _ rx) (.one (Rep.tr (tt.trans t4) _ _ ry))) rfl) (fun _ s5 h5 => ?_) fun _ _ h => h
    obtain ⟨R5, t5⟩ := h5
    refine no_noted (wpAny_mono (hB (L' ++ X.its) ok3 ρn s5 R5) (fun fl s6 h6 => ?_) fun _ _ h => h)
    obtain ⟨ρ6, R6, t6, hf⟩ := h6
    have hf' : fl = .next := hf
    subst hf'
    have t36 := (t4.trans t5).trans t6
    have tfin := (tt.trans t36)
    have tfin2 := (tn2.trans t3).trans t36
    refine ⟨_, by omega, n + 1, em, ρ6, L', rfl, hlt, hrest, hL', ok3, R6, ?_, tfin, tfin2⟩
    refine W.frame _ _ _ st' fun b hb ob hob => ?_
    rcases hfz b hb with hb | ⟨h1, o1, h2⟩ | ⟨h1, o1, h2⟩
    · obtain ⟨q', hq', z⟩ := (memL hL').mp hb
      have h1 := ho' q' hq'
      rw [← z] at hob ⊢
      rw [h1] at hob; cases hob
      exact R6.its _ (List.mem_append_left _ hq')
    · obtain ⟨a1, a2⟩ := tt b o1 h1 h2
      have a2' : h''.get? b = some o1 := a2
      rw [a2'] at hob; cases hob
      exact (t36 b _ a1 a2).2
    · by_cases hbw : b ∈ wr
      · obtain ⟨q', hq', z⟩ := (memL hL').mp hbw
        have h1 := ho' q' hq'
        rw [← z] at hob ⊢
        rw [h1] at hob; cases hob
        exact R6.its _ (List.mem_append_left _ hq')
      · have nm : ¬ Mut (X.withIts (L0 ++ X.its)) e₁ ρ₁ b := fun q => by
          rcases Mut.withIts.mp q with q | ⟨p, hp, rfl⟩
          · obtain ⟨o, ho⟩ := R1.mutEx ok b q; rw [h1] at ho; cases ho
          · exact hbw ((memL hL0).mpr ⟨p, hp, rfl⟩)
        obtain ⟨a1, a2⟩ := (tn2.trans t3) b o1 nm h2
        have a2' : h''.get? b = some o1 := a2
        rw [a2'] at hob; cases hob
        exact (t36 b _ a1 a2).2
  · have hin : n = min ps.length qs.length := by omega
    subst hin
    refine W.done s' _ _ stn (fun h' tk kp ht' => ?_)
    refine wpAny_execs_nil ?_
    obtain ⟨_, R3, t3⟩ := RL.moveL (L' := []) (h' := h') (tk := tk) okL (hap hL) (kpL kp) (fun p hp => by cases hp) (fun p hp => by cases hp) (ht' RL.tok)
    have hstop := hTn.stop (by simp only [List.length_drop]; omega)
    subst hstop
    exact hR ρn _ R3 (tn.trans t3)

theorem get_ge {h : Heap} {a : Addr} (ha : h.objs.size ≤ a) : h.get? a = none := Heap.get?_none_of_le ha

/-- for x, y in zip(a, b) -/
theorem Ex.forZip {zf a b : Expr} {zpos tpos pos : Pos} {elts : List Expr} {tk0 : Nat} {i j : Nat} {body : List Stmt} {ps qs : List PV} (hz : Ev X e (eval zf X.env) (.raw (.type "zip")) e) (h1 : Ev X e (eval a X.env) (.list ps) e₁) (h2 : Ev X e₁ (eval b X.env) (.list qs) e₂)
    (hargs : backTo zpos (starEach [a, b] X.env) = [(false, eval a X.env), (false, eval b X.env)])
    (he : eval (.Call zf [a, b] [] zpos) X.env = (do callWith zpos (← eval zf X.env) [] (backTo zpos (starEach [a, b] X.env)) (backToKw zpos (keywordEach [] X.env))))
    (ht : Tgts tab X.env ((assignEach elts X.env).map (·.2)) [i, j]) (hn : (assignEach elts X.env).length = 2) (hstar : (assignEach elts X.env).findIdx? (·.1) = none)
    (hT : TurnsZ (fun p q u v => ∀ l, Ex (X.withIts l) (setAll u [i, j] [p, q]) (execs body X.env) .next v) ps qs e₂ e₃) (hs : ∀ v, foldedSetIterable (.Call zf [a, b] [] zpos) X.env v = pure v) :
    Ex X e (exec (.For (.Tuple elts tk0 tpos) (.Call zf [a, b] [] zpos) body [] pos) X.env) .next e₃ := fun ok ρ s R => by
  refine wpAny_For ?_ hs
  rw [he, hargs]
  refine wpAny_bind (wpAny_mono (hz ok ρ s R) (fun v s1 hv1 => ?_) fun _ _ h => h)
  obtain ⟨R1, t1, rv⟩ := hv1
  rw [rep_raw_inv rv]
  refine PySem.callWith_type rfl (evalArgs_plain (spliced_cons (wpAny_mono (h1 ok ρ s1 R1) (fun va s2 hva => ?_) fun _ _ h => h)))
  obtain ⟨R2, t2, ra⟩ := hva
  refine spliced_cons (wpAny_mono (h2 ok ρ s2 R2) (fun vb s3 hvb => spliced_nil ?_) fun _ _ h => h)
  obtain ⟨R3, t3, rb⟩ := hvb
  obtain ⟨l1, vs, n1, rfl, p1, g1, r1⟩ := rep_list_inv (Rep.tr t3 _ _ ra)
  obtain ⟨l2, ws, n2, rfl, p2, g2, r2⟩ := rep_list_inv rb
  have hl1 : s3.heap.IsList l1 vs.toArray := ⟨_, g1, rfl, n1, rfl⟩
  have hl2 : s3.heap.IsList l2 ws.toArray := ⟨_, g2, rfl, n2, rfl⟩
  refine call_zip_2 hl1 hl2 (fun h' z1 z2 z3 z4 z5 z6 kk => ?_)
  have lt1 : l1 < s3.heap.objs.size := Heap.lt_size g1
  have lt2 : l2 < s3.heap.objs.size := Heap.lt_size g2
  have fr : ∀ k, s3.heap.get? (s3.heap.objs.size + k) = none := fun k => get_ge (Nat.le_add_right _ _)
  generalize hN : s3.heap.objs.size = N at *
  have D : ZipApart (N + 4) (N + 2) (N + 3) N (N + 1) l1 l2 := by
    have a1 : @LT.lt Nat _ l1 N := lt1
    have a2 : @LT.lt Nat _ l2 N := lt2
    constructor <;> (show @Ne Nat _ _) <;> omega
  have W := WalksT.zip2 (prog := prg) (w := X.w) (A := X.A) ok.room.handled (N + 4) (N + 2) (N + 3) N (N + 1) l1 l2 D vs.toArray ws.toArray
  have hm : min vs.toArray.size ws.toArray.size = min ps.length qs.length := by simp [r1.length, r2.length]
  rw [hm] at W
  have st0 : IsZip h' (N + 4) (N + 2) (N + 3) .none ∧ IsPair h' (N + 2) (.ref N) (.ref (N + 1)) ∧ (∃ a b, IsPair h' (N + 3) a b) ∧ h'.IsListIter N l1 0 ∧ h'.IsListIter (N + 1) l2 0 ∧ h'.IsList l1 vs.toArray ∧ h'.IsList l2 ws.toArray :=
    ⟨z1, z2, ⟨_, _, z3⟩, z4, z5, ⟨_, kk _ _ g1, rfl, n1, rfl⟩, ⟨_, kk _ _ g2, rfl, n2, rfl⟩⟩
  refine W.self 0 { s3 with heap := h' } _ _ st0 ?_
  have k3 : Kp s3 { s3 with heap := h' } := ⟨h', s3.toks, rfl, id, kk⟩
  refine zip_loop ok R3 k3.toL W (fun b hb => ?_) (fun k h st b hb => ?_) (fun b hb => ?_) (by simpa using r1) (by simpa using r2) ht hn hstar hT (fun ρ' s' R' t' => ?_) st0
  · simp only [List.mem_cons, List.not_mem_nil, or_false] at hb
    rcases hb with rfl | rfl | rfl | rfl
    · exact fr 4
    · exact fr 3
    · exact fr 0
    · exact fr 1
  · obtain ⟨y1, y2, ⟨_, _, y3⟩, ⟨o4, y4, _⟩, ⟨o5, y5, _⟩, _⟩ := st
    simp only [List.mem_cons, List.not_mem_nil, or_false] at hb
    rcases hb with rfl | rfl | rfl | rfl
    · exact ⟨_, y1⟩
    · exact ⟨_, y3⟩
    · exact ⟨_, y4⟩
    · exact ⟨_, y5⟩
  · simp only [List.mem_cons, List.not_mem_nil, or_false] at hb
    rcases hb with rfl | rfl | rfl | rfl | rfl | rfl | rfl
    · exact .inl (by simp)
    · exact .inr (.inr ⟨fr 2, _, z2⟩)
    · exact .inl (by simp)
    · exact .inl (by simp)
    · exact .inl (by simp)
    · exact .inr (.inl ⟨p1, _, g1⟩)
    · exact .inr (.inl ⟨p2, _, g2⟩)
  · exact ⟨ρ', R', ((t1.trans t2).trans t3).trans t', rfl⟩
end
end Mine
end

section
open PySem PySem.W PyProof.Rows PySem.Calls
set_option Elab.async false
set_option linter.unusedVariables false
set_option maxRecDepth 100000
namespace Mine

theorem lookup_mem {α : Type} : ∀ {l : List (Str × α)} {x : Str} {c : α}, (x, c) ∈ l → ∃ c', l.lookup x = some c'
  | (k, v) :: r, x, c, h => by
    rw [List.lookup_cons]
    cases hb : x == k with
    | true => exact ⟨v, rfl⟩
    | false =>
      rcases List.mem_cons.mp h with h | h
      · cases h; simp at hb
      · exact lookup_mem h

theorem cellsFrom_append : ∀ (names : List (Str × NameKind)) (n : Nat) (acc : List (Str × Addr)), cellsFrom n names acc = cellsFrom n names [] ++ acc
  | [], _, _ => rfl
  | (x, k) :: r, n, acc => by
    unfold cellsFrom
    split
    · rw [cellsFrom_append r (n + 1) ((x, n) :: acc), cellsFrom_append r (n + 1) [(x, n)]]; simp
    · exact cellsFrom_append r n acc

theorem closure_go (env : Env) (f : Str × NameKind → List (Str × Addr) → Sem (ForInStep (List (Str × Addr))))
    (hf : ∀ name kind cs, f (name, kind) cs = if kind == .free then (do let a ← cellOf env name; pure (.yield ((name, a) :: cs))) else pure (.yield cs)) :
    ∀ (names : List (Str × NameKind)) (acc : List (Str × Addr)), (∀ x, (x, NameKind.free) ∈ names → ∃ c, env.cells.lookup x = some c) →
      ∃ cl, (forIn names acc f : Sem _) = pure (cl ++ acc) ∧ (∀ x c, (x, c) ∈ cl → env.cells.lookup x = some c ∧ (x, NameKind.free) ∈ names) ∧ ∀ x, (x, NameKind.free) ∈ names → ∃ c, (x, c) ∈ cl
  | [], acc, _ => ⟨[], rfl, (fun _ _ h => nomatch h), fun _ h => nomatch h⟩
  | (y, k) :: r, acc, h => by
    have hr : ∀ x, (x, NameKind.free) ∈ r → ∃ c, env.cells.lookup x = some c := fun x hx => h x (List.mem_cons_of_mem _ hx)
    rw [List.forIn_cons, hf]
    cases hk : k == NameKind.free with
    | false =>
      obtain ⟨cl, e, h1, h2⟩ := closure_go env f hf r acc hr
      refine ⟨cl, ?_, fun x c hx => ⟨(h1 x c hx).1, List.mem_cons_of_mem _ (h1 x c hx).2⟩, fun x hx => ?_⟩
      · simp only [Bool.false_eq_true, if_false]
        exact e
      · rcases List.mem_cons.mp hx with hx | hx
        · cases hx; simp at hk
        · exact h2 x hx
    | true =>
      have hk' : k = .free := by simpa using hk
      subst hk'
      obtain ⟨c, hc⟩ := h y List.mem_cons_self
      obtain ⟨cl, e, h1, h2⟩ := closure_go env f hf r ((y, c) :: acc) hr
      refine ⟨cl ++ [(y, c)], ?_, fun x c' hx => ?_, fun x hx => ?_⟩
      · simp only [if_true]
        have : cellOf env y = pure c := by unfold cellOf; rw [hc]
        rw [this]
        have e2 : (cl ++ [(y, c)]) ++ acc = cl ++ (y, c) :: acc := by simp
        rw [e2]
        exact e
      · rcases List.mem_append.mp hx with hx | hx
        · exact ⟨(h1 x c' hx).1, List.mem_cons_of_mem _ (h1 x c' hx).2⟩
        · simp at hx; obtain ⟨rfl, rfl⟩ := hx; exact ⟨hc, List.mem_cons_self⟩
      · rcases List.mem_cons.mp hx with hx | hx
        · cases hx; exact ⟨c, by simp⟩
        · obtain ⟨c', h'⟩ := h2 x hx; exact ⟨c', List.mem_append_left _ h'⟩

theorem closure_ok {scope : Scope} {env : Env} (h : ∀ x, (x, NameKind.free) ∈ scope.names → ∃ c, env.cells.lookup x = some c) :
    ∃ cl, closureFor scope env = pure cl ∧ (∀ x c, (x, c) ∈ cl → env.cells.lookup x = some c ∧ (x, NameKind.free) ∈ scope.names) ∧ ∀ x, (x, NameKind.free) ∈ scope.names → ∃ c, (x, c) ∈ cl := by
  obtain ⟨cl, e, h1, h2⟩ := closure_go env (fun x r => if x.2 == .free then (do let a ← cellOf env x.1; pure (.yield ((x.1, a) :: r))) else pure (.yield r)) (fun _ _ _ => rfl) scope.names [] h
  refine ⟨cl, ?_, h1, h2⟩
  rw [List.append_nil] at e
  have e2 : closureFor scope env = (forIn scope.names [] (fun x r => if x.2 == .free then (do let a ← cellOf env x.1; pure (.yield ((x.1, a) :: r))) else pure (.yield r)) >>= fun cs => pure cs : Sem _) := by
    unfold closureFor
    simp
  rw [e2, e]
  rfl

theorem relabel_lookup {env : Env} : ∀ {names : List (Str × NameKind)} {x : Str} {k : NameKind}, names.lookup x = some k →
    (names.map fun (n, k) => if (k == NameKind.free && env.scope.kind == .function && env.kindOf n == some .cell) then (n, NameKind.cell) else (n, k)).lookup x = some (if (k == NameKind.free && env.scope.kind == .function && env.kindOf x == some .cell) then .cell else k)
  | [], _, _, h => by simp at h
  | (n, k') :: r, x, k, h => by
    have ih := @relabel_lookup env r x k
    show List.lookup x ((if (k' == NameKind.free && env.scope.kind == .function && env.kindOf n == some .cell) = true then (n, NameKind.cell) else (n, k')) :: _) = _
    cases hx : x == n with
    | true =>
      simp only [List.lookup_cons, hx] at h
      cases h
      have e : x = n := eq_of_beq hx
      subst e
      by_cases hc : (k' == NameKind.free && env.scope.kind == .function && env.kindOf x == some .cell) = true
      · rw [if_pos hc, if_pos hc]; simp [List.lookup_cons]
      · rw [if_neg hc, if_neg hc]; simp [List.lookup_cons]
    | false =>
      simp only [List.lookup_cons, hx] at h
      by_cases hc : (k' == NameKind.free && env.scope.kind == .function && env.kindOf n == some .cell) = true
      · rw [if_pos hc]; simp only [List.lookup_cons, hx]; exact ih h
      · rw [if_neg hc]; simp only [List.lookup_cons, hx]; exact ih h
theorem relabel_none {env : Env} : ∀ {names : List (Str × NameKind)} {x : Str}, names.lookup x = none →
    (names.map fun (n, k) => if (k == NameKind.free && env.scope.kind == .function && env.kindOf n == some .cell) then (n, NameKind.cell) else (n, k)).lookup x = none
  | [], _, _ => rfl
  | (n, k') :: r, x, h => by
    have ih := @relabel_none env r x
    show List.lookup x ((if (k' == NameKind.free && env.scope.kind == .function && env.kindOf n == some .cell) = true then (n, NameKind.cell) else (n, k')) :: _) = _
    cases hx : x == n with
    | true => simp [List.lookup_cons, hx] at h
    | false =>
      simp only [List.lookup_cons, hx] at h
      by_cases hc : (k' == NameKind.free && env.scope.kind == .function && env.kindOf n == some .cell) = true
      · rw [if_pos hc]; simp only [List.lookup_cons, hx]; exact ih h
      · rw [if_neg hc]; simp only [List.lookup_cons, hx]; exact ih h

theorem newEnvC {M : Model} {A : Around} {E : Value → Shared → Prop} {s : Shared} {scope : Scope} {g : Addr} {cl : List (Str × Addr)} {qual : Str} {outer : Env} {Q : Env → Shared → Prop}
    (h : Q { scope := scope, locals := s.heap.objs.size, globals := g, cells := cellsFrom (s.heap.objs.size + 1) scope.names cl, qual := qual, func := none, code := outer.code, frame := outer.frame, builtins := outer.builtins }
      { s with heap := pushCells (s.heap.push { cls := .type "dict", data := .dict #[] }) scope.names }) :
    wpAny M A (newFunctionEnv scope g cl [] qual none .none (some outer)) Q E s := by
  simp only [newFunctionEnv, Option.isSome_some, if_true]
  refine wpAny_bind (wpAny_alloc ?_)
  refine wpAny_bind (wpAny_layCells _ (fun name kind cells => by cases kind <;> rfl) _ _ _ _ ?_)
  rw [show ({ s with heap := s.heap.push { cls := .type "dict", data := .dict #[] } } : Shared).heap.objs.size = s.heap.objs.size + 1 from Heap.size_push ..]
  exact wpAny_bind (wpAny_pure (wpAny_pure h))

section
variable {tab : List (Nat × NameKind)} {X : Fx tab} {e e₁ e₂ e₃ : PEnv} {p q out : PV}

/-- the context inside a comprehension -/
@[reducible] def cfx (X : Fx tab) (tab' : List (Nat × NameKind)) (scope : Scope) (C : Addr) (cl : List (Str × Addr)) (s₁ : Shared) (P : Addr → Prop) (l : List (Addr × Obj)) : Fx tab' :=
  { w := X.w, n := X.n, K := X.K, A := X.A, env := { scope := relabel scope X.env, locals := C, globals := X.env.globals, cells := cellsFrom (C + 1) scope.names cl, qual := X.env.qual, func := none, code := X.env.code, frame := X.env.frame, builtins := X.env.builtins },
    s₀ := s₁, bm := P, oc := (cellsFrom (C + 1) scope.names []).map (·.2), its := l }

theorem cfx_ok {tab' : List (Nat × NameKind)} {scope : Scope} {C : Addr} {cl : List (Str × Addr)} {s₁ : Shared} {ρ : Nat → Addr} {l : List (Addr × Obj)} (ok : X.Ok) (R : Rel X e ρ s₁) (hsc : scope.kind = .function) (ht : tabOk tab' scope.names = true)
    (hcl : ∀ x c, (x, c) ∈ cl → X.env.cells.lookup x = some c ∧ (x, NameKind.free) ∈ scope.names) (hcl2 : ∀ x, (x, NameKind.free) ∈ scope.names → ∃ c, (x, c) ∈ cl)
    (hab : ∀ x c, (x, c) ∈ cellsFrom (C + 1) scope.names [] → C < c) (hap : (cellsFrom (C + 1) scope.names []).Pairwise fun x y => x.2 ≠ y.2) (hC : s₁.heap.objs.size ≤ C) (hl : ∀ p ∈ l, s₁.heap.get? p.1 = none ∧ p.1 < C) :
    (cfx X tab' scope C cl s₁ (Mut X e ρ) l).Ok := by
  have fresh : ∀ c, C < c → s₁.heap.get? c = none := fun c hc => get_ge (Nat.le_of_lt (Nat.lt_of_le_of_lt hC hc))
  have clx : ∀ x c, (x, c) ∈ cl → ∃ o, s₁.heap.get? c = some o := fun x c hx => by
    rcases ok.cell x c (hcl x c hx).1 with z | ⟨o, ho⟩
    · obtain ⟨v, o, ho, _⟩ := R.cells c z; exact ⟨o, ho⟩
    · exact ⟨o, R.keep c o ho⟩
  have memc : ∀ {x c}, (cellsFrom (C + 1) scope.names cl).lookup x = some c → (x, c) ∈ cellsFrom (C + 1) scope.names [] ∨ (x, c) ∈ cl := fun {x c} h => by
    have := mem_of_lookup h
    rw [cellsFrom_append] at this
    exact List.mem_append.mp this
  have inoc : ∀ {c}, c ∈ (cellsFrom (C + 1) scope.names []).map (·.2) → ∃ x, (x, c) ∈ cellsFrom (C + 1) scope.names [] := fun {c} h => by
    obtain ⟨⟨x, c'⟩, hx, rfl⟩ := List.mem_map.mp h; exact ⟨x, hx⟩
  exact {
    room := ok.room
    fn := hsc
    glob := ok.glob
    blt := ok.blt
    stat := ok.stat.keeps R.keep
    noq := relabel_none (eq_of_beq (Bool.and_eq_true_iff.mp ht).1)
    kind := fun i k hi => by
      obtain ⟨x, hx, hlk⟩ := tabOk_get ht hi
      refine ⟨x, hx, ?_⟩
      have hr := relabel_lookup (env := X.env) hlk
      cases k with
      | cell =>
        have := cellsFrom_some scope.names (C + 1) [] (x := x) (.inl hlk)
        obtain ⟨c, hc⟩ := Option.isSome_iff_exists.mp this
        refine ⟨by rw [if_neg (by simp)] at hr; exact hr, c, ?_, List.mem_map.mpr ⟨_, mem_of_lookup hc, rfl⟩⟩
        show (cellsFrom (C + 1) scope.names cl).lookup x = some c
        rw [cellsFrom_append, List.lookup_append, hc]; rfl
      | free =>
        refine ⟨?_, ?_⟩
        · by_cases hcc : (NameKind.free == NameKind.free && X.env.scope.kind == .function && X.env.kindOf x == some .cell) = true
          · rw [if_pos hcc] at hr; exact .inr hr
          · rw [if_neg hcc] at hr; exact .inl hr
        · obtain ⟨c, hc⟩ := hcl2 x (mem_of_lookup (α := NameKind) hlk)
          refine lookup_mem (c := c) ?_
          show (x, c) ∈ cellsFrom (C + 1) scope.names cl
          rw [cellsFrom_append]; exact List.mem_append_right _ hc
      | _ => exact (by rw [if_neg (by simp)] at hr; exact hr)
    cell := fun x c hx => by
      rcases memc hx with h | h
      · exact .inl (List.mem_map.mpr ⟨_, h, rfl⟩)
      · exact .inr (clx x c h)
    inj := fun x y c hc hx hy => by
      obtain ⟨z, hz⟩ := inoc hc
      have fr := fresh c (hab z c hz)
      have own : ∀ x, (cellsFrom (C + 1) scope.names cl).lookup x = some c → (x, c) ∈ cellsFrom (C + 1) scope.names [] := fun x hx => by
        rcases memc hx with h | h
        · exact h
        · obtain ⟨o, ho⟩ := clx x c h; rw [fr] at ho; cases ho
      exact name_of_addr hap (own x hx) (own y hy)
    loL := hC
    loc := fun c hc => by obtain ⟨z, hz⟩ := inoc hc; exact fresh c (hab z c hz)
    loi := fun p hp => (hl p hp).1
    Lc := fun hc => by obtain ⟨z, hz⟩ := inoc hc; exact Nat.lt_irrefl _ (hab z _ hz)
    Li := fun p hp => Nat.ne_of_lt (hl p hp).2
    ci := fun p hp hc => by obtain ⟨z, hz⟩ := inoc hc; exact Nat.lt_asymm (hl p hp).2 (hab z _ hz)
    bm := R.mutEx ok }
end
end Mine
end

section
open PySem PySem.W PyProof.Rows PySem.Calls
set_option Elab.async false
set_option linter.unusedVariables false
set_option maxRecDepth 100000
namespace Mine

section
variable {tab : List (Nat × NameKind)} {X : Fx tab} {e e₁ e₂ e₃ : PEnv} {p q out : PV}

/-- a step inside a comprehension: D is the list that grows -/
def In (X : Fx tab) (D : Addr) (e : PEnv) (act : Sem Unit) (e' : PEnv) : Prop := X.Ok → ∀ ρ s, Rel X e ρ s → ρ 0 = D →
  wpAny (model prg X.w) X.A act (fun _ s' => Rel X e' ρ s' ∧ Tr (Mut X e ρ) s.heap (Mut X e' ρ) s'.heap) No s
/-- the tests of a clause -/
def Tst (X : Fx tab) (e : PEnv) (ifs : List Expr) (b : Bool) : Prop := X.Ok → ∀ ρ s, Rel X e ρ s →
  wpAny (model prg X.w) X.A (forIn ifs true fun c r => if r = true then do let ok ← isTrue c X.env (eval c X.env); pure (ForInStep.yield ok) else pure (ForInStep.yield r)) (fun ok s' => ok = b ∧ Rel X e ρ s' ∧ Tr (Mut X e ρ) s.heap (Mut X e ρ) s'.heap) No s
theorem Tst.nil : Tst X e [] true := fun ok ρ s R => wpAny_tests_nil ⟨rfl, R, Tr.refl⟩
theorem Tst.one {c : Expr} {b : Bool} (h : Ts X e (isTrue c X.env (eval c X.env)) b e) : Tst X e [c] b := fun ok ρ s R => wpAny_tests_one (wpAny_mono (h ok ρ s R) (fun v s' ⟨a, b, c⟩ => ⟨c, a, b⟩) fun _ _ h => h)

def CB (X : Fx tab) (D : Addr) (t : Nat) (ifs : List Expr) (act : Sem Unit) (q : PV) (a b : PEnv) : Prop := ∃ ok : Bool, ∀ l, Tst (X.withIts l) (a.set t (.val q)) ifs ok ∧ (if ok = true then In (X.withIts l) D (a.set t (.val q)) act b else b = a.set t (.val q))
inductive TurnsC (B : PV → PEnv → PEnv → Prop) : List PV → PEnv → PEnv → Prop
  | nil {a} : TurnsC B [] a a
  | cons {q qs a b c} : B q a b → TurnsC B qs b c → TurnsC B (q :: qs) a c

def turnForm (iter target : Expr) (ifs : List Expr) (act : Sem Unit) (it : Value) (env : Env) (code : Code) : Sem Fin := do
  standAt iter.pos
  match ← pyNext it with
  | none => pure (.done .next)
  | some v =>
    letOwnedTupleGo target it v
    assign target env v
    let mut ok := true
    for c in ifs do
      if ok then ok ← isTrue c env (eval c env)
    if ok then
      act
    again code

theorem comp_loop {elt : Expr} {gens : List Comprehension} {sc : Scope} {cpos : Pos} {d : Nat} {I D : Addr} {fz : List Addr} {Pv : Nat → Value → Prop} {St : Nat → Heap → Prop} {items : List PV} {x : Str} {xp : Pos} {iter : Expr} {ifs : List Expr} {act : Sem Unit} {t : Nat} {k : NameKind} {ρ : Nat → Addr} {s2 : Shared} {R : Result → Shared → Prop}
    (hform : compTurn (.ListComp elt gens sc cpos) d (.ref I) (.ref D) X.env = turnForm iter (.Name x xp) ifs act (.ref I) X.env (.compLoop (.ListComp elt gens sc cpos) d (.ref I) (.ref D) X.env)) (hx : allNames[t]? = some x) (ht : tab.lookup t = some k) (hk : stor k = true)
    {o0 : Obj} (okp : (X.push I o0).Ok) (hap : ∀ p ∈ X.its, p.1 ≠ I) (R2 : Rel (X.push I o0) e₁ ρ s2) (hD : ρ 0 = D) (W : Walks prg X.w X.A I (I :: fz) [I] items.length Pv St) (live : ∀ i h, St i h → ∃ o, h.get? I = some o)
    (hfz : ∀ b ∈ fz, ¬ Mut (X.push I o0) e₁ ρ b ∧ ∃ o, s2.heap.get? b = some o)
    (hv : ∀ P' h', Tr (Mut (X.push I o0) e₁ ρ) s2.heap P' h' → ∀ i v q, Pv i v → items[i]? = some q → Rep h' P' q v)
    (hT : TurnsC (CB X D t ifs act) items e₁ e₂)
    (hR : ∀ s', Rel X e₂ ρ s' → Tr (Mut (X.push I o0) e₁ ρ) s2.heap (Mut X e₂ ρ) s'.heap → R (.ok .next) s')
    (st0 : St 0 s2.heap) : codeAny (model prg X.w) X.A (.compLoop (.ListComp elt gens sc cpos) d (.ref I) (.ref D) X.env) R s2 := by
  refine codeAny_loop rfl (fun n s' => ∃ i ei o, n = items.length - i ∧ i ≤ items.length ∧ TurnsC (CB X D t ifs act) (items.drop i) ei e₂ ∧ (X.push I o).Ok ∧ Rel (X.push I o) ei ρ s' ∧ St i s'.heap ∧ Tr (Mut (X.push I o0) e₁ ρ) s2.heap (Mut (X.push I o) ei ρ) s'.heap)
    (fun n s' hI => ?_) items.length ⟨0, e₁, o0, rfl, Nat.zero_le _, by simpa using hT, okp, R2, st0, Tr.refl⟩
  obtain ⟨i, ei, o, rfl, hi, hTi, oki, Ri, sti, ti⟩ := hI
  show wpAny _ X.A ((compTurn (.ListComp elt gens sc cpos) d (.ref I) (.ref D) X.env).onRaise (fun x => do noteFrame x X.env; theTreesLotGoes x)) _ _ s'
  refine wpAny_noted (no_noted ?_)
  rw [hform]
  unfold turnForm
  refine wpAny_bind (wpAny_standAt (wpAny_bind (tokd ?_)))
  rcases Nat.lt_or_ge i items.length with hlt | hge
  · obtain ⟨q, hq⟩ : ∃ q, items[i]? = some q := ⟨_, List.getElem?_eq_getElem hlt⟩
    have hd : items.drop i = q :: items.drop (i + 1) := by
      obtain ⟨h, rfl⟩ := List.getElem?_eq_some_iff.mp hq
      exact (List.drop_eq_getElem_cons h)
    rw [hd] at hTi
    refine W.item i s' _ _ hlt sti (fun v h' tk hPv sti' kp htk => ?_)
    have kp' : ∀ b ob, b ≠ I → s'.heap.get? b = some ob → h'.get? b = some ob := fun b ob hb => kp b ob (by simpa using hb)
    obtain ⟨o', ho'⟩ := live _ _ sti'
    obtain ⟨ok', R', t'⟩ := Ri.rePush (tk := tk) oki hap kp' ho' (htk Ri.tok)
    have tt := ti.trans t'
    have hrep := hv _ _ tt i v q hPv hq
    have frame : ∀ {s''} {ej : PEnv}, Rel (X.push I o') ej ρ s'' → Tr (Mut (X.push I o') ei ρ) h' (Mut (X.push I o') ej ρ) s''.heap → St (i + 1) s''.heap := fun {s'' ej} R'' t'' =>
      W.frame _ _ _ sti' fun b hb ob hob => by
        rcases List.mem_cons.mp hb with rfl | hb
        · rw [ho'] at hob; cases hob; exact R''.its _ List.mem_cons_self
        · obtain ⟨h1, o1, h2⟩ := hfz b hb
          obtain ⟨a1, a2⟩ := tt b o1 h1 h2
          rw [a2] at hob; cases hob
          exact (t'' b _ a1 a2).2
    cases hTi with
    | @cons _ _ _ b _ hB hrest =>
      obtain ⟨okb, hB⟩ := hB
      obtain ⟨hB1, hB2⟩ := hB ((I, o') :: X.its)
      refine wpAny_bind (wpAny_of_eq (show letOwnedTupleGo (.Name x xp) (.ref I) v = pure () from rfl) ?_)
      refine wpAny_bind (assignName_ok ok' R' hx ht hk hrep fun s3 R3 t3 => ?_)
      refine wpAny_bind (wpAny_mono (hB1 ok' ρ s3 R3) (fun okv s4 h4 => ?_) fun _ _ h => h)
      obtain ⟨rfl, R4, t4⟩ := h4
      cases okv with
      | false =>
        simp only [Bool.false_eq_true, if_false] at hB2 ⊢
        subst hB2
        refine wpAny_pure ⟨rfl, _, ?_, i + 1, _, o', rfl, hlt, hrest, ok', R4, frame R4 (t3.trans t4), (tt.trans t3).trans t4⟩
        omega
      | true =>
        simp only [if_true] at hB2 ⊢
        refine wpAny_bind (wpAny_mono (hB2 ok' ρ s4 R4 hD) (fun _ s5 h5 => ?_) fun _ _ h => h)
        obtain ⟨R5, t5⟩ := h5
        refine wpAny_pure ⟨rfl, _, ?_, i + 1, _, o', rfl, hlt, hrest, ok', R5, frame R5 ((t3.trans t4).trans t5), ((tt.trans t3).trans t4).trans t5⟩
        omega
  · have hin : i = items.length := by omega
    subst hin
    simp only [List.drop_length] at hTi
    cases hTi with
    | nil =>
      refine W.done s' _ _ sti (fun h' tk kp htk => ?_)
      have kp' : ∀ b ob, b ≠ I → s'.heap.get? b = some ob → h'.get? b = some ob := fun b ob hb => kp b ob (by simpa using hb)
      obtain ⟨R3, t3⟩ := Ri.dropAt (tk := tk) oki hap kp' (htk Ri.tok)
      exact wpAny_pure (hR _ R3 (ti.trans t3))

theorem compStart_any {elt : Expr} {gens : List Comprehension} {sc : Scope} {cpos : Pos} {d : Nat} {g : Comprehension} {it : Value} {acc : Value} {env : Env} {A : Around} {w : World} {R : Result → Shared → Prop} {s : Shared} (hg : (clausesOf (.ListComp elt gens sc cpos))[d]? = some g) (ha : g.is_async = 0)
    (h : codeAny (model prg w) A (.compLoop (.ListComp elt gens sc cpos) d it acc env) R s) (hi : ∀ (Q : Value → Shared → Prop) (E : Value → Shared → Prop), Q it s → wpAny (model prg w) A (pyIter it) Q E s) : codeAny (model prg w) A (.compStart (.ListComp elt gens sc cpos) d it acc env) R s := by
  refine codeAny_of_tree ?_
  show wpAny _ _ ((compStart (.ListComp elt gens sc cpos) d it acc env).onRaise (fun x => do noteFrame x env; standAt theWindowsPlace)) _ _ s
  refine wpAny_notedAt ?_
  unfold compStart
  have e0 : ((clausesOf (.ListComp elt gens sc cpos))[d]?).elim false (·.is_async != 0) = false := by rw [hg]; simp [ha]
  rw [e0, hg]
  simp only [Bool.false_eq_true, if_false]
  refine wpAny_bind (wpAny_askSetting ?_)
  split
  · first
      | exact wpAny_bind (wpAny_pure (wpAny_pure (And.intro rfl h)))
      | exact wpAny_pure (And.intro rfl h)
  · first
      | exact wpAny_bind (wpAny_rule (wpAny_bind (wpAny_standAt (wpAny_bind (hi _ _ (wpAny_pure (And.intro rfl h)))))))
      | (refine wpAny_bind (wpAny_rule ?_); exact wpAny_bind (wpAny_standAt (wpAny_bind (hi _ _ (wpAny_pure (And.intro rfl h))))))
end
end Mine
end

section
open PySem PySem.W PyProof.Rows PySem.Calls
set_option Elab.async false
set_option linter.unusedVariables false
set_option maxRecDepth 100000
namespace Mine

section
variable {tab : List (Nat × NameKind)} {X : Fx tab} {e e₁ e₂ e₃ : PEnv} {p q out : PV}

def actElt (elt : Expr) (D : Addr) (env : Env) : Sem Unit := do let _ ← call (.builtin "list.append") [.ref D, ← eval elt env]
def actNext (elt : Expr) (gens : List Comprehension) (sc : Scope) (cpos : Pos) (d : Nat) (iter : Expr) (D : Addr) (env : Env) : Sem Unit := do
  let x ← eval iter env
  standAt iter.pos
  let x ← foldedSetIterable iter env x
  let _ ← runOwn (.compStart (.ListComp elt gens sc cpos) d (← holding [x] (pyIter x)) (.ref D) env) env

theorem In.elt {elt : Expr} {D : Addr} {ps : List PV} (h : Ev X e (eval elt X.env) p e) (he : e.lookup 0 = some (.own ps)) (hsz : ps.length ≤ sizeLine) : In X D e (actElt elt D X.env) (e.set 0 (.own (ps ++ [p]))) := fun ok ρ s R hD => by
  unfold actElt
  refine wpAny_bind (wpAny_mono (h ok ρ s R) (fun v s1 h1 => ?_) fun _ _ h => h)
  obtain ⟨R1, t1, rv⟩ := h1
  subst hD
  obtain ⟨_, ws, m, hg1, hr1⟩ := R1.own (i := 0) he (x := Str.ofString "?") rfl
  refine wpAny_bind (wpAny_list_append_plain ⟨m, hg1⟩ (fun h' hp hs => wpAny_pure ?_) (by simpa [hr1.length] using hsz))
  obtain ⟨m', hg'⟩ := hp
  have e1 : (ws.toArray.push v) = (ws ++ [v]).toArray := by simp
  rw [e1] at hg'
  obtain ⟨R2, t2⟩ := R1.changeOwn ok (tk := s1.toks) he hs hg' (hr1.append (.one rv))
  exact ⟨R2, t1.trans t2⟩

theorem In.next {elt : Expr} {gens : List Comprehension} {sc : Scope} {cpos : Pos} {d : Nat} {D : Addr} {x : Str} {xp : Pos} {iter : Expr} {ifs : List Expr} {act : Sem Unit} {t : Nat} {k : NameKind} {items : List PV} (h : Ev X e (eval iter X.env) q e) (hI : Iters X q items)
    (hg : gens[d]? = some ⟨.Name x xp, iter, ifs, 0⟩) (hform : ∀ I, compTurn (.ListComp elt gens sc cpos) d (.ref I) (.ref D) X.env = turnForm iter (.Name x xp) ifs act (.ref I) X.env (.compLoop (.ListComp elt gens sc cpos) d (.ref I) (.ref D) X.env))
    (hs : ∀ v, foldedSetIterable iter X.env v = pure v) (hx : allNames[t]? = some x) (ht : tab.lookup t = some k) (hk : stor k = true) (hT : TurnsC (CB X D t ifs act) items e e₂) : In X D e (actNext elt gens sc cpos d iter D X.env) e₂ := fun ok ρ s R hD => by
  unfold actNext
  refine wpAny_bind (wpAny_mono (h ok ρ s R) (fun v s1 h1 => ?_) fun _ _ h => h)
  obtain ⟨R1, t1, rv⟩ := h1
  refine wpAny_bind (wpAny_standAt (wpAny_bind (wpAny_of_eq (hs v) (wpAny_bind (wpAny_holding ?_)))))
  refine hI ok s1 _ (R1.cx ok) v rv _ (fun I fz Pv St s2 hno k2 _ W live st0 hfz hv => ?_)
  obtain ⟨o0, ho0⟩ := live _ _ st0
  obtain ⟨okp, R2, t2⟩ := R1.push ok k2.toL hno ho0
  refine wpAny_bind (wpAny_runOwn ?_)
  refine compStart_any (g := ⟨.Name x xp, iter, ifs, 0⟩) hg rfl ?_ (fun Q E hq => (W X.A ok.room.handled).self 0 s2 Q E st0 hq)
  refine comp_loop (hform I) hx ht hk okp (its_ne R1 hno) R2 hD (W _ ok.room.handled) live (fun b hb => ?_) (fun P' h' t' i v q => hv P' h' (t2.trans t') i v q) hT (fun s' R' t' => wpAny_pure ⟨R', (t1.trans t2).trans t'⟩) st0
  obtain ⟨h1, o, h2⟩ := hfz b hb
  obtain ⟨a1, a2⟩ := t2 b o h1 h2
  exact ⟨a1, o, a2⟩

theorem nodup_key {l : List (Str × NameKind)} (nd : (l.map (·.1)).Nodup) {x : Str} {a b : NameKind} (h1 : (x, a) ∈ l) (h2 : (x, b) ∈ l) : a = b := by
  induction l with
  | nil => cases h1
  | cons y r ih =>
    rw [List.map_cons, List.nodup_cons] at nd
    rcases List.mem_cons.mp h1 with e1 | h1 <;> rcases List.mem_cons.mp h2 with e2 | h2
    · rw [← e1] at e2; exact (Prod.mk.inj e2).2.symm
    · exact absurd (List.mem_map.mpr ⟨_, h2, by rw [← e1]⟩) nd.1
    · exact absurd (List.mem_map.mpr ⟨_, h1, by rw [← e2]⟩) nd.1
    · exact ih nd.2 h1 h2

/-- the relation at the start of a comprehension -/
theorem cfx_rel {tab' : List (Nat × NameKind)} {scope : Scope} {C D I : Addr} {cl : List (Str × Addr)} {s₁ : Shared} {ρ : Nat → Addr} {oI : Obj} {fs : List (Nat × PV)} {s4 : Shared} (ok : X.Ok) (R : Rel X e ρ s₁) (ht : tabOk tab' scope.names = true)
    (hcl : ∀ x c, (x, c) ∈ cl → X.env.cells.lookup x = some c ∧ (x, NameKind.free) ∈ scope.names) (hcl2 : ∀ x, (x, NameKind.free) ∈ scope.names → ∃ c, (x, c) ∈ cl) (nd : (scope.names.map (·.1)).Nodup)
    (hab : ∀ x c, (x, c) ∈ cellsFrom (C + 1) scope.names [] → C < c) (hcell : ∀ x c, (x, c) ∈ cellsFrom (C + 1) scope.names [] → s4.heap.IsCell c none)
    (k : Kp s₁ s4) (hI : s₁.heap.get? I = none) (hID : I < D) (hD : s₁.heap.objs.size ≤ D) (hDC : D < C) (gI : s4.heap.get? I = some oI) (gD : s4.heap.get? D = some (LObj [] 0)) (gC : ∃ m, s4.heap.Ns C m)
    (hfs : ∀ x ∈ fs, e.lookup x.1 = some (.val x.2) ∧ tab'.lookup x.1 = some .free ∧ (tab.lookup x.1 = some .cell ∨ tab.lookup x.1 = some .free)) :
    Rel ((cfx X tab' scope C cl s₁ (Mut X e ρ) []).push I oI) ((0, .own []) :: fs.map fun x => (x.1, Slot.val x.2)) (fun _ => D) s4 ∧
    Tr (Mut X e ρ) s₁.heap (Mut ((cfx X tab' scope C cl s₁ (Mut X e ρ) []).push I oI) ((0, .own []) :: fs.map fun x => (x.1, Slot.val x.2)) (fun _ => D)) s4.heap := by
  have mut0 : ∀ i, isMut (((0, Slot.own []) : Nat × Slot) :: fs.map fun x => (x.1, Slot.val x.2)) i → i = 0 := fun i ⟨sl, hl, hm⟩ => by
    rw [List.lookup_cons] at hl
    by_cases q : i = 0
    · exact q
    · have : (i == 0) = false := by simpa using q
      rw [this] at hl
      have key : ∀ fs : List (Nat × PV), (fs.map fun x => (x.1, Slot.val x.2)).lookup i = some sl → ∃ p, sl = .val p := fun fs => by
        induction fs with
        | nil => intro h; simp at h
        | cons a r ih =>
          intro h
          rw [List.map_cons, List.lookup_cons] at h
          cases hb : i == a.1 with
          | true => rw [hb] at h; cases h; exact ⟨_, rfl⟩
          | false => rw [hb] at h; exact ih h
      obtain ⟨p, rfl⟩ := key fs hl
      cases hm
  have hC : s₁.heap.objs.size ≤ C := Nat.le_of_lt (Nat.lt_of_le_of_lt hD hDC)
  have hoc : ∀ c, c ∈ (cellsFrom (C + 1) scope.names []).map (·.2) → ∃ x, (x, c) ∈ cellsFrom (C + 1) scope.names [] := fun c h => by
    obtain ⟨⟨x, c'⟩, hx, rfl⟩ := List.mem_map.mp h; exact ⟨x, hx⟩
  have hMut : ∀ b, Mut ((cfx X tab' scope C cl s₁ (Mut X e ρ) []).push I oI) ((0, .own []) :: fs.map fun x => (x.1, Slot.val x.2)) (fun _ => D) b → Mut X e ρ b ∨ s₁.heap.get? b = none := fun b q => by
    rcases q with q | q | q | ⟨p, hp, rfl⟩ | ⟨i, _, hi⟩
    · exact .inl q
    · have q' : b = C := q
      exact .inr (q' ▸ get_ge hC)
    · obtain ⟨x, hx⟩ := hoc b q
      exact .inr (get_ge (Nat.le_of_lt (Nat.lt_of_le_of_lt hC (hab x b hx))))
    · rcases List.mem_cons.mp hp with rfl | hp
      · exact .inr hI
      · cases hp
    · have q' : b = D := hi
      exact .inr (q' ▸ get_ge hD)
  obtain ⟨h', tk, rfl, kt, kk⟩ := k
  have t : Tr (Mut X e ρ) s₁.heap (Mut ((cfx X tab' scope C cl s₁ (Mut X e ρ) []).push I oI) ((0, .own []) :: fs.map fun x => (x.1, Slot.val x.2)) (fun _ => D)) h' := fun b o hn ho => ⟨fun q => (hMut b q).elim hn (fun z => by rw [z] at ho; cases ho), kk b o ho⟩
  refine ⟨⟨⟨h', tk, rfl⟩, kt R.tok, kk, gC, fun c hc => ?_, fun p hp => ?_, fun i hi => get_ge hD, fun i hi => Nat.ne_of_lt hDC, fun i hi hc => ?_, fun i hi p hp => ?_, fun i j hi hj _ => (mut0 i hi).trans (mut0 j hj).symm, fun i sl hl => ?_⟩, t⟩
  · obtain ⟨x, hx⟩ := hoc c hc; exact ⟨_, hcell x c hx⟩
  · rcases List.mem_cons.mp hp with rfl | hp
    · exact gI
    · cases hp
  · obtain ⟨x, hx⟩ := hoc _ hc; exact Nat.lt_asymm hDC (hab x _ hx)
  · rcases List.mem_cons.mp hp with rfl | hp
    · exact Nat.ne_of_lt hID
    · cases hp
  · rw [List.lookup_cons] at hl
    by_cases q : i = 0
    · subst q
      simp at hl; subst hl
      exact ⟨Str.ofString "?", rfl, fun h => absurd rfl h, [], 0, gD, RepL.nil⟩
    · have q' : (i == 0) = false := by simpa using q
      rw [q'] at hl
      have key : ∀ fs : List (Nat × PV), (fs.map fun x => (x.1, Slot.val x.2)).lookup i = some sl → ∃ p, (i, p) ∈ fs ∧ sl = .val p := fun fs => by
        induction fs with
        | nil => intro h; simp at h
        | cons a r ih =>
          intro h
          rw [List.map_cons, List.lookup_cons] at h
          cases hb : i == a.1 with
          | true => rw [hb] at h; cases h; exact ⟨a.2, by rw [eq_of_beq hb]; exact List.mem_cons_self, rfl⟩
          | false => rw [hb] at h; obtain ⟨p, h1, h2⟩ := ih h; exact ⟨p, List.mem_cons_of_mem _ h1, h2⟩
      obtain ⟨p, hp, rfl⟩ := key fs hl
      obtain ⟨f1, f2, f3⟩ := hfs _ hp
      obtain ⟨x, hx, v, hv, hr⟩ := R.names i _ f1
      refine ⟨x, hx, v, ?_, Rep.tr t _ _ hr⟩
      -- the outer frame keeps it in a cell
      have hcell' : ∃ c, X.env.cells.lookup x = some c ∧ s₁.heap.IsCell c (some v) := by
        have : X.env.kindOf x = some .cell ∨ X.env.kindOf x = some .free := by
          rcases f3 with f3 | f3
          · obtain ⟨x', hx', hkx⟩ := ok.kind i _ f3
            rw [hx] at hx'; cases hx'
            exact .inl hkx.1
          · obtain ⟨x', hx', hkx⟩ := ok.kind i _ f3
            rw [hx] at hx'; cases hx'
            exact hkx.1.symm
        unfold Fx.varOf at hv
        rcases this with h | h
        · rw [h] at hv; exact hv
        · rw [h] at hv; exact hv
      obtain ⟨c, hc1, hc2⟩ := hcell'
      obtain ⟨x', hx', hlk⟩ := tabOk_get ht f2
      rw [hx] at hx'; cases hx'
      obtain ⟨c', hc'⟩ := hcl2 x (mem_of_lookup (α := NameKind) hlk)
      have hl2 : (cellsFrom (C + 1) scope.names cl).lookup x = some c := by
        rw [cellsFrom_append]
        have hnone : (cellsFrom (C + 1) scope.names []).lookup x = none := by
          cases hq : (cellsFrom (C + 1) scope.names []).lookup x with
          | none => rfl
          | some c2 =>
            rcases cellsFrom_mem (mem_of_lookup hq) with z | z
            · cases z
            · have z2 := mem_of_lookup (α := NameKind) hlk
              exact absurd (nodup_key nd z z2) (by decide)
        rw [List.lookup_append, hnone]
        obtain ⟨c2, hc2'⟩ := lookup_mem hc'
        have := (hcl x c2 (mem_of_lookup hc2')).1
        rw [hc1] at this; cases this
        rw [hc2']; rfl
      have hr2 := relabel_lookup (env := X.env) hlk
      have hkk : ((cfx X tab' scope C cl s₁ (Mut X e ρ) []).push I oI).env.kindOf x = some .cell ∨ ((cfx X tab' scope C cl s₁ (Mut X e ρ) []).push I oI).env.kindOf x = some .free := by
        by_cases hcc : (NameKind.free == NameKind.free && X.env.scope.kind == .function && X.env.kindOf x == some .cell) = true
        · rw [if_pos hcc] at hr2; exact .inl hr2
        · rw [if_neg hcc] at hr2; exact .inr hr2
      unfold Fx.varOf
      have hcell2 : (h' : Heap).IsCell c (some v) := hc2.keeps kk
      rcases hkk with h | h
      · rw [h]; exact ⟨c, hl2, hcell2⟩
      · rw [h]; exact ⟨c, hl2, hcell2⟩
end
end Mine
end

section
open PySem PySem.W PyProof.Rows PySem.Calls
set_option Elab.async false
set_option linter.unusedVariables false
set_option maxRecDepth 100000
namespace Mine

section
variable {tab : List (Nat × NameKind)} {X : Fx tab} {e e₁ e₂ e₃ : PEnv} {p q out : PV}

/-- what is asked of a comprehension's scope -/
structure ScOk (tab tab' : List (Nat × NameKind)) (e : PEnv) (scope : Scope) (fs : List (Nat × PV)) : Prop where
  fn : scope.kind = .function
  ok : tabOk tab' scope.names = true
  nd : (scope.names.map (·.1)).Nodup
  fs : ∀ x ∈ fs, e.lookup x.1 = some (.val x.2) ∧ tab'.lookup x.1 = some .free ∧ (tab.lookup x.1 = some .cell ∨ tab.lookup x.1 = some .free)
  free : ∀ x ∈ scope.names, x.2 = .free → ∃ i k, allNames[i]? = some x.1 ∧ tab.lookup i = some k ∧ (k = .cell ∨ k = .free)

def start (fs : List (Nat × PV)) : PEnv := (0, .own []) :: fs.map fun x => (x.1, Slot.val x.2)

/-- the context of a comprehension, known by what is asked of it -/
structure CompX (X : Fx tab) {tab' : List (Nat × NameKind)} (scope : Scope) (Y : Fx tab') : Prop where
  w : Y.w = X.w
  n : Y.n = X.n
  K : Y.K = X.K
  A : Y.A = X.A
  names : ∀ x k, scope.names.lookup x = some k → k ≠ .free → Y.env.kindOf x = some k

theorem comp_core {tab' : List (Nat × NameKind)} {elt : Expr} {g0 : Comprehension} {gs : List Comprehension} {scope : Scope} {cpos : Pos} {x0 : Str} {xp : Pos} {iter : Expr} {ifs : List Expr} {t : Nat} {k : NameKind} {items : List PV} {fs : List (Nat × PV)} {ps : List PV} {use : Option (Value → Sem Unit)}
    {pos : Pos} {ρ : Nat → Addr} {s : Shared} {Q : Value → Shared → Prop} (act : ∀ {tab' : List (Nat × NameKind)} (Y : Fx tab') (D : Addr), Sem Unit)
    (hgs : g0 = ⟨.Name x0 xp, iter, ifs, 0⟩) (ok : X.Ok) (R : Rel X e ρ s) (h1 : Ev X e (eval iter X.env) q e₁) (hI : Iters X q items) (S : ScOk tab tab' e₁ scope fs) (hs : ∀ v, foldedSetIterable iter X.env v = pure v)
    (hx : allNames[t]? = some x0) (ht : tab'.lookup t = some k) (hk : stor k = true)
    (hform : ∀ (Y : Fx tab') (D I : Addr), compTurn (.ListComp elt (g0 :: gs) scope cpos) 0 (.ref I) (.ref D) Y.env = turnForm iter (.Name x0 xp) ifs (act Y D) (.ref I) Y.env (.compLoop (.ListComp elt (g0 :: gs) scope cpos) 0 (.ref I) (.ref D) Y.env))
    (hB : ∀ (Y : Fx tab') (D : Addr), CompX X scope Y → ∃ e', TurnsC (CB Y D t ifs (act Y D)) items (start fs) e' ∧ e'.lookup 0 = some (.own ps))
    (hQ : ∀ s1 s5 C D oC, Rel X e₁ ρ s1 → Tr (Mut X e ρ) s.heap (Mut X e₁ ρ) s1.heap → Kp s1 s5 → s1.heap.get? C = none → s5.heap.get? C = some oC → (∃ m, s5.heap.Ns C m) → (∀ P', (∀ b, P' b → Mut X e₁ ρ b ∨ b = C) → Rep s5.heap P' (.list ps) (.ref D)) →
      compPost (model prg X.w) X.A No use Q (.ref D) C (.ok .next) s5) :
    wpAny (model prg X.w) X.A (comprehension (.ListComp elt (g0 :: gs) scope cpos) scope X.env pos (newList []) false (eval iter X.env) use) Q No s := by
  subst hgs
  obtain ⟨cl, hcl0, hcl, hcl2⟩ := closure_ok (scope := scope) (env := X.env) (fun x hx => by
    obtain ⟨i, k, h1, h2, h3⟩ := S.free _ hx rfl
    obtain ⟨x', hx', hkx⟩ := ok.kind i k h2
    rw [h1] at hx'; cases hx'
    rcases h3 with rfl | rfl
    · obtain ⟨_, c, hc, _⟩ := hkx; exact ⟨c, hc⟩
    · exact hkx.2)
  have hlocal : ∀ x ∈ scope.names, x.2 = .local → scope.names.lookup x.1 = some .local := fun x hx hl => by
    obtain ⟨k', hk'⟩ := lookup_mem (α := NameKind) hx
    have := nodup_key S.nd (mem_of_lookup (α := NameKind) hk') hx
    rw [hk', this, hl]
  refine wpAny_comprehension_free rfl hs hcl0 S.fn hlocal (wpAny_mono (h1 ok ρ s R) (fun v s1 hv1 => ?_) fun _ _ h => h)
  obtain ⟨R1, t1, rv⟩ := hv1
  refine hI ok s1 _ (R1.cx ok) v rv _ (fun I fz Pv St s2 hno k2 le12 W live st0 hfz hv => ?_)
  obtain ⟨oI, hoI⟩ := live _ _ st0
  refine wpAny_newList (newEnvC ?_) (by decide)
  have hh1 := k2
  obtain ⟨h2, tk2, rfl, kt2, kk2⟩ := k2
  dsimp only at hno hoI ok
  have I2 : I < h2.objs.size := Heap.lt_size hoI
  generalize hH3 : h2.push { cls := .type "list", dict := none, data := .seq ([] : List Value).toArray } = H3
  have sz3 : H3.objs.size = h2.objs.size + 1 := by rw [← hH3, Heap.size_push]
  have gD3 : H3.get? h2.objs.size = some (LObj [] 0) := by rw [← hH3]; exact Heap.get?_push_size _ rfl
  have k23 : ∀ b o, h2.get? b = some o → H3.get? b = some o := fun b o hb => by rw [← hH3]; exact Heap.get?_push_of_some _ hb
  have okc := cellsFrom_ok scope.names (H3.push { cls := .type "dict", data := .dict #[] }) (H3.objs.size + 1) [] ⟨fun _ _ hm => (nomatch hm), List.Pairwise.nil⟩ (by rw [Heap.size_push]; exact Nat.le_refl _)
  rw [Heap.size_push] at okc
  generalize hH4 : pushCells (H3.push { cls := .type "dict", data := .dict #[] }) scope.names = H4 at *
  have k34 : ∀ b o, H3.get? b = some o → H4.get? b = some o := fun b o hb => by rw [← hH4]; exact pushCells_keeps _ _ b o (Heap.get?_push_of_some _ hb)
  have gC4 : H4.Ns H3.objs.size (fun _ => none) := by rw [← hH4]; exact (Heap.Ns.new H3 (.type "dict")).keeps (pushCells_keeps _ _)
  have hDC : h2.objs.size < H3.objs.size := by rw [sz3]; exact Nat.lt_succ_self _
  have gI4 : H4.get? I = some oI := k34 _ _ (k23 _ _ hoI)
  have k14 : Kp s1 { s1 with heap := H4, toks := tk2 } := ⟨H4, tk2, rfl, kt2, fun b o hb => k34 _ _ (k23 _ _ (kk2 b o hb))⟩
  have hab : ∀ x c, (x, c) ∈ cellsFrom (H3.objs.size + 1) scope.names [] → H3.objs.size < c := fun x c hx => (okc.empty x c hx).2
  obtain ⟨R4, t4⟩ := cfx_rel (s4 := { s1 with heap := H4, toks := tk2 }) (D := h2.objs.size) (C := H3.objs.size) ok R1 S.ok hcl hcl2 S.nd hab (fun x c hx => (okc.empty x c hx).1) k14 hno I2 le12 hDC gI4 (k34 _ _ gD3) ⟨_, gC4⟩ S.fs
  have okY := cfx_ok (l := [(I, oI)]) ok R1 S.fn S.ok hcl hcl2 hab okc.apart (Nat.le_of_lt (Nat.lt_of_le_of_lt le12 hDC)) (fun p hp => by
    rcases List.mem_cons.mp hp with rfl | hp
    · exact ⟨hno, Nat.lt_trans I2 hDC⟩
    · cases hp)
  have cx1 := R1.cx ok
  have D0 : s1.heap.get? h2.objs.size = none := get_ge le12
  have C0 : s1.heap.get? H3.objs.size = none := get_ge (Nat.le_of_lt (Nat.lt_of_le_of_lt le12 hDC))
  obtain ⟨e', hT, h0⟩ := hB (cfx X tab' scope H3.objs.size cl s1 (Mut X e₁ ρ) []) h2.objs.size ⟨rfl, rfl, rfl, rfl, fun x k hl hk => by
    have := relabel_lookup (env := X.env) hl
    rw [if_neg (by simp [hk])] at this
    exact this⟩
  refine compStart_any (g := ⟨.Name x0 xp, iter, ifs, 0⟩) rfl rfl ?_ (fun Q E hq => (W X.A ok.room.handled).self 0 { s1 with heap := H4, toks := tk2 } Q E ?_ hq)
  · refine comp_loop (X := cfx X tab' scope H3.objs.size cl s1 (Mut X e₁ ρ) []) (hform _ h2.objs.size I) hx ht hk okY (fun p hp => by cases hp) R4 rfl (W _ ok.room.handled) live (fun b hb => ?_) (fun P' h' t' i v q => hv P' h' (t4.trans t') i v q) hT (fun s5 R5 t5 => ?_) ?_
    · obtain ⟨h1, o, ho⟩ := hfz b hb
      obtain ⟨a1, a2⟩ := t4 b o h1 ho
      exact ⟨a1, o, a2⟩
    · obtain ⟨m5, hm5⟩ := R5.ns
      obtain ⟨oC, esC, epC, hoC, hrC⟩ := id hm5
      refine hQ s1 s5 H3.objs.size h2.objs.size oC R1 t1 ?_ C0 hoC ⟨m5, hm5⟩ (fun P' hP' => ?_)
      · obtain ⟨h5, tk5, rfl⟩ := R5.same
        exact ⟨h5, tk5, rfl, fun _ => R5.tok, R5.keep⟩
      · obtain ⟨y, hy, _, vs, n, hg, hr⟩ := R5.names 0 _ h0
        refine rep_list (fun q => ?_) hg (RepL.tr (fun b o hb ho => ⟨fun q => hb ?_, ho⟩) _ _ hr)
        · rcases hP' _ q with z | z
          · exact cx1.new D0 z
          · exact Nat.ne_of_lt hDC z
        · rcases hP' b q with z | z
          · exact .inl z
          · exact .inr (.inl z)
    · exact (W X.A ok.room.handled).frame 0 h2 H4 st0 fun b hb o ho => k34 _ _ (k23 _ _ ho)
  · exact (W X.A ok.room.handled).frame 0 h2 H4 st0 fun b hb o ho => k34 _ _ (k23 _ _ ho)

/-- a comprehension's value -/
theorem Ev.comp {tab' : List (Nat × NameKind)} {elt : Expr} {gs : List Comprehension} {scope : Scope} {cpos : Pos} {x0 : Str} {xp : Pos} {iter : Expr} {ifs : List Expr} {t : Nat} {k : NameKind} {items : List PV} {fs : List (Nat × PV)} {ps : List PV}
    (act : ∀ {tab' : List (Nat × NameKind)} (Y : Fx tab') (D : Addr), Sem Unit)
    (h1 : Ev X e (eval iter X.env) q e₁) (hI : Iters X q items) (S : ScOk tab tab' e₁ scope fs) (hs : ∀ v, foldedSetIterable iter X.env v = pure v)
    (hx : allNames[t]? = some x0) (ht : tab'.lookup t = some k) (hk : stor k = true)
    (hform : ∀ (Y : Fx tab') (D I : Addr), compTurn (.ListComp elt (⟨.Name x0 xp, iter, ifs, 0⟩ :: gs) scope cpos) 0 (.ref I) (.ref D) Y.env = turnForm iter (.Name x0 xp) ifs (act Y D) (.ref I) Y.env (.compLoop (.ListComp elt (⟨.Name x0 xp, iter, ifs, 0⟩ :: gs) scope cpos) 0 (.ref I) (.ref D) Y.env))
    (hB : ∀ (Y : Fx tab') (D : Addr), CompX X scope Y → ∃ e', TurnsC (CB Y D t ifs (act Y D)) items (start fs) e' ∧ e'.lookup 0 = some (.own ps)) :
    Ev X e (eval (.ListComp elt (⟨.Name x0 xp, iter, ifs, 0⟩ :: gs) scope cpos) X.env) (.list ps) e₁ := fun ok ρ s R => by
  rw [eval_ListComp]
  refine comp_core act rfl ok R h1 hI S hs hx ht hk hform hB (fun s1 s5 C D oC R1 t1 k15 hC0 hCo hNs hrep => ?_)
  obtain ⟨m, hm⟩ := hNs
  refine ⟨m, hm, fun h' hsb => ?_⟩
  have k' : Kp s1 { s5 with heap := h' } := by
    obtain ⟨h5, tk5, rfl, kt, kk⟩ := k15
    refine ⟨h', tk5, rfl, kt, fun b o hb => (hsb.2 b fun z => ?_).trans (kk b o hb)⟩
    have z' : b = C := z
    rw [z', hC0] at hb; cases hb
  obtain ⟨R2, t2⟩ := R1.keepsL ok k'.toL
  refine ⟨R2, t1.trans t2, ?_⟩
  have r0 := hrep (fun b => Mut X e₁ ρ b ∨ b = C) (fun b h => h)
  exact Rep.tr (fun b o hb ho => ⟨fun z => hb (.inl z), (hsb.2 b fun z => hb (.inr z)).trans ho⟩) _ _ r0

/-- y = [...], where the store comes first -/
theorem Ex.assignComp {tab' : List (Nat × NameKind)} {elt : Expr} {gs : List Comprehension} {scope : Scope} {cpos pos npos : Pos} {x0 y : Str} {xp : Pos} {iter : Expr} {ifs : List Expr} {i t : Nat} {k ky : NameKind} {items : List PV} {fs : List (Nat × PV)} {ps : List PV}
    (act : ∀ {tab' : List (Nat × NameKind)} (Y : Fx tab') (D : Addr), Sem Unit)
    (h1 : Ev X e (eval iter X.env) q e₁) (hI : Iters X q items) (S : ScOk tab tab' e₁ scope fs) (hs : ∀ v, foldedSetIterable iter X.env v = pure v)
    (hx : allNames[t]? = some x0) (ht : tab'.lookup t = some k) (hk : stor k = true) (hy : allNames[i]? = some y) (hi : tab.lookup i = some ky) (hky : stor ky = true)
    (hsw : swapsWith (.ListComp elt (⟨.Name x0 xp, iter, ifs, 0⟩ :: gs) scope cpos) (some (.Name y npos)) pos.line X.env = pure true)
    (hform : ∀ (Y : Fx tab') (D I : Addr), compTurn (.ListComp elt (⟨.Name x0 xp, iter, ifs, 0⟩ :: gs) scope cpos) 0 (.ref I) (.ref D) Y.env = turnForm iter (.Name x0 xp) ifs (act Y D) (.ref I) Y.env (.compLoop (.ListComp elt (⟨.Name x0 xp, iter, ifs, 0⟩ :: gs) scope cpos) 0 (.ref I) (.ref D) Y.env))
    (hB : ∀ (Y : Fx tab') (D : Addr), CompX X scope Y → ∃ e', TurnsC (CB Y D t ifs (act Y D)) items (start fs) e' ∧ e'.lookup 0 = some (.own ps)) :
    Ex X e (exec (.Assign [.Name y npos] (.ListComp elt (⟨.Name x0 xp, iter, ifs, 0⟩ :: gs) scope cpos) pos) X.env) .next (e₁.set i (.val (.list ps))) := fun ok ρ s R => by
  rw [exec_Assign_Name_used _ _ _ _ hsw]
  refine wpAny_bind (wpAny_standAt (wpAny_bind ?_))
  show wpAny _ _ (do let _ ← comprehension (.ListComp elt (⟨.Name x0 xp, iter, ifs, 0⟩ :: gs) scope cpos) scope X.env _ (newList []) false (eval iter X.env) (some (PySem.assign (.Name y npos) X.env))) _ _ s
  refine wpAny_bind (wpAny_mono (comp_core (Q := fun _ s' => ∃ ρ', Rel X (e₁.set i (.val (.list ps))) ρ' s' ∧ Tr (Mut X e ρ) s.heap (Mut X (e₁.set i (.val (.list ps))) ρ') s'.heap) act rfl ok R h1 hI S hs hx ht hk hform hB (fun s1 s5 C D oC R1 t1 k15 hC0 hCo hNs hrep => ?_)) (fun _ s' h => ?_) fun _ _ h => h)
  · obtain ⟨okp, Rp, tp⟩ := R1.push ok k15.toL hC0 hCo
    have rl := hrep (Mut (X.push C oC) e₁ ρ) (fun b h => Mut.push.mp h)
    refine wpAny_assign_Name (storeName_ok okp Rp (X := X.push C oC) hi hy (stor_or hky) (fun s6 st => ?_))
    obtain ⟨R6, t6⟩ := Rp.store okp hy st rl
    have gC6 : s6.heap.get? C = some oC := R6.its _ List.mem_cons_self
    obtain ⟨m, o, es, ep, ho, hr⟩ := hNs
    rw [hCo] at ho; cases ho
    refine ⟨m, ⟨oC, es, ep, gC6, hr⟩, fun h' hsb => ?_⟩
    obtain ⟨R7, t7⟩ := R6.dropAt (h' := h') (tk := s6.toks) okp (its_ne R1 hC0) (fun b ob hb ho => (hsb.2 b hb).trans ho) R6.tok
    exact ⟨ρ, R7, ((t1.trans tp).trans t6).trans t7⟩
  · obtain ⟨ρ', R', t'⟩ := h
    exact wpAny_pure (wpAny_pure ⟨ρ', R', t', rfl⟩)
end
end Mine
end

section
open PySem PySem.W PyProof.Rows PySem.Calls
set_option Elab.async false
set_option linter.unusedVariables false
set_option maxRecDepth 100000
namespace Mine
open PySem.Sre

theorem runFor_stop : ∀ (n : Nat) (m : M), m.outcome.isSome = true → m.runFor n = m
  | 0, _, _ => rfl
  | n + 1, m, h => by unfold M.runFor; rw [if_pos h]
theorem runFor_succ (n : Nat) (m : M) : m.runFor (n + 1) = if m.outcome.isSome = true then m else m.step.runFor n := rfl
theorem runFor_add : ∀ (a b : Nat) (m : M), m.runFor (a + b) = (m.runFor a).runFor b
  | 0, b, m => by rw [Nat.zero_add]; rfl
  | a + 1, b, m => by
    rw [Nat.succ_add, runFor_succ, runFor_succ]
    by_cases h : m.outcome.isSome = true
    · rw [if_pos h, if_pos h]
      exact (runFor_stop _ _ h).symm
    · rw [if_neg h, if_neg h]
      exact runFor_add a b m.step

/-- the machine comes to an end -/
def Ends (m m' : M) (n : Nat) : Prop := m.runFor n = m' ∧ m'.outcome.isSome = true
theorem Ends.step {m m1 m' : M} {k n : Nat} (h : m.runFor k = m1) (e : Ends m1 m' n) : Ends m m' (k + n) := ⟨by rw [runFor_add, h]; exact e.1, e.2⟩

theorem drive {A : Around} {w : World} {s : Shared} {Q : M → Shared → Prop} {E : Value → Shared → Prop} : ∀ (turns : Nat) (m m' : M) (n : Nat), Ends m m' n → n ≤ 4 * turns → 0 < turns → Q m' s → wpAny (model prg w) A (Builtin.Re.reDrive turns m) Q E s
  | 0, _, _, _, _, _, h, _ => absurd h (Nat.lt_irrefl 0)
  | turns + 1, m, m', n, e, hn, _, hq => by
    unfold Builtin.Re.reDrive
    have e4 : Builtin.Re.reTurnSteps = 4 := rfl
    dsimp only
    rw [e4]
    rcases Nat.lt_or_ge 4 n with h4 | h4
    · have hs : m.runFor n = (m.runFor 4).runFor (n - 4) := by rw [← runFor_add]; congr 1; omega
      by_cases h : (m.runFor 4).outcome.isSome = true
      · rw [if_pos h]
        have : m' = m.runFor 4 := by rw [← e.1, hs, runFor_stop _ _ h]
        rw [← this]; exact wpAny_pure hq
      · rw [if_neg h]
        refine wpAny_bind (wpAny_rule ?_)
        exact drive turns (m.runFor 4) m' (n - 4) ⟨by rw [← hs]; exact e.1, e.2⟩ (by omega) (by omega) hq
    · have : m.runFor 4 = m' := by
        have : m.runFor 4 = (m.runFor n).runFor (4 - n) := by rw [← runFor_add]; congr 1; omega
        rw [this, e.1, runFor_stop _ _ e.2]
      rw [this, if_pos e.2]
      exact wpAny_pure hq

theorem rules_pass {A : Around} {w : World} {s : Shared} {Q : PUnit → Shared → Prop} {E : Value → Shared → Prop} {m : M} (h : Q ⟨⟩ s) : ∀ l : List Nat, wpAny (model prg w) A (forIn l PUnit.unit fun i r => do
      if m.seen.has i = true then do rule (Sre.names.getD i ""); pure (ForInStep.yield PUnit.unit) else pure (ForInStep.yield PUnit.unit)) Q E s
  | [] => wpAny_pure h
  | i :: l => by
    rw [List.forIn_cons]
    refine wpAny_bind ?_
    split
    · exact wpAny_bind (wpAny_rule (wpAny_pure (rules_pass h l)))
    · exact wpAny_pure (rules_pass h l)

theorem runToEnd {A : Around} {w : World} {s : Shared} {Q : Option M → Shared → Prop} {E : Value → Shared → Prop} {m m' : M} {n : Nat} (e : Ends m m' n) (hn : n ≤ 2 ^ 60)
    (h : (m'.outcome = some .matched ∧ Q (some m') s) ∨ (m'.outcome = some .failed ∧ Q none s)) : wpAny (model prg w) A (Builtin.Re.reRunToEnd m) Q E s := by
  unfold Builtin.Re.reRunToEnd
  refine wpAny_bind (drive (2 ^ 64) m m' n e (by omega) (by decide) ?_)
  refine wpAny_bind ?_
  have key := fun (Q' : PUnit → Shared → Prop) (h' : Q' ⟨⟩ s) => rules_pass (A := A) (w := w) (E := E) (m := m') h' (List.range Sre.names.size)
  refine key _ ?_
  rcases h with ⟨h1, h2⟩ | ⟨h1, h2⟩
  · rw [h1]; exact wpAny_pure h2
  · rw [h1]; exact wpAny_pure h2

/-! the first pattern: a dot at the start of a line -/
def c1 : Array Nat := #[14, 4, 0, 1, 1, 6, 1, 16, 46, 1]
def s1 (text : Array Nat) (lim s : Nat) (first : Bool) (seen : Sre.Seen) (pc pos : Nat) (ans : Option Bool) : M :=
  { code := c1, text := text, lim := lim, start := s, lastStart := lim, pc := pc, pos := pos, handed := s, outermost := first, marks := #[], frames := [{ wait := .nextStart, pc := 5, pos := s, outermost := first }], weight := 1, seen := seen, answer := ans }
def lineStart (text : Array Nat) (s : Nat) : Bool := s == 0 || text.getD (s - 1) 0 == 10

theorem s1_at (text lim s first seen) : (s1 text lim s first seen 5 s none).step = (if lineStart text s = true then s1 text lim s first ((seen.add 6).add 44) 7 s none else s1 text lim s first ((seen.add 6).add 44) 5 s (some false)) := by rfl
theorem s1_lit (text lim s first seen) : (s1 text lim s first seen 7 s none).step = (if s ≥ lim then s1 text lim s first (seen.add 16) 7 s (some false) else if (text.getD s 0 == 46) = true then s1 text lim s first (seen.add 16) 9 (s + 1) none else s1 text lim s first (seen.add 16) 7 s (some false)) := by
  have key : ∀ b : Bool, (match (Except.ok (b, seen.add 16) : Except String (Bool × Sre.Seen)) with
    | .error why => (s1 text lim s first (seen.add 16) 7 s none).stick why
    | .ok (false, seen') => { s1 text lim s first (seen.add 16) 7 s none with seen := seen' }.say false
    | .ok (true, seen') => { s1 text lim s first (seen.add 16) 7 s none with seen := seen', pc := 7 + 2, pos := s + 1 }) = if b = true then s1 text lim s first (seen.add 16) 9 (s + 1) none else s1 text lim s first (seen.add 16) 7 s (some false) := fun b => by cases b <;> rfl
  rw [← key]
  rfl
theorem s1_end (text lim s first seen) : (s1 text lim s first seen 9 (s + 1) none).step = { s1 text lim s first (seen.add 1) 9 (s + 1) (some true) with handed := s + 1 } := by
  show (if (first && ((false && (s + 1 != lim)) || (false && (s + 1 == s)))) = true then _ else _) = _
  rw [if_neg (by simp)]
  rfl
/-- what the search gives -/
def found (code text : Array Nat) (lim last s e : Nat) (seen : Sre.Seen) (pc : Nat) (first : Bool) : M :=
  { code := code, text := text, lim := lim, start := s, lastStart := last, pc := pc, pos := s, handed := e, outermost := first, marks := #[], frames := [], weight := 0, seen := seen, answer := some true, outcome := some .matched }
theorem s1_yes (text lim s first seen) : ({ s1 text lim s first seen 9 (s + 1) (some true) with handed := s + 1 } : M).runFor 2 = found c1 text lim lim s (s + 1) seen 5 first := by rfl
theorem s1_no (text lim s first seen pc pos) : (s1 text lim s first seen pc pos (some false)).step = (if s < lim then s1 text lim (s + 1) false seen 5 (s + 1) none else { s1 text lim s first seen 5 s (some false) with frames := [], weight := 0 }) := by rfl
theorem s1_over (text lim s first seen) : ({ s1 text lim s first seen 5 s (some false) with frames := [], weight := 0 } : M).step = { s1 text lim s first seen 5 s (some false) with frames := [], weight := 0, outcome := some .failed } := by rfl

/-- a match of the first pattern at s -/
def hit1 (text : Array Nat) (lim s : Nat) : Prop := lineStart text s = true ∧ s < lim ∧ text.getD s 0 = 46
theorem s1_hit {text lim s first seen} (h : hit1 text lim s) : ∃ seen', Ends (s1 text lim s first seen 5 s none) (found c1 text lim lim s (s + 1) seen' 5 first) 5 := by
  have h2 := h.2.1
  have e1 : (s1 text lim s first seen 5 s none).runFor 1 = s1 text lim s first ((seen.add 6).add 44) 7 s none := by
    show (s1 text lim s first seen 5 s none).step = _
    rw [s1_at, if_pos h.1]
  have e2 : (s1 text lim s first ((seen.add 6).add 44) 7 s none).runFor 1 = s1 text lim s first (((seen.add 6).add 44).add 16) 9 (s + 1) none := by
    show (s1 text lim s first ((seen.add 6).add 44) 7 s none).step = _
    rw [s1_lit, if_neg (by omega), if_pos (by simp [h.2.2])]
  have e3 : (s1 text lim s first (((seen.add 6).add 44).add 16) 9 (s + 1) none).runFor 1 = { s1 text lim s first ((((seen.add 6).add 44).add 16).add 1) 9 (s + 1) (some true) with handed := s + 1 } := s1_end _ _ _ _ _
  exact ⟨_, Ends.step e1 (Ends.step e2 (Ends.step e3 ⟨s1_yes _ _ _ _ _, rfl⟩))⟩
theorem s1_miss {text lim s first seen} (h : ¬ hit1 text lim s) : ∃ seen' k pc, k ≤ 2 ∧ (s1 text lim s first seen 5 s none).runFor k = s1 text lim s first seen' pc s (some false) := by
  by_cases hl : lineStart text s = true
  · refine ⟨((seen.add 6).add 44).add 16, 2, 7, Nat.le_refl _, ?_⟩
    have e1 : (s1 text lim s first seen 5 s none).runFor 1 = s1 text lim s first ((seen.add 6).add 44) 7 s none := by
      show (s1 text lim s first seen 5 s none).step = _
      rw [s1_at, if_pos hl]
    rw [show (2 : Nat) = 1 + 1 from rfl, runFor_add, e1]
    show (s1 text lim s first ((seen.add 6).add 44) 7 s none).step = _
    rw [s1_lit]
    by_cases hs : s ≥ lim
    · rw [if_pos hs]
    · rw [if_neg hs, if_neg]
      exact fun q => h ⟨hl, by omega, by simpa using q⟩
  · refine ⟨(seen.add 6).add 44, 1, 5, by omega, ?_⟩
    show (s1 text lim s first seen 5 s none).step = _
    rw [s1_at, if_neg hl]

/-- the first place from s on where the first pattern matches -/
theorem search1 {text : Array Nat} {lim : Nat} : ∀ (k s : Nat) (first : Bool) (seen : Sre.Seen), s + k = lim → 
    (∃ j seen' f' n, s ≤ j ∧ hit1 text lim j ∧ (∀ i, s ≤ i → i < j → ¬ hit1 text lim i) ∧ n ≤ 3 * (k + 2) + 5 ∧ Ends (s1 text lim s first seen 5 s none) (found c1 text lim lim j (j + 1) seen' 5 f') n) ∨
    ((∀ i, s ≤ i → ¬ hit1 text lim i) ∧ ∃ m' n, n ≤ 3 * (k + 2) + 5 ∧ Ends (s1 text lim s first seen 5 s none) m' n ∧ m'.outcome = some .failed)
  | 0, s, first, seen, hk => by
    obtain ⟨seen', c, pc, hc, hm⟩ := s1_miss (text := text) (lim := lim) (s := s) (first := first) (seen := seen) (fun q => by have := q.2.1; omega)
    right
    refine ⟨fun i hi q => ?_, { s1 text lim s first seen' 5 s (some false) with frames := [], weight := 0, outcome := some .failed }, c + (1 + 1), by omega, Ends.step hm (Ends.step (k := 1) (m1 := { s1 text lim s first seen' 5 s (some false) with frames := [], weight := 0 }) ?_ ⟨s1_over _ _ _ _ _, rfl⟩), rfl⟩
    · have := q.2.1; omega
    · show (s1 text lim s first seen' pc s (some false)).step = _
      rw [s1_no, if_neg (by omega)]
  | k + 1, s, first, seen, hk => by
    by_cases h : hit1 text lim s
    · left
      obtain ⟨seen', e⟩ := s1_hit (first := first) (seen := seen) h
      exact ⟨s, seen', first, 5, Nat.le_refl _, h, fun i h1 h2 => absurd h1 (by omega), by omega, e⟩
    · obtain ⟨seen', c, pc, hc, hm⟩ := s1_miss (first := first) (seen := seen) h
      have hstep : (s1 text lim s first seen' pc s (some false)).runFor 1 = s1 text lim (s + 1) false seen' 5 (s + 1) none := by
        show (s1 text lim s first seen' pc s (some false)).step = _
        rw [s1_no, if_pos (by omega)]
      rcases search1 (text := text) (lim := lim) k (s + 1) false seen' (by omega) with ⟨j, sn, f', n, h1, h2, h3, h4, h5⟩ | ⟨h1, m', n, h4, h5, h6⟩
      · left
        refine ⟨j, sn, f', c + (1 + n), by omega, h2, fun i h1' h2' => ?_, by omega, Ends.step hm (Ends.step hstep h5)⟩
        rcases Nat.lt_or_ge s i with q | q
        · exact h3 i q h2'
        · have : i = s := by omega
          rw [this]; exact h
      · right
        refine ⟨fun i hi => ?_, m', c + (1 + n), by omega, Ends.step hm (Ends.step hstep h5), h6⟩
        rcases Nat.lt_or_ge s i with q | q
        · exact h1 i q
        · have : i = s := by omega
          rw [this]; exact h

theorem forSearch1_eq (text : Array Nat) (s : Nat) : forSearch c1 text 0 s text.size false = (if (decide (s > text.size) || decide (text.size - s < 1)) = true then
    { code := c1, text := text, lim := text.size, start := s, pc := 5, pos := s, handed := s, marks := #[], seen := ({} : Sre.Seen).add 14, answer := some false } else s1 text text.size s true (({} : Sre.Seen).add 14) 5 s none) := by rfl

theorem forSearch1 {text : Array Nat} {s : Nat} :
    (∃ j m' n, s ≤ j ∧ hit1 text text.size j ∧ (∀ i, s ≤ i → i < j → ¬ hit1 text text.size i) ∧ n ≤ 3 * (text.size + 2) + 10 ∧ Ends (forSearch c1 text 0 s text.size false) m' n ∧ m'.outcome = some .matched ∧ m'.start = j ∧ m'.handed = j + 1) ∨
    ((∀ i, s ≤ i → ¬ hit1 text text.size i) ∧ ∃ m' n, n ≤ 3 * (text.size + 2) + 10 ∧ Ends (forSearch c1 text 0 s text.size false) m' n ∧ m'.outcome = some .failed) := by
  rw [forSearch1_eq]
  by_cases h : (decide (s > text.size) || decide (text.size - s < 1)) = true
  · rw [if_pos h]
    right
    refine ⟨fun i hi q => ?_, _, 1, by omega, ⟨rfl, rfl⟩, rfl⟩
    have := q.2.1
    simp at h
    omega
  · rw [if_neg h]
    have h' : s < text.size := by simp at h; omega
    rcases search1 (text := text) (lim := text.size) (text.size - s) s true (({} : Sre.Seen).add 14) (by omega) with ⟨j, sn, f', n, h1, h2, h3, h4, h5⟩ | ⟨h1, m', n, h4, h5, h6⟩
    · left
      exact ⟨j, _, n, h1, h2, h3, by omega, h5, rfl, rfl, rfl⟩
    · right
      exact ⟨h1, m', n, by omega, h5, h6⟩
end Mine
end

section
open PySem PySem.W PyProof.Rows PySem.Calls
set_option Elab.async false
set_option linter.unusedVariables false
set_option maxRecDepth 100000
namespace Mine
open PySem.Sre

/-! the second pattern: an end of a line -/
def c2 : Array Nat := #[14, 9, 4, 1, 2, 16, 10, 16, 13, 0, 7, 7, 16, 13, 16, 10, 15, 18, 5, 16, 10, 15, 13, 11, 16, 13, 5, 5, 0, 16, 10, 1, 15, 2, 0, 1]
def s2 (text : Array Nat) (lim s : Nat) (om : Bool) (seen : Sre.Seen) (pc pos hd : Nat) (ans : Option Bool) (fr : List Sre.Frame) (wt : Nat) : M :=
  { code := c2, text := text, lim := lim, start := s, lastStart := lim, pc := pc, pos := pos, handed := hd, outermost := om, marks := #[], frames := fr, weight := wt, seen := seen, answer := ans }
def base (s : Nat) (first : Bool) : Sre.Frame := { wait := .nextStart, pc := 10, pos := s, outermost := first }
def br (k s : Nat) (first : Bool) : Sre.Frame := { wait := .nextBranch, pc := k, pos := s, outermost := first }
def ln (s pos : Nat) (first : Bool) : Sre.Frame := { wait := .lookNot, pc := 26, pos := pos, outermost := first }
variable (text : Array Nat) (lim s : Nat) (first om : Bool) (seen : Sre.Seen) (pc pos hd : Nat) (fr : List Sre.Frame) (wt : Nat)
theorem s2_lit12 : (s2 text lim s om seen 12 pos hd none fr wt).step = (if pos ≥ lim then s2 text lim s om (seen.add 16) 12 pos hd (some false) fr wt else if (text.getD pos 0 == 13) = true then s2 text lim s om (seen.add 16) 14 (pos + 1) hd none fr wt else s2 text lim s om (seen.add 16) 12 pos hd (some false) fr wt) := by
  have key : ∀ b : Bool, (match (Except.ok (b, seen.add 16) : Except String (Bool × Sre.Seen)) with
    | .error why => (s2 text lim s om (seen.add 16) 12 pos hd none fr wt).stick why
    | .ok (false, seen') => { s2 text lim s om (seen.add 16) 12 pos hd none fr wt with seen := seen' }.say false
    | .ok (true, seen') => { s2 text lim s om (seen.add 16) 12 pos hd none fr wt with seen := seen', pc := 12 + 2, pos := pos + 1 }) = if b = true then s2 text lim s om (seen.add 16) 14 (pos + 1) hd none fr wt else s2 text lim s om (seen.add 16) 12 pos hd (some false) fr wt := fun b => by cases b <;> rfl
  rw [← key]
  rfl
theorem s2_lit14 : (s2 text lim s om seen 14 pos hd none fr wt).step = (if pos ≥ lim then s2 text lim s om (seen.add 16) 14 pos hd (some false) fr wt else if (text.getD pos 0 == 10) = true then s2 text lim s om (seen.add 16) 16 (pos + 1) hd none fr wt else s2 text lim s om (seen.add 16) 14 pos hd (some false) fr wt) := by
  have key : ∀ b : Bool, (match (Except.ok (b, seen.add 16) : Except String (Bool × Sre.Seen)) with
    | .error why => (s2 text lim s om (seen.add 16) 14 pos hd none fr wt).stick why
    | .ok (false, seen') => { s2 text lim s om (seen.add 16) 14 pos hd none fr wt with seen := seen' }.say false
    | .ok (true, seen') => { s2 text lim s om (seen.add 16) 14 pos hd none fr wt with seen := seen', pc := 14 + 2, pos := pos + 1 }) = if b = true then s2 text lim s om (seen.add 16) 16 (pos + 1) hd none fr wt else s2 text lim s om (seen.add 16) 14 pos hd (some false) fr wt := fun b => by cases b <;> rfl
  rw [← key]
  rfl
theorem s2_lit19 : (s2 text lim s om seen 19 pos hd none fr wt).step = (if pos ≥ lim then s2 text lim s om (seen.add 16) 19 pos hd (some false) fr wt else if (text.getD pos 0 == 10) = true then s2 text lim s om (seen.add 16) 21 (pos + 1) hd none fr wt else s2 text lim s om (seen.add 16) 19 pos hd (some false) fr wt) := by
  have key : ∀ b : Bool, (match (Except.ok (b, seen.add 16) : Except String (Bool × Sre.Seen)) with
    | .error why => (s2 text lim s om (seen.add 16) 19 pos hd none fr wt).stick why
    | .ok (false, seen') => { s2 text lim s om (seen.add 16) 19 pos hd none fr wt with seen := seen' }.say false
    | .ok (true, seen') => { s2 text lim s om (seen.add 16) 19 pos hd none fr wt with seen := seen', pc := 19 + 2, pos := pos + 1 }) = if b = true then s2 text lim s om (seen.add 16) 21 (pos + 1) hd none fr wt else s2 text lim s om (seen.add 16) 19 pos hd (some false) fr wt := fun b => by cases b <;> rfl
  rw [← key]
  rfl
theorem s2_lit24 : (s2 text lim s om seen 24 pos hd none fr wt).step = (if pos ≥ lim then s2 text lim s om (seen.add 16) 24 pos hd (some false) fr wt else if (text.getD pos 0 == 13) = true then s2 text lim s om (seen.add 16) 26 (pos + 1) hd none fr wt else s2 text lim s om (seen.add 16) 24 pos hd (some false) fr wt) := by
  have key : ∀ b : Bool, (match (Except.ok (b, seen.add 16) : Except String (Bool × Sre.Seen)) with
    | .error why => (s2 text lim s om (seen.add 16) 24 pos hd none fr wt).stick why
    | .ok (false, seen') => { s2 text lim s om (seen.add 16) 24 pos hd none fr wt with seen := seen' }.say false
    | .ok (true, seen') => { s2 text lim s om (seen.add 16) 24 pos hd none fr wt with seen := seen', pc := 24 + 2, pos := pos + 1 }) = if b = true then s2 text lim s om (seen.add 16) 26 (pos + 1) hd none fr wt else s2 text lim s om (seen.add 16) 24 pos hd (some false) fr wt := fun b => by cases b <;> rfl
  rw [← key]
  rfl
theorem s2_lit29 : (s2 text lim s om seen 29 pos hd none fr wt).step = (if pos ≥ lim then s2 text lim s om (seen.add 16) 29 pos hd (some false) fr wt else if (text.getD pos 0 == 10) = true then s2 text lim s om (seen.add 16) 31 (pos + 1) hd none fr wt else s2 text lim s om (seen.add 16) 29 pos hd (some false) fr wt) := by
  have key : ∀ b : Bool, (match (Except.ok (b, seen.add 16) : Except String (Bool × Sre.Seen)) with
    | .error why => (s2 text lim s om (seen.add 16) 29 pos hd none fr wt).stick why
    | .ok (false, seen') => { s2 text lim s om (seen.add 16) 29 pos hd none fr wt with seen := seen' }.say false
    | .ok (true, seen') => { s2 text lim s om (seen.add 16) 29 pos hd none fr wt with seen := seen', pc := 29 + 2, pos := pos + 1 }) = if b = true then s2 text lim s om (seen.add 16) 31 (pos + 1) hd none fr wt else s2 text lim s om (seen.add 16) 29 pos hd (some false) fr wt := fun b => by cases b <;> rfl
  rw [← key]
  rfl
theorem s2_br : (s2 text lim s first seen 10 s s none [base s first] 1).step = s2 text lim s first (seen.add 7) 12 s s none [br 11 s first, base s first] 2 := by rfl
theorem s2_f11 : (s2 text lim s om seen pc pos hd (some false) [br 11 s first, base s first] 2).step = s2 text lim s first seen 19 s s none [br 18 s first, base s first] 2 := by rfl
theorem s2_f18 : (s2 text lim s om seen pc pos hd (some false) [br 18 s first, base s first] 2).step = s2 text lim s first seen 24 s s none [br 23 s first, base s first] 2 := by rfl
theorem s2_j16 : (s2 text lim s om seen 16 pos hd none fr wt).step = s2 text lim s om (seen.add 15) 35 pos hd none fr wt := by rfl
theorem s2_j21 : (s2 text lim s om seen 21 pos hd none fr wt).step = s2 text lim s om (seen.add 15) 35 pos hd none fr wt := by rfl
theorem s2_j32 : (s2 text lim s om seen 32 pos hd none fr wt).step = s2 text lim s om (seen.add 15) 35 pos hd none fr wt := by rfl
theorem s2_suc : (s2 text lim s om seen 35 pos hd none fr wt).step = s2 text lim s om (seen.add 1) 35 pos pos (some true) fr wt := by
  show (if (om && ((false && (pos != lim)) || (false && (pos == s)))) = true then _ else _) = _
  rw [if_neg (by simp)]
  rfl
theorem s2_y (k : Nat) : (s2 text lim s om seen pc pos hd (some true) [br k s first, base s first] 2).step = s2 text lim s first seen k s hd (some true) [base s first] 1 := by rfl
theorem s2_yes : (s2 text lim s om seen pc pos hd (some true) [base s first] 1).runFor 2 = found c2 text lim lim s hd seen 10 first := by rfl
theorem s2_look : (s2 text lim s first seen 26 pos hd none [br 23 s first, base s first] 2).step = s2 text lim s false (seen.add 5) 29 pos pos none [ln s pos first, br 23 s first, base s first] 3 := by rfl
theorem s2_fln : (s2 text lim s om seen pc pos hd (some false) [ln s pos first, br 23 s first, base s first] 3).step = s2 text lim s first seen 32 pos hd none [br 23 s first, base s first] 2 := by rfl
theorem one {m m' : M} (h : m.step = m') (ho : m.outcome = none) : m.runFor 1 = m' := by rw [runFor_succ, ho]; exact h

/-- CR LF -/
theorem s2_crlf (h0 : s < lim) (h1 : text.getD s 0 = 13) (h2 : s + 1 < lim) (h3 : text.getD (s + 1) 0 = 10) : ∃ seen', Ends (s2 text lim s first seen 10 s s none [base s first] 1) (found c2 text lim lim s (s + 2) seen' 10 first) 8 := by
  have e1 := one (s2_br text lim s first seen) rfl
  have e2 : (s2 text lim s first (seen.add 7) 12 s s none [br 11 s first, base s first] 2).runFor 1 = s2 text lim s first ((seen.add 7).add 16) 14 (s + 1) s none [br 11 s first, base s first] 2 := by
    rw [one (s2_lit12 ..) rfl, if_neg (by omega), if_pos (by simp [h1])]
  have e3 : (s2 text lim s first ((seen.add 7).add 16) 14 (s + 1) s none [br 11 s first, base s first] 2).runFor 1 = s2 text lim s first (((seen.add 7).add 16).add 16) 16 (s + 1 + 1) s none [br 11 s first, base s first] 2 := by
    rw [one (s2_lit14 ..) rfl, if_neg (by omega), if_pos (by simp [h3])]
  exact ⟨_, Ends.step (n := 7) e1 (Ends.step (n := 6) e2 (Ends.step (n := 5) e3 (Ends.step (n := 4) (one (s2_j16 ..) rfl) (Ends.step (n := 3) (one (s2_suc ..) rfl) (Ends.step (n := 2) (one (s2_y ..) rfl) ⟨s2_yes .., rfl⟩)))))⟩
theorem s2_lf (h0 : s < lim) (h1 : text.getD s 0 = 10) : ∃ seen', Ends (s2 text lim s first seen 10 s s none [base s first] 1) (found c2 text lim lim s (s + 1) seen' 10 first) 9 := by
  have e1 := one (s2_br text lim s first seen) rfl
  have e2 : (s2 text lim s first (seen.add 7) 12 s s none [br 11 s first, base s first] 2).runFor 1 = s2 text lim s first ((seen.add 7).add 16) 12 s s (some false) [br 11 s first, base s first] 2 := by
    rw [one (s2_lit12 ..) rfl, if_neg (by omega), if_neg (by simp [h1])]
  have e3 := one (s2_f11 text lim s first first ((seen.add 7).add 16) 12 s s) rfl
  have e4 : (s2 text lim s first ((seen.add 7).add 16) 19 s s none [br 18 s first, base s first] 2).runFor 1 = s2 text lim s first (((seen.add 7).add 16).add 16) 21 (s + 1) s none [br 18 s first, base s first] 2 := by
    rw [one (s2_lit19 ..) rfl, if_neg (by omega), if_pos (by simp [h1])]
  exact ⟨_, Ends.step (n := 8) e1 (Ends.step (n := 7) e2 (Ends.step (n := 6) e3 (Ends.step (n := 5) e4 (Ends.step (n := 4) (one (s2_j21 ..) rfl) (Ends.step (n := 3) (one (s2_suc ..) rfl) (Ends.step (n := 2) (one (s2_y ..) rfl) ⟨s2_yes .., rfl⟩))))))⟩
theorem s2_tail (hp : pos = s + 1) : ∃ seen', Ends (s2 text lim s om seen pc pos hd (some false) [ln s pos first, br 23 s first, base s first] 3) (found c2 text lim lim s (s + 1) seen' 10 first) 6 := by
  subst hp
  exact ⟨_, Ends.step (k := 1) (n := 5) (one (s2_fln ..) rfl) (Ends.step (k := 1) (n := 4) (one (s2_j32 ..) rfl) (Ends.step (k := 1) (n := 3) (one (s2_suc ..) rfl) (Ends.step (k := 1) (n := 2) (one (s2_y ..) rfl) ⟨s2_yes .., rfl⟩)))⟩
theorem s2_cr (h0 : s < lim) (h1 : text.getD s 0 = 13) (h2 : ¬ (s + 1 < lim ∧ text.getD (s + 1) 0 = 10)) : ∃ seen' n, n ≤ 20 ∧ Ends (s2 text lim s first seen 10 s s none [base s first] 1) (found c2 text lim lim s (s + 1) seen' 10 first) n := by
  have a1 : ∃ seen1, (s2 text lim s first seen 10 s s none [base s first] 1).runFor 3 = s2 text lim s first seen1 14 (s + 1) s (some false) [br 11 s first, base s first] 2 := by
    have e2 : (s2 text lim s first (seen.add 7) 12 s s none [br 11 s first, base s first] 2).runFor 1 = s2 text lim s first ((seen.add 7).add 16) 14 (s + 1) s none [br 11 s first, base s first] 2 := by
      rw [one (s2_lit12 ..) rfl, if_neg (by omega), if_pos (by simp [h1])]
    have e3 : (s2 text lim s first ((seen.add 7).add 16) 14 (s + 1) s none [br 11 s first, base s first] 2).runFor 1 = s2 text lim s first (((seen.add 7).add 16).add 16) 14 (s + 1) s (some false) [br 11 s first, base s first] 2 := by
      rw [one (s2_lit14 ..) rfl]
      by_cases q : s + 1 ≥ lim
      · rw [if_pos q]
      · rw [if_neg q, if_neg (by simp only [beq_iff_eq]; exact fun z => h2 ⟨by omega, z⟩)]
    exact ⟨_, by rw [show (3 : Nat) = 1 + (1 + 1) from rfl, runFor_add, one (s2_br ..) rfl, runFor_add, e2, e3]⟩
  obtain ⟨seen1, a1⟩ := a1
  have a2 : ∃ seen2, (s2 text lim s first seen1 14 (s + 1) s (some false) [br 11 s first, base s first] 2).runFor 3 = s2 text lim s first seen2 24 s s none [br 23 s first, base s first] 2 := by
    have e2 : (s2 text lim s first seen1 19 s s none [br 18 s first, base s first] 2).runFor 1 = s2 text lim s first (seen1.add 16) 19 s s (some false) [br 18 s first, base s first] 2 := by
      rw [one (s2_lit19 ..) rfl, if_neg (by omega), if_neg (by simp [h1])]
    exact ⟨_, by rw [show (3 : Nat) = 1 + (1 + 1) from rfl, runFor_add, one (s2_f11 ..) rfl, runFor_add, e2]; exact one (s2_f18 ..) rfl⟩
  obtain ⟨seen2, a2⟩ := a2
  have a3 : ∃ seen3, (s2 text lim s first seen2 24 s s none [br 23 s first, base s first] 2).runFor 3 = s2 text lim s false seen3 29 (s + 1) (s + 1) (some false) [ln s (s + 1) first, br 23 s first, base s first] 3 := by
    have e2 : (s2 text lim s first seen2 24 s s none [br 23 s first, base s first] 2).runFor 1 = s2 text lim s first (seen2.add 16) 26 (s + 1) s none [br 23 s first, base s first] 2 := by
      rw [one (s2_lit24 ..) rfl, if_neg (by omega), if_pos (by simp [h1])]
    have e3 : (s2 text lim s false ((seen2.add 16).add 5) 29 (s + 1) (s + 1) none [ln s (s + 1) first, br 23 s first, base s first] 3).runFor 1 = s2 text lim s false (((seen2.add 16).add 5).add 16) 29 (s + 1) (s + 1) (some false) [ln s (s + 1) first, br 23 s first, base s first] 3 := by
      rw [one (s2_lit29 ..) rfl]
      by_cases q : s + 1 ≥ lim
      · rw [if_pos q]
      · rw [if_neg q, if_neg (by simp only [beq_iff_eq]; exact fun z => h2 ⟨by omega, z⟩)]
    exact ⟨_, by rw [show (3 : Nat) = 1 + (1 + 1) from rfl, runFor_add, e2, runFor_add, one (s2_look ..) rfl, e3]⟩
  obtain ⟨seen3, a3⟩ := a3
  obtain ⟨seen4, a4⟩ := s2_tail text lim s first false seen3 29 (s + 1) (s + 1) rfl
  exact ⟨seen4, 3 + (3 + (3 + 6)), by omega, Ends.step a1 (Ends.step a2 (Ends.step a3 a4))⟩

/-- the ends of lines -/
def nl (c : Nat) : Bool := c == 10 || c == 13
theorem inSet2 (c : Nat) (sn : Sre.Seen) : ∃ sn', inSet c2 c 36 5 true sn = .ok (nl c, sn') := by
  have e : inSet c2 c 36 5 true sn = (if (c == 10) = true then .ok (true, sn.add 16) else if (c == 13) = true then .ok (true, (sn.add 16).add 16) else .ok (false, ((sn.add 16).add 16).add 0)) := by rfl
  rw [e]
  by_cases h1 : (c == 10) = true
  · rw [if_pos h1]; exact ⟨sn.add 16, by unfold nl; rw [h1]; rfl⟩
  · rw [if_neg h1]
    by_cases h2 : (c == 13) = true
    · rw [if_pos h2]; exact ⟨(sn.add 16).add 16, by unfold nl; rw [h2, Bool.or_true]⟩
    · rw [if_neg h2]; exact ⟨((sn.add 16).add 16).add 0, by unfold nl; rw [Bool.not_eq_true] at h1 h2; rw [h1, h2]; rfl⟩
theorem admitted2 {m : M} (hc : m.code = c2) : ∀ (k s : Nat) (sn : Sre.Seen), s + k = m.lim → 
    (∃ j sn', s ≤ j ∧ j < m.lim ∧ nl (m.text.getD j 0) = true ∧ (∀ i, s ≤ i → i < j → nl (m.text.getD i 0) = false) ∧ M.admitted m (k + 1) s sn = .ok (some j, sn')) ∨
    ((∀ i, s ≤ i → i < m.lim → nl (m.text.getD i 0) = false) ∧ ∃ sn', M.admitted m (k + 1) s sn = .ok (none, sn'))
  | 0, s, sn, hk => by
    right
    refine ⟨fun i h1 h2 => by omega, sn, ?_⟩
    unfold M.admitted
    rw [if_pos (by omega)]
  | k + 1, s, sn, hk => by
    unfold M.admitted
    rw [if_neg (by omega), hc, show c2.size = 36 from rfl]
    obtain ⟨sn', e⟩ := inSet2 (m.text.getD s 0) sn
    rw [e]
    cases hn : nl (m.text.getD s 0) with
    | true =>
      left
      exact ⟨s, sn', Nat.le_refl _, by omega, hn, fun i h1 h2 => absurd h1 (by omega), rfl⟩
    | false =>
      dsimp only
      rcases admitted2 hc k (s + 1) sn' (by omega) with ⟨j, sn2, h1, h2, h3, h4, h5⟩ | ⟨h1, sn2, h2⟩
      · left
        refine ⟨j, sn2, by omega, h2, h3, fun i h1' h2' => ?_, h5⟩
        rcases Nat.lt_or_ge s i with q | q
        · exact h4 i q h2'
        · have : i = s := by omega
          rw [this]; exact hn
      · right
        refine ⟨fun i h1' h2' => ?_, sn2, h2⟩
        rcases Nat.lt_or_ge s i with q | q
        · exact h1 i q h2'
        · have : i = s := by omega
          rw [this]; exact hn
def width (text : Array Nat) (j : Nat) : Nat := if text.getD j 0 = 13 ∧ j + 1 < text.size ∧ text.getD (j + 1) 0 = 10 then 2 else 1

def f2 (text : Array Nat) (s : Nat) : M := { code := c2, text := text, lim := text.size, start := s, lastStart := text.size, pc := 10, pos := s, handed := s, marks := #[], seen := ({} : Sre.Seen).add 14 }
theorem forSearch2_eq (text : Array Nat) (s : Nat) : forSearch c2 text 0 s text.size false = (if (decide (s > text.size) || decide (text.size - s < 1)) = true then
    { code := c2, text := text, lim := text.size, start := s, pc := 10, pos := s, handed := s, marks := #[], seen := ({} : Sre.Seen).add 14, answer := some false } else
    match M.admitted (f2 text s) (text.size + 1 - s) s (({} : Sre.Seen).add 14) with
    | .ok (some j, seen) => s2 text text.size j true seen 10 j j none [base j true] 1
    | .ok (none, seen) => { f2 text s with seen := seen, answer := some false }
    | .error why => (f2 text s).stick why) := by rfl

theorem forSearch2 {text : Array Nat} {s : Nat} :
    (∃ j m' n, s ≤ j ∧ j < text.size ∧ nl (text.getD j 0) = true ∧ (∀ i, s ≤ i → i < j → nl (text.getD i 0) = false) ∧ n ≤ 100 ∧ Ends (forSearch c2 text 0 s text.size false) m' n ∧ m'.outcome = some .matched ∧ m'.start = j ∧ m'.handed = j + width text j) ∨
    ((∀ i, s ≤ i → i < text.size → nl (text.getD i 0) = false) ∧ ∃ m' n, n ≤ 100 ∧ Ends (forSearch c2 text 0 s text.size false) m' n ∧ m'.outcome = some .failed) := by
  rw [forSearch2_eq]
  by_cases h : (decide (s > text.size) || decide (text.size - s < 1)) = true
  · rw [if_pos h]
    right
    refine ⟨fun i hi q => ?_, _, 1, by omega, ⟨rfl, rfl⟩, rfl⟩
    simp at h
    omega
  · rw [if_neg h]
    have h' : s < text.size := by simp at h; omega
    have e : text.size + 1 - s = (text.size - s) + 1 := by omega
    rw [e]
    rcases admitted2 (m := f2 text s) rfl (text.size - s) s (({} : Sre.Seen).add 14) (by show s + (text.size - s) = text.size; omega) with ⟨j, sn, h1, h2, h3, h4, h5⟩ | ⟨h1, sn, h2⟩
    · rw [h5]
      left
      have h2' : j < text.size := h2
      have h3' : nl (text.getD j 0) = true := h3
      have hw : text.getD j 0 = 10 ∨ text.getD j 0 = 13 := by unfold nl at h3'; simpa using h3'
      rcases hw with hw | hw
      · obtain ⟨sn', en⟩ := s2_lf text text.size j true sn h2' hw
        refine ⟨j, _, 9, h1, h2', h3', h4, by omega, en, rfl, rfl, ?_⟩
        unfold width; rw [if_neg (by rw [hw]; omega)]; rfl
      · by_cases hq : j + 1 < text.size ∧ text.getD (j + 1) 0 = 10
        · obtain ⟨sn', en⟩ := s2_crlf text text.size j true sn h2' hw hq.1 hq.2
          refine ⟨j, _, 8, h1, h2', h3', h4, by omega, en, rfl, rfl, ?_⟩
          unfold width; rw [if_pos ⟨hw, hq⟩]; rfl
        · obtain ⟨sn', n, hn, en⟩ := s2_cr text text.size j true sn h2' hw hq
          refine ⟨j, _, n, h1, h2', h3', h4, by omega, en, rfl, rfl, ?_⟩
          unfold width; rw [if_neg (fun z => hq z.2)]; rfl
    · rw [h2]
      right
      exact ⟨h1, _, 1, by omega, ⟨rfl, rfl⟩, rfl⟩
end Mine
end

section
open PySem PySem.W PyProof.Rows PySem.Calls
set_option Elab.async false
set_option linter.unusedVariables false
set_option maxRecDepth 100000
namespace Mine

/-! what the two substitutions give -/
def dots : Bool → List Nat → List Nat
  | _, [] => []
  | b, c :: r => if b && c == 46 then 46 :: 46 :: dots (c == 10) r else c :: dots (c == 10) r
theorem dots_cons (b : Bool) (c : Nat) (r : List Nat) : dots b (c :: r) = if b && c == 46 then 46 :: 46 :: dots (c == 10) r else c :: dots (c == 10) r := rfl
def norm : List Nat → List Nat
  | [] => []
  | [c] => if c == 10 || c == 13 then [13, 10] else [c]
  | c :: d :: r => if c == 13 && d == 10 then 13 :: 10 :: norm r else if c == 10 || c == 13 then 13 :: 10 :: norm (d :: r) else c :: norm (d :: r)

/-- a pattern's search, and what a substitution makes of the rest of a text -/
structure Pat (code : Array Nat) (repl : List Nat) (F : Array Nat → Nat → List Nat) : Prop where
  find : ∀ (text : Array Nat) (p : Nat), p ≤ text.size → text.size ≤ 2 ^ 30 →
    (∃ j e m' n, p ≤ j ∧ j < e ∧ e ≤ text.size ∧ n ≤ 2 ^ 60 ∧ Ends (Sre.forSearch code text 0 p text.size false) m' n ∧ m'.outcome = some .matched ∧ m'.start = j ∧ m'.handed = e ∧ F text p = (text.extract p j).toList ++ repl ++ F text e) ∨
    (∃ m' n, n ≤ 2 ^ 60 ∧ Ends (Sre.forSearch code text 0 p text.size false) m' n ∧ m'.outcome = some .failed ∧ F text p = (text.extract p text.size).toList)

theorem extract_cons {text : Array Nat} {p j : Nat} (h1 : p < j) (h2 : j ≤ text.size) : (text.extract p j).toList = text.getD p 0 :: (text.extract (p + 1) j).toList := by
  have hp : p < text.size := by omega
  simp only [Array.toList_extract, List.extract_eq_take_drop]
  have e : text.toList.drop p = text.getD p 0 :: text.toList.drop (p + 1) := by
    rw [List.drop_eq_getElem_cons (by simpa using hp)]
    simp [Array.getD, hp]
  have e2 : j - p = (j - (p + 1)) + 1 := by omega
  rw [e, e2, List.take_succ_cons]
theorem extract_nil {text : Array Nat} {p : Nat} : (text.extract p p).toList = [] := by simp

def F1 (text : Array Nat) (p : Nat) : List Nat := dots (lineStart text p) (text.toList.drop p)
theorem drop_cons {text : Array Nat} {p : Nat} (hp : p < text.size) : text.toList.drop p = text.getD p 0 :: text.toList.drop (p + 1) := by
  rw [List.drop_eq_getElem_cons (by simpa using hp)]
  simp [Array.getD, hp]
theorem F1_step {text : Array Nat} {p : Nat} (hp : p < text.size) : F1 text p = if lineStart text p && text.getD p 0 == 46 then 46 :: 46 :: F1 text (p + 1) else text.getD p 0 :: F1 text (p + 1) := by
  unfold F1
  rw [drop_cons hp, dots_cons]
  have e : lineStart text (p + 1) = (text.getD p 0 == 10) := by unfold lineStart; simp
  rw [e]
theorem F1_run {text : Array Nat} : ∀ (k p j : Nat), p + k = j → j ≤ text.size → (∀ i, p ≤ i → i < j → ¬ hit1 text text.size i) → F1 text p = (text.extract p j).toList ++ F1 text j
  | 0, p, j, hk, hj, _ => by
    have : p = j := by omega
    subst this
    rw [extract_nil]; rfl
  | k + 1, p, j, hk, hj, hn => by
    rw [F1_step (by omega), if_neg, extract_cons (by omega) hj, F1_run k (p + 1) j (by omega) hj fun i h1 h2 => hn i (by omega) h2]
    · rfl
    · intro q
      rw [Bool.and_eq_true] at q
      exact hn p (Nat.le_refl _) (by omega) ⟨q.1, by omega, by simpa using q.2⟩
theorem pat1 : Pat c1 [46, 46] F1 where
  find := fun text p hp hbig => by
    rcases forSearch1 (text := text) (s := p) with ⟨j, m', n, h1, h2, h3, h4, h5, h6, h7, h8⟩ | ⟨h1, m', n, h4, h5, h6⟩
    · left
      refine ⟨j, j + 1, m', n, h1, Nat.lt_succ_self _, h2.2.1, by omega, h5, h6, h7, h8, ?_⟩
      have hd : (text.getD j 0 == 46) = true := by rw [h2.2.2]; rfl
      rw [F1_run (j - p) p j (by omega) (Nat.le_of_lt h2.2.1) h3, F1_step h2.2.1, h2.1, hd]
      simp
    · right
      refine ⟨m', n, by omega, h5, h6, ?_⟩
      rw [F1_run (text.size - p) p text.size (by omega) (Nat.le_refl _) fun i a b => h1 i a]
      have : F1 text text.size = [] := by
        unfold F1
        rw [List.drop_eq_nil_of_le (by simp)]
        unfold dots; rfl
      rw [this, List.append_nil]

def F2 (text : Array Nat) (p : Nat) : List Nat := norm (text.toList.drop p)
theorem norm_plain {c : Nat} {r : List Nat} (h : nl c = false) : norm (c :: r) = c :: norm r := by
  unfold nl at h
  cases r with
  | nil => unfold norm; rw [h]; simp
  | cons d r =>
    rw [norm, h]
    have : (c == 13) = false := by rw [Bool.or_eq_false_iff] at h; exact h.2
    rw [this]; simp
theorem F2_step {text : Array Nat} {p : Nat} (hp : p < text.size) : F2 text p = if nl (text.getD p 0) = true then 13 :: 10 :: F2 text (p + width text p) else text.getD p 0 :: F2 text (p + 1) := by
  unfold F2
  rw [drop_cons hp]
  by_cases h : nl (text.getD p 0) = true
  · rw [if_pos h]
    have h' := h
    unfold nl at h'
    by_cases hq : p + 1 < text.size
    · by_cases hw : (text.getD p 0 == 13 && text.getD (p + 1) 0 == 10) = true
      · have e2 : width text p = 2 := by
          rw [Bool.and_eq_true] at hw
          unfold width; rw [if_pos ⟨by simpa using hw.1, hq, by simpa using hw.2⟩]
        rw [e2, drop_cons hq, norm, if_pos hw]
      · have e2 : width text p = 1 := by
          unfold width; rw [if_neg]
          intro z
          rw [z.1, z.2.2] at hw
          exact hw rfl
        rw [e2, drop_cons hq, norm, if_neg hw, if_pos h']
    · have e0 : text.toList.drop (p + 1) = [] := List.drop_eq_nil_of_le (by simp; omega)
      have e1 : text.toList.drop (p + width text p) = [] := List.drop_eq_nil_of_le (by unfold width; split <;> simp <;> omega)
      rw [e0, e1]
      simp only [norm, h', if_true]
  · rw [if_neg h, norm_plain (by simpa using h)]
theorem F2_run {text : Array Nat} : ∀ (k p j : Nat), p + k = j → j ≤ text.size → (∀ i, p ≤ i → i < j → nl (text.getD i 0) = false) → F2 text p = (text.extract p j).toList ++ F2 text j
  | 0, p, j, hk, hj, _ => by
    have : p = j := by omega
    subst this
    rw [extract_nil]; rfl
  | k + 1, p, j, hk, hj, hn => by
    rw [F2_step (by omega), if_neg (by rw [hn p (Nat.le_refl _) (by omega)]; simp), extract_cons (by omega) hj, F2_run k (p + 1) j (by omega) hj fun i h1 h2 => hn i (by omega) h2]
    rfl
theorem pat2 : Pat c2 [13, 10] F2 where
  find := fun text p hp hbig => by
    rcases forSearch2 (text := text) (s := p) with ⟨j, m', n, h1, h2, h3, h4, h5, h6, h7, h8, h9⟩ | ⟨h1, m', n, h4, h5, h6⟩
    · left
      have hw0 : width text j = 1 ∨ (width text j = 2 ∧ j + 1 < text.size) := by
        unfold width
        by_cases q : text.getD j 0 = 13 ∧ j + 1 < text.size ∧ text.getD (j + 1) 0 = 10
        · rw [if_pos q]; exact .inr ⟨rfl, q.2.1⟩
        · rw [if_neg q]; exact .inl rfl
      have hw : 1 ≤ width text j ∧ j + width text j ≤ text.size := by
        rcases hw0 with q | q <;> omega
      refine ⟨j, j + width text j, m', n, h1, by omega, hw.2, by omega, h6, h7, h8, h9, ?_⟩
      rw [F2_run (j - p) p j (by omega) (Nat.le_of_lt h2) h4, F2_step h2, if_pos h3]
      simp
    · right
      refine ⟨m', n, by omega, h5, h6, ?_⟩
      rw [F2_run (text.size - p) p text.size (by omega) (Nat.le_refl _) fun i a b => h1 i a b]
      have : F2 text text.size = [] := by
        unfold F2
        rw [List.drop_eq_nil_of_le (by simp)]
        unfold norm; rfl
      rw [this, List.append_nil]
end Mine
end

section
open PySem PySem.W PyProof.Rows PySem.Calls
set_option Elab.async false
set_option linter.unusedVariables false
set_option maxRecDepth 100000
namespace Mine

theorem plainAttrs_pat : PlainAttrs "re.Pattern" :=
  ⟨⟨"object.__getattribute__", by rw [typeLookup_type, builtinLookup_eq_fast]; kernel_rfl, by decide +kernel⟩, by rw [typeLookup_type, builtinLookup_eq_fast]; kernel_rfl⟩
theorem slot_pat_sub : PySem.Slot "re.Pattern" "sub" "re.Pattern.sub" :=
  .of (owner := "re.Pattern") (n := "sub") (by rw [typeLookup_type, builtinLookup_eq_fast]; kernel_rfl) (by decide +kernel) (by decide +kernel) (by decide +kernel)
    (by first | exact .inl (by decide +kernel) | exact .inr (by decide +kernel)) (by rw [isSubtype_type]; kernel_rfl)
theorem type_pat_sub : typeOf (.builtin "re.Pattern.sub") = pure (.type "method_descriptor") := by show builtinType _ = _; rw [builtinType_eq_fast]; kernel_rfl
theorem entry_pat_sub : entryFor table "re.Pattern.sub" = some Builtin.«re.Pattern.sub» := entryFor_of_tree (by kernel_rfl)
theorem entry_pat_loop : entryFor table "re.Pattern.sub.loop" = some Builtin.«re.Pattern.sub.loop» := entryFor_of_tree (by kernel_rfl)
theorem args_pat_sub (a b c : Value) : argsOk "re.Pattern.sub" ⟨[a, b, c], []⟩ := by unfold argsOk; kernel_rfl
end Mine
end

section
open PySem PySem.W PyProof.Rows PySem.Calls
set_option Elab.async false
set_option linter.unusedVariables false
set_option maxRecDepth 100000
namespace Mine
open PySem.Builtin.Re

structure PatAt (h : Heap) (pa ca : Addr) (code : Array Nat) : Prop where
  pat : ∃ pv fv : Value, h.get? pa = some { cls := .type "re.Pattern", data := .fields #[pv, fv, .int 0 0, .none, .none, .ref ca, .int 0 0] }
  code : ∃ vs n, h.get? ca = some { cls := .type "tuple", data := .seq vs n } ∧ (vs.map reRawOf).map (·.toNat) = code

def tgt (pa : Addr) (x : Str) (t : Tok) (code : Array Nat) : ReTarget := { pattern := .ref pa, string := .str x t, code := code, text := x.cps, kind := 0, groups := 0, pos := 0, lim := x.cps.size }

variable {w : World} {A : Around} {s : Shared} {pa ca : Addr} {code : Array Nat} {x : Str} {t : Tok}

theorem wholeTarget {Q : ReTarget → Shared → Prop} {E : Value → Shared → Prop} (P : PatAt s.heap pa ca code) (h : Q (tgt pa x t code) s) : wpAny (model prg w) A (reWholeTarget (.ref pa) (.str x t)) Q E s := by
  obtain ⟨⟨pv, fv, hp⟩, vs, n, hc, rfl⟩ := P
  unfold reWholeTarget
  refine wpAny_bind (wpAny_fieldsOf hp rfl ?_)
  have e1 : reTextOf (.str x t) = pure (x.cps, 0) := rfl
  rw [e1]
  refine wpAny_bind (wpAny_pure ?_)
  dsimp only
  show wpAny _ _ (do
      reNoCollectionInside (.str x t) 0
      pure ({ pattern := .ref pa, string := .str x t, code := (← reRawItems (.ref ca)).map (·.toNat), text := x.cps, kind := 0, groups := 0, pos := 0, lim := x.cps.size } : ReTarget)) _ _ s
  have e2 : reNoCollectionInside (.str x t) 0 = pure () := rfl
  rw [e2]
  refine wpAny_bind (wpAny_pure (wpAny_bind ?_))
  unfold reRawItems
  exact wpAny_bind (wpAny_seqItems hc rfl (wpAny_pure (wpAny_pure h)))

theorem nextFound {Q : Option Sre.M → Shared → Prop} {E : Value → Shared → Prop} {p : Nat} {m' : Sre.M} {n : Nat} (e : Ends (Sre.forSearch code x.cps 0 p x.cps.size false) m' n) (hn : n ≤ 2 ^ 60)
    (h : (m'.outcome = some .matched ∧ Q (some m') s) ∨ (m'.outcome = some .failed ∧ Q none s)) : wpAny (model prg w) A (reNextFound (tgt pa x t code) p false) Q E s := runToEnd e hn h

def catL (l : List (Str × Tok)) : List Nat := l.flatMap fun y => y.1.cps.toList

theorem slice_str {b e : Nat} {Q : Value → Shared → Prop} {E : Value → Shared → Prop} (hsz : e - b ≤ sizeLine) (h : Q (.str ⟨x.cps.extract b e⟩ s.toks) { s with toks := s.toks + 1 }) : wpAny (model prg w) A (reSlice x.cps 0 b e) Q E s := by
  unfold reSlice
  show wpAny _ _ (mkStr _) _ _ s
  exact wpAny_mkStr h (by show (x.cps.extract b e).size ≤ _; rw [Array.size_extract]; omega)


theorem catL_append (l l' : List (Str × Tok)) : catL (l ++ l') = catL l ++ catL l' := by unfold catL; rw [List.flatMap_append]
theorem join_cat (sep : Str) (hs : sep.cps = #[]) (l : List (Str × Tok)) : (Txt.join sep (l.map (·.1))).cps.toList = catL l := by
  have key : ∀ (ps : List Str) (a : Array Nat), (ps.foldl (fun acc p => acc ++ sep.cps ++ p.cps) a).toList = a.toList ++ ps.flatMap fun y => y.cps.toList := fun ps => by
    induction ps with
    | nil => intro a; simp
    | cons q r ih => intro a; rw [List.foldl_cons, ih, hs]; simp
  unfold Txt.join Builtin.Str.glued
  cases l with
  | nil => rfl
  | cons y r =>
    show ((r.map fun y => y.1).foldl (fun acc p => acc ++ sep.cps ++ p.cps) y.1.cps).toList = _
    rw [key]
    unfold catL
    rw [List.flatMap_cons, List.flatMap_map]
theorem joinOk_cat (sep : Str) (hs : sep.cps = #[]) (l : List (Str × Tok)) (h : (catL l).length ≤ sizeLine) : JoinOk sep (l.map (·.1)) = true := by
  have key : ∀ (ps : List Str) (a : Nat), ps.foldl (fun acc p => acc + p.length + sep.length) a = a + (ps.flatMap fun y => y.cps.toList).length := fun ps => by
    induction ps with
    | nil => intro a; simp
    | cons q r ih =>
      intro a
      rw [List.foldl_cons, ih]
      have : sep.length = 0 := by show sep.cps.size = 0; rw [hs]; rfl
      rw [this, List.flatMap_cons, List.length_append]
      have : q.length = q.cps.toList.length := by simp [Str.length]
      omega
  unfold JoinOk Builtin.Str.tooLong
  rw [Bool.not_eq_true', decide_eq_false_iff_not]
  have e : (l.map (·.1)).toArray.foldl (fun x p => x + p.length + sep.length) 0 = (catL l).length := by
    rw [List.foldl_toArray', key] <;> first | (unfold catL; rw [List.flatMap_map]; simp) | simp
  rw [e]; omega

def loopArgs (pa D : Addr) (x r : Str) (t u : Tok) (n : Int) (p : Nat) : Args := ⟨[.ref pa, .str x t, .str r u, rawInt 0, rawInt 0, rawInt n, rawInt p, rawInt p, .bool false, .ref D, .bool false], []⟩

/-- a str goes behind the others -/
theorem push_piece {D : Addr} {l : List (Str × Tok)} {m : Nat} {y : Str} {ty : Tok} {Q : Unit → Shared → Prop} {E : Value → Shared → Prop} (hD : s.heap.get? D = some (LObj (strValues l) m)) (hl : l.length ≤ 2 ^ 22)
    (h : ∀ h' m', h'.get? D = some (LObj (strValues (l ++ [(y, ty)])) m') → (∀ b o, b ≠ D → s.heap.get? b = some o → h'.get? b = some o) → Q () { s with heap := h' }) : wpAny (model prg w) A (updateSeq D (·.push (.str y ty))) Q E s := by
  have sl : sizeLine = 2 ^ 24 := rfl
  have hlen : (strValues l).toArray.size = l.length := by simp [strValues]
  refine wpAny_updateSeq hD rfl (h _ (m + 1) ?_ fun b o hb ho => (Heap.get?_update_ne _ _ _ _ hb).trans ho) (by rw [hlen]; omega) (by rw [Array.size_push, hlen]; omega)
  have hm : Obj.mapSeq (fun xs => xs.push (.str y ty)) (LObj (strValues l) m) = LObj (strValues (l ++ [(y, ty)])) (m + 1) := by
    unfold Obj.mapSeq
    simp [LObj, strValues]
  rw [Heap.get?_update_self _ hD (by rw [hm]; rfl), hm]

theorem PatAt.keeps {h h' : Heap} {D : Addr} (P : PatAt h pa ca code) (h1 : pa ≠ D) (h2 : ca ≠ D) (k : ∀ b o, b ≠ D → h.get? b = some o → h'.get? b = some o) : PatAt h' pa ca code := by
  obtain ⟨⟨pv, fv, hp⟩, vs, n, hc, e⟩ := P
  exact ⟨⟨pv, fv, k _ _ h1 hp⟩, vs, n, k _ _ h2 hc, e⟩

theorem sub_loop {r : Str} {u : Tok} {F : Array Nat → Nat → List Nat} {D : Addr} {R : Result → Shared → Prop} (hP : Pat code r.cps.toList F) (hx : x.cps.size ≤ 2 ^ 20) (hpa : pa ≠ D) (hca : ca ≠ D) :
    ∀ (k p : Nat) (n : Int) (l : List (Str × Tok)) (m : Nat) (s : Shared), x.cps.size - p ≤ k → p ≤ x.cps.size → PatAt s.heap pa ca code → s.heap.get? D = some (LObj (strValues l) m) → l.length ≤ 2 * p → (catL l ++ F x.cps p).length ≤ 2 ^ 24 →
      (∀ (out : Str) t' h' tk, out.cps.toList = catL l ++ F x.cps p → (∀ b o, b ≠ D → s.heap.get? b = some o → h'.get? b = some o) → R (.ok (.ret (.str out t'))) { s with heap := h', toks := tk }) →
      codeAny (model prg w) A (.builtin "re.Pattern.sub.loop" (loopArgs pa D x r t u n p)) R s
  | k, p, n, l, m, s, hk, hp, hpat, hD, hl, hfit, hR => by
    refine codeAny_builtin entry_pat_loop ?_
    have sl : sizeLine = 2 ^ 24 := rfl
    show wpAny _ _ (do
      let t' ← reWholeTarget (.ref pa) (.str x t)
      reLiteralCannotBeTurned (.str r u)
      match ← reNextFound t' p false with
      | some m =>
        if p < m.start then updateSeq D (·.push (← reSlice t'.text t'.kind p m.start))
        let item ← pure (.str r u)
        if item != .none then updateSeq D (·.push item)
        again (.builtin "re.Pattern.sub.loop" ⟨[.ref pa, .str x t, .str r u, rawInt 0, rawInt 0, rawInt (n + 1), rawInt m.handed, rawInt m.handed, .bool (m.handed == m.start), .ref D, .bool false], []⟩)
      | none =>
        if p < t'.lim then updateSeq D (·.push (← reSlice t'.text t'.kind p t'.lim))
        let joiner ← reSlice t'.text t'.kind 0 0
        let text ← if ((← seqItems? (.ref D)).getD #[]).isEmpty then pure joiner
          else call (.builtin (if t'.kind == 0 then "str.join" else "bytes.join")) [joiner, .ref D]
        ret text) _ _ s
    refine wpAny_bind (wholeTarget hpat ?_)
    have e2 : reLiteralCannotBeTurned (.str r u) = pure () := rfl
    rw [e2]
    refine wpAny_bind (wpAny_pure (wpAny_bind ?_))
    rcases hP.find x.cps p hp (by omega) with ⟨j, e, m', nn, h1, h2, h3, hnn, hends, hout, hstart, hhand, hF⟩ | ⟨m', nn, hnn, hends, hout, hF⟩
    · refine nextFound hends hnn (.inl ⟨hout, ?_⟩)
      dsimp only
      rw [hstart, hhand]
      have step : ∀ (s1 : Shared) (l1 : List (Str × Tok)) (m1 : Nat), s1.heap.get? D = some (LObj (strValues l1) m1) → l1.length ≤ l.length + 1 → catL l1 = catL l ++ (x.cps.extract p j).toList → (∀ b o, b ≠ D → s.heap.get? b = some o → s1.heap.get? b = some o) → (∃ h tk, s1 = { s with heap := h, toks := tk }) →
          wpAny (model prg w) (A.under (.builtin "re.Pattern.sub.loop" (loopArgs pa D x r t u n p))) (do
            let item ← pure (.str r u)
            if item != .none then updateSeq D (·.push item)
            again (.builtin "re.Pattern.sub.loop" ⟨[.ref pa, .str x t, .str r u, rawInt 0, rawInt 0, rawInt (n + 1), rawInt e, rawInt e, .bool (e == j), .ref D, .bool false], []⟩))
            (fun fin s' => match fin with | .done f => R (.ok f) s' | .again c' => c'.quiet = true ∧ codeAny (model prg w) A c' R s') (fun e s' => R (.error e) s') s1 := by
        intro s1 l1 m1 hD1 hl1 hcat kp1 hsame
        refine wpAny_bind (wpAny_pure ?_)
        have hne : ((.str r u : Value) != .none) = true := rfl
        rw [hne]
        simp only [if_true]
        refine wpAny_bind (push_piece hD1 (by omega) fun h2' m2 hD2 kp2 => ?_)
        refine wpAny_pure ⟨plainId_quiet (by decide +kernel) _, ?_⟩
        have hej : (e == j) = false := by simp; omega
        rw [hej]
        obtain ⟨hh, tk, rfl⟩ := hsame
        have kp12 : ∀ b o, b ≠ D → s.heap.get? b = some o → h2'.get? b = some o := fun b o hb ho => kp2 b o hb (kp1 b o hb ho)
        have hcat2 : catL (l1 ++ [(r, u)]) ++ F x.cps e = catL l ++ F x.cps p := by
          rw [catL_append, hcat, hF]
          have : catL [(r, u)] = r.cps.toList := by simp [catL]
          rw [this]; simp
        obtain ⟨k', rfl⟩ : ∃ k', k = k' + 1 := ⟨k - 1, by omega⟩
        refine sub_loop hP hx hpa hca k' e (n + 1) (l1 ++ [(r, u)]) m2 { s with heap := h2', toks := tk } (by omega) h3 (hpat.keeps hpa hca kp12) hD2 (by simp; omega) (by rw [hcat2]; exact hfit) (fun out t' h' tk' ho kk => ?_)
        exact hR out t' h' tk' (by rw [ho, hcat2]) fun b o hb hb' => kk b o hb (kp12 b o hb hb')
      by_cases hpj : p < j
      · rw [if_pos hpj]
        refine wpAny_bind (slice_str (x := x) (b := p) (e := j) (by omega) ?_)
        refine wpAny_bind (push_piece hD (by omega) fun h1' m1 hD1 kp1 => ?_)
        refine step _ _ m1 hD1 (by simp) ?_ kp1 ⟨_, _, rfl⟩
        rw [catL_append]
        simp [catL]
      · rw [if_neg hpj]
        have : p = j := by omega
        subst this
        refine wpAny_bind (wpAny_pure ?_)
        exact step s l m hD (by omega) (by simp) (fun _ _ _ h => h) ⟨_, _, rfl⟩
    · refine nextFound hends hnn (.inr ⟨hout, ?_⟩)
      dsimp only
      have fin : ∀ (s1 : Shared) (l1 : List (Str × Tok)) (m1 : Nat), s1.heap.get? D = some (LObj (strValues l1) m1) → catL l1 = catL l ++ F x.cps p → (∀ b o, b ≠ D → s.heap.get? b = some o → s1.heap.get? b = some o) → (∃ h tk, s1 = { s with heap := h, toks := tk }) →
          wpAny (model prg w) (A.under (.builtin "re.Pattern.sub.loop" (loopArgs pa D x r t u n p))) (do
            let joiner ← reSlice x.cps 0 0 0
            let text ← if ((← seqItems? (.ref D)).getD #[]).isEmpty then pure joiner
              else call (.builtin "str.join") [joiner, .ref D]
            ret text)
            (fun fin s' => match fin with | .done f => R (.ok f) s' | .again c' => c'.quiet = true ∧ codeAny (model prg w) A c' R s') (fun e s' => R (.error e) s') s1 := by
        intro s1 l1 m1 hD1 hcat kp1 hsame
        obtain ⟨hh, tk, rfl⟩ := hsame
        refine wpAny_bind (slice_str (by decide) ?_)
        refine wpAny_bind (wpAny_seqItems hD1 rfl ?_)
        have he0 : (⟨x.cps.extract 0 0⟩ : Str).cps = #[] := by simp
        cases l1 with
        | nil =>
          show wpAny _ _ (do let text ← pure _; ret text) _ _ _
          refine wpAny_bind (wpAny_pure (wpAny_pure ?_))
          refine hR _ _ _ _ ?_ kp1
          rw [← hcat, he0]; rfl
        | cons y r1 =>
          show wpAny _ _ (do let text ← call (.builtin "str.join") [_, .ref D]; ret text) _ _ _
          refine wpAny_bind (PySem.SC.join (texts := (y :: r1).map (·.1)) (⟨_, hD1, rfl, m1, rfl⟩) rfl (joinOk_cat _ he0 _ (by rw [hcat]; exact hfit)) fun t' k' => wpAny_pure ?_)
          refine hR _ _ _ _ ?_ kp1
          rw [join_cat _ he0, hcat]
      by_cases hpl : p < x.cps.size
      · show wpAny _ _ (do
          if p < x.cps.size then updateSeq D (·.push (← reSlice x.cps 0 p x.cps.size))
          let joiner ← reSlice x.cps 0 0 0
          let text ← if ((← seqItems? (.ref D)).getD #[]).isEmpty then pure joiner
            else call (.builtin "str.join") [joiner, .ref D]
          ret text) _ _ s
        rw [if_pos hpl]
        refine wpAny_bind (slice_str (x := x) (b := p) (e := x.cps.size) (by omega) ?_)
        refine wpAny_bind (push_piece hD (by omega) fun h1' m1 hD1 kp1 => ?_)
        refine fin _ _ m1 hD1 ?_ kp1 ⟨_, _, rfl⟩
        rw [catL_append, hF]
        simp [catL]
      · show wpAny _ _ (do
          if p < x.cps.size then updateSeq D (·.push (← reSlice x.cps 0 p x.cps.size))
          let joiner ← reSlice x.cps 0 0 0
          let text ← if ((← seqItems? (.ref D)).getD #[]).isEmpty then pure joiner
            else call (.builtin "str.join") [joiner, .ref D]
          ret text) _ _ s
        rw [if_neg hpl]
        refine fin s l m hD ?_ (fun _ _ _ h => h) ⟨_, _, rfl⟩
        have : p = x.cps.size := by omega
        rw [hF, this]; simp
end Mine
end

section
open PySem PySem.W PyProof.Rows PySem.Calls
set_option Elab.async false
set_option linter.unusedVariables false
set_option maxRecDepth 100000
namespace Mine
open PySem.Builtin.Re

theorem named_two (a b : Value) : reNamed "re.Pattern.sub" "sub" ["repl", "string", "count"] 2 [a, b] [] = pure [some a, some b, none] := by kernel_rfl
theorem str_no_call : typeLookup (.type "str") "__call__" = pure none := by rw [typeLookup_type, builtinLookup_eq_fast]; kernel_rfl

theorem call_sub {w : World} {A : Around} {s : Shared} {pa ca : Addr} {code : Array Nat} {x r : Str} {t u : Tok} {F : Array Nat → Nat → List Nat} {Q : Value → Shared → Prop} (hP : Pat code r.cps.toList F) (hlit : r.cps.contains 92 = false) (hx : x.cps.size ≤ 2 ^ 20) (hpat : PatAt s.heap pa ca code) (hfit : (F x.cps 0).length ≤ 2 ^ 24)
    (h : ∀ (out : Str) t' h' tk, out.cps.toList = F x.cps 0 → (∀ b o, s.heap.get? b = some o → h'.get? b = some o) → Q (.str out t') { s with heap := h', toks := tk }) : wpAny (model prg w) A (call (.builtin "re.Pattern.sub") [.ref pa, .str r u, .str x t]) Q No s := by
  obtain ⟨pv, fv, hp⟩ := hpat.pat
  refine wpAny_call (codeAny_call_builtin slot_pat_sub.plain entry_pat_sub (slot_pat_sub.check _ _ _ _ _ _ _ _ ⟨_, hp, rfl⟩ (args_pat_sub _ _ _) ?_))
  unfold Builtin.«re.Pattern.sub» reSubstitute
  dsimp only
  rw [named_two]
  refine wpAny_bind (wpAny_pure ?_)
  dsimp only
  refine wpAny_bind (wpAny_pure ?_)
  refine wpAny_bind (wpAny_specialOf (typeIs_str _ _ _) str_no_call ?_)
  show wpAny _ _ (do
      let literal ← pure (!r.cps.contains 92)
      let (repl, way) ← if literal = true then pure ((.str r u : Value), (0 : Int)) else do
          let t ← reCompileTemplate (.ref pa) (.str r u)
          if ← reOnlyLiteral t then pure (← field t 0, 0) else pure (t, 2)
      let _ ← holding [repl] (reWholeTarget (.ref pa) (.str x t))
      if way == 1 then reNotHeld "re.Pattern.sub" (.str x t)
      again (.builtin "re.Pattern.sub.loop" ⟨[.ref pa, .str x t, repl, rawInt way, rawInt 0, rawInt 0, rawInt 0, rawInt 0, .bool false, ← newList [], .bool false], []⟩)) _ _ s
  refine wpAny_bind (wpAny_pure ?_)
  rw [hlit]
  simp only [Bool.not_false, if_true]
  refine wpAny_bind (wpAny_pure ?_)
  dsimp only
  refine wpAny_bind (wpAny_holding (wholeTarget hpat ?_))
  have hw : ((0 : Int) == 1) = false := rfl
  rw [hw]
  simp only [Bool.false_eq_true, if_false]
  refine wpAny_bind (wpAny_newList ?_ (by decide))
  refine wpAny_pure ⟨plainId_quiet (by decide +kernel) _, ?_⟩
  have ne : ∀ a o, s.heap.get? a = some o → a ≠ s.heap.objs.size := fun a o ha => Nat.ne_of_lt (Heap.lt_size ha)
  obtain ⟨vs, n, hc, _⟩ := hpat.code
  have kp : ∀ b o, s.heap.get? b = some o → (s.heap.push (LObj [] 0)).get? b = some o := fun b o hb => Heap.get?_push_of_some _ hb
  refine sub_loop (D := s.heap.objs.size) (l := []) (m := 0) hP hx (ne _ _ hp) (ne _ _ hc) x.cps.size 0 0 _ (by omega) (by omega) (hpat.keeps (ne _ _ hp) (ne _ _ hc) fun b o _ => kp b o) (Heap.get?_push_size _ rfl) (by simp) (by simpa [catL] using hfit) (fun out t' h' tk ho kk => ?_)
  exact h out t' h' tk (by simpa [catL] using ho) fun b o hb => kk b o (ne _ _ hb) (kp b o hb)

theorem str_ext {a b : Str} (h : a.cps.toList = b.cps.toList) : a = b := by
  obtain ⟨⟨x⟩⟩ := a
  obtain ⟨⟨y⟩⟩ := b
  simp at h
  rw [h]
def mkS (l : List Nat) : Str := ⟨⟨l⟩⟩

section
variable {tab : List (Nat × NameKind)} {X : Fx tab} {e e₁ e₂ e₃ : PEnv} {p q out : PV}
theorem Calls.sub {pa ca : Addr} {code : Array Nat} {x r : Str} {F : Array Nat → Nat → List Nat} (hP : Pat code r.cps.toList F) (hlit : r.cps.contains 92 = false) (hx : x.cps.size ≤ 2 ^ 20) (hfit : (F x.cps 0).length ≤ 2 ^ 24) (hpat : ∀ h : Heap, X.K.In h → PatAt h pa ca code) :
    Calls X (.builtin "re.Pattern.sub") [.raw (.ref pa), .str r, .str x] (.str (mkS (F x.cps 0))) := fun ok s P cx vs hv => by
  obtain ⟨v, r1, rfl, h1, h2⟩ := hv.inv
  obtain ⟨v', r2, rfl, h3, h4⟩ := h2.inv
  obtain ⟨v'', r3, rfl, h5, h6⟩ := h4.inv
  rw [h6.inv0, rep_raw_inv h1]
  obtain ⟨t, rfl⟩ := rep_str_inv h3
  obtain ⟨u, rfl⟩ := rep_str_inv h5
  refine tokd (call_sub hP hlit hx (hpat _ cx.stat.K) hfit fun out t' h' tk ho kk ht => ?_)
  have e : out = mkS (F x.cps 0) := str_ext ho
  rw [e]
  exact ⟨(show Kp s { s with heap := h', toks := tk } from ⟨h', tk, rfl, ht, kk⟩).toL, rep_str⟩

theorem Ev.sub1 {o : Expr} {apos pos : Pos} {args : List Expr} {pa ca : Addr} {code : Array Nat} {x r : Str} {F : Array Nat → Nat → List Nat} (ho : Ev X e (eval o X.env) (.raw (.ref pa)) e₁) (ha : Ar X e₁ (backTo pos (starEach args X.env)) [.str r, .str x] e₂)
    (hP : Pat code r.cps.toList F) (hlit : r.cps.contains 92 = false) (hx : x.cps.size ≤ 2 ^ 20) (hfit : (F x.cps 0).length ≤ 2 ^ 24) (hpat : ∀ h : Heap, X.K.In h → PatAt h pa ca code)
    (hbase : attributeBase o "sub" X.env (eval o X.env) = eval o X.env)
    (hfew : methodCallForm (args.length + 0) (backTo pos (starEach args X.env)) (backToKw pos (keywordEach [] X.env)) = true) (hline : (apos.endLine == pos.line) = true) :
    Ev X e (eval (.Call (.Attribute o "sub" apos) args [] pos) X.env) (.str (mkS (F x.cps 0))) e₂ := fun ok ρ s R => by
  refine methodOn hbase hfew hline (wpAny_mono (ho ok ρ s R) (fun v s1 h1 => ?_) fun _ _ h => h)
  obtain ⟨R1, t1, rv⟩ := h1
  rw [rep_raw_inv rv]
  obtain ⟨pv, fv, hp⟩ := (hpat _ (R1.cx ok).stat.K).pat
  refine ⟨.builtin "re.Pattern.sub", [.ref pa], fun pl Q' hq => getMethod_builtin (T := "re.Pattern") ⟨_, hp, rfl⟩ plainAttrs_pat slot_pat_sub type_pat_sub (fun a h => by cases h; exact ⟨_, hp, rfl⟩) hq, ?_⟩
  refine wpAny_mono (callOn (qs := [.raw (.ref pa)]) (first := [.ref pa]) ok R1 (.one rep_raw) ha (Calls.sub hP hlit hx hfit hpat) ((Callee.builtin _).with ha.1)) (fun v s2 h2 => ?_) fun _ _ h => h
  exact ⟨h2.1, t1.trans h2.2.1, h2.2.2⟩
end
end Mine
end

section
open PySem PySem.W PyProof.Rows PySem.Calls
set_option Elab.async false
set_option linter.unusedVariables false
set_option maxRecDepth 100000
set_option maxHeartbeats 4000000
namespace Mine
/-! what is asked of the objects that the top leaves: all of it is read off ONE run of the top -/
def strIs (x : Str) : Option (Option Value) → Bool
  | some (some (.str y _)) => y == x
  | _ => false
theorem strIs_ex {x : Str} {v : Option (Option Value)} (h : strIs x v = true) : ∃ t, v = some (some (.str x t)) := by
  unfold strIs at h
  split at h
  · rw [eq_of_beq h]; exact ⟨_, rfl⟩
  · cases h
def intIs (i : Int) : Option (Option Value) → Bool
  | some (some (.int j _)) => j == i
  | _ => false
theorem intIs_ex {x : Int} {v : Option (Option Value)} (h : intIs x v = true) : ∃ t, v = some (some (.int x t)) := by
  unfold intIs at h
  split at h
  · rw [eq_of_beq h]; exact ⟨_, rfl⟩
  · cases h
def clsStr (x : Str) : Option CFound → Bool
  | some (.val (.str y _)) => y == x
  | _ => false
theorem clsStr_ex {x : Str} {v : Option CFound} (h : clsStr x v = true) : ∃ t, v = some (.val (.str x t)) := by
  unfold clsStr at h
  split at h
  · rw [eq_of_beq h]; exact ⟨_, rfl⟩
  · cases h
def plainObj (o : Obj) (T : String) : Bool := o.cls == .type T && o.dict == none && o.slots.size == 0
theorem plainObj_eq {o : Obj} {T : String} (h : plainObj o T = true) : o = { cls := .type T, data := o.data } := by
  unfold plainObj at h
  rw [Bool.and_eq_true, Bool.and_eq_true] at h
  obtain ⟨⟨h1, h2⟩, h3⟩ := h
  obtain ⟨c, d, dt, sl⟩ := o
  have e1 : c = .type T := eq_of_beq h1
  have e2 : d = none := eq_of_beq h2
  have e3 : sl = #[] := Array.size_eq_zero_iff.mp (eq_of_beq h3)
  subst e1 e2 e3
  rfl
def tailOk (ca : Addr) : List Value → Bool
  | [_, _, a, b, c, d, e] => a == .int 0 0 && b == .none && c == .none && d == .ref ca && e == .int 0 0
  | _ => false
def patB (K : Frag) (pa ca : Addr) (code : Array Nat) : Bool := (match K.lookup pa with
    | some o => plainObj o "re.Pattern" && (match o.data with | .fields vs => tailOk ca vs.toList | _ => false)
    | none => false) && (match K.lookup ca with
    | some o => plainObj o "tuple" && (match o.data with | .seq vs _ => ((vs.toList.map Builtin.Re.reRawOf).map (·.toNat)) == code.toList | _ => false)
    | none => false)
theorem patB_at {K : Frag} {pa ca : Addr} {code : Array Nat} (hb : patB K pa ca code = true) (h : Heap) (hh : K.In h) : PatAt h pa ca code := by
  unfold patB at hb
  rw [Bool.and_eq_true] at hb
  obtain ⟨h1, h2⟩ := hb
  constructor
  · split at h1
    · rename_i o ho
      rw [Bool.and_eq_true] at h1
      obtain ⟨p, q⟩ := h1
      have e := plainObj_eq p
      split at q
      · rename_i vs hv
        rw [hv] at e
        obtain ⟨l⟩ := vs
        unfold tailOk at q
        split at q
        · rename_i v1 v2 a b c d e' hl
          simp only [Bool.and_eq_true, beq_iff_eq] at q
          obtain ⟨⟨⟨⟨rfl, rfl⟩, rfl⟩, rfl⟩, rfl⟩ := q
          have hl' : l = [v1, v2, .int 0 0, .none, .none, .ref ca, .int 0 0] := hl
          subst hl'
          exact ⟨v1, v2, by rw [hh _ _ ho, e]⟩
        · cases q
      · cases q
    · cases h1
  · split at h2
    · rename_i o ho
      rw [Bool.and_eq_true] at h2
      obtain ⟨p, q⟩ := h2
      have e := plainObj_eq p
      split at q
      · rename_i vs n hv
        rw [hv] at e
        refine ⟨vs, n, by rw [hh _ _ ho, e], ?_⟩
        apply Array.toList_inj.mp
        rw [← eq_of_beq q]
        simp
      · cases q
    · cases h2
def nbB (K : Frag) : Bool := match K.lookup cStatics with
  | some ⟨_, _, .dict es _, _⟩ => es.toList.all (fun e => match e.key with | .str _ _ => true | _ => false) && (nsFind es sharingNotToldKey).isNone
  | _ => false
theorem nbB_NB {K : Frag} (h : nbB K = true) : NB K := by
  unfold nbB at h
  split at h
  · rename_i c od es n sl hl
    rw [Bool.and_eq_true] at h
    refine NB.of hl (fun x hx => ?_) (by simpa using h.2)
    have := List.all_eq_true.mp h.1 x (by simpa using hx)
    cases hk : x.key with
    | str a t => exact ⟨a, t, rfl⟩
    | _ => rw [hk] at this; cases this
  · cases h
def strOf : Value → Str
  | .str x _ => x
  | _ => "?"
def dictB (K : Frag) (a : Addr) : Bool := match K.lookup a with
  | some o => plainObj o "dict" && (match o.data with | .dict es _ => es.toList.all (fun e => match e.key with | .str _ _ => true | _ => false) | _ => false)
  | none => false
def dictRows (K : Frag) (a : Addr) : List (Int × Str) := match K.lookup a with
  | some o => (match o.data with | .dict es _ => es.toList.map fun e => (e.hash, strOf e.key) | _ => [])
  | none => []
theorem keysLit_of {P : Params} : ∀ (es : List DictEntry), (es.all (fun e => match e.key with | .str _ _ => true | _ => false)) = true → (∀ p ∈ es.map (fun e => (e.hash, strOf e.key)), p.1 = PyData.keyHash P p.2) → KeysLit P es
  | [], _, _ => trivial
  | e :: r, h, hp => by
    rw [List.all_cons, Bool.and_eq_true] at h
    refine ⟨?_, keysLit_of r h.2 fun p hp' => hp p (List.mem_cons_of_mem _ hp')⟩
    have h1 : e.hash = PyData.keyHash P (strOf e.key) := hp _ List.mem_cons_self
    have h2 := h.1
    cases hk : e.key with
    | str x t => rw [hk] at h1; exact ⟨x, t, rfl, h1⟩
    | _ => rw [hk] at h2; cases h2
theorem dict_of {K : Frag} {a : Addr} {P : Params} {ks : List Str} (hb : dictB K a = true) (hr : dictRows K a = ks.map fun x => (PyData.keyHash P x, x)) : ∃ es n, K.lookup a = some ⟨.type "dict", none, .dict es n, #[]⟩ ∧ KeysLit P es.toList := by
  unfold dictB at hb
  unfold dictRows at hr
  split at hb
  · rename_i o ho
    rw [Bool.and_eq_true] at hb
    obtain ⟨p, q⟩ := hb
    have e := plainObj_eq p
    rw [ho] at hr
    split at q
    · rename_i es n hd
      rw [hd] at e
      simp only [hd] at hr
      refine ⟨es, n, by rw [ho, e], keysLit_of _ q fun x hx => ?_⟩
      rw [hr] at hx
      obtain ⟨y, _, rfl⟩ := List.mem_map.mp hx
      rfl
    · cases q
  · cases hb
/-! the defs -/
def fdMk (n q : Str) (a : Arguments) (b : List Stmt) (sc : Scope) : FuncData := { name := n, qualname := q, params := a, body := .stmts b, scope := sc, globals := mainGlobals, closure := [], defaults := .none, kwdefaults := .none, builtins := builtinsNs }
def fdOfS (pre : Str) : Option Stmt → FuncData
  | some (.FunctionDef n a b _ _ _ sc _ _ _) => fdMk n (pre ++ n) a b sc
  | _ => default
def fdTop (i : Nat) : FuncData := fdOfS "" (prg.main.body[i]?)
def fdMeth (j : Nat) : FuncData := match (prg.main.body[8]? : Option Stmt) with
  | some (.ClassDef _ _ _ b _ _ _ _ _ _ _) => fdOfS "Whitespace." (b[j]?)
  | _ => default
def bodyOf (fd : FuncData) : List Stmt := match fd.body with | .stmts b => b | _ => []
def blank (fd : FuncData) : FuncData := { fd with doc := .none, pyModule := .none, annotations := none, code := .none, closureTuple := .none }
def fdIn (K : Frag) (a : Addr) : Option FuncData := match K.lookup a with
  | some ⟨_, _, .func fd, _⟩ => some (blank fd)
  | _ => none
def codeB (K : Frag) (a : Addr) : Bool := match K.lookup a with
  | some ⟨_, _, .func fd, _⟩ => codeIn K fd.code fd.qualname
  | _ => false
theorem bind_blank (fd : FuncData) (args : Args) : bindArgs fd args = bindArgs (blank fd) args := rfl
theorem fd_of {K : Frag} {a : Addr} {fd : FuncData} {xs : List Str} (h : fdIn K a = some fd) (hc : codeB K a = true) (hb : fd.body = .stmts (bodyOf fd)) (hcl : fd.closure = []) (hg : fd.globals = mainGlobals) (hbl : fd.builtins = builtinsNs)
    (hbind : ∀ vs : List Value, vs.length = xs.length → bindArgs fd ⟨vs, []⟩ = pure (xs.zip vs)) : FD K a (bodyOf fd) fd.scope xs := by
  unfold fdIn at h
  unfold codeB at hc
  split at h
  · rename_i oc od fd' osl hl
    rw [hl] at hc
    cases h
    exact ⟨oc, od, osl, fd', hl, hb, hcl, hc, rfl, hg, hbl, hbind⟩
  · cases h
def dictKeys : List Str := match (prg.main.body[59]? : Option Stmt) with
  | some (.Assign _ (.Dict ks _ _) _) => ks.filterMap fun k => match k with | some (.Constant (.str x) _ _) => some x | _ => none
  | _ => []
def kfL (K : Frag) : List Bool := [(nsIn K mainGlobals "_twin_re_1" == some (some (.ref 43))),
  (nsIn K mainGlobals "_twin_re_2" == some (some (.ref 48))),
  (nsIn K mainGlobals "quotedata" == some (some (.ref 55))),
  (nsIn K mainGlobals "Whitespace" == some (some (.ref 117))),
  (nsIn K mainGlobals "ISEOF" == some (some (.ref 131))),
  (nsIn K mainGlobals "EXACT_TOKEN_TYPES" == some (some (.ref 122))),
  (nsIn K mainGlobals "_law_rows" == some (some (.ref 136))),
  (nsIn K mainGlobals "_law_lead" == some (some (.ref 143))),
  (nsIn K mainGlobals "_law_page" == some (some (.ref 148))),
  (nsIn K mainGlobals "law" == some (some (.ref 153))),
  (nsIn K mainGlobals "len" == some none),
  (nsIn K mainGlobals "range" == some none),
  (nsIn K mainGlobals "max" == some none),
  (nsIn K mainGlobals "tuple" == some none),
  (nsIn K mainGlobals "zip" == some none),
  (findIn K (.ref 117) "raw" == some none),
  (findIn K (.ref 117) "n" == some none),
  (findIn K (.ref 117) "nt" == some none),
  (findIn K (.ref 117) "norm" == some none),
  (findIn K (.ref 117) "is_simple" == some none),
  (takerIn K 117 "raw" == some none),
  (takerIn K 117 "n" == some none),
  (takerIn K 117 "nt" == some none),
  (takerIn K 117 "norm" == some none),
  (takerIn K 117 "is_simple" == some none),
  (findIn K (.ref 117) "longest_run_of_spaces" == some (some (.ref 79))),
  (typeIn K (.ref 79) == some (.type "function")),
  keepIn K (.ref 79),
  (findIn K (.ref 117) "indent_level" == some (some (.ref 86))),
  (typeIn K (.ref 86) == some (.type "function")),
  keepIn K (.ref 86),
  (findIn K (.ref 117) "equal" == some (some (.ref 93))),
  (typeIn K (.ref 93) == some (.type "function")),
  keepIn K (.ref 93),
  (findIn K (.ref 117) "less" == some (some (.ref 107))),
  (typeIn K (.ref 107) == some (.type "function")),
  keepIn K (.ref 107),
  keepIn K (.ref 55),
  keepIn K (.ref 117),
  keepIn K (.ref 131),
  keepIn K (.ref 136),
  keepIn K (.ref 143),
  keepIn K (.ref 148),
  readsIn K 117 (.type "type"),
  (findIn K (.ref 117) "__getattribute__" == some (some (.builtin "object.__getattribute__"))),
  (findIn K (.ref 117) "__getattr__" == some none),
  hasDictIn K 117,
  (findIn K (.ref 117) "__setattr__" == some (some (.builtin "object.__setattr__"))),
  plainOver K 117,
  makesIn K 117,
  (findIn K (.ref 117) "__init__" == some (some (.ref 72))),
  (typeIn K (.ref 72) == some (.type "function")),
  strIs "\r\n" (nsIn K mainGlobals "CRLF"),
  intIs 0 (nsIn K mainGlobals "ENDMARKER"),
  clsStr " " (findCls K (.ref 117) (.type "type") "S"),
  clsStr "\t" (findCls K (.ref 117) (.type "type") "T"),
  intIs 7 (nsIn K 122 "("),
  intIs 8 (nsIn K 122 ")"),
  intIs 9 (nsIn K 122 "["),
  intIs 10 (nsIn K 122 "]"),
  intIs 25 (nsIn K 122 "{"),
  intIs 26 (nsIn K 122 "}"),
  patB K 43 42 c1,
  patB K 48 47 c2,
  nbB K,
  dictB K 122,
  codeB K 131,
  codeB K 55,
  codeB K 136,
  codeB K 143,
  codeB K 148,
  codeB K 153,
  codeB K 72,
  codeB K 79,
  codeB K 86,
  codeB K 93,
  codeB K 107]
def fdL (K : Frag) : List (Option FuncData) := [fdIn K 131, fdIn K 55, fdIn K 136, fdIn K 143, fdIn K 148, fdIn K 153, fdIn K 72, fdIn K 79, fdIn K 86, fdIn K 93, fdIn K 107]
def fdE : List (Option FuncData) := [some (fdTop 60), some (fdTop 6), some (fdTop 62), some (fdTop 63), some (fdTop 64), some (fdTop 65), some (fdMeth 1), some (fdMeth 2), some (fdMeth 3), some (fdMeth 4), some (fdMeth 6)]
abbrev ObsT := List Bool × List (Option FuncData) × List (Int × Str)
def obs (K : Frag) : ObsT := (kfL K, fdL K, dictRows K 122)
def obsE (P : Params) : ObsT := (List.replicate 77 true, fdE, dictKeys.map fun x => (PyData.keyHash P x, x))
/-- all that is known of the top's objects -/
def KF (K : Frag) (w : World) : Prop := obs K = obsE w.params
theorem KF.b {K : Frag} {w : World} (h : KF K w) {i : Nat} {b : Bool} (hi : (kfL K)[i]? = some b) (hn : i < 77) : b = true := by
  have e : kfL K = List.replicate 77 true := congrArg Prod.fst h
  rw [e, List.getElem?_replicate, if_pos hn] at hi
  exact (Option.some.inj hi).symm
theorem KF.f {K : Frag} {w : World} (h : KF K w) {i : Nat} {a b : Option FuncData} (hi : (fdL K)[i]? = some a) (he : fdE[i]? = some b) : a = b := by
  have e : fdL K = fdE := congrArg (fun x => x.2.1) h
  rw [e, he] at hi
  exact (Option.some.inj hi).symm
section
variable {K : Frag} {w : World}
theorem k_re1 (hK : KF K w) : nsIn K mainGlobals "_twin_re_1" = some (some (.ref 43)) := eq_of_beq (hK.b (i := 0) rfl (by decide))
theorem k_re2 (hK : KF K w) : nsIn K mainGlobals "_twin_re_2" = some (some (.ref 48)) := eq_of_beq (hK.b (i := 1) rfl (by decide))
theorem k_quotedata (hK : KF K w) : nsIn K mainGlobals "quotedata" = some (some (.ref 55)) := eq_of_beq (hK.b (i := 2) rfl (by decide))
theorem k_Whitespace (hK : KF K w) : nsIn K mainGlobals "Whitespace" = some (some (.ref 117)) := eq_of_beq (hK.b (i := 3) rfl (by decide))
theorem k_ISEOF (hK : KF K w) : nsIn K mainGlobals "ISEOF" = some (some (.ref 131)) := eq_of_beq (hK.b (i := 4) rfl (by decide))
theorem k_ETT (hK : KF K w) : nsIn K mainGlobals "EXACT_TOKEN_TYPES" = some (some (.ref 122)) := eq_of_beq (hK.b (i := 5) rfl (by decide))
theorem k_law_rows (hK : KF K w) : nsIn K mainGlobals "_law_rows" = some (some (.ref 136)) := eq_of_beq (hK.b (i := 6) rfl (by decide))
theorem k_law_lead (hK : KF K w) : nsIn K mainGlobals "_law_lead" = some (some (.ref 143)) := eq_of_beq (hK.b (i := 7) rfl (by decide))
theorem k_law_page (hK : KF K w) : nsIn K mainGlobals "_law_page" = some (some (.ref 148)) := eq_of_beq (hK.b (i := 8) rfl (by decide))
theorem k_law (hK : KF K w) : nsIn K mainGlobals "law" = some (some (.ref 153)) := eq_of_beq (hK.b (i := 9) rfl (by decide))
theorem k_len (hK : KF K w) : nsIn K mainGlobals "len" = some none := eq_of_beq (hK.b (i := 10) rfl (by decide))
theorem k_range (hK : KF K w) : nsIn K mainGlobals "range" = some none := eq_of_beq (hK.b (i := 11) rfl (by decide))
theorem k_max (hK : KF K w) : nsIn K mainGlobals "max" = some none := eq_of_beq (hK.b (i := 12) rfl (by decide))
theorem k_tuple (hK : KF K w) : nsIn K mainGlobals "tuple" = some none := eq_of_beq (hK.b (i := 13) rfl (by decide))
theorem k_zip (hK : KF K w) : nsIn K mainGlobals "zip" = some none := eq_of_beq (hK.b (i := 14) rfl (by decide))
theorem k_no_raw (hK : KF K w) : findIn K (.ref 117) "raw" = some none := eq_of_beq (hK.b (i := 15) rfl (by decide))
theorem k_no_n (hK : KF K w) : findIn K (.ref 117) "n" = some none := eq_of_beq (hK.b (i := 16) rfl (by decide))
theorem k_no_nt (hK : KF K w) : findIn K (.ref 117) "nt" = some none := eq_of_beq (hK.b (i := 17) rfl (by decide))
theorem k_no_norm (hK : KF K w) : findIn K (.ref 117) "norm" = some none := eq_of_beq (hK.b (i := 18) rfl (by decide))
theorem k_no_is_simple (hK : KF K w) : findIn K (.ref 117) "is_simple" = some none := eq_of_beq (hK.b (i := 19) rfl (by decide))
theorem k_tk_raw (hK : KF K w) : takerIn K 117 "raw" = some none := eq_of_beq (hK.b (i := 20) rfl (by decide))
theorem k_tk_n (hK : KF K w) : takerIn K 117 "n" = some none := eq_of_beq (hK.b (i := 21) rfl (by decide))
theorem k_tk_nt (hK : KF K w) : takerIn K 117 "nt" = some none := eq_of_beq (hK.b (i := 22) rfl (by decide))
theorem k_tk_norm (hK : KF K w) : takerIn K 117 "norm" = some none := eq_of_beq (hK.b (i := 23) rfl (by decide))
theorem k_tk_is_simple (hK : KF K w) : takerIn K 117 "is_simple" = some none := eq_of_beq (hK.b (i := 24) rfl (by decide))
theorem k_m_longest_run_of_spaces (hK : KF K w) : findIn K (.ref 117) "longest_run_of_spaces" = some (some (.ref 79)) := eq_of_beq (hK.b (i := 25) rfl (by decide))
theorem k_t_longest_run_of_spaces (hK : KF K w) : typeIn K (.ref 79) = some (.type "function") := eq_of_beq (hK.b (i := 26) rfl (by decide))
theorem k_k_longest_run_of_spaces (hK : KF K w) : keepIn K (.ref 79) = true := hK.b (i := 27) rfl (by decide)
theorem k_m_indent_level (hK : KF K w) : findIn K (.ref 117) "indent_level" = some (some (.ref 86)) := eq_of_beq (hK.b (i := 28) rfl (by decide))
theorem k_t_indent_level (hK : KF K w) : typeIn K (.ref 86) = some (.type "function") := eq_of_beq (hK.b (i := 29) rfl (by decide))
theorem k_k_indent_level (hK : KF K w) : keepIn K (.ref 86) = true := hK.b (i := 30) rfl (by decide)
theorem k_m_equal (hK : KF K w) : findIn K (.ref 117) "equal" = some (some (.ref 93)) := eq_of_beq (hK.b (i := 31) rfl (by decide))
theorem k_t_equal (hK : KF K w) : typeIn K (.ref 93) = some (.type "function") := eq_of_beq (hK.b (i := 32) rfl (by decide))
theorem k_k_equal (hK : KF K w) : keepIn K (.ref 93) = true := hK.b (i := 33) rfl (by decide)
theorem k_m_less (hK : KF K w) : findIn K (.ref 117) "less" = some (some (.ref 107)) := eq_of_beq (hK.b (i := 34) rfl (by decide))
theorem k_t_less (hK : KF K w) : typeIn K (.ref 107) = some (.type "function") := eq_of_beq (hK.b (i := 35) rfl (by decide))
theorem k_k_less (hK : KF K w) : keepIn K (.ref 107) = true := hK.b (i := 36) rfl (by decide)
theorem k_k_quotedata (hK : KF K w) : keepIn K (.ref 55) = true := hK.b (i := 37) rfl (by decide)
theorem k_k_Whitespace (hK : KF K w) : keepIn K (.ref 117) = true := hK.b (i := 38) rfl (by decide)
theorem k_k_ISEOF (hK : KF K w) : keepIn K (.ref 131) = true := hK.b (i := 39) rfl (by decide)
theorem k_k_rows (hK : KF K w) : keepIn K (.ref 136) = true := hK.b (i := 40) rfl (by decide)
theorem k_k_lead (hK : KF K w) : keepIn K (.ref 143) = true := hK.b (i := 41) rfl (by decide)
theorem k_k_page (hK : KF K w) : keepIn K (.ref 148) = true := hK.b (i := 42) rfl (by decide)
theorem k_reads (hK : KF K w) : readsIn K 117 (.type "type") = true := hK.b (i := 43) rfl (by decide)
theorem cl_ga (hK : KF K w) : findIn K (.ref 117) "__getattribute__" = some (some (.builtin "object.__getattribute__")) := eq_of_beq (hK.b (i := 44) rfl (by decide))
theorem cl_gt (hK : KF K w) : findIn K (.ref 117) "__getattr__" = some none := eq_of_beq (hK.b (i := 45) rfl (by decide))
theorem cl_hd (hK : KF K w) : hasDictIn K 117 = true := hK.b (i := 46) rfl (by decide)
theorem cl_sa (hK : KF K w) : findIn K (.ref 117) "__setattr__" = some (some (.builtin "object.__setattr__")) := eq_of_beq (hK.b (i := 47) rfl (by decide))
theorem cl_po (hK : KF K w) : plainOver K 117 = true := hK.b (i := 48) rfl (by decide)
theorem mk_W (hK : KF K w) : makesIn K 117 = true := hK.b (i := 49) rfl (by decide)
theorem in_W (hK : KF K w) : findIn K (.ref 117) "__init__" = some (some (.ref 72)) := eq_of_beq (hK.b (i := 50) rfl (by decide))
theorem ti_W (hK : KF K w) : typeIn K (.ref 72) = some (.type "function") := eq_of_beq (hK.b (i := 51) rfl (by decide))
theorem k_CRLF (hK : KF K w) : ∃ t, nsIn K mainGlobals "CRLF" = some (some (.str "\r\n" t)) := strIs_ex (hK.b (i := 52) rfl (by decide))
theorem k_END (hK : KF K w) : ∃ t, nsIn K mainGlobals "ENDMARKER" = some (some (.int 0 t)) := intIs_ex (hK.b (i := 53) rfl (by decide))
theorem k_S (hK : KF K w) : ∃ t, findCls K (.ref 117) (.type "type") "S" = some (.val (.str " " t)) := clsStr_ex (hK.b (i := 54) rfl (by decide))
theorem k_T (hK : KF K w) : ∃ t, findCls K (.ref 117) (.type "type") "T" = some (.val (.str "\t" t)) := clsStr_ex (hK.b (i := 55) rfl (by decide))
theorem k_sym40 (hK : KF K w) : ∃ t, nsIn K 122 "(" = some (some (.int 7 t)) := intIs_ex (hK.b (i := 56) rfl (by decide))
theorem k_sym41 (hK : KF K w) : ∃ t, nsIn K 122 ")" = some (some (.int 8 t)) := intIs_ex (hK.b (i := 57) rfl (by decide))
theorem k_sym91 (hK : KF K w) : ∃ t, nsIn K 122 "[" = some (some (.int 9 t)) := intIs_ex (hK.b (i := 58) rfl (by decide))
theorem k_sym93 (hK : KF K w) : ∃ t, nsIn K 122 "]" = some (some (.int 10 t)) := intIs_ex (hK.b (i := 59) rfl (by decide))
theorem k_sym123 (hK : KF K w) : ∃ t, nsIn K 122 "{" = some (some (.int 25 t)) := intIs_ex (hK.b (i := 60) rfl (by decide))
theorem k_sym125 (hK : KF K w) : ∃ t, nsIn K 122 "}" = some (some (.int 26 t)) := intIs_ex (hK.b (i := 61) rfl (by decide))
theorem pat_1 (hK : KF K w) (h : Heap) (hh : K.In h) : PatAt h 43 42 c1 := patB_at (hK.b (i := 62) rfl (by decide)) h hh
theorem pat_2 (hK : KF K w) (h : Heap) (hh : K.In h) : PatAt h 48 47 c2 := patB_at (hK.b (i := 63) rfl (by decide)) h hh
theorem nb_K (hK : KF K w) : NB K := nbB_NB (hK.b (i := 64) rfl (by decide))
theorem k_dict (hK : KF K w) : ∃ es n, K.lookup 122 = some ⟨.type "dict", none, .dict es n, #[]⟩ ∧ KeysLit w.params es.toList := dict_of (hK.b (i := 65) rfl (by decide)) (congrArg (fun x => x.2.2) hK)
theorem cls_W (hK : KF K w) : Cls K 117 := ⟨cl_ga hK, cl_gt hK, cl_hd hK, cl_sa hK, cl_po hK⟩
theorem fd_131 (hK : KF K w) : FD K 131 (bodyOf (fdTop 60)) (fdTop 60).scope ["x"] := by
  refine fd_of (hK.f (i := 0) rfl rfl) (hK.b (i := 66) rfl (by decide)) (by kernel_rfl) (by kernel_rfl) (by kernel_rfl) (by kernel_rfl) (fun vs h => ?_)
  match vs, h with
  | [v0], _ => kernel_rfl
theorem fd_55 (hK : KF K w) : FD K 55 (bodyOf (fdTop 6)) (fdTop 6).scope ["data"] := by
  refine fd_of (hK.f (i := 1) rfl rfl) (hK.b (i := 67) rfl (by decide)) (by kernel_rfl) (by kernel_rfl) (by kernel_rfl) (by kernel_rfl) (fun vs h => ?_)
  match vs, h with
  | [v0], _ => kernel_rfl
theorem fd_136 (hK : KF K w) : FD K 136 (bodyOf (fdTop 62)) (fdTop 62).scope ["text", "ends"] := by
  refine fd_of (hK.f (i := 2) rfl rfl) (hK.b (i := 68) rfl (by decide)) (by kernel_rfl) (by kernel_rfl) (by kernel_rfl) (by kernel_rfl) (fun vs h => ?_)
  match vs, h with
  | [v0, v1], _ => kernel_rfl
theorem fd_143 (hK : KF K w) : FD K 143 (bodyOf (fdTop 63)) (fdTop 63).scope ["row", "unit"] := by
  refine fd_of (hK.f (i := 3) rfl rfl) (hK.b (i := 69) rfl (by decide)) (by kernel_rfl) (by kernel_rfl) (by kernel_rfl) (by kernel_rfl) (fun vs h => ?_)
  match vs, h with
  | [v0, v1], _ => kernel_rfl
theorem fd_148 (hK : KF K w) : FD K 148 (bodyOf (fdTop 64)) (fdTop 64).scope ["rows"] := by
  refine fd_of (hK.f (i := 4) rfl rfl) (hK.b (i := 70) rfl (by decide)) (by kernel_rfl) (by kernel_rfl) (by kernel_rfl) (by kernel_rfl) (fun vs h => ?_)
  match vs, h with
  | [v0], _ => kernel_rfl
theorem fd_153 (hK : KF K w) : FD K 153 (bodyOf (fdTop 65)) (fdTop 65).scope ["script"] := by
  refine fd_of (hK.f (i := 5) rfl rfl) (hK.b (i := 71) rfl (by decide)) (by kernel_rfl) (by kernel_rfl) (by kernel_rfl) (by kernel_rfl) (fun vs h => ?_)
  match vs, h with
  | [v0], _ => kernel_rfl
theorem fd_72 (hK : KF K w) : FD K 72 (bodyOf (fdMeth 1)) (fdMeth 1).scope ["self", "ws"] := by
  refine fd_of (hK.f (i := 6) rfl rfl) (hK.b (i := 72) rfl (by decide)) (by kernel_rfl) (by kernel_rfl) (by kernel_rfl) (by kernel_rfl) (fun vs h => ?_)
  match vs, h with
  | [v0, v1], _ => kernel_rfl
theorem fd_79 (hK : KF K w) : FD K 79 (bodyOf (fdMeth 2)) (fdMeth 2).scope ["self"] := by
  refine fd_of (hK.f (i := 7) rfl rfl) (hK.b (i := 73) rfl (by decide)) (by kernel_rfl) (by kernel_rfl) (by kernel_rfl) (by kernel_rfl) (fun vs h => ?_)
  match vs, h with
  | [v0], _ => kernel_rfl
theorem fd_86 (hK : KF K w) : FD K 86 (bodyOf (fdMeth 3)) (fdMeth 3).scope ["self", "tabsize"] := by
  refine fd_of (hK.f (i := 8) rfl rfl) (hK.b (i := 74) rfl (by decide)) (by kernel_rfl) (by kernel_rfl) (by kernel_rfl) (by kernel_rfl) (fun vs h => ?_)
  match vs, h with
  | [v0, v1], _ => kernel_rfl
theorem fd_93 (hK : KF K w) : FD K 93 (bodyOf (fdMeth 4)) (fdMeth 4).scope ["self", "other"] := by
  refine fd_of (hK.f (i := 9) rfl rfl) (hK.b (i := 75) rfl (by decide)) (by kernel_rfl) (by kernel_rfl) (by kernel_rfl) (by kernel_rfl) (fun vs h => ?_)
  match vs, h with
  | [v0, v1], _ => kernel_rfl
theorem fd_107 (hK : KF K w) : FD K 107 (bodyOf (fdMeth 6)) (fdMeth 6).scope ["self", "other"] := by
  refine fd_of (hK.f (i := 10) rfl rfl) (hK.b (i := 76) rfl (by decide)) (by kernel_rfl) (by kernel_rfl) (by kernel_rfl) (by kernel_rfl) (fun vs h => ?_)
  match vs, h with
  | [v0, v1], _ => kernel_rfl
end
end Mine
end

section
open PySem PySem.W PyProof.Rows PySem.Calls
set_option Elab.async false
set_option linter.unusedVariables false
set_option maxRecDepth 1000000
set_option maxHeartbeats 0
namespace Mine
/-! the top, run once for each side of the one row of the world that it asks -/
def keepL : List Nat := (List.range 66).filter fun i => !([3, 4, 8, 59] : List Nat).contains i
def lawQ : Program := view PySem.Challenge.rw_rw0100_01.row.prog keepL
def looseL : List Str := ["_twin_re_1", "_twin_re_2", "Whitespace", "EXACT_TOKEN_TYPES"]
def lawXt (s : Shared) : Bool := xlAt lawQ [] s && recOk (RowW.records PySem.Challenge.rw_rw0100_01.row.toRowW) s
def fragOf (h : Heap) : Frag := (List.range 154).filterMap fun a => (h.get? a).map fun o => (a, o)
theorem left_f : ∀ w : World, (openEnds treeTable PySem.Challenge.rw_rw0100_01.row.prog (w.withFollow "special-get-raises" false) 4716).map (fun s => (openSeen lawQ looseL (importedModules PySem.Challenge.rw_rw0100_01.row.prog.main.body) lawXt true s, obs (fragOf s.heap))) = some (openGood lawQ looseL, obsE (w.withFollow "special-get-raises" false).params) := by
  intro w
  unfold openEnds fencedOpening topFrom
  rw [PySem.W.Fast.te14082659384304107361, PySem.W.Fast.te10274390034422433532, PySem.W.Fast.te14289696077712309145, PySem.W.Fast.te14364793385576792824, PySem.W.Fast.te4187177175401517315]
  kernel_rfl
end Mine
end

section
open PySem PySem.W PyProof.Rows PySem.Calls
set_option Elab.async false
set_option linter.unusedVariables false
set_option maxRecDepth 1000000
set_option maxHeartbeats 0
namespace Mine
theorem left_t : ∀ w : World, (openEnds treeTable PySem.Challenge.rw_rw0100_01.row.prog (w.withFollow "special-get-raises" true) 4716).map (fun s => (openSeen lawQ looseL (importedModules PySem.Challenge.rw_rw0100_01.row.prog.main.body) lawXt true s, obs (fragOf s.heap))) = some (openGood lawQ looseL, obsE (w.withFollow "special-get-raises" true).params) := by
  intro w
  unfold openEnds fencedOpening topFrom
  rw [PySem.W.Fast.te14082659384304107361, PySem.W.Fast.te10274390034422433532, PySem.W.Fast.te14289696077712309145, PySem.W.Fast.te14364793385576792824, PySem.W.Fast.te4187177175401517315]
  kernel_rfl
theorem left_any : LeftO PySem.Challenge.rw_rw0100_01.row.prog lawQ looseL lawXt (fun s => obs (fragOf s.heap)) (fun w => obsE w.params) 4716 :=
  byRow2 "special-get-raises" (P := fun w => (openEnds treeTable PySem.Challenge.rw_rw0100_01.row.prog w 4716).map (fun s => (openSeen lawQ looseL (importedModules PySem.Challenge.rw_rw0100_01.row.prog.main.body) lawXt true s, obs (fragOf s.heap))) = some (openGood lawQ looseL, obsE w.params)) left_f left_t
theorem frag_in : ∀ (as : List Addr) (h : Heap), Frag.In (as.filterMap fun a => (h.get? a).map fun o => (a, o)) h
  | [], h => fun a o e => by cases e
  | b :: r, h => fun a o e => by
    rw [List.filterMap_cons] at e
    cases hb : h.get? b with
    | none => rw [hb] at e; exact frag_in r h a o e
    | some ob =>
      rw [hb] at e
      simp only [Option.map_some] at e
      rw [List.lookup_cons] at e
      by_cases q : a = b
      · subst q
        rw [beq_self_eq_true] at e
        cases e
        exact hb
      · have : (a == b) = false := by simpa using q
        rw [this] at e
        exact frag_in r h a o e
theorem top_says (w : World) (s : Shared) (h : obs (fragOf s.heap) = obsE w.params) : ∃ K, KF K w ∧ K.In s.heap := ⟨_, h, frag_in _ _⟩
theorem said : PySem.Challenge.rw_rw0100_01.wellSaid = true := by
  rw [PySem.W.Fast.te9446332074065402090]
  kernel_rfl
end Mine
end

section
open PySem PySem.W PyProof.Rows PySem.Calls
set_option Elab.async false
set_option linter.unusedVariables false
set_option maxRecDepth 100000
namespace Mine

section
variable {tab : List (Nat × NameKind)} {X : Fx tab} {e e₁ e₂ e₃ : PEnv} {p q out : PV}
theorem kindT (ok : X.Ok) {i : Nat} {x : Str} (hx : allNames[i]? = some x) (hi : tab.lookup i = some .globalImplicit) : X.env.kindOf x = some .globalImplicit := by
  obtain ⟨x', hx', hk⟩ := ok.kind i _ hi
  rw [hx] at hx'; cases hx'
  exact hk
theorem Ev.ok' {t : Sem Value} (h : X.Ok → Ev X e t p e₁) : Ev X e t p e₁ := fun ok => h ok ok
/-- a name of the top, by its number -/
theorem Ev.gT {i : Nat} {x : Str} {v : Value} {pos : Pos} (hx : allNames[i]? = some x) (hi : tab.lookup i = some .globalImplicit) (hv : nsIn X.K mainGlobals x = some (some v)) (hp : ∀ h P, Rep h P p v) : Ev X e (eval (.Name x pos) X.env) p e :=
  Ev.pure' fun ok s P c => by
    obtain ⟨p', loose, mg, mb, T⟩ := c.stat.top
    exact Name_function_global ok.fn (kindT ok hx hi) (loadGlobal_global (by rw [ok.glob]; exact T.g) (mg_of c.stat.K T.g hv) ⟨KeepsL.refl s, hp _ _⟩) (plainName hx).1
theorem Ev.bT {i : Nat} {x : Str} {v : Value} {pos : Pos} (hx : allNames[i]? = some x) (hi : tab.lookup i = some .globalImplicit) (hn : nsIn X.K mainGlobals x = some none) (hv : bootBuiltins x = some v) (hne : x ≠ "__name__") : Ev X e (eval (.Name x pos) X.env) (.raw v) e :=
  Ev.ok' fun ok => Ev.blt (kindT ok hx hi) hn hv hne (plainName hx).1

/-! arguments as they are written -/
theorem Ar.s0 {pos : Pos} : Ar X e (backTo pos (starEach [] X.env)) [] e := Ar.nil
theorem Ar.s1 {pos : Pos} {a : Expr} (h : Ev X e (eval a X.env) p e₁) (hb : backTo pos (starEach [a] X.env) = [(false, eval a X.env)]) : Ar X e (backTo pos (starEach [a] X.env)) [p] e₁ := hb ▸ Ar.one h
theorem Ar.s2 {pos : Pos} {a b : Expr} (h : Ev X e (eval a X.env) p e₁) (h2 : Ev X e₁ (eval b X.env) q e₂) (hb : backTo pos (starEach [a, b] X.env) = [(false, eval a X.env), (false, eval b X.env)]) : Ar X e (backTo pos (starEach [a, b] X.env)) [p, q] e₂ := hb ▸ Ar.two h h2
theorem EvL.s0 {pos : Pos} : EvL X e (spliced (backTo pos (starEach [] X.env))) [] e := EvL.nil
theorem EvL.sc {pos : Pos} {a : Expr} {rest : List Expr} {ps : List PV} (h : Ev X e (eval a X.env) p e₁) (h2 : EvL X e₁ (spliced (backTo pos (starEach rest X.env))) ps e₂) (hb : backTo pos (starEach (a :: rest) X.env) = (false, eval a X.env) :: backTo pos (starEach rest X.env)) :
    EvL X e (spliced (backTo pos (starEach (a :: rest) X.env))) (p :: ps) e₂ := hb ▸ EvL.cons h h2

theorem Ex.castF {t : Sem Flow} {f g : PF} (h : Ex X e t f e₁) (hf : f = g) : Ex X e t g e₁ := hf ▸ h
theorem Ex.castE {t : Sem Flow} {f : PF} (h : Ex X e t f e₁) (he : e₁ = e₂) : Ex X e t f e₂ := he ▸ h
theorem Ev.castP {t : Sem Value} (h : Ev X e t p e₁) (hf : p = q) : Ev X e t q e₁ := hf ▸ h
/-! an if whose test is known -/
theorem Ex.ifT {test : Expr} {body orelse : List Stmt} {pos : Pos} {b : Bool} {f : PF} (h : Ts X e (isTrue test X.env (eval test X.env)) b e₁) (hb : b = true) (h1 : Ex X e₁ (execs body X.env) f e₂) : Ex X e (exec (.If test body orelse pos) X.env) f e₂ :=
  Ex.if h (fun _ => h1) (fun h => by rw [hb] at h; cases h)
theorem Ex.ifF {test : Expr} {body orelse : List Stmt} {pos : Pos} {b : Bool} {f : PF} (h : Ts X e (isTrue test X.env (eval test X.env)) b e₁) (hb : b = false) (h1 : Ex X e₁ (execs orelse X.env) f e₂) : Ex X e (exec (.If test body orelse pos) X.env) f e₂ :=
  Ex.if h (fun h => by rw [hb] at h; cases h) (fun _ => h1)
theorem seqIndex_nat {j n : Nat} (h : j < n) : seqIndex? (j : Int) n = some j := by
  unfold seqIndex?
  have h1 : ¬ ((j : Int) < 0) := by omega
  rw [if_neg h1]
  show (if (decide (0 ≤ (j : Int)) && decide ((j : Int) < (n : Int))) = true then some (j : Int).toNat else none) = some j
  rw [if_pos (by rw [Bool.and_eq_true, decide_eq_true_eq, decide_eq_true_eq]; omega)]
  rfl
theorem item_ints {c : List Int} {z : Int} {j : Nat} (hz : z = j) (hj : j < c.length) (hb : c.length ≤ 2 ^ 20) : Item X (.tuple (c.map PV.int)) (.int z) (.int (c.getD j 0)) := by
  subst hz
  refine Item.tuple (j := j) (seqIndex_nat (by simpa using hj)) ?_ ⟨by omega, by omega⟩
  rw [List.getElem?_map]
  simp [List.getD, hj]
theorem Turns.allNext {B : PV → PEnv → PF → PEnv → Prop} {α : Type} {a : PEnv} (g : α → PV) : ∀ (xs : List α), (∀ y ∈ xs, B (g y) a .next a) → Turns B (xs.map g) a .next a
  | [], _ => .done
  | y :: ys, h => .next (h y List.mem_cons_self) (Turns.allNext g ys fun z hz => h z (List.mem_cons_of_mem _ hz))
theorem Turns.someRet {B : PV → PEnv → PF → PEnv → Prop} {α : Type} {a b : PEnv} {v : PV} (g : α → PV) (good : α → Bool) : ∀ (xs : List α), (∀ y ∈ xs, good y = true → B (g y) a .next a) → (∀ y ∈ xs, good y = false → B (g y) a (.ret v) b) → xs.all good = false → Turns B (xs.map g) a (.ret v) b
  | [], _, _, h => by simp at h
  | y :: ys, h1, h2, h => by
    cases hg : good y with
    | true =>
      rw [List.all_cons, hg, Bool.true_and] at h
      exact .next (h1 y List.mem_cons_self hg) (Turns.someRet g good ys (fun z hz => h1 z (List.mem_cons_of_mem _ hz)) (fun z hz => h2 z (List.mem_cons_of_mem _ hz)) h)
    | false => exact .ret (h2 y List.mem_cons_self hg)
/-- body of a loop: names of the body are forgotten -/
theorem Turns.foldMap {B : PV → PEnv → PF → PEnv → Prop} {σ α : Type} (env : σ → PEnv) (step : σ → α → σ) (I : σ → Prop) (g : α → PV) : ∀ (xs : List α) (st : σ), I st → (∀ st y, y ∈ xs → I st → B (g y) (env st) .next (env (step st y)) ∧ I (step st y)) → Turns B (xs.map g) (env st) .next (env (xs.foldl step st)) ∧ I (xs.foldl step st)
  | [], st, hI, _ => ⟨.done, hI⟩
  | y :: ys, st, hI, h => by
    obtain ⟨h1, h2⟩ := h st y List.mem_cons_self hI
    obtain ⟨h3, h4⟩ := Turns.foldMap env step I g ys (step st y) h2 fun st' z hz => h st' z (List.mem_cons_of_mem _ hz)
    exact ⟨.next h1 h3, h4⟩
end

theorem b_len : bootBuiltins "len" = some (.builtin "len") := by kernel_rfl
theorem b_max : bootBuiltins "max" = some (.builtin "max") := by kernel_rfl
theorem b_range : bootBuiltins "range" = some (.type "range") := by kernel_rfl
theorem b_tuple : bootBuiltins "tuple" = some (.type "tuple") := by kernel_rfl
theorem b_zip : bootBuiltins "zip" = some (.type "zip") := by kernel_rfl
end Mine
end

section
open PySem PySem.W PyProof.Rows PySem.Calls
set_option Elab.async false
set_option linter.unusedVariables false
set_option maxRecDepth 100000
namespace Mine

theorem ISEOF_ok (i : Int) : Fn KF 1 (.ref 131) [.int i] (.bool (i == 0)) := by
  refine Fn.intro' [(17, .local), (68, .globalImplicit)] [17] ["x"] (fun K w h => fd_131 h) rfl rfl rfl (by decide +kernel) (by decide +kernel) (by decide +kernel) rfl (by decide) rfl (fun X hn hK hs => ?_)
  · obtain ⟨t, ht⟩ := k_END hK
    exact ⟨_, Ex.stop (Ex.ret (Ev.cmp (Ev.name (i := 17) rfl rfl rfl rfl) (Ev.gT (i := 68) rfl rfl ht (fun _ _ => rep_int)) Cmp.eqInt rfl)) (by intro h; cases h)⟩

/-- the text that quotedata gives -/
def quoted (x : Str) : Str := mkS (F1 (mkS (F2 x.cps 0)).cps 0)
theorem quotedata_ok (x : Str) (hx : x.cps.size ≤ 2 ^ 18) (h2 : (F2 x.cps 0).length ≤ 2 ^ 20) (h1 : (quoted x).cps.size ≤ 2 ^ 22) : Fn KF 1 (.ref 55) [.str x] (.str (quoted x)) := by
  refine Fn.intro' [(1, .local), (64, .globalImplicit), (65, .globalImplicit), (66, .globalImplicit)] [1] ["data"] (fun K w h => fd_55 h) rfl rfl rfl (by decide +kernel) (by decide +kernel) (by decide +kernel) rfl (by decide) rfl (fun X hn hK hs => ?_)
  · obtain ⟨t, ht⟩ := k_CRLF hK
    have e0 : (quoted x).cps.size = (F1 (mkS (F2 x.cps 0)).cps 0).length := rfl
    refine ⟨?e', ?h⟩
    case h =>
      refine' Ex.stop (Ex.ret (Ev.sub1 (r := "..") (F := F1) (code := c1) (pa := 43) (ca := 42) ?h1 ?h2 pat1 (by decide +kernel) ?h3 ?h4 (pat_1 hK) rfl rfl rfl)) (by intro h; cases h)
      case h1 => exact Ev.gT (i := 65) rfl rfl (k_re1 hK) (fun _ _ => rep_raw)
      case h2 =>
        refine' Ar.s2 ?a ?b rfl
        case a => exact Ev.cstr
        case b =>
          refine' Ev.sub1 (r := "\r\n") (F := F2) (code := c2) (pa := 48) (ca := 47) ?g1 ?g2 pat2 (by decide +kernel) ?g3 ?g4 (pat_2 hK) rfl rfl rfl
          case g1 => exact Ev.gT (i := 66) rfl rfl (k_re2 hK) (fun _ _ => rep_raw)
          case g2 =>
            refine' Ar.s2 ?a1 ?b1 rfl
            case a1 => exact Ev.gT (i := 64) rfl rfl ht (fun _ _ => rep_str)
            case b1 => exact Ev.name (i := 1) rfl rfl rfl rfl
          case g3 => omega
          case g4 => omega
      case h3 => exact Nat.le_trans h2 (by decide)
      case h4 =>
        have : (F1 (mkS (F2 x.cps 0)).cps 0).length ≤ 2 ^ 22 := e0 ▸ h1
        omega
end Mine
end

section
open PySem PySem.W PyProof.Rows PySem.Calls
set_option Elab.async false
set_option linter.unusedVariables false
set_option maxRecDepth 100000
set_option maxHeartbeats 4000000
namespace Mine
local macro_rules | `(tactic| walk_at "num") => `(tactic| first | omega | (simp; omega) | decide | assumption)
local macro_rules | `(tactic| walk_at "bin") => `(tactic| first | exact Bin.addInt | exact Bin.subInt | exact Bin.modInt (by walk_at "num") | exact Bin.divInt (by walk_at "num") (by walk_at "num") | exact Bin.mulInt (by walk_at "num") (by walk_at "num") | exact Bin.addStr (by walk_at "num") | exact Bin.addList (by walk_at "num") | exact Bin.mulOne (by walk_at "num") (by walk_at "num") rfl)
local macro_rules | `(tactic| walk_at "cmp") => `(tactic| first | exact Cmp.eqInt | exact Cmp.neInt | exact Cmp.ltInt | exact Cmp.leInt | exact Cmp.gtInt | exact Cmp.geInt | exact Cmp.eqStr | exact Cmp.neStr | exact Cmp.isBool)
local macro_rules | `(tactic| walk_at "call") => `(tactic| first | exact Calls.lenList (by walk_at "num") | exact Calls.lenTuple (by walk_at "num") | exact Calls.range1 | exact Calls.range2 | exact Calls.max2 | exact Calls.tupleList (by walk_at "num"))
variable (w : World)
section
variable {K : Frag} {w : World}
theorem callee_quotedata (hK : KF K w) : Callee K (.ref 55) := .top _ (k_k_quotedata hK)
theorem callee_Whitespace (hK : KF K w) : Callee K (.ref 117) := .top _ (k_k_Whitespace hK)
theorem callee_ISEOF (hK : KF K w) : Callee K (.ref 131) := .top _ (k_k_ISEOF hK)
theorem callee_rows (hK : KF K w) : Callee K (.ref 136) := .top _ (k_k_rows hK)
theorem callee_lead (hK : KF K w) : Callee K (.ref 143) := .top _ (k_k_lead hK)
theorem callee_page (hK : KF K w) : Callee K (.ref 148) := .top _ (k_k_page hK)
end

/-- an object of Whitespace -/
abbrev WS (raw : Str) (n nt : Int) (c : List Int) (b : Int) (sm : Bool) : PV := .inst 117 ["raw", "n", "nt", "norm", "is_simple"] [.str raw, .int n, .int nt, .tuple [.tuple (c.map PV.int), .int b], .bool sm]

theorem longest_ok (raw : Str) (n nt : Int) (c : List Int) (b : Int) (sm : Bool) (hc : c.length ≤ 2 ^ 20) : Fn KF 1 (.ref 79) [WS raw n nt c b sm] (.int (max ((c.length : Int) - 1) b)) := by
  refine Fn.intro' [(2, .local), (6, .local), (11, .local), (61, .globalImplicit), (57, .globalImplicit)] [2] ["self"] (fun K w h => fd_79 h) rfl rfl rfl (by decide +kernel) (by decide +kernel) (by decide +kernel) rfl (by decide) rfl (fun X hn hK hs => ?_)
  · refine' ⟨?e', Ex.castF ?h ?eq⟩
    case h =>
      refine' Ex.cons ?s4a ?s4b
      case s4a =>
        refine' Ex.unpack (is := [6, 11]) ?u2a ?u2b ?u2c rfl rfl rfl rfl
        case u2a =>
          refine' Ev.attr (C := 117) (j := 3) ?y1x1 (cls_W hK) (k_no_norm hK) ?y1x2 ?y1x3 ?y1x4 ?y1x5
          case y1x1 =>
            exact Ev.name (i := 2) rfl rfl rfl rfl
          case y1x2 =>
            exact rfl
          case y1x3 =>
            exact rfl
          case y1x4 =>
            exact rfl
          case y1x5 =>
            decide
        case u2b => exact Tgts.cons (Tgt.assign rfl rfl rfl) (Tgts.cons (Tgt.assign rfl rfl rfl) (Tgts.nil))
        case u2c => rfl
      case s4b =>
        refine' Ex.stop ?s5a ?s5b
        case s5a =>
          refine' Ex.ret ?y3x13
          case y3x13 =>
            refine' Ev.call ?y3x10 (Callee.builtin "max") ?y3x11 ?y3x12 rfl
            case y3x10 =>
              exact Ev.bT (i := 61) rfl rfl (k_max hK) b_max (by decide)
            case y3x11 =>
              refine' Ar.s2 ?y3x8 ?y3x9 rfl
              case y3x8 =>
                refine' Ev.binop ?y3x5 ?y3x6 ?y3x7
                case y3x5 =>
                  refine' Ev.call ?y3x2 (Callee.builtin "len") ?y3x3 ?y3x4 rfl
                  case y3x2 =>
                    exact Ev.bT (i := 57) rfl rfl (k_len hK) b_len (by decide)
                  case y3x3 =>
                    refine' Ar.s1 ?y3x1 rfl
                    case y3x1 =>
                      exact Ev.name (i := 6) rfl rfl rfl rfl
                  case y3x4 =>
                    walk_at "call"
                case y3x6 =>
                  exact Ev.cint
                case y3x7 =>
                  walk_at "bin"
              case y3x9 =>
                exact Ev.name (i := 11) rfl rfl rfl rfl
            case y3x12 =>
              walk_at "call"
        case s5b => (intro h; cases h)
    case eq =>
      simp only [List.length_map]

/-- the data of an object's norm -/
abbrev NormPV (c : List Int) (b : Int) : PV := .tuple [.tuple (c.map PV.int), .int b]
theorem isPdL_ints : ∀ c : List Int, isPdL (c.map PV.int) = true
  | [] => rfl
  | _ :: r => by rw [List.map_cons]; unfold isPdL; rw [isPdL_ints r]; rfl
theorem isPd_norm (c : List Int) (b : Int) : (NormPV c b).isPd = true := by
  unfold PV.isPd isPdL PV.isPd
  rw [isPdL_ints]; rfl
theorem depth_ints : ∀ c : List Int, PyData.depthAll (pdL (c.map PV.int)) = 0
  | [] => rfl
  | _ :: r => by rw [List.map_cons]; unfold pdL PyData.depthAll; rw [depth_ints r]; rfl
theorem depth_norm (c : List Int) (b : Int) : (NormPV c b).pd.depth = 2 := by
  unfold PV.pd pdL PV.pd PyData.depth PyData.depthAll PyData.depth
  rw [depth_ints]; rfl
theorem equal_ok (raw raw' : Str) (n nt n' nt' : Int) (c c' : List Int) (b b' : Int) (sm sm' : Bool) : Fn KF 1 (.ref 93) [WS raw n nt c b sm, WS raw' n' nt' c' b' sm'] (.bool (eqP (NormPV c b) (NormPV c' b'))) := by
  refine Fn.intro' [(2, .local), (15, .local)] [2, 15] ["self", "other"] (fun K w h => fd_93 h) rfl rfl rfl (by decide +kernel) (by decide +kernel) (by decide +kernel) rfl (by decide) rfl (fun X hn hK hs => ?_)
  · refine' ⟨?e', Ex.castF ?h ?eq⟩
    case h =>
      refine' Ex.stop ?s7a ?s7b
      case s7a =>
        refine' Ex.ret ?y6x14
        case y6x14 =>
          refine' Ev.cmp ?y6x11 ?y6x12 ?y6x13 rfl
          case y6x11 =>
            refine' Ev.attr (C := 117) (j := 3) ?y6x1 (cls_W hK) (k_no_norm hK) ?y6x2 ?y6x3 ?y6x4 ?y6x5
            case y6x1 =>
              exact Ev.name (i := 2) rfl rfl rfl rfl
            case y6x2 =>
              exact rfl
            case y6x3 =>
              exact rfl
            case y6x4 =>
              exact rfl
            case y6x5 =>
              decide
          case y6x12 =>
            refine' Ev.attr (C := 117) (j := 3) ?y6x6 (cls_W hK) (k_no_norm hK) ?y6x7 ?y6x8 ?y6x9 ?y6x10
            case y6x6 =>
              exact Ev.name (i := 15) rfl rfl rfl rfl
            case y6x7 =>
              exact rfl
            case y6x8 =>
              exact rfl
            case y6x9 =>
              exact rfl
            case y6x10 =>
              decide
          case y6x13 =>
            exact Cmp.eqPd (isPd_norm _ _) (isPd_norm _ _) (by rw [depth_norm]; omega)
      case s7b => (intro h; cases h)
    case eq =>
      rfl

/-- the inner sum of indent_level -/
def ilv (c : List Int) (ts : Nat) : Int := (List.range (c.length - ts)).foldl (fun il i => il + ((ts : Int) + (i : Nat)) / (ts : Int) * c.getD (ts + i) 0) 0
theorem indent_ok (raw : Str) (n nt : Int) (c : List Int) (b : Int) (sm : Bool) (ts : Nat) (hc : c.length ≤ 2 ^ 20) (h1 : 0 < ts) (h2 : ts ≤ 2 ^ 20) : Fn KF 1 (.ref 86) [WS raw n nt c b sm, .int ts] (.int (b + ts * (ilv c ts + nt))) := by
  refine Fn.intro' [(2, .local), (12, .local), (6, .local), (11, .local), (13, .local), (14, .local), (58, .globalImplicit), (57, .globalImplicit)] [2, 12] ["self", "tabsize"] (fun K w h => fd_86 h) rfl rfl rfl (by decide +kernel) (by decide +kernel) (by decide +kernel) rfl (by decide) rfl (fun X hn hK hs => ?_)
  · refine' ⟨?e', Ex.castF ?h ?eq⟩
    case h =>
      refine' Ex.cons ?s14a ?s14b
      case s14a =>
        refine' Ex.unpack (is := [6, 11]) ?u11a ?u11b ?u11c rfl rfl rfl rfl
        case u11a =>
          refine' Ev.attr (C := 117) (j := 3) ?y10x1 (cls_W hK) (k_no_norm hK) ?y10x2 ?y10x3 ?y10x4 ?y10x5
          case y10x1 =>
            exact Ev.name (i := 2) rfl rfl rfl rfl
          case y10x2 =>
            exact rfl
          case y10x3 =>
            exact rfl
          case y10x4 =>
            exact rfl
          case y10x5 =>
            decide
        case u11b => exact Tgts.cons (Tgt.assign rfl rfl rfl) (Tgts.cons (Tgt.assign rfl rfl rfl) (Tgts.nil))
        case u11c => rfl
      case s14b =>
        refine' Ex.cons ?s15a ?s15b
        case s15a =>
          refine' Ex.assign (i := 13) ?y12x1 rfl rfl rfl rfl
          case y12x1 =>
            exact Ev.cint
        case s15b =>
          refine' Ex.cons ?s16a ?s16b
          case s16a =>
            refine' Ex.for (t := 14) ?f1 (Iters.rng ?f2 ?f3 ?f4 ?f5) rfl rfl rfl ?f6 (fun _ => rfl)
            case f1 =>
              refine' Ev.call ?y9x7 (Callee.type "range") ?y9x8 ?y9x9 rfl
              case y9x7 =>
                exact Ev.bT (i := 58) rfl rfl (k_range hK) b_range (by decide)
              case y9x8 =>
                refine' Ar.s2 ?y9x5 ?y9x6 rfl
                case y9x5 =>
                  exact Ev.name (i := 12) rfl rfl rfl rfl
                case y9x6 =>
                  refine' Ev.call ?y9x2 (Callee.builtin "len") ?y9x3 ?y9x4 rfl
                  case y9x2 =>
                    exact Ev.bT (i := 57) rfl rfl (k_len hK) b_len (by decide)
                  case y9x3 =>
                    refine' Ar.s1 ?y9x1 rfl
                    case y9x1 =>
                      exact Ev.name (i := 6) rfl rfl rfl rfl
                  case y9x4 =>
                    walk_at "call"
              case y9x9 =>
                walk_at "call"
            case f2 => omega
            case f3 => omega
            case f4 => (simp only [List.length_map]; omega)
            case f5 => (simp only [List.length_map]; omega)
            case f6 =>
              have ek : (((c.map PV.int).length : Int) - (ts : Int)).toNat = c.length - ts := by simp only [List.length_map]; omega
              rw [ek]
              exact (Turns.foldMap (fun il : Int => [(2, .val (WS raw n nt c b sm)), (12, .val (.int ts)), (6, .val (.tuple (c.map PV.int))), (11, .val (.int b)), (13, .val (.int il))]) (fun il i => il + ((ts : Int) + (i : Nat)) / (ts : Int) * c.getD (ts + i) 0) (fun _ => True) (fun i => .int ((ts : Int) + (i : Nat))) (List.range (c.length - ts)) 0 trivial
                (fun il i hi _ => ⟨fun l => by
                  have hi' : i < c.length - ts := List.mem_range.mp hi
                  have d1 : (0 : Int) < (ts : Int) := by omega
                  have d2 : (ts : Int) < 2 ^ 64 := by omega
                  have z1 : (ts : Int) + (i : Nat) = ((ts + i : Nat) : Int) := by omega
                  have z2 : ts + i < c.length := by omega
                  have q1 : 0 ≤ ((ts : Int) + (i : Nat)) / (ts : Int) := Int.ediv_nonneg (by omega) (by omega)
                  have q2 : ((ts : Int) + (i : Nat)) / (ts : Int) ≤ (ts : Int) + (i : Nat) := Int.ediv_le_self _ (by omega)
                  have q3 : -(2 ^ 64) < ((ts : Int) + (i : Nat)) / (ts : Int) := Int.lt_of_lt_of_le (by decide) q1
                  have q4 : ((ts : Int) + (i : Nat)) / (ts : Int) < 2 ^ 64 := Int.lt_of_le_of_lt q2 (by omega)
                  refine Ex.sub (e₁ := ?g1) ?g2 ?g3
                  rotate_left
                  · refine' Ex.cons ?g4 Ex.nil
                    case g4 =>
                      refine' Ex.assign (i := 13) ?y8x13 rfl rfl rfl rfl
                      case y8x13 =>
                        refine' Ev.binop ?y8x10 ?y8x11 ?y8x12
                        case y8x10 =>
                          exact Ev.name (i := 13) rfl rfl rfl rfl
                        case y8x11 =>
                          refine' Ev.binop ?y8x7 ?y8x8 ?y8x9
                          case y8x7 =>
                            refine' Ev.binop ?y8x1 ?y8x2 ?y8x3
                            case y8x1 =>
                              exact Ev.name (i := 14) rfl rfl rfl rfl
                            case y8x2 =>
                              exact Ev.name (i := 12) rfl rfl rfl rfl
                            case y8x3 =>
                              exact Bin.divInt d1 d2
                          case y8x8 =>
                            refine' Ev.sub ?y8x4 ?y8x5 ?y8x6 (fun _ _ => rfl)
                            case y8x4 =>
                              exact Ev.name (i := 6) rfl rfl rfl rfl
                            case y8x5 =>
                              exact Ev.name (i := 14) rfl rfl rfl rfl
                            case y8x6 =>
                              exact item_ints (j := ts + i) z1 z2 hc
                          case y8x9 =>
                            exact Bin.mulInt q3 q4
                        case y8x12 =>
                          exact Bin.addInt
                  · exact Sub.cons rfl (Sub.cons rfl (Sub.cons rfl (Sub.cons rfl (Sub.cons rfl Sub.nil)))), trivial⟩)).1
          case s16b =>
            refine' Ex.stop ?s17a ?s17b
            case s17a =>
              refine' Ex.ret ?y13x15
              case y13x15 =>
                refine' Ev.binop ?y13x12 ?y13x13 ?y13x14
                case y13x12 =>
                  exact Ev.name (i := 11) rfl rfl rfl rfl
                case y13x13 =>
                  refine' Ev.binop ?y13x9 ?y13x10 ?y13x11
                  case y13x9 =>
                    exact Ev.name (i := 12) rfl rfl rfl rfl
                  case y13x10 =>
                    refine' Ev.binop ?y13x6 ?y13x7 ?y13x8
                    case y13x6 =>
                      exact Ev.name (i := 13) rfl rfl rfl rfl
                    case y13x7 =>
                      refine' Ev.attr (C := 117) (j := 2) ?y13x1 (cls_W hK) (k_no_nt hK) ?y13x2 ?y13x3 ?y13x4 ?y13x5
                      case y13x1 =>
                        exact Ev.name (i := 2) rfl rfl rfl rfl
                      case y13x2 =>
                        exact rfl
                      case y13x3 =>
                        exact rfl
                      case y13x4 =>
                        exact rfl
                      case y13x5 =>
                        decide
                    case y13x8 =>
                      walk_at "bin"
                  case y13x11 =>
                    walk_at "bin"
                case y13x14 =>
                  walk_at "bin"
            case s17b => (intro h; cases h)
    case eq =>
      rfl

/-- what less answers -/
def lessN (c c' : List Int) (b b' : Int) : Int := max (max ((c.length : Int) - 1) b) (max ((c'.length : Int) - 1) b') + 1
def lessV (n nt n' nt' : Int) (c c' : List Int) (b b' : Int) (sm sm' : Bool) : Bool :=
  if n' ≤ n then false else if (sm && sm') = true then decide (nt ≤ nt') else (List.range (lessN c c' b b' + 1 - 2).toNat).all fun i => decide (b + ((i + 2 : Nat) : Int) * (ilv c (i + 2) + nt) < b' + ((i + 2 : Nat) : Int) * (ilv c' (i + 2) + nt'))
section
variable {raw raw' : Str} {n nt n' nt' : Int} {c c' : List Int} {b b' : Int} {sm sm' : Bool}
theorem rng_shift (k : Nat) : rngL 2 k = (List.range k).map fun i => PV.int ((i + 2 : Nat) : Int) := by
  unfold rngL
  refine List.map_congr_left fun i _ => ?_
  congr 1; omega
theorem less_ok (hc : c.length ≤ 2 ^ 19) (hc' : c'.length ≤ 2 ^ 19) (hb : b ≤ 2 ^ 19) (hb' : b' ≤ 2 ^ 19) : Fn KF 2 (.ref 107) [WS raw n nt c b sm, WS raw' n' nt' c' b' sm'] (.bool (lessV n nt n' nt' c c' b b' sm sm')) := by
  refine Fn.intro' [(2, .local), (15, .local), (8, .local), (16, .local), (61, .globalImplicit), (58, .globalImplicit)] [2, 15] ["self", "other"] (fun K w h => fd_107 h) rfl rfl rfl (by decide +kernel) (by decide +kernel) (by decide +kernel) rfl (by decide) rfl (fun X hn hK hs => ?_)
  · by_cases hA : n' ≤ n
    · refine' ⟨?e1q, Ex.castF ?h1q ?eq1q⟩
      case h1q =>
        refine' Ex.stop ?s23a ?s23b
        case s23a =>
          refine' Ex.ifT ?i22a ?i22b ?i22c
          case i22a =>
            refine' Ts.cmp ?y19x11 ?y19x12 ?y19x13 rfl
            case y19x11 =>
              refine' Ev.attr (C := 117) (j := 1) ?y19x1 (cls_W hK) (k_no_n hK) ?y19x2 ?y19x3 ?y19x4 ?y19x5
              case y19x1 =>
                exact Ev.name (i := 2) rfl rfl rfl rfl
              case y19x2 =>
                exact rfl
              case y19x3 =>
                exact rfl
              case y19x4 =>
                exact rfl
              case y19x5 =>
                decide
            case y19x12 =>
              refine' Ev.attr (C := 117) (j := 1) ?y19x6 (cls_W hK) (k_no_n hK) ?y19x7 ?y19x8 ?y19x9 ?y19x10
              case y19x6 =>
                exact Ev.name (i := 15) rfl rfl rfl rfl
              case y19x7 =>
                exact rfl
              case y19x8 =>
                exact rfl
              case y19x9 =>
                exact rfl
              case y19x10 =>
                decide
            case y19x13 =>
              walk_at "cmp"
          case i22b =>
            simp [hA]
          case i22c =>
            refine' Ex.stop ?s21a ?s21b
            case s21a =>
              refine' Ex.ret ?y20x1
              case y20x1 =>
                exact Ev.cbool
            case s21b => (intro h; cases h)
        case s23b => (intro h; cases h)
      case eq1q => (unfold lessV; rw [if_pos hA])
    · by_cases hB : (sm && sm') = true
      · refine' ⟨?e2q, Ex.castF ?h2q ?eq2q⟩
        case h2q =>
          refine' Ex.cons ?s30a ?s30b
          case s30a =>
            refine' Ex.ifF ?i25a ?i25b ?i25c
            case i25a =>
              refine' Ts.cmp ?y24x11 ?y24x12 ?y24x13 rfl
              case y24x11 =>
                refine' Ev.attr (C := 117) (j := 1) ?y24x1 (cls_W hK) (k_no_n hK) ?y24x2 ?y24x3 ?y24x4 ?y24x5
                case y24x1 =>
                  exact Ev.name (i := 2) rfl rfl rfl rfl
                case y24x2 =>
                  exact rfl
                case y24x3 =>
                  exact rfl
                case y24x4 =>
                  exact rfl
                case y24x5 =>
                  decide
              case y24x12 =>
                refine' Ev.attr (C := 117) (j := 1) ?y24x6 (cls_W hK) (k_no_n hK) ?y24x7 ?y24x8 ?y24x9 ?y24x10
                case y24x6 =>
                  exact Ev.name (i := 15) rfl rfl rfl rfl
                case y24x7 =>
                  exact rfl
                case y24x8 =>
                  exact rfl
                case y24x9 =>
                  exact rfl
                case y24x10 =>
                  decide
              case y24x13 =>
                walk_at "cmp"
            case i25b =>
              simp; omega
            case i25c =>
              exact Ex.nil
          case s30b =>
            refine' Ex.stop ?s31a ?s31b
            case s31a =>
              refine' Ex.ifT ?i29a ?i29b ?i29c
              case i29a =>
                refine' Ts.and ?y26x15 (fun _ => ?y26x16) (fun _ => rfl)
                case y26x15 =>
                  refine' Ts.bool ?y26x6 rfl
                  case y26x6 =>
                    refine' Ev.attr (C := 117) (j := 4) ?y26x1 (cls_W hK) (k_no_is_simple hK) ?y26x2 ?y26x3 ?y26x4 ?y26x5
                    case y26x1 =>
                      exact Ev.name (i := 2) rfl rfl rfl rfl
                    case y26x2 =>
                      exact rfl
                    case y26x3 =>
                      exact rfl
                    case y26x4 =>
                      exact rfl
                    case y26x5 =>
                      decide
                case y26x16 =>
                  refine' Ts.and ?y26x13 (fun _ => ?y26x14) (fun _ => rfl)
                  case y26x13 =>
                    refine' Ts.bool ?y26x12 rfl
                    case y26x12 =>
                      refine' Ev.attr (C := 117) (j := 4) ?y26x7 (cls_W hK) (k_no_is_simple hK) ?y26x8 ?y26x9 ?y26x10 ?y26x11
                      case y26x7 =>
                        exact Ev.name (i := 15) rfl rfl rfl rfl
                      case y26x8 =>
                        exact rfl
                      case y26x9 =>
                        exact rfl
                      case y26x10 =>
                        exact rfl
                      case y26x11 =>
                        decide
                  case y26x14 =>
                    exact Ts.andNil
              case i29b =>
                simpa using hB
              case i29c =>
                refine' Ex.stop ?s28a ?s28b
                case s28a =>
                  refine' Ex.ret ?y27x14
                  case y27x14 =>
                    refine' Ev.cmp ?y27x11 ?y27x12 ?y27x13 rfl
                    case y27x11 =>
                      refine' Ev.attr (C := 117) (j := 2) ?y27x1 (cls_W hK) (k_no_nt hK) ?y27x2 ?y27x3 ?y27x4 ?y27x5
                      case y27x1 =>
                        exact Ev.name (i := 2) rfl rfl rfl rfl
                      case y27x2 =>
                        exact rfl
                      case y27x3 =>
                        exact rfl
                      case y27x4 =>
                        exact rfl
                      case y27x5 =>
                        decide
                    case y27x12 =>
                      refine' Ev.attr (C := 117) (j := 2) ?y27x6 (cls_W hK) (k_no_nt hK) ?y27x7 ?y27x8 ?y27x9 ?y27x10
                      case y27x6 =>
                        exact Ev.name (i := 15) rfl rfl rfl rfl
                      case y27x7 =>
                        exact rfl
                      case y27x8 =>
                        exact rfl
                      case y27x9 =>
                        exact rfl
                      case y27x10 =>
                        decide
                    case y27x13 =>
                      walk_at "cmp"
                case s28b => (intro h; cases h)
            case s31b => (intro h; cases h)
        case eq2q => (unfold lessV; rw [if_neg hA, if_pos hB])
      · have hN : lessN c c' b b' = max (max ((c.length : Int) - 1) b) (max ((c'.length : Int) - 1) b') + 1 := rfl
        have hN1 : lessN c c' b b' ≤ 2 ^ 19 + 1 := by rw [hN]; omega
        have hN0 : 0 ≤ lessN c c' b b' := by rw [hN]; omega
        have hni : ∀ i : Nat, i ∈ List.range (lessN c c' b b' + 1 - 2).toNat → i + 2 ≤ 2 ^ 20 := fun i hi => by
          have := List.mem_range.mp hi
          omega
        by_cases hall : ((List.range (lessN c c' b b' + 1 - 2).toNat).all fun i => decide (b + ((i + 2 : Nat) : Int) * (ilv c (i + 2) + nt) < b' + ((i + 2 : Nat) : Int) * (ilv c' (i + 2) + nt'))) = true
        · refine' ⟨?e3q, Ex.castF ?h3q ?eq3q⟩
          case h3q =>
            refine' Ex.cons ?s42a ?s42b
            case s42a =>
              refine' Ex.ifF ?i36a ?i36b ?i36c
              case i36a =>
                refine' Ts.cmp ?y35x11 ?y35x12 ?y35x13 rfl
                case y35x11 =>
                  refine' Ev.attr (C := 117) (j := 1) ?y35x1 (cls_W hK) (k_no_n hK) ?y35x2 ?y35x3 ?y35x4 ?y35x5
                  case y35x1 =>
                    exact Ev.name (i := 2) rfl rfl rfl rfl
                  case y35x2 =>
                    exact rfl
                  case y35x3 =>
                    exact rfl
                  case y35x4 =>
                    exact rfl
                  case y35x5 =>
                    decide
                case y35x12 =>
                  refine' Ev.attr (C := 117) (j := 1) ?y35x6 (cls_W hK) (k_no_n hK) ?y35x7 ?y35x8 ?y35x9 ?y35x10
                  case y35x6 =>
                    exact Ev.name (i := 15) rfl rfl rfl rfl
                  case y35x7 =>
                    exact rfl
                  case y35x8 =>
                    exact rfl
                  case y35x9 =>
                    exact rfl
                  case y35x10 =>
                    decide
                case y35x13 =>
                  walk_at "cmp"
              case i36b =>
                simp; omega
              case i36c =>
                exact Ex.nil
            case s42b =>
              refine' Ex.cons ?s43a ?s43b
              case s43a =>
                refine' Ex.ifF ?i38a ?i38b ?i38c
                case i38a =>
                  refine' Ts.and ?y37x15 (fun _ => ?y37x16) (fun _ => rfl)
                  case y37x15 =>
                    refine' Ts.bool ?y37x6 rfl
                    case y37x6 =>
                      refine' Ev.attr (C := 117) (j := 4) ?y37x1 (cls_W hK) (k_no_is_simple hK) ?y37x2 ?y37x3 ?y37x4 ?y37x5
                      case y37x1 =>
                        exact Ev.name (i := 2) rfl rfl rfl rfl
                      case y37x2 =>
                        exact rfl
                      case y37x3 =>
                        exact rfl
                      case y37x4 =>
                        exact rfl
                      case y37x5 =>
                        decide
                  case y37x16 =>
                    refine' Ts.and ?y37x13 (fun _ => ?y37x14) (fun _ => rfl)
                    case y37x13 =>
                      refine' Ts.bool ?y37x12 rfl
                      case y37x12 =>
                        refine' Ev.attr (C := 117) (j := 4) ?y37x7 (cls_W hK) (k_no_is_simple hK) ?y37x8 ?y37x9 ?y37x10 ?y37x11
                        case y37x7 =>
                          exact Ev.name (i := 15) rfl rfl rfl rfl
                        case y37x8 =>
                          exact rfl
                        case y37x9 =>
                          exact rfl
                        case y37x10 =>
                          exact rfl
                        case y37x11 =>
                          decide
                    case y37x14 =>
                      exact Ts.andNil
                case i38b =>
                  simpa using hB
                case i38c =>
                  exact Ex.nil
              case s43b =>
                refine' Ex.cons ?s44a ?s44b
                case s44a =>
                  refine' Ex.assign (i := 8) ?y32x17 rfl rfl rfl rfl
                  case y32x17 =>
                    refine' Ev.binop ?y32x14 ?y32x15 ?y32x16
                    case y32x14 =>
                      refine' Ev.call ?y32x11 (Callee.builtin "max") ?y32x12 ?y32x13 rfl
                      case y32x11 =>
                        exact Ev.bT (i := 61) rfl rfl (k_max hK) b_max (by decide)
                      case y32x12 =>
                        refine' Ar.s2 ?y32x9 ?y32x10 rfl
                        case y32x9 =>
                          refine' Ev.methI (C := 117) (fa := 79) ?y32x1 ?y32x2 (cls_W hK) (k_m_longest_run_of_spaces hK) (k_t_longest_run_of_spaces hK) (k_k_longest_run_of_spaces hK) ?y32x3 ?y32x4 rfl rfl rfl
                          case y32x1 =>
                            exact Ev.name (i := 2) rfl rfl rfl rfl
                          case y32x2 =>
                            exact Ar.s0
                          case y32x3 =>
                            decide
                          case y32x4 =>
                            exact Fn.calls (longest_ok _ _ _ _ _ _ (by omega)) (by omega) hK
                        case y32x10 =>
                          refine' Ev.methI (C := 117) (fa := 79) ?y32x5 ?y32x6 (cls_W hK) (k_m_longest_run_of_spaces hK) (k_t_longest_run_of_spaces hK) (k_k_longest_run_of_spaces hK) ?y32x7 ?y32x8 rfl rfl rfl
                          case y32x5 =>
                            exact Ev.name (i := 15) rfl rfl rfl rfl
                          case y32x6 =>
                            exact Ar.s0
                          case y32x7 =>
                            decide
                          case y32x8 =>
                            exact Fn.calls (longest_ok _ _ _ _ _ _ (by omega)) (by omega) hK
                      case y32x13 =>
                        walk_at "call"
                    case y32x15 =>
                      exact Ev.cint
                    case y32x16 =>
                      walk_at "bin"
                case s44b =>
                  refine' Ex.cons ?s45a ?s45b
                  case s45a =>
                    refine' Ex.for (t := 16) ?f39a (Iters.rng ?f39b ?f39c ?f39d ?f39e) rfl rfl rfl ?f39f (fun _ => rfl)
                    case f39a =>
                      refine' Ev.call ?y40x6 (Callee.type "range") ?y40x7 ?y40x8 rfl
                      case y40x6 =>
                        exact Ev.bT (i := 58) rfl rfl (k_range hK) b_range (by decide)
                      case y40x7 =>
                        refine' Ar.s2 ?y40x4 ?y40x5 rfl
                        case y40x4 =>
                          exact Ev.cint
                        case y40x5 =>
                          refine' Ev.binop ?y40x1 ?y40x2 ?y40x3
                          case y40x1 =>
                            exact Ev.name (i := 8) rfl rfl rfl rfl
                          case y40x2 =>
                            exact Ev.cint
                          case y40x3 =>
                            walk_at "bin"
                      case y40x8 =>
                        walk_at "call"
                    case f39b => decide
                    case f39c => decide
                    case f39d => (rw [← hN]; omega)
                    case f39e => (rw [← hN]; omega)
                    case f39f =>
                      rw [← hN, rng_shift]
                      exact Turns.allNext (a := [(2, .val (WS raw n nt c b sm)), (15, .val (WS raw' n' nt' c' b' sm')), (8, .val (.int (lessN c c' b b')))]) (fun i => PV.int ((i + 2 : Nat) : Int)) _ (fun i hi l => by
                        have hg := of_decide_eq_true (List.all_eq_true.mp hall i hi)
                        refine Ex.sub (e₁ := ?g1) ?g2 ?g3
                        rotate_left
                        · refine' Ex.cons ?g4 Ex.nil
                          case g4 =>
                            refine' Ex.ifF ?i34a ?i34b ?i34c
                            case i34a =>
                              refine' Ts.cmp ?y33x11 ?y33x12 ?y33x13 rfl
                              case y33x11 =>
                                refine' Ev.methI (C := 117) (fa := 86) ?y33x2 ?y33x3 (cls_W hK) (k_m_indent_level hK) (k_t_indent_level hK) (k_k_indent_level hK) ?y33x4 ?y33x5 rfl rfl rfl
                                case y33x2 =>
                                  exact Ev.name (i := 2) rfl rfl rfl rfl
                                case y33x3 =>
                                  refine' Ar.s1 ?y33x1 rfl
                                  case y33x1 =>
                                    exact Ev.name (i := 16) rfl rfl rfl rfl
                                case y33x4 =>
                                  decide
                                case y33x5 =>
                                  exact Fn.calls (indent_ok _ _ _ _ _ _ (i + 2) (by omega) (by omega) (hni i hi)) (Nat.le_of_eq hn.symm) hK
                              case y33x12 =>
                                refine' Ev.methI (C := 117) (fa := 86) ?y33x7 ?y33x8 (cls_W hK) (k_m_indent_level hK) (k_t_indent_level hK) (k_k_indent_level hK) ?y33x9 ?y33x10 rfl rfl rfl
                                case y33x7 =>
                                  exact Ev.name (i := 15) rfl rfl rfl rfl
                                case y33x8 =>
                                  refine' Ar.s1 ?y33x6 rfl
                                  case y33x6 =>
                                    exact Ev.name (i := 16) rfl rfl rfl rfl
                                case y33x9 =>
                                  decide
                                case y33x10 =>
                                  exact Fn.calls (indent_ok _ _ _ _ _ _ (i + 2) (by omega) (by omega) (hni i hi)) (Nat.le_of_eq hn.symm) hK
                              case y33x13 =>
                                walk_at "cmp"
                            case i34b =>
                              exact decide_eq_false (by omega)
                            case i34c =>
                              exact Ex.nil
                        · exact Sub.cons rfl (Sub.cons rfl (Sub.cons rfl Sub.nil)))
                  case s45b =>
                    refine' Ex.stop ?s46a ?s46b
                    case s46a =>
                      refine' Ex.ret ?y41x1
                      case y41x1 =>
                        exact Ev.cbool
                    case s46b => (intro h; cases h)
          case eq3q => (unfold lessV; rw [if_neg hA, if_neg hB, hall])
        · rw [Bool.not_eq_true] at hall
          refine' ⟨?e4q, Ex.castF ?h4q ?eq4q⟩
          case h4q =>
            refine' Ex.cons ?s60a ?s60b
            case s60a =>
              refine' Ex.ifF ?i55a ?i55b ?i55c
              case i55a =>
                refine' Ts.cmp ?y54x11 ?y54x12 ?y54x13 rfl
                case y54x11 =>
                  refine' Ev.attr (C := 117) (j := 1) ?y54x1 (cls_W hK) (k_no_n hK) ?y54x2 ?y54x3 ?y54x4 ?y54x5
                  case y54x1 =>
                    exact Ev.name (i := 2) rfl rfl rfl rfl
                  case y54x2 =>
                    exact rfl
                  case y54x3 =>
                    exact rfl
                  case y54x4 =>
                    exact rfl
                  case y54x5 =>
                    decide
                case y54x12 =>
                  refine' Ev.attr (C := 117) (j := 1) ?y54x6 (cls_W hK) (k_no_n hK) ?y54x7 ?y54x8 ?y54x9 ?y54x10
                  case y54x6 =>
                    exact Ev.name (i := 15) rfl rfl rfl rfl
                  case y54x7 =>
                    exact rfl
                  case y54x8 =>
                    exact rfl
                  case y54x9 =>
                    exact rfl
                  case y54x10 =>
                    decide
                case y54x13 =>
                  walk_at "cmp"
              case i55b =>
                simp; omega
              case i55c =>
                exact Ex.nil
            case s60b =>
              refine' Ex.cons ?s61a ?s61b
              case s61a =>
                refine' Ex.ifF ?i57a ?i57b ?i57c
                case i57a =>
                  refine' Ts.and ?y56x15 (fun _ => ?y56x16) (fun _ => rfl)
                  case y56x15 =>
                    refine' Ts.bool ?y56x6 rfl
                    case y56x6 =>
                      refine' Ev.attr (C := 117) (j := 4) ?y56x1 (cls_W hK) (k_no_is_simple hK) ?y56x2 ?y56x3 ?y56x4 ?y56x5
                      case y56x1 =>
                        exact Ev.name (i := 2) rfl rfl rfl rfl
                      case y56x2 =>
                        exact rfl
                      case y56x3 =>
                        exact rfl
                      case y56x4 =>
                        exact rfl
                      case y56x5 =>
                        decide
                  case y56x16 =>
                    refine' Ts.and ?y56x13 (fun _ => ?y56x14) (fun _ => rfl)
                    case y56x13 =>
                      refine' Ts.bool ?y56x12 rfl
                      case y56x12 =>
                        refine' Ev.attr (C := 117) (j := 4) ?y56x7 (cls_W hK) (k_no_is_simple hK) ?y56x8 ?y56x9 ?y56x10 ?y56x11
                        case y56x7 =>
                          exact Ev.name (i := 15) rfl rfl rfl rfl
                        case y56x8 =>
                          exact rfl
                        case y56x9 =>
                          exact rfl
                        case y56x10 =>
                          exact rfl
                        case y56x11 =>
                          decide
                    case y56x14 =>
                      exact Ts.andNil
                case i57b =>
                  simpa using hB
                case i57c =>
                  exact Ex.nil
              case s61b =>
                refine' Ex.cons ?s62a ?s62b
                case s62a =>
                  refine' Ex.assign (i := 8) ?y53x17 rfl rfl rfl rfl
                  case y53x17 =>
                    refine' Ev.binop ?y53x14 ?y53x15 ?y53x16
                    case y53x14 =>
                      refine' Ev.call ?y53x11 (Callee.builtin "max") ?y53x12 ?y53x13 rfl
                      case y53x11 =>
                        exact Ev.bT (i := 61) rfl rfl (k_max hK) b_max (by decide)
                      case y53x12 =>
                        refine' Ar.s2 ?y53x9 ?y53x10 rfl
                        case y53x9 =>
                          refine' Ev.methI (C := 117) (fa := 79) ?y53x1 ?y53x2 (cls_W hK) (k_m_longest_run_of_spaces hK) (k_t_longest_run_of_spaces hK) (k_k_longest_run_of_spaces hK) ?y53x3 ?y53x4 rfl rfl rfl
                          case y53x1 =>
                            exact Ev.name (i := 2) rfl rfl rfl rfl
                          case y53x2 =>
                            exact Ar.s0
                          case y53x3 =>
                            decide
                          case y53x4 =>
                            exact Fn.calls (longest_ok _ _ _ _ _ _ (by omega)) (by omega) hK
                        case y53x10 =>
                          refine' Ev.methI (C := 117) (fa := 79) ?y53x5 ?y53x6 (cls_W hK) (k_m_longest_run_of_spaces hK) (k_t_longest_run_of_spaces hK) (k_k_longest_run_of_spaces hK) ?y53x7 ?y53x8 rfl rfl rfl
                          case y53x5 =>
                            exact Ev.name (i := 15) rfl rfl rfl rfl
                          case y53x6 =>
                            exact Ar.s0
                          case y53x7 =>
                            decide
                          case y53x8 =>
                            exact Fn.calls (longest_ok _ _ _ _ _ _ (by omega)) (by omega) hK
                      case y53x13 =>
                        walk_at "call"
                    case y53x15 =>
                      exact Ev.cint
                    case y53x16 =>
                      walk_at "bin"
                case s62b =>
                  refine' Ex.stop ?s63a ?s63b
                  case s63a =>
                    refine' Ex.for (t := 16) ?f58a (Iters.rng ?f58b ?f58c ?f58d ?f58e) rfl rfl rfl ?f58f (fun _ => rfl)
                    case f58a =>
                      refine' Ev.call ?y59x6 (Callee.type "range") ?y59x7 ?y59x8 rfl
                      case y59x6 =>
                        exact Ev.bT (i := 58) rfl rfl (k_range hK) b_range (by decide)
                      case y59x7 =>
                        refine' Ar.s2 ?y59x4 ?y59x5 rfl
                        case y59x4 =>
                          exact Ev.cint
                        case y59x5 =>
                          refine' Ev.binop ?y59x1 ?y59x2 ?y59x3
                          case y59x1 =>
                            exact Ev.name (i := 8) rfl rfl rfl rfl
                          case y59x2 =>
                            exact Ev.cint
                          case y59x3 =>
                            walk_at "bin"
                      case y59x8 =>
                        walk_at "call"
                    case f58b => decide
                    case f58c => decide
                    case f58d => (rw [← hN]; omega)
                    case f58e => (rw [← hN]; omega)
                    case f58f =>
                      rw [← hN, rng_shift]
                      exact Turns.someRet (a := [(2, .val (WS raw n nt c b sm)), (15, .val (WS raw' n' nt' c' b' sm')), (8, .val (.int (lessN c c' b b')))]) (b := [(2, .val (WS raw n nt c b sm)), (15, .val (WS raw' n' nt' c' b' sm')), (8, .val (.int (lessN c c' b b')))]) (fun i => PV.int ((i + 2 : Nat) : Int)) (fun i => decide (b + ((i + 2 : Nat) : Int) * (ilv c (i + 2) + nt) < b' + ((i + 2 : Nat) : Int) * (ilv c' (i + 2) + nt'))) _ (fun i hi hg l => by
                        have hg := of_decide_eq_true hg
                        refine Ex.sub (e₁ := ?p1) ?p2 ?p3
                        rotate_left
                        · refine' Ex.cons ?p4 Ex.nil
                          case p4 =>
                            refine' Ex.ifF ?i48a ?i48b ?i48c
                            case i48a =>
                              refine' Ts.cmp ?y47x11 ?y47x12 ?y47x13 rfl
                              case y47x11 =>
                                refine' Ev.methI (C := 117) (fa := 86) ?y47x2 ?y47x3 (cls_W hK) (k_m_indent_level hK) (k_t_indent_level hK) (k_k_indent_level hK) ?y47x4 ?y47x5 rfl rfl rfl
                                case y47x2 =>
                                  exact Ev.name (i := 2) rfl rfl rfl rfl
                                case y47x3 =>
                                  refine' Ar.s1 ?y47x1 rfl
                                  case y47x1 =>
                                    exact Ev.name (i := 16) rfl rfl rfl rfl
                                case y47x4 =>
                                  decide
                                case y47x5 =>
                                  exact Fn.calls (indent_ok _ _ _ _ _ _ (i + 2) (by omega) (by omega) (hni i hi)) (Nat.le_of_eq hn.symm) hK
                              case y47x12 =>
                                refine' Ev.methI (C := 117) (fa := 86) ?y47x7 ?y47x8 (cls_W hK) (k_m_indent_level hK) (k_t_indent_level hK) (k_k_indent_level hK) ?y47x9 ?y47x10 rfl rfl rfl
                                case y47x7 =>
                                  exact Ev.name (i := 15) rfl rfl rfl rfl
                                case y47x8 =>
                                  refine' Ar.s1 ?y47x6 rfl
                                  case y47x6 =>
                                    exact Ev.name (i := 16) rfl rfl rfl rfl
                                case y47x9 =>
                                  decide
                                case y47x10 =>
                                  exact Fn.calls (indent_ok _ _ _ _ _ _ (i + 2) (by omega) (by omega) (hni i hi)) (Nat.le_of_eq hn.symm) hK
                              case y47x13 =>
                                walk_at "cmp"
                            case i48b =>
                              exact decide_eq_false (by omega)
                            case i48c =>
                              exact Ex.nil
                        · exact Sub.cons rfl (Sub.cons rfl (Sub.cons rfl Sub.nil))) (fun i hi hg l => by
                        have hg := of_decide_eq_false hg
                        refine Ex.sub (e₁ := ?k1) ?k2 ?k3
                        rotate_left
                        · refine' Ex.stop ?k4 (by intro h; cases h)
                          case k4 =>
                            refine' Ex.ifT ?i52a ?i52b ?i52c
                            case i52a =>
                              refine' Ts.cmp ?y49x11 ?y49x12 ?y49x13 rfl
                              case y49x11 =>
                                refine' Ev.methI (C := 117) (fa := 86) ?y49x2 ?y49x3 (cls_W hK) (k_m_indent_level hK) (k_t_indent_level hK) (k_k_indent_level hK) ?y49x4 ?y49x5 rfl rfl rfl
                                case y49x2 =>
                                  exact Ev.name (i := 2) rfl rfl rfl rfl
                                case y49x3 =>
                                  refine' Ar.s1 ?y49x1 rfl
                                  case y49x1 =>
                                    exact Ev.name (i := 16) rfl rfl rfl rfl
                                case y49x4 =>
                                  decide
                                case y49x5 =>
                                  exact Fn.calls (indent_ok _ _ _ _ _ _ (i + 2) (by omega) (by omega) (hni i hi)) (Nat.le_of_eq hn.symm) hK
                              case y49x12 =>
                                refine' Ev.methI (C := 117) (fa := 86) ?y49x7 ?y49x8 (cls_W hK) (k_m_indent_level hK) (k_t_indent_level hK) (k_k_indent_level hK) ?y49x9 ?y49x10 rfl rfl rfl
                                case y49x7 =>
                                  exact Ev.name (i := 15) rfl rfl rfl rfl
                                case y49x8 =>
                                  refine' Ar.s1 ?y49x6 rfl
                                  case y49x6 =>
                                    exact Ev.name (i := 16) rfl rfl rfl rfl
                                case y49x9 =>
                                  decide
                                case y49x10 =>
                                  exact Fn.calls (indent_ok _ _ _ _ _ _ (i + 2) (by omega) (by omega) (hni i hi)) (Nat.le_of_eq hn.symm) hK
                              case y49x13 =>
                                walk_at "cmp"
                            case i52b =>
                              exact decide_eq_true (by omega)
                            case i52c =>
                              refine' Ex.stop ?s51a ?s51b
                              case s51a =>
                                refine' Ex.ret ?y50x1
                                case y50x1 =>
                                  exact Ev.cbool
                              case s51b => (intro h; cases h)
                        · exact Sub.cons rfl (Sub.cons rfl (Sub.cons rfl Sub.nil))) hall
                  case s63b => (intro h; cases h)
          case eq4q => (unfold lessV; rw [if_neg hA, if_neg hB, hall])
end
end Mine
end

section
open PySem PySem.W PyProof.Rows PySem.Calls
set_option Elab.async false
set_option linter.unusedVariables false
set_option maxRecDepth 100000
set_option maxHeartbeats 4000000
namespace Mine
local macro_rules | `(tactic| walk_at "num") => `(tactic| first | omega | (simp; omega) | decide | assumption)
local macro_rules | `(tactic| walk_at "bin") => `(tactic| first | exact Bin.addInt | exact Bin.subInt | exact Bin.modInt (by walk_at "num") | exact Bin.divInt (by walk_at "num") (by walk_at "num") | exact Bin.mulInt (by walk_at "num") (by walk_at "num") | exact Bin.addStr (by walk_at "num") | exact Bin.addList (by walk_at "num") | exact Bin.mulOne (by walk_at "num") (by walk_at "num") rfl)
local macro_rules | `(tactic| walk_at "cmp") => `(tactic| first | exact Cmp.eqInt | exact Cmp.neInt | exact Cmp.ltInt | exact Cmp.leInt | exact Cmp.gtInt | exact Cmp.geInt | exact Cmp.eqStr | exact Cmp.neStr | exact Cmp.isBool)
local macro_rules | `(tactic| walk_at "call") => `(tactic| first | exact Calls.lenList (by walk_at "num") | exact Calls.lenTuple (by walk_at "num") | exact Calls.range1 | exact Calls.range2 | exact Calls.max2 | exact Calls.tupleList (by walk_at "num"))

theorem chr_ne {c d : Nat} (h : c ≠ d) : ((⟨#[c]⟩ : Str) == (⟨#[d]⟩ : Str)) = false := by
  rw [beq_eq_false_iff_ne]
  intro q
  injection q with q
  injection q with q
  injection q with q _
  exact h q

/-- what __init__ counts: n, nt, b, count -/
abbrev WSt := Nat × Nat × Nat × List Int
def bump (c : List Int) (b : Nat) : List Int := let d := if b < c.length then c else c ++ List.replicate (b - c.length + 1) 0; d.set b (d.getD b 0 + 1)
def wsGo : List Nat → WSt → WSt
  | [], st => st
  | c :: r, (n, nt, b, k) => if c = 32 then wsGo r (n + 1, nt, b + 1, k) else if c = 9 then wsGo r (n + 1, nt + 1, 0, bump k b) else (n, nt, b, k)
def wsEnv (xb : Addr) (raw : Str) : WSt → PEnv := fun (n, nt, b, k) => [(2, .obj xb 117 ["raw"] [.str raw]), (3, .val (.str raw)), (5, .val (.str "\t")), (4, .val (.str " ")), (6, .own (k.map PV.int)), (7, .val (.int b)), (8, .val (.int n)), (9, .val (.int nt))]
theorem all_ints : ∀ k : List Int, (k.map PV.int).all PV.atom = true
  | [] => rfl
  | _ :: r => by rw [List.map_cons, List.all_cons, all_ints r]; rfl
theorem all_rep (n : Nat) : (List.replicate n (PV.int 0)).all PV.atom = true := by
  induction n with
  | zero => rfl
  | succ n ih => rw [List.replicate_succ, List.all_cons, ih]; rfl
theorem map_grow (k : List Int) (m : Nat) : (k ++ List.replicate m 0).map PV.int = k.map PV.int ++ List.replicate m (PV.int 0) := by rw [List.map_append, List.map_replicate]
theorem item_at {d : List Int} {b : Nat} (h : b < d.length) : (d.map PV.int)[b]? = some (PV.int (d.getD b 0)) := by
  rw [List.getElem?_map]
  simp [List.getD, h]
theorem bump_length {c : List Int} {b : Nat} : (bump c b).length = if b < c.length then c.length else b + 1 := by
  unfold bump
  split <;> simp
  omega
theorem Turns.castE {B : PV → PEnv → PF → PEnv → Prop} {xs : List PV} {a b c : PEnv} {f : PF} (h : Turns B xs a f b) (e : b = c) : Turns B xs a f c := e ▸ h
theorem ws_turns {B : PV → PEnv → PF → PEnv → Prop} {xb : Addr} {raw : Str} {N : Nat} (sp : ∀ n nt b k, b ≤ N → B (.str ⟨#[32]⟩) (wsEnv xb raw (n, nt, b, k)) .next (wsEnv xb raw (n + 1, nt, b + 1, k)))
    (tb : ∀ n nt b k, b ≤ N → k.length ≤ N + 1 → B (.str ⟨#[9]⟩) (wsEnv xb raw (n, nt, b, k)) .next (wsEnv xb raw (n + 1, nt + 1, 0, bump k b))) (ot : ∀ c n nt b k, c ≠ 32 → c ≠ 9 → B (.str ⟨#[c]⟩) (wsEnv xb raw (n, nt, b, k)) .brk (wsEnv xb raw (n, nt, b, k))) :
    ∀ (cs : List Nat) (n nt b : Nat) (k : List Int) (m : Nat), b ≤ m → k.length ≤ m + 1 → m + cs.length ≤ N → Turns B (cs.map fun c => .str ⟨#[c]⟩) (wsEnv xb raw (n, nt, b, k)) .next (wsEnv xb raw (wsGo cs (n, nt, b, k)))
  | [], n, nt, b, k, m, _, _, _ => .done
  | c :: r, n, nt, b, k, m, h1, h2, h3 => by
    rw [List.length_cons] at h3
    unfold wsGo
    by_cases hc : c = 32
    · subst hc
      rw [if_pos rfl]
      exact .next (sp n nt b k (by omega)) (ws_turns sp tb ot r (n + 1) nt (b + 1) k (m + 1) (by omega) (by omega) (by omega))
    · rw [if_neg hc]
      by_cases hd : c = 9
      · subst hd
        rw [if_pos rfl]
        refine .next (tb n nt b k (by omega) (by omega)) (ws_turns sp tb ot r (n + 1) (nt + 1) 0 (bump k b) (m + 1) (by omega) ?_ (by omega))
        rw [bump_length]; split <;> omega
      · rw [if_neg hd]
        exact .brk (ot c n nt b k hc hd)

section
variable {X : Fx [(2, .local), (3, .local), (4, .local), (5, .local), (6, .local), (7, .local), (8, .local), (9, .local), (10, .local), (62, .globalImplicit), (57, .globalImplicit), (60, .globalImplicit)]}
theorem init_ok (raw : Str) (hx : raw.cps.size ≤ 2 ^ 18) (n nt b : Nat) (k : List Int) (hgo : wsGo raw.cps.toList (0, 0, 0, []) = (n, nt, b, k)) (hk : k.length ≤ 2 ^ 19) : FnI KF 1 72 117 [.str raw] ["raw", "n", "nt", "norm", "is_simple"] [.str raw, .int n, .int nt, .tuple [.tuple (k.map PV.int), .int b], .bool (decide ((k.length : Int) ≤ 1))] := by
  refine FnI.intro' [(2, .local), (3, .local), (4, .local), (5, .local), (6, .local), (7, .local), (8, .local), (9, .local), (10, .local), (62, .globalImplicit), (57, .globalImplicit), (60, .globalImplicit)] [3] ["ws"] (fun K w h => fd_72 h) rfl rfl rfl (by decide +kernel) (by decide +kernel) (by decide +kernel) rfl (by decide) rfl (fun X hn hK hs xb => ?_)
  · obtain ⟨tS, hS⟩ := k_S hK
    obtain ⟨tT, hT⟩ := k_T hK
    refine' ⟨?e', ?h, ?hl⟩
    case h =>
      refine' Ex.cons ?s61a ?s61b
      case s61a =>
        refine' Ex.setAttr (i := 2) ?y60x1 rfl rfl rfl ?y60x2 (cls_W hK) (k_tk_raw hK) ?y60x3 ?y60x4 rfl
        case y60x1 =>
          exact Ev.name (i := 3) rfl rfl rfl rfl
        case y60x2 =>
          exact rfl
        case y60x3 =>
          decide
        case y60x4 =>
          decide
      case s61b =>
        refine' Ex.cons ?s62a ?s62b
        case s62a =>
          refine' Ex.unpackS (names := ["S", "T"]) (is := [5, 4]) ?un1 ?un2 ?un3 rfl rfl ?un4
          case un1 =>
            refine' Ev.tuple ?y14x7 ?y14x8
            case y14x7 =>
              refine' EvL.sc ?y14x5 ?y14x6 rfl
              case y14x5 =>
                refine' Ev.attrCls (C := 117) ?y14x1 (k_reads hK) hS rfl (fun _ _ => rep_str)
                case y14x1 =>
                  exact Ev.gT (i := 62) rfl rfl (k_Whitespace hK) (fun _ _ => rep_raw)
              case y14x6 =>
                refine' EvL.sc ?y14x3 ?y14x4 rfl
                case y14x3 =>
                  refine' Ev.attrCls (C := 117) ?y14x2 (k_reads hK) hT rfl (fun _ _ => rep_str)
                  case y14x2 =>
                    exact Ev.gT (i := 62) rfl rfl (k_Whitespace hK) (fun _ _ => rep_raw)
                case y14x4 =>
                  exact EvL.s0
            case y14x8 =>
              decide
          case un2 => exact Tgts.cons (Tgt.bind rfl rfl rfl) (Tgts.cons (Tgt.bind rfl rfl rfl) Tgts.nil)
          case un3 => rfl
          case un4 => (simp only [swappedStores, Env.blockKind, Env.kindOf, hs]; rfl)
        case s62b =>
          refine' Ex.cons ?s63a ?s63b
          case s63a =>
            exact Ex.assignOwn (i := 6) EvF.nil rfl rfl rfl rfl
          case s63b =>
            refine' Ex.cons ?s64a ?s64b
            case s64a =>
              exact Ex.assign3 (i := 7) (j := 8) (l := 9) Ev.cint rfl rfl rfl rfl rfl rfl rfl rfl rfl rfl
            case s64b =>
              refine' Ex.cons ?s65a ?s65b
              case s65a =>
                refine' Ex.for (t := 10) ?lf1 Iters.str rfl rfl rfl ?lf2 (fun _ => rfl)
                case lf1 =>
                  refine' Ev.attrObj (i := 2) (j := 0) rfl rfl rfl rfl (cls_W hK) (k_no_raw hK) ?y15x1 ?y15x2 ?y15x3 ?y15x4
                  case y15x1 =>
                    exact rfl
                  case y15x2 =>
                    exact rfl
                  case y15x3 =>
                    exact rfl
                  case y15x4 =>
                    decide
                case lf2 =>
                  refine' Turns.castE (ws_turns (xb := xb) (raw := raw) (N := 2 ^ 18) ?lsp ?ltb ?lot raw.cps.toList 0 0 0 [] 0 (Nat.le_refl _) (Nat.zero_le _) (by simpa using hx)) (show wsEnv xb raw (wsGo raw.cps.toList (0, 0, 0, [])) = wsEnv xb raw (n, nt, b, k) by rw [hgo])
                  case lsp =>
                    intro n nt b k hb l
                    refine Ex.sub (e₁ := ?lg1) ?lg2 ?lg3
                    rotate_left
                    · refine' Ex.cons ?s7a ?s7b
                      case s7a =>
                        refine' Ex.ifT ?i6a ?i6b ?i6c
                        case i6a =>
                          refine' Ts.cmp ?y5x1 ?y5x2 ?y5x3 rfl
                          case y5x1 =>
                            exact Ev.name (i := 10) rfl rfl rfl rfl
                          case y5x2 =>
                            exact Ev.name (i := 4) rfl rfl rfl rfl
                          case y5x3 =>
                            walk_at "cmp"
                        case i6b =>
                          rfl
                        case i6c =>
                          refine' Ex.cons ?s3a ?s3b
                          case s3a =>
                            refine' Ex.assign (i := 8) ?y1x4 rfl rfl rfl rfl
                            case y1x4 =>
                              refine' Ev.binop ?y1x1 ?y1x2 ?y1x3
                              case y1x1 =>
                                exact Ev.name (i := 8) rfl rfl rfl rfl
                              case y1x2 =>
                                exact Ev.cint
                              case y1x3 =>
                                walk_at "bin"
                          case s3b =>
                            refine' Ex.cons ?s4a ?s4b
                            case s4a =>
                              refine' Ex.assign (i := 7) ?y2x4 rfl rfl rfl rfl
                              case y2x4 =>
                                refine' Ev.binop ?y2x1 ?y2x2 ?y2x3
                                case y2x1 =>
                                  exact Ev.name (i := 7) rfl rfl rfl rfl
                                case y2x2 =>
                                  exact Ev.cint
                                case y2x3 =>
                                  walk_at "bin"
                            case s4b =>
                              exact Ex.nil
                      case s7b =>
                        exact Ex.nil
                    · exact Sub.cons rfl (Sub.cons rfl (Sub.cons rfl (Sub.cons rfl (Sub.cons rfl (Sub.cons rfl (Sub.cons rfl (Sub.cons rfl Sub.nil)))))))
                  case ltb =>
                    intro n nt b k hb hkl l
                    by_cases hg : b < k.length
                    · have hbd := hg
                      have hbump : bump k b = k.set b (k.getD b 0 + 1) := by unfold bump; rw [if_pos hg]
                      refine Ex.sub (e₁ := ?ng1) ?ng2 ?ng3
                      rotate_left
                      · refine' Ex.cons ?s32a ?s32b
                        case s32a =>
                          refine' Ex.ifF ?i31a ?i31b ?i31c
                          case i31a =>
                            refine' Ts.cmp ?y18x1 ?y18x2 ?y18x3 rfl
                            case y18x1 =>
                              exact Ev.name (i := 10) rfl rfl rfl rfl
                            case y18x2 =>
                              exact Ev.name (i := 4) rfl rfl rfl rfl
                            case y18x3 =>
                              walk_at "cmp"
                          case i31b =>
                            rfl
                          case i31c =>
                            refine' Ex.cons ?s30a ?s30b
                            case s30a =>
                              refine' Ex.ifT ?i29a ?i29b ?i29c
                              case i29a =>
                                refine' Ts.cmp ?y19x1 ?y19x2 ?y19x3 rfl
                                case y19x1 =>
                                  exact Ev.name (i := 10) rfl rfl rfl rfl
                                case y19x2 =>
                                  exact Ev.name (i := 5) rfl rfl rfl rfl
                                case y19x3 =>
                                  walk_at "cmp"
                              case i29b =>
                                rfl
                              case i29c =>
                                refine' Ex.cons ?s24a ?s24b
                                case s24a =>
                                  refine' Ex.assign (i := 8) ?y20x4 rfl rfl rfl rfl
                                  case y20x4 =>
                                    refine' Ev.binop ?y20x1 ?y20x2 ?y20x3
                                    case y20x1 =>
                                      exact Ev.name (i := 8) rfl rfl rfl rfl
                                    case y20x2 =>
                                      exact Ev.cint
                                    case y20x3 =>
                                      walk_at "bin"
                                case s24b =>
                                  refine' Ex.cons ?s25a ?s25b
                                  case s25a =>
                                    refine' Ex.assign (i := 9) ?y21x4 rfl rfl rfl rfl
                                    case y21x4 =>
                                      refine' Ev.binop ?y21x1 ?y21x2 ?y21x3
                                      case y21x1 =>
                                        exact Ev.name (i := 9) rfl rfl rfl rfl
                                      case y21x2 =>
                                        exact Ev.cint
                                      case y21x3 =>
                                        walk_at "bin"
                                  case s25b =>
                                    refine' Ex.cons ?s26a ?s26b
                                    case s26a =>
                                      refine' Ex.ifF ?i17a ?i17b ?i17c
                                      case i17a =>
                                        refine' Ts.cmp ?y16x4 ?y16x5 ?y16x6 rfl
                                        case y16x4 =>
                                          exact Ev.name (i := 7) rfl rfl rfl rfl
                                        case y16x5 =>
                                          refine' Ev.callOwn (i := 6) ?y16x1 (Callee.builtin "len") rfl rfl rfl rfl ?y16x2 ?y16x3 rfl
                                          case y16x1 =>
                                            exact Ev.bT (i := 57) rfl rfl (k_len hK) b_len (by decide)
                                          case y16x2 =>
                                            exact Calls.lenList (by rw [List.length_map]; omega)
                                          case y16x3 =>
                                            exact rfl
                                        case y16x6 =>
                                          walk_at "cmp"
                                      case i17b =>
                                        exact decide_eq_false (by rw [List.length_map]; omega)
                                      case i17c =>
                                        exact Ex.nil
                                    case s26b =>
                                      refine' Ex.cons ?s27a ?s27b
                                      case s27a =>
                                        refine' Ex.setItem (i := 6) ?y22x8 rfl rfl rfl ?y22x9 ?y22x10 ?y22x11 ?y22x12 rfl
                                        case y22x8 =>
                                          refine' Ev.binop ?y22x5 ?y22x6 ?y22x7
                                          case y22x5 =>
                                            refine' Ev.itemOwn (i := 6) rfl rfl rfl rfl ?y22x1 ?y22x2 ?y22x3 ?y22x4 (fun _ _ => rfl)
                                            case y22x1 =>
                                              exact Ev.name (i := 7) rfl rfl rfl rfl
                                            case y22x2 =>
                                              exact seqIndex_nat (by rw [List.length_map]; exact hbd)
                                            case y22x3 =>
                                              exact item_at hbd
                                            case y22x4 =>
                                              (first | (rw [List.length_map, List.length_append, List.length_replicate]; omega) | (rw [List.length_map]; omega) | omega)
                                          case y22x6 =>
                                            exact Ev.cint
                                          case y22x7 =>
                                            walk_at "bin"
                                        case y22x9 =>
                                          exact rfl
                                        case y22x10 =>
                                          exact Ev.name (i := 7) rfl rfl rfl rfl
                                        case y22x11 =>
                                          (first | (rw [List.length_map, List.length_append, List.length_replicate]; omega) | (rw [List.length_map]; omega) | omega)
                                        case y22x12 =>
                                          (first | (rw [List.length_map, List.length_append, List.length_replicate]; omega) | (rw [List.length_map]; omega) | omega)
                                      case s27b =>
                                        refine' Ex.cons ?s28a ?s28b
                                        case s28a =>
                                          refine' Ex.assign (i := 7) ?y23x1 rfl rfl rfl rfl
                                          case y23x1 =>
                                            exact Ev.cint
                                        case s28b =>
                                          exact Ex.nil
                            case s30b =>
                              exact Ex.nil
                        case s32b =>
                          exact Ex.nil
                      · refine Sub.cons rfl (Sub.cons rfl (Sub.cons rfl (Sub.cons rfl (Sub.cons ?ns1 (Sub.cons rfl (Sub.cons rfl (Sub.cons rfl Sub.nil)))))))
                        show some (Slot.own _) = some (Slot.own _)
                        rw [hbump, List.map_set]
                    · have hbd : b < (k ++ List.replicate (b - k.length + 1) (0 : Int)).length := by simp; omega
                      have hbump : bump k b = (k ++ List.replicate (b - k.length + 1) (0 : Int)).set b ((k ++ List.replicate (b - k.length + 1) (0 : Int)).getD b 0 + 1) := by unfold bump; rw [if_neg hg]
                      refine Ex.sub (e₁ := ?og1) ?og2 ?og3
                      rotate_left
                      · refine' Ex.cons ?s51a ?s51b
                        case s51a =>
                          refine' Ex.ifF ?i50a ?i50b ?i50c
                          case i50a =>
                            refine' Ts.cmp ?y37x1 ?y37x2 ?y37x3 rfl
                            case y37x1 =>
                              exact Ev.name (i := 10) rfl rfl rfl rfl
                            case y37x2 =>
                              exact Ev.name (i := 4) rfl rfl rfl rfl
                            case y37x3 =>
                              walk_at "cmp"
                          case i50b =>
                            rfl
                          case i50c =>
                            refine' Ex.cons ?s49a ?s49b
                            case s49a =>
                              refine' Ex.ifT ?i48a ?i48b ?i48c
                              case i48a =>
                                refine' Ts.cmp ?y38x1 ?y38x2 ?y38x3 rfl
                                case y38x1 =>
                                  exact Ev.name (i := 10) rfl rfl rfl rfl
                                case y38x2 =>
                                  exact Ev.name (i := 5) rfl rfl rfl rfl
                                case y38x3 =>
                                  walk_at "cmp"
                              case i48b =>
                                rfl
                              case i48c =>
                                refine' Ex.cons ?s43a ?s43b
                                case s43a =>
                                  refine' Ex.assign (i := 8) ?y39x4 rfl rfl rfl rfl
                                  case y39x4 =>
                                    refine' Ev.binop ?y39x1 ?y39x2 ?y39x3
                                    case y39x1 =>
                                      exact Ev.name (i := 8) rfl rfl rfl rfl
                                    case y39x2 =>
                                      exact Ev.cint
                                    case y39x3 =>
                                      walk_at "bin"
                                case s43b =>
                                  refine' Ex.cons ?s44a ?s44b
                                  case s44a =>
                                    refine' Ex.assign (i := 9) ?y40x4 rfl rfl rfl rfl
                                    case y40x4 =>
                                      refine' Ev.binop ?y40x1 ?y40x2 ?y40x3
                                      case y40x1 =>
                                        exact Ev.name (i := 9) rfl rfl rfl rfl
                                      case y40x2 =>
                                        exact Ev.cint
                                      case y40x3 =>
                                        walk_at "bin"
                                  case s44b =>
                                    refine' Ex.cons ?s45a ?s45b
                                    case s45a =>
                                      refine' Ex.ifT ?i36a ?i36b ?i36c
                                      case i36a =>
                                        refine' Ts.cmp ?y33x4 ?y33x5 ?y33x6 rfl
                                        case y33x4 =>
                                          exact Ev.name (i := 7) rfl rfl rfl rfl
                                        case y33x5 =>
                                          refine' Ev.callOwn (i := 6) ?y33x1 (Callee.builtin "len") rfl rfl rfl rfl ?y33x2 ?y33x3 rfl
                                          case y33x1 =>
                                            exact Ev.bT (i := 57) rfl rfl (k_len hK) b_len (by decide)
                                          case y33x2 =>
                                            exact Calls.lenList (by rw [List.length_map]; omega)
                                          case y33x3 =>
                                            exact rfl
                                        case y33x6 =>
                                          walk_at "cmp"
                                      case i36b =>
                                        exact decide_eq_true (by rw [List.length_map]; omega)
                                      case i36c =>
                                        refine' Ex.cons ?s35a ?s35b
                                        case s35a =>
                                          refine' Ex.castE ?gr0 ?gr00
                                          case gr0 =>
                                            refine' Ex.assignOwn (i := 6) ?gr1 rfl rfl rfl rfl
                                            case gr1 =>
                                              refine' EvF.addOwn (i := 6) (ps := k.map PV.int) (qs := List.replicate (b - k.length + 1) (PV.int 0)) rfl rfl rfl rfl ?gr2 (all_ints _) (all_rep _) ?gr5
                                              case gr2 =>
                                                refine' Ev.castP ?gr6 ?gr7
                                                case gr6 =>
                                                  refine' Ev.binop ?y34x14 ?y34x15 ?y34x16
                                                  case y34x14 =>
                                                    refine' Ev.list ?y34x3 ?y34x4
                                                    case y34x3 =>
                                                      refine' EvL.sc ?y34x1 ?y34x2 rfl
                                                      case y34x1 =>
                                                        exact Ev.cint
                                                      case y34x2 =>
                                                        exact EvL.s0
                                                    case y34x4 =>
                                                      walk_at "num"
                                                  case y34x15 =>
                                                    refine' Ev.binop ?y34x11 ?y34x12 ?y34x13
                                                    case y34x11 =>
                                                      refine' Ev.binop ?y34x8 ?y34x9 ?y34x10
                                                      case y34x8 =>
                                                        exact Ev.name (i := 7) rfl rfl rfl rfl
                                                      case y34x9 =>
                                                        refine' Ev.callOwn (i := 6) ?y34x5 (Callee.builtin "len") rfl rfl rfl rfl ?y34x6 ?y34x7 rfl
                                                        case y34x5 =>
                                                          exact Ev.bT (i := 57) rfl rfl (k_len hK) b_len (by decide)
                                                        case y34x6 =>
                                                          exact Calls.lenList (by rw [List.length_map]; omega)
                                                        case y34x7 =>
                                                          exact rfl
                                                      case y34x10 =>
                                                        walk_at "bin"
                                                    case y34x12 =>
                                                      exact Ev.cint
                                                    case y34x13 =>
                                                      walk_at "bin"
                                                  case y34x16 =>
                                                    walk_at "bin"
                                                case gr7 => (rw [List.length_map]; congr 2; omega)
                                              case gr5 => (rw [List.length_map, List.length_replicate]; exact Nat.le_trans (show _ ≤ 2 ^ 20 by omega) (by decide))
                                          case gr00 => (rw [← map_grow])
                                        case s35b =>
                                          exact Ex.nil
                                    case s45b =>
                                      refine' Ex.cons ?s46a ?s46b
                                      case s46a =>
                                        refine' Ex.setItem (i := 6) ?y41x8 rfl rfl rfl ?y41x9 ?y41x10 ?y41x11 ?y41x12 rfl
                                        case y41x8 =>
                                          refine' Ev.binop ?y41x5 ?y41x6 ?y41x7
                                          case y41x5 =>
                                            refine' Ev.itemOwn (i := 6) rfl rfl rfl rfl ?y41x1 ?y41x2 ?y41x3 ?y41x4 (fun _ _ => rfl)
                                            case y41x1 =>
                                              exact Ev.name (i := 7) rfl rfl rfl rfl
                                            case y41x2 =>
                                              exact seqIndex_nat (by rw [List.length_map]; exact hbd)
                                            case y41x3 =>
                                              exact item_at hbd
                                            case y41x4 =>
                                              (first | (rw [List.length_map, List.length_append, List.length_replicate]; omega) | (rw [List.length_map]; omega) | omega)
                                          case y41x6 =>
                                            exact Ev.cint
                                          case y41x7 =>
                                            walk_at "bin"
                                        case y41x9 =>
                                          exact rfl
                                        case y41x10 =>
                                          exact Ev.name (i := 7) rfl rfl rfl rfl
                                        case y41x11 =>
                                          (first | (rw [List.length_map, List.length_append, List.length_replicate]; omega) | (rw [List.length_map]; omega) | omega)
                                        case y41x12 =>
                                          (first | (rw [List.length_map, List.length_append, List.length_replicate]; omega) | (rw [List.length_map]; omega) | omega)
                                      case s46b =>
                                        refine' Ex.cons ?s47a ?s47b
                                        case s47a =>
                                          refine' Ex.assign (i := 7) ?y42x1 rfl rfl rfl rfl
                                          case y42x1 =>
                                            exact Ev.cint
                                        case s47b =>
                                          exact Ex.nil
                            case s49b =>
                              exact Ex.nil
                        case s51b =>
                          exact Ex.nil
                      · refine Sub.cons rfl (Sub.cons rfl (Sub.cons rfl (Sub.cons rfl (Sub.cons ?os1 (Sub.cons rfl (Sub.cons rfl (Sub.cons rfl Sub.nil)))))))
                        show some (Slot.own _) = some (Slot.own _)
                        rw [hbump, List.map_set]
                  case lot =>
                    intro c n nt b k hc hd l
                    refine Ex.sub (e₁ := ?mg1) ?mg2 ?mg3
                    rotate_left
                    · refine' Ex.stop ?otA ?otB
                      case otA =>
                        refine' Ex.ifF ?i11a ?i11b ?i11c
                        case i11a =>
                          refine' Ts.cmp ?y8x1 ?y8x2 ?y8x3 rfl
                          case y8x1 =>
                            exact Ev.name (i := 10) rfl rfl rfl rfl
                          case y8x2 =>
                            exact Ev.name (i := 4) rfl rfl rfl rfl
                          case y8x3 =>
                            walk_at "cmp"
                        case i11b =>
                          exact chr_ne hc
                        case i11c =>
                          refine' Ex.stop ?otE ?otF
                          case otE =>
                            refine' Ex.ifF ?i10a ?i10b ?i10c
                            case i10a =>
                              refine' Ts.cmp ?y9x1 ?y9x2 ?y9x3 rfl
                              case y9x1 =>
                                exact Ev.name (i := 10) rfl rfl rfl rfl
                              case y9x2 =>
                                exact Ev.name (i := 5) rfl rfl rfl rfl
                              case y9x3 =>
                                walk_at "cmp"
                            case i10b =>
                              exact chr_ne hd
                            case i10c =>
                              refine' Ex.stop ?otC ?otD
                              case otC => exact Ex.brk
                              case otD => (intro h; cases h)
                          case otF => (intro h; cases h)
                      case otB => (intro h; cases h)
                    · exact Sub.cons rfl (Sub.cons rfl (Sub.cons rfl (Sub.cons rfl (Sub.cons rfl (Sub.cons rfl (Sub.cons rfl (Sub.cons rfl Sub.nil)))))))
              case s65b =>
                refine' Ex.freeze (i := 6) ?fz1 (by decide) ?fz2
                case fz1 => exact rfl
                case fz2 =>
                  refine' Ex.cons ?s56a ?s56b
                  case s56a =>
                    refine' Ex.setAttr (i := 2) ?y52x1 rfl rfl rfl ?y52x2 (cls_W hK) (k_tk_n hK) ?y52x3 ?y52x4 rfl
                    case y52x1 =>
                      exact Ev.name (i := 8) rfl rfl rfl rfl
                    case y52x2 =>
                      exact rfl
                    case y52x3 =>
                      decide
                    case y52x4 =>
                      decide
                  case s56b =>
                    refine' Ex.cons ?s57a ?s57b
                    case s57a =>
                      refine' Ex.setAttr (i := 2) ?y53x1 rfl rfl rfl ?y53x2 (cls_W hK) (k_tk_nt hK) ?y53x3 ?y53x4 rfl
                      case y53x1 =>
                        exact Ev.name (i := 9) rfl rfl rfl rfl
                      case y53x2 =>
                        exact rfl
                      case y53x3 =>
                        decide
                      case y53x4 =>
                        decide
                    case s57b =>
                      refine' Ex.cons ?s58a ?s58b
                      case s58a =>
                        refine' Ex.setAttr (i := 2) ?y54x11 rfl rfl rfl ?y54x12 (cls_W hK) (k_tk_norm hK) ?y54x13 ?y54x14 rfl
                        case y54x11 =>
                          refine' Ev.tuple ?y54x9 ?y54x10
                          case y54x9 =>
                            refine' EvL.sc ?y54x7 ?y54x8 rfl
                            case y54x7 =>
                              refine' Ev.call ?y54x2 (Callee.type "tuple") ?y54x3 ?y54x4 rfl
                              case y54x2 =>
                                exact Ev.bT (i := 60) rfl rfl (k_tuple hK) b_tuple (by decide)
                              case y54x3 =>
                                refine' Ar.s1 ?y54x1 rfl
                                case y54x1 =>
                                  exact Ev.name (i := 6) rfl rfl rfl rfl
                              case y54x4 =>
                                exact Calls.tupleList (by rw [List.length_map]; exact Nat.le_trans hk (by decide))
                            case y54x8 =>
                              refine' EvL.sc ?y54x5 ?y54x6 rfl
                              case y54x5 =>
                                exact Ev.name (i := 7) rfl rfl rfl rfl
                              case y54x6 =>
                                exact EvL.s0
                          case y54x10 =>
                            exact (show 2 ≤ sizeLine by decide)
                        case y54x12 =>
                          exact rfl
                        case y54x13 =>
                          decide
                        case y54x14 =>
                          decide
                      case s58b =>
                        refine' Ex.cons ?s59a ?s59b
                        case s59a =>
                          refine' Ex.setAttr (i := 2) ?y55x8 rfl rfl rfl ?y55x9 (cls_W hK) (k_tk_is_simple hK) ?y55x10 ?y55x11 rfl
                          case y55x8 =>
                            refine' Ev.cmp ?y55x5 ?y55x6 ?y55x7 rfl
                            case y55x5 =>
                              refine' Ev.call ?y55x2 (Callee.builtin "len") ?y55x3 ?y55x4 rfl
                              case y55x2 =>
                                exact Ev.bT (i := 57) rfl rfl (k_len hK) b_len (by decide)
                              case y55x3 =>
                                refine' Ar.s1 ?y55x1 rfl
                                case y55x1 =>
                                  exact Ev.name (i := 6) rfl rfl rfl rfl
                              case y55x4 =>
                                walk_at "call"
                            case y55x6 =>
                              exact Ev.cint
                            case y55x7 =>
                              walk_at "cmp"
                          case y55x9 =>
                            exact rfl
                          case y55x10 =>
                            decide
                          case y55x11 =>
                            decide
                        case s59b =>
                          exact Ex.nil
    case hl => (rw [List.length_map]; exact rfl)
end
end Mine
end

section
open PySem PySem.W PyProof.Rows PySem.Calls
set_option Elab.async false
set_option linter.unusedVariables false
set_option maxRecDepth 100000
set_option maxHeartbeats 4000000
namespace Mine
/-- Whitespace(raw) as data -/
def wsOf (raw : Str) : PV := let st := wsGo raw.cps.toList (0, 0, 0, []); WS raw st.1 st.2.1 st.2.2.2 st.2.2.1 (decide ((st.2.2.2.length : Int) ≤ 1))
theorem Whitespace_ok (raw : Str) (hx : raw.cps.size ≤ 2 ^ 18) (hk : (wsGo raw.cps.toList (0, 0, 0, [])).2.2.2.length ≤ 2 ^ 19) : Fn KF 2 (.ref 117) [.str raw] (wsOf raw) :=
  Fn.cls (init_ok raw hx _ _ _ _ rfl hk) (fun K w h => mk_W h) (fun K w h => in_W h) (fun K w h => ti_W h)
end Mine
end

section
open PySem PySem.W PyProof.Rows PySem.Calls
set_option Elab.async false
set_option linter.unusedVariables false
set_option maxRecDepth 100000
set_option maxHeartbeats 4000000
namespace Mine
local macro_rules | `(tactic| walk_at "num") => `(tactic| first | omega | (simp; omega) | decide | assumption)
local macro_rules | `(tactic| walk_at "bin") => `(tactic| first | exact Bin.addInt | exact Bin.subInt | exact Bin.modInt (by walk_at "num") | exact Bin.divInt (by walk_at "num") (by walk_at "num") | exact Bin.mulInt (by walk_at "num") (by walk_at "num") | exact Bin.addStr (by walk_at "num") | exact Bin.addList (by walk_at "num") | exact Bin.mulOne (by walk_at "num") (by walk_at "num") rfl)
local macro_rules | `(tactic| walk_at "cmp") => `(tactic| first | exact Cmp.eqInt | exact Cmp.neInt | exact Cmp.ltInt | exact Cmp.leInt | exact Cmp.gtInt | exact Cmp.geInt | exact Cmp.eqStr | exact Cmp.neStr | exact Cmp.isBool)
local macro_rules | `(tactic| walk_at "call") => `(tactic| first | exact Calls.lenList (by walk_at "num") | exact Calls.lenTuple (by walk_at "num") | exact Calls.range1 | exact Calls.range2 | exact Calls.max2 | exact Calls.tupleList (by walk_at "num"))

/-- what a proper slice of a str gives -/
def Cut (u : Str) (lo hi : Option Int) : Prop := ∀ l r : Option (Int × Tok), l.map (·.1) = lo → r.map (·.1) = hi → ∃ z', PySem.Txt.slice u lo hi = z' ∧ (∀ t, sliceMade u t l r none = Made.str z') ∧ z'.length ≤ sizeLine
def leadS (row u : Str) : Str := Txt.replace (Txt.replace row ".." (PySem.Txt.slice u none (some 2))) "." (PySem.Txt.slice u (some 2) none)
theorem law_lead_ok (row u : Str) (c1 : Cut u none (some 2)) (c2 : Cut u (some 2) none) (b1 : row.length + (row.length + 1) * (PySem.Txt.slice u none (some 2)).length ≤ 16777216) (b2 : (Txt.replace row ".." (PySem.Txt.slice u none (some 2))).length + ((Txt.replace row ".." (PySem.Txt.slice u none (some 2))).length + 1) * (PySem.Txt.slice u (some 2) none).length ≤ 16777216) (hx : (leadS row u).cps.size ≤ 2 ^ 18) (hk : (wsGo (leadS row u).cps.toList (0, 0, 0, [])).2.2.2.length ≤ 2 ^ 19) : Fn KF 3 (.ref 143) [.str row, .str u] (wsOf (leadS row u)) := by
  refine Fn.intro' [(28, .local), (30, .local), (62, .globalImplicit)] [28, 30] ["row", "unit"] (fun K w h => fd_143 h) rfl rfl rfl (by decide +kernel) (by decide +kernel) (by decide +kernel) rfl (by decide) rfl (fun X hn hK hs => ?_)
  · refine' ⟨?e', Ex.castF ?h ?eq⟩
    case h =>
      refine' Ex.stop ?s2a ?s2b
      case s2a =>
        refine' Ex.ret ?y1x17
        case y1x17 =>
          refine' Ev.call ?y1x14 (callee_Whitespace hK) ?y1x15 ?y1x16 rfl
          case y1x14 =>
            exact Ev.gT (i := 62) rfl rfl (k_Whitespace hK) (fun _ _ => rep_raw)
          case y1x15 =>
            refine' Ar.s1 ?y1x13 rfl
            case y1x13 =>
              refine' Ev.replaceCS (i := 30) ?y1x7 rfl rfl ?y1x8 rfl ?y1x9 ?y1x10 ?y1x11 ?y1x12 (nb_K hK) rfl rfl rfl rfl
              case y1x7 =>
                refine' Ev.replaceCS (i := 30) ?y1x1 rfl rfl ?y1x2 rfl ?y1x3 ?y1x4 ?y1x5 ?y1x6 (nb_K hK) rfl rfl rfl rfl
                case y1x1 =>
                  exact Ev.name (i := 28) rfl rfl rfl rfl
                case y1x2 =>
                  exact rfl
                case y1x3 =>
                  exact PartC.none
                case y1x4 =>
                  exact PartC.some
                case y1x5 =>
                  exact c1
                case y1x6 =>
                  exact b1
              case y1x8 =>
                exact rfl
              case y1x9 =>
                exact PartC.some
              case y1x10 =>
                exact PartC.none
              case y1x11 =>
                exact c2
              case y1x12 =>
                exact b2
          case y1x16 =>
            exact Fn.calls (Whitespace_ok _ hx hk) (Nat.le_of_eq hn.symm) hK
      case s2b => (intro h; cases h)
    case eq =>
      rfl
end Mine
end

section
open PySem PySem.W PyProof.Rows PySem.Calls
set_option Elab.async false
set_option linter.unusedVariables false
set_option maxRecDepth 100000
set_option maxHeartbeats 4000000
namespace Mine
section
variable {tab : List (Nat × NameKind)} {X : Fx tab} {e e₁ e₂ e₃ : PEnv} {p q out : PV}
theorem In.sub {D : Addr} {act : Sem Unit} (h : In X D e act e₁) (hs : Sub e₂ e₁) : In X D e act e₂ := fun ok ρ s R hD =>
  wpAny_mono (h ok ρ s R hD) (fun _ s1 ⟨R1, t1⟩ => let ⟨R2, t2⟩ := R1.sub hs; ⟨R2, t1.trans t2⟩) fun _ _ h => h
theorem TurnsC.foldMap {B : PV → PEnv → PEnv → Prop} {σ α : Type} (env : σ → PEnv) (step : σ → α → σ) (g : α → PV) : ∀ (xs : List α) (st : σ), (∀ st y, y ∈ xs → B (g y) (env st) (env (step st y))) → TurnsC B (xs.map g) (env st) (env (xs.foldl step st))
  | [], st, _ => .nil
  | y :: ys, st, h => .cons (h st y List.mem_cons_self) (TurnsC.foldMap env step g ys (step st y) fun st' z hz => h st' z (List.mem_cons_of_mem _ hz))
/-- one turn without a test -/
theorem CB.plain {D : Addr} {t : Nat} {act : Sem Unit} {a b : PEnv} (h : ∀ l, In (X.withIts l) D (a.set t (.val q)) act b) : CB X D t [] act q a b := ⟨true, fun l => ⟨Tst.nil, h l⟩⟩
/-- one turn whose test holds -/
theorem CB.yes {D : Addr} {t : Nat} {c : Expr} {act : Sem Unit} {a b : PEnv} (ht : ∀ l, Ts (X.withIts l) (a.set t (.val q)) (isTrue c (X.withIts l).env (eval c (X.withIts l).env)) true (a.set t (.val q))) (h : ∀ l, In (X.withIts l) D (a.set t (.val q)) act b) : CB X D t [c] act q a b := ⟨true, fun l => ⟨Tst.one (ht l), h l⟩⟩
theorem CB.no {D : Addr} {t : Nat} {c : Expr} {act : Sem Unit} {a : PEnv} (ht : ∀ l, Ts (X.withIts l) (a.set t (.val q)) (isTrue c (X.withIts l).env (eval c (X.withIts l).env)) false (a.set t (.val q))) : CB X D t [c] act q a (a.set t (.val q)) := ⟨false, fun l => ⟨Tst.one (ht l), by simp⟩⟩
/-- [elt for x0 in iter if ..] -/
theorem Ev.comp1 {tab' : List (Nat × NameKind)} {elt : Expr} {scope : Scope} {cpos : Pos} {x0 : Str} {xp : Pos} {iter : Expr} {ifs : List Expr} {t : Nat} {k : NameKind} {items : List PV} {fs : List (Nat × PV)} {ps : List PV}
    (h1 : Ev X e (eval iter X.env) q e₁) (hI : Iters X q items) (S : ScOk tab tab' e₁ scope fs) (hs : ∀ v, foldedSetIterable iter X.env v = pure v) (hx : allNames[t]? = some x0) (ht : tab'.lookup t = some k) (hk : stor k = true)
    (hB : ∀ (Y : Fx tab') (D : Addr), CompX X scope Y → ∃ e', TurnsC (CB Y D t ifs (actElt elt D Y.env)) items (start fs) e' ∧ e'.lookup 0 = some (.own ps)) :
    Ev X e (eval (.ListComp elt [⟨.Name x0 xp, iter, ifs, 0⟩] scope cpos) X.env) (.list ps) e₁ := Ev.comp (fun Y D => actElt elt D Y.env) h1 hI S hs hx ht hk (fun Y D I => by rfl) hB
theorem form2 {elt iter iter2 : Expr} {ifs ifs2 : List Expr} {x0 x1 : Str} {xp xp2 : Pos} {scope : Scope} {cpos : Pos} {I D : Addr} {env : Env} :
    compTurn (.ListComp elt [⟨.Name x0 xp, iter, ifs, 0⟩, ⟨.Name x1 xp2, iter2, ifs2, 0⟩] scope cpos) 0 (.ref I) (.ref D) env = turnForm iter (.Name x0 xp) ifs (actNext elt [⟨.Name x0 xp, iter, ifs, 0⟩, ⟨.Name x1 xp2, iter2, ifs2, 0⟩] scope cpos 1 iter2 D env) (.ref I) env (.compLoop (.ListComp elt [⟨.Name x0 xp, iter, ifs, 0⟩, ⟨.Name x1 xp2, iter2, ifs2, 0⟩] scope cpos) 0 (.ref I) (.ref D) env) := by
  unfold turnForm actNext
  simp only [bind_assoc, pure_bind]
  rfl
theorem form2' {elt iter iter2 : Expr} {ifs ifs2 : List Expr} {x0 x1 : Str} {xp xp2 : Pos} {scope : Scope} {cpos : Pos} {I D : Addr} {env : Env} :
    compTurn (.ListComp elt [⟨.Name x0 xp, iter, ifs, 0⟩, ⟨.Name x1 xp2, iter2, ifs2, 0⟩] scope cpos) 1 (.ref I) (.ref D) env = turnForm iter2 (.Name x1 xp2) ifs2 (actElt elt D env) (.ref I) env (.compLoop (.ListComp elt [⟨.Name x0 xp, iter, ifs, 0⟩, ⟨.Name x1 xp2, iter2, ifs2, 0⟩] scope cpos) 1 (.ref I) (.ref D) env) := by rfl
/-- [elt for x0 in iter for x1 in iter2 ..] -/
theorem Ev.comp2 {tab' : List (Nat × NameKind)} {elt : Expr} {scope : Scope} {cpos : Pos} {x0 x1 : Str} {xp xp2 : Pos} {iter iter2 : Expr} {ifs ifs2 : List Expr} {t : Nat} {k : NameKind} {items : List PV} {fs : List (Nat × PV)} {ps : List PV}
    (h1 : Ev X e (eval iter X.env) q e₁) (hI : Iters X q items) (S : ScOk tab tab' e₁ scope fs) (hs : ∀ v, foldedSetIterable iter X.env v = pure v) (hx : allNames[t]? = some x0) (ht : tab'.lookup t = some k) (hk : stor k = true)
    (hB : ∀ (Y : Fx tab') (D : Addr), CompX X scope Y → ∃ e', TurnsC (CB Y D t ifs (actNext elt [⟨.Name x0 xp, iter, ifs, 0⟩, ⟨.Name x1 xp2, iter2, ifs2, 0⟩] scope cpos 1 iter2 D Y.env)) items (start fs) e' ∧ e'.lookup 0 = some (.own ps)) :
    Ev X e (eval (.ListComp elt [⟨.Name x0 xp, iter, ifs, 0⟩, ⟨.Name x1 xp2, iter2, ifs2, 0⟩] scope cpos) X.env) (.list ps) e₁ := Ev.comp (fun Y D => actNext elt [⟨.Name x0 xp, iter, ifs, 0⟩, ⟨.Name x1 xp2, iter2, ifs2, 0⟩] scope cpos 1 iter2 D Y.env) h1 hI S hs hx ht hk (fun Y D I => form2) hB
theorem Ex.assignComp1 {tab' : List (Nat × NameKind)} {elt : Expr} {scope : Scope} {cpos pos npos : Pos} {x0 y : Str} {xp : Pos} {iter : Expr} {ifs : List Expr} {i t : Nat} {k ky : NameKind} {items : List PV} {fs : List (Nat × PV)} {ps : List PV}
    (h1 : Ev X e (eval iter X.env) q e₁) (hI : Iters X q items) (S : ScOk tab tab' e₁ scope fs) (hs : ∀ v, foldedSetIterable iter X.env v = pure v) (hx : allNames[t]? = some x0) (ht : tab'.lookup t = some k) (hk : stor k = true)
    (hy : allNames[i]? = some y) (hi : tab.lookup i = some ky) (hky : stor ky = true) (hsw : swapsWith (.ListComp elt [⟨.Name x0 xp, iter, ifs, 0⟩] scope cpos) (some (.Name y npos)) pos.line X.env = pure true)
    (hB : ∀ (Y : Fx tab') (D : Addr), CompX X scope Y → ∃ e', TurnsC (CB Y D t ifs (actElt elt D Y.env)) items (start fs) e' ∧ e'.lookup 0 = some (.own ps)) :
    Ex X e (exec (.Assign [.Name y npos] (.ListComp elt [⟨.Name x0 xp, iter, ifs, 0⟩] scope cpos) pos) X.env) .next (e₁.set i (.val (.list ps))) := Ex.assignComp (fun Y D => actElt elt D Y.env) h1 hI S hs hx ht hk hy hi hky hsw (fun Y D I => by rfl) hB
theorem Ex.assignComp2 {tab' : List (Nat × NameKind)} {elt : Expr} {scope : Scope} {cpos pos npos : Pos} {x0 x1 y : Str} {xp xp2 : Pos} {iter iter2 : Expr} {ifs ifs2 : List Expr} {i t : Nat} {k ky : NameKind} {items : List PV} {fs : List (Nat × PV)} {ps : List PV}
    (h1 : Ev X e (eval iter X.env) q e₁) (hI : Iters X q items) (S : ScOk tab tab' e₁ scope fs) (hs : ∀ v, foldedSetIterable iter X.env v = pure v) (hx : allNames[t]? = some x0) (ht : tab'.lookup t = some k) (hk : stor k = true)
    (hy : allNames[i]? = some y) (hi : tab.lookup i = some ky) (hky : stor ky = true) (hsw : swapsWith (.ListComp elt [⟨.Name x0 xp, iter, ifs, 0⟩, ⟨.Name x1 xp2, iter2, ifs2, 0⟩] scope cpos) (some (.Name y npos)) pos.line X.env = pure true)
    (hB : ∀ (Y : Fx tab') (D : Addr), CompX X scope Y → ∃ e', TurnsC (CB Y D t ifs (actNext elt [⟨.Name x0 xp, iter, ifs, 0⟩, ⟨.Name x1 xp2, iter2, ifs2, 0⟩] scope cpos 1 iter2 D Y.env)) items (start fs) e' ∧ e'.lookup 0 = some (.own ps)) :
    Ex X e (exec (.Assign [.Name y npos] (.ListComp elt [⟨.Name x0 xp, iter, ifs, 0⟩, ⟨.Name x1 xp2, iter2, ifs2, 0⟩] scope cpos) pos) X.env) .next (e₁.set i (.val (.list ps))) := Ex.assignComp (fun Y D => actNext elt [⟨.Name x0 xp, iter, ifs, 0⟩, ⟨.Name x1 xp2, iter2, ifs2, 0⟩] scope cpos 1 iter2 D Y.env) h1 hI S hs hx ht hk hy hi hky hsw (fun Y D I => form2) hB
end
end Mine
end

section
open PySem PySem.W PyProof.Rows PySem.Calls
set_option Elab.async false
set_option linter.unusedVariables false
set_option maxRecDepth 100000
set_option maxHeartbeats 4000000
namespace Mine
section
variable {tab : List (Nat × NameKind)} {X : Fx tab} {e e₁ e₂ e₃ : PEnv} {p q out : PV}
/-- the env inside a comprehension: the list so far, the free names, the last item -/
def cenv (acc : List PV) (fs : List (Nat × PV)) (tl : PEnv) : PEnv := (0, .own acc) :: ((fs.map fun x => (x.1, Slot.val x.2)) ++ tl)
theorem set_fs {t : Nat} {s : Slot} : ∀ (fs : List (Nat × PV)) (tl : PEnv), (∀ x ∈ fs, x.1 ≠ t) → PEnv.set ((fs.map fun x => (x.1, Slot.val x.2)) ++ tl) t s = (fs.map fun x => (x.1, Slot.val x.2)) ++ PEnv.set tl t s
  | [], _, _ => rfl
  | y :: ys, tl, h => by
    have h1 : (y.1 == t) = false := by simpa using h y List.mem_cons_self
    show (if (y.1 == t) = true then _ else _) = _
    rw [h1]
    simp only [Bool.false_eq_true, if_false]
    exact congrArg _ (set_fs ys tl fun x hx => h x (List.mem_cons_of_mem _ hx))
theorem comp_map {D : Addr} {t : Nat} {act : Sem Unit} {α : Type} (g h : α → PV) (fs : List (Nat × PV)) (ht : ∀ x ∈ fs, x.1 ≠ t) (h0 : t ≠ 0) : ∀ (xs : List α) (acc : List PV) (tl : PEnv), (tl = [] ∨ ∃ p, tl = [(t, p)]) →
    (∀ x ∈ xs, ∀ l acc, acc.length ≤ 1000 → In (X.withIts l) D (cenv acc fs [(t, .val (g x))]) act (cenv (acc ++ [h x]) fs [(t, .val (g x))])) → acc.length + xs.length ≤ 1000 →
      ∃ e', TurnsC (CB X D t [] act) (xs.map g) (cenv acc fs tl) e' ∧ e'.lookup 0 = some (.own (acc ++ xs.map h))
  | [], acc, tl, _, _, _ => ⟨_, .nil, by simp [cenv]⟩
  | x :: xs, acc, tl, htl, hI, hl => by
    rw [List.length_cons] at hl
    have e1 : PEnv.set (cenv acc fs tl) t (.val (g x)) = cenv acc fs [(t, .val (g x))] := by
      have h1 : ((0 : Nat) == t) = false := by simp; omega
      show (if ((0 : Nat) == t) = true then _ else _) = _
      rw [h1]
      simp only [Bool.false_eq_true, if_false]
      rw [set_fs fs tl ht]
      rcases htl with rfl | ⟨p, rfl⟩
      · rfl
      · show _ = _
        simp [cenv, PEnv.set]
    obtain ⟨e', hT, hl'⟩ := comp_map g h fs ht h0 xs (acc ++ [h x]) [(t, .val (g x))] (.inr ⟨_, rfl⟩) (fun y hy => hI y (List.mem_cons_of_mem _ hy)) (by simp; omega)
    refine ⟨e', .cons (CB.plain fun l => ?_) hT, by rw [hl']; simp⟩
    rw [e1]
    exact hI x List.mem_cons_self l acc (by omega)
end
end Mine
end

section
open PySem PySem.W PyProof.Rows PySem.Calls
set_option Elab.async false
set_option linter.unusedVariables false
set_option maxRecDepth 100000
set_option maxHeartbeats 4000000
namespace Mine
local macro_rules | `(tactic| walk_at "num") => `(tactic| first | omega | (simp; omega) | decide | assumption)
local macro_rules | `(tactic| walk_at "bin") => `(tactic| first | exact Bin.addInt | exact Bin.subInt | exact Bin.modInt (by walk_at "num") | exact Bin.divInt (by walk_at "num") (by walk_at "num") | exact Bin.mulInt (by walk_at "num") (by walk_at "num") | exact Bin.addStr (by walk_at "num") | exact Bin.addList (by walk_at "num") | exact Bin.mulOne (by walk_at "num") (by walk_at "num") rfl)
local macro_rules | `(tactic| walk_at "cmp") => `(tactic| first | exact Cmp.eqInt | exact Cmp.neInt | exact Cmp.ltInt | exact Cmp.leInt | exact Cmp.gtInt | exact Cmp.geInt | exact Cmp.eqStr | exact Cmp.neStr | exact Cmp.isBool)
local macro_rules | `(tactic| walk_at "call") => `(tactic| first | exact Calls.lenList (by walk_at "num") | exact Calls.lenTuple (by walk_at "num") | exact Calls.range1 | exact Calls.range2 | exact Calls.max2 | exact Calls.tupleList (by walk_at "num"))

def pageRow (r : Str) : Str := Txt.replace r "." " " ++ "\t"
def pageS (rows : List Str) : Str := Txt.join "" (rows.map pageRow) ++ ". \t"
theorem law_page_ok (rows : List Str) (hlen : rows.length ≤ 1000) (hsz : ∀ r ∈ rows, r.length + (r.length + 1) * Str.length " " ≤ 16777216 ∧ (Txt.replace r "." " ").length + Str.length "\t" ≤ sizeLine) (hjoin : JoinOk "" (rows.map pageRow) = true) (hfin : (Txt.join "" (rows.map pageRow)).length + Str.length ". \t" ≤ sizeLine) (hx : (pageS rows).cps.size ≤ 2 ^ 18) (hk : (wsGo (pageS rows).cps.toList (0, 0, 0, [])).2.2.2.length ≤ 2 ^ 19) : Fn KF 3 (.ref 148) [.list (rows.map PV.str)] (wsOf (pageS rows)) := by
  refine Fn.intro' [(27, .local), (62, .globalImplicit)] [27] ["rows"] (fun K w h => fd_148 h) rfl rfl rfl (by decide +kernel) (by decide +kernel) (by decide +kernel) rfl (by decide) rfl (fun X hn hK hs => ?_)
  · refine' ⟨?e', Ex.castF ?h ?eq⟩
    case h =>
      refine' Ex.stop ?s2a ?s2b
      case s2a =>
        refine' Ex.ret ?r1
        case r1 =>
          refine' Ev.call ?r2 (callee_Whitespace hK) ?r3 ?r4 rfl
          case r2 =>
            exact Ev.gT (i := 62) rfl rfl (k_Whitespace hK) (fun _ _ => rep_raw)
          case r3 =>
            refine' Ar.s1 ?r5 rfl
            case r5 =>
              refine' Ev.binop ?r6 ?r7 ?r8
              case r6 =>
                refine' Ev.meth (T := "str") ?j1 ?j2 (str_is _) F.plainAttrs_str F.slot_str_join F.type_str_join ?j3 rfl rfl rfl
                case j1 => exact Ev.cstr
                case j2 =>
                  refine' Ar.s1 ?j4 rfl
                  case j4 =>
                    refine' Ev.comp1 (tab' := [(28, .local)]) (fs := []) (t := 28) ?k1 Iters.list ?k2 (fun _ => rfl) rfl rfl rfl ?k3
                    case k1 => exact Ev.name (i := 27) rfl rfl rfl rfl
                    case k2 => exact ⟨rfl, by decide +kernel, by decide +kernel, (fun x hx => nomatch hx), (fun x hx h => by
                      simp only [List.mem_cons, List.not_mem_nil, or_false] at hx
                      rcases hx with rfl | rfl <;> cases h)⟩
                    case k3 =>
                      intro Y D hY
                      have hKY : KF Y.K Y.w := by rw [hY.K, hY.w]; exact hK
                      refine comp_map (fun r => PV.str r) (fun r => PV.str (pageRow r)) [] (fun x hx => nomatch hx) (by decide) rows [] [] (.inl rfl) (fun r hr l acc hacc => ?_) (by simpa using hlen)
                      refine In.elt ?k4 rfl (Nat.le_trans hacc (by decide))
                      have hK := hKY
                      refine' Ev.binop ?y1x3 ?y1x4 ?y1x5
                      case y1x3 =>
                        refine' Ev.replaceCC ?y1x1 ?y1x2 (nb_K hK) rfl rfl rfl rfl
                        case y1x1 =>
                          exact Ev.name (i := 28) rfl rfl rfl rfl
                        case y1x2 =>
                          exact (hsz r hr).1
                      case y1x4 =>
                        exact Ev.cstr
                      case y1x5 =>
                        exact Bin.addStr (hsz r hr).2
                case j3 => exact (List.map_map ▸ Calls.join hjoin)
              case r7 => exact Ev.cstr
              case r8 => exact Bin.addStr hfin
          case r4 => exact Fn.calls (Whitespace_ok _ hx hk) (Nat.le_of_eq hn.symm) hK
      case s2b => (intro h; cases h)
    case eq =>
      rfl
end Mine
end

section
open PySem PySem.W PyProof.Rows PySem.Calls
set_option Elab.async false
set_option linter.unusedVariables false
set_option maxRecDepth 100000
set_option maxHeartbeats 4000000
namespace Mine
/-- the number of a bracket -/
def symOf (c : Nat) : Nat := if c = 40 then 7 else if c = 41 then 8 else if c = 91 then 9 else if c = 93 then 10 else if c = 123 then 25 else 26
def isBr (c : Nat) : Prop := c = 40 ∨ c = 41 ∨ c = 91 ∨ c = 93 ∨ c = 123 ∨ c = 125
theorem k_sym {K : Frag} {w : World} (hK : KF K w) {c : Nat} (hc : isBr c) : ∃ t, nsIn K 122 ⟨#[c]⟩ = some (some (.int (symOf c) t)) := by
  rcases hc with rfl | rfl | rfl | rfl | rfl | rfl
  · exact k_sym40 hK
  · exact k_sym41 hK
  · exact k_sym91 hK
  · exact k_sym93 hK
  · exact k_sym123 hK
  · exact k_sym125 hK
theorem Item.sym {tab : List (Nat × NameKind)} {X : Fx tab} (hK : KF X.K X.w) {c : Nat} (hc : isBr c) : Item X (.raw (.ref 122)) (.str ⟨#[c]⟩) (.int (symOf c)) := fun ok s P cx v u hv hu => by
  obtain ⟨es, n, h1, h2⟩ := k_dict hK
  obtain ⟨t, h3⟩ := k_sym hK hc
  obtain ⟨a, b⟩ := Item.top h1 h2 h3 ok s P cx v u hv hu
  refine ⟨a, wpAny_mono b (fun x s' h => ?_) fun _ _ h => h⟩
  obtain ⟨k, r⟩ := h
  rw [rep_raw_inv r]
  exact ⟨k, rep_int⟩
end Mine
end

section
open PySem PySem.W PyProof.Rows PySem.Calls
set_option Elab.async false
set_option linter.unusedVariables false
set_option maxRecDepth 100000
set_option maxHeartbeats 4000000
namespace Mine
section
variable {tab : List (Nat × NameKind)} {X : Fx tab} {e e₁ e₂ e₃ : PEnv} {p q out : PV}
theorem subTailS {prog : Program} {w : World} {A : Around} {E : Value → Shared → Prop} {s : Shared} {value slice : Expr} {o i : Value} {T id : String} {Q : Value → Shared → Prop} (hT : s.TypeIs o T)
    (hl : typeLookup (.type T) "__getitem__" = pure (some (.builtin id))) (h : wpAny (model prog w) A (getItem o i) Q E s)
    (hs : subscripted slice false o i = operate [i, o] (getItem o i)) : wpAny (model prog w) A (subscriptTail value slice o i) Q E s := by
  unfold subscriptTail
  refine wpAny_bind ?_
  rw [getitemInPython_of_ne hT.not_modules]
  refine wpAny_bind (wpAny_specialOf hT hl ?_)
  have fin : wpAny (model prog w) A (subscripted slice false o i) (fun r s₃ => wpAny (model prog w) A (letTemporaryGo value o r >>= fun _ => pure r) Q E s₃) E s := by
    rw [hs]
    exact wpAny_operating (wpAny_mono h (fun r s₃ h₃ => wpAny_bind (wpAny_letTemporaryGo (wpAny_pure h₃))) fun _ _ x => x)
  first
    | exact wpAny_pure (wpAny_bind fin)
    | exact wpAny_bind (wpAny_pure (wpAny_bind fin))
    | exact wpAny_bind fin
/-- a slice of a list that a step has just made -/
theorem Ev.sliceListT {value : Expr} {lower upper : Option Expr} {pp pos : Pos} {ps : List PV} {lo hi : Option Int} {pl pu : PV} (h1 : Ev X e (eval value X.env) (.list ps) e₁) (h2 : Ev X e₁ (evalPart lower X.env) pl e₂) (h3 : Ev X e₂ (evalPart upper X.env) pu e₃)
    (hl : Part pl lo) (hu : Part pu hi) (hsz : ps.length ≤ sizeLine) (hsub : ∀ o i, subscripted (.Slice lower upper none pp) false o i = operate [i, o] (getItem o i)) : Ev X e (eval (.Subscript value (.Slice lower upper none pp) pos) X.env) (.list (slicePV ps lo hi)) e₃ := fun ok ρ s R => by
  refine Subscript_ (wpAny_mono (h1 ok ρ s R) (fun v s1 h => ?_) fun _ _ h => h)
  obtain ⟨R1, t1, rp⟩ := h
  refine wpAny_Slice (wpAny_mono (h2 ok ρ s1 R1) (fun vl s2 h => ?_) fun _ _ h => h)
  obtain ⟨R2, t2, r2⟩ := h
  refine wpAny_mono (h3 ok ρ s2 R2) (fun vu s3 h => ?_) fun _ _ h => h
  obtain ⟨R3, t3, r3⟩ := h
  rw [evalPart_none]
  obtain ⟨a, vs, n, rfl, hpa, ha, ra⟩ := rep_list_inv (Rep.tr t3 _ _ (Rep.tr t2 _ _ rp))
  obtain ⟨qs, hq, ws, hw, hr⟩ := sliced ra lo hi
  have hL : s3.heap.IsList a vs.toArray := ⟨_, ha, rfl, n, rfl⟩
  refine wpAny_pure (subTailS (T := "list") (hL.push _).typeIs list_lookup (wpAny_getItem_list_slice (hL.push _) (Heap.IsSliceOf.new ..) (part_is hl (Rep.tr t3 _ _ r2)) (part_is hu r3) .none (by simp) ?_ (by simpa [ra.length] using hsz)) (hsub _ _))
  rw [Heap.size_push]
  obtain ⟨k, hn⟩ := slice_room (R3.cx ok) ({ cls := .type "slice", data := .fields #[vl, vu, .none] }) ({ cls := .type "list", data := .seq (slicePick vs.toArray lo hi none) })
  obtain ⟨R4, t4⟩ := R3.keepsL ok k
  refine ⟨R4, ((t1.trans t2).trans t3).trans t4, ?_⟩
  have e : slicePV ps lo hi = qs := hq.symm
  rw [e]
  refine rep_list (n := 0) ((R3.cx ok).new hn) ?_ (RepL.tr t4 _ _ hr)
  show ((s3.heap.push _).push _).get? (s3.heap.objs.size + 1) = _
  have := Heap.get?_push_size (s3.heap.push { cls := .type "slice", data := .fields #[vl, vu, .none] }) (o := { cls := .type "list", data := .seq (slicePick vs.toArray lo hi none) }) rfl
  rw [Heap.size_push] at this
  rw [this, hw]
end
end Mine
end

section
open PySem PySem.W PyProof.Rows PySem.Calls
set_option Elab.async false
set_option linter.unusedVariables false
set_option maxRecDepth 100000
set_option maxHeartbeats 4000000
set_option linter.unusedSimpArgs false
namespace Mine
local macro_rules | `(tactic| walk_at "num") => `(tactic| first | exact (show 0 ≤ sizeLine by decide) | exact (show 1 ≤ sizeLine by decide) | exact (show 2 ≤ sizeLine by decide) | exact (show 3 ≤ sizeLine by decide) | exact (show 6 ≤ sizeLine by decide) | omega | (simp; omega) | decide | assumption)
local macro_rules | `(tactic| walk_at "bin") => `(tactic| first | exact Bin.addInt | exact Bin.subInt | exact Bin.modInt (by walk_at "num") | exact Bin.divInt (by walk_at "num") (by walk_at "num") | exact Bin.mulInt (by walk_at "num") (by walk_at "num") | exact Bin.addStr (by walk_at "num") | exact Bin.addList (by walk_at "num") | exact Bin.mulOne (by walk_at "num") (by walk_at "num") rfl)
local macro_rules | `(tactic| walk_at "cmp") => `(tactic| first | exact Cmp.eqInt | exact Cmp.neInt | exact Cmp.ltInt | exact Cmp.leInt | exact Cmp.gtInt | exact Cmp.geInt | exact Cmp.eqStr | exact Cmp.neStr | exact Cmp.isBool)
local macro_rules | `(tactic| walk_at "call") => `(tactic| first | exact Calls.lenList (by walk_at "num") | exact Calls.lenTuple (by walk_at "num") | exact Calls.range1 | exact Calls.range2 | exact Calls.max2 | exact Calls.tupleList (by walk_at "num"))

def opnS (c : Nat) (e : Str) : Str := ((((("." : Str) ++ e) ++ "\r") ++ (⟨#[c]⟩ : Str)) ++ ".") ++ e
def isOp (c : Nat) : Prop := c = 40 ∨ c = 91 ∨ c = 123
def isCl (c : Nat) : Prop := c = 41 ∨ c = 93 ∨ c = 125
theorem isOp.br {c : Nat} (h : isOp c) : isBr c := by unfold isBr; rcases h with h | h | h <;> simp [h]
theorem isCl.br {c : Nat} (h : isCl c) : isBr c := by unfold isBr; rcases h with h | h | h <;> simp [h]
def pairsPV : List PV := [.tuple [.str "(", .int 7], .tuple [.str "[", .int 9], .tuple [.str "{", .int 25]]
theorem in_open {c : Nat} (h : isOp c) : (pairsPV.any fun y => eqP y (.tuple [.str ⟨#[c]⟩, .int (symOf c)])) = true := by rcases h with rfl | rfl | rfl <;> decide +kernel
theorem in_close {c : Nat} (h : isCl c) : (pairsPV.any fun y => eqP y (.tuple [.str ⟨#[c]⟩, .int (symOf c)])) = false := by rcases h with rfl | rfl | rfl <;> decide +kernel
theorem sym_pd {c : Nat} (h : isBr c) : (PV.tuple [.str ⟨#[c]⟩, .int (symOf c)]).isPd = true := by rcases h with rfl | rfl | rfl | rfl | rfl | rfl <;> decide +kernel
theorem sym_depth (c : Nat) : (PV.tuple [.str ⟨#[c]⟩, .int (symOf c)]).pd.depth ≤ 100 := by
  show 1 ≤ 100
  decide
theorem len1 (c : Nat) : (⟨#[c]⟩ : Str).length = 1 := rfl
theorem strOk_lit1 : (Str.ofString ".").length = 1 := by decide +kernel
theorem strOk_lit2 : (Str.ofString "\r").length = 1 := by decide +kernel
/-- what the loop of _law_rows does with a text of brackets -/
inductive Run (ends : List Str) : List Nat → List Str → List Int → List Str → List Str → List Int → List Str → Prop
  | nil {p o m} : Run ends [] p o m p o m
  | opn {c cs p o m e p' o' m'} : isOp c → ends[m.length / 2]? = some e → e.length ≤ 2 → m.length ≤ 1000 → p.length ≤ 1000 → o.length ≤ 1000 →
      Run ends cs (p ++ [opnS c e]) (o ++ [(symOf c : Int)]) (m ++ [("" : Str), (⟨#[c]⟩ : Str) ++ ("." : Str)]) p' o' m' → Run ends (c :: cs) p o m p' o' m'
  | cls {c cs p o m b t p' o' m'} : isCl c → t.cps.size ≤ 2 ^ 18 → (F2 t.cps 0).length ≤ 2 ^ 20 → (quoted t).cps.size ≤ 2 ^ 22 → b.length ≤ 2 ^ 22 → p.length ≤ 1000 → o.length ≤ 1000 →
      Run ends cs (p ++ [b ++ quoted t]) o m p' o' m' → Run ends (c :: cs) (p ++ [b] ++ [t]) (o ++ [(symOf c : Int) - 1]) m p' o' m'
def rEnv (text : Str) (ends : List Str) (P O M : List PV) : PEnv := [(18, .val (.str text)), (19, .val (.list (ends.map PV.str))), (22, .own M), (21, .own O), (20, .own P)]
theorem rows_turns {B : PV → PEnv → PF → PEnv → Prop} {text : Str} {ends : List Str}
    (opn : ∀ (c : Nat) (P O : List PV) (m : List Str) (e : Str), isOp c → ends[m.length / 2]? = some e → e.length ≤ 2 → m.length ≤ 1000 → P.length ≤ 1000 → O.length ≤ 1000 →
      B (.str ⟨#[c]⟩) (rEnv text ends P O (m.map PV.str)) .next (rEnv text ends (P ++ [.str (opnS c e)]) (O ++ [.int (symOf c)]) (m.map PV.str ++ [.str "", .str ((⟨#[c]⟩ : Str) ++ (("." : Str)))])))
    (cls : ∀ (c : Nat) (P M : List PV) (O : List Int) (b t : Str), isCl c → t.cps.size ≤ 2 ^ 18 → (F2 t.cps 0).length ≤ 2 ^ 20 → (quoted t).cps.size ≤ 2 ^ 22 → b.length ≤ 2 ^ 22 → P.length ≤ 1000 → O.length ≤ 1000 →
      B (.str ⟨#[c]⟩) (rEnv text ends (P ++ [.str b] ++ [.str t]) (O.map PV.int ++ [.int ((symOf c : Int) - 1)]) M) .next (rEnv text ends (P ++ [.str (b ++ quoted t)]) (O.map PV.int) M)) :
    ∀ {cs : List Nat} {p : List Str} {o : List Int} {m p' : List Str} {o' : List Int} {m' : List Str}, Run ends cs p o m p' o' m' →
      Turns B (cs.map fun c => .str ⟨#[c]⟩) (rEnv text ends (p.map PV.str) (o.map PV.int) (m.map PV.str)) .next (rEnv text ends (p'.map PV.str) (o'.map PV.int) (m'.map PV.str)) := by
  intro cs p o m p' o' m' hr
  induction hr with
  | nil => exact .done
  | opn h1 h2 h3 h4 h5 h6 _ ih =>
    refine .next (opn _ _ _ _ _ h1 h2 h3 h4 (by simpa using h5) (by simpa using h6)) ?_
    simpa [List.map_append] using ih
  | @cls c cs p o m b t p' o' m' h1 h2 h3 h4 h5 h6 h7 _ ih =>
    have := cls c (p.map PV.str) (m.map PV.str) o b t h1 h2 h3 h4 h5 (by simpa using h6) h7
    rw [List.map_append, List.map_append, List.map_append]
    refine .next this ?_
    simpa [List.map_append] using ih

section
variable {tab : List (Nat × NameKind)} {X : Fx tab}
theorem end_item {ends m : List Str} {e : Str} (h : ends[m.length / 2]? = some e) (hm : m.length ≤ 1000) : Item X (.list (ends.map PV.str)) (.int (((m.map PV.str).length : Int) / 2)) (.str e) := by
  have hl : m.length / 2 < ends.length := (List.getElem?_eq_some_iff.mp h).1
  rw [List.length_map]
  refine Item.list (j := m.length / 2) ?_ (by rw [List.getElem?_map, h]; rfl) ⟨by omega, by omega⟩
  have : ((m.length : Int) / 2) = ((m.length / 2 : Nat) : Int) := by omega
  rw [this]
  exact seqIndex_nat (by rw [List.length_map]; exact hl)
theorem item_strs {rows : List Str} {z : Int} {j : Nat} (h : 3 * j < rows.length) (hz : z = 3 * (0 + (j : Int))) (hb : rows.length ≤ 1000) : Item X (.list (rows.map PV.str)) (.int z) (.str (rows.getD (3 * j) "")) := by
  subst hz
  refine Item.list (j := 3 * j) ?_ (by rw [List.getElem?_map]; simp [List.getD, h]) ⟨by omega, by omega⟩
  have : 3 * (0 + (j : Int)) = ((3 * j : Nat) : Int) := by omega
  rw [this]
  exact seqIndex_nat (by rw [List.length_map]; exact h)
theorem all_strs : ∀ k : List Str, (k.map PV.str).all PV.atom = true
  | [] => rfl
  | _ :: r => by rw [List.map_cons, List.all_cons, all_strs r]; rfl
theorem isPd_strs : ∀ (l : List Str), (∀ x ∈ l, PySem.PyData.strOk x = true) → (PV.list (l.map PV.str)).isPd = true
  | [], _ => rfl
  | x :: r, h => by
    have := isPd_strs r fun y hy => h y (List.mem_cons_of_mem _ hy)
    unfold PV.isPd at this ⊢
    rw [List.map_cons]; unfold isPdL; rw [this]; unfold PV.isPd; rw [h x List.mem_cons_self]; rfl
theorem depth_strs : ∀ (l : List Str), (PV.list (l.map PV.str)).pd.depth = 1 := by
  have h : ∀ l : List Str, PyData.depthAll (pdL (l.map PV.str)) = 0 := fun l => by
    induction l with
    | nil => rfl
    | cons x r ih => rw [List.map_cons]; unfold pdL PyData.depthAll; rw [ih]; rfl
  intro l
  show PyData.depthAll (pdL (l.map PV.str)) + 1 = 1
  rw [h]
theorem eqP_strs : ∀ (l : List Str), eqP (.list (l.map PV.str)) (.list (l.map PV.str)) = true
  | [] => rfl
  | x :: r => by
    have := eqP_strs r
    show ((x == x) && eqP (.list (r.map PV.str)) (.list (r.map PV.str))) = true
    rw [this]; simp
theorem slice_init (ps : List PV) (p : PV) : slicePV (ps ++ [p]) none (some (-1)) = ps := by
  unfold slicePV
  have e : clipAt (ps ++ [p]).length (-1) = ps.length := by
    unfold clipAt
    rw [List.length_append]
    simp only [List.length_cons, List.length_nil]
    omega
  simp only [Option.elim]
  rw [e]
  simp
theorem parts_len (x y : Str) : (Builtin.Str.partsBetween x (Builtin.Str.occurrences x y 0 x.length (x.length + 1)) y.length).length ≤ x.length + 2 := by
  unfold Builtin.Str.partsBetween
  have := StrLaws.occ_length_le x y 0 x.length (x.length + 1)
  simp
  omega
variable {X : Fx tab}
theorem comp_filter {D : Addr} {t : Nat} {c : Expr} {act : Sem Unit} {α : Type} (g h : α → PV) (good : α → Bool) (fs : List (Nat × PV)) (ht : ∀ x ∈ fs, x.1 ≠ t) (h0 : t ≠ 0) : ∀ (xs : List α) (acc : List PV) (tl : PEnv), (tl = [] ∨ ∃ p, tl = [(t, p)]) →
    (∀ x ∈ xs, ∀ l acc, Ts (X.withIts l) (cenv acc fs [(t, .val (g x))]) (isTrue c (X.withIts l).env (eval c (X.withIts l).env)) (good x) (cenv acc fs [(t, .val (g x))])) →
    (∀ x ∈ xs, good x = true → ∀ l acc, acc.length ≤ 1000 → In (X.withIts l) D (cenv acc fs [(t, .val (g x))]) act (cenv (acc ++ [h x]) fs [(t, .val (g x))])) → acc.length + xs.length ≤ 1000 →
      ∃ e', TurnsC (CB X D t [c] act) (xs.map g) (cenv acc fs tl) e' ∧ e'.lookup 0 = some (.own (acc ++ (xs.filter good).map h))
  | [], acc, tl, _, _, _, _ => ⟨_, .nil, by simp [cenv]⟩
  | x :: xs, acc, tl, htl, hT, hI, hl => by
    rw [List.length_cons] at hl
    have e1 : PEnv.set (cenv acc fs tl) t (.val (g x)) = cenv acc fs [(t, .val (g x))] := by
      have h1 : ((0 : Nat) == t) = false := by simp; omega
      show (if ((0 : Nat) == t) = true then _ else _) = _
      rw [h1]
      simp only [Bool.false_eq_true, if_false]
      rw [set_fs fs tl ht]
      rcases htl with rfl | ⟨p, rfl⟩
      · rfl
      · show _ = _
        simp [cenv, PEnv.set]
    cases hg : good x with
    | true =>
      obtain ⟨e', hR, hl'⟩ := comp_filter g h good fs ht h0 xs (acc ++ [h x]) [(t, .val (g x))] (.inr ⟨_, rfl⟩) (fun y hy => hT y (List.mem_cons_of_mem _ hy)) (fun y hy => hI y (List.mem_cons_of_mem _ hy)) (by simp; omega)
      refine ⟨e', .cons (CB.yes (fun l => ?_) fun l => ?_) hR, by rw [hl', List.filter_cons, hg]; simp⟩
      · rw [e1]
        have := hT x List.mem_cons_self l acc
        rw [hg] at this
        exact this
      · rw [e1]
        exact hI x List.mem_cons_self hg l acc (by omega)
    | false =>
      obtain ⟨e', hR, hl'⟩ := comp_filter g h good fs ht h0 xs acc [(t, .val (g x))] (.inr ⟨_, rfl⟩) (fun y hy => hT y (List.mem_cons_of_mem _ hy)) (fun y hy => hI y (List.mem_cons_of_mem _ hy)) (by omega)
      refine ⟨e', .cons (b := cenv acc fs [(t, .val (g x))]) (e1 ▸ CB.no fun l => ?_) hR, by rw [hl', List.filter_cons, hg]; simp⟩
      rw [e1]
      have := hT x List.mem_cons_self l acc
      rw [hg] at this
      exact this
theorem isPd_ints1 : ∀ (O : List Int) (z : Int), (PV.list (O.map PV.int ++ [PV.int z])).isPd = true
  | [], _ => rfl
  | _ :: r, z => by have := isPd_ints1 r z; unfold PV.isPd at this ⊢; rw [List.map_cons, List.cons_append]; unfold isPdL; rw [this]; rfl
theorem empty_ne {O : List PV} {p : PV} : eqP (.list (O ++ [p])) (.list []) = false := by
  cases O <;> rfl
end
theorem rows_ok (text : Str) (cs : List Nat) (ends : List Str) (final : Str) (marks rows : List Str) (hcs : text.cps.toList = cs) (hrun : Run ends cs [""] [] [] [final] [] marks) (hsz : final.length ≤ 2 ^ 20) (hsplit : Txt.split final "\r\n" = rows ++ [("" : Str)]) (hrow : ∀ r ∈ rows, r.length ≤ sizeLine) (hlen : rows.length ≤ 900) (hok : ∀ r ∈ rows, PySem.PyData.strOk r = true) (hmarks : (rows.filter fun r => PySem.Txt.slice r none (some 1) != ".") = marks) (hml : 2 * rows.length = 3 * marks.length) : Fn KF 2 (.ref 136) [.str text, .list (ends.map PV.str)] (.list ((List.range (rows.length / 3)).map fun i => PV.str (rows.getD (3 * i) ""))) := by
  refine Fn.intro' [(18, .local), (19, .local), (20, .local), (21, .local), (22, .local), (23, .local), (24, .local), (25, .local), (26, .local), (27, .cell), (67, .globalImplicit), (57, .globalImplicit), (63, .globalImplicit), (58, .globalImplicit)] [18, 19] ["text", "ends"] (fun K w h => fd_136 h) rfl rfl rfl (by decide +kernel) (by decide +kernel) (by decide +kernel) rfl (by decide) rfl (fun X hn hK hs => ?_)
  · have hokm : ∀ x ∈ marks, PySem.PyData.strOk x = true := fun x hx => hok x (by rw [← hmarks] at hx; exact (List.mem_filter.mp hx).1)
    have hint : interactive X.env = false := by unfold interactive; rw [hs]; rfl
    refine' ⟨?e', Ex.castF ?h ?eq⟩
    case h =>
      refine' Ex.cons ?s55a ?s55b
      case s55a =>
        refine' Ex.unpackMS (names := ["pile", "opened", "marks"]) (is := [22, 21, 20]) ?un1 ?un2 ?un3 ?un5 rfl rfl ?un4
        case un1 => exact EvM.own (fun l => EvF.str) (EvM.own (fun l => EvF.nil) (EvM.own (fun l => EvF.nil) EvM.nil))
        case un2 => exact Tgts.cons (Tgt.bind rfl rfl rfl) (Tgts.cons (Tgt.bind rfl rfl rfl) (Tgts.cons (Tgt.bind rfl rfl rfl) Tgts.nil))
        case un3 => rfl
        case un5 => decide
        case un4 => (simp only [swappedStores, Env.blockKind, Env.kindOf, hs]; rfl)
      case s55b =>
        refine' Ex.cons ?s56a ?s56b
        case s56a =>
          refine' Ex.for (t := 23) ?h35a Iters.str rfl rfl rfl ?h35b (fun _ => rfl)
          case h35a =>
            exact Ev.name (i := 18) rfl rfl rfl rfl
          case h35b =>
            refine' Turns.castE (?tt) rfl
            case tt =>
              rw [show chars text = cs.map fun c => PV.str ⟨#[c]⟩ from by unfold chars; rw [hcs]]
              refine' rows_turns (text := text) (ends := ends) ?opn ?cls hrun
              case opn =>
                intro c P O m e hc he hel hm hP hO l
                refine Ex.sub (e₁ := ?og1) ?og2 ?og3
                rotate_left
                · refine' Ex.cons ?s16a ?s16b
                  case s16a =>
                    refine' Ex.assign (i := 24) ?y1x4 rfl rfl rfl rfl
                    case y1x4 =>
                      refine' Ev.sub ?y1x1 ?y1x2 ?y1x3 (fun _ _ => rfl)
                      case y1x1 =>
                        exact Ev.gT (i := 67) rfl rfl (k_ETT hK) (fun _ _ => rep_raw)
                      case y1x2 =>
                        exact Ev.name (i := 23) rfl rfl rfl rfl
                      case y1x3 =>
                        exact Item.sym (X := X.withIts l) hK hc.br
                  case s16b =>
                    refine' Ex.cons ?s17a ?s17b
                    case s17a =>
                      refine' Ex.ifT ?i15a ?i15b ?i15c
                      case i15a =>
                        refine' Ts.cmp ?y8x33 ?y8x34 ?y8x35 rfl
                        case y8x33 =>
                          refine' Ev.tuple ?y8x5 ?y8x6
                          case y8x5 =>
                            refine' EvL.sc ?y8x3 ?y8x4 rfl
                            case y8x3 =>
                              exact Ev.name (i := 23) rfl rfl rfl rfl
                            case y8x4 =>
                              refine' EvL.sc ?y8x1 ?y8x2 rfl
                              case y8x1 =>
                                exact Ev.name (i := 24) rfl rfl rfl rfl
                              case y8x2 =>
                                exact EvL.s0
                          case y8x6 =>
                            walk_at "num"
                        case y8x34 =>
                          refine' Ev.list ?y8x31 ?y8x32
                          case y8x31 =>
                            refine' EvL.sc ?y8x29 ?y8x30 rfl
                            case y8x29 =>
                              refine' Ev.tuple ?y8x11 ?y8x12
                              case y8x11 =>
                                refine' EvL.sc ?y8x9 ?y8x10 rfl
                                case y8x9 =>
                                  exact Ev.cstr
                                case y8x10 =>
                                  refine' EvL.sc ?y8x7 ?y8x8 rfl
                                  case y8x7 =>
                                    exact Ev.cint
                                  case y8x8 =>
                                    exact EvL.s0
                              case y8x12 =>
                                walk_at "num"
                            case y8x30 =>
                              refine' EvL.sc ?y8x27 ?y8x28 rfl
                              case y8x27 =>
                                refine' Ev.tuple ?y8x17 ?y8x18
                                case y8x17 =>
                                  refine' EvL.sc ?y8x15 ?y8x16 rfl
                                  case y8x15 =>
                                    exact Ev.cstr
                                  case y8x16 =>
                                    refine' EvL.sc ?y8x13 ?y8x14 rfl
                                    case y8x13 =>
                                      exact Ev.cint
                                    case y8x14 =>
                                      exact EvL.s0
                                case y8x18 =>
                                  walk_at "num"
                              case y8x28 =>
                                refine' EvL.sc ?y8x25 ?y8x26 rfl
                                case y8x25 =>
                                  refine' Ev.tuple ?y8x23 ?y8x24
                                  case y8x23 =>
                                    refine' EvL.sc ?y8x21 ?y8x22 rfl
                                    case y8x21 =>
                                      exact Ev.cstr
                                    case y8x22 =>
                                      refine' EvL.sc ?y8x19 ?y8x20 rfl
                                      case y8x19 =>
                                        exact Ev.cint
                                      case y8x20 =>
                                        exact EvL.s0
                                  case y8x24 =>
                                    walk_at "num"
                                case y8x26 =>
                                  exact EvL.s0
                          case y8x32 =>
                            walk_at "num"
                        case y8x35 =>
                          exact Cmp.inPd (sym_pd hc.br) (by decide +kernel) (sym_depth c)
                      case i15b =>
                        exact in_open hc
                      case i15c =>
                        refine' Ex.cons ?s11a ?s11b
                        case s11a =>
                          refine' Ex.assign (i := 25) ?y2x10 rfl rfl rfl rfl
                          case y2x10 =>
                            refine' Ev.sub ?y2x7 ?y2x8 ?y2x9 (fun _ _ => rfl)
                            case y2x7 =>
                              exact Ev.name (i := 19) rfl rfl rfl rfl
                            case y2x8 =>
                              refine' Ev.binop ?y2x4 ?y2x5 ?y2x6
                              case y2x4 =>
                                refine' Ev.callOwn (i := 22) ?y2x1 (Callee.builtin "len") rfl rfl rfl rfl ?y2x2 ?y2x3 rfl
                                case y2x1 =>
                                  exact Ev.bT (i := 57) rfl rfl (k_len hK) b_len (by decide)
                                case y2x2 =>
                                  exact Calls.lenList (by rw [List.length_map]; omega)
                                case y2x3 =>
                                  exact rfl
                              case y2x5 =>
                                exact Ev.cint
                              case y2x6 =>
                                walk_at "bin"
                            case y2x9 =>
                              exact end_item he hm
                        case s11b =>
                          refine' Ex.cons ?s12a ?s12b
                          case s12a =>
                            refine' Ex.expr ?h9a hint rfl
                            case h9a =>
                              refine' Ev.append (i := 20) rfl rfl rfl rfl ?y3x17 ?y3x18 ?y3x19 rfl rfl
                              case y3x17 =>
                                refine' Ar.s1 ?y3x16 rfl
                                case y3x16 =>
                                  refine' Ev.binop ?y3x13 ?y3x14 ?y3x15
                                  case y3x13 =>
                                    refine' Ev.binop ?y3x10 ?y3x11 ?y3x12
                                    case y3x10 =>
                                      refine' Ev.binop ?y3x7 ?y3x8 ?y3x9
                                      case y3x7 =>
                                        refine' Ev.binop ?y3x4 ?y3x5 ?y3x6
                                        case y3x4 =>
                                          refine' Ev.binop ?y3x1 ?y3x2 ?y3x3
                                          case y3x1 =>
                                            exact Ev.cstr
                                          case y3x2 =>
                                            exact Ev.name (i := 25) rfl rfl rfl rfl
                                          case y3x3 =>
                                            exact Bin.addStr (by simp only [Str.length_append, len1, strOk_lit1, strOk_lit2]; exact Nat.le_trans (show _ ≤ 100 by omega) (by decide))
                                        case y3x5 =>
                                          exact Ev.cstr
                                        case y3x6 =>
                                          exact Bin.addStr (by simp only [Str.length_append, len1, strOk_lit1, strOk_lit2]; exact Nat.le_trans (show _ ≤ 100 by omega) (by decide))
                                      case y3x8 =>
                                        exact Ev.name (i := 23) rfl rfl rfl rfl
                                      case y3x9 =>
                                        exact Bin.addStr (by simp only [Str.length_append, len1, strOk_lit1, strOk_lit2]; exact Nat.le_trans (show _ ≤ 100 by omega) (by decide))
                                    case y3x11 =>
                                      exact Ev.cstr
                                    case y3x12 =>
                                      exact Bin.addStr (by simp only [Str.length_append, len1, strOk_lit1, strOk_lit2]; exact Nat.le_trans (show _ ≤ 100 by omega) (by decide))
                                  case y3x14 =>
                                    exact Ev.name (i := 25) rfl rfl rfl rfl
                                  case y3x15 =>
                                    exact Bin.addStr (by simp only [Str.length_append, len1, strOk_lit1, strOk_lit2]; exact Nat.le_trans (show _ ≤ 100 by omega) (by decide))
                              case y3x18 =>
                                exact rfl
                              case y3x19 =>
                                exact Nat.le_trans hP (by decide)
                          case s12b =>
                            refine' Ex.cons ?s13a ?s13b
                            case s13a =>
                              refine' Ex.expr ?h10a hint rfl
                              case h10a =>
                                refine' Ev.append (i := 21) rfl rfl rfl rfl ?y4x2 ?y4x3 ?y4x4 rfl rfl
                                case y4x2 =>
                                  refine' Ar.s1 ?y4x1 rfl
                                  case y4x1 =>
                                    exact Ev.name (i := 24) rfl rfl rfl rfl
                                case y4x3 =>
                                  exact rfl
                                case y4x4 =>
                                  exact Nat.le_trans hO (by decide)
                            case s13b =>
                              refine' Ex.cons ?s14a ?s14b
                              case s14a =>
                                refine' Ex.assignOwn (i := 22) ?h7a rfl rfl rfl rfl
                                case h7a =>
                                  refine' EvF.addOwn (i := 22) (ps := m.map PV.str) (qs := [.str "", .str ((⟨#[c]⟩ : Str) ++ ("." : Str))]) rfl rfl rfl rfl ?h6b (all_strs _) rfl ?h6c
                                  case h6b =>
                                    refine' Ev.list ?y5x8 ?y5x9
                                    case y5x8 =>
                                      refine' EvL.sc ?y5x6 ?y5x7 rfl
                                      case y5x6 =>
                                        exact Ev.cstr
                                      case y5x7 =>
                                        refine' EvL.sc ?y5x4 ?y5x5 rfl
                                        case y5x4 =>
                                          refine' Ev.binop ?y5x1 ?y5x2 ?y5x3
                                          case y5x1 =>
                                            exact Ev.name (i := 23) rfl rfl rfl rfl
                                          case y5x2 =>
                                            exact Ev.cstr
                                          case y5x3 =>
                                            exact Bin.addStr (by simp only [Str.length_append, len1, strOk_lit1, strOk_lit2]; exact Nat.le_trans (show _ ≤ 100 by omega) (by decide))
                                        case y5x5 =>
                                          exact EvL.s0
                                    case y5x9 =>
                                      exact (show 2 ≤ sizeLine by decide)
                                  case h6c =>
                                    rw [List.length_map]; exact Nat.le_trans (show _ ≤ 1002 by (simp only [List.length_cons, List.length_nil]; omega)) (by decide)
                              case s14b =>
                                exact Ex.nil
                    case s17b =>
                      exact Ex.nil
                · exact Sub.cons rfl (Sub.cons rfl (Sub.cons rfl (Sub.cons rfl (Sub.cons rfl (Sub.nil)))))
              case cls =>
                intro c P M O b t hc h1 h2 h3 hb hP hO l
                have hopd : (PV.list (O.map PV.int ++ [PV.int ((symOf c : Int) - 1)])).isPd = true := isPd_ints1 _ _
                refine Ex.sub (e₁ := ?cg1) ?cg2 ?cg3
                rotate_left
                · refine' Ex.cons ?s32a ?s32b
                  case s32a =>
                    refine' Ex.assign (i := 24) ?y18x4 rfl rfl rfl rfl
                    case y18x4 =>
                      refine' Ev.sub ?y18x1 ?y18x2 ?y18x3 (fun _ _ => rfl)
                      case y18x1 =>
                        exact Ev.gT (i := 67) rfl rfl (k_ETT hK) (fun _ _ => rep_raw)
                      case y18x2 =>
                        exact Ev.name (i := 23) rfl rfl rfl rfl
                      case y18x3 =>
                        exact Item.sym (X := X.withIts l) hK hc.br
                  case s32b =>
                    refine' Ex.cons ?s33a ?s33b
                    case s33a =>
                      refine' Ex.ifF ?i31a ?i31b ?i31c
                      case i31a =>
                        refine' Ts.cmp ?y25x33 ?y25x34 ?y25x35 rfl
                        case y25x33 =>
                          refine' Ev.tuple ?y25x5 ?y25x6
                          case y25x5 =>
                            refine' EvL.sc ?y25x3 ?y25x4 rfl
                            case y25x3 =>
                              exact Ev.name (i := 23) rfl rfl rfl rfl
                            case y25x4 =>
                              refine' EvL.sc ?y25x1 ?y25x2 rfl
                              case y25x1 =>
                                exact Ev.name (i := 24) rfl rfl rfl rfl
                              case y25x2 =>
                                exact EvL.s0
                          case y25x6 =>
                            walk_at "num"
                        case y25x34 =>
                          refine' Ev.list ?y25x31 ?y25x32
                          case y25x31 =>
                            refine' EvL.sc ?y25x29 ?y25x30 rfl
                            case y25x29 =>
                              refine' Ev.tuple ?y25x11 ?y25x12
                              case y25x11 =>
                                refine' EvL.sc ?y25x9 ?y25x10 rfl
                                case y25x9 =>
                                  exact Ev.cstr
                                case y25x10 =>
                                  refine' EvL.sc ?y25x7 ?y25x8 rfl
                                  case y25x7 =>
                                    exact Ev.cint
                                  case y25x8 =>
                                    exact EvL.s0
                              case y25x12 =>
                                walk_at "num"
                            case y25x30 =>
                              refine' EvL.sc ?y25x27 ?y25x28 rfl
                              case y25x27 =>
                                refine' Ev.tuple ?y25x17 ?y25x18
                                case y25x17 =>
                                  refine' EvL.sc ?y25x15 ?y25x16 rfl
                                  case y25x15 =>
                                    exact Ev.cstr
                                  case y25x16 =>
                                    refine' EvL.sc ?y25x13 ?y25x14 rfl
                                    case y25x13 =>
                                      exact Ev.cint
                                    case y25x14 =>
                                      exact EvL.s0
                                case y25x18 =>
                                  walk_at "num"
                              case y25x28 =>
                                refine' EvL.sc ?y25x25 ?y25x26 rfl
                                case y25x25 =>
                                  refine' Ev.tuple ?y25x23 ?y25x24
                                  case y25x23 =>
                                    refine' EvL.sc ?y25x21 ?y25x22 rfl
                                    case y25x21 =>
                                      exact Ev.cstr
                                    case y25x22 =>
                                      refine' EvL.sc ?y25x19 ?y25x20 rfl
                                      case y25x19 =>
                                        exact Ev.cint
                                      case y25x20 =>
                                        exact EvL.s0
                                  case y25x24 =>
                                    walk_at "num"
                                case y25x26 =>
                                  exact EvL.s0
                          case y25x32 =>
                            walk_at "num"
                        case y25x35 =>
                          exact Cmp.inPd (sym_pd hc.br) (by decide +kernel) (sym_depth c)
                      case i31b =>
                        exact in_close hc
                      case i31c =>
                        refine' Ex.cons ?s30a ?s30b
                        case s30a =>
                          refine' Ex.ifF ?i29a ?i29b ?i29c
                          case i29a =>
                            refine' Ts.or ?h22a (fun _ => ?h22b) ?h22c
                            case h22a =>
                              refine' Ts.cmpOwn (i := 21) rfl rfl rfl rfl ?y19x3 ?y19x4 rfl
                              case y19x3 =>
                                refine' Ev.list ?y19x1 ?y19x2
                                case y19x1 =>
                                  exact EvL.s0
                                case y19x2 =>
                                  decide
                              case y19x4 =>
                                exact Cmp.eqPd hopd (by decide +kernel) (Nat.le_trans (Nat.min_le_right _ _) (by decide +kernel))
                            case h22b =>
                              refine' Ts.or ?h21d (fun _ => Ts.orNil) (fun _ => rfl)
                              case h21d =>
                                refine' Ts.cmp ?y20x6 ?y20x7 ?y20x8 rfl
                                case y20x6 =>
                                  refine' Ev.pop (i := 21) rfl rfl rfl ?y20x1 ?y20x2 rfl rfl
                                  case y20x1 =>
                                    exact rfl
                                  case y20x2 =>
                                    exact Nat.le_trans (show _ ≤ 1001 by (rw [List.length_map]; omega)) (by decide)
                                case y20x7 =>
                                  refine' Ev.binop ?y20x3 ?y20x4 ?y20x5
                                  case y20x3 =>
                                    exact Ev.name (i := 24) rfl rfl rfl rfl
                                  case y20x4 =>
                                    exact Ev.cint
                                  case y20x5 =>
                                    walk_at "bin"
                                case y20x8 =>
                                  walk_at "cmp"
                            case h22c =>
                              intro hb
                              rw [empty_ne] at hb
                              cases hb
                          case i29b =>
                            rw [empty_ne]; simp
                          case i29c =>
                            refine' Ex.cons ?s27a ?s27b
                            case s27a =>
                              refine' Ex.assign (i := 26) ?y23x7 rfl rfl rfl rfl
                              case y23x7 =>
                                refine' Ev.call ?y23x4 (callee_quotedata hK) ?y23x5 ?y23x6 rfl
                                case y23x4 =>
                                  exact Ev.gT (i := 63) rfl rfl (k_quotedata hK) (fun _ _ => rep_raw)
                                case y23x5 =>
                                  refine' Ar.s1 ?y23x3 rfl
                                  case y23x3 =>
                                    refine' Ev.pop (i := 20) rfl rfl rfl ?y23x1 ?y23x2 rfl rfl
                                    case y23x1 =>
                                      exact rfl
                                    case y23x2 =>
                                      exact Nat.le_trans (show _ ≤ 1002 by (simp only [List.length_append, List.length_cons, List.length_nil]; omega)) (by decide)
                                case y23x6 =>
                                  exact Fn.calls (quotedata_ok t h1 h2 h3) (Nat.le_of_eq hn.symm) hK
                            case s27b =>
                              refine' Ex.cons ?s28a ?s28b
                              case s28a =>
                                refine' Ex.expr ?h26a hint rfl
                                case h26a =>
                                  refine' Ev.append (i := 20) rfl rfl rfl rfl ?y24x7 ?y24x8 ?y24x9 rfl rfl
                                  case y24x7 =>
                                    refine' Ar.s1 ?y24x6 rfl
                                    case y24x6 =>
                                      refine' Ev.binop ?y24x3 ?y24x4 ?y24x5
                                      case y24x3 =>
                                        refine' Ev.pop (i := 20) rfl rfl rfl ?y24x1 ?y24x2 rfl rfl
                                        case y24x1 =>
                                          exact rfl
                                        case y24x2 =>
                                          exact Nat.le_trans (show _ ≤ 1001 by omega) (by decide)
                                      case y24x4 =>
                                        exact Ev.name (i := 26) rfl rfl rfl rfl
                                      case y24x5 =>
                                        exact Bin.addStr (by (show _ + (quoted t).cps.size ≤ 2 ^ 24); omega)
                                  case y24x8 =>
                                    exact rfl
                                  case y24x9 =>
                                    exact Nat.le_trans hP (by decide)
                              case s28b =>
                                exact Ex.nil
                        case s30b =>
                          exact Ex.nil
                    case s33b =>
                      exact Ex.nil
                · exact Sub.cons rfl (Sub.cons rfl (Sub.cons rfl (Sub.cons rfl (Sub.cons rfl (Sub.nil)))))
        case s56b =>
          refine' Ex.freeze (i := 22) ?fz1 (by decide) ?fz2
          case fz1 => exact rfl
          case fz2 =>
            refine' Ex.cons ?s53a ?s53b
            case s53a =>
              refine' Ex.assign (i := 27) ?h41a rfl rfl rfl rfl
              case h41a =>
                refine' Ev.castP (q := .list (rows.map PV.str)) ?h40v ?h40w
                case h40v =>
                  refine' Ev.sliceListT ?h39b Ev.pnone (Ev.psome (Ev.unop Ev.cint Una.negInt)) ?h39d ?h39u ?h39e (fun _ _ => rfl)
                  case h39b =>
                    refine' Ev.castP (q := .list (rows.map PV.str ++ [.str ("" : Str)])) ?h38x ?h38y
                    case h38x =>
                      refine' Ev.meth (T := "str") ?h37i ?h37j (str_is _) F.plainAttrs_str F.slot_str_split F.type_str_split ?h37k rfl rfl rfl
                      case h37i =>
                        refine' Ev.itemOwn (i := 20) (j := 0) (ps := [.str final]) rfl rfl rfl rfl Ev.cint ?h36i1 ?h36i2 ?h36i3 (fun _ _ => rfl)
                        case h36i1 =>
                          rfl
                        case h36i2 =>
                          rfl
                        case h36i3 =>
                          decide
                      case h37j =>
                        exact Ar.s1 Ev.cstr rfl
                      case h37k =>
                        exact Calls.split (by decide +kernel) (Nat.le_trans hsz (by decide)) (Nat.le_trans (parts_len _ _) (Nat.le_trans (Nat.add_le_add_right hsz 2) (by decide)))
                    case h38y =>
                      rw [hsplit, List.map_append]; rfl
                  case h39d =>
                    exact (show Part .none none from trivial)
                  case h39u =>
                    exact (show Part (.int (-1)) (some (-1)) from rfl)
                  case h39e =>
                    rw [List.length_append, List.length_map]; exact Nat.le_trans (Nat.add_le_add_right hlen 1) (by decide)
                case h40w =>
                  rw [slice_init]
            case s53b =>
              refine' Ex.cons ?s54a ?s54b
              case s54a =>
                refine' Ex.ifF ?i51a ?i51b ?i51c
                case i51a =>
                  refine' Ts.or ?h46a (fun _ => ?h46b) (fun _ => rfl)
                  case h46a =>
                    refine' Ts.cmp ?h43a ?h43b ?h43c rfl
                    case h43a =>
                      refine' Ev.comp1 (tab' := [(28, .local)]) (fs := []) (t := 28) ?h42a Iters.list ?h42b (fun _ => rfl) rfl rfl rfl ?h42c
                      case h42a =>
                        exact Ev.name (i := 27) rfl rfl rfl rfl
                      case h42b =>
                        exact ⟨rfl, by decide +kernel, by decide +kernel, (fun x hx => nomatch hx), (fun x hx h => by
                          simp only [List.mem_cons, List.not_mem_nil, or_false] at hx
                          rcases hx with rfl | rfl <;> cases h)⟩
                      case h42c =>
                        intro Y D hY
                        refine comp_filter (fun r => PV.str r) (fun r => PV.str r) (fun r => PySem.Txt.slice r none (some 1) != ".") [] (fun x hx => nomatch hx) (by decide) rows [] [] (.inl rfl) (fun r hr l acc => ?_) (fun r hr hg l acc hacc => ?_) (by simp; omega)
                        · exact Ts.cmp (Ev.sliceStr (lo := none) (hi := some 1) (Ev.name (i := 28) rfl rfl rfl rfl) Ev.pnone (Ev.psome Ev.cint) trivial rfl (hrow r hr) (fun _ _ => rfl)) Ev.cstr Cmp.neStr rfl
                        · exact In.elt (Ev.name (i := 28) rfl rfl rfl rfl) rfl (Nat.le_trans hacc (by decide))
                    case h43b =>
                      exact Ev.name (i := 22) rfl rfl rfl rfl
                    case h43c =>
                      exact Cmp.nePd (isPd_strs _ fun x hx => hok x (List.mem_filter.mp hx).1) (isPd_strs _ hokm) (Nat.le_trans (Nat.min_le_left _ _) (by rw [List.nil_append, depth_strs]; decide))
                  case h46b =>
                    refine' Ts.or ?h45d (fun _ => Ts.orNil) (fun _ => rfl)
                    case h45d =>
                      refine' Ts.cmp ?y44x15 ?y44x16 ?y44x17 rfl
                      case y44x15 =>
                        refine' Ev.binop ?y44x5 ?y44x6 ?y44x7
                        case y44x5 =>
                          exact Ev.cint
                        case y44x6 =>
                          refine' Ev.call ?y44x2 (Callee.builtin "len") ?y44x3 ?y44x4 rfl
                          case y44x2 =>
                            exact Ev.bT (i := 57) rfl rfl (k_len hK) b_len (by decide)
                          case y44x3 =>
                            refine' Ar.s1 ?y44x1 rfl
                            case y44x1 =>
                              exact Ev.name (i := 27) rfl rfl rfl rfl
                          case y44x4 =>
                            exact Calls.lenList (by rw [List.length_map]; omega)
                        case y44x7 =>
                          exact Bin.mulInt (by decide) (by decide)
                      case y44x16 =>
                        refine' Ev.binop ?y44x12 ?y44x13 ?y44x14
                        case y44x12 =>
                          exact Ev.cint
                        case y44x13 =>
                          refine' Ev.call ?y44x9 (Callee.builtin "len") ?y44x10 ?y44x11 rfl
                          case y44x9 =>
                            exact Ev.bT (i := 57) rfl rfl (k_len hK) b_len (by decide)
                          case y44x10 =>
                            refine' Ar.s1 ?y44x8 rfl
                            case y44x8 =>
                              exact Ev.name (i := 22) rfl rfl rfl rfl
                          case y44x11 =>
                            exact Calls.lenList (by rw [List.length_map]; omega)
                        case y44x14 =>
                          exact Bin.mulInt (by decide) (by decide)
                      case y44x17 =>
                        exact Cmp.neInt
                case i51b =>
                  rw [List.nil_append, hmarks, eqP_strs]; simp only [List.length_map]; simp; omega
                case i51c =>
                  exact Ex.nil
              case s54b =>
                refine' Ex.stop ?h52a ?h52b
                case h52a =>
                  refine' Ex.ret ?h50a
                  case h50a =>
                    refine' Ev.castP (q := .list ((List.range (rows.length / 3)).map fun i => PV.str (rows.getD (3 * i) ("" : Str)))) ?h49r ?h49s
                    case h49r =>
                      refine' Ev.comp1 (tab' := [(29, .local), (27, .free)]) (fs := [(27, .list (rows.map PV.str))]) (t := 29) ?h48a ?h48i ?h48b (fun _ => rfl) rfl rfl rfl ?h48c
                      case h48a =>
                        refine' Ev.call ?y47x9 (Callee.type "range") ?y47x10 ?y47x11 rfl
                        case y47x9 =>
                          exact Ev.bT (i := 58) rfl rfl (k_range hK) b_range (by decide)
                        case y47x10 =>
                          refine' Ar.s1 ?y47x8 rfl
                          case y47x8 =>
                            refine' Ev.binop ?y47x5 ?y47x6 ?y47x7
                            case y47x5 =>
                              refine' Ev.call ?y47x2 (Callee.builtin "len") ?y47x3 ?y47x4 rfl
                              case y47x2 =>
                                exact Ev.bT (i := 57) rfl rfl (k_len hK) b_len (by decide)
                              case y47x3 =>
                                refine' Ar.s1 ?y47x1 rfl
                                case y47x1 =>
                                  exact Ev.name (i := 27) rfl rfl rfl rfl
                              case y47x4 =>
                                exact Calls.lenList (by rw [List.length_map]; omega)
                            case y47x6 =>
                              exact Ev.cint
                            case y47x7 =>
                              exact Bin.divInt (by decide) (by decide)
                        case y47x11 =>
                          exact Calls.range1
                      case h48i =>
                        exact Iters.rng (by decide) (by decide) (by rw [List.length_map]; omega) (by rw [List.length_map]; omega)
                      case h48b =>
                        exact ⟨rfl, by decide +kernel, by decide +kernel, (fun x hx => by
                          simp only [List.mem_cons, List.not_mem_nil, or_false] at hx
                          subst hx
                          exact ⟨rfl, rfl, .inl rfl⟩), (fun x hx h => by
                          simp only [List.mem_cons, List.not_mem_nil, or_false] at hx
                          rcases hx with rfl | rfl | rfl
                          · cases h
                          · cases h
                          · exact ⟨27, .cell, rfl, rfl, .inl rfl⟩)⟩
                      case h48c =>
                        intro Y D hY
                        refine comp_map (fun i : Nat => PV.int (0 + (i : Nat))) (fun i => PV.str (rows.getD (3 * i) "")) [(27, .list (rows.map PV.str))] (fun x hx => by
                          simp only [List.mem_cons, List.not_mem_nil, or_false] at hx
                          subst hx
                          exact (show (27 : Nat) ≠ 29 by decide)) (by decide) (List.range _) [] [] (.inl rfl) (fun r hr l acc hacc => ?_) (by rw [List.length_range, List.length_map]; show 0 + _ ≤ 1000; omega)
                        have hr' : 3 * r < rows.length := by have := List.mem_range.mp hr; rw [List.length_map] at this; omega
                        refine In.elt ?el rfl (Nat.le_trans hacc (by decide))
                        exact Ev.sub (Ev.name (i := 27) rfl rfl rfl rfl) (Ev.binop Ev.cint (Ev.name (i := 29) rfl rfl rfl rfl) (Bin.mulInt (by decide) (by decide))) (item_strs hr' (by omega) (by omega)) (fun _ _ => rfl)
                    case h49s =>
                      rw [List.nil_append, List.length_map]; congr 2
                case h52b =>
                  intro h; cases h
    case eq =>
      rfl
end Mine
end

section
open PySem PySem.W PyProof.Rows PySem.Calls
set_option Elab.async false
set_option linter.unusedVariables false
set_option maxRecDepth 100000
set_option maxHeartbeats 4000000
namespace Mine
/-! what the law reckons, in plain terms: ds the depths of the rows, u the unit -/
def leadL (n u : Nat) : List Nat := match u with
  | 0 => List.replicate n 32
  | 1 => List.replicate n 9
  | _ => (List.replicate (n / 2) [32, 9]).flatten ++ (if n % 2 = 1 then [32] else [])
abbrev ws0 (l : List Nat) : WSt := wsGo l (0, 0, 0, [])
def lessW (l l' : List Nat) : Bool := lessV (ws0 l).1 (ws0 l).2.1 (ws0 l').1 (ws0 l').2.1 (ws0 l).2.2.2 (ws0 l').2.2.2 (ws0 l).2.2.1 (ws0 l').2.2.1 (decide (((ws0 l).2.2.2.length : Int) ≤ 1)) (decide (((ws0 l').2.2.2.length : Int) ≤ 1))
def eqW (l l' : List Nat) : Bool := (ws0 l).2.2.2 == (ws0 l').2.2.2 && (ws0 l).2.2.1 == (ws0 l').2.2.1
theorem lessW_eq : ∀ a < 10, ∀ b < 10, ∀ u < 3, lessW (leadL a u) (leadL b u) = decide (a < b) := by decide +kernel
theorem eqW_eq : ∀ a < 10, ∀ b < 10, ∀ u < 3, eqW (leadL a u) (leadL b u) = (a == b) := by decide +kernel
theorem lead_short : ∀ a < 10, ∀ u < 3, (ws0 (leadL a u)).2.2.2.length ≤ 10 ∧ (ws0 (leadL a u)).2.2.1 ≤ 10 := by decide +kernel
theorem tab_less : ∀ a < 8, 0 < a → lessW (leadL a 1) (leadL 8 0) = false := by decide +kernel
theorem tab_eq : ∀ a < 8, 0 < a → eqW (leadL a 1) (leadL a 0) = false := by decide +kernel
/-- pairs of rows of which the first isn't less than the second but less than the second sent twice more -/
def pairsL (ds : List Nat) : List Nat := (List.range 6).flatMap fun j => (List.range j).filter fun i =>
  !(decide (ds.getD i 0 + 2 < ds.getD j 0 + 2)) && decide (ds.getD i 0 + 2 < ds.getD j 0 + 4)
/-- one turn of the second text -/
def secTurn (ds : List Nat) (n : Nat) (s : List Nat) : List Nat := ds.foldl (fun s d => (if (d + 2 == n) = true then (if (d + 2 == n + 1) = true then s ++ [40] else s) ++ [41] else (if (d + 2 == n + 1) = true then s ++ [40] else s))) s
def secondL (ds : List Nat) : List Nat := (List.range 7).foldl (fun s t => secTurn ds (t + 1) s) []
def orderL (ds : List Nat) : List Nat := (List.range 6).flatMap fun deep => (List.range 6).filter fun k => ds.getD k 0 == deep
/-- the row around a row -/
def absStep : List Nat × List Nat × List Int → Nat → List Nat × List Nat × List Int := fun (p, ds, hs) d => (p.take d ++ [ds.length], ds ++ [d], hs ++ [match (p.take d).getLast? with | some i => (i : Int) | none => -1])
def headsL (ds : List Nat) : List Int := (ds.foldl absStep ([], [], [])).2.2
def dueL (ds : List Nat) : List Int := (orderL ds).map fun k => if 0 ≤ (headsL ds).getD k 0 then (((List.range 6).filter fun m => ((orderL ds).getD m 0 : Int) == (headsL ds).getD k 0).getD 0 0 : Int) else -1
def faL (s : List Nat) : List Int × List Int := s.foldl (fun (f, a) c => if c = 40 then (f ++ [(a.length : Int) - 1], a) else (f, a ++ [(f.length : Int)])) ([], [])
def bounceL (a : List Int) : List Int × Int := (List.range 6).foldl (fun (b, at_) _ => if at_ = 6 then (b, at_) else (b ++ [a.getD at_.toNat 0 - at_], a.getD at_.toNat 0)) ([], 0)
def pageL (ds : List Nat) : List Nat := (ds.flatMap fun d => List.replicate (d + 2) 32 ++ [9]) ++ [46, 32, 9]
def depthsL (s : List Nat) : List Nat := (s.foldl (fun (n, ds) c => if c = 40 then (n + 1, ds ++ [n]) else (n - 1, ds)) (0, [])).2
/-- lists of depths -/
def gen : Nat → List (List Nat)
  | 0 => [[]]
  | n + 1 => (gen n).flatMap fun ds => (List.range ((ds.getLast?.map (· + 1)).getD 0 + 1)).map fun d => ds ++ [d]
end Mine
end

section
open PySem PySem.W PyProof.Rows PySem.Calls
set_option Elab.async false
set_option linter.unusedVariables false
set_option linter.unusedSimpArgs false
set_option maxRecDepth 100000
set_option maxHeartbeats 4000000
namespace Mine
/-! a split at the line ends -/
section
open PySem.StrLaws PySem.Builtin.Str
theorem at_cr {x : Str} {k : Nat} : At x "\r\n" x.length k ↔ (x.cps.toList.drop k).take 2 = [13, 10] := by
  have hl : (Str.ofString "\r\n").length = 2 := by decide +kernel
  have hc : (Str.ofString "\r\n").cps.toList = [13, 10] := by decide +kernel
  constructor
  · intro h
    have h2 := h.2
    rw [subAt_eq, hl, hc] at h2
    exact eq_of_beq h2
  · intro h
    refine ⟨?_, by rw [subAt_eq, hl, hc, h]; rfl⟩
    have := congrArg List.length h
    simp at this
    rw [hl]
    show k + 2 ≤ x.cps.size
    omega
theorem at_char {x : Str} {k : Nat} (h : (x.cps.toList.drop k).take 2 = [13, 10]) : x.cps.toList[k]? = some 13 := by
  have := congrArg (·[0]?) h
  simpa using this
theorem parts_lines {x : Str} : ∀ (lines : List (List Nat)) (a f : Nat) (cuts : List Nat), (∀ l ∈ lines, (13 : Nat) ∉ l) → x.cps.toList.drop a = lines.flatMap (· ++ [13, 10]) → ChainG x "\r\n" x.length a cuts f → (∀ k, f ≤ k → ¬ At x "\r\n" x.length k) →
    partsFrom x 2 a cuts = lines.map mkS ++ [mkS []]
  | [], a, f, [], _, hd, _, _ => by
    show [strSub x a x.length] = [mkS []]
    congr 1
    apply str_ext
    rw [strSub_toList, hd]
    simp [mkS]
  | [], a, f, c :: r, _, hd, hc, _ => by
    obtain ⟨h1, h2, _⟩ := hc
    have h3 := at_char (at_cr.mp h2)
    have h4 : x.cps.toList[c]? = (x.cps.toList.drop a)[c - a]? := by rw [List.getElem?_drop]; congr 1; omega
    rw [h4, hd] at h3
    simp at h3
  | l :: ls, a, f, cuts, hn, hd, hc, hf => by
    have hl : (Str.ofString "\r\n").length = 2 := by decide +kernel
    have hd' : x.cps.toList.drop a = l ++ (13 :: 10 :: ls.flatMap (· ++ [13, 10])) := by rw [hd]; simp
    have hA : At x "\r\n" x.length (a + l.length) := by
      rw [at_cr, ← List.drop_drop, hd']
      simp
    have hno : ∀ k, a ≤ k → k < a + l.length → ¬ At x "\r\n" x.length k := fun k h1 h2 h => by
      have h3 := at_char (at_cr.mp h)
      have h4 : x.cps.toList[k]? = (x.cps.toList.drop a)[k - a]? := by rw [List.getElem?_drop]; congr 1; omega
      rw [h4, hd', List.getElem?_append_left (by omega)] at h3
      exact hn l List.mem_cons_self (List.mem_of_getElem? h3)
    cases cuts with
    | nil =>
      have : f = a := hc
      subst this
      exact absurd hA (hf _ (Nat.le_add_right _ _))
    | cons c r =>
      obtain ⟨h1, h2, h3, h4⟩ := hc
      have hc' : c = a + l.length := by
        rcases Nat.lt_trichotomy c (a + l.length) with q | q | q
        · exact absurd h2 (hno c h1 q)
        · exact q
        · exact absurd hA (h3 _ (Nat.le_add_right _ _) q)
      subst hc'
      show strSub x a (a + l.length) :: partsFrom x 2 (a + l.length + 2) r = mkS l :: (ls.map mkS ++ [mkS []])
      rw [hl] at h4
      have hd2 : x.cps.toList.drop (a + l.length + 2) = ls.flatMap (· ++ [13, 10]) := by
        rw [← List.drop_drop, ← List.drop_drop, hd']
        simp
      rw [parts_lines ls _ f r (fun l' h' => hn l' (List.mem_cons_of_mem _ h')) hd2 h4 hf]
      congr 1
      apply str_ext
      rw [strSub_toList, hd']
      have : a + l.length - a = l.length := by omega
      rw [this]
      simp [mkS]
theorem split_lines {x : Str} (lines : List (List Nat)) (hn : ∀ l ∈ lines, (13 : Nat) ∉ l) (hx : x.cps.toList = lines.flatMap (· ++ [13, 10])) (hne : lines ≠ []) (hk : strKind x = 1) : Txt.split x "\r\n" = lines.map mkS ++ [("" : Str)] := by
  have hl : (Str.ofString "\r\n").length = 2 := by decide +kernel
  obtain ⟨f, h1, h2⟩ := occ_tight x "\r\n" (by rw [hl]; decide)
  have key := parts_lines lines 0 f _ hn (by simpa using hx) h1 h2
  have hsz : 2 ≤ x.length := by
    have := congrArg List.length hx
    cases lines with
    | nil => exact absurd rfl hne
    | cons l ls => simp at this; show 2 ≤ x.cps.size; omega
  unfold Txt.split
  have e1 : (decide (x.length < (Str.ofString "\r\n").length) || decide (strKind x < strKind "\r\n")) = false := by
    have h3 : strKind (Str.ofString "\r\n") = 1 := by decide +kernel
    rw [hl, h3, hk]
    simp; omega
  rw [e1]
  have e0 : (mkS [] : Str) = ("" : Str) := by decide +kernel
  have e2 : (occurrences x "\r\n" 0 x.length (x.length + 1)).isEmpty = false := by
    cases hc : occurrences x "\r\n" 0 x.length (x.length + 1) with
    | cons c r => rfl
    | nil =>
      rw [hc] at key
      cases lines with
      | nil => exact absurd rfl hne
      | cons l ls => have := congrArg List.length key; simp [partsFrom] at this
  rw [e2, partsBetween_eq, hl, key, e0]
  simp
end

/-! line ends and dots -/
def opnC (k : Nat) : Nat := match k with | 0 => 40 | 1 => 91 | _ => 123
def cloC (k : Nat) : Nat := match k with | 0 => 41 | 1 => 93 | _ => 125
theorem opnC_op (k : Nat) : isOp (opnC k) := by unfold opnC isOp; split <;> simp
theorem cloC_cl (k : Nat) : isCl (cloC k) := by unfold cloC isCl; split <;> simp
theorem sym_clo (k : Nat) : (symOf (cloC k) : Int) - 1 = symOf (opnC k) := by unfold opnC cloC; split <;> decide
def endC (e : Nat) : List Nat := match e with | 0 => [10] | 1 => [13] | _ => [13, 10]
abbrev It := Nat × Nat × Nat
def crlf (n k : Nat) : List Nat := List.replicate n 46 ++ [13, 10, 13, 10, opnC k, 46, 13, 10]
def triple (j : Nat) : It → List Nat := fun (d, k, e) => if j = d + 1 then [46] ++ endC e ++ [13, opnC k, 46] ++ endC e else crlf (d + 2 - j) k
def render (j : Nat) (g : List It) : List Nat := g.flatMap (triple j)
theorem opnC_plain (k : Nat) : nl (opnC k) = false ∧ (opnC k == 46) = false ∧ (opnC k == 10) = false := by unfold opnC; split <;> decide
def Fits (r : List Nat) : Prop := r = [] ∨ ∃ t, r = 46 :: t
theorem norm_dots (n : Nat) (r : List Nat) : norm (List.replicate n 46 ++ r) = List.replicate n 46 ++ norm r := by
  induction n with
  | zero => rfl
  | succ n ih => rw [List.replicate_succ, List.cons_append, norm_plain (by decide), ih]; rfl
theorem norm_lf {r : List Nat} (h : Fits r) : norm (10 :: r) = 13 :: 10 :: norm r := by
  rcases h with rfl | ⟨t, rfl⟩
  · rfl
  · rw [norm]; simp
theorem norm_cr {r : List Nat} (h : Fits r) : norm (13 :: r) = 13 :: 10 :: norm r := by
  rcases h with rfl | ⟨t, rfl⟩
  · rfl
  · rw [norm]; simp
theorem norm_crlf (r : List Nat) : norm (13 :: 10 :: r) = 13 :: 10 :: norm r := by rw [norm]; simp
theorem norm_end {r : List Nat} (e : Nat) (h : Fits r) : norm (endC e ++ r) = 13 :: 10 :: norm r := by
  unfold endC
  split
  · exact norm_lf h
  · exact norm_cr h
  · exact norm_crlf r
theorem norm_end13 {r : List Nat} (e c : Nat) (hc : nl c = false) : norm (endC e ++ 13 :: c :: r) = 13 :: 10 :: 13 :: 10 :: norm (c :: r) := by
  have h10 : (c == 10) = false := by unfold nl at hc; rw [Bool.or_eq_false_iff] at hc; exact hc.1
  have h13 : norm (13 :: c :: r) = 13 :: 10 :: norm (c :: r) := by rw [norm, h10]; simp
  unfold endC
  split
  · show norm (10 :: 13 :: c :: r) = _
    rw [norm]; simp [h13]
  · show norm (13 :: 13 :: c :: r) = _
    rw [norm]; simp [h13]
  · show norm (13 :: 10 :: 13 :: c :: r) = _
    rw [norm_crlf, h13]
theorem norm_triple {j : Nat} {x : It} {r : List Nat} (hj : j ≤ x.1 + 1) (h : Fits r) : norm (triple j x ++ r) = crlf (x.1 + 2 - j) x.2.1 ++ norm r := by
  obtain ⟨d, k, e⟩ := x
  unfold triple
  dsimp only
  by_cases hd : j = d + 1
  · rw [if_pos hd]
    have e1 : d + 2 - j = 1 := by omega
    rw [e1]
    show norm (([46] ++ endC e ++ [13, opnC k, 46] ++ endC e) ++ r) = _
    simp only [List.append_assoc, List.cons_append, List.nil_append]
    rw [norm_plain (by decide), norm_end13 e _ (opnC_plain k).1, norm_plain (opnC_plain k).1, norm_plain (by decide), norm_end e h]
    rfl
  · rw [if_neg hd]
    unfold crlf
    simp only [List.append_assoc, List.cons_append, List.nil_append]
    rw [norm_dots, norm_crlf, norm_crlf, norm_plain (opnC_plain k).1, norm_plain (by decide), norm_crlf]
theorem fits_render {j : Nat} : ∀ (g : List It), (∀ x ∈ g, j ≤ x.1 + 1) → Fits (render j g)
  | [], _ => .inl rfl
  | x :: g, h => by
    right
    obtain ⟨d, k, e⟩ := x
    have hj := h _ List.mem_cons_self
    unfold render
    rw [List.flatMap_cons]
    unfold triple
    dsimp only
    dsimp only at hj
    by_cases hd : j = d + 1
    · rw [if_pos hd]; exact ⟨_, rfl⟩
    · rw [if_neg hd]
      have : d + 2 - j = (d + 1 - j) + 1 := by omega
      rw [this]
      exact ⟨_, rfl⟩
theorem norm_render {j : Nat} : ∀ (g : List It), (∀ x ∈ g, j ≤ x.1 + 1) → norm (render j g) = g.flatMap fun x => crlf (x.1 + 2 - j) x.2.1
  | [], _ => rfl
  | x :: g, h => by
    rw [List.flatMap_cons]
    show norm (triple j x ++ render j g) = _
    rw [norm_triple (h _ List.mem_cons_self) (fits_render g fun y hy => h y (List.mem_cons_of_mem _ hy)), norm_render g fun y hy => h y (List.mem_cons_of_mem _ hy)]
theorem dots_false (n : Nat) (r : List Nat) : dots false (List.replicate n 46 ++ r) = List.replicate n 46 ++ dots false r := by
  induction n with
  | zero => rfl
  | succ n ih => rw [List.replicate_succ, List.cons_append, dots_cons]; simp [ih]
theorem dots_crlf {n k : Nat} {r : List Nat} (hn : 0 < n) : dots true (crlf n k ++ r) = crlf (n + 1) k ++ dots true r := by
  obtain ⟨m, rfl⟩ : ∃ m, n = m + 1 := ⟨n - 1, by omega⟩
  unfold crlf
  obtain ⟨_, h2, h3⟩ := opnC_plain k
  rw [List.replicate_succ, List.cons_append, List.cons_append, dots_cons]
  simp only [List.append_assoc, dots_false]
  simp [dots_cons, h2, h3, List.replicate_succ, dots_false]
theorem quoted_mk (l : List Nat) : quoted (mkS l) = mkS (dots true (norm l)) := rfl
theorem quoted_render {j : Nat} (g : List It) (h : ∀ x ∈ g, j + 1 ≤ x.1 + 1) : quoted (mkS (render (j + 1) g)) = mkS (render j g) := by
  rw [quoted_mk, norm_render g h]
  congr 1
  induction g with
  | nil => rfl
  | cons x g ih =>
    have hx := h _ List.mem_cons_self
    rw [List.flatMap_cons]
    show _ = triple j x ++ render j g
    rw [dots_crlf (by omega), ih fun y hy => h y (List.mem_cons_of_mem _ hy)]
    congr 1
    obtain ⟨d, k, e⟩ := x
    unfold triple
    dsimp only at hx ⊢
    rw [if_neg (by omega)]
    congr 1
    omega
end Mine
end

section
open PySem PySem.W PyProof.Rows PySem.Calls
set_option Elab.async false
set_option linter.unusedVariables false
set_option linter.unusedSimpArgs false
set_option maxRecDepth 100000
set_option maxHeartbeats 4000000
namespace Mine
/-! what the loop of _law_rows makes of a text that the law has written -/
theorem Run.append {es : List Str} {a b : List Nat} {p p' p'' : List Str} {o o' o'' : List Int} {m m' m'' : List Str} (h : Run es a p o m p' o' m') (h2 : Run es b p' o' m' p'' o'' m'') : Run es (a ++ b) p o m p'' o'' m'' := by
  induction h with
  | nil => exact h2
  | opn h1 h2' h3 h4 h5 h6 _ ih => exact .opn h1 h2' h3 h4 h5 h6 (ih h2)
  | cls h1 h2' h3 h4 h5 h6 h7 _ ih => exact .cls h1 h2' h3 h4 h5 h6 h7 (ih h2)
def pileS : Nat → List (List It) → List Str
  | _, [] => []
  | j, g :: r => mkS (render j g) :: pileS (j + 1) r
theorem pileS_append : ∀ (G H : List (List It)) (j : Nat), pileS j (G ++ H) = pileS j G ++ pileS (j + G.length) H
  | [], H, j => by simp [pileS]
  | g :: G, H, j => by
    show mkS _ :: pileS (j + 1) (G ++ H) = _
    rw [pileS_append G H (j + 1)]
    simp only [List.length_cons, pileS, List.cons_append]
    congr 3
    omega
theorem pileS_length : ∀ (G : List (List It)) (j : Nat), (pileS j G).length = G.length
  | [], _ => rfl
  | g :: G, j => by simp [pileS, pileS_length G (j + 1)]
def marksOf (its : List It) : List Str := its.flatMap fun x => [("" : Str), (⟨#[opnC x.2.1]⟩ : Str) ++ ("." : Str)]
theorem marksOf_length : ∀ its : List It, (marksOf its).length = 2 * its.length
  | [] => rfl
  | x :: r => by
    have := marksOf_length r
    unfold marksOf at this ⊢
    rw [List.flatMap_cons, List.length_append, this]
    simp; omega
theorem triple_len (j : Nat) (x : It) : (triple j x).length ≤ x.1 + 10 := by
  obtain ⟨d, k, e⟩ := x
  unfold triple
  have he : (endC e).length ≤ 2 := by unfold endC; split <;> simp
  dsimp only
  split
  · simp; omega
  · unfold crlf; simp
theorem render_len (j : Nat) : ∀ (g : List It), (∀ x ∈ g, x.1 ≤ 10) → (render j g).length ≤ 20 * g.length
  | [], _ => Nat.zero_le _
  | x :: g, h => by
    have := render_len j g fun y hy => h y (List.mem_cons_of_mem _ hy)
    have h1 := triple_len j x
    have h2 := h x List.mem_cons_self
    unfold render at this ⊢
    rw [List.flatMap_cons, List.length_append, List.length_cons]
    omega
theorem norm_len : ∀ l : List Nat, (norm l).length ≤ 2 * l.length
  | [] => Nat.zero_le _
  | [c] => by rw [norm]; split <;> simp
  | c :: d :: r => by
    rw [norm]
    split
    · have := norm_len r; simp; omega
    · split
      · have := norm_len (d :: r); simp at this ⊢; omega
      · have := norm_len (d :: r); simp at this ⊢; omega
theorem mkS_append (a b : List Nat) : mkS a ++ mkS b = mkS (a ++ b) := by
  apply str_ext
  simp [mkS, Str.cps_append]

structure St (es : List Str) (its : List It) (s : List Nat) (pk : List Nat) (G : List (List It)) : Prop where
  run : Run es s [("" : Str)] [] [] (pileS 0 G) (pk.map fun k => (symOf (opnC k) : Int)) (marksOf its)
  len : G.length = pk.length + 1
  mem : ∀ j g, G[j]? = some g → ∀ x ∈ g, j ≤ x.1 + 1
  flat : G.flatten = its
  small : its.length ≤ 50
  deep : ∀ x ∈ its, x.1 ≤ 10
theorem St.start {es : List Str} : St es [] [] [] [[]] where
  run := Run.nil
  len := rfl
  mem := fun j g h x hx => by
    cases j with
    | zero => simp at h; rw [h] at hx; cases hx
    | succ j => simp at h
  flat := rfl
  small := Nat.zero_le _
  deep := fun _ h => nomatch h
theorem flat_mem {G : List (List It)} {j : Nat} {g : List It} (h : G[j]? = some g) {its : List It} (hf : G.flatten = its) : (∀ x ∈ g, x ∈ its) ∧ g.length ≤ its.length := by
  have hm := List.mem_of_getElem? h
  subst hf
  refine ⟨fun x hx => List.mem_flatten.mpr ⟨g, hm, hx⟩, ?_⟩
  clear h
  induction G with
  | nil => cases hm
  | cons a r ih =>
    rw [List.flatten_cons, List.length_append]
    rcases List.mem_cons.mp hm with rfl | q
    · omega
    · have := ih q; omega
theorem opnS_eq (c e : Nat) : opnS c (mkS (endC e)) = mkS ([46] ++ endC e ++ [13, c, 46] ++ endC e) := by
  have h1 : ("." : Str) = mkS [46] := by decide +kernel
  have h2 : ("\r" : Str) = mkS [13] := by decide +kernel
  have h3 : (⟨#[c]⟩ : Str) = mkS [c] := rfl
  unfold opnS
  rw [h1, h2, h3]
  simp only [mkS_append]
  simp
theorem St.close1 {es its s pk k G g1 g2} (h : St es its s (pk ++ [k]) (G ++ [g1] ++ [g2])) (hk : pk.length ≤ 900) : St es its (s ++ [cloC k]) pk (G ++ [g1 ++ g2]) := by
  have hG : G.length = pk.length := by have := h.len; simp at this; omega
  have e1 : pileS 0 (G ++ [g1] ++ [g2]) = pileS 0 G ++ [mkS (render pk.length g1)] ++ [mkS (render (pk.length + 1) g2)] := by
    rw [pileS_append, pileS_append]
    simp [pileS, hG]
  have m2 : ∀ x ∈ g2, pk.length + 1 ≤ x.1 + 1 := h.mem (pk.length + 1) g2 (by simp [hG])
  have b1 := flat_mem (j := pk.length) (g := g1) (by simp [hG]) h.flat
  have b2 := flat_mem (j := pk.length + 1) (g := g2) (by simp [hG]) h.flat
  have l1 := render_len pk.length g1 fun x hx => h.deep x (b1.1 x hx)
  have l2 := render_len (pk.length + 1) g2 fun x hx => h.deep x (b2.1 x hx)
  have l3 := render_len pk.length g2 fun x hx => h.deep x (b2.1 x hx)
  have hs := h.small
  have hq := quoted_render g2 m2
  have r := h.run
  rw [e1, List.map_append, List.map_cons, List.map_nil] at r
  refine ⟨r.append ?_, by simp; omega, fun j g hj x hx => ?_, ?_, h.small, h.deep⟩
  · rw [show (symOf (opnC k) : Int) = (symOf (cloC k) : Int) - 1 from (sym_clo k).symm]
    refine Run.cls (cloC_cl k) ?_ ?_ ?_ ?_ ?_ ?_ ?_
    · show (render _ g2).length ≤ _; omega
    · have := norm_len (render (pk.length + 1) g2)
      show (norm (render _ g2)).length ≤ _
      omega
    · rw [hq]; show (render _ g2).length ≤ _; omega
    · show (render _ g1).length ≤ _; omega
    · rw [pileS_length]; omega
    · simp; omega
    · rw [hq, mkS_append]
      have e2 : pileS 0 (G ++ [g1 ++ g2]) = pileS 0 G ++ [mkS (render pk.length g1 ++ render pk.length g2)] := by
        rw [pileS_append]
        simp [pileS, hG, render, List.flatMap_append]
      rw [e2]
      exact .nil
  · rcases Nat.lt_trichotomy j G.length with q | q | q
    · rw [List.getElem?_append_left q] at hj
      exact h.mem j g (by rw [List.append_assoc, List.getElem?_append_left q]; exact hj) x hx
    · subst q
      simp at hj
      subst hj
      rcases List.mem_append.mp hx with hx | hx
      · exact h.mem G.length g1 (by simp) x hx
      · have := m2 x hx; omega
    · rw [List.getElem?_append_right (by omega)] at hj
      have : j - G.length = (j - G.length - 1) + 1 := by omega
      rw [this] at hj
      simp at hj
  · have := h.flat
    simp at this ⊢
    exact this
theorem St.closeN {es its} : ∀ (ks pk : List Nat) (s : List Nat) (G : List (List It)), pk.length + ks.length ≤ 900 → St es its s (pk ++ ks) G → ∃ G', St es its (s ++ ks.reverse.map cloC) pk G' := by
  intro ks
  induction hn : ks.length generalizing ks with
  | zero =>
    intro pk s G hl h
    have : ks = [] := List.length_eq_zero_iff.mp hn
    subst this
    exact ⟨G, by simpa using h⟩
  | succ n ih =>
    intro pk s G hl h
    obtain ⟨k0, k, rfl⟩ : ∃ k0 k, ks = k0 ++ [k] := ⟨ks.dropLast, ks.getLast (fun q => by rw [q] at hn; cases hn), (List.dropLast_concat_getLast _).symm⟩
    have hG := h.len
    simp at hn hG
    obtain ⟨G0, g1, g2, rfl⟩ : ∃ G0 g1 g2, G = G0 ++ [g1] ++ [g2] := by
      have n1 : G ≠ [] := fun q => by rw [q] at hG; simp at hG
      refine ⟨G.dropLast.dropLast, G.dropLast.getLast (fun q => ?_), G.getLast n1, ?_⟩
      · have := congrArg List.length q; simp at this; omega
      · rw [List.dropLast_concat_getLast, List.dropLast_concat_getLast]
    rw [← List.append_assoc] at h
    have h1 := h.close1 (by simp; omega)
    obtain ⟨G', h2⟩ := ih k0 (by omega) pk _ _ (by omega) h1
    refine ⟨G', ?_⟩
    have e : s ++ (k0 ++ [k]).reverse.map cloC = s ++ [cloC k] ++ k0.reverse.map cloC := by simp
    rw [e]
    exact h2
theorem St.open1 {es its s pk G} (h : St es its s pk G) (k e : Nat) (hp : pk.length ≤ 10) (hl : its.length < 50) (he : es[its.length]? = some (mkS (endC e))) : St es (its ++ [(pk.length, k, e)]) (s ++ [opnC k]) (pk ++ [k]) (G ++ [[(pk.length, k, e)]]) := by
  have hG := h.len
  refine ⟨h.run.append ?_, by simp [hG], fun j g hj x hx => ?_, by simp [h.flat], by simp; omega, fun x hx => ?_⟩
  · refine Run.opn (opnC_op k) (e := mkS (endC e)) ?_ ?_ ?_ ?_ ?_ ?_
    · rw [marksOf_length]
      have : 2 * its.length / 2 = its.length := by omega
      rw [this]; exact he
    · show (endC e).length ≤ 2
      unfold endC; split <;> simp
    · rw [marksOf_length]; omega
    · rw [pileS_length]; omega
    · simp; omega
    · have e1 : pileS 0 (G ++ [[(pk.length, k, e)]]) = pileS 0 G ++ [opnS (opnC k) (mkS (endC e))] := by
        rw [pileS_append, opnS_eq]
        simp [pileS, render, triple, hG]
      have e2 : marksOf (its ++ [(pk.length, k, e)]) = marksOf its ++ [("" : Str), (⟨#[opnC k]⟩ : Str) ++ ("." : Str)] := by
        unfold marksOf
        rw [List.flatMap_append]
        rfl
      rw [e1, e2, List.map_append]
      exact .nil
  · rcases Nat.lt_trichotomy j G.length with q | q | q
    · rw [List.getElem?_append_left q] at hj
      exact h.mem j g hj x hx
    · subst q
      simp at hj
      subst hj
      simp at hx
      subst hx
      dsimp only
      omega
    · rw [List.getElem?_append_right (by omega)] at hj
      have : j - G.length = (j - G.length - 1) + 1 := by omega
      rw [this] at hj
      simp at hj
  · rcases List.mem_append.mp hx with hx | hx
    · exact h.deep x hx
    · simp at hx; subst hx; exact hp
/-- the text of a page: what a turn writes -/
def wStep : List Nat × List Nat → Nat × Nat → List Nat × List Nat := fun (pk, s) (d, k) => (pk.take d ++ [k], s ++ (pk.drop d).reverse.map cloC ++ [opnC k])
theorem St.turn {es its s pk G} (h : St es its s pk G) (d k e : Nat) (hd : d ≤ pk.length) (hp : pk.length ≤ 10) (hl : its.length < 50) (he : es[its.length]? = some (mkS (endC e))) :
    ∃ G', St es (its ++ [(d, k, e)]) (wStep (pk, s) (d, k)).2 (wStep (pk, s) (d, k)).1 G' := by
  have hx : pk = pk.take d ++ pk.drop d := (List.take_append_drop d pk).symm
  rw [hx] at h
  obtain ⟨G', h2⟩ := St.closeN (pk.drop d) (pk.take d) s G (by simp; omega) h
  have hlen : (pk.take d).length = d := by simp; omega
  have h3 := h2.open1 k e (by omega) hl he
  rw [hlen] at h3
  exact ⟨_, h3⟩
end Mine
end

section
open PySem PySem.W PyProof.Rows PySem.Calls
set_option Elab.async false
set_option linter.unusedVariables false
set_option linter.unusedSimpArgs false
set_option maxRecDepth 100000
set_option maxHeartbeats 4000000
namespace Mine
def dotsS (n : Nat) : Str := mkS (List.replicate n 46)
theorem slice1_cons (c : Nat) (l : List Nat) : PySem.Txt.slice (mkS (c :: l)) none (some 1) = mkS [c] := by
  have h := StrLaws.sliceText_to (x := mkS (c :: l)) (j := 1) ⟨by decide, by simp [mkS]; omega⟩
  have e : PySem.Txt.slice (mkS (c :: l)) none (some 1) = StrLaws.sliceText (mkS (c :: l)) none (some 1) := rfl
  rw [e, h]
  apply str_ext
  simp [mkS]
theorem slice1_empty : PySem.Txt.slice "" none (some 1) = ("" : Str) := by decide +kernel
def linesOf (its : List It) : List (List Nat) := its.flatMap fun x => [List.replicate (x.1 + 2) 46, [], [opnC x.2.1, 46]]
def rowsOf (its : List It) : List Str := (linesOf its).map mkS
theorem rowsOf_cons (x : It) (its : List It) : rowsOf (x :: its) = dotsS (x.1 + 2) :: ("" : Str) :: mkS [opnC x.2.1, 46] :: rowsOf its := by
  unfold rowsOf linesOf
  have e0 : (mkS [] : Str) = ("" : Str) := by decide +kernel
  rw [List.flatMap_cons]
  simp [dotsS, e0]
theorem rowsOf_length : ∀ its : List It, (rowsOf its).length = 3 * its.length
  | [] => rfl
  | x :: r => by rw [rowsOf_cons]; simp [rowsOf_length r]; omega
theorem opn_ne_dot (k : Nat) : (mkS [opnC k] != (Str.ofString ".")) = true := by unfold opnC; split <;> decide +kernel
theorem rowsOf_marks : ∀ its : List It, ((rowsOf its).filter fun r => PySem.Txt.slice r none (some 1) != ".") = marksOf its
  | [] => rfl
  | x :: r => by
    have e1 : (PySem.Txt.slice (dotsS (x.1 + 2)) none (some 1) != ".") = false := by
      unfold dotsS
      rw [List.replicate_succ, slice1_cons]
      decide +kernel
    have e2 : (PySem.Txt.slice "" none (some 1) != ".") = true := by rw [slice1_empty]; decide +kernel
    have e3 : (PySem.Txt.slice (mkS [opnC x.2.1, 46]) none (some 1) != ".") = true := by rw [slice1_cons]; exact opn_ne_dot _
    have e4 : (⟨#[opnC x.2.1]⟩ : Str) ++ ("." : Str) = mkS [opnC x.2.1, 46] := by
      have h1 : ("." : Str) = mkS [46] := by decide +kernel
      rw [h1]
      exact mkS_append [opnC x.2.1] [46]
    rw [rowsOf_cons, List.filter_cons, if_neg (by rw [e1]; simp), List.filter_cons, if_pos e2, List.filter_cons, if_pos e3, rowsOf_marks r]
    unfold marksOf
    rw [List.flatMap_cons, e4]
    rfl
theorem rowsOf_get : ∀ (its : List It), ((List.range its.length).map fun i => PV.str ((rowsOf its).getD (3 * i) "")) = its.map fun x => PV.str (dotsS (x.1 + 2))
  | [] => rfl
  | x :: r => by
    rw [List.length_cons, List.range_succ_eq_map, List.map_cons, List.map_cons, List.map_map, ← rowsOf_get r, rowsOf_cons]
    congr 1
theorem opnC_lt (k : Nat) : opnC k < 256 ∧ opnC k ≠ 13 := by unfold opnC; split <;> decide
theorem lines_lt (its : List It) : ∀ l ∈ linesOf its, ∀ c ∈ l, c < 256 ∧ c ≠ 13 := by
  intro l hl c hc
  unfold linesOf at hl
  obtain ⟨x, hx, hl⟩ := List.mem_flatMap.mp hl
  simp only [List.mem_cons, List.not_mem_nil, or_false] at hl
  rcases hl with rfl | rfl | rfl
  · have := (List.mem_replicate.mp hc).2; omega
  · cases hc
  · simp only [List.mem_cons, List.not_mem_nil, or_false] at hc
    rcases hc with rfl | rfl
    · exact opnC_lt _
    · decide
theorem render0 : ∀ its : List It, render 0 its = (linesOf its).flatMap (· ++ [13, 10])
  | [] => rfl
  | x :: r => by
    have := render0 r
    unfold render linesOf at this ⊢
    rw [List.flatMap_cons, this, List.flatMap_cons, List.flatMap_append]
    congr 1
    obtain ⟨d, k, e⟩ := x
    unfold triple crlf
    dsimp only
    rw [if_neg (by omega)]
    simp
theorem lines_len (its : List It) (h : ∀ x ∈ its, x.1 ≤ 10) : ∀ l ∈ linesOf its, l.length ≤ 12 := by
  intro l hl
  unfold linesOf at hl
  obtain ⟨x, hx, hl⟩ := List.mem_flatMap.mp hl
  have := h x hx
  simp only [List.mem_cons, List.not_mem_nil, or_false] at hl
  rcases hl with rfl | rfl | rfl <;> simp <;> omega
theorem rows_fn {es : List Str} {its : List It} {s : List Nat} {G : List (List It)} (h : St es its s [] G) (hne : its ≠ []) : Fn KF 2 (.ref 136) [.str (mkS s), .list (es.map PV.str)] (.list (its.map fun x => PV.str (dotsS (x.1 + 2)))) := by
  have hG : G = [its] := by
    have := h.len
    match G, this, h.flat with
    | [g], _, hf => simp at hf; rw [hf]
  subst hG
  have hr : Run es s [("" : Str)] [] [] [mkS (render 0 its)] [] (marksOf its) := h.run
  have hl := render_len 0 its h.deep
  have hs := h.small
  have hlt := lines_lt its
  have hcps : (mkS (render 0 its)).cps.toList = (linesOf its).flatMap (· ++ [13, 10]) := render0 its
  have hne' : linesOf its ≠ [] := by
    cases its with
    | nil => exact absurd rfl hne
    | cons x r => unfold linesOf; rw [List.flatMap_cons]; simp
  have hsplit := split_lines (x := mkS (render 0 its)) (linesOf its) (fun l hl h => (hlt l hl 13 h).2 rfl) hcps hne' (by
    unfold Builtin.Str.strKind
    have : (mkS (render 0 its)).cps.all (· < 256) = true := by
      rw [← Array.all_toList, hcps, List.all_eq_true]
      intro c hc
      obtain ⟨l, hl, hc⟩ := List.mem_flatMap.mp hc
      rcases List.mem_append.mp hc with hc | hc
      · exact decide_eq_true (hlt l hl c hc).1
      · simp only [List.mem_cons, List.not_mem_nil, or_false] at hc
        rcases hc with rfl | rfl <;> decide
    rw [this]; rfl)
  have key := rows_ok (mkS s) s es (mkS (render 0 its)) (marksOf its) (rowsOf its) rfl hr (by show (render 0 its).length ≤ _; omega) hsplit (fun r hr => ?_) (by rw [rowsOf_length]; omega) (fun r hr => ?_) (rowsOf_marks its) (by rw [rowsOf_length, marksOf_length]; omega)
  · have e : (rowsOf its).length / 3 = its.length := by rw [rowsOf_length]; omega
    rw [e, rowsOf_get] at key
    exact key
  · obtain ⟨l, hl, rfl⟩ := List.mem_map.mp hr
    exact Nat.le_trans (lines_len its h.deep l hl) (by decide)
  · obtain ⟨l, hl, rfl⟩ := List.mem_map.mp hr
    unfold PyData.strOk
    rw [← Array.all_toList, List.all_eq_true]
    intro c hc
    have := (hlt l hl c hc).1
    exact decide_eq_true (by omega)
/-- the text that a list of depths and kinds gives -/
def wordK (its : List (Nat × Nat)) : List Nat := let st := its.foldl wStep ([], []); st.2 ++ st.1.reverse.map cloC
def okD : List Nat → Nat → Bool
  | [], _ => true
  | d :: r, n => decide (d ≤ n) && okD r (d + 1)
theorem St.fold {es : List Str} : ∀ (xs its : List It) (s pk : List Nat) (G : List (List It)), St es its s pk G → okD (xs.map (·.1)) pk.length = true → pk.length + xs.length ≤ 11 → its.length + xs.length ≤ 50 → (∀ i x, xs[i]? = some x → es[its.length + i]? = some (mkS (endC x.2.2))) →
    ∃ G', St es (its ++ xs) ((xs.map fun x => (x.1, x.2.1)).foldl wStep (pk, s)).2 ((xs.map fun x => (x.1, x.2.1)).foldl wStep (pk, s)).1 G' ∧ ((xs.map fun x => (x.1, x.2.1)).foldl wStep (pk, s)).1.length ≤ 11
  | [], its, s, pk, G, h, _, hp, _, _ => ⟨G, by simpa using h, by simpa using hp⟩
  | x :: xs, its, s, pk, G, h, ho, hp, hl, he => by
    obtain ⟨d, k, e⟩ := x
    rw [List.map_cons] at ho
    unfold okD at ho
    rw [Bool.and_eq_true] at ho
    have hd : d ≤ pk.length := of_decide_eq_true ho.1
    rw [List.length_cons] at hp hl
    obtain ⟨G1, h1⟩ := h.turn d k e hd (by omega) (by omega) (he 0 _ rfl)
    have hlen : (wStep (pk, s) (d, k)).1.length = d + 1 := by simp [wStep]; omega
    obtain ⟨G2, h2, h3⟩ := St.fold xs (its ++ [(d, k, e)]) _ _ G1 h1 (by rw [hlen]; exact ho.2) (by rw [hlen]; omega) (by simp; omega) (fun i y hy => by
      have := he (i + 1) y (by simpa using hy)
      rw [List.length_append]
      have e1 : its.length + [(d, k, e)].length + i = its.length + (i + 1) := by simp; omega
      rw [e1]; exact this)
    refine ⟨G2, ?_, h3⟩
    rw [List.append_assoc] at h2
    exact h2
theorem rows_word {es : List Str} (xs : List It) (ho : okD (xs.map (·.1)) 0 = true) (hl : xs.length ≤ 11) (hne : xs ≠ []) (he : ∀ (i : Nat) (x : It), xs[i]? = some x → es[i]? = some (mkS (endC x.2.2))) :
    Fn KF 2 (.ref 136) [.str (mkS (wordK (xs.map fun x => (x.1, x.2.1)))), .list (es.map PV.str)] (.list (xs.map fun x => PV.str (dotsS (x.1 + 2)))) := by
  obtain ⟨G, h, h2⟩ := St.fold xs [] [] [] [[]] (St.start (es := es)) ho (by simpa using hl) (by simp; omega) (fun i x hx => by simpa using he i x hx)
  rw [List.nil_append] at h
  obtain ⟨G', h'⟩ := St.closeN ((xs.map fun x => (x.1, x.2.1)).foldl wStep ([], [])).1 [] _ G (by simp; omega) (by rw [List.nil_append]; exact h)
  exact rows_fn h' hne
end Mine
end

section
open PySem PySem.W PyProof.Rows PySem.Calls
set_option Elab.async false
set_option linter.unusedVariables false
set_option linter.unusedSimpArgs false
set_option maxRecDepth 100000
set_option maxHeartbeats 4000000
namespace Mine
def unitS (u : Nat) : Str := match u with | 0 => "   " | 1 => "\t\t\t" | _ => " \t "
theorem cut_lo (u : Nat) : Cut (unitS u) none (some 2) := by
  intro l r hl hr
  cases l with
  | some x => cases hl
  | none =>
    cases r with
    | none => cases hr
    | some x =>
      obtain ⟨z, t⟩ := x
      cases hr
      unfold unitS
      split <;> exact ⟨_, rfl, fun t => by rfl, by decide +kernel⟩
theorem cut_hi (u : Nat) : Cut (unitS u) (some 2) none := by
  intro l r hl hr
  cases r with
  | some x => cases hr
  | none =>
    cases l with
    | none => cases hl
    | some x =>
      obtain ⟨z, t⟩ := x
      cases hl
      unfold unitS
      split <;> exact ⟨_, rfl, fun t => by rfl, by decide +kernel⟩
theorem leadS_eq : ∀ n < 10, ∀ u < 3, leadS (dotsS n) (unitS u) = mkS (leadL n u) := by decide +kernel
theorem lead_b1 : ∀ n < 10, ∀ u < 3, (dotsS n).length + ((dotsS n).length + 1) * (PySem.Txt.slice (unitS u) none (some 2)).length ≤ 16777216 := by decide +kernel
theorem lead_b2 : ∀ n < 10, ∀ u < 3, (Txt.replace (dotsS n) ".." (PySem.Txt.slice (unitS u) none (some 2))).length + ((Txt.replace (dotsS n) ".." (PySem.Txt.slice (unitS u) none (some 2))).length + 1) * (PySem.Txt.slice (unitS u) (some 2) none).length ≤ 16777216 := by decide +kernel
theorem leadL_size : ∀ n < 10, ∀ u < 3, (leadL n u).length ≤ 20 := by decide +kernel
/-- a lead as an object -/
def LD (n u : Nat) : PV := wsOf (mkS (leadL n u))
theorem lead_fn {n u : Nat} (hn : n < 10) (hu : u < 3) : Fn KF 3 (.ref 143) [.str (dotsS n), .str (unitS u)] (LD n u) := by
  have e := leadS_eq n hn u hu
  have key := law_lead_ok (dotsS n) (unitS u) (cut_lo u) (cut_hi u) (lead_b1 n hn u hu) (lead_b2 n hn u hu) (by rw [e]; have := leadL_size n hn u hu; show (leadL n u).length ≤ _; omega)
    (by rw [e]; have := (lead_short n hn u hu).1; show (ws0 (leadL n u)).2.2.2.length ≤ _; omega)
  rw [e] at key
  exact key
theorem norm_dotsS (n : Nat) : norm (List.replicate n 46) = List.replicate n 46 := by
  have := norm_dots n []
  simpa [norm] using this
theorem quote_dots (n : Nat) : quoted (dotsS (n + 1)) = dotsS (n + 2) := by
  unfold dotsS
  rw [quoted_mk, norm_dotsS, List.replicate_succ, dots_cons]
  have := dots_false n []
  simp only [List.append_nil] at this
  simp [this, List.replicate_succ, dots]
theorem quote_fn {n : Nat} (hn : n ≤ 100) : Fn KF 1 (.ref 55) [.str (dotsS (n + 1))] (.str (dotsS (n + 2))) := by
  have e := quote_dots n
  have key := quotedata_ok (dotsS (n + 1)) (by simp [dotsS, mkS]; omega) (by
    show (norm (List.replicate (n + 1) 46)).length ≤ _
    rw [norm_dotsS]; simp; omega) (by rw [e]; simp [dotsS, mkS]; omega)
  rw [e] at key
  exact key
theorem WS_of (l : List Nat) : wsOf (mkS l) = WS (mkS l) (ws0 l).1 (ws0 l).2.1 (ws0 l).2.2.2 (ws0 l).2.2.1 (decide (((ws0 l).2.2.2.length : Int) ≤ 1)) := rfl
theorem less_fn (a b : List Nat) (ha : (ws0 a).2.2.2.length ≤ 10 ∧ (ws0 a).2.2.1 ≤ 10) (hb : (ws0 b).2.2.2.length ≤ 10 ∧ (ws0 b).2.2.1 ≤ 10) : Fn KF 2 (.ref 107) [wsOf (mkS a), wsOf (mkS b)] (.bool (lessW a b)) := by
  rw [WS_of, WS_of]
  exact less_ok (by omega) (by omega) (by omega) (by omega)
theorem eqP_ints : ∀ a b : List Int, eqP (.tuple (a.map PV.int)) (.tuple (b.map PV.int)) = (a == b)
  | [], [] => rfl
  | [], _ :: _ => rfl
  | _ :: _, [] => rfl
  | x :: a, y :: b => by
    have := eqP_ints a b
    show ((x == y) && eqP (.tuple (a.map PV.int)) (.tuple (b.map PV.int))) = (x :: a == y :: b)
    rw [this]; rfl
theorem eqP_norm (c c' : List Int) (b b' : Int) : eqP (NormPV c b) (NormPV c' b') = ((c == c') && (b == b')) := by
  show (eqP (.tuple (c.map PV.int)) (.tuple (c'.map PV.int)) && ((b == b') && true)) = _
  rw [eqP_ints]; simp
theorem eq_fn (a b : List Nat) : Fn KF 1 (.ref 93) [wsOf (mkS a), wsOf (mkS b)] (.bool (eqW a b)) := by
  have key := equal_ok (mkS a) (mkS b) (ws0 a).1 (ws0 a).2.1 (ws0 b).1 (ws0 b).2.1 (ws0 a).2.2.2 (ws0 b).2.2.2 (ws0 a).2.2.1 (ws0 b).2.2.1 (decide (((ws0 a).2.2.2.length : Int) ≤ 1)) (decide (((ws0 b).2.2.2.length : Int) ≤ 1))
  rw [eqP_norm] at key
  rw [WS_of, WS_of]
  have e : eqW a b = ((ws0 a).2.2.2 == (ws0 b).2.2.2 && ((ws0 a).2.2.1 : Int) == ((ws0 b).2.2.1 : Int)) := by
    unfold eqW
    congr 1
    rw [Bool.eq_iff_iff]; simp; omega
  rw [e]
  exact key
theorem less_LD {a b u : Nat} (ha : a < 10) (hb : b < 10) (hu : u < 3) : Fn KF 2 (.ref 107) [LD a u, LD b u] (.bool (decide (a < b))) := by
  rw [← lessW_eq a ha b hb u hu]
  exact less_fn _ _ (lead_short a ha u hu) (lead_short b hb u hu)
theorem eq_LD {a b u : Nat} (ha : a < 10) (hb : b < 10) (hu : u < 3) : Fn KF 1 (.ref 93) [LD a u, LD b u] (.bool (a == b)) := by
  rw [← eqW_eq a ha b hb u hu]
  exact eq_fn _ _
theorem tabs_less {a : Nat} (ha : a < 8) (h0 : 0 < a) : Fn KF 2 (.ref 107) [LD a 1, LD 8 0] (.bool false) := by
  rw [← tab_less a ha h0]
  exact less_fn _ _ (lead_short a (by omega) 1 (by decide)) (lead_short 8 (by decide) 0 (by decide))
theorem tabs_eq {a : Nat} (ha : a < 8) (h0 : 0 < a) : Fn KF 1 (.ref 93) [LD a 1, LD a 0] (.bool false) := by
  rw [← tab_eq a ha h0]
  exact eq_fn _ _
/-! the norm of a page -/
theorem page_row : ∀ d < 8, pageRow (dotsS (d + 2)) = mkS (List.replicate (d + 2) 32 ++ [9]) := by decide +kernel
theorem page_size : ∀ d < 8, (dotsS (d + 2)).length + ((dotsS (d + 2)).length + 1) * Str.length " " ≤ 16777216 ∧ (Txt.replace (dotsS (d + 2)) "." " ").length + Str.length "\t" ≤ sizeLine := by decide +kernel
theorem join_mk : ∀ ls : List (List Nat), Txt.join "" (ls.map mkS) = mkS ls.flatten := by
  intro ls
  show Builtin.Str.glued "" (ls.map mkS) = _
  rw [StrLaws.glued_eq_join]
  have e0 : ("" : Str) = mkS [] := by decide +kernel
  rw [e0]
  induction ls with
  | nil => rfl
  | cons a r ih =>
    cases r with
    | nil => show mkS a = _; simp
    | cons b r =>
      show mkS a ++ mkS [] ++ Str.join (mkS []) ((b :: r).map mkS) = _
      rw [ih, mkS_append, mkS_append]
      simp
theorem pageS_eq (ds : List Nat) (h : ∀ d ∈ ds, d < 8) : pageS (ds.map fun d => dotsS (d + 2)) = mkS (pageL ds) := by
  have e1 : (ds.map fun d => dotsS (d + 2)).map pageRow = (ds.map fun d => List.replicate (d + 2) 32 ++ [9]).map mkS := by
    rw [List.map_map, List.map_map]
    exact List.map_congr_left fun d hd => page_row d (h d hd)
  have e2 : (". \t" : Str) = mkS [46, 32, 9] := by decide +kernel
  unfold pageS
  rw [e1, join_mk, e2, mkS_append]
  rfl
theorem page_fn (ds : List Nat) (h : ∀ d ∈ ds, d < 8) (hl : ds.length ≤ 10) (hk : (ws0 (pageL ds)).2.2.2.length ≤ 100) : Fn KF 3 (.ref 148) [.list (ds.map fun d => PV.str (dotsS (d + 2)))] (wsOf (mkS (pageL ds))) := by
  have e := pageS_eq ds h
  have e1 : (ds.map fun d => dotsS (d + 2)).map pageRow = (ds.map fun d => List.replicate (d + 2) 32 ++ [9]).map mkS := by
    rw [List.map_map, List.map_map]
    exact List.map_congr_left fun d hd => page_row d (h d hd)
  have hlen : (pageL ds).length ≤ 11 * ds.length + 3 := by
    unfold pageL
    rw [List.length_append]
    have : ∀ xs : List Nat, (∀ d ∈ xs, d < 8) → (xs.flatMap fun d => List.replicate (d + 2) 32 ++ [9]).length ≤ 11 * xs.length := by
      intro xs
      induction xs with
      | nil => intro _; exact Nat.zero_le _
      | cons x r ih =>
        intro hx
        have := ih fun y hy => hx y (List.mem_cons_of_mem _ hy)
        have hx' := hx x List.mem_cons_self
        rw [List.flatMap_cons, List.length_append, List.length_cons]
        simp only [List.length_append, List.length_replicate, List.length_cons, List.length_nil]
        omega
    have := this ds h
    simp only [List.length_cons, List.length_nil]
    omega
  have hS : (pageS (ds.map fun d => dotsS (d + 2))).length = (pageL ds).length := by rw [e]; rfl
  have key := law_page_ok (ds.map fun d => dotsS (d + 2)) (by simp; omega) (fun r hr => by
    obtain ⟨d, hd, rfl⟩ := List.mem_map.mp hr
    exact page_size d (h d hd)) ?_ ?_ (by rw [e]; show (pageL ds).length ≤ _; omega) (by rw [e]; show (ws0 (pageL ds)).2.2.2.length ≤ _; omega)
  · rw [e, List.map_map] at key
    exact key
  · unfold JoinOk
    rw [StrLaws.joinTotal]
    have : ∀ xs : List Nat, (∀ d ∈ xs, d < 8) → (((xs.map fun d => dotsS (d + 2)).map pageRow).map (·.length)).sum ≤ 11 * xs.length := by
      intro xs
      induction xs with
      | nil => intro _; exact Nat.zero_le _
      | cons x r ih =>
        intro hx
        have := ih fun y hy => hx y (List.mem_cons_of_mem _ hy)
        have hx' := hx x List.mem_cons_self
        rw [List.map_cons, List.map_cons, List.map_cons, List.sum_cons, page_row x hx', List.length_cons]
        have e3 : (mkS (List.replicate (x + 2) 32 ++ [9])).length = x + 3 := by show (List.replicate (x + 2) 32 ++ [9]).length = _; simp
        rw [e3]
        omega
    have h1 := this ds h
    have h2 : (Str.ofString "").length = 0 := by decide +kernel
    rw [h2]
    unfold Builtin.Str.tooLong
    simp only [Bool.not_eq_true', decide_eq_false_iff_not]
    have h3 : sizeLine = 16777216 := by decide
    omega
  · have : (Txt.join "" ((ds.map fun d => dotsS (d + 2)).map pageRow)).length + Str.length ". \t" = (pageS (ds.map fun d => dotsS (d + 2))).length := by
      unfold pageS
      rw [Str.length_append]
    rw [this, hS]
    exact Nat.le_trans (show _ ≤ 1000 by omega) (by decide)
end Mine
end

section
open PySem PySem.W PyProof.Rows PySem.Calls
set_option Elab.async false
set_option linter.unusedVariables false
set_option linter.unusedSimpArgs false
set_option maxRecDepth 100000
set_option maxHeartbeats 4000000
namespace Mine
/-! the first loop of the law -/
structure LSt where
  tx : List Nat
  pl : List (Nat × Nat)
  ds : List Nat
  hs : List Int
  es : List Nat
  tot : Int
def headOf (q : List (Nat × Nat)) : Int := (q.getLast?.map fun x => (x.1 : Int)).getD (-1)
def lStep (σ : LSt) (nn : Nat) : LSt :=
  { tx := (σ.tx ++ (σ.pl.drop (nn % (σ.pl.length + 1))).reverse.map fun x => cloC x.2) ++ [opnC (nn / 60 % 3)]
    pl := σ.pl.take (nn % (σ.pl.length + 1)) ++ [(σ.ds.length, nn / 60 % 3)]
    ds := σ.ds ++ [nn % (σ.pl.length + 1)]
    hs := σ.hs ++ [headOf (σ.pl.take (nn % (σ.pl.length + 1)))]
    es := σ.es ++ [nn / 180 % 3]
    tot := σ.tot + nn }
def lZero : LSt := ⟨[], [], [], [], [], 0⟩
def numsOf (ns : List Int) : List Nat := ([180, 61, 482, 1, 240, 121].zip (ns.take 6 ++ List.replicate 6 0)).map fun (p : Int × Int) => (p.1 + p.2 % 1000000).toNat
theorem numsOf_length (ns : List Int) : (numsOf ns).length = 6 := by
  unfold numsOf
  simp
structure Inv (its : List It) (σ : LSt) : Prop where
  ds : σ.ds = its.map (·.1)
  es : σ.es = its.map (·.2.2)
  w : (its.map fun x => (x.1, x.2.1)).foldl wStep ([], []) = (σ.pl.map (·.2), σ.tx)
  a : (its.map (·.1)).foldl absStep ([], [], []) = (σ.pl.map (·.1), σ.ds, σ.hs)
  gen : σ.ds ∈ gen its.length
  last : σ.pl.length = (σ.ds.getLast?.map (· + 1)).getD 0
  ok : ∀ r, okD r σ.pl.length = true → okD (σ.ds ++ r) 0 = true
  kin : ∀ x ∈ σ.pl, x.2 < 3
  len : σ.pl.length ≤ its.length
  hl : σ.hs.length = its.length
  tl : σ.tx.length + σ.pl.length = 2 * its.length
theorem Inv.zero : Inv [] lZero where
  ds := rfl
  es := rfl
  w := rfl
  a := rfl
  gen := by simp [lZero, Mine.gen]
  last := rfl
  ok := fun r h => h
  kin := fun _ h => nomatch h
  len := Nat.le_refl _
  hl := rfl
  tl := rfl
theorem Inv.step {its : List It} {σ : LSt} (h : Inv its σ) (nn : Nat) : Inv (its ++ [(nn % (σ.pl.length + 1), nn / 60 % 3, nn / 180 % 3)]) (lStep σ nn) := by
  have hd : nn % (σ.pl.length + 1) ≤ σ.pl.length := Nat.le_of_lt_succ (Nat.mod_lt _ (Nat.succ_pos _))
  generalize hdd : nn % (σ.pl.length + 1) = d at hd
  have htl : (σ.pl.take d).length = d := by rw [List.length_take]; omega
  have hk : nn / 60 % 3 < 3 := Nat.mod_lt _ (by decide)
  refine ⟨?_, ?_, ?_, ?_, ?_, ?_, ?_, ?_, ?_, ?_, ?_⟩
  · simp [lStep, h.ds, hdd]
  · simp [lStep, h.es]
  · rw [List.map_append, List.foldl_append, h.w]
    simp [lStep, wStep, hdd, List.map_take, List.map_drop, Function.comp_def]
  · rw [List.map_append, List.foldl_append, h.a]
    simp only [List.map_cons, List.map_nil, List.foldl_cons, List.foldl_nil, absStep, lStep, hdd]
    refine Prod.ext ?_ (Prod.ext rfl ?_)
    · simp [List.map_take]
    · show σ.hs ++ _ = σ.hs ++ _
      congr 2
      unfold headOf
      rw [← List.map_take, List.getLast?_map]
      cases (σ.pl.take d).getLast? <;> rfl
  · have e : (its ++ [(d, nn / 60 % 3, nn / 180 % 3)]).length = its.length + 1 := by simp
    rw [e]
    unfold Mine.gen
    refine List.mem_flatMap.mpr ⟨σ.ds, h.gen, List.mem_map.mpr ⟨d, List.mem_range.mpr ?_, ?_⟩⟩
    · rw [← h.last]; omega
    · simp [lStep, hdd]
  · simp [lStep, hdd]
    omega
  · intro r hr
    have hr' : okD r (d + 1) = true := by
      have : (lStep σ nn).pl.length = d + 1 := by simp [lStep, hdd]; omega
      rw [this] at hr; exact hr
    show okD ((σ.ds ++ [nn % (σ.pl.length + 1)]) ++ r) 0 = true
    rw [hdd, List.append_assoc]
    refine h.ok _ ?_
    show (decide (d ≤ σ.pl.length) && okD r (d + 1)) = true
    rw [hr', decide_eq_true hd]; rfl
  · intro x hx
    rcases List.mem_append.mp (show x ∈ σ.pl.take _ ++ [_] from hx) with hx | hx
    · exact h.kin x (List.mem_of_mem_take hx)
    · simp at hx; subst hx; exact hk
  · have := h.len
    simp [lStep, hdd]; omega
  · simp [lStep, h.hl]
  · have := h.tl
    simp [lStep, hdd]; omega
theorem inv_fold : ∀ (nums : List Nat) (its : List It) (σ : LSt), Inv its σ → ∃ its', Inv its' (nums.foldl lStep σ) ∧ its'.length = its.length + nums.length
  | [], its, σ, h => ⟨its, h, rfl⟩
  | n :: r, its, σ, h => by
    obtain ⟨its', h1, h2⟩ := inv_fold r _ _ (h.step n)
    refine ⟨its', h1, ?_⟩
    rw [h2]
    simp; omega
/-- what the first part of the law has made -/
theorem law_first (ns : List Int) : ∃ its : List It, its.length = 6 ∧ Inv its ((numsOf ns).foldl lStep lZero) := by
  obtain ⟨its, h1, h2⟩ := inv_fold (numsOf ns) [] lZero Inv.zero
  exact ⟨its, by rw [h2, numsOf_length]; rfl, h1⟩
theorem Inv.okd {its : List It} {σ : LSt} (h : Inv its σ) : okD (its.map (·.1)) 0 = true := by
  have := h.ok [] rfl
  rw [List.append_nil, h.ds] at this
  exact this
theorem Inv.word {its : List It} {σ : LSt} (h : Inv its σ) : wordK (its.map fun x => (x.1, x.2.1)) = σ.tx ++ σ.pl.reverse.map fun x => cloC x.2 := by
  unfold wordK
  rw [h.w]
  simp [List.map_reverse, Function.comp_def]
theorem Inv.heads {its : List It} {σ : LSt} (h : Inv its σ) : σ.hs = headsL σ.ds := by
  unfold headsL
  rw [h.ds, h.a]
end Mine
end

section
open PySem PySem.W PyProof.Rows PySem.Calls
set_option Elab.async false
set_option linter.unusedVariables false
set_option linter.unusedSimpArgs false
set_option maxRecDepth 100000
set_option maxHeartbeats 4000000
namespace Mine
def bStep (a : List Int) : List Int × Int → List Int × Int := fun (b, at_) => if at_ = 6 then (b, at_) else (b ++ [a.getD at_.toNat 0 - at_], a.getD at_.toNat 0)
def bGo (a : List Int) : Nat → List Int × Int
  | 0 => ([], 0)
  | n + 1 => bStep a (bGo a n)
def lawB (ds : List Nat) : Bool :=
  let s := secondL ds
  let fa := faL s
  let ds2 := depthsL s
  ds.length == 6 && ds.all (fun d => decide (d < 6)) && (orderL ds).length == 6 && (orderL ds).all (fun k => decide (k < 6)) &&
  (orderL ds).all (fun k => let h := (headsL ds).getD k 0; decide (h < 0) || ((List.range 6).any fun m => ((orderL ds).getD m 0 : Int) == h)) &&
  fa.1 == dueL ds && fa.2.length == 6 && (List.range 7).all (fun n => let at_ := (bGo fa.2 n).2; decide (0 ≤ at_) && decide (at_ ≤ 6)) &&
  (s.length == 12 && wordK (ds2.map fun d => (d, 0)) == s) && okD ds2 0 && ds2.length == 6 && ds2.all (fun d => decide (d < 6)) &&
  decide ((ws0 (pageL ds)).2.2.2.length ≤ 100) && decide ((ws0 (pageL ds2)).2.2.2.length ≤ 100) &&
  ((ws0 (pageL ds)).2.2.2 == ([0, 0] ++ (bGo fa.2 6).1)) && ((ws0 (pageL ds)).2.2.1 == 0) && (((ws0 (pageL ds2)).1 : Int) - (ws0 (pageL ds2)).2.1 == 12 + (pairsL ds).length) && (pairsL ds).length ≤ 36
theorem lawB_all : ((gen 6).all fun ds => lawB ds) = true := by decide +kernel
structure Good (ds : List Nat) : Prop where
  len : ds.length = 6
  lt : ∀ d ∈ ds, d < 6
  olen : (orderL ds).length = 6
  olt : ∀ k ∈ orderL ds, k < 6
  head : ∀ k ∈ orderL ds, (headsL ds).getD k 0 < 0 ∨ ∃ m < 6, ((orderL ds).getD m 0 : Int) = (headsL ds).getD k 0
  found : (faL (secondL ds)).1 = dueL ds
  ahead : (faL (secondL ds)).2.length = 6
  at_ : ∀ n < 7, 0 ≤ (bGo (faL (secondL ds)).2 n).2 ∧ (bGo (faL (secondL ds)).2 n).2 ≤ 6
  slen : (secondL ds).length = 12
  word : wordK ((depthsL (secondL ds)).map fun d => (d, 0)) = secondL ds
  okd : okD (depthsL (secondL ds)) 0 = true
  len2 : (depthsL (secondL ds)).length = 6
  lt2 : ∀ d ∈ depthsL (secondL ds), d < 6
  pk : (ws0 (pageL ds)).2.2.2.length ≤ 100
  pk2 : (ws0 (pageL (depthsL (secondL ds)))).2.2.2.length ≤ 100
  norm1 : (ws0 (pageL ds)).2.2.2 = [0, 0] ++ (bGo (faL (secondL ds)).2 6).1
  norm2 : (ws0 (pageL ds)).2.2.1 = 0
  dinv : ((ws0 (pageL (depthsL (secondL ds)))).1 : Int) - (ws0 (pageL (depthsL (secondL ds)))).2.1 = 12 + (pairsL ds).length
  plen : (pairsL ds).length ≤ 36
theorem good {ds : List Nat} (h : ds ∈ gen 6) : Good ds := by
  have h1 := List.all_eq_true.mp lawB_all ds h
  unfold lawB at h1
  simp only [Bool.and_eq_true, Bool.or_eq_true, decide_eq_true_eq, beq_iff_eq, List.all_eq_true, List.any_eq_true, List.mem_range] at h1
  obtain ⟨⟨⟨⟨⟨⟨⟨⟨⟨⟨⟨⟨⟨⟨⟨⟨⟨a1, a2⟩, a3⟩, a4⟩, a5⟩, a6⟩, a7⟩, a8⟩, ⟨a9, a9'⟩⟩, a10⟩, a11⟩, a12⟩, a13⟩, a14⟩, a15⟩, a16⟩, a17⟩, a18⟩ := h1
  exact ⟨a1, a2, a3, a4, a5, a6, a7, a8, a9, a9', a10, a11, a12, a13, a14, a15, a16, a17, a18⟩
end Mine
end

section
open PySem PySem.W PyProof.Rows PySem.Calls
set_option Elab.async false
set_option linter.unusedVariables false
set_option linter.unusedSimpArgs false
set_option maxRecDepth 100000
set_option maxHeartbeats 4000000
namespace Mine
/-! the law's own text, and the names of its frame -/
def lawStmts : List Stmt := match (prg.main.body[65]? : Option Stmt) with
  | some (.FunctionDef _ _ b _ _ _ _ _ _ _) => b
  | _ => []
def lawScope : Scope := match (prg.main.body[65]? : Option Stmt) with
  | some (.FunctionDef _ _ _ _ _ _ s _ _ _) => s
  | _ => default
abbrev lawS (k : Nat) : Stmt := lawStmts.getD k (.Pass default)
abbrev ltab : List (Nat × NameKind) := [(31, .local), (18, .local), (20, .local), (32, .cell), (33, .cell), (19, .local), (34, .local), (35, .local), (17, .local), (36, .local), (37, .local), (30, .cell), (27, .cell), (38, .cell), (39, .cell), (40, .local), (42, .local), (43, .local), (44, .local), (45, .local), (46, .local), (47, .local), (48, .cell), (49, .local), (51, .local), (52, .local), (24, .local), (53, .local), (54, .local), (15, .local), (55, .cell), (56, .cell), (59, .globalImplicit), (57, .globalImplicit), (70, .globalImplicit), (58, .globalImplicit), (71, .globalImplicit), (63, .globalImplicit), (69, .globalImplicit), (72, .globalImplicit), (60, .globalImplicit)]
abbrev natPV (d : Nat) : PV := .int d
abbrev endPV (e : Nat) : PV := .str (mkS (endC e))
abbrev pilePV (x : Nat × Nat) : PV := .list [.int x.1, .int x.2]
def lEnv (ns : List Int) (σ : LSt) : PEnv := [(31, .val (.list (ns.map PV.int))), (18, .val (.str (mkS σ.tx))), (20, .own (σ.pl.map pilePV)), (32, .own (σ.ds.map natPV)), (33, .own (σ.hs.map PV.int)), (19, .own (σ.es.map endPV)), (34, .val (.int σ.tot))]
theorem mk0 : ("" : Str) = mkS [] := by decide +kernel
theorem slice_six (ps : List PV) : slicePV ps none (some 6) = ps.take 6 := by
  unfold slicePV
  have e : clipAt ps.length 6 = min 6 ps.length := by unfold clipAt; omega
  simp only [Option.elim]
  rw [e]
  simp only [List.drop_zero, Nat.sub_zero]
  rw [List.take_eq_take_iff]
  omega
theorem TurnsZ.nums {B : PV → PV → PEnv → PEnv → Prop} {ns : List Int} : ∀ (as bs : List Int) (σ : LSt) (its : List It), Inv its σ → its.length + as.length ≤ 6 → (∀ a ∈ as, 0 ≤ a) →
    (∀ (own x : Int) (σ : LSt) (its : List It), 0 ≤ own → Inv its σ → its.length < 6 → B (.int own) (.int x) (lEnv ns σ) (lEnv ns (lStep σ (own + x % 1000000).toNat))) →
    TurnsZ B (as.map PV.int) (bs.map PV.int) (lEnv ns σ) (lEnv ns (((as.zip bs).map fun (p : Int × Int) => (p.1 + p.2 % 1000000).toNat).foldl lStep σ))
  | [], bs, σ, its, _, _, _, _ => .nil1
  | a :: as, [], σ, its, _, _, _, _ => .nil2
  | a :: as, b :: bs, σ, its, hI, hl, h0, hB => by
    rw [List.length_cons] at hl
    refine .next (hB a b σ its (h0 a List.mem_cons_self) hI (by omega)) ?_
    exact TurnsZ.nums as bs _ _ (hI.step _) (by simp; omega) (fun y hy => h0 y (List.mem_cons_of_mem _ hy)) hB
section
variable {tab : List (Nat × NameKind)} {X : Fx tab} {e : PEnv}
theorem item_nat {ps : List PV} {out : PV} {j : Nat} (h : ps[j]? = some out) (hb : ps.length ≤ 1000) : Item X (.list ps) (.int (j : Int)) out := by
  have hl : j < ps.length := (List.getElem?_eq_some_iff.mp h).1
  exact Item.list (j := j) (seqIndex_nat hl) h ⟨by omega, by omega⟩
theorem item_lt3 {P : Nat → Prop} {k : Nat} (hk : k < 3) (h0 : P 0) (h1 : P 1) (h2 : P 2) : P k := by
  match k, hk with
  | 0, _ => exact h0
  | 1, _ => exact h1
  | 2, _ => exact h2
theorem item_clo {k : Nat} (hk : k < 3) : Item X (.str ")]}") (.int (k : Int)) (.str (mkS [cloC k])) :=
  item_lt3 (P := fun k => Item X (.str ")]}") (.int (k : Int)) (.str (mkS [cloC k]))) hk (Item.str (by decide +kernel) (by decide)) (Item.str (by decide +kernel) (by decide)) (Item.str (by decide +kernel) (by decide))
theorem item_opn {k : Nat} (hk : k < 3) : Item X (.str "([{") (.int (k : Int)) (.str (mkS [opnC k])) :=
  item_lt3 (P := fun k => Item X (.str "([{") (.int (k : Int)) (.str (mkS [opnC k]))) hk (Item.str (by decide +kernel) (by decide)) (Item.str (by decide +kernel) (by decide)) (Item.str (by decide +kernel) (by decide))
theorem end0 : ("\n" : Str) = mkS [10] := by decide +kernel
theorem end1 : ("\r" : Str) = mkS [13] := by decide +kernel
theorem end2 : ("\r\n" : Str) = mkS [13, 10] := by decide +kernel
theorem item_endL {k : Nat} (hk : k < 3) : Item X (.list [.str "\n", .str "\r", .str "\r\n"]) (.int (k : Int)) (endPV k) := by
  rw [end0, end1, end2]
  exact item_lt3 (P := fun k => Item X (.list [.str (mkS [10]), .str (mkS [13]), .str (mkS [13, 10])]) (.int (k : Int)) (endPV k)) hk (item_nat rfl (by decide)) (item_nat rfl (by decide)) (item_nat rfl (by decide))
theorem item_unit {k : Nat} (hk : k < 3) : Item X (.list [.str "   ", .str "\t\t\t", .str " \t "]) (.int (k : Int)) (.str (unitS k)) :=
  item_lt3 (P := fun k => Item X (.list [.str "   ", .str "\t\t\t", .str " \t "]) (.int (k : Int)) (.str (unitS k))) hk (item_nat rfl (by decide)) (item_nat rfl (by decide)) (item_nat rfl (by decide))
theorem isPd_piles : ∀ q : List (Nat × Nat), (PV.list (q.map pilePV)).isPd = true
  | [] => rfl
  | x :: r => by
    have := isPd_piles r
    unfold PV.isPd at this ⊢
    rw [List.map_cons]; unfold isPdL; rw [this]; rfl
theorem ne_piles (q : List (Nat × Nat)) : eqP (.list (q.map pilePV)) (.list []) = decide (q = []) := by cases q <;> rfl
theorem num_eq (own x : Int) (h : 0 ≤ own) : own + x % (10 ^ (6 : Int).toNat) = (((own + x % 1000000).toNat : Nat) : Int) := by
  have e : (10 : Int) ^ (6 : Int).toNat = 1000000 := by decide
  rw [e]
  omega
theorem head_get {q : List (Nat × Nat)} (h : q ≠ []) : ∃ x, (q.map pilePV)[q.length - 1]? = some (pilePV x) ∧ (x.1 : Int) = headOf q := by
  refine ⟨q.getLast h, ?_, ?_⟩
  · rw [List.getElem?_map, ← List.getLast?_eq_getElem?, List.getLast?_eq_some_getLast h]
    rfl
  · unfold headOf
    rw [List.getLast?_eq_some_getLast h]
    rfl
/-- the closing of brackets down to a depth -/
theorem wl_gen {test : Expr} {body : List Stmt} {E : List Nat → List (Nat × Nat) → PEnv} (d : Nat) (ht : ∀ tx pl, pl.length ≤ 20 → d ≤ pl.length → Ts X (E tx pl) (isTrue test X.env (eval test X.env)) (decide (d < pl.length)) (E tx pl))
    (hb : ∀ tx pl x, tx.length ≤ 500 → pl.length ≤ 20 → x.2 < 3 → Ex X (E tx (pl ++ [x])) (execs body X.env) .next (E (tx ++ [cloC x.2]) pl)) :
    ∀ (n : Nat) (pl : List (Nat × Nat)) (tx : List Nat), pl.length = d + n → tx.length + n ≤ 500 → pl.length ≤ 20 → (∀ x ∈ pl, x.2 < 3) → Wl X test body (E tx pl) .next (E (tx ++ (pl.drop d).reverse.map fun x => cloC x.2) (pl.take d))
  | 0, pl, tx, h1, h2, h3, _ => by
    have h := ht tx pl h3 (by omega)
    rw [decide_eq_false (by omega)] at h
    have e1 : pl.drop d = [] := List.drop_eq_nil_of_le (by omega)
    have e2 : pl.take d = pl := List.take_of_length_le (by omega)
    rw [e1, e2]
    simpa using Wl.stop h
  | n + 1, pl, tx, h1, h2, h3, h4 => by
    have h := ht tx pl h3 (by omega)
    rw [decide_eq_true (by omega)] at h
    have hne : pl ≠ [] := fun q => by rw [q] at h1; simp at h1
    obtain ⟨q, x, rfl⟩ : ∃ q x, pl = q ++ [x] := ⟨pl.dropLast, pl.getLast hne, (List.dropLast_concat_getLast hne).symm⟩
    simp at h1 h3
    have ih := wl_gen d ht hb n q (tx ++ [cloC x.2]) (by omega) (by simp; omega) (by omega) fun y hy => h4 y (List.mem_append_left _ hy)
    have e1 : (q ++ [x]).drop d = q.drop d ++ [x] := List.drop_append_of_le_length (by omega)
    have e2 : (q ++ [x]).take d = q.take d := List.take_append_of_le_length (by omega)
    rw [e1, e2]
    refine Wl.turn h (hb tx q x (by omega) (by omega) (h4 x (by simp))) ?_
    simpa using ih
end
end Mine
end

section
open PySem PySem.W PyProof.Rows PySem.Calls
set_option Elab.async false
set_option linter.unusedVariables false
set_option linter.unusedSimpArgs false
set_option maxRecDepth 100000
set_option maxHeartbeats 4000000
namespace Mine
section
variable {tab : List (Nat × NameKind)} {X : Fx tab} {e e₁ e₂ e₃ : PEnv} {p q out : PV}
theorem Ts.castB {t : Sem Bool} {b c : Bool} (h : Ts X e t b e₁) (hb : b = c) : Ts X e t c e₁ := hb ▸ h
theorem cenv_set {t : Nat} {s : Slot} {acc : List PV} {fs : List (Nat × PV)} {tl : PEnv} (ht : ∀ x ∈ fs, x.1 ≠ t) (h0 : t ≠ 0) (htl : tl = [] ∨ ∃ p, tl = [(t, p)]) : PEnv.set (cenv acc fs tl) t s = cenv acc fs [(t, s)] := by
  have h1 : ((0 : Nat) == t) = false := by simp; omega
  show (if ((0 : Nat) == t) = true then _ else _) = _
  rw [h1]
  simp only [Bool.false_eq_true, if_false]
  rw [set_fs fs tl ht]
  rcases htl with rfl | ⟨p, rfl⟩
  · rfl
  · show _ = _
    simp [cenv, PEnv.set]
theorem lookup_pre : ∀ (a b : PEnv) (i : Nat) (sl : Slot), List.lookup i a = some sl → List.lookup i (a ++ b) = some sl
  | [], _, _, _, h => by simp at h
  | (j, t) :: r, b, i, sl, h => by
    rw [List.cons_append, List.lookup_cons]
    rw [List.lookup_cons] at h
    cases hb : i == j with
    | true => rw [hb] at h; exact h
    | false => rw [hb] at h; exact lookup_pre r b i sl h
theorem cenv_sub {acc : List PV} {fs : List (Nat × PV)} {tl : PEnv} : Sub (cenv acc fs []) (cenv acc fs tl) := fun i sl h => by
  unfold cenv at h ⊢
  rw [List.append_nil] at h
  exact lookup_pre _ tl i sl h
theorem cenv_more {acc : List PV} {fs : List (Nat × PV)} {t : Nat} {p : PV} {tl : PEnv} : cenv acc (fs ++ [(t, p)]) tl = cenv acc fs ((t, .val p) :: tl) := by
  unfold cenv
  rw [List.map_append, List.append_assoc]
  rfl
theorem comp_filterE {D : Addr} {t : Nat} {c : Expr} {act : Sem Unit} {α : Type} (g h : α → PV) (good : α → Bool) (fs : List (Nat × PV)) (ht : ∀ x ∈ fs, x.1 ≠ t) (h0 : t ≠ 0) : ∀ (xs : List α) (acc : List PV) (tl : PEnv), (tl = [] ∨ ∃ p, tl = [(t, p)]) →
    (∀ x ∈ xs, ∀ l acc, Ts (X.withIts l) (cenv acc fs [(t, .val (g x))]) (isTrue c (X.withIts l).env (eval c (X.withIts l).env)) (good x) (cenv acc fs [(t, .val (g x))])) →
    (∀ x ∈ xs, good x = true → ∀ l acc, acc.length ≤ 1000 → In (X.withIts l) D (cenv acc fs [(t, .val (g x))]) act (cenv (acc ++ [h x]) fs [(t, .val (g x))])) → acc.length + xs.length ≤ 1000 →
      ∃ tl', TurnsC (CB X D t [c] act) (xs.map g) (cenv acc fs tl) (cenv (acc ++ (xs.filter good).map h) fs tl')
  | [], acc, tl, _, _, _, _ => ⟨tl, by simpa using TurnsC.nil⟩
  | x :: xs, acc, tl, htl, hT, hI, hl => by
    rw [List.length_cons] at hl
    have e1 : PEnv.set (cenv acc fs tl) t (.val (g x)) = cenv acc fs [(t, .val (g x))] := cenv_set ht h0 htl
    cases hg : good x with
    | true =>
      obtain ⟨tl', hR⟩ := comp_filterE g h good fs ht h0 xs (acc ++ [h x]) [(t, .val (g x))] (.inr ⟨_, rfl⟩) (fun y hy => hT y (List.mem_cons_of_mem _ hy)) (fun y hy => hI y (List.mem_cons_of_mem _ hy)) (by simp; omega)
      refine ⟨tl', ?_⟩
      rw [List.filter_cons, hg, if_pos rfl, List.map_cons, List.map_cons]
      have e2 : acc ++ h x :: (xs.filter good).map h = acc ++ [h x] ++ (xs.filter good).map h := by simp
      rw [e2]
      refine .cons (CB.yes (fun l => ?_) fun l => ?_) hR
      · rw [e1]
        have := hT x List.mem_cons_self l acc
        rw [hg] at this
        exact this
      · rw [e1]
        exact hI x List.mem_cons_self hg l acc (by omega)
    | false =>
      obtain ⟨tl', hR⟩ := comp_filterE g h good fs ht h0 xs acc [(t, .val (g x))] (.inr ⟨_, rfl⟩) (fun y hy => hT y (List.mem_cons_of_mem _ hy)) (fun y hy => hI y (List.mem_cons_of_mem _ hy)) (by omega)
      refine ⟨tl', ?_⟩
      rw [List.filter_cons, hg, if_neg (by simp)]
      refine .cons (b := cenv acc fs [(t, .val (g x))]) (e1 ▸ CB.no fun l => ?_) hR
      rw [e1]
      have := hT x List.mem_cons_self l acc
      rw [hg] at this
      exact this
theorem comp_flat {D : Addr} {t : Nat} {act : Sem Unit} {α : Type} (g : α → PV) (h : α → List PV) (fs : List (Nat × PV)) (ht : ∀ x ∈ fs, x.1 ≠ t) (h0 : t ≠ 0) : ∀ (xs : List α) (acc : List PV) (tl : PEnv), (tl = [] ∨ ∃ p, tl = [(t, p)]) →
    (∀ x ∈ xs, ∀ l acc, acc.length ≤ 900 → In (X.withIts l) D (cenv acc fs [(t, .val (g x))]) act (cenv (acc ++ h x) fs [(t, .val (g x))])) → (∀ x ∈ xs, (h x).length ≤ 10) → acc.length + 10 * xs.length ≤ 900 →
      ∃ e', TurnsC (CB X D t [] act) (xs.map g) (cenv acc fs tl) e' ∧ e'.lookup 0 = some (.own (acc ++ xs.flatMap h))
  | [], acc, tl, _, _, _, _ => ⟨_, .nil, by simp [cenv]⟩
  | x :: xs, acc, tl, htl, hI, hh, hl => by
    rw [List.length_cons] at hl
    have e1 : PEnv.set (cenv acc fs tl) t (.val (g x)) = cenv acc fs [(t, .val (g x))] := cenv_set ht h0 htl
    obtain ⟨e', hT, hl'⟩ := comp_flat g h fs ht h0 xs (acc ++ h x) [(t, .val (g x))] (.inr ⟨_, rfl⟩) (fun y hy => hI y (List.mem_cons_of_mem _ hy)) (fun y hy => hh y (List.mem_cons_of_mem _ hy)) (by have := hh x List.mem_cons_self; rw [List.length_append]; omega)
    refine ⟨e', .cons (CB.plain fun l => ?_) hT, by rw [hl']; simp⟩
    rw [e1]
    exact hI x List.mem_cons_self l acc (by omega)
/-- [elt for x0 in .. for x1 in iter2 if c] -/
theorem comp_two {D : Addr} {t1 t2 : Nat} {elt iter iter2 c : Expr} {x0 x1 : Str} {xp xp2 : Pos} {scope : Scope} {cpos : Pos} {k2 : NameKind} {α β : Type} (g : α → PV) (ys : α → List β) (g2 : α → β → PV) (good : α → β → Bool) (h : α → β → PV) (fs : List (Nat × PV)) (ht1 : ∀ x ∈ fs, x.1 ≠ t1) (ht2 : ∀ x ∈ fs, x.1 ≠ t2) (h12 : t1 ≠ t2) (h10 : t1 ≠ 0) (h20 : t2 ≠ 0) (xs : List α)
    (hx : allNames[t2]? = some x1) (ht : tab.lookup t2 = some k2) (hk : stor k2 = true) (hs : ∀ v, foldedSetIterable iter2 X.env v = pure v)
    (hit : ∀ x ∈ xs, ∀ l acc, ∃ q, Ev (X.withIts l) (cenv acc fs [(t1, .val (g x))]) (eval iter2 X.env) q (cenv acc fs [(t1, .val (g x))]) ∧ Iters (X.withIts l) q ((ys x).map (g2 x)))
    (htest : ∀ x ∈ xs, ∀ y ∈ ys x, ∀ l acc, Ts (X.withIts l) (cenv acc (fs ++ [(t1, g x)]) [(t2, .val (g2 x y))]) (isTrue c X.env (eval c X.env)) (good x y) (cenv acc (fs ++ [(t1, g x)]) [(t2, .val (g2 x y))]))
    (helt : ∀ x ∈ xs, ∀ y ∈ ys x, ∀ l acc, acc.length ≤ 1000 → In (X.withIts l) D (cenv acc (fs ++ [(t1, g x)]) [(t2, .val (g2 x y))]) (actElt elt D X.env) (cenv (acc ++ [h x y]) (fs ++ [(t1, g x)]) [(t2, .val (g2 x y))]))
    (hb : ∀ x ∈ xs, (ys x).length ≤ 10) (hl : 10 * xs.length ≤ 900) :
    ∃ e', TurnsC (CB X D t1 [] (actNext elt [⟨.Name x0 xp, iter, [], 0⟩, ⟨.Name x1 xp2, iter2, [c], 0⟩] scope cpos 1 iter2 D X.env)) (xs.map g) (cenv [] fs []) e' ∧ e'.lookup 0 = some (.own (xs.flatMap fun x => ((ys x).filter (good x)).map (h x))) := by
  have hI : ∀ x ∈ xs, ∀ l acc, acc.length ≤ 900 → In (X.withIts l) D (cenv acc fs [(t1, .val (g x))]) (actNext elt [⟨.Name x0 xp, iter, [], 0⟩, ⟨.Name x1 xp2, iter2, [c], 0⟩] scope cpos 1 iter2 D X.env) (cenv (acc ++ ((ys x).filter (good x)).map (h x)) fs [(t1, .val (g x))]) := fun x hx' l acc hacc => by
    obtain ⟨q, hq1, hq2⟩ := hit x hx' l acc
    have ht2' : ∀ z ∈ fs ++ [(t1, g x)], z.1 ≠ t2 := fun z hz => by
      rcases List.mem_append.mp hz with hz | hz
      · exact ht2 z hz
      · simp at hz; subst hz; exact h12
    obtain ⟨tl', hT⟩ := comp_filterE (X := X.withIts l) (D := D) (act := actElt elt D X.env) (c := c) (g2 x) (h x) (good x) (fs ++ [(t1, g x)]) ht2' h20 (ys x) acc [] (.inl rfl) (fun y hy l' acc' => htest x hx' y hy l' acc') (fun y hy _ l' acc' ha => helt x hx' y hy l' acc' ha) (by have := hb x hx'; omega)
    have e1 : cenv acc (fs ++ [(t1, g x)]) [] = cenv acc fs [(t1, .val (g x))] := cenv_more
    rw [e1] at hT
    have e2 : cenv (acc ++ ((ys x).filter (good x)).map (h x)) (fs ++ [(t1, g x)]) [] = cenv (acc ++ ((ys x).filter (good x)).map (h x)) fs [(t1, .val (g x))] := cenv_more
    rw [← e2]
    exact In.sub (In.next (xp := xp2) hq1 hq2 rfl (fun I => by rfl) hs hx ht hk hT) cenv_sub
  obtain ⟨e', h1, h2⟩ := comp_flat (X := X) (D := D) (t := t1) (act := actNext elt [⟨.Name x0 xp, iter, [], 0⟩, ⟨.Name x1 xp2, iter2, [c], 0⟩] scope cpos 1 iter2 D X.env) g (fun x => ((ys x).filter (good x)).map (h x)) fs ht1 h10 xs [] [] (.inl rfl) hI (fun x hx' => by rw [List.length_map]; exact Nat.le_trans (List.length_filter_le _ _) (hb x hx')) (by simpa using hl)
  exact ⟨e', h1, by rw [h2, List.nil_append]⟩
end
end Mine
end

section
open PySem PySem.W PyProof.Rows PySem.Calls
set_option Elab.async false
set_option linter.unusedVariables false
set_option maxRecDepth 100000
set_option maxHeartbeats 4000000
set_option linter.unusedSimpArgs false
namespace Mine
local macro_rules | `(tactic| walk_at "num") => `(tactic| first | exact (show 0 ≤ sizeLine by decide) | exact (show 1 ≤ sizeLine by decide) | exact (show 2 ≤ sizeLine by decide) | exact (show 3 ≤ sizeLine by decide) | exact (show 6 ≤ sizeLine by decide) | omega | (simp; omega) | decide | assumption)
local macro_rules | `(tactic| walk_at "bin") => `(tactic| first | exact Bin.addInt | exact Bin.subInt | exact Bin.modInt (by walk_at "num") | exact Bin.divInt (by walk_at "num") (by walk_at "num") | exact Bin.mulInt (by walk_at "num") (by walk_at "num") | exact Bin.addStr (by walk_at "num") | exact Bin.addList (by walk_at "num") | exact Bin.mulOne (by walk_at "num") (by walk_at "num") rfl)
local macro_rules | `(tactic| walk_at "cmp") => `(tactic| first | exact Cmp.eqInt | exact Cmp.neInt | exact Cmp.ltInt | exact Cmp.leInt | exact Cmp.gtInt | exact Cmp.geInt | exact Cmp.eqStr | exact Cmp.neStr | exact Cmp.isBool)
local macro_rules | `(tactic| walk_at "call") => `(tactic| first | exact Calls.lenList (by walk_at "num") | exact Calls.lenTuple (by walk_at "num") | exact Calls.range1 | exact Calls.range2 | exact Calls.max2 | exact Calls.tupleList (by walk_at "num"))
section
variable {X : Fx ltab}
theorem popped_pile {P : List PV} {x : Nat × Nat} : (some (Slot.own (P ++ [pilePV x])) : Option Slot) = some (Slot.own (P ++ [pilePV x])) := rfl
theorem Inv.dl {its : List It} {σ : LSt} (h : Inv its σ) : σ.ds.length = its.length := by rw [h.ds, List.length_map]
theorem Inv.el {its : List It} {σ : LSt} (h : Inv its σ) : σ.es.length = its.length := by rw [h.es, List.length_map]
theorem law_s1 (hn : X.n = 3) (hK : KF X.K X.w) (hs : X.env.scope = lawScope) (ns : List Int) (hlen : ns.length ≤ 63) : Ex X (lEnv ns lZero) (exec (lawS 1) X.env) .next (lEnv ns ((numsOf ns).foldl lStep lZero)) := by
  have ht : ∀ (own x : Int) (σ : LSt) (its : List It), 0 ≤ own → Inv its σ → its.length < 6 → ∀ l, Ex (X.withIts l) (setAll (lEnv ns σ) [35, 17] [.int own, .int x]) (execs (match lawS 1 with | .For _ _ b _ _ => b | _ => []) (X.withIts l).env) .next (lEnv ns (lStep σ (own + x % 1000000).toNat)) := by
    intro own x σ its h0 hI hlt l
    have hint : interactive (X.withIts l).env = false := by show interactive X.env = false; unfold interactive; rw [hs]; rfl
    generalize hnn : (own + x % 1000000).toNat = nn
    generalize hdd : nn % (σ.pl.length + 1) = d
    have hdl : d ≤ σ.pl.length := by rw [← hdd]; exact Nat.le_of_lt_succ (Nat.mod_lt _ (Nat.succ_pos _))
    have hpl := hI.len
    have hk3 : nn / 60 % 3 < 3 := Nat.mod_lt _ (by decide)
    have he3 : nn / 180 % 3 < 3 := Nat.mod_lt _ (by decide)
    have hq1 : (σ.pl.take d).length ≤ 6 := by rw [List.length_take]; omega
    generalize hq : σ.pl.take d = q at hq1
    have htx1 : (σ.tx ++ (σ.pl.drop d).reverse.map fun x => cloC x.2).length ≤ 500 := by have := hI.tl; simp; omega
    generalize htx : (σ.tx ++ (σ.pl.drop d).reverse.map fun x => cloC x.2) = tx' at htx1
    have hfin : lEnv ns (lStep σ nn) = [(31, .val (.list (ns.map PV.int))), (18, .val (.str (mkS (tx' ++ [opnC (nn / 60 % 3)])))), (20, .own (q.map pilePV ++ [pilePV (σ.ds.length, nn / 60 % 3)])), (32, .own (σ.ds.map natPV ++ [natPV d])), (33, .own (σ.hs.map PV.int ++ [.int (headOf q)])), (19, .own (σ.es.map endPV ++ [endPV (nn / 180 % 3)])), (34, .val (.int (σ.tot + nn)))] := by
      unfold lEnv lStep
      simp only [hdd, hq, htx, List.map_append, List.map_cons, List.map_nil]
    rw [hfin]
    refine Ex.sub (e₁ := ?sb56) ?sc56 ?sd56
    rotate_left
    · refine' Ex.cons ?s48a ?s48b
      case s48a =>
        refine' Ex.assign (i := 36) ?h4a rfl rfl rfl rfl
        case h4a =>
          refine' Ev.castP (q := natPV nn) ?h3a ?h3b
          case h3a =>
            refine' Ev.binop ?y2x7 ?y2x8 ?y2x9
            case y2x7 =>
              exact Ev.name (i := 35) rfl rfl rfl rfl
            case y2x8 =>
              refine' Ev.binop ?y2x4 ?y2x5 ?y2x6
              case y2x4 =>
                exact Ev.name (i := 17) rfl rfl rfl rfl
              case y2x5 =>
                refine' Ev.binop ?y2x1 ?y2x2 ?y2x3
                case y2x1 =>
                  exact Ev.cint
                case y2x2 =>
                  exact Ev.cint
                case y2x3 =>
                  exact Bin.powInt (by decide) (by decide)
              case y2x6 =>
                exact Bin.modInt (by decide)
            case y2x9 =>
              exact Bin.addInt
          case h3b =>
            rw [num_eq own x h0, hnn]
      case s48b =>
        refine' Ex.cons ?s49a ?s49b
        case s49a =>
          refine' Ex.assign (i := 37) ?h7a rfl rfl rfl rfl
          case h7a =>
            refine' Ev.castP (q := natPV d) ?h6a ?h6b
            case h6a =>
              refine' Ev.binop ?y5x7 ?y5x8 ?y5x9
              case y5x7 =>
                exact Ev.name (i := 36) rfl rfl rfl rfl
              case y5x8 =>
                refine' Ev.binop ?y5x4 ?y5x5 ?y5x6
                case y5x4 =>
                  refine' Ev.callOwn (i := 20) ?y5x1 (Callee.builtin "len") rfl rfl rfl rfl ?y5x2 ?y5x3 rfl
                  case y5x1 =>
                    exact Ev.bT (i := 57) rfl rfl (k_len hK) b_len (by decide)
                  case y5x2 =>
                    exact Calls.lenList (by rw [List.length_map]; omega)
                  case y5x3 =>
                    exact rfl
                case y5x5 =>
                  exact Ev.cint
                case y5x6 =>
                  exact Bin.addInt
              case y5x9 =>
                exact Bin.modInt (by omega)
            case h6b =>
              rw [List.length_map, ← hdd]; exact congrArg PV.int (by simp)
        case s49b =>
          refine' Ex.cons ?s50a ?s50b
          case s50a =>
            refine' Ex.castE (e₂ := [(31, .val (.list (ns.map PV.int))), (18, .val (.str (mkS tx'))), (20, .own (q.map pilePV)), (32, .own (σ.ds.map natPV)), (33, .own (σ.hs.map PV.int)), (19, .own (σ.es.map endPV)), (34, .val (.int σ.tot)), (35, .val (.int own)), (17, .val (.int x)), (36, .val (natPV nn)), (37, .val (natPV d))]) ?h16a ?h16b
            case h16a =>
              refine' Ex.while ?h15a
              case h15a =>
                refine' wl_gen (E := fun tx pl => [(31, .val (.list (ns.map PV.int))), (18, .val (.str (mkS tx))), (20, .own (pl.map pilePV)), (32, .own (σ.ds.map natPV)), (33, .own (σ.hs.map PV.int)), (19, .own (σ.es.map endPV)), (34, .val (.int σ.tot)), (35, .val (.int own)), (17, .val (.int x)), (36, .val (natPV nn)), (37, .val (natPV d))]) d ?h14t ?h14b (σ.pl.length - d) σ.pl σ.tx ?h14w ?h14u ?h14v hI.kin
                case h14t =>
                  intro tx pl hp hdp
                  refine' Ts.castB ?t1 ?t2
                  case t1 =>
                    refine' Ts.cmp ?y8x4 ?y8x5 ?y8x6 rfl
                    case y8x4 =>
                      refine' Ev.callOwn (i := 20) ?y8x1 (Callee.builtin "len") rfl rfl rfl rfl ?y8x2 ?y8x3 rfl
                      case y8x1 =>
                        exact Ev.bT (i := 57) rfl rfl (k_len hK) b_len (by decide)
                      case y8x2 =>
                        exact Calls.lenList (by rw [List.length_map]; omega)
                      case y8x3 =>
                        exact rfl
                    case y8x5 =>
                      exact Ev.name (i := 37) rfl rfl rfl rfl
                    case y8x6 =>
                      exact Cmp.gtInt
                  case t2 => (rw [List.length_map]; simp)
                case h14b =>
                  intro tx pl x htx hp hx
                  rw [List.map_append]
                  refine' Ex.cons ?h13a Ex.nil
                  case h13a =>
                    refine' Ex.castE ?h12b ?h12z
                    case h12b =>
                      refine' Ex.assign (i := 18) ?h11a rfl rfl rfl rfl
                      case h11a =>
                        refine' Ev.castP (q := PV.str (mkS (tx ++ [cloC x.2]))) ?h10a ?h10b
                        case h10a =>
                          refine' Ev.binop ?y9x9 ?y9x10 ?y9x11
                          case y9x9 =>
                            exact Ev.name (i := 18) rfl rfl rfl rfl
                          case y9x10 =>
                            refine' Ev.sub ?y9x6 ?y9x7 ?y9x8 (fun _ _ => rfl)
                            case y9x6 =>
                              exact Ev.cstr
                            case y9x7 =>
                              refine' Ev.sub ?y9x3 ?y9x4 ?y9x5 (fun _ _ => rfl)
                              case y9x3 =>
                                refine' Ev.pop (i := 20) rfl rfl rfl ?y9x1 ?y9x2 rfl rfl
                                case y9x1 =>
                                  exact popped_pile
                                case y9x2 =>
                                  exact Nat.le_trans (show _ ≤ 100 by rw [List.length_map]; omega) (by decide)
                              case y9x4 =>
                                exact Ev.cint
                              case y9x5 =>
                                exact item_nat (j := 1) rfl (show 2 ≤ 1000 by decide)
                            case y9x8 =>
                              exact item_clo hx
                          case y9x11 =>
                            exact Bin.addStr (Nat.le_trans (show tx.length + 1 ≤ 1000 by omega) (by decide))
                        case h10b =>
                          exact (congrArg PV.str (mkS_append tx [cloC x.2]))
                    case h12z =>
                      rfl
                case h14w =>
                  omega
                case h14u =>
                  have := hI.tl; omega
                case h14v =>
                  have := hI.len; omega
            case h16b =>
              simp only [hq, htx]
          case s50b =>
            refine' Ex.cons ?s51a ?s51b
            case s51a =>
              refine' Ex.expr ?h21a hint rfl
              case h21a =>
                refine' Ev.append (i := 33) rfl rfl rfl rfl ?h20a ?h20z ?h20b rfl rfl
                case h20a =>
                  refine' Ar.s1 ?h19c rfl
                  case h19c =>
                    refine' Ev.ifexp ?h18a (fun hb => ?h18b) (fun hb => ?h18c)
                    case h18a =>
                      refine' Ts.cmpOwn (i := 20) rfl rfl rfl rfl ?y17x3 ?y17x4 rfl
                      case y17x3 =>
                        refine' Ev.list ?y17x1 ?y17x2
                        case y17x1 =>
                          exact EvL.s0
                        case y17x2 =>
                          exact (show 0 ≤ sizeLine by decide)
                      case y17x4 =>
                        exact Cmp.nePd (isPd_piles _) (by decide +kernel) (Nat.le_trans (Nat.min_le_right _ _) (by decide +kernel))
                    case h18b =>
                      have hq : q ≠ [] := fun z => by rw [ne_piles, z] at hb; simp at hb
                      obtain ⟨y, hy1, hy2⟩ := head_get hq
                      refine' Ev.castP (Ev.sub (Ev.itemOwn (i := 20) (ps := q.map pilePV) (z := -1) (j := q.length - 1) (out := pilePV y) rfl rfl rfl rfl (Ev.unop Ev.cint Una.negInt) ?ia hy1 (by decide) (fun _ _ => rfl)) Ev.cint (item_nat (j := 0) rfl (show 2 ≤ 1000 by decide)) (fun _ _ => rfl)) (congrArg PV.int hy2)
                      case ia =>
                        rw [List.length_map]
                        have hql : 0 < q.length := List.length_pos_iff.mpr hq
                        rw [StrLaws.seqIndex_neg (by decide) (by omega)]
                        congr 1; omega
                    case h18c =>
                      have hq : q = [] := by rw [ne_piles] at hb; simpa using hb
                      exact Ev.castP (Ev.unop Ev.cint Una.negInt) (by rw [hq]; rfl)
                case h20z =>
                  exact rfl
                case h20b =>
                  rw [List.length_map]; exact Nat.le_trans (show _ ≤ 100 by have := hI.hl; omega) (by decide)
            case s51b =>
              refine' Ex.cons ?s52a ?s52b
              case s52a =>
                refine' Ex.expr ?h30a hint rfl
                case h30a =>
                  refine' Ev.append (i := 20) (p := pilePV (σ.ds.length, nn / 60 % 3)) rfl rfl rfl rfl ?h29a ?h29z ?h29b rfl rfl
                  case h29a =>
                    refine' Ar.s1 ?h28c rfl
                    case h28c =>
                      refine' Ev.list ?h27d (show 2 ≤ sizeLine by decide)
                      case h27d =>
                        refine' EvL.sc ?h26e (EvL.sc ?h26f EvL.s0 rfl) rfl
                        case h26e =>
                          refine' Ev.castP (q := natPV σ.ds.length) ?h23a ?h23b
                          case h23a =>
                            refine' Ev.callOwn (i := 32) ?y22x1 (Callee.builtin "len") rfl rfl rfl rfl ?y22x2 ?y22x3 rfl
                            case y22x1 =>
                              exact Ev.bT (i := 57) rfl rfl (k_len hK) b_len (by decide)
                            case y22x2 =>
                              exact Calls.lenList (by rw [List.length_map]; have := hI.dl; omega)
                            case y22x3 =>
                              exact rfl
                          case h23b =>
                            rw [List.length_map]
                        case h26f =>
                          refine' Ev.castP (q := natPV (nn / 60 % 3)) ?h25a ?h25b
                          case h25a =>
                            refine' Ev.binop ?y24x4 ?y24x5 ?y24x6
                            case y24x4 =>
                              refine' Ev.binop ?y24x1 ?y24x2 ?y24x3
                              case y24x1 =>
                                exact Ev.name (i := 36) rfl rfl rfl rfl
                              case y24x2 =>
                                exact Ev.cint
                              case y24x3 =>
                                exact Bin.divInt (by decide) (by decide)
                            case y24x5 =>
                              exact Ev.cint
                            case y24x6 =>
                              exact Bin.modInt (by decide)
                          case h25b =>
                            rfl
                  case h29z =>
                    exact rfl
                  case h29b =>
                    rw [List.length_map]; exact Nat.le_trans (show _ ≤ 100 by omega) (by decide)
              case s52b =>
                refine' Ex.cons ?s53a ?s53b
                case s53a =>
                  refine' Ex.assign (i := 18) ?h37a rfl rfl rfl rfl
                  case h37a =>
                    refine' Ev.castP (q := PV.str (mkS (tx' ++ [opnC (nn / 60 % 3)]))) ?h36a ?h36b
                    case h36a =>
                      refine' Ev.binop ?h35a ?h35b ?h35c
                      case h35a =>
                        exact Ev.name (i := 18) rfl rfl rfl rfl
                      case h35b =>
                        refine' Ev.sub Ev.cstr ?h34d (item_opn hk3) (fun _ _ => rfl)
                        case h34d =>
                          refine' Ev.castP (q := natPV (nn / 60 % 3)) ?h33a ?h33b
                          case h33a =>
                            refine' Ev.binop ?y32x4 ?y32x5 ?y32x6
                            case y32x4 =>
                              refine' Ev.binop ?y32x1 ?y32x2 ?y32x3
                              case y32x1 =>
                                exact Ev.name (i := 36) rfl rfl rfl rfl
                              case y32x2 =>
                                exact Ev.cint
                              case y32x3 =>
                                exact Bin.divInt (by decide) (by decide)
                            case y32x5 =>
                              exact Ev.cint
                            case y32x6 =>
                              exact Bin.modInt (by decide)
                          case h33b =>
                            rfl
                      case h35c =>
                        exact Bin.addStr (Nat.le_trans (show tx'.length + 1 ≤ 1000 by omega) (by decide))
                    case h36b =>
                      exact congrArg PV.str (mkS_append _ _)
                case s53b =>
                  refine' Ex.cons ?s54a ?s54b
                  case s54a =>
                    refine' Ex.expr ?h39a hint rfl
                    case h39a =>
                      refine' Ev.append (i := 32) rfl rfl rfl rfl ?y38x2 ?y38x3 ?y38x4 rfl rfl
                      case y38x2 =>
                        refine' Ar.s1 ?y38x1 rfl
                        case y38x1 =>
                          exact Ev.name (i := 37) rfl rfl rfl rfl
                      case y38x3 =>
                        exact rfl
                      case y38x4 =>
                        rw [List.length_map]; exact Nat.le_trans (show _ ≤ 100 by have := hI.dl; omega) (by decide)
                  case s54b =>
                    refine' Ex.cons ?s55a ?s55b
                    case s55a =>
                      refine' Ex.expr ?h46a hint rfl
                      case h46a =>
                        refine' Ev.append (i := 19) (p := endPV (nn / 180 % 3)) rfl rfl rfl rfl ?h45a ?h45z ?h45b rfl rfl
                        case h45a =>
                          refine' Ar.s1 ?h44c rfl
                          case h44c =>
                            refine' Ev.sub ?h43d ?h43e (item_endL he3) (fun _ _ => rfl)
                            case h43d =>
                              refine' Ev.list ?y40x7 ?y40x8
                              case y40x7 =>
                                refine' EvL.sc ?y40x5 ?y40x6 rfl
                                case y40x5 =>
                                  exact Ev.cstr
                                case y40x6 =>
                                  refine' EvL.sc ?y40x3 ?y40x4 rfl
                                  case y40x3 =>
                                    exact Ev.cstr
                                  case y40x4 =>
                                    refine' EvL.sc ?y40x1 ?y40x2 rfl
                                    case y40x1 =>
                                      exact Ev.cstr
                                    case y40x2 =>
                                      exact EvL.s0
                              case y40x8 =>
                                walk_at "num"
                            case h43e =>
                              refine' Ev.castP (q := natPV (nn / 180 % 3)) ?h42a ?h42b
                              case h42a =>
                                refine' Ev.binop ?y41x4 ?y41x5 ?y41x6
                                case y41x4 =>
                                  refine' Ev.binop ?y41x1 ?y41x2 ?y41x3
                                  case y41x1 =>
                                    exact Ev.name (i := 36) rfl rfl rfl rfl
                                  case y41x2 =>
                                    exact Ev.cint
                                  case y41x3 =>
                                    exact Bin.divInt (by decide) (by decide)
                                case y41x5 =>
                                  exact Ev.cint
                                case y41x6 =>
                                  exact Bin.modInt (by decide)
                              case h42b =>
                                rfl
                        case h45z =>
                          exact rfl
                        case h45b =>
                          rw [List.length_map]; exact Nat.le_trans (show _ ≤ 100 by have := hI.el; omega) (by decide)
                    case s55b =>
                      refine' Ex.cons ?s56a ?s56b
                      case s56a =>
                        refine' Ex.assign (i := 34) ?y47x4 rfl rfl rfl rfl
                        case y47x4 =>
                          refine' Ev.binop ?y47x1 ?y47x2 ?y47x3
                          case y47x1 =>
                            exact Ev.name (i := 34) rfl rfl rfl rfl
                          case y47x2 =>
                            exact Ev.name (i := 36) rfl rfl rfl rfl
                          case y47x3 =>
                            walk_at "bin"
                      case s56b =>
                        exact Ex.nil
    · exact Sub.cons rfl (Sub.cons rfl (Sub.cons rfl (Sub.cons rfl (Sub.cons rfl (Sub.cons rfl (Sub.cons rfl (Sub.nil)))))))
  refine' Ex.forZip (i := 35) (j := 17) (ps := ([180, 61, 482, 1, 240, 121] : List Int).map PV.int) (qs := (ns.take 6 ++ List.replicate 6 (0 : Int)).map PV.int) ?h61z ?h61a ?h61b rfl rfl ?h61t rfl rfl ?h61h (fun _ => rfl)
  case h61z =>
    exact Ev.bT (i := 59) rfl rfl (k_zip hK) b_zip (by decide)
  case h61a =>
    refine' Ev.list ?y57x13 ?y57x14
    case y57x13 =>
      refine' EvL.sc ?y57x11 ?y57x12 rfl
      case y57x11 =>
        exact Ev.cint
      case y57x12 =>
        refine' EvL.sc ?y57x9 ?y57x10 rfl
        case y57x9 =>
          exact Ev.cint
        case y57x10 =>
          refine' EvL.sc ?y57x7 ?y57x8 rfl
          case y57x7 =>
            exact Ev.cint
          case y57x8 =>
            refine' EvL.sc ?y57x5 ?y57x6 rfl
            case y57x5 =>
              exact Ev.cint
            case y57x6 =>
              refine' EvL.sc ?y57x3 ?y57x4 rfl
              case y57x3 =>
                exact Ev.cint
              case y57x4 =>
                refine' EvL.sc ?y57x1 ?y57x2 rfl
                case y57x1 =>
                  exact Ev.cint
                case y57x2 =>
                  exact EvL.s0
    case y57x14 =>
      walk_at "num"
  case h61b =>
    refine' Ev.castP (q := .list ((ns.take 6 ++ List.replicate 6 (0 : Int)).map PV.int)) ?h60a ?h60b
    case h60a =>
      refine' Ev.binop ?h59c ?h59d ?h59e
      case h59c =>
        exact Ev.sliceList (lo := none) (hi := some 6) (Ev.name (i := 31) rfl rfl rfl rfl) Ev.pnone (Ev.psome Ev.cint) trivial rfl (by rw [List.length_map]; exact Nat.le_trans hlen (by decide)) (fun _ _ => rfl)
      case h59d =>
        refine' Ev.binop ?y58x5 ?y58x6 ?y58x7
        case y58x5 =>
          refine' Ev.list ?y58x3 ?y58x4
          case y58x3 =>
            refine' EvL.sc ?y58x1 ?y58x2 rfl
            case y58x1 =>
              exact Ev.cint
            case y58x2 =>
              exact EvL.s0
          case y58x4 =>
            walk_at "num"
        case y58x6 =>
          exact Ev.cint
        case y58x7 =>
          exact Bin.mulOne (by decide) (by decide) rfl
      case h59e =>
        exact Bin.addList (by rw [slice_six]; simp only [List.length_take, List.length_map, List.length_replicate]; exact Nat.le_trans (show _ ≤ 100 by omega) (by decide))
    case h60b =>
      rw [slice_six, List.map_append, List.map_take, List.map_replicate]; rfl
  case h61t =>
    exact Tgts.cons (Tgt.assign rfl rfl rfl) (Tgts.cons (Tgt.assign rfl rfl rfl) (Tgts.nil))
  case h61h =>
    exact TurnsZ.nums _ _ lZero [] Inv.zero (by decide) (by decide) ht
end
end Mine
end

section
open PySem PySem.W PyProof.Rows PySem.Calls
set_option Elab.async false
set_option linter.unusedVariables false
set_option maxRecDepth 100000
set_option maxHeartbeats 4000000
set_option linter.unusedSimpArgs false
namespace Mine
local macro_rules | `(tactic| walk_at "num") => `(tactic| first | exact (show 0 ≤ sizeLine by decide) | exact (show 1 ≤ sizeLine by decide) | exact (show 2 ≤ sizeLine by decide) | exact (show 3 ≤ sizeLine by decide) | exact (show 6 ≤ sizeLine by decide) | omega | (simp; omega) | decide | assumption)
local macro_rules | `(tactic| walk_at "bin") => `(tactic| first | exact Bin.addInt | exact Bin.subInt | exact Bin.modInt (by walk_at "num") | exact Bin.divInt (by walk_at "num") (by walk_at "num") | exact Bin.mulInt (by walk_at "num") (by walk_at "num") | exact Bin.addStr (by walk_at "num") | exact Bin.addList (by walk_at "num") | exact Bin.mulOne (by walk_at "num") (by walk_at "num") rfl)
local macro_rules | `(tactic| walk_at "cmp") => `(tactic| first | exact Cmp.eqInt | exact Cmp.neInt | exact Cmp.ltInt | exact Cmp.leInt | exact Cmp.gtInt | exact Cmp.geInt | exact Cmp.eqStr | exact Cmp.neStr | exact Cmp.isBool)
local macro_rules | `(tactic| walk_at "call") => `(tactic| first | exact Calls.lenList (by walk_at "num") | exact Calls.lenTuple (by walk_at "num") | exact Calls.range1 | exact Calls.range2 | exact Calls.max2 | exact Calls.tupleList (by walk_at "num"))

abbrev rowPV (d : Nat) : PV := .str (dotsS (d + 2))
def E3 (tx : List Nat) (ds : List Nat) (hs : List Int) (es : List Str) (u : Nat) : PEnv := [(18, .val (.str (mkS tx))), (32, .val (.list (ds.map natPV))), (33, .val (.list (hs.map PV.int))), (19, .val (.list (es.map PV.str))), (30, .val (.str (unitS u)))]
def E4 (ds : List Nat) (hs : List Int) (es : List Str) (u : Nat) : PEnv := [(32, .val (.list (ds.map natPV))), (33, .val (.list (hs.map PV.int))), (19, .val (.list (es.map PV.str))), (30, .val (.str (unitS u))), (27, .val (.list (ds.map rowPV)))]
def E5 (ds : List Nat) (hs : List Int) (es : List Str) (u : Nat) : PEnv := (E4 ds hs es u).set 38 (.val (.list (ds.map fun d => LD (d + 2) u)))
def E6 (ds : List Nat) (hs : List Int) (es : List Str) (u : Nat) : PEnv := (E5 ds hs es u).set 39 (.val (.list (ds.map fun d => LD (d + 4) u)))
def E7 (ds : List Nat) (hs : List Int) (es : List Str) (u : Nat) : PEnv := (E6 ds hs es u).set 40 (.val (.list ((pairsL ds).map natPV)))
section
variable {tab : List (Nat × NameKind)} {X : Fx tab}
theorem iters_rng {z : Int} (n : Nat) (hz : z = n) (hn : n ≤ 1000) : Iters X (.rng 0 z) ((List.range n).map natPV) := by
  subst hz
  have h := Iters.rng (X := X) (a := 0) (b := n) (by decide) (by decide) (by omega) (by omega)
  have e : rngL 0 ((n : Int) - 0).toNat = (List.range n).map natPV := by
    unfold rngL
    have : ((n : Int) - 0).toNat = n := by omega
    rw [this]
    refine List.map_congr_left fun i _ => ?_
    show PV.int _ = PV.int _
    congr 1; omega
  rw [e] at h
  exact h
theorem getD_lt {ds : List Nat} {i : Nat} (hlt : ∀ d ∈ ds, d < 6) : ds.getD i 0 < 6 := by
  rw [List.getD_eq_getElem?_getD]
  cases h : ds[i]? with
  | none => decide
  | some d => exact hlt d (List.mem_of_getElem? h)
theorem item_ds {ds : List Nat} {f : Nat → PV} {i : Nat} (hi : i < ds.length) (hl : ds.length ≤ 1000) : Item X (.list (ds.map f)) (.int (i : Int)) (f (ds.getD i 0)) :=
  item_nat (by rw [List.getElem?_map, List.getD_eq_getElem?_getD, List.getElem?_eq_getElem hi]; rfl) (by simpa using hl)
end
section
variable {X : Fx ltab}
theorem law_s2 (hn : X.n = 3) (hK : KF X.K X.w) (hs : X.env.scope = lawScope) (ns : List Int) {its : List It} {σ : LSt} (hI : Inv its σ) (hil : its.length = 6) : Ex X (lEnv ns σ) (exec (lawS 2) X.env) .next (lEnv ns { σ with tx := σ.tx ++ σ.pl.reverse.map fun x => cloC x.2, pl := [] }) := by
  refine' Ex.while ?h8a
  case h8a =>
    refine' wl_gen (E := fun tx pl => [(31, .val (.list (ns.map PV.int))), (18, .val (.str (mkS tx))), (20, .own (pl.map pilePV)), (32, .own (σ.ds.map natPV)), (33, .own (σ.hs.map PV.int)), (19, .own (σ.es.map endPV)), (34, .val (.int σ.tot))]) 0 ?h7t ?h7b σ.pl.length σ.pl σ.tx ?h7w ?h7u ?h7v hI.kin
    case h7t =>
      intro tx pl hp hdp
      refine' Ts.castB ?t1 ?t2
      case t1 =>
        refine' Ts.cmpOwn (i := 20) rfl rfl rfl rfl ?y1x3 ?y1x4 rfl
        case y1x3 =>
          refine' Ev.list ?y1x1 ?y1x2
          case y1x1 =>
            exact EvL.s0
          case y1x2 =>
            exact (show 0 ≤ sizeLine by decide)
        case y1x4 =>
          exact Cmp.nePd (isPd_piles _) (by decide +kernel) (Nat.le_trans (Nat.min_le_right _ _) (by decide +kernel))
      case t2 => (rw [ne_piles]; cases pl <;> simp)
    case h7b =>
      intro tx pl x htx hp hx
      rw [List.map_append]
      refine' Ex.cons ?h6a Ex.nil
      case h6a =>
        refine' Ex.castE ?h5b ?h5z
        case h5b =>
          refine' Ex.assign (i := 18) ?h4a rfl rfl rfl rfl
          case h4a =>
            refine' Ev.castP (q := PV.str (mkS (tx ++ [cloC x.2]))) ?h3a ?h3b
            case h3a =>
              refine' Ev.binop ?y2x9 ?y2x10 ?y2x11
              case y2x9 =>
                exact Ev.name (i := 18) rfl rfl rfl rfl
              case y2x10 =>
                refine' Ev.sub ?y2x6 ?y2x7 ?y2x8 (fun _ _ => rfl)
                case y2x6 =>
                  exact Ev.cstr
                case y2x7 =>
                  refine' Ev.sub ?y2x3 ?y2x4 ?y2x5 (fun _ _ => rfl)
                  case y2x3 =>
                    refine' Ev.pop (i := 20) rfl rfl rfl ?y2x1 ?y2x2 rfl rfl
                    case y2x1 =>
                      exact popped_pile
                    case y2x2 =>
                      exact Nat.le_trans (show _ ≤ 100 by rw [List.length_map]; omega) (by decide)
                  case y2x4 =>
                    exact Ev.cint
                  case y2x5 =>
                    exact item_nat (j := 1) rfl (show 2 ≤ 1000 by decide)
                case y2x8 =>
                  exact item_clo hx
              case y2x11 =>
                exact Bin.addStr (Nat.le_trans (show tx.length + 1 ≤ 1000 by omega) (by decide))
            case h3b =>
              exact (congrArg PV.str (mkS_append tx [cloC x.2]))
        case h5z =>
          rfl
    case h7w =>
      omega
    case h7u =>
      have := hI.tl; omega
    case h7v =>
      have := hI.len; omega
theorem law_s3 (hn : X.n = 3) (hK : KF X.K X.w) (hs : X.env.scope = lawScope) (ns : List Int) (σ : LSt) : Ex X (lEnv ns σ) (exec (lawS 3) X.env) .next (E3 σ.tx σ.ds σ.hs (σ.es.map fun e => mkS (endC e)) (σ.tot % 3).toNat) := by
  have hu3 : (σ.tot % 3).toNat < 3 := by omega
  have hEL : (σ.es.map endPV) = (σ.es.map fun e => mkS (endC e)).map PV.str := by rw [List.map_map]; rfl
  refine Ex.sub (e₁ := ?sb1) ?sb2 ?sb3
  rotate_left
  · refine' Ex.freeze (i := 32) ?f1 (by decide) ?f2
    case f1 => exact rfl
    case f2 =>
      refine' Ex.freeze (i := 33) ?f3 (by decide) ?f4
      case f3 => exact rfl
      case f4 =>
        refine' Ex.freeze (i := 19) ?f5 (by decide) ?f6
        case f5 => exact rfl
        case f6 =>
          refine' Ex.assign (i := 30) ?h13a rfl rfl rfl rfl
          case h13a =>
            refine' Ev.sub ?h12a ?h12b (item_unit hu3) (fun _ _ => rfl)
            case h12a =>
              refine' Ev.list ?y9x7 ?y9x8
              case y9x7 =>
                refine' EvL.sc ?y9x5 ?y9x6 rfl
                case y9x5 =>
                  exact Ev.cstr
                case y9x6 =>
                  refine' EvL.sc ?y9x3 ?y9x4 rfl
                  case y9x3 =>
                    exact Ev.cstr
                  case y9x4 =>
                    refine' EvL.sc ?y9x1 ?y9x2 rfl
                    case y9x1 =>
                      exact Ev.cstr
                    case y9x2 =>
                      exact EvL.s0
              case y9x8 =>
                walk_at "num"
            case h12b =>
              refine' Ev.castP (q := natPV (σ.tot % 3).toNat) ?h11a ?h11b
              case h11a =>
                refine' Ev.binop ?y10x1 ?y10x2 ?y10x3
                case y10x1 =>
                  exact Ev.name (i := 34) rfl rfl rfl rfl
                case y10x2 =>
                  exact Ev.cint
                case y10x3 =>
                  exact Bin.modInt (by decide)
              case h11b =>
                exact congrArg PV.int (by omega)
  · refine Sub.cons rfl (Sub.cons rfl (Sub.cons rfl (Sub.cons ?_ (Sub.cons rfl Sub.nil))))
    exact congrArg (fun z => some (Slot.val (PV.list z))) hEL
theorem law_s4 (hn : X.n = 3) (hK : KF X.K X.w) (hs : X.env.scope = lawScope) (its : List It) (hs' : List Int) (es : List Str) (u : Nat) (ho : okD (its.map (·.1)) 0 = true) (hl : its.length ≤ 11) (hne : its ≠ []) (he : ∀ (i : Nat) (x : It), its[i]? = some x → es[i]? = some (mkS (endC x.2.2))) : Ex X (E3 (wordK (its.map fun x => (x.1, x.2.1))) (its.map (·.1)) hs' es u) (exec (lawS 4) X.env) .next (E4 (its.map (·.1)) hs' es u) := by
  refine Ex.sub (e₁ := ?sb16) ?sc16 ?sd16
  rotate_left
  · refine' Ex.assign (i := 27) ?h16a rfl rfl rfl rfl
    case h16a =>
      refine' Ev.castP (q := .list ((its.map (·.1)).map rowPV)) ?h15a ?h15b
      case h15a =>
        refine' Ev.call ?y14x3 (callee_rows hK) ?y14x4 ?y14x5 rfl
        case y14x3 =>
          exact Ev.gT (i := 70) rfl rfl (k_law_rows hK) (fun _ _ => rep_raw)
        case y14x4 =>
          refine' Ar.s2 ?y14x1 ?y14x2 rfl
          case y14x1 =>
            exact Ev.name (i := 18) rfl rfl rfl rfl
          case y14x2 =>
            exact Ev.name (i := 19) rfl rfl rfl rfl
        case y14x5 =>
          exact Fn.calls (rows_word its ho hl hne he) (by rw [hn]; decide) hK
      case h15b =>
        rw [List.map_map]; rfl
  · exact Sub.cons rfl (Sub.cons rfl (Sub.cons rfl (Sub.cons rfl (Sub.cons rfl (Sub.nil)))))
theorem law_s5 (hn : X.n = 3) (hK : KF X.K X.w) (hs : X.env.scope = lawScope) (ds : List Nat) (hs' : List Int) (es : List Str) (u : Nat) (hlen : ds.length = 6) (hlt : ∀ d ∈ ds, d < 6) (hu : u < 3) : Ex X (E4 ds hs' es u) (exec (lawS 5) X.env) .next (E5 ds hs' es u) := by
  refine' Ex.assign (i := 38) ?h19a rfl rfl rfl ?h19s
  case h19a =>
    refine' Ev.comp1 (tab' := [(28, .local), (30, .free), (71, .globalImplicit)]) (fs := [(30, .str (unitS u))]) (t := 28) ?h18a Iters.list ?h18b (fun _ => rfl) rfl rfl rfl ?h18c
    case h18a =>
      exact Ev.name (i := 27) rfl rfl rfl rfl
    case h18b =>
      exact ⟨rfl, by decide +kernel, by decide +kernel, (fun x hx => by
        simp only [List.mem_cons, List.not_mem_nil, or_false] at hx
        rcases hx with rfl <;> exact ⟨rfl, rfl, .inl rfl⟩), (fun x hx h => by
        simp only [List.mem_cons, List.not_mem_nil, or_false] at hx
        rcases hx with rfl | rfl | rfl | rfl <;> first | (exact absurd h (by decide)) | exact ⟨30, .cell, rfl, rfl, .inl rfl⟩)⟩
    case h18c =>
      intro Y D hY
      have hKY : KF Y.K Y.w := by rw [hY.K, hY.w]; exact hK
      have hnY : Y.n = 3 := by rw [hY.n]; exact hn
      refine comp_map (fun d => rowPV d) (fun d => LD (d + 2) u) [(30, .str (unitS u))] (fun x hx => by
        simp only [List.mem_cons, List.not_mem_nil, or_false] at hx
        rcases hx with rfl <;> simp) (by decide) ds [] [] (.inl rfl) (fun d hd l acc hacc => ?_) (by simp; omega)
      have hd6 := hlt d hd
      refine In.elt ?el rfl (Nat.le_trans hacc (by decide))
      have hK := hKY
      refine' Ev.call ?y17x3 (callee_lead hK) ?y17x4 ?y17x5 rfl
      case y17x3 =>
        exact Ev.gT (i := 71) rfl rfl (k_law_lead hK) (fun _ _ => rep_raw)
      case y17x4 =>
        refine' Ar.s2 ?y17x1 ?y17x2 rfl
        case y17x1 =>
          exact Ev.name (i := 28) rfl rfl rfl rfl
        case y17x2 =>
          exact Ev.name (i := 30) rfl rfl rfl rfl
      case y17x5 =>
        exact Fn.calls (lead_fn (by omega) hu) (by show 3 ≤ Y.n; omega) hK
  case h19s =>
    (simp only [swapsWith, Env.blockKind, Env.kindOf, hs]; rfl)
theorem law_s6 (hn : X.n = 3) (hK : KF X.K X.w) (hs : X.env.scope = lawScope) (ds : List Nat) (hs' : List Int) (es : List Str) (u : Nat) (hlen : ds.length = 6) (hlt : ∀ d ∈ ds, d < 6) (hu : u < 3) : Ex X (E5 ds hs' es u) (exec (lawS 6) X.env) .next (E6 ds hs' es u) := by
  refine' Ex.assign (i := 39) ?h22a rfl rfl rfl ?h22s
  case h22a =>
    refine' Ev.comp1 (tab' := [(28, .local), (30, .free), (71, .globalImplicit), (63, .globalImplicit)]) (fs := [(30, .str (unitS u))]) (t := 28) ?h21a Iters.list ?h21b (fun _ => rfl) rfl rfl rfl ?h21c
    case h21a =>
      exact Ev.name (i := 27) rfl rfl rfl rfl
    case h21b =>
      exact ⟨rfl, by decide +kernel, by decide +kernel, (fun x hx => by
        simp only [List.mem_cons, List.not_mem_nil, or_false] at hx
        rcases hx with rfl <;> exact ⟨rfl, rfl, .inl rfl⟩), (fun x hx h => by
        simp only [List.mem_cons, List.not_mem_nil, or_false] at hx
        rcases hx with rfl | rfl | rfl | rfl | rfl <;> first | (exact absurd h (by decide)) | exact ⟨30, .cell, rfl, rfl, .inl rfl⟩)⟩
    case h21c =>
      intro Y D hY
      have hKY : KF Y.K Y.w := by rw [hY.K, hY.w]; exact hK
      have hnY : Y.n = 3 := by rw [hY.n]; exact hn
      refine comp_map (fun d => rowPV d) (fun d => LD (d + 4) u) [(30, .str (unitS u))] (fun x hx => by
        simp only [List.mem_cons, List.not_mem_nil, or_false] at hx
        rcases hx with rfl <;> simp) (by decide) ds [] [] (.inl rfl) (fun d hd l acc hacc => ?_) (by simp; omega)
      have hd6 := hlt d hd
      refine In.elt ?el rfl (Nat.le_trans hacc (by decide))
      have hK := hKY
      refine' Ev.call ?y20x11 (callee_lead hK) ?y20x12 ?y20x13 rfl
      case y20x11 =>
        exact Ev.gT (i := 71) rfl rfl (k_law_lead hK) (fun _ _ => rep_raw)
      case y20x12 =>
        refine' Ar.s2 ?y20x9 ?y20x10 rfl
        case y20x9 =>
          refine' Ev.call ?y20x6 (callee_quotedata hK) ?y20x7 ?y20x8 rfl
          case y20x6 =>
            exact Ev.gT (i := 63) rfl rfl (k_quotedata hK) (fun _ _ => rep_raw)
          case y20x7 =>
            refine' Ar.s1 ?y20x5 rfl
            case y20x5 =>
              refine' Ev.call ?y20x2 (callee_quotedata hK) ?y20x3 ?y20x4 rfl
              case y20x2 =>
                exact Ev.gT (i := 63) rfl rfl (k_quotedata hK) (fun _ _ => rep_raw)
              case y20x3 =>
                refine' Ar.s1 ?y20x1 rfl
                case y20x1 =>
                  exact Ev.name (i := 28) rfl rfl rfl rfl
              case y20x4 =>
                exact Fn.calls (quote_fn (n := d + 1) (by omega)) (by show 1 ≤ Y.n; omega) hK
          case y20x8 =>
            exact Fn.calls (quote_fn (n := d + 2) (by omega)) (by show 1 ≤ Y.n; omega) hK
        case y20x10 =>
          exact Ev.name (i := 30) rfl rfl rfl rfl
      case y20x13 =>
        exact Fn.calls (lead_fn (n := d + 4) (by omega) hu) (by show 3 ≤ Y.n; omega) hK
  case h22s =>
    (simp only [swapsWith, Env.blockKind, Env.kindOf, hs]; rfl)
theorem law_s7 (hn : X.n = 3) (hK : KF X.K X.w) (hs : X.env.scope = lawScope) (ds : List Nat) (hs' : List Int) (es : List Str) (u : Nat) (hlen : ds.length = 6) (hlt : ∀ d ∈ ds, d < 6) (hu : u < 3) : Ex X (E6 ds hs' es u) (exec (lawS 7) X.env) .next (E7 ds hs' es u) := by
  refine' Ex.castE ?h27a ?h27b
  case h27a =>
    refine' Ex.assignComp2 (tab' := [(41, .local), (14, .local), (38, .free), (39, .free), (58, .globalImplicit)]) (i := 40) (fs := [(38, .list (ds.map fun d => LD (d + 2) u)), (39, .list (ds.map fun d => LD (d + 4) u))]) (t := 41) ?h26a (iters_rng 6 ?h26z (by decide)) ?h26b (fun _ => rfl) rfl rfl rfl rfl rfl rfl ?h26s ?h26c
    case h26a =>
      refine' Ev.call ?y24x6 (Callee.type "range") ?y24x7 ?y24x8 rfl
      case y24x6 =>
        exact Ev.bT (i := 58) rfl rfl (k_range hK) b_range (by decide)
      case y24x7 =>
        refine' Ar.s1 ?y24x5 rfl
        case y24x5 =>
          refine' Ev.call ?y24x2 (Callee.builtin "len") ?y24x3 ?y24x4 rfl
          case y24x2 =>
            exact Ev.bT (i := 57) rfl rfl (k_len hK) b_len (by decide)
          case y24x3 =>
            refine' Ar.s1 ?y24x1 rfl
            case y24x1 =>
              exact Ev.name (i := 27) rfl rfl rfl rfl
          case y24x4 =>
            exact Calls.lenList (by rw [List.length_map]; omega)
      case y24x8 =>
        exact Calls.range1
    case h26z =>
      rw [List.length_map, hlen]
    case h26b =>
      exact ⟨rfl, by decide +kernel, by decide +kernel, (fun x hx => by
        simp only [List.mem_cons, List.not_mem_nil, or_false] at hx
        rcases hx with rfl | rfl <;> exact ⟨rfl, rfl, .inl rfl⟩), (fun x hx h => by
        simp only [List.mem_cons, List.not_mem_nil, or_false] at hx
        rcases hx with rfl | rfl | rfl | rfl | rfl | rfl <;> first | (exact absurd h (by decide)) | exact ⟨38, .cell, rfl, rfl, .inl rfl⟩ | exact ⟨39, .cell, rfl, rfl, .inl rfl⟩)⟩
    case h26s =>
      (simp only [swapsWith, Env.blockKind, Env.kindOf, hs]; rfl)
    case h26c =>
      intro Y D hY
      have hKY : KF Y.K Y.w := by rw [hY.K, hY.w]; exact hK
      have hnY : Y.n = 3 := by rw [hY.n]; exact hn
      have hK := hKY
      refine comp_two (t1 := 41) (t2 := 14) (k2 := .local) natPV (fun j => List.range j) (fun _ i => natPV i) (fun j i => !(decide (ds.getD i 0 + 2 < ds.getD j 0 + 2)) && decide (ds.getD i 0 + 2 < ds.getD j 0 + 4)) (fun _ i => natPV i) [(38, .list (ds.map fun d => LD (d + 2) u)), (39, .list (ds.map fun d => LD (d + 4) u))] (fun x hx => by
        simp only [List.mem_cons, List.not_mem_nil, or_false] at hx
        rcases hx with rfl | rfl <;> simp) (fun x hx => by
        simp only [List.mem_cons, List.not_mem_nil, or_false] at hx
        rcases hx with rfl | rfl <;> simp) (by decide) (by decide) (by decide) (List.range 6) rfl rfl rfl (fun _ => rfl) ?it ?ts ?el (fun j hj => by rw [List.length_range]; have := List.mem_range.mp hj; omega) (by decide)
      case it =>
        intro j hj l acc
        have hj6 := List.mem_range.mp hj
        refine' ⟨_, ?i1, iters_rng j rfl (by omega)⟩
        case i1 =>
          refine' Ev.call ?y25x2 (Callee.type "range") ?y25x3 ?y25x4 rfl
          case y25x2 =>
            exact Ev.bT (i := 58) rfl rfl (k_range hK) b_range (by decide)
          case y25x3 =>
            refine' Ar.s1 ?y25x1 rfl
            case y25x1 =>
              exact Ev.name (i := 41) rfl rfl rfl rfl
          case y25x4 =>
            exact Calls.range1
      case ts =>
        intro j hj i hi l acc
        have hj6 := List.mem_range.mp hj
        have hij := List.mem_range.mp hi
        have d1 := getD_lt (i := i) hlt
        have d2 := getD_lt (i := j) hlt
        refine' Ts.castB ?t1 ?t2
        case t1 =>
          refine' Ts.and ?y23x31 (fun _ => ?y23x32) (fun _ => rfl)
          case y23x31 =>
            refine' Ts.cmp ?y23x12 ?y23x13 ?y23x14 rfl
            case y23x12 =>
              refine' Ev.methI (C := 117) (fa := 107) ?y23x8 ?y23x9 (cls_W hK) (k_m_less hK) (k_t_less hK) (k_k_less hK) ?y23x10 ?y23x11 rfl rfl rfl
              case y23x8 =>
                refine' Ev.sub ?y23x1 ?y23x2 ?y23x3 (fun _ _ => rfl)
                case y23x1 =>
                  exact Ev.name (i := 38) rfl rfl rfl rfl
                case y23x2 =>
                  exact Ev.name (i := 14) rfl rfl rfl rfl
                case y23x3 =>
                  exact item_ds (f := fun d => LD (d + 2) u) (i := i) (by omega) (by omega)
              case y23x9 =>
                refine' Ar.s1 ?y23x7 rfl
                case y23x7 =>
                  refine' Ev.sub ?y23x4 ?y23x5 ?y23x6 (fun _ _ => rfl)
                  case y23x4 =>
                    exact Ev.name (i := 38) rfl rfl rfl rfl
                  case y23x5 =>
                    exact Ev.name (i := 41) rfl rfl rfl rfl
                  case y23x6 =>
                    exact item_ds (f := fun d => LD (d + 2) u) (i := j) (by omega) (by omega)
              case y23x10 =>
                decide
              case y23x11 =>
                exact Fn.calls (less_LD (by omega) (by omega) hu) (by show 2 ≤ Y.n; omega) hK
            case y23x13 =>
              exact Ev.cbool
            case y23x14 =>
              exact Cmp.isBool
          case y23x32 =>
            refine' Ts.and ?y23x29 (fun _ => ?y23x30) (fun _ => rfl)
            case y23x29 =>
              refine' Ts.cmp ?y23x26 ?y23x27 ?y23x28 rfl
              case y23x26 =>
                refine' Ev.methI (C := 117) (fa := 107) ?y23x22 ?y23x23 (cls_W hK) (k_m_less hK) (k_t_less hK) (k_k_less hK) ?y23x24 ?y23x25 rfl rfl rfl
                case y23x22 =>
                  refine' Ev.sub ?y23x15 ?y23x16 ?y23x17 (fun _ _ => rfl)
                  case y23x15 =>
                    exact Ev.name (i := 38) rfl rfl rfl rfl
                  case y23x16 =>
                    exact Ev.name (i := 14) rfl rfl rfl rfl
                  case y23x17 =>
                    exact item_ds (f := fun d => LD (d + 2) u) (i := i) (by omega) (by omega)
                case y23x23 =>
                  refine' Ar.s1 ?y23x21 rfl
                  case y23x21 =>
                    refine' Ev.sub ?y23x18 ?y23x19 ?y23x20 (fun _ _ => rfl)
                    case y23x18 =>
                      exact Ev.name (i := 39) rfl rfl rfl rfl
                    case y23x19 =>
                      exact Ev.name (i := 41) rfl rfl rfl rfl
                    case y23x20 =>
                      exact item_ds (f := fun d => LD (d + 4) u) (i := j) (by omega) (by omega)
                case y23x24 =>
                  decide
                case y23x25 =>
                  exact Fn.calls (less_LD (by omega) (by omega) hu) (by show 2 ≤ Y.n; omega) hK
              case y23x27 =>
                exact Ev.cbool
              case y23x28 =>
                exact Cmp.isBool
            case y23x30 =>
              exact Ts.andNil
        case t2 =>
          simp
      case el =>
        intro j hj i hi l acc hacc
        exact In.elt (Ev.name (i := 14) rfl rfl rfl rfl) rfl (Nat.le_trans hacc (by decide))
  case h27b =>
    unfold E7 pairsL; rw [List.map_flatMap]
end
end Mine
end

section
open PySem PySem.W PyProof.Rows PySem.Calls
set_option Elab.async false
set_option linter.unusedVariables false
set_option maxRecDepth 100000
set_option maxHeartbeats 4000000
set_option linter.unusedSimpArgs false
namespace Mine
local macro_rules | `(tactic| walk_at "num") => `(tactic| first | exact (show 0 ≤ sizeLine by decide) | exact (show 1 ≤ sizeLine by decide) | exact (show 2 ≤ sizeLine by decide) | exact (show 3 ≤ sizeLine by decide) | exact (show 6 ≤ sizeLine by decide) | omega | (simp; omega) | decide | assumption)
local macro_rules | `(tactic| walk_at "bin") => `(tactic| first | exact Bin.addInt | exact Bin.subInt | exact Bin.modInt (by walk_at "num") | exact Bin.divInt (by walk_at "num") (by walk_at "num") | exact Bin.mulInt (by walk_at "num") (by walk_at "num") | exact Bin.addStr (by walk_at "num") | exact Bin.addList (by walk_at "num") | exact Bin.mulOne (by walk_at "num") (by walk_at "num") rfl)
local macro_rules | `(tactic| walk_at "cmp") => `(tactic| first | exact Cmp.eqInt | exact Cmp.neInt | exact Cmp.ltInt | exact Cmp.leInt | exact Cmp.gtInt | exact Cmp.geInt | exact Cmp.eqStr | exact Cmp.neStr | exact Cmp.isBool)
local macro_rules | `(tactic| walk_at "call") => `(tactic| first | exact Calls.lenList (by walk_at "num") | exact Calls.lenTuple (by walk_at "num") | exact Calls.range1 | exact Calls.range2 | exact Calls.max2 | exact Calls.tupleList (by walk_at "num"))

theorem dots1 : ("." : Str) = dotsS 1 := by decide +kernel
def E8 (n : Nat) (s : List Nat) (ds : List Nat) (hs : List Int) (es : List Str) (u : Nat) : PEnv := [(32, .val (.list (ds.map natPV))), (33, .val (.list (hs.map PV.int))), (19, .val (.list (es.map PV.str))), (30, .val (.str (unitS u))), (27, .val (.list (ds.map rowPV))), (38, .val (.list (ds.map fun d => LD (d + 2) u))), (40, .val (.list ((pairsL ds).map natPV))), (42, .val (.str (mkS s))), (43, .val (.str (dotsS n))), (44, .val (LD n u))]
theorem Turns.idx {B : PV → PEnv → PF → PEnv → Prop} (g : Nat → PV) (env : Nat → PEnv) : ∀ (k a : Nat), (∀ i, a ≤ i → i < a + k → B (g i) (env i) .next (env (i + 1))) → Turns B ((List.range' a k).map g) (env a) .next (env (a + k))
  | 0, a, _ => .done
  | k + 1, a, h => by
    rw [List.range'_succ, List.map_cons]
    refine .next (h a (Nat.le_refl _) (by omega)) ?_
    have := Turns.idx g env k (a + 1) fun i h1 h2 => h i (by omega) (by omega)
    rw [show a + (k + 1) = a + 1 + k by omega]
    exact this
theorem Turns.idx0 {B : PV → PEnv → PF → PEnv → Prop} (g : Nat → PV) (env : Nat → PEnv) (k : Nat) (h : ∀ i, i < k → B (g i) (env i) .next (env (i + 1))) : Turns B ((List.range k).map g) (env 0) .next (env k) := by
  have := Turns.idx g env k 0 fun i _ h2 => h i (by omega)
  rw [List.range_eq_range', Nat.zero_add] at *
  exact this
theorem Turns.foldN {B : PV → PEnv → PF → PEnv → Prop} {σ α : Type} (env : σ → PEnv) (step : σ → α → σ) (sz : σ → Nat) (M : Nat) (hstep : ∀ st y, sz (step st y) ≤ sz st + 2) (g : α → PV) : ∀ (xs : List α) (st : σ), sz st + 2 * xs.length ≤ M → (∀ st y, y ∈ xs → sz st + 2 ≤ M → B (g y) (env st) .next (env (step st y))) → Turns B (xs.map g) (env st) .next (env (xs.foldl step st))
  | [], st, _, _ => .done
  | y :: ys, st, hl, h => by
    rw [List.length_cons] at hl
    have h1 := hstep st y
    exact .next (h st y List.mem_cons_self (by omega)) (Turns.foldN env step sz M hstep g ys (step st y) (by omega) fun st' z hz => h st' z (List.mem_cons_of_mem _ hz))
def secOne (n : Nat) (s : List Nat) (d : Nat) : List Nat := if (d + 2 == n) = true then (if (d + 2 == n + 1) = true then s ++ [40] else s) ++ [41] else (if (d + 2 == n + 1) = true then s ++ [40] else s)
theorem secOne_len (n : Nat) (s : List Nat) (d : Nat) : (secOne n s d).length ≤ s.length + 2 := by
  unfold secOne
  split <;> split <;> simp
theorem secTurn_len (ds : List Nat) (n : Nat) : ∀ s : List Nat, (secTurn ds n s).length ≤ s.length + 2 * ds.length := by
  show ∀ s : List Nat, (ds.foldl (secOne n) s).length ≤ s.length + 2 * ds.length
  induction ds with
  | nil => intro s; simp
  | cons d r ih =>
    intro s
    have h1 := ih (secOne n s d)
    have h2 := secOne_len n s d
    rw [List.foldl_cons, List.length_cons]
    omega
def secN (ds : List Nat) (i : Nat) : List Nat := (List.range i).foldl (fun s t => secTurn ds (t + 1) s) []
theorem secN_succ (ds : List Nat) (i : Nat) : secN ds (i + 1) = secTurn ds (i + 1) (secN ds i) := by
  unfold secN
  rw [List.range_succ, List.foldl_append]
  rfl
theorem secN_len (ds : List Nat) : ∀ i, (secN ds i).length ≤ 2 * ds.length * i
  | 0 => Nat.le_refl _
  | i + 1 => by
    rw [secN_succ]
    have h1 := secTurn_len ds (i + 1) (secN ds i)
    have h2 := secN_len ds i
    rw [Nat.mul_add]
    omega
section
variable {X : Fx ltab}
theorem law_s8 (hn : X.n = 3) (hK : KF X.K X.w) (hs : X.env.scope = lawScope) (ds : List Nat) (hs' : List Int) (es : List Str) (u : Nat) (hu : u < 3) : Ex X (E7 ds hs' es u) (exec (lawS 8) X.env) .next (E8 1 [] ds hs' es u) := by
  have e0 : E8 1 [] ds hs' es u = [(32, .val (.list (ds.map natPV))), (33, .val (.list (hs'.map PV.int))), (19, .val (.list (es.map PV.str))), (30, .val (.str (unitS u))), (27, .val (.list (ds.map rowPV))), (38, .val (.list (ds.map fun d => LD (d + 2) u))), (40, .val (.list ((pairsL ds).map natPV))), (42, .val (.str "")), (43, .val (.str ".")), (44, .val (LD 1 u))] := by
    unfold E8
    rw [dots1, mk0]
  rw [e0]
  refine Ex.sub (e₁ := ?sb2) ?sc2 ?sd2
  rotate_left
  · refine' Ex.unpackS (names := ["second", "dots", "below"]) (is := [44, 43, 42]) ?h2a ?h2b ?h2c rfl rfl ?h2d
    case h2a =>
      refine' Ev.tuple ?y1x12 ?y1x13
      case y1x12 =>
        refine' EvL.sc ?y1x10 ?y1x11 rfl
        case y1x10 =>
          exact Ev.cstr
        case y1x11 =>
          refine' EvL.sc ?y1x8 ?y1x9 rfl
          case y1x8 =>
            exact Ev.cstr
          case y1x9 =>
            refine' EvL.sc ?y1x6 ?y1x7 rfl
            case y1x6 =>
              refine' Ev.call ?y1x3 (callee_lead hK) ?y1x4 ?y1x5 rfl
              case y1x3 =>
                exact Ev.gT (i := 71) rfl rfl (k_law_lead hK) (fun _ _ => rep_raw)
              case y1x4 =>
                refine' Ar.s2 ?y1x1 ?y1x2 rfl
                case y1x1 =>
                  exact Ev.castP (q := .str (dotsS 1)) Ev.cstr (congrArg PV.str dots1)
                case y1x2 =>
                  exact Ev.name (i := 30) rfl rfl rfl rfl
              case y1x5 =>
                exact Fn.calls (lead_fn (n := 1) (by decide) hu) (by omega) hK
            case y1x7 =>
              exact EvL.s0
      case y1x13 =>
        walk_at "num"
    case h2b =>
      exact Tgts.cons (Tgt.bind rfl rfl rfl) (Tgts.cons (Tgt.bind rfl rfl rfl) (Tgts.cons (Tgt.bind rfl rfl rfl) (Tgts.nil)))
    case h2c =>
      rfl
    case h2d =>
      (simp only [swappedStores, Env.blockKind, Env.kindOf, hs]; rfl)
  · exact Sub.cons rfl (Sub.cons rfl (Sub.cons rfl (Sub.cons rfl (Sub.cons rfl (Sub.cons rfl (Sub.cons rfl (Sub.cons rfl (Sub.cons rfl (Sub.cons rfl (Sub.nil))))))))))
theorem law_s9 (hn : X.n = 3) (hK : KF X.K X.w) (hs : X.env.scope = lawScope) (ds : List Nat) (hs' : List Int) (es : List Str) (u : Nat) (hlen : ds.length = 6) (hlt : ∀ d ∈ ds, d < 6) (hu : u < 3) : Ex X (E8 1 [] ds hs' es u) (exec (lawS 9) X.env) .next (E8 8 (secondL ds) ds hs' es u) := by
  refine' Ex.for (t := 45) ?h31a (iters_rng 7 ?h31z (by decide)) rfl rfl rfl ?h31b (fun _ => rfl)
  case h31a =>
    refine' Ev.call ?y30x2 (Callee.type "range") ?y30x3 ?y30x4 rfl
    case y30x2 =>
      exact Ev.bT (i := 58) rfl rfl (k_range hK) b_range (by decide)
    case y30x3 =>
      refine' Ar.s1 ?y30x1 rfl
      case y30x1 =>
        exact Ev.cint
    case y30x4 =>
      exact Calls.range1
  case h31z =>
    rfl
  case h31b =>
    refine Turns.idx0 natPV (fun i => E8 (i + 1) (secN ds i) ds hs' es u) 7 (fun n hn7 l => ?_)
    rw [secN_succ]
    have hsn : (secN ds n).length ≤ 500 := by
      have := secN_len ds n
      rw [hlen] at this
      omega
    generalize secN ds n = s at hsn
    let IE : List Nat → PEnv := fun s => [(32, Slot.val (.list (ds.map natPV))), (33, .val (.list (hs'.map PV.int))), (19, .val (.list (es.map PV.str))), (30, .val (.str (unitS u))), (27, .val (.list (ds.map rowPV))), (38, .val (.list (ds.map fun d => LD (d + 2) u))), (40, .val (.list ((pairsL ds).map natPV))), (42, .val (.str (mkS s))), (43, .val (.str (dotsS (n + 2)))), (44, .val (LD (n + 1) u)), (45, .val (natPV n)), (46, .val (LD (n + 2) u))]
    refine Ex.sub (e₁ := ?sb30) ?sc30 ?sd30
    rotate_left
    · refine' Ex.cons ?s26a ?s26b
      case s26a =>
        refine' Ex.assign (i := 43) ?h22a rfl rfl rfl rfl
        case h22a =>
          refine' Ev.call ?y21x2 (callee_quotedata hK) ?y21x3 ?y21x4 rfl
          case y21x2 =>
            exact Ev.gT (i := 63) rfl rfl (k_quotedata hK) (fun _ _ => rep_raw)
          case y21x3 =>
            refine' Ar.s1 ?y21x1 rfl
            case y21x1 =>
              exact Ev.name (i := 43) rfl rfl rfl rfl
          case y21x4 =>
            exact Fn.calls (quote_fn (n := n) (by omega)) (by show 1 ≤ X.n; omega) hK
      case s26b =>
        refine' Ex.cons ?s27a ?s27b
        case s27a =>
          refine' Ex.assign (i := 46) ?h24a rfl rfl rfl rfl
          case h24a =>
            refine' Ev.call ?y23x3 (callee_lead hK) ?y23x4 ?y23x5 rfl
            case y23x3 =>
              exact Ev.gT (i := 71) rfl rfl (k_law_lead hK) (fun _ _ => rep_raw)
            case y23x4 =>
              refine' Ar.s2 ?y23x1 ?y23x2 rfl
              case y23x1 =>
                exact Ev.name (i := 43) rfl rfl rfl rfl
              case y23x2 =>
                exact Ev.name (i := 30) rfl rfl rfl rfl
            case y23x5 =>
              exact Fn.calls (lead_fn (n := n + 2) (by omega) hu) (by show 3 ≤ X.n; omega) hK
        case s27b =>
          refine' Ex.cons ?s28a ?s28b
          case s28a =>
            refine' Ex.castE (e₂ := IE (secTurn ds (n + 1) s)) ?in1 ?in2
            case in1 =>
              refine' Ex.for (t := 47) ?h20a Iters.list rfl rfl rfl ?h20b (fun _ => rfl)
              case h20a =>
                exact Ev.name (i := 38) rfl rfl rfl rfl
              case h20b =>
                refine Turns.foldN (fun s => IE s) (secOne (n + 1)) List.length 1000 (secOne_len _) (fun d => LD (d + 2) u) ds s ?f1 ?f2
                case f1 => omega
                case f2 =>
                  intro s d hd hsl l
                  have hd6 := hlt d hd
                  refine Ex.sub (e₁ := (IE (secOne (n + 1) s d)).set 47 (.val (LD (d + 2) u))) ?g1 ?g2
                  case g2 => exact Sub.cons rfl (Sub.cons rfl (Sub.cons rfl (Sub.cons rfl (Sub.cons rfl (Sub.cons rfl (Sub.cons rfl (Sub.cons rfl (Sub.cons rfl (Sub.cons rfl (Sub.cons rfl (Sub.cons rfl (Sub.nil))))))))))))
                  case g1 =>
                    refine' Ex.cons (e₁ := (IE (if (d + 2 == n + 1 + 1) = true then s ++ [40] else s)).set 47 (.val (LD (d + 2) u))) ?h1 ?h2
                    case h1 =>
                      refine' Ex.if ?h11t (fun hb => ?h11a) (fun hb => ?h11b)
                      case h11t =>
                        refine' Ts.castB (c := (d + 2 == n + 1 + 1)) ?tt0 ?tu0
                        case tt0 =>
                          refine' Ts.cmp ?y4x6 ?y4x7 ?y4x8 rfl
                          case y4x6 =>
                            refine' Ev.methI (C := 117) (fa := 93) ?y4x2 ?y4x3 (cls_W hK) (k_m_equal hK) (k_t_equal hK) (k_k_equal hK) ?y4x4 ?y4x5 rfl rfl rfl
                            case y4x2 =>
                              exact Ev.name (i := 47) rfl rfl rfl rfl
                            case y4x3 =>
                              refine' Ar.s1 ?y4x1 rfl
                              case y4x1 =>
                                exact Ev.name (i := 46) rfl rfl rfl rfl
                            case y4x4 =>
                              decide
                            case y4x5 =>
                              exact Fn.calls (eq_LD (by omega) (by omega) hu) (by show 1 ≤ X.n; omega) hK
                          case y4x7 =>
                            exact Ev.cbool
                          case y4x8 =>
                            exact Cmp.isBool
                        case tu0 => simp
                      case h11a =>
                        rw [if_pos hb]
                        refine' Ex.cons ?h10a Ex.nil
                        case h10a =>
                          refine' Ex.castE ?h9b ?h9z
                          case h9b =>
                            refine' Ex.assign (i := 42) ?h8a rfl rfl rfl rfl
                            case h8a =>
                              refine' Ev.castP (q := PV.str (mkS (s ++ [40]))) ?h7a ?h7b
                              case h7a =>
                                refine' Ev.binop ?h6l ?h6r ?h6o
                                case h6l =>
                                  exact Ev.name (i := 42) rfl rfl rfl rfl
                                case h6r =>
                                  exact Ev.castP (q := .str (mkS [40])) Ev.cstr (congrArg PV.str (by decide +kernel))
                                case h6o =>
                                  exact Bin.addStr (Nat.le_trans (show s.length + 1 ≤ 1000 by omega) (by decide))
                              case h7b =>
                                exact congrArg PV.str (mkS_append _ _)
                          case h9z =>
                            rfl
                      case h11b =>
                        rw [if_neg (by rw [hb]; simp)]
                        exact Ex.nil
                    case h2 =>
                      have hs1 : (if (d + 2 == n + 1 + 1) = true then s ++ [40] else s).length ≤ s.length + 1 := by split <;> simp
                      unfold secOne
                      generalize (if (d + 2 == n + 1 + 1) = true then s ++ [40] else s) = s1 at hs1
                      refine' Ex.cons (e₁ := (IE (if (d + 2 == n + 1) = true then s1 ++ [41] else s1)).set 47 (.val (LD (d + 2) u))) ?h3 Ex.nil
                      refine' Ex.if ?h19t (fun hb => ?h19a) (fun hb => ?h19b)
                      case h19t =>
                        refine' Ts.castB (c := (d + 2 == n + 1)) ?tt1 ?tu1
                        case tt1 =>
                          refine' Ts.cmp ?y12x6 ?y12x7 ?y12x8 rfl
                          case y12x6 =>
                            refine' Ev.methI (C := 117) (fa := 93) ?y12x2 ?y12x3 (cls_W hK) (k_m_equal hK) (k_t_equal hK) (k_k_equal hK) ?y12x4 ?y12x5 rfl rfl rfl
                            case y12x2 =>
                              exact Ev.name (i := 47) rfl rfl rfl rfl
                            case y12x3 =>
                              refine' Ar.s1 ?y12x1 rfl
                              case y12x1 =>
                                exact Ev.name (i := 44) rfl rfl rfl rfl
                            case y12x4 =>
                              decide
                            case y12x5 =>
                              exact Fn.calls (eq_LD (by omega) (by omega) hu) (by show 1 ≤ X.n; omega) hK
                          case y12x7 =>
                            exact Ev.cbool
                          case y12x8 =>
                            exact Cmp.isBool
                        case tu1 => simp
                      case h19a =>
                        rw [if_pos hb]
                        refine' Ex.cons ?h18a Ex.nil
                        case h18a =>
                          refine' Ex.castE ?h17b ?h17z
                          case h17b =>
                            refine' Ex.assign (i := 42) ?h16a rfl rfl rfl rfl
                            case h16a =>
                              refine' Ev.castP (q := PV.str (mkS (s1 ++ [41]))) ?h15a ?h15b
                              case h15a =>
                                refine' Ev.binop ?h14l ?h14r ?h14o
                                case h14l =>
                                  exact Ev.name (i := 42) rfl rfl rfl rfl
                                case h14r =>
                                  exact Ev.castP (q := .str (mkS [41])) Ev.cstr (congrArg PV.str (by decide +kernel))
                                case h14o =>
                                  exact Bin.addStr (Nat.le_trans (show s1.length + 1 ≤ 1000 by omega) (by decide))
                              case h15b =>
                                exact congrArg PV.str (mkS_append _ _)
                          case h17z =>
                            rfl
                      case h19b =>
                        rw [if_neg (by rw [hb]; simp)]
                        exact Ex.nil
            case in2 => rfl
          case s28b =>
            refine' Ex.cons ?s29a ?s29b
            case s29a =>
              refine' Ex.assign (i := 44) ?y25x1 rfl rfl rfl rfl
              case y25x1 =>
                exact Ev.name (i := 46) rfl rfl rfl rfl
            case s29b =>
              exact Ex.nil
    · exact Sub.cons rfl (Sub.cons rfl (Sub.cons rfl (Sub.cons rfl (Sub.cons rfl (Sub.cons rfl (Sub.cons rfl (Sub.cons rfl (Sub.cons rfl (Sub.cons rfl (Sub.nil))))))))))
end
end Mine
end

section
open PySem PySem.W PyProof.Rows PySem.Calls
set_option Elab.async false
set_option linter.unusedVariables false
set_option maxRecDepth 100000
set_option maxHeartbeats 4000000
set_option linter.unusedSimpArgs false
namespace Mine
local macro_rules | `(tactic| walk_at "num") => `(tactic| first | exact (show 0 ≤ sizeLine by decide) | exact (show 1 ≤ sizeLine by decide) | exact (show 2 ≤ sizeLine by decide) | exact (show 3 ≤ sizeLine by decide) | exact (show 6 ≤ sizeLine by decide) | omega | (simp; omega) | decide | assumption)
local macro_rules | `(tactic| walk_at "bin") => `(tactic| first | exact Bin.addInt | exact Bin.subInt | exact Bin.modInt (by walk_at "num") | exact Bin.divInt (by walk_at "num") (by walk_at "num") | exact Bin.mulInt (by walk_at "num") (by walk_at "num") | exact Bin.addStr (by walk_at "num") | exact Bin.addList (by walk_at "num") | exact Bin.mulOne (by walk_at "num") (by walk_at "num") rfl)
local macro_rules | `(tactic| walk_at "cmp") => `(tactic| first | exact Cmp.eqInt | exact Cmp.neInt | exact Cmp.ltInt | exact Cmp.leInt | exact Cmp.gtInt | exact Cmp.geInt | exact Cmp.eqStr | exact Cmp.neStr | exact Cmp.isBool)
local macro_rules | `(tactic| walk_at "call") => `(tactic| first | exact Calls.lenList (by walk_at "num") | exact Calls.lenTuple (by walk_at "num") | exact Calls.range1 | exact Calls.range2 | exact Calls.max2 | exact Calls.tupleList (by walk_at "num"))

def E10 (n : Nat) (s : List Nat) (ds : List Nat) (hs : List Int) (es : List Str) (u : Nat) : PEnv := (E8 n s ds hs es u).set 48 (.val (.list ((orderL ds).map natPV)))
def E11 (n : Nat) (s : List Nat) (ds : List Nat) (es : List Str) (u : Nat) : PEnv := (E10 n s ds (headsL ds) es u).set 49 (.val (.list ((dueL ds).map PV.int)))
def dueOne (ds : List Nat) (k : Nat) : Int := if 0 ≤ (headsL ds).getD k 0 then (((List.range 6).filter fun m => ((orderL ds).getD m 0 : Int) == (headsL ds).getD k 0).getD 0 0 : Int) else -1
section
variable {tab : List (Nat × NameKind)} {X : Fx tab}
theorem item_ints' {hs : List Int} {k : Nat} (hk : k < hs.length) (hl : hs.length ≤ 1000) : Item X (.list (hs.map PV.int)) (.int (k : Int)) (.int (hs.getD k 0)) :=
  item_nat (by rw [List.getElem?_map, List.getD_eq_getElem?_getD, List.getElem?_eq_getElem hk]; rfl) (by simpa using hl)
end
section
variable {X : Fx ltab}
theorem law_s10 (hn : X.n = 3) (hK : KF X.K X.w) (hs : X.env.scope = lawScope) (n : Nat) (s : List Nat) (ds : List Nat) (hs' : List Int) (es : List Str) (u : Nat) (hlen : ds.length = 6) : Ex X (E8 n s ds hs' es u) (exec (lawS 10) X.env) .next (E10 n s ds hs' es u) := by
  refine' Ex.assign (i := 48) ?h6a rfl rfl rfl ?h6s
  case h6a =>
    refine' Ev.castP (q := .list ((orderL ds).map natPV)) ?h5a ?h5b
    case h5a =>
      refine' Ev.comp2 (tab' := [(37, .local), (29, .local), (32, .free), (58, .globalImplicit)]) (fs := [(32, .list (ds.map natPV))]) (t := 37) ?h4a (iters_rng 6 rfl (by decide)) ?h4b (fun _ => rfl) rfl rfl rfl ?h4c
      case h4a =>
        refine' Ev.call ?y3x2 (Callee.type "range") ?y3x3 ?y3x4 rfl
        case y3x2 =>
          exact Ev.bT (i := 58) rfl rfl (k_range hK) b_range (by decide)
        case y3x3 =>
          refine' Ar.s1 ?y3x1 rfl
          case y3x1 =>
            exact Ev.cint
        case y3x4 =>
          exact Calls.range1
      case h4b =>
        exact ⟨rfl, by decide +kernel, by decide +kernel, (fun x hx => by
          simp only [List.mem_cons, List.not_mem_nil, or_false] at hx
          rcases hx with rfl <;> exact ⟨rfl, rfl, .inl rfl⟩), (fun x hx h => by
          simp only [List.mem_cons, List.not_mem_nil, or_false] at hx
          rcases hx with rfl | rfl | rfl | rfl | rfl <;> first | (exact absurd h (by decide)) | exact ⟨32, .cell, rfl, rfl, .inl rfl⟩)⟩
      case h4c =>
        intro Y D hY
        have hKY : KF Y.K Y.w := by rw [hY.K, hY.w]; exact hK
        have hK := hKY
        refine comp_two (t1 := 37) (t2 := 29) (k2 := .local) natPV (fun _ => List.range 6) (fun _ i => natPV i) (fun deep k => ds.getD k 0 == deep) (fun _ k => natPV k) [(32, .list (ds.map natPV))] (fun x hx => by
          simp only [List.mem_cons, List.not_mem_nil, or_false] at hx
          rcases hx with rfl <;> simp) (fun x hx => by
          simp only [List.mem_cons, List.not_mem_nil, or_false] at hx
          rcases hx with rfl <;> simp) (by decide) (by decide) (by decide) (List.range 6) rfl rfl rfl (fun _ => rfl) ?it ?ts ?el (fun j hj => by rw [List.length_range]; decide) (by decide)
        case it =>
          intro j hj l acc
          refine' ⟨_, ?i1, iters_rng 6 rfl (by decide)⟩
          case i1 =>
            refine' Ev.call ?y2x2 (Callee.type "range") ?y2x3 ?y2x4 rfl
            case y2x2 =>
              exact Ev.bT (i := 58) rfl rfl (k_range hK) b_range (by decide)
            case y2x3 =>
              refine' Ar.s1 ?y2x1 rfl
              case y2x1 =>
                exact Ev.cint
            case y2x4 =>
              exact Calls.range1
        case ts =>
          intro j hj k hk l acc
          have hk6 := List.mem_range.mp hk
          refine' Ts.castB ?t1 ?t2
          case t1 =>
            refine' Ts.cmp ?y1x4 ?y1x5 ?y1x6 rfl
            case y1x4 =>
              refine' Ev.sub ?y1x1 ?y1x2 ?y1x3 (fun _ _ => rfl)
              case y1x1 =>
                exact Ev.name (i := 32) rfl rfl rfl rfl
              case y1x2 =>
                exact Ev.name (i := 29) rfl rfl rfl rfl
              case y1x3 =>
                exact item_ds (f := natPV) (i := k) (by omega) (by omega)
            case y1x5 =>
              exact Ev.name (i := 37) rfl rfl rfl rfl
            case y1x6 =>
              exact Cmp.eqInt
          case t2 =>
            rw [Bool.eq_iff_iff]
            simp only [beq_iff_eq]
            omega
        case el =>
          intro j hj i hi l acc hacc
          exact In.elt (Ev.name (i := 29) rfl rfl rfl rfl) rfl (Nat.le_trans hacc (by decide))
    case h5b =>
      unfold orderL; rw [List.map_flatMap]
  case h6s =>
    (simp only [swapsWith, Env.blockKind, Env.kindOf, hs]; rfl)
theorem item_first {tab' : List (Nat × NameKind)} {X : Fx tab'} {l : List Nat} (hne : l ≠ []) : Item X (.list (l.map natPV)) (.int 0) (.int (l.getD 0 0 : Int)) := by
  cases l with
  | nil => exact absurd rfl hne
  | cons a r => exact Item.list (j := 0) (by unfold seqIndex?; simp) rfl ⟨by decide, by decide⟩
theorem law_s11 (hn : X.n = 3) (hK : KF X.K X.w) (hs : X.env.scope = lawScope) (n : Nat) (s : List Nat) (ds : List Nat) (es : List Str) (u : Nat) (hG : Good ds) (hhl : (headsL ds).length = 6) : Ex X (E10 n s ds (headsL ds) es u) (exec (lawS 11) X.env) .next (E11 n s ds es u) := by
  have holen := hG.olen
  refine' Ex.castE ?h15a ?h15b
  case h15a =>
    refine' Ex.assignComp1 (tab' := [(29, .cell), (33, .free), (48, .free), (58, .globalImplicit)]) (i := 49) (fs := [(33, .list ((headsL ds).map PV.int)), (48, .list ((orderL ds).map natPV))]) (t := 29) ?h14a Iters.list ?h14b (fun _ => rfl) rfl rfl rfl rfl rfl rfl ?h14s ?h14c
    case h14a =>
      exact Ev.name (i := 48) rfl rfl rfl rfl
    case h14b =>
      exact ⟨rfl, by decide +kernel, by decide +kernel, (fun x hx => by
        simp only [List.mem_cons, List.not_mem_nil, or_false] at hx
        rcases hx with rfl | rfl
        · exact ⟨rfl, rfl, .inl rfl⟩
        · exact ⟨rfl, rfl, .inl rfl⟩
        ), (fun x hx h => by
        simp only [List.mem_cons, List.not_mem_nil, or_false] at hx
        rcases hx with rfl | rfl | rfl | rfl | rfl <;> first | (exact absurd h (by decide)) | exact ⟨33, .cell, rfl, rfl, .inl rfl⟩ | exact ⟨48, .cell, rfl, rfl, .inl rfl⟩)⟩
    case h14s =>
      (simp only [swapsWith, Env.blockKind, Env.kindOf, hs]; rfl)
    case h14c =>
      intro Y D hY
      have hKY : KF Y.K Y.w := by rw [hY.K, hY.w]; exact hK
      have hK := hKY
      refine comp_map natPV (fun k => PV.int (dueOne ds k)) [(33, .list ((headsL ds).map PV.int)), (48, .list ((orderL ds).map natPV))] (fun x hx => by
        simp only [List.mem_cons, List.not_mem_nil, or_false] at hx
        rcases hx with rfl | rfl <;> simp) (by decide) (orderL ds) [] [] (.inl rfl) (fun k hk l acc hacc => ?_) (by rw [hG.olen]; decide)
      have hk6 := hG.olt k hk
      refine In.elt ?el rfl (Nat.le_trans hacc (by decide))
      refine' Ev.ifexp ?h13a (fun hb => ?h13b) (fun hb => ?h13c)
      case h13a =>
        refine' Ts.cmp ?y10x4 ?y10x5 ?y10x6 rfl
        case y10x4 =>
          refine' Ev.sub ?y10x1 ?y10x2 ?y10x3 (fun _ _ => rfl)
          case y10x1 =>
            exact Ev.name (i := 33) rfl rfl rfl rfl
          case y10x2 =>
            exact Ev.name (i := 29) rfl rfl rfl rfl
          case y10x3 =>
            exact item_ints' (by omega) (by omega)
        case y10x5 =>
          exact Ev.cint
        case y10x6 =>
          exact Cmp.geInt
      case h13b =>
        have h0 : 0 ≤ (headsL ds).getD k 0 := of_decide_eq_true hb
        have hne : ((List.range 6).filter fun m => ((orderL ds).getD m 0 : Int) == (headsL ds).getD k 0) ≠ [] := fun z => by
          rcases hG.head k hk with q | ⟨m, hm, q⟩
          · omega
          · have : m ∈ ((List.range 6).filter fun m => ((orderL ds).getD m 0 : Int) == (headsL ds).getD k 0) := List.mem_filter.mpr ⟨List.mem_range.mpr hm, by rw [q]; exact beq_self_eq_true _⟩
            rw [z] at this
            cases this
        refine' Ev.castP ?h12a ?h12b
        case h12a =>
          refine' Ev.sub ?h11c Ev.cint ?h11d (fun _ _ => rfl)
          case h11c =>
            refine' Ev.comp1 (tab' := [(50, .local), (33, .free), (29, .free), (48, .free)]) (fs := [(33, .list ((headsL ds).map PV.int)), (29, .int (k : Int)), (48, .list ((orderL ds).map natPV))]) (t := 50) ?h9a (iters_rng 6 rfl (by decide)) ?h9b (fun _ => rfl) rfl rfl rfl ?h9c
            case h9a =>
              refine' Ev.call ?y8x2 (Callee.type "range") ?y8x3 ?y8x4 rfl
              case y8x2 =>
                exact Ev.bT (i := 58) rfl rfl (k_range hK) b_range (by decide)
              case y8x3 =>
                refine' Ar.s1 ?y8x1 rfl
                case y8x1 =>
                  exact Ev.cint
              case y8x4 =>
                exact Calls.range1
            case h9b =>
              exact ⟨rfl, by decide +kernel, by decide +kernel, (fun x hx => by
                simp only [List.mem_cons, List.not_mem_nil, or_false] at hx
                rcases hx with rfl | rfl | rfl
                · exact ⟨rfl, rfl, .inr rfl⟩
                · exact ⟨rfl, rfl, .inl rfl⟩
                · exact ⟨rfl, rfl, .inr rfl⟩
                ), (fun x hx h => by
                simp only [List.mem_cons, List.not_mem_nil, or_false] at hx
                rcases hx with rfl | rfl | rfl | rfl | rfl <;> first | (exact absurd h (by decide)) | exact ⟨33, .free, rfl, rfl, .inr rfl⟩ | exact ⟨29, .cell, rfl, rfl, .inl rfl⟩ | exact ⟨48, .free, rfl, rfl, .inr rfl⟩)⟩
            case h9c =>
              intro Z D' hZ
              refine comp_filter natPV natPV (fun m => ((orderL ds).getD m 0 : Int) == (headsL ds).getD k 0) [(33, .list ((headsL ds).map PV.int)), (29, .int (k : Int)), (48, .list ((orderL ds).map natPV))] (fun x hx => by
                simp only [List.mem_cons, List.not_mem_nil, or_false] at hx
                rcases hx with rfl | rfl | rfl <;> simp) (by decide) (List.range 6) [] [] (.inl rfl) (fun m hm l acc => ?_) (fun m hm _ l acc hacc => ?_) (by decide)
              · have hm6 := List.mem_range.mp hm
                refine' Ts.cmp ?y7x7 ?y7x8 ?y7x9 rfl
                case y7x7 =>
                  refine' Ev.sub ?y7x1 ?y7x2 ?y7x3 (fun _ _ => rfl)
                  case y7x1 =>
                    exact Ev.name (i := 48) rfl rfl rfl rfl
                  case y7x2 =>
                    exact Ev.name (i := 50) rfl rfl rfl rfl
                  case y7x3 =>
                    exact item_nat (j := m) (out := natPV ((orderL ds).getD m 0)) (by rw [List.getElem?_map, List.getD_eq_getElem?_getD, List.getElem?_eq_getElem (by omega)]; rfl) (by rw [List.length_map]; omega)
                case y7x8 =>
                  refine' Ev.sub ?y7x4 ?y7x5 ?y7x6 (fun _ _ => rfl)
                  case y7x4 =>
                    exact Ev.name (i := 33) rfl rfl rfl rfl
                  case y7x5 =>
                    exact Ev.name (i := 29) rfl rfl rfl rfl
                  case y7x6 =>
                    exact item_ints' (by omega) (by omega)
                case y7x9 =>
                  exact Cmp.eqInt
              · exact In.elt (Ev.name (i := 50) rfl rfl rfl rfl) rfl (Nat.le_trans hacc (by decide))
          case h11d =>
            rw [List.nil_append]
            exact item_first hne
        case h12b =>
          unfold dueOne; rw [if_pos h0]
      case h13c =>
        have h0 : ¬ 0 ≤ (headsL ds).getD k 0 := of_decide_eq_false hb
        exact Ev.castP (Ev.unop Ev.cint Una.negInt) (by unfold dueOne; rw [if_neg h0])
  case h15b =>
    unfold E11 dueL; rw [List.map_map, List.nil_append]; rfl
end
end Mine
end

section
open PySem PySem.W PyProof.Rows PySem.Calls
set_option Elab.async false
set_option linter.unusedVariables false
set_option maxRecDepth 100000
set_option maxHeartbeats 4000000
set_option linter.unusedSimpArgs false
namespace Mine
local macro_rules | `(tactic| walk_at "num") => `(tactic| first | exact (show 0 ≤ sizeLine by decide) | exact (show 1 ≤ sizeLine by decide) | exact (show 2 ≤ sizeLine by decide) | exact (show 3 ≤ sizeLine by decide) | exact (show 6 ≤ sizeLine by decide) | omega | (simp; omega) | decide | assumption)
local macro_rules | `(tactic| walk_at "bin") => `(tactic| first | exact Bin.addInt | exact Bin.subInt | exact Bin.modInt (by walk_at "num") | exact Bin.divInt (by walk_at "num") (by walk_at "num") | exact Bin.mulInt (by walk_at "num") (by walk_at "num") | exact Bin.addStr (by walk_at "num") | exact Bin.addList (by walk_at "num") | exact Bin.mulOne (by walk_at "num") (by walk_at "num") rfl)
local macro_rules | `(tactic| walk_at "cmp") => `(tactic| first | exact Cmp.eqInt | exact Cmp.neInt | exact Cmp.ltInt | exact Cmp.leInt | exact Cmp.gtInt | exact Cmp.geInt | exact Cmp.eqStr | exact Cmp.neStr | exact Cmp.isBool)
local macro_rules | `(tactic| walk_at "call") => `(tactic| first | exact Calls.lenList (by walk_at "num") | exact Calls.lenTuple (by walk_at "num") | exact Calls.range1 | exact Calls.range2 | exact Calls.max2 | exact Calls.tupleList (by walk_at "num"))

def E12 (s : List Nat) (ds : List Nat) (es : List Str) (st : List Int × List Int) : PEnv := [(19, .val (.list (es.map PV.str))), (27, .val (.list (ds.map rowPV))), (40, .val (.list ((pairsL ds).map natPV))), (42, .val (.str (mkS s))), (43, .val (.str (dotsS 8))), (49, .val (.list ((dueL ds).map PV.int))), (52, .own (st.2.map PV.int)), (51, .own (st.1.map PV.int))]
def E15 (s : List Nat) (ds : List Nat) (es : List Str) (a : List Int) (st : List Int × Int) : PEnv := [(19, .val (.list (es.map PV.str))), (27, .val (.list (ds.map rowPV))), (40, .val (.list ((pairsL ds).map natPV))), (42, .val (.str (mkS s))), (43, .val (.str (dotsS 8))), (52, .val (.list (a.map PV.int))), (54, .val (.int st.2)), (53, .own (st.1.map PV.int))]
def faStep (st : List Int × List Int) (c : Nat) : List Int × List Int := if c = 40 then (st.1 ++ [(st.2.length : Int) - 1], st.2) else (st.1, st.2 ++ [(st.1.length : Int)])
theorem faL_eq (s : List Nat) : faL s = s.foldl faStep ([], []) := rfl
theorem Turns.foldTail {B : PV → PEnv → PF → PEnv → Prop} {σ α : Type} (env : σ → PEnv) (step : σ → α → σ) (sz : σ → Nat) (M : Nat) (hstep : ∀ st y, sz (step st y) ≤ sz st + 2) (g : α → PV) (last : PV) : ∀ (xs : List α) (st : σ), sz st + 2 * xs.length ≤ M → (∀ st y, y ∈ xs → sz st + 2 ≤ M → B (g y) (env st) .next (env (step st y))) → (∀ st, sz st ≤ M → B last (env st) .next (env st)) → Turns B (xs.map g ++ [last]) (env st) .next (env (xs.foldl step st))
  | [], st, hl, _, h2 => .next (h2 st (by simpa using hl)) .done
  | y :: ys, st, hl, h, h2 => by
    rw [List.length_cons] at hl
    have h1 := hstep st y
    exact .next (h st y List.mem_cons_self (by omega)) (Turns.foldTail env step sz M hstep g last ys (step st y) (by omega) (fun st' z hz => h st' z (List.mem_cons_of_mem _ hz)) h2)
theorem secOne_br (n : Nat) (s : List Nat) (d : Nat) (h : ∀ c ∈ s, c = 40 ∨ c = 41) : ∀ c ∈ secOne n s d, c = 40 ∨ c = 41 := by
  unfold secOne
  intro c hc
  split at hc <;> split at hc <;> (try simp only [List.mem_append, List.mem_singleton] at hc) <;> first
    | exact h c hc
    | (rcases hc with (hc | hc) | hc <;> first | exact h c hc | exact .inl hc | exact .inr hc)
    | (rcases hc with hc | hc <;> first | exact h c hc | exact .inl hc | exact .inr hc)
theorem secTurn_br (n : Nat) : ∀ (ds s : List Nat), (∀ c ∈ s, c = 40 ∨ c = 41) → ∀ c ∈ secTurn ds n s, c = 40 ∨ c = 41
  | [], s, h => h
  | d :: r, s, h => secTurn_br n r (secOne n s d) (secOne_br n s d h)
theorem secN_br (ds : List Nat) : ∀ i, ∀ c ∈ secN ds i, c = 40 ∨ c = 41
  | 0 => fun c hc => nomatch hc
  | i + 1 => by rw [secN_succ]; exact secTurn_br _ _ _ (secN_br ds i)
theorem eqP_intsL : ∀ a : List Int, eqP (.list (a.map PV.int)) (.list (a.map PV.int)) = true
  | [] => rfl
  | x :: a => by
    have := eqP_intsL a
    show ((x == x) && eqP (.list (a.map PV.int)) (.list (a.map PV.int))) = true
    rw [this]; simp
theorem isPd_intsL (a : List Int) : (PV.list (a.map PV.int)).isPd = true := by unfold PV.isPd; exact isPdL_ints a
theorem depth_intsL (a : List Int) : (PV.list (a.map PV.int)).pd.depth = 1 := by
  show PyData.depthAll (pdL (a.map PV.int)) + 1 = 1
  rw [depth_ints]
theorem mulOk8 : PySem.MulOk "." 8 := by unfold PySem.MulOk; decide +kernel
theorem mul8 : PySem.Txt.mul "." 8 = dotsS 8 := by decide +kernel
section
variable {tab : List (Nat × NameKind)} {X : Fx tab}
theorem item_intZ {hs : List Int} {z : Int} (h0 : 0 ≤ z) (hz : z < hs.length) (hl : hs.length ≤ 1000) : Item X (.list (hs.map PV.int)) (.int z) (.int (hs.getD z.toNat 0)) := by
  have e : z = ((z.toNat : Nat) : Int) := by omega
  have := item_ints' (X := X) (hs := hs) (k := z.toNat) (by omega) hl
  rw [← e] at this
  exact this
end
section
variable {X : Fx ltab}
theorem law_s12 (hn : X.n = 3) (hK : KF X.K X.w) (hs : X.env.scope = lawScope) (s ds : List Nat) (es : List Str) (u : Nat) : Ex X (E11 8 s ds es u) (exec (lawS 12) X.env) .next (E12 s ds es ([], [])) := by
  refine Ex.sub (e₁ := ?sb1) ?sc1 ?sd1
  rotate_left
  · refine' Ex.unpackMS (names := ["found", "ahead"]) (is := [52, 51]) ?h1a ?h1b ?h1c ?h1f rfl rfl ?h1d
    case h1a =>
      exact EvM.own (fun l => EvF.nil) (EvM.own (fun l => EvF.nil) EvM.nil)
    case h1b =>
      exact Tgts.cons (Tgt.bind rfl rfl rfl) (Tgts.cons (Tgt.bind rfl rfl rfl) (Tgts.nil))
    case h1c =>
      rfl
    case h1f =>
      decide
    case h1d =>
      (simp only [swappedStores, Env.blockKind, Env.kindOf, hs]; rfl)
  · exact Sub.cons rfl (Sub.cons rfl (Sub.cons rfl (Sub.cons rfl (Sub.cons rfl (Sub.cons rfl (Sub.cons rfl (Sub.cons rfl (Sub.nil))))))))
theorem law_s13 (hn : X.n = 3) (hK : KF X.K X.w) (hs : X.env.scope = lawScope) (s ds : List Nat) (es : List Str) (h40 : ∀ c ∈ s, c = 40 ∨ c = 41) (hsl : s.length ≤ 100) : Ex X (E12 s ds es ([], [])) (exec (lawS 13) X.env) .next (E12 s ds es (faL s)) := by
  have hint : interactive X.env = false := by unfold interactive; rw [hs]; rfl
  have hbr : ∀ c ∈ s, isBr c := fun c hc => by rcases h40 c hc with rfl | rfl <;> simp [isBr]
  rw [faL_eq]
  refine' Ex.for (t := 24) ?h28a Iters.list rfl rfl rfl ?h28b (fun _ => rfl)
  case h28a =>
    refine' Ev.binop ?h6a ?h6b ?h6c
    case h6a =>
      refine' Ev.castP (q := .list (s.map fun c => PV.int (symOf c))) ?h4x ?h4y
      case h4x =>
        refine' Ev.comp1 (tab' := [(23, .local), (67, .globalImplicit)]) (fs := []) (t := 23) ?h3a Iters.str ?h3b (fun _ => rfl) rfl rfl rfl ?h3c
        case h3a =>
          exact Ev.name (i := 42) rfl rfl rfl rfl
        case h3b =>
          exact ⟨rfl, by decide +kernel, by decide +kernel, (fun x hx => nomatch hx), (fun x hx h => by
            simp only [List.mem_cons, List.not_mem_nil, or_false] at hx
            rcases hx with rfl | rfl | rfl <;> first | (exact absurd h (by decide)))⟩
        case h3c =>
          intro Y D hY
          have hKY : KF Y.K Y.w := by rw [hY.K, hY.w]; exact hK
          have hK := hKY
          refine comp_map (fun c : Nat => PV.str ⟨#[c]⟩) (fun c => PV.int (symOf c)) [] (fun x hx => nomatch hx) (by decide) s [] [] (.inl rfl) (fun c hc l acc hacc => ?_) (show 0 + s.length ≤ 1000 by omega)
          refine In.elt ?el rfl (Nat.le_trans hacc (by decide))
          refine' Ev.sub ?y2x1 ?y2x2 ?y2x3 (fun _ _ => rfl)
          case y2x1 =>
            exact Ev.gT (i := 67) rfl rfl (k_ETT hK) (fun _ _ => rep_raw)
          case y2x2 =>
            exact Ev.name (i := 23) rfl rfl rfl rfl
          case y2x3 =>
            exact Item.sym (X := Y.withIts l) hK (hbr c hc)
      case h4y =>
        rfl
    case h6b =>
      refine' Ev.list ?y5x3 ?y5x4
      case y5x3 =>
        refine' EvL.sc ?y5x1 ?y5x2 rfl
        case y5x1 =>
          exact Ev.cint
        case y5x2 =>
          exact EvL.s0
      case y5x4 =>
        walk_at "num"
    case h6c =>
      exact Bin.addList (by rw [List.length_map]; exact Nat.le_trans (show _ ≤ 1001 by simp only [List.length_cons, List.length_nil]; omega) (by decide))
  case h28b =>
    refine Turns.foldTail (fun st => E12 s ds es st) faStep (fun st => st.1.length + st.2.length) 1000 ?f0 (fun c => PV.int (symOf c)) (.int 0) s ([], []) ?f1 ?f2 ?f3
    case f0 =>
      intro st c
      unfold faStep
      split <;> simp <;> omega
    case f1 => (show 0 + 0 + 2 * s.length ≤ 1000; omega)
    case f2 =>
      intro st c hc hsl l
      rcases h40 c hc with rfl | rfl
      · refine Ex.sub (e₁ := ?a1) ?a2 ?a3
        rotate_left
        · refine' Ex.cons ?s14a ?s14b
          case s14a =>
            refine' Ex.ifT ?i13a ?i13b ?i13c
            case i13a =>
              refine' Ts.cmp ?y11x1 ?y11x2 ?y11x3 rfl
              case y11x1 =>
                exact Ev.name (i := 24) rfl rfl rfl rfl
              case y11x2 =>
                exact Ev.cint
              case y11x3 =>
                exact Cmp.eqInt
            case i13b =>
              decide
            case i13c =>
              refine' Ex.cons ?s12a ?s12b
              case s12a =>
                refine' Ex.expr ?h8a hint rfl
                case h8a =>
                  refine' Ev.append (i := 51) rfl rfl rfl rfl ?y7x8 ?y7x9 ?y7x10 rfl rfl
                  case y7x8 =>
                    refine' Ar.s1 ?y7x7 rfl
                    case y7x7 =>
                      refine' Ev.binop ?y7x4 ?y7x5 ?y7x6
                      case y7x4 =>
                        refine' Ev.callOwn (i := 52) ?y7x1 (Callee.builtin "len") rfl rfl rfl rfl ?y7x2 ?y7x3 rfl
                        case y7x1 =>
                          exact Ev.bT (i := 57) rfl rfl (k_len hK) b_len (by decide)
                        case y7x2 =>
                          exact Calls.lenList (by rw [List.length_map]; omega)
                        case y7x3 =>
                          exact rfl
                      case y7x5 =>
                        exact Ev.cint
                      case y7x6 =>
                        exact Bin.subInt
                  case y7x9 =>
                    exact rfl
                  case y7x10 =>
                    rw [List.length_map]; exact Nat.le_trans (show _ ≤ 1000 by omega) (by decide)
              case s12b =>
                exact Ex.nil
          case s14b =>
            exact Ex.nil
        · refine Sub.cons rfl (Sub.cons rfl (Sub.cons rfl (Sub.cons rfl (Sub.cons rfl (Sub.cons rfl (Sub.cons ?_ (Sub.cons ?_ Sub.nil)))))))
          · rfl
          · show some (Slot.own _) = some (Slot.own _)
            rw [List.length_map]
            simp [faStep]
      · refine Ex.sub (e₁ := ?b1) ?b2 ?b3
        rotate_left
        · refine' Ex.cons ?s21a ?s21b
          case s21a =>
            refine' Ex.ifF ?i20a ?i20b ?i20c
            case i20a =>
              refine' Ts.cmp ?y15x1 ?y15x2 ?y15x3 rfl
              case y15x1 =>
                exact Ev.name (i := 24) rfl rfl rfl rfl
              case y15x2 =>
                exact Ev.cint
              case y15x3 =>
                exact Cmp.eqInt
            case i20b =>
              decide
            case i20c =>
              refine' Ex.cons ?s19a ?s19b
              case s19a =>
                refine' Ex.ifT ?i18a ?i18b ?i18c
                case i18a =>
                  refine' Ts.cmp ?y16x5 ?y16x6 ?y16x7 rfl
                  case y16x5 =>
                    refine' Ev.call ?y16x2 (callee_ISEOF hK) ?y16x3 ?y16x4 rfl
                    case y16x2 =>
                      exact Ev.gT (i := 69) rfl rfl (k_ISEOF hK) (fun _ _ => rep_raw)
                    case y16x3 =>
                      refine' Ar.s1 ?y16x1 rfl
                      case y16x1 =>
                        exact Ev.name (i := 24) rfl rfl rfl rfl
                    case y16x4 =>
                      exact Fn.calls (ISEOF_ok 8) (by show 1 ≤ X.n; omega) hK
                  case y16x6 =>
                    exact Ev.cbool
                  case y16x7 =>
                    exact Cmp.isBool
                case i18b =>
                  decide
                case i18c =>
                  refine' Ex.cons ?s17a ?s17b
                  case s17a =>
                    refine' Ex.expr ?h10a hint rfl
                    case h10a =>
                      refine' Ev.append (i := 52) rfl rfl rfl rfl ?y9x5 ?y9x6 ?y9x7 rfl rfl
                      case y9x5 =>
                        refine' Ar.s1 ?y9x4 rfl
                        case y9x4 =>
                          refine' Ev.callOwn (i := 51) ?y9x1 (Callee.builtin "len") rfl rfl rfl rfl ?y9x2 ?y9x3 rfl
                          case y9x1 =>
                            exact Ev.bT (i := 57) rfl rfl (k_len hK) b_len (by decide)
                          case y9x2 =>
                            exact Calls.lenList (by rw [List.length_map]; omega)
                          case y9x3 =>
                            exact rfl
                      case y9x6 =>
                        exact rfl
                      case y9x7 =>
                        rw [List.length_map]; exact Nat.le_trans (show _ ≤ 1000 by omega) (by decide)
                  case s17b =>
                    exact Ex.nil
              case s19b =>
                exact Ex.nil
          case s21b =>
            exact Ex.nil
        · refine Sub.cons rfl (Sub.cons rfl (Sub.cons rfl (Sub.cons rfl (Sub.cons rfl (Sub.cons rfl (Sub.cons ?_ (Sub.cons ?_ Sub.nil)))))))
          · show some (Slot.own _) = some (Slot.own _)
            rw [List.length_map]
            simp [faStep]
          · rfl
    case f3 =>
      intro st hsl l
      refine Ex.sub (e₁ := ?c1) ?c2 ?c3
      rotate_left
      · refine' Ex.cons ?s27a ?s27b
        case s27a =>
          refine' Ex.ifF ?i26a ?i26b ?i26c
          case i26a =>
            refine' Ts.cmp ?y22x1 ?y22x2 ?y22x3 rfl
            case y22x1 =>
              exact Ev.name (i := 24) rfl rfl rfl rfl
            case y22x2 =>
              exact Ev.cint
            case y22x3 =>
              exact Cmp.eqInt
          case i26b =>
            decide
          case i26c =>
            refine' Ex.cons ?s25a ?s25b
            case s25a =>
              refine' Ex.ifF ?i24a ?i24b ?i24c
              case i24a =>
                refine' Ts.cmp ?y23x5 ?y23x6 ?y23x7 rfl
                case y23x5 =>
                  refine' Ev.call ?y23x2 (callee_ISEOF hK) ?y23x3 ?y23x4 rfl
                  case y23x2 =>
                    exact Ev.gT (i := 69) rfl rfl (k_ISEOF hK) (fun _ _ => rep_raw)
                  case y23x3 =>
                    refine' Ar.s1 ?y23x1 rfl
                    case y23x1 =>
                      exact Ev.name (i := 24) rfl rfl rfl rfl
                  case y23x4 =>
                    exact Fn.calls (ISEOF_ok 0) (by show 1 ≤ X.n; omega) hK
                case y23x6 =>
                  exact Ev.cbool
                case y23x7 =>
                  exact Cmp.isBool
              case i24b =>
                decide
              case i24c =>
                exact Ex.nil
            case s25b =>
              exact Ex.nil
        case s27b =>
          exact Ex.nil
      · exact Sub.cons rfl (Sub.cons rfl (Sub.cons rfl (Sub.cons rfl (Sub.cons rfl (Sub.cons rfl (Sub.cons rfl (Sub.cons rfl (Sub.nil))))))))
theorem law_s14 (hn : X.n = 3) (hK : KF X.K X.w) (hs : X.env.scope = lawScope) (s ds : List Nat) (es : List Str) (st : List Int × List Int) (hfd : st.1 = dueL ds) (hal : st.2.length = 6) : Ex X (E12 s ds es st) (exec (lawS 14) X.env) .next (E12 s ds es st) := by
  refine' Ex.ifF ?i35a ?i35b ?i35c
  case i35a =>
    refine' Ts.or ?h34a (fun _ => ?h34b) (fun _ => rfl)
    case h34a =>
      refine' Ts.cmp ?y29x4 ?y29x5 ?y29x6 rfl
      case y29x4 =>
        exact Ev.name (i := 43) rfl rfl rfl rfl
      case y29x5 =>
        refine' Ev.binop ?y29x1 ?y29x2 ?y29x3
        case y29x1 =>
          exact Ev.cstr
        case y29x2 =>
          exact Ev.cint
        case y29x3 =>
          exact Bin.mulStr mulOk8
      case y29x6 =>
        exact Cmp.neStr
    case h34b =>
      refine' Ts.or ?h33c (fun _ => ?h33d) (fun _ => rfl)
      case h33c =>
        refine' Ts.cmpOwn (i := 51) rfl rfl rfl rfl ?y30x1 ?y30x2 rfl
        case y30x1 =>
          exact Ev.name (i := 49) rfl rfl rfl rfl
        case y30x2 =>
          exact Cmp.nePd (isPd_intsL _) (isPd_intsL _) (Nat.le_trans (Nat.min_le_left _ _) (by rw [depth_intsL]; decide))
      case h33d =>
        refine' Ts.or ?h32e (fun _ => Ts.orNil) (fun _ => rfl)
        case h32e =>
          refine' Ts.cmp ?y31x4 ?y31x5 ?y31x6 rfl
          case y31x4 =>
            refine' Ev.callOwn (i := 52) ?y31x1 (Callee.builtin "len") rfl rfl rfl rfl ?y31x2 ?y31x3 rfl
            case y31x1 =>
              exact Ev.bT (i := 57) rfl rfl (k_len hK) b_len (by decide)
            case y31x2 =>
              exact Calls.lenList (by rw [List.length_map]; omega)
            case y31x3 =>
              exact rfl
          case y31x5 =>
            exact Ev.cint
          case y31x6 =>
            exact Cmp.neInt
  case i35b =>
    rw [mul8, hfd, eqP_intsL, List.length_map, hal]; simp
  case i35c =>
    exact Ex.nil
theorem law_s15 (hn : X.n = 3) (hK : KF X.K X.w) (hs : X.env.scope = lawScope) (s ds : List Nat) (es : List Str) (st : List Int × List Int) : Ex X (E12 s ds es st) (exec (lawS 15) X.env) .next (E15 s ds es st.2 ([], 0)) := by
  refine Ex.sub (e₁ := ?sb36) ?sc36 ?sd36
  rotate_left
  · refine' Ex.freeze (i := 52) ?f1 (by decide) ?f2
    case f1 => exact rfl
    case f2 =>
      refine' Ex.unpackMS (names := ["bounces", "at"]) (is := [54, 53]) ?h36a ?h36b ?h36c ?h36f rfl rfl ?h36d
      case h36a =>
        exact EvM.own (fun l => EvF.nil) (EvM.val (fun l => Ev.cint (k := 0) (pos := default)) rfl EvM.nil)
      case h36b =>
        exact Tgts.cons (Tgt.bind rfl rfl rfl) (Tgts.cons (Tgt.bind rfl rfl rfl) (Tgts.nil))
      case h36c =>
        rfl
      case h36f =>
        decide
      case h36d =>
        (simp only [swappedStores, Env.blockKind, Env.kindOf, hs]; rfl)
  · exact Sub.cons rfl (Sub.cons rfl (Sub.cons rfl (Sub.cons rfl (Sub.cons rfl (Sub.cons rfl (Sub.cons rfl (Sub.cons rfl (Sub.nil))))))))
theorem bStep_eq (a : List Int) (st : List Int × Int) : bStep a st = if st.2 = 6 then st else (st.1 ++ [a.getD st.2.toNat 0 - st.2], a.getD st.2.toNat 0) := by
  obtain ⟨b, z⟩ := st
  rfl
theorem bGo_len (a : List Int) : ∀ n, (bGo a n).1.length ≤ n
  | 0 => Nat.le_refl _
  | n + 1 => by
    have := bGo_len a n
    show (bStep a (bGo a n)).1.length ≤ n + 1
    rw [bStep_eq]
    split
    · omega
    · simp; omega
theorem law_s16 (hn : X.n = 3) (hK : KF X.K X.w) (hs : X.env.scope = lawScope) (s ds : List Nat) (es : List Str) (a : List Int) (hal : a.length = 6) (hat_ : ∀ n < 7, 0 ≤ (bGo a n).2 ∧ (bGo a n).2 ≤ 6) : Ex X (E15 s ds es a ([], 0)) (exec (lawS 16) X.env) .next (E15 s ds es a (bGo a 6)) := by
  have hint : interactive X.env = false := by unfold interactive; rw [hs]; rfl
  refine' Ex.for (t := 45) ?h49a (iters_rng 6 ?h49z (by decide)) rfl rfl rfl ?h49b (fun _ => rfl)
  case h49a =>
    refine' Ev.call ?y48x2 (Callee.type "range") ?y48x3 ?y48x4 rfl
    case y48x2 =>
      exact Ev.bT (i := 58) rfl rfl (k_range hK) b_range (by decide)
    case y48x3 =>
      refine' Ar.s1 ?y48x1 rfl
      case y48x1 =>
        exact Ev.cint
    case y48x4 =>
      exact Calls.range1
  case h49z =>
    rfl
  case h49b =>
    refine Turns.idx0 natPV (fun i => E15 s ds es a (bGo a i)) 6 (fun n hn6 l => ?_)
    have hb := hat_ n (by omega)
    have hbl := bGo_len a n
    show Ex _ _ _ _ (E15 s ds es a (bStep a (bGo a n)))
    generalize bGo a n = st at hb hbl
    by_cases hat : st.2 = 6
    · have e : bStep a st = st := by rw [bStep_eq, if_pos hat]
      rw [e]
      refine Ex.sub (e₁ := ?sb48) ?sc48 ?sd48
      rotate_left
      · refine' Ex.cons ?s47a ?s47b
        case s47a =>
          refine' Ex.ifF ?i46a ?i46b ?i46c
          case i46a =>
            refine' Ts.cmp ?y45x8 ?y45x9 ?y45x10 rfl
            case y45x8 =>
              refine' Ev.call ?y45x5 (callee_ISEOF hK) ?y45x6 ?y45x7 rfl
              case y45x5 =>
                exact Ev.gT (i := 69) rfl rfl (k_ISEOF hK) (fun _ _ => rep_raw)
              case y45x6 =>
                refine' Ar.s1 ?y45x4 rfl
                case y45x4 =>
                  refine' Ev.binop ?y45x1 ?y45x2 ?y45x3
                  case y45x1 =>
                    exact Ev.name (i := 54) rfl rfl rfl rfl
                  case y45x2 =>
                    exact Ev.cint
                  case y45x3 =>
                    exact Bin.subInt
              case y45x7 =>
                exact Fn.calls (ISEOF_ok _) (by show 1 ≤ X.n; omega) hK
            case y45x9 =>
              exact Ev.cbool
            case y45x10 =>
              exact Cmp.isBool
          case i46b =>
            rw [hat]; decide
          case i46c =>
            exact Ex.nil
        case s47b =>
          exact Ex.nil
      · exact Sub.cons rfl (Sub.cons rfl (Sub.cons rfl (Sub.cons rfl (Sub.cons rfl (Sub.cons rfl (Sub.cons rfl (Sub.cons rfl (Sub.nil))))))))
    · have h0 := hb.1
      have h6 : st.2 < a.length := by rw [hal]; omega
      have e : bStep a st = (st.1 ++ [a.getD st.2.toNat 0 - st.2], a.getD st.2.toNat 0) := by rw [bStep_eq, if_neg hat]
      rw [e]
      refine Ex.sub (e₁ := ?y1) ?y2 ?y3
      rotate_left
      · refine' Ex.cons ?s44a ?s44b
        case s44a =>
          refine' Ex.ifT ?i43a ?i43b ?i43c
          case i43a =>
            refine' Ts.cmp ?y37x8 ?y37x9 ?y37x10 rfl
            case y37x8 =>
              refine' Ev.call ?y37x5 (callee_ISEOF hK) ?y37x6 ?y37x7 rfl
              case y37x5 =>
                exact Ev.gT (i := 69) rfl rfl (k_ISEOF hK) (fun _ _ => rep_raw)
              case y37x6 =>
                refine' Ar.s1 ?y37x4 rfl
                case y37x4 =>
                  refine' Ev.binop ?y37x1 ?y37x2 ?y37x3
                  case y37x1 =>
                    exact Ev.name (i := 54) rfl rfl rfl rfl
                  case y37x2 =>
                    exact Ev.cint
                  case y37x3 =>
                    exact Bin.subInt
              case y37x7 =>
                exact Fn.calls (ISEOF_ok _) (by show 1 ≤ X.n; omega) hK
            case y37x9 =>
              exact Ev.cbool
            case y37x10 =>
              exact Cmp.isBool
          case i43b =>
            have : ¬ (st.2 - 6 = 0) := by omega
            simp [this]
          case i43c =>
            refine' Ex.cons ?s41a ?s41b
            case s41a =>
              refine' Ex.expr ?h39a hint rfl
              case h39a =>
                refine' Ev.append (i := 53) rfl rfl rfl rfl ?y38x8 ?y38x9 ?y38x10 rfl rfl
                case y38x8 =>
                  refine' Ar.s1 ?y38x7 rfl
                  case y38x7 =>
                    refine' Ev.binop ?y38x4 ?y38x5 ?y38x6
                    case y38x4 =>
                      refine' Ev.sub ?y38x1 ?y38x2 ?y38x3 (fun _ _ => rfl)
                      case y38x1 =>
                        exact Ev.name (i := 52) rfl rfl rfl rfl
                      case y38x2 =>
                        exact Ev.name (i := 54) rfl rfl rfl rfl
                      case y38x3 =>
                        exact item_intZ h0 h6 (by omega)
                    case y38x5 =>
                      exact Ev.name (i := 54) rfl rfl rfl rfl
                    case y38x6 =>
                      exact Bin.subInt
                case y38x9 =>
                  exact rfl
                case y38x10 =>
                  rw [List.length_map]; exact Nat.le_trans (show _ ≤ 1000 by omega) (by decide)
            case s41b =>
              refine' Ex.cons ?s42a ?s42b
              case s42a =>
                refine' Ex.assign (i := 54) ?y40x4 rfl rfl rfl rfl
                case y40x4 =>
                  refine' Ev.sub ?y40x1 ?y40x2 ?y40x3 (fun _ _ => rfl)
                  case y40x1 =>
                    exact Ev.name (i := 52) rfl rfl rfl rfl
                  case y40x2 =>
                    exact Ev.name (i := 54) rfl rfl rfl rfl
                  case y40x3 =>
                    exact item_intZ h0 h6 (by omega)
              case s42b =>
                exact Ex.nil
        case s44b =>
          exact Ex.nil
      · refine Sub.cons rfl (Sub.cons rfl (Sub.cons rfl (Sub.cons rfl (Sub.cons rfl (Sub.cons rfl (Sub.cons rfl (Sub.cons ?_ Sub.nil)))))))
        show some (Slot.own _) = some (Slot.own _)
        simp
end
end Mine
end

section
open PySem PySem.W PyProof.Rows PySem.Calls
set_option Elab.async false
set_option linter.unusedVariables false
set_option maxRecDepth 100000
set_option maxHeartbeats 4000000
set_option linter.unusedSimpArgs false
namespace Mine
local macro_rules | `(tactic| walk_at "num") => `(tactic| first | exact (show 0 ≤ sizeLine by decide) | exact (show 1 ≤ sizeLine by decide) | exact (show 2 ≤ sizeLine by decide) | exact (show 3 ≤ sizeLine by decide) | exact (show 6 ≤ sizeLine by decide) | omega | (simp; omega) | decide | assumption)
local macro_rules | `(tactic| walk_at "bin") => `(tactic| first | exact Bin.addInt | exact Bin.subInt | exact Bin.modInt (by walk_at "num") | exact Bin.divInt (by walk_at "num") (by walk_at "num") | exact Bin.mulInt (by walk_at "num") (by walk_at "num") | exact Bin.addStr (by walk_at "num") | exact Bin.addList (by walk_at "num") | exact Bin.mulOne (by walk_at "num") (by walk_at "num") rfl)
local macro_rules | `(tactic| walk_at "cmp") => `(tactic| first | exact Cmp.eqInt | exact Cmp.neInt | exact Cmp.ltInt | exact Cmp.leInt | exact Cmp.gtInt | exact Cmp.geInt | exact Cmp.eqStr | exact Cmp.neStr | exact Cmp.isBool)
local macro_rules | `(tactic| walk_at "call") => `(tactic| first | exact Calls.lenList (by walk_at "num") | exact Calls.lenTuple (by walk_at "num") | exact Calls.range1 | exact Calls.range2 | exact Calls.max2 | exact Calls.tupleList (by walk_at "num"))

def esOf (ei : List Nat) : List Str := ei.map fun e => mkS (endC e)
def E17 (s ds : List Nat) (b : List Int) : PEnv := [(27, .val (.list (ds.map rowPV))), (40, .val (.list ((pairsL ds).map natPV))), (43, .val (.str (dotsS 8))), (53, .own (b.map PV.int)), (15, .val (wsOf (mkS (pageL (depthsL s)))))]
def E18 (s ds : List Nat) (b : List Int) : PEnv := (E17 s ds b).set 55 (.val (LD 8 0))
def E19 (s ds : List Nat) (b : List Int) : PEnv := (E18 s ds b).set 56 (.val (.list (ds.map fun d => LD (d + 2) 1)))
theorem slice_from3 {ps : List PV} (h : ps.length = 6) : slicePV ps (some 3) none = ps.drop 3 := by
  unfold slicePV
  rw [h]
  simp only [Option.elim]
  rw [show clipAt 6 3 = 3 by decide]
  exact List.take_of_length_le (by rw [List.length_drop, h]; decide)
theorem slice_to3 {ps : List PV} (h : ps.length = 6) : slicePV ps none (some 3) = ps.take 3 := by
  unfold slicePV
  rw [h]
  simp only [Option.elim]
  rw [show clipAt 6 3 = 3 by decide]
  rfl
def itsOf (ds2 ei : List Nat) : List It := (ds2.zip ei).map fun p => (p.1, 0, p.2)
theorem itsOf_d : ∀ (ds2 ei : List Nat), ds2.length = ei.length → (itsOf ds2 ei).map (·.1) = ds2
  | [], _, _ => by simp [itsOf]
  | d :: r, [], h => by simp at h
  | d :: r, e :: es, h => by
    have := itsOf_d r es (by simpa using h)
    unfold itsOf at this ⊢
    rw [List.zip_cons_cons, List.map_cons, List.map_cons, this]
theorem itsOf_dk : ∀ (ds2 ei : List Nat), ds2.length = ei.length → ((itsOf ds2 ei).map fun x => (x.1, x.2.1)) = ds2.map fun d => (d, 0)
  | [], _, _ => by simp [itsOf]
  | d :: r, [], h => by simp at h
  | d :: r, e :: es, h => by
    have := itsOf_dk r es (by simpa using h)
    unfold itsOf at this ⊢
    rw [List.zip_cons_cons, List.map_cons, List.map_cons, this, List.map_cons]
theorem itsOf_e {ds2 ei : List Nat} {i : Nat} {x : It} (h : (itsOf ds2 ei)[i]? = some x) : (esOf ei)[i]? = some (mkS (endC x.2.2)) := by
  unfold itsOf at h
  unfold esOf
  rw [List.getElem?_map] at h ⊢
  cases hz : (ds2.zip ei)[i]? with
  | none => rw [hz] at h; cases h
  | some p =>
    rw [hz] at h
    obtain ⟨d, e⟩ := p
    have hh := List.getElem?_zip_eq_some.mp hz
    simp at h
    subst h
    rw [hh.2]
    rfl
theorem rows_second {ds2 ei : List Nat} (ho : okD ds2 0 = true) (hl : ds2.length = 6) (he : ei.length = 6) : Fn KF 2 (.ref 136) [.str (mkS (wordK (ds2.map fun d => (d, 0)))), .list ((esOf ei).map PV.str)] (.list (ds2.map rowPV)) := by
  have h1 := itsOf_d ds2 ei (by omega)
  have h2 := itsOf_dk ds2 ei (by omega)
  have hlen : (itsOf ds2 ei).length = 6 := by
    have := congrArg List.length h1
    rw [List.length_map] at this
    omega
  have key := rows_word (es := esOf ei) (itsOf ds2 ei) (by rw [h1]; exact ho) (by omega) (fun q => by rw [q] at hlen; cases hlen) (fun i x hx => itsOf_e hx)
  rw [h2] at key
  have e : ((itsOf ds2 ei).map fun x => PV.str (dotsS (x.1 + 2))) = ds2.map rowPV := by
    rw [← h1, List.map_map, h1]
    rfl
  rw [e] at key
  exact key
section
variable {X : Fx ltab}
theorem law_s17 (hn : X.n = 3) (hK : KF X.K X.w) (hs : X.env.scope = lawScope) (s ds ei : List Nat) (a : List Int) (st : List Int × Int) (hei : ei.length = 6) (ho : okD (depthsL s) 0 = true) (hw : wordK ((depthsL s).map fun d => (d, 0)) = s) (hl2 : (depthsL s).length = 6) (hlt2 : ∀ d ∈ depthsL s, d < 6) (hpk : (ws0 (pageL (depthsL s))).2.2.2.length ≤ 100) : Ex X (E15 s ds (esOf ei) a st) (exec (lawS 17) X.env) .next (E17 s ds st.1) := by
  have hes : (esOf ei).length = 6 := by unfold esOf; rw [List.length_map, hei]
  have hrows := rows_second (ei := ei.drop 3 ++ ei.take 3) ho hl2 (by simp; omega)
  rw [hw] at hrows
  refine Ex.sub (e₁ := ?sb9) ?sc9 ?sd9
  rotate_left
  · refine' Ex.assign (i := 15) ?h9a rfl rfl rfl rfl
    case h9a =>
      refine' Ev.call ?h8a (callee_page hK) ?h8b ?h8c rfl
      case h8a =>
        exact Ev.gT (i := 72) rfl rfl (k_law_page hK) (fun _ _ => rep_raw)
      case h8b =>
        refine' Ar.s1 ?h7d rfl
        case h7d =>
          refine' Ev.call ?h6e (callee_rows hK) ?h6f ?h6g rfl
          case h6e =>
            exact Ev.gT (i := 70) rfl rfl (k_law_rows hK) (fun _ _ => rep_raw)
          case h6f =>
            refine' Ar.s2 ?h5i ?h5j rfl
            case h5i =>
              exact Ev.name (i := 42) rfl rfl rfl rfl
            case h5j =>
              refine' Ev.castP (q := .list ((esOf (ei.drop 3 ++ ei.take 3)).map PV.str)) ?h2a ?h2b
              case h2a =>
                refine' Ev.binop ?h1c ?h1d ?h1e
                case h1c =>
                  exact Ev.sliceList (lo := some 3) (hi := none) (Ev.name (i := 19) rfl rfl rfl rfl) (Ev.psome Ev.cint) Ev.pnone rfl trivial (by rw [List.length_map, hes]; decide) (fun _ _ => rfl)
                case h1d =>
                  exact Ev.sliceList (lo := none) (hi := some 3) (Ev.name (i := 19) rfl rfl rfl rfl) Ev.pnone (Ev.psome Ev.cint) trivial rfl (by rw [List.length_map, hes]; decide) (fun _ _ => rfl)
                case h1e =>
                  exact Bin.addList (by rw [slice_from3 (by rw [List.length_map, hes]), slice_to3 (by rw [List.length_map, hes])]; simp only [List.length_drop, List.length_take, List.length_map, hes]; decide)
              case h2b =>
                rw [slice_from3 (by rw [List.length_map, hes]), slice_to3 (by rw [List.length_map, hes])]
                unfold esOf
                simp only [List.map_append, List.map_drop, List.map_take]
          case h6g =>
            exact Fn.calls hrows (by omega) hK
      case h8c =>
        exact Fn.calls (page_fn (depthsL s) (fun d hd => Nat.lt_trans (hlt2 d hd) (by decide)) (by omega) hpk) (by omega) hK
  · exact Sub.cons rfl (Sub.cons rfl (Sub.cons rfl (Sub.cons rfl (Sub.cons rfl (Sub.nil)))))
theorem law_s18 (hn : X.n = 3) (hK : KF X.K X.w) (hs : X.env.scope = lawScope) (s ds : List Nat) (b : List Int) : Ex X (E17 s ds b) (exec (lawS 18) X.env) .next (E18 s ds b) := by
  refine' Ex.assign (i := 55) ?h11a rfl rfl rfl rfl
  case h11a =>
    refine' Ev.call ?y10x3 (callee_lead hK) ?y10x4 ?y10x5 rfl
    case y10x3 =>
      exact Ev.gT (i := 71) rfl rfl (k_law_lead hK) (fun _ _ => rep_raw)
    case y10x4 =>
      refine' Ar.s2 ?y10x1 ?y10x2 rfl
      case y10x1 =>
        exact Ev.name (i := 43) rfl rfl rfl rfl
      case y10x2 =>
        exact Ev.cstr
    case y10x5 =>
      exact Fn.calls (lead_fn (n := 8) (u := 0) (by decide) (by decide)) (by omega) hK
theorem law_s19 (hn : X.n = 3) (hK : KF X.K X.w) (hs : X.env.scope = lawScope) (s ds : List Nat) (b : List Int) (hlen : ds.length = 6) (hlt : ∀ d ∈ ds, d < 6) : Ex X (E18 s ds b) (exec (lawS 19) X.env) .next (E19 s ds b) := by
  refine' Ex.assign (i := 56) ?h14a rfl rfl rfl ?h14s
  case h14a =>
    refine' Ev.comp1 (tab' := [(28, .local), (71, .globalImplicit)]) (fs := []) (t := 28) ?h13a Iters.list ?h13b (fun _ => rfl) rfl rfl rfl ?h13c
    case h13a =>
      exact Ev.name (i := 27) rfl rfl rfl rfl
    case h13b =>
      exact ⟨rfl, by decide +kernel, by decide +kernel, (fun x hx => nomatch hx), (fun x hx h => by
        simp only [List.mem_cons, List.not_mem_nil, or_false] at hx
        rcases hx with rfl | rfl | rfl <;> first | (exact absurd h (by decide)))⟩
    case h13c =>
      intro Y D hY
      have hKY : KF Y.K Y.w := by rw [hY.K, hY.w]; exact hK
      have hnY : Y.n = 3 := by rw [hY.n]; exact hn
      refine comp_map (fun d => rowPV d) (fun d => LD (d + 2) 1) [] (fun x hx => nomatch hx) (by decide) ds [] [] (.inl rfl) (fun d hd l acc hacc => ?_) (by simp; omega)
      have hd6 := hlt d hd
      refine In.elt ?el rfl (Nat.le_trans hacc (by decide))
      have hK := hKY
      refine' Ev.call ?y12x3 (callee_lead hK) ?y12x4 ?y12x5 rfl
      case y12x3 =>
        exact Ev.gT (i := 71) rfl rfl (k_law_lead hK) (fun _ _ => rep_raw)
      case y12x4 =>
        refine' Ar.s2 ?y12x1 ?y12x2 rfl
        case y12x1 =>
          exact Ev.name (i := 28) rfl rfl rfl rfl
        case y12x2 =>
          exact Ev.cstr
      case y12x5 =>
        exact Fn.calls (lead_fn (n := d + 2) (u := 1) (by omega) (by decide)) (by show 3 ≤ Y.n; omega) hK
  case h14s =>
    (simp only [swapsWith, Env.blockKind, Env.kindOf, hs]; rfl)
theorem law_s20 (hn : X.n = 3) (hK : KF X.K X.w) (hs : X.env.scope = lawScope) (s ds : List Nat) (b : List Int) (hlen : ds.length = 6) (hlt : ∀ d ∈ ds, d < 6) (hb : b.length ≤ 6) (hpk : (ws0 (pageL ds)).2.2.2.length ≤ 100) (hpl : (pairsL ds).length ≤ 36) (hn1 : (ws0 (pageL ds)).2.2.2 = [0, 0] ++ b) (hn2 : (ws0 (pageL ds)).2.2.1 = 0) (hdinv : ((ws0 (pageL (depthsL s))).1 : Int) - (ws0 (pageL (depthsL s))).2.1 = 12 + (pairsL ds).length) : ∃ e', Ex X (E19 s ds b) (exec (lawS 20) X.env) (.ret (.bool true)) e' := by
  refine' ⟨_, Ex.freeze (i := 53) ?f1 (by decide) (Ex.castF ?f2 ?f3)⟩
  case f1 => exact rfl
  case f2 =>
    refine' Ex.ret ?h28a
    case h28a =>
      refine' Ev.and ?h27b (fun _ => ?h27c) (fun _ => rfl)
      case h27b =>
        refine' Ev.cmp ?h18a ?h18b ?h18c rfl
        case h18a =>
          refine' Ev.attr (C := 117) (j := 3) ?y15x5 (cls_W hK) (k_no_norm hK) ?y15x6 ?y15x7 ?y15x8 ?y15x9
          case y15x5 =>
            refine' Ev.call ?y15x2 (callee_page hK) ?y15x3 ?y15x4 rfl
            case y15x2 =>
              exact Ev.gT (i := 72) rfl rfl (k_law_page hK) (fun _ _ => rep_raw)
            case y15x3 =>
              refine' Ar.s1 ?y15x1 rfl
              case y15x1 =>
                exact Ev.name (i := 27) rfl rfl rfl rfl
            case y15x4 =>
              exact Fn.calls (page_fn ds (fun d hd => Nat.lt_trans (hlt d hd) (by decide)) (by omega) hpk) (by omega) hK
          case y15x6 =>
            exact rfl
          case y15x7 =>
            exact rfl
          case y15x8 =>
            exact rfl
          case y15x9 =>
            decide
        case h18b =>
          refine' Ev.castP (q := NormPV ([0, 0] ++ b) 0) ?h17a ?h17b
          case h17a =>
            refine' Ev.tuple ?y16x18 ?y16x19
            case y16x18 =>
              refine' EvL.sc ?y16x16 ?y16x17 rfl
              case y16x16 =>
                refine' Ev.call ?y16x11 (Callee.type "tuple") ?y16x12 ?y16x13 rfl
                case y16x11 =>
                  exact Ev.bT (i := 60) rfl rfl (k_tuple hK) b_tuple (by decide)
                case y16x12 =>
                  refine' Ar.s1 ?y16x10 rfl
                  case y16x10 =>
                    refine' Ev.binop ?y16x7 ?y16x8 ?y16x9
                    case y16x7 =>
                      refine' Ev.list ?y16x5 ?y16x6
                      case y16x5 =>
                        refine' EvL.sc ?y16x3 ?y16x4 rfl
                        case y16x3 =>
                          exact Ev.cint
                        case y16x4 =>
                          refine' EvL.sc ?y16x1 ?y16x2 rfl
                          case y16x1 =>
                            exact Ev.cint
                          case y16x2 =>
                            exact EvL.s0
                      case y16x6 =>
                        walk_at "num"
                    case y16x8 =>
                      exact Ev.name (i := 53) rfl rfl rfl rfl
                    case y16x9 =>
                      exact Bin.addList (by rw [List.length_map]; exact Nat.le_trans (show _ ≤ 1000 by simp only [List.length_cons, List.length_nil]; omega) (by decide))
                case y16x13 =>
                  exact Calls.tupleList (by rw [List.length_append, List.length_map]; exact Nat.le_trans (show _ ≤ 1000 by simp only [List.length_cons, List.length_nil]; omega) (by decide))
              case y16x17 =>
                refine' EvL.sc ?y16x14 ?y16x15 rfl
                case y16x14 =>
                  exact Ev.cint
                case y16x15 =>
                  exact EvL.s0
            case y16x19 =>
              walk_at "num"
          case h17b =>
            rfl
        case h18c =>
          exact Cmp.eqPd (isPd_norm _ _) (isPd_norm _ _) (Nat.le_trans (Nat.min_le_left _ _) (by rw [depth_norm]; decide))
      case h27c =>
        refine' Ev.and ?h26d (fun _ => ?h26e) (fun _ => rfl)
        case h26d =>
          refine' Ev.cmp ?y19x21 ?y19x22 ?y19x23 rfl
          case y19x21 =>
            refine' Ev.binop ?y19x11 ?y19x12 ?y19x13
            case y19x11 =>
              refine' Ev.attr (C := 117) (j := 1) ?y19x1 (cls_W hK) (k_no_n hK) ?y19x2 ?y19x3 ?y19x4 ?y19x5
              case y19x1 =>
                exact Ev.name (i := 15) rfl rfl rfl rfl
              case y19x2 =>
                exact rfl
              case y19x3 =>
                exact rfl
              case y19x4 =>
                exact rfl
              case y19x5 =>
                decide
            case y19x12 =>
              refine' Ev.attr (C := 117) (j := 2) ?y19x6 (cls_W hK) (k_no_nt hK) ?y19x7 ?y19x8 ?y19x9 ?y19x10
              case y19x6 =>
                exact Ev.name (i := 15) rfl rfl rfl rfl
              case y19x7 =>
                exact rfl
              case y19x8 =>
                exact rfl
              case y19x9 =>
                exact rfl
              case y19x10 =>
                decide
            case y19x13 =>
              exact Bin.subInt
          case y19x22 =>
            refine' Ev.binop ?y19x18 ?y19x19 ?y19x20
            case y19x18 =>
              exact Ev.cint
            case y19x19 =>
              refine' Ev.call ?y19x15 (Callee.builtin "len") ?y19x16 ?y19x17 rfl
              case y19x15 =>
                exact Ev.bT (i := 57) rfl rfl (k_len hK) b_len (by decide)
              case y19x16 =>
                refine' Ar.s1 ?y19x14 rfl
                case y19x14 =>
                  exact Ev.name (i := 40) rfl rfl rfl rfl
              case y19x17 =>
                exact Calls.lenList (by rw [List.length_map]; omega)
            case y19x20 =>
              exact Bin.addInt
          case y19x23 =>
            exact Cmp.eqInt
        case h26e =>
          refine' Ev.andOne ?h25f
          case h25f =>
            refine' Ev.cmp ?h24a ?h24b ?h24c rfl
            case h24a =>
              refine' Ev.comp1 (tab' := [(29, .local), (55, .free), (27, .free), (56, .free), (71, .globalImplicit)]) (fs := [(55, LD 8 0), (27, .list (ds.map rowPV)), (56, .list (ds.map fun d => LD (d + 2) 1))]) (t := 29) ?h22a (iters_rng 6 rfl (by decide)) ?h22b (fun _ => rfl) rfl rfl rfl ?h22c
              case h22a =>
                refine' Ev.call ?y21x2 (Callee.type "range") ?y21x3 ?y21x4 rfl
                case y21x2 =>
                  exact Ev.bT (i := 58) rfl rfl (k_range hK) b_range (by decide)
                case y21x3 =>
                  refine' Ar.s1 ?y21x1 rfl
                  case y21x1 =>
                    exact Ev.cint
                case y21x4 =>
                  exact Calls.range1
              case h22b =>
                exact ⟨rfl, by decide +kernel, by decide +kernel, (fun x hx => by
                  simp only [List.mem_cons, List.not_mem_nil, or_false] at hx
                  rcases hx with rfl | rfl | rfl <;> exact ⟨rfl, rfl, .inl rfl⟩), (fun x hx h => by
                  simp only [List.mem_cons, List.not_mem_nil, or_false] at hx
                  rcases hx with rfl | rfl | rfl | rfl | rfl | rfl <;> first | (exact absurd h (by decide)) | exact ⟨55, .cell, rfl, rfl, .inl rfl⟩ | exact ⟨27, .cell, rfl, rfl, .inl rfl⟩ | exact ⟨56, .cell, rfl, rfl, .inl rfl⟩)⟩
              case h22c =>
                intro Y D hY
                have hKY : KF Y.K Y.w := by rw [hY.K, hY.w]; exact hK
                have hnY : Y.n = 3 := by rw [hY.n]; exact hn
                have hK := hKY
                refine comp_filter natPV natPV (fun _ => false) [(55, LD 8 0), (27, .list (ds.map rowPV)), (56, .list (ds.map fun d => LD (d + 2) 1))] (fun x hx => by
                  simp only [List.mem_cons, List.not_mem_nil, or_false] at hx
                  rcases hx with rfl | rfl | rfl <;> simp) (by decide) (List.range 6) [] [] (.inl rfl) (fun k hk l acc => ?_) (fun k hk hg l acc hacc => nomatch hg) (by decide)
                have hk6 := List.mem_range.mp hk
                have d1 := getD_lt (i := k) hlt
                refine' Ts.castB ?t1 ?t2
                case t1 =>
                  refine' Ts.or ?y20x29 (fun _ => ?y20x30) (fun _ => rfl)
                  case y20x29 =>
                    refine' Ts.bool ?y20x9 rfl
                    case y20x9 =>
                      refine' Ev.methI (C := 117) (fa := 107) ?y20x5 ?y20x6 (cls_W hK) (k_m_less hK) (k_t_less hK) (k_k_less hK) ?y20x7 ?y20x8 rfl rfl rfl
                      case y20x5 =>
                        refine' Ev.sub ?y20x1 ?y20x2 ?y20x3 (fun _ _ => rfl)
                        case y20x1 =>
                          exact Ev.name (i := 56) rfl rfl rfl rfl
                        case y20x2 =>
                          exact Ev.name (i := 29) rfl rfl rfl rfl
                        case y20x3 =>
                          exact item_ds (f := fun d => LD (d + 2) 1) (i := k) (by omega) (by omega)
                      case y20x6 =>
                        refine' Ar.s1 ?y20x4 rfl
                        case y20x4 =>
                          exact Ev.name (i := 55) rfl rfl rfl rfl
                      case y20x7 =>
                        decide
                      case y20x8 =>
                        exact Fn.calls (tabs_less (by omega) (by omega)) (by show 2 ≤ Y.n; omega) hK
                  case y20x30 =>
                    refine' Ts.or ?y20x27 (fun _ => ?y20x28) (fun _ => rfl)
                    case y20x27 =>
                      refine' Ts.bool ?y20x26 rfl
                      case y20x26 =>
                        refine' Ev.methI (C := 117) (fa := 93) ?y20x22 ?y20x23 (cls_W hK) (k_m_equal hK) (k_t_equal hK) (k_k_equal hK) ?y20x24 ?y20x25 rfl rfl rfl
                        case y20x22 =>
                          refine' Ev.sub ?y20x10 ?y20x11 ?y20x12 (fun _ _ => rfl)
                          case y20x10 =>
                            exact Ev.name (i := 56) rfl rfl rfl rfl
                          case y20x11 =>
                            exact Ev.name (i := 29) rfl rfl rfl rfl
                          case y20x12 =>
                            exact item_ds (f := fun d => LD (d + 2) 1) (i := k) (by omega) (by omega)
                        case y20x23 =>
                          refine' Ar.s1 ?y20x21 rfl
                          case y20x21 =>
                            refine' Ev.call ?y20x18 (callee_lead hK) ?y20x19 ?y20x20 rfl
                            case y20x18 =>
                              exact Ev.gT (i := 71) rfl rfl (k_law_lead hK) (fun _ _ => rep_raw)
                            case y20x19 =>
                              refine' Ar.s2 ?y20x16 ?y20x17 rfl
                              case y20x16 =>
                                refine' Ev.sub ?y20x13 ?y20x14 ?y20x15 (fun _ _ => rfl)
                                case y20x13 =>
                                  exact Ev.name (i := 27) rfl rfl rfl rfl
                                case y20x14 =>
                                  exact Ev.name (i := 29) rfl rfl rfl rfl
                                case y20x15 =>
                                  exact item_ds (f := rowPV) (i := k) (by omega) (by omega)
                              case y20x17 =>
                                exact Ev.cstr
                            case y20x20 =>
                              exact Fn.calls (lead_fn (u := 0) (by omega) (by decide)) (by show 3 ≤ Y.n; omega) hK
                        case y20x24 =>
                          decide
                        case y20x25 =>
                          exact Fn.calls (tabs_eq (by omega) (by omega)) (by show 1 ≤ Y.n; omega) hK
                    case y20x28 =>
                      exact Ts.orNil
                case t2 => rfl
            case h24b =>
              refine' Ev.list ?y23x1 ?y23x2
              case y23x1 =>
                exact EvL.s0
              case y23x2 =>
                walk_at "num"
            case h24c =>
              exact Cmp.eqPd (by decide +kernel) (by decide +kernel) (by decide +kernel)
  case f3 =>
    have hn1' : (wsGo (mkS (pageL ds)).cps.toList (0, 0, 0, [])).2.2.2 = [0, 0] ++ b := hn1
    have hn2' : (wsGo (mkS (pageL ds)).cps.toList (0, 0, 0, [])).2.2.1 = 0 := hn2
    have hd' : ((wsGo (mkS (pageL (depthsL s))).cps.toList (0, 0, 0, [])).1 : Int) - (wsGo (mkS (pageL (depthsL s))).cps.toList (0, 0, 0, [])).2.1 = 12 + (pairsL ds).length := hdinv
    rw [eqP_norm, hn1', hn2', List.length_map, hd']
    simp only [beq_self_eq_true, Bool.true_and]
    congr 1
end
end Mine
end

section
open PySem PySem.W PyProof.Rows PySem.Calls
set_option Elab.async false
set_option linter.unusedVariables false
set_option linter.unusedSimpArgs false
set_option maxRecDepth 100000
set_option maxHeartbeats 4000000
namespace Mine
section
variable {tab : List (Nat × NameKind)} {X : Fx tab} {e e₁ e₂ e₃ : PEnv} {p q out : PV} {f : PF}
/-- a step from a state of which it is not known that a token has been drawn -/
def Ex0 (X : Fx tab) (e : PEnv) (t : Sem Flow) (f : PF) (e' : PEnv) : Prop := X.Ok → ∀ ρ (s : Shared), Rel X e ρ { s with toks := s.toks + 1 } →
  wpAny (model prg X.w) X.A t (fun fl s' => ∃ ρ', Rel X e' ρ' s' ∧ Tr (Mut X e ρ) s.heap (Mut X e' ρ') s'.heap ∧ FRep s'.heap (Mut X e' ρ') f fl) No s
theorem Ex0.cons {st : Stmt} {rest : List Stmt} (h1 : Ex0 X e (exec st X.env) .next e₁) (h2 : Ex X e₁ (execs rest X.env) f e₂) : Ex0 X e (execs (st :: rest) X.env) f e₂ := fun ok ρ s R =>
  wpAny_execs_cons (wpAny_mono (h1 ok ρ s R) (fun fl s1 ⟨ρ1, R1, t1, hf⟩ => by
    have : fl = .next := hf
    subst this
    exact wpAny_mono (h2 ok ρ1 s1 R1) (fun fl s2 ⟨ρ2, R2, t2, hf⟩ => ⟨ρ2, R2, t1.trans t2, hf⟩) fun _ _ h => h) fun _ _ h => h)
theorem Ex0.castE {t : Sem Flow} {f : PF} (h : Ex0 X e t f e₁) (he : e₁ = e₂) : Ex0 X e t f e₂ := he ▸ h
/-- a tuple's display that begins with a written text -/
theorem Ex0.unpackM {elts velts : List Expr} {x : Str} {k vk k0 : Nat} {tpos vpos pos p0 : Pos} {ms : List MV} {is : List Nat} {ts : List (Bool × Sem Value)} (hts : backTo vpos (starEach velts X.env) = (false, eval (.Constant (.str x) k0 p0) X.env) :: ts) (h : EvM X e ts ms) (ht : Tgts tab X.env ((assignEach elts X.env).map (·.2)) is) (hl : ms.length + 1 = is.length) (hsz : ms.length + 1 ≤ 100)
    (hn : (assignEach elts X.env).length = is.length) (hstar : (assignEach elts X.env).findIdx? (·.1) = none)
    (hs : swapsWithSole [.Tuple elts k tpos] (.Tuple velts vk vpos) pos.line X.env = pure false) (hw : swappedStores [.Tuple elts k tpos] (.Tuple velts vk vpos) X.env = pure none) :
    Ex0 X e (exec (.Assign [.Tuple elts k tpos] (.Tuple velts vk vpos) pos) X.env) .next (setAllM e is (.val (.str x) :: ms)) := fun ok ρ s R =>
  Assign_Tuple (Tuple_ (by
    rw [hts]
    refine spliced_cons (Constant_str (wpAny_mono (h X.its ok ρ _ R) (fun vs s1 h1 => ?_) fun _ _ h => h))
    obtain ⟨L, hm0, ok1, R1, t1, nd, ap⟩ := h1
    have hm : Match (.val (.str x) :: ms) (.str x s.toks :: vs) L := .val rfl (fun _ _ => rep_str) hm0
    have hlen := hm.length
    rw [List.length_cons] at hlen
    refine wpAny_newTuple ?_ (by have : (100 : Nat) ≤ sizeLine := by decide
                                 rw [List.length_cons] at hlen ⊢
                                 omega)
    have kp := Kp.push s1 (TObj (.str x s.toks :: vs) 0) s1.toks
    obtain ⟨R2, t2⟩ := R1.keepsL ok1 kp.toL
    show wpAny _ _ (do standAt tpos; PySem.unpack _ (assignEach elts X.env)) _ _ _
    refine wpAny_bind (wpAny_standAt (unpack_tuple ok.room.handled (items := (Value.str x s.toks :: vs).toArray) ⟨_, Heap.get?_push_size _ rfl, rfl, 0, rfl⟩ (by simp at hlen; simp [hn]; omega) hstar (fun h' hx => ?_)))
    obtain ⟨R3, t3⟩ := R2.keepsL ok1 (extBut_keeps hx)
    exact wpAny_mono (storeAllM ht ok1 R3 hm (by simpa using hl) nd ap) (fun _ s4 ⟨ρ4, R4, t4⟩ => ⟨ρ4, R4, ((t1.trans t2).trans t3).trans t4, rfl⟩) fun _ _ h => h)) hs hw
end
section
variable {X : Fx ltab}
theorem law_s00 (ns : List Int) : Ex0 X [(31, .val (.list (ns.map PV.int)))] (exec (lawS 0) X.env) .next (lEnv ns lZero) := by
  refine' Ex0.castE ?a ?eq
  case a =>
    refine' Ex0.unpackM (x := "") (k0 := 0) (p0 := ⟨145, 46, 145, 48⟩) (is := [18, 20, 32, 33, 19, 34]) ?h0 ?h1 ?h2 ?h3 ?h4 rfl rfl rfl ?h5
    case h0 => rfl
    case h1 => exact EvM.own (fun l => EvF.nil) (EvM.own (fun l => EvF.nil) (EvM.own (fun l => EvF.nil) (EvM.own (fun l => EvF.nil) (EvM.val (fun l => Ev.cint (k := 0) (pos := default)) rfl EvM.nil))))
    case h2 => exact Tgts.cons (Tgt.assign rfl rfl rfl) (Tgts.cons (Tgt.assign rfl rfl rfl) (Tgts.cons (Tgt.assign rfl rfl rfl) (Tgts.cons (Tgt.assign rfl rfl rfl) (Tgts.cons (Tgt.assign rfl rfl rfl) (Tgts.cons (Tgt.assign rfl rfl rfl) Tgts.nil)))))
    case h3 => rfl
    case h4 => exact (show 6 ≤ 100 by decide)
    case h5 => rfl
  case eq =>
    unfold lEnv lZero
    rw [← mk0]
    rfl
end
end Mine
end

section
open PySem PySem.W PyProof.Rows PySem.Calls
set_option Elab.async false
set_option linter.unusedVariables false
set_option linter.unusedSimpArgs false
set_option maxRecDepth 100000
set_option maxHeartbeats 4000000
namespace Mine
theorem lawStmts_eq : lawStmts = [lawS 0, lawS 1, lawS 2, lawS 3, lawS 4, lawS 5, lawS 6, lawS 7, lawS 8, lawS 9, lawS 10, lawS 11, lawS 12, lawS 13, lawS 14, lawS 15, lawS 16, lawS 17, lawS 18, lawS 19, lawS 20] := rfl
theorem absStep_len : ∀ (ds : List Nat) (st : List Nat × List Nat × List Int), (ds.foldl absStep st).2.2.length = st.2.2.length + ds.length
  | [], st => rfl
  | d :: r, (p, q, hs) => by
    rw [List.foldl_cons, absStep_len r]
    simp [absStep]
    omega
theorem headsL_len (ds : List Nat) : (headsL ds).length = ds.length := by
  unfold headsL
  rw [absStep_len]
  simp
section
variable {X : Fx ltab}
theorem law_walk (hn : X.n = 3) (hK : KF X.K X.w) (hs : X.env.scope = lawScope) (ns : List Int) (hlen : ns.length ≤ 63) : ∃ e', Ex0 X [(31, .val (.list (ns.map PV.int)))] (execs lawStmts X.env) (.ret (.bool true)) e' := by
  obtain ⟨its, hil, hI⟩ := law_first ns
  generalize hσ : (numsOf ns).foldl lStep lZero = σ at hI
  have hu : (σ.tot % 3).toNat < 3 := by omega
  generalize hue : (σ.tot % 3).toNat = u at hu
  have hG : Good σ.ds := good (by have := hI.gen; rw [hil] at this; exact this)
  have hhd := hI.heads
  have hok := hI.okd
  have hE3 : E3 (σ.tx ++ σ.pl.reverse.map fun x => cloC x.2) σ.ds σ.hs (σ.es.map fun e => mkS (endC e)) u = E3 (wordK (its.map fun x => (x.1, x.2.1))) (its.map (·.1)) (headsL (its.map (·.1))) (esOf (its.map (·.2.2))) u := by
    rw [hI.word, hhd, hI.ds, hI.es]
    rfl
  have hei : (its.map (·.2.2)).length = 6 := by rw [List.length_map, hil]
  rw [hI.ds] at hG
  generalize hds : its.map (·.1) = ds at *
  generalize hes : its.map (·.2.2) = ei at *
  have hne : its ≠ [] := fun q => by rw [q] at hil; cases hil
  have hee : ∀ (i : Nat) (x : It), its[i]? = some x → (esOf ei)[i]? = some (mkS (endC x.2.2)) := fun i x hx => by
    rw [← hes]
    unfold esOf
    rw [List.getElem?_map, List.getElem?_map, hx]
    rfl
  have hbr : ∀ c ∈ secondL ds, c = 40 ∨ c = 41 := by
    have := secN_br ds 7
    unfold secN at this
    unfold secondL
    exact this
  have s0 := @law_s00 X ns
  have s1 := @law_s1 X hn hK hs ns hlen
  rw [hσ] at s1
  have s2 := @law_s2 X hn hK hs ns its σ hI hil
  have s3 := @law_s3 X hn hK hs ns { σ with tx := σ.tx ++ σ.pl.reverse.map fun x => cloC x.2, pl := [] }
  have s3' : Ex X (lEnv ns { σ with tx := σ.tx ++ σ.pl.reverse.map fun x => cloC x.2, pl := [] }) (exec (lawS 3) X.env) .next (E3 (wordK (its.map fun x => (x.1, x.2.1))) ds (headsL ds) (esOf ei) u) := by
    rw [← hE3, ← hue]
    exact @s3
  have s4 := @law_s4 X hn hK hs its (headsL ds) (esOf ei) u (by rw [hds]; exact hok) (by omega) hne hee
  rw [hds] at s4
  have s5 := @law_s5 X hn hK hs ds (headsL ds) (esOf ei) u hG.len hG.lt hu
  have s6 := @law_s6 X hn hK hs ds (headsL ds) (esOf ei) u hG.len hG.lt hu
  have s7 := @law_s7 X hn hK hs ds (headsL ds) (esOf ei) u hG.len hG.lt hu
  have s8 := @law_s8 X hn hK hs ds (headsL ds) (esOf ei) u hu
  have s9 := @law_s9 X hn hK hs ds (headsL ds) (esOf ei) u hG.len hG.lt hu
  have s10 := @law_s10 X hn hK hs 8 (secondL ds) ds (headsL ds) (esOf ei) u hG.len
  have s11 := @law_s11 X hn hK hs 8 (secondL ds) ds (esOf ei) u hG (by rw [headsL_len, hG.len])
  have s12 := @law_s12 X hn hK hs (secondL ds) ds (esOf ei) u
  have s13 := @law_s13 X hn hK hs (secondL ds) ds (esOf ei) hbr (by rw [hG.slen]; decide)
  have s14 := @law_s14 X hn hK hs (secondL ds) ds (esOf ei) (faL (secondL ds)) hG.found hG.ahead
  have s15 := @law_s15 X hn hK hs (secondL ds) ds (esOf ei) (faL (secondL ds))
  have s16 := @law_s16 X hn hK hs (secondL ds) ds (esOf ei) (faL (secondL ds)).2 hG.ahead hG.at_
  have s17 := @law_s17 X hn hK hs (secondL ds) ds ei (faL (secondL ds)).2 (bGo (faL (secondL ds)).2 6) hei hG.okd hG.word hG.len2 hG.lt2 hG.pk2
  have s18 := @law_s18 X hn hK hs (secondL ds) ds (bGo (faL (secondL ds)).2 6).1
  have s19 := @law_s19 X hn hK hs (secondL ds) ds (bGo (faL (secondL ds)).2 6).1 hG.len hG.lt
  obtain ⟨e', s20⟩ := law_s20 hn hK hs (secondL ds) ds (bGo (faL (secondL ds)).2 6).1 hG.len hG.lt (bGo_len _ 6) hG.pk hG.plen hG.norm1 hG.norm2 hG.dinv
  rw [lawStmts_eq]
  exact ⟨e', (@Ex0.cons _ _ _ _ _ _ _ _ @s0 (@Ex.cons _ _ _ _ _ _ _ _ @s1 (@Ex.cons _ _ _ _ _ _ _ _ @s2 (@Ex.cons _ _ _ _ _ _ _ _ @s3' (@Ex.cons _ _ _ _ _ _ _ _ @s4 (@Ex.cons _ _ _ _ _ _ _ _ @s5 (@Ex.cons _ _ _ _ _ _ _ _ @s6 (@Ex.cons _ _ _ _ _ _ _ _ @s7 (@Ex.cons _ _ _ _ _ _ _ _ @s8 (@Ex.cons _ _ _ _ _ _ _ _ @s9 (@Ex.cons _ _ _ _ _ _ _ _ @s10 (@Ex.cons _ _ _ _ _ _ _ _ @s11 (@Ex.cons _ _ _ _ _ _ _ _ @s12 (@Ex.cons _ _ _ _ _ _ _ _ @s13 (@Ex.cons _ _ _ _ _ _ _ _ @s14 (@Ex.cons _ _ _ _ _ _ _ _ @s15 (@Ex.cons _ _ _ _ _ _ _ _ @s16 (@Ex.cons _ _ _ _ _ _ _ _ @s17 (@Ex.cons _ _ _ _ _ _ _ _ @s18 (@Ex.cons _ _ _ _ _ _ _ _ @s19 (@Ex.stop _ _ _ _ _ _ _ @s20 (by intro h; cases h))))))))))))))))))))))⟩
end
/-- the call of law, from any state -/
theorem law_call (ns : List Int) (hlen : ns.length ≤ 63) (w : World) (K : Frag) (hFK : KF K w) (A : Around) (s : Shared) (hr : Room 4 A) (hst : Stat K s.heap) (v : Value) (hv : Rep s.heap (fun _ => False) (.list (ns.map PV.int)) v) :
    wpAny (model prg w) A (call (.ref 153) [v]) (fun u s' => u = .bool true ∧ ∃ h' tk, s' = { s with heap := h', toks := tk } ∧ ∀ b o, s.heap.get? b = some o → h'.get? b = some o) No s := by
  have core : ∀ (body : List Stmt) (sc : Scope), (∀ X : Fx ltab, X.n = 3 → KF X.K X.w → X.env.scope = sc → ∃ e', Ex0 X [(31, .val (.list (ns.map PV.int)))] (execs body X.env) (.ret (.bool true)) e') → sc = lawScope → FD K 153 body sc ["script"] →
      wpAny (model prg w) A (call (.ref 153) [v]) (fun u s' => u = .bool true ∧ ∃ h' tk, s' = { s with heap := h', toks := tk } ∧ ∀ b o, s.heap.get? b = some o → h'.get? b = some o) No s := fun body sc hwalk hsc' hFD => by
    obtain ⟨oc, od, osl, fd, hK, hbody, hcl, hcd, hsc, hg, hb, hbind⟩ := hFD
    have hsl : fd.scope = lawScope := hsc.trans hsc'
    obtain ⟨p, loose, mg, mb, T⟩ := hst.top
    have hfk : fd.scope.kind = .function := by rw [hsl]; rfl
    have hloc : fd.scope.names.lookup ("script" : Str) = some NameKind.local := by rw [hsl]; rfl
    have htab : tabOk ltab fd.scope.names = true := by rw [hsl]; decide +kernel
    have hfree : ∀ x ∈ fd.scope.names, x.2 ≠ .free := by rw [hsl]; decide +kernel
    have hP : ∀ a, (fun _ : Addr => False) a → ∃ o, s.heap.get? a = some o := fun a h => h.elim
    refine wpAny_call (codeAny_call_cells (by have := hr.depth; show A.depth < 1000; omega) (hst.K _ _ hK) rfl T.nolimit (codeRec_of hst.K hcd) hbody (hbind [v] rfl) hcl (fun x hx => ?_) (fun s₁ ic => ?_) (by rw [hsl]; rfl) (by rw [hsl]; rfl) hfk)
    · have hx' : x ∈ [(("script" : Str), v)] := hx
      simp only [List.mem_cons, List.not_mem_nil, or_false] at hx'
      subst hx'
      exact .inl hloc
    · obtain ⟨e', hE⟩ := hwalk (fx ltab K 3 w A fd 153 s (fun _ => False)) rfl hFK hsc
      have ok := fx_ok (tab := ltab) (K := K) (n := 3) (w := w) hr hst hP htab hfk hg hb hfree ic
      have hkx : ∀ y ∈ [("script" : Str)], (callEnvC fd s.heap.objs.size 153).kindOf y = some .local := fun y hy => by
        simp only [List.mem_cons, List.not_mem_nil, or_false] at hy
        subst hy
        exact hloc
      have R : Rel (fx ltab K 3 w A fd 153 s (fun _ => False)) [(31, .val (.list (ns.map PV.int)))] (fun _ => 0) { s₁ with toks := s₁.toks + 1 } := fx_rel (ic.tok _) (fun x hx => by rw [hx]; intro h; cases h) hP hfk (fun i sl hl => ?_) (Nat.succ_pos _)
      · refine wpAny_mono (hE ok _ s₁ R) (fun fl s' h' => ?_) fun _ _ h => h.elim
        obtain ⟨ρ', R', t', u, rfl, hr'⟩ := h'
        refine ⟨rep_bool_inv hr', ?_⟩
        obtain ⟨h', tk, rfl⟩ := R'.same
        exact ⟨h', tk, rfl, R'.keep⟩
      · rw [List.lookup_cons] at hl
        by_cases hi : i = 31
        · subst hi
          simp only [beq_self_eq_true] at hl
          cases hl
          exact ⟨"script", _, v, rfl, rfl, hloc, bindL_get (xs := [("script" : Str)]) (vs := [v]) (by simp) hkx (j := 0) rfl rfl, hv⟩
        · have : (i == 31) = false := by simpa using hi
          rw [this] at hl
          simp at hl
  have e1 : bodyOf (fdTop 65) = lawStmts := by kernel_rfl
  have e2 : (fdTop 65).scope = lawScope := by kernel_rfl
  refine core lawStmts lawScope (fun X hn hK hs => law_walk hn hK hs ns hlen) rfl ?_
  rw [← e1, ← e2]
  exact fd_153 hFK
end Mine
end

section
open PySem PySem.W PyProof.Rows PySem.Calls
set_option Elab.async false
set_option linter.unusedVariables false
set_option maxRecDepth 100000
set_option maxHeartbeats 8000000
namespace Mine
theorem well_list {P : Params} {h : Heap} {l : Addr} {d : WData} {items : List Value} (w : Well P h (.ref l) d) (hL : h.IsList l items.toArray) : ∃ n, h.get? l = some (LObj items n) := by
  obtain ⟨o, ho, hc, n, hd⟩ := hL
  cases w with
  | list hg _ =>
    rw [hg] at ho
    cases ho
    simp at hd
    obtain ⟨rfl, rfl⟩ := hd
    exact ⟨_, hg⟩
  | bytearray hg => rw [hg] at ho; cases ho; simp at hc
  | tuple hg _ => rw [hg] at ho; cases ho; simp at hc
  | dict hg _ => rw [hg] at ho; cases ho; simp at hc
  | set hg _ _ _ => rw [hg] at ho; cases ho; simp at hc
  | frozenset hg _ _ _ => rw [hg] at ho; cases ho; simp at hc
  | obj hg _ _ _ => rw [hg] at ho; cases ho; simp at hc
theorem ints_rep {h : Heap} {P : Addr → Prop} : ∀ {vs : List Value} {ns : List Int}, IntsAre vs ns → RepL h P (ns.map PV.int) vs := by
  intro vs ns hI
  induction hI with
  | nil => exact .nil
  | cons _ _ _ ih => exact .cons rep_int ih
theorem post_true (args ds : List WData) : PySem.Challenge.rw_rw0100_01.row.claim.post args (.bool true) ds = true := by kernel_rfl
theorem good_end {c : ClaimW} {cl : Str → Option Addr} {mean : ExcName → Option Value} {args : List WData} {s₁ : Shared} {h' : Heap} {tk : Tok} (hr : ∀ cls, c.raises args cls = false) (hp : c.post args (.bool true) args = true) (hk : ∀ b o, s₁.heap.get? b = some o → h'.get? b = some o) (hg : s₁.gens = #[]) :
    GoodWG c cl mean args s₁ (.ok (.ret (.bool true))) { s₁ with heap := h', toks := tk } := ⟨.inl ⟨_, .bool true, [], rfl, hr, .bool _, hp, fun _ => ⟨List.nodup_nil, fun _ h => nomatch h⟩⟩, .of_keep hk, rfl, .of_eq hg⟩
/-- the call, seen from the claim -/
theorem call_good {c : ClaimW} {cl : Str → Option Addr} {mean : ExcName → Option Value} {args : List WData} (ns : List Int) (hlen : ns.length ≤ 63) (w : World) (K : Frag) (hFK : KF K w) (s₁ : Shared) (hst : Stat K s₁.heap) (l : Addr) (vs : List Value) (d : WData) (w1 : Well w.params s₁.heap (.ref l) d) (hL : s₁.heap.IsList l vs.toArray) (hI : IntsAre vs ns) (hg : s₁.gens = #[])
    (hr : ∀ cls, c.raises args cls = false) (hp : c.post args (.bool true) args = true) :
    wpAny (model prg w) callerA (call (.ref 153) [.ref l]) (fun v s' => GoodWG c cl mean args s₁ (.ok (.ret v)) s') (fun e s' => GoodWG c cl mean args s₁ (.error e) s') s₁ := by
  obtain ⟨n, hgl⟩ := well_list w1 hL
  refine wpAny_mono (law_call ns hlen w K hFK callerA s₁ ⟨by decide, by decide, rfl⟩ hst (.ref l) (rep_list (fun h => h) hgl (ints_rep hI))) (fun u s' h => ?_) (fun _ _ h => h.elim)
  obtain ⟨rfl, h', tk, rfl, hk⟩ := h
  exact good_end hr hp hk hg
theorem fa_is {K : Frag} {w : World} {h : Heap} {mg : Str → Option Value} {fa : Addr} (hFK : KF K w) (KX : K.In h) (hg : h.Ns mainGlobals mg) (hm : mg "law" = some (.ref fa)) : fa = 153 := by
  rw [mg_of KX hg (k_law hFK)] at hm
  injection hm with h2
  injection h2 with h2
  exact h2.symm
theorem room_caller : Room 4 callerA := ⟨by decide, by decide, rfl⟩
end Mine
theorem PySem.Challenge.cw_rw0100_01_holds : PySem.Challenge.rw_rw0100_01.Holds := by
  refine holds_law Mine.said fun said' => ?_
  refine holds_open (q := Mine.lawQ) (loose := Mine.looseL) (Xt := Mine.lawXt) (XP := XL Mine.lawQ []) (Yf := fun s => Mine.obs (Mine.fragOf s.heap)) (Ya := fun w => Mine.obsE w.params) (YP := fun w h => ∃ K, Mine.KF K w ∧ K.In h) (N := 4716) Mine.left_any Mine.top_says (fun w h h' ⟨K, a, b⟩ k => ⟨K, a, b.keeps k⟩) (fun s e => xl_of s (Bool.and_eq_true_iff.mp e).1) XL.keeps (by rfl) (by rfl) (by rfl) (fun s e => recFacts_of (Bool.and_eq_true_iff.mp e).2) (by rfl) said' (by decide +kernel) ⟨rfl, rfl, rfl, rfl, rfl, by decide +kernel⟩ ?hw ?hc
  case hw => exact ⟨[.list []], by decide +kernel, by decide +kernel⟩
  case hc =>
    intro w s₀ s₁ mg mb G Y fa o pm cd doc dV kV ho hd hcd hD hmg hg args vals as hpre hlay hrd hwl hlo
    obtain ⟨K, hFK, KX⟩ := Y
    refine Ground.open G ?_
    intro T B D TE TW
    clear hd hcd hD G B D TE TW
    wrow_args hpre hlay hrd hwl hlo
    rename_i ns hs hlay0 hL0 hr1 hl2 a1 a2 l vs a3 hL ra w1 r0 hI hr hc1 hc2
    have hfa : fa = 153 := Mine.fa_is hFK KX T.g hmg
    subst hfa
    have hst : Mine.Stat K s₁.heap := ⟨KX, _, _, mg, mb, topRead_of T⟩
    have hlen : ns.length ≤ 63 := Nat.le_of_not_lt fun q => hc1 (Int.ofNat_lt.mpr q)
    exact Mine.call_good ns hlen w K hFK s₁ hst l vs _ w1 hL hI hg (fun _ => rfl) (Mine.post_true _ _)
end
