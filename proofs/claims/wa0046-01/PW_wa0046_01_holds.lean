import PyProof.Rows.All
import Wide.All
import OpenK.AllK
import Wide.FinOn
import Lean
import PySem.Challenge.RW_wa0046_01
set_option Elab.async false
set_option linter.all false
-- Ev
namespace Mine
open PySem PySem.Calls PyProof.Rows PySem.W
/-- every object of h stands in h' as it was -/
abbrev Keeps (h h' : Heap) : Prop := ∀ b o, h.get? b = some o → h'.get? b = some o
theorem Keeps.refl (h : Heap) : Keeps h h := fun _ _ e => e
theorem Keeps.trans {a b c : Heap} (x : Keeps a b) (y : Keeps b c) : Keeps a c := fun p o e => y p o (x p o e)
theorem Keeps.push (h : Heap) (o : Obj) : Keeps h (h.push o) := fun _ _ e => Heap.get?_push_of_some o e
/-- plain values: what a program's value is, no heap in sight -/
inductive PV where
  | none
  | bool (b : Bool)
  | int (i : Int)
  | str (x : Str)
  | lst (xs : List PV)
  | tup (xs : List PV)
  | fn (a : Addr)
abbrev LObj (vs : List Value) (n : Nat) : Obj := { cls := .type "list", data := .seq vs.toArray n }
abbrev TObj (vs : List Value) (n : Nat) : Obj := { cls := .type "tuple", data := .seq vs.toArray n }
mutual
def VR (hid : List Addr) (h : Heap) : PV → Value → Prop
  | .none, v => v = .none
  | .bool b, v => v = .bool b
  | .int i, v => ∃ t, v = .int i t
  | .str x, v => ∃ t, v = .str x t
  | .lst xs, v => ∃ l vs n, v = .ref l ∧ l ∉ hid ∧ h.get? l = some (LObj vs n) ∧ VRs hid h xs vs
  | .tup xs, v => ∃ l vs n, v = .ref l ∧ l ∉ hid ∧ h.get? l = some (TObj vs n) ∧ VRs hid h xs vs
  | .fn a, v => v = .ref a
def VRs (hid : List Addr) (h : Heap) : List PV → List Value → Prop
  | [], vs => vs = []
  | p :: ps, vs => ∃ v r, vs = v :: r ∧ VR hid h p v ∧ VRs hid h ps r
end
/-- the lists and tuples of h that are not hidden stand in h' as they were -/
def Stays (hid : List Addr) (h h' : Heap) : Prop := ∀ b o, h.get? b = some o → (∃ xs n, o.data = .seq xs n) → b ∉ hid → h'.get? b = some o
theorem Keeps.stays {h h' : Heap} (k : Keeps h h') (hid : List Addr) : Stays hid h h' := fun b o e _ _ => k b o e
mutual
theorem VR.stays {hid : List Addr} {h h' : Heap} (k : Stays hid h h') : ∀ {p : PV} {v : Value}, VR hid h p v → VR hid h' p v
  | .none, _, x => x
  | .bool _, _, x => x
  | .int _, _, x => x
  | .str _, _, x => x
  | .fn _, _, x => x
  | .lst _, _, ⟨l, vs, m, e, n, ho, w⟩ => ⟨l, vs, m, e, n, k l _ ho ⟨_, _, rfl⟩ n, VRs.stays k w⟩
  | .tup _, _, ⟨l, vs, m, e, n, ho, w⟩ => ⟨l, vs, m, e, n, k l _ ho ⟨_, _, rfl⟩ n, VRs.stays k w⟩
theorem VRs.stays {hid : List Addr} {h h' : Heap} (k : Stays hid h h') : ∀ {ps : List PV} {vs : List Value}, VRs hid h ps vs → VRs hid h' ps vs
  | [], _, x => x
  | _ :: _, _, ⟨v, r, e, a, b⟩ => ⟨v, r, e, VR.stays k a, VRs.stays k b⟩
end
mutual
theorem VR.sub {hid hid' : List Addr} {h : Heap} (k : ∀ a ∈ hid', (∃ o, h.get? a = some o) → a ∈ hid) : ∀ {p : PV} {v : Value}, VR hid h p v → VR hid' h p v
  | .none, _, x => x
  | .bool _, _, x => x
  | .int _, _, x => x
  | .str _, _, x => x
  | .fn _, _, x => x
  | .lst _, _, ⟨l, vs, m, e, n, L, w⟩ => ⟨l, vs, m, e, fun q => n (k l q ⟨_, L⟩), L, VRs.sub k w⟩
  | .tup _, _, ⟨l, vs, m, e, n, L, w⟩ => ⟨l, vs, m, e, fun q => n (k l q ⟨_, L⟩), L, VRs.sub k w⟩
theorem VRs.sub {hid hid' : List Addr} {h : Heap} (k : ∀ a ∈ hid', (∃ o, h.get? a = some o) → a ∈ hid) : ∀ {ps : List PV} {vs : List Value}, VRs hid h ps vs → VRs hid' h ps vs
  | [], _, x => x
  | _ :: _, _, ⟨v, r, e, a, b⟩ => ⟨v, r, e, VR.sub k a, VRs.sub k b⟩
end
theorem VR.keeps {hid : List Addr} {h h' : Heap} (k : Keeps h h') {p : PV} {v : Value} (x : VR hid h p v) : VR hid h' p v := VR.stays (k.stays hid) x
theorem VRs.keeps {hid : List Addr} {h h' : Heap} (k : Keeps h h') {p : List PV} {v : List Value} (x : VRs hid h p v) : VRs hid h' p v := VRs.stays (k.stays hid) x
/-- a hidden address that no object bore before may be added -/
theorem VR.more {hid : List Addr} {h : Heap} {a : Addr} (n : h.get? a = none) {p : PV} {v : Value} (x : VR hid h p v) : VR (a :: hid) h p v :=
  VR.sub (fun b hb ⟨o, e⟩ => by
    rcases List.mem_cons.mp hb with rfl | q
    · rw [n] at e; cases e
    · exact q) x
theorem VRs.more {hid : List Addr} {h : Heap} {a : Addr} (n : h.get? a = none) {p : List PV} {v : List Value} (x : VRs hid h p v) : VRs (a :: hid) h p v :=
  VRs.sub (fun b hb ⟨o, e⟩ => by
    rcases List.mem_cons.mp hb with rfl | q
    · rw [n] at e; cases e
    · exact q) x
theorem VR.less {hid hid' : List Addr} {h : Heap} (k : ∀ a ∈ hid', a ∈ hid) {p : PV} {v : Value} (x : VR hid h p v) : VR hid' h p v := VR.sub (fun a q _ => k a q) x
theorem VRs.less {hid hid' : List Addr} {h : Heap} (k : ∀ a ∈ hid', a ∈ hid) {p : List PV} {v : List Value} (x : VRs hid h p v) : VRs hid' h p v := VRs.sub (fun a q _ => k a q) x
theorem VRs.length {hid : List Addr} {h : Heap} : ∀ {ps : List PV} {vs : List Value}, VRs hid h ps vs → vs.length = ps.length
  | [], _, x => by cases x; rfl
  | _ :: _, _, ⟨v, r, e, _, b⟩ => by rw [e, List.length_cons, List.length_cons, VRs.length b]
theorem VRs.get {hid : List Addr} {h : Heap} : ∀ {ps : List PV} {vs : List Value}, VRs hid h ps vs → ∀ (i : Nat) {p : PV}, ps[i]? = some p → ∃ v, vs[i]? = some v ∧ VR hid h p v
  | [], _, _, i, p, e => by simp at e
  | q :: ps, _, ⟨v, r, e, a, b⟩, i, p, ep => by
    subst e
    cases i with
    | zero => cases ep; exact ⟨v, rfl, a⟩
    | succ i => exact VRs.get b i ep
theorem VRs.append {hid : List Addr} {h : Heap} : ∀ {ps : List PV} {vs : List Value}, VRs hid h ps vs → ∀ {qs : List PV} {us : List Value}, VRs hid h qs us → VRs hid h (ps ++ qs) (vs ++ us)
  | [], _, x, qs, us, y => by cases x; exact y
  | _ :: _, _, ⟨v, r, e, a, b⟩, qs, us, y => by subst e; exact ⟨v, r ++ us, rfl, a, VRs.append b y⟩
theorem VRs.one {hid : List Addr} {h : Heap} {p : PV} {v : Value} (x : VR hid h p v) : VRs hid h [p] [v] := ⟨v, [], rfl, x, rfl⟩
theorem VRs.cons {hid : List Addr} {h : Heap} {p : PV} {v : Value} (x : VR hid h p v) {ps : List PV} {vs : List Value} (y : VRs hid h ps vs) : VRs hid h (p :: ps) (v :: vs) := ⟨v, vs, rfl, x, y⟩
theorem VRs.nil {hid : List Addr} {h : Heap} : VRs hid h [] [] := rfl
/-- the facts of the text's top that every rule leans on: hb is the heap behind the top -/
structure GL (mg mb : Str → Option Value) (hb h : Heap) : Prop where
  g : hb.Ns mainGlobals mg
  b : hb.Ns builtinsNs mb
  nolimit : hb.NoLimit
  digits : ∃ mc, hb.Ns cStatics mc ∧ mc "sys.int_max_str_digits" = none
  low : sysModules < hb.objs.size
  top : Keeps hb h
  size : hb.objs.size ≤ h.objs.size
theorem Heap.size_le_of_keeps {h h' : Heap} (k : Keeps h h') {a : Addr} {o : Obj} (e : h.get? a = some o) : a < h'.objs.size := Heap.lt_size (k a o e)
/-- room on the stack for n more frames -/
def Room (n : Nat) (A : Around) : Prop := A.depth + n < recursionLimit ∧ A.units + 16 * n < cLine ∧ A.handled = none
theorem Room.le {n m : Nat} {A : Around} (h : Room n A) (k : m ≤ n) : Room m A := ⟨by have := h.1; omega, by have := h.2.1; omega, h.2.2⟩
theorem Room.deeper {n : Nat} {A : Around} {env : Env} (h : Room (n + 1) A) : Room n (A.deeper env) := ⟨by have := h.1; show A.depth + 1 + n < _; omega, by have := h.2.1; show A.units + 3 + 16 * n < _; omega, h.2.2⟩
theorem Room.in1 {n : Nat} {A : Around} (h : Room (n + 1) A) : Room n A.in1 := ⟨by have := h.1; show A.depth + n < _; omega, by have := h.2.1; show A.units + 1 + 16 * n < _; omega, h.2.2⟩
theorem Room.depth {n : Nat} {A : Around} (h : Room n A) : A.depth < recursionLimit := by have := h.1; omega
theorem Room.units {n : Nat} {A : Around} (h : Room n A) : A.units < cLine := by have := h.2.1; omega
theorem Room.mark {n : Nat} {A : Around} (h : Room n A) : Room n (A.mark none) := h
theorem Room.handled {n : Nat} {A : Around} (h : Room n A) : A.handled = none := h.2.2
inductive Slot where
  | unset
  | val (p : PV)
  | own (xs : List PV)
/-- the name x, of kind k, holds v -/
def Has (env : Env) (h : Heap) (x : Str) (k : NameKind) (v : Value) : Prop :=
  match k with
  | .local => ∃ m, h.Ns env.locals m ∧ m x = some v
  | .cell => ∃ c, env.cells.lookup x = some c ∧ h.IsCell c (some v)
  | .free => ∃ c, env.cells.lookup x = some c ∧ h.IsCell c (some v)
  | _ => False
theorem Ns_same {h : Heap} {a : Addr} {m m' : Str → Option Value} (x : h.Ns a m) (y : h.Ns a m') : m = m' := by
  obtain ⟨o, es, ep, e, d, _, f⟩ := x
  obtain ⟨o', es', ep', e', d', _, f'⟩ := y
  rw [e] at e'; cases e'
  rw [d] at d'; cases d'
  funext n
  rw [← f, ← f']
theorem IsCell_same {h : Heap} {c : Addr} {v v' : Option Value} (x : h.IsCell c v) (y : h.IsCell c v') : v = v' := by
  obtain ⟨o, e, d⟩ := x
  obtain ⟨o', e', d'⟩ := y
  rw [e] at e'; cases e'
  rw [d] at d'; cases d'; rfl
theorem Has.same {env : Env} {h : Heap} {x : Str} {k : NameKind} {v v' : Value} (a : Has env h x k v) (b : Has env h x k v') : v = v' := by
  cases k <;> simp only [Has] at a b
  case «local» =>
    obtain ⟨m, h1, h2⟩ := a
    obtain ⟨m', h1', h2'⟩ := b
    rw [Ns_same h1 h1', h2'] at h2; cases h2; rfl
  all_goals
    obtain ⟨c, h1, h2⟩ := a
    obtain ⟨c', h1', h2'⟩ := b
    rw [h1] at h1'; cases h1'
    have := IsCell_same h2 h2'
    cases this; rfl
theorem Has.keeps {env : Env} {h h' : Heap} (kp : Keeps h h') {x : Str} {k : NameKind} {v : Value} (a : Has env h x k v) : Has env h' x k v := by
  cases k <;> simp only [Has] at a ⊢
  case «local» => obtain ⟨m, h1, h2⟩ := a; exact ⟨m, h1.keeps kp, h2⟩
  all_goals obtain ⟨c, h1, h2⟩ := a; exact ⟨c, h1, h2.keeps kp⟩
/-- what stands fixed for one frame -/
structure Cx where
  prog : Program
  w : World
  mg : Str → Option Value
  mb : Str → Option Value
  hb : Heap
  env : Env
  nm : List (Str × NameKind)
  h₀ : Heap
  inh : List Addr
structure Cx.Ok (C : Cx) : Prop where
  kind : C.env.scope.kind = .function
  glob : C.env.globals = mainGlobals
  blt : C.env.builtins = builtinsNs
  names : C.env.scope.names = C.nm
  once : (C.nm.map (·.1)).Nodup
  old : ∀ a ∈ C.inh, ∃ o, C.h₀.get? a = some o
theorem lookup_at : ∀ {nm : List (Str × NameKind)} (_ : (nm.map (·.1)).Nodup) {i : Nat} {x : Str} {k : NameKind}, nm[i]? = some (x, k) → nm.lookup x = some k
  | [], _, i, x, k, e => by simp at e
  | (y, q) :: r, hn, i, x, k, e => by
    rw [List.map_cons, List.nodup_cons] at hn
    cases i with
    | zero => cases e; simp [List.lookup_cons]
    | succ i =>
      have e' : r[i]? = some (x, k) := e
      have hm : x ∈ r.map (·.1) := List.mem_map.mpr ⟨(x, k), List.mem_of_getElem? e', rfl⟩
      have : (x == y) = false := by
        cases q : x == y with
        | false => rfl
        | true => rw [beq_iff_eq] at q; subst q; exact absurd hm hn.1
      rw [List.lookup_cons, this]
      exact lookup_at hn.2 e'
theorem Cx.Ok.kindOf {C : Cx} (O : C.Ok) {i : Nat} {x : Str} {k : NameKind} (e : C.nm[i]? = some (x, k)) : C.env.kindOf x = some k := by
  show C.env.scope.names.lookup x = some k
  rw [O.names]; exact lookup_at O.once e
theorem at_once : ∀ {nm : List (Str × NameKind)} (_ : (nm.map (·.1)).Nodup) {i j : Nat} {x : Str} {k k' : NameKind}, nm[i]? = some (x, k) → nm[j]? = some (x, k') → i = j
  | [], _, i, _, x, k, _, e, _ => by simp at e
  | (y, q) :: r, hn, i, j, x, k, k', e, e' => by
    rw [List.map_cons, List.nodup_cons] at hn
    have mem : ∀ {i : Nat} {k : NameKind}, r[i]? = some (x, k) → x ∈ r.map (·.1) := fun e => List.mem_map.mpr ⟨(x, _), List.mem_of_getElem? e, rfl⟩
    cases i with
    | zero => cases j with
      | zero => rfl
      | succ j => cases e; exact absurd (mem e') hn.1
    | succ i => cases j with
      | zero => cases e'; exact absurd (mem e) hn.1
      | succ j => exact congrArg (· + 1) (at_once hn.2 (show r[i]? = _ from e) (show r[j]? = _ from e'))
structure St (C : Cx) (hid : List Addr) (σ : List Slot) (h : Heap) : Prop where
  gl : GL C.mg C.mb C.hb C.h₀
  keep : Keeps C.h₀ h
  sub : ∀ a ∈ C.inh, a ∈ hid
  isl : ∀ a ∈ hid, ∃ vs n, h.get? a = some (LObj vs n)
  loc : ∃ m, h.Ns C.env.locals m
  up : C.h₀.objs.size ≤ C.env.locals
  vals : ∀ (i : Nat) x k p, C.nm[i]? = some (x, k) → σ[i]? = some (.val p) → ∃ v, Has C.env h x k v ∧ VR hid h p v
  owns : ∀ (i : Nat) x k xs, C.nm[i]? = some (x, k) → σ[i]? = some (.own xs) → ∃ l vs n, Has C.env h x k (.ref l) ∧ l ∈ hid ∧ C.h₀.objs.size ≤ l ∧ h.get? l = some (LObj vs n) ∧ VRs hid h xs vs
  apart : ∀ (i j : Nat) x k y k' xs ys l, C.nm[i]? = some (x, k) → C.nm[j]? = some (y, k') → σ[i]? = some (.own xs) → σ[j]? = some (.own ys) → Has C.env h x k (.ref l) → Has C.env h y k' (.ref l) → i = j
  /-- cells: the ones that this frame may store into are its own -/
  cells : ∀ (i : Nat) x, C.nm[i]? = some (x, .cell) → ∃ c v, C.env.cells.lookup x = some c ∧ h.IsCell c v
theorem GL.keeps {mg mb : Str → Option Value} {hb h h' : Heap} (G : GL mg mb hb h) (k : Keeps h h') (hs : h.objs.size ≤ h'.objs.size) : GL mg mb hb h' :=
  ⟨G.g, G.b, G.nolimit, G.digits, G.low, G.top.trans k, Nat.le_trans G.size hs⟩
theorem St.gl' {C : Cx} {hid : List Addr} {σ : List Slot} {h : Heap} (S : St C hid σ h) : GL C.mg C.mb C.hb h :=
  S.gl.keeps S.keep (by obtain ⟨m, hm⟩ := S.loc; exact Nat.le_trans S.up (Nat.le_of_lt hm.lt))
theorem St.keeps {C : Cx} {hid : List Addr} {σ : List Slot} {h h' : Heap} (S : St C hid σ h) (k : Keeps h h') : St C hid σ h' where
  gl := S.gl
  keep := S.keep.trans k
  sub := S.sub
  isl := fun a ha => let ⟨vs, n, ho⟩ := S.isl a ha; ⟨vs, n, k _ _ ho⟩
  loc := let ⟨m, hm⟩ := S.loc; ⟨m, hm.keeps k⟩
  up := S.up
  vals := fun i x kd p e1 e2 => let ⟨v, a, b⟩ := S.vals i x kd p e1 e2; ⟨v, a.keeps k, b.keeps k⟩
  owns := fun i x kd xs e1 e2 => let ⟨l, vs, n, a, b, c, ho, e⟩ := S.owns i x kd xs e1 e2; ⟨l, vs, n, a.keeps k, b, c, k _ _ ho, e.keeps k⟩
  apart := fun i j x kd y kd' xs ys l e1 e2 e3 e4 a b => by
    obtain ⟨l1, _, _, a', _⟩ := S.owns i x kd xs e1 e3
    obtain ⟨l2, _, _, b', _⟩ := S.owns j y kd' ys e2 e4
    have q1 := (a'.keeps k).same a
    have q2 := (b'.keeps k).same b
    cases q1; cases q2
    exact S.apart i j x kd y kd' xs ys l e1 e2 e3 e4 a' b'
  cells := fun i x e => let ⟨c, v, a, b⟩ := S.cells i x e; ⟨c, v, a, b.keeps k⟩
/-- the tree t gives the plain value p, whatever the heap, and only adds to the heap -/
structure Ev (n : Nat) (C : Cx) (σ : List Slot) (t : Sem Value) (p : PV) : Prop where
  run : ∀ (A : Around) (hid : List Addr) (s : Shared) (Q : Value → Shared → Prop) (E : Value → Shared → Prop), Room n A → St C hid σ s.heap →
    (∀ v h' tk, Keeps s.heap h' → VR hid h' p v → Q v { s with heap := h', toks := tk }) → wpAny (model C.prog C.w) A t Q E s
/-- a test -/
structure Et (n : Nat) (C : Cx) (σ : List Slot) (t : Sem Bool) (b : Bool) : Prop where
  run : ∀ (A : Around) (hid : List Addr) (s : Shared) (Q : Bool → Shared → Prop) (E : Value → Shared → Prop), Room n A → St C hid σ s.heap →
    (∀ h' tk, Keeps s.heap h' → Q b { s with heap := h', toks := tk }) → wpAny (model C.prog C.w) A t Q E s
theorem Ev.le {n m : Nat} {C : Cx} {σ : List Slot} {t : Sem Value} {p : PV} (h : Ev n C σ t p) (k : n ≤ m) : Ev m C σ t p := .mk <| fun A hid s Q E R S q => h.run A hid s Q E (R.le k) S q
section
variable {n : Nat} {C : Cx} {σ : List Slot}
theorem Ev.int {i : Int} {k : Nat} {pos : Pos} : Ev n C σ (eval (.Constant (.int i) k pos) C.env) (.int i) := .mk <| fun A hid s Q E R S q => wpAny_Constant_int (q _ _ _ (Keeps.refl _) ⟨_, rfl⟩)
theorem Ev.str {x : Str} {k : Nat} {pos : Pos} : Ev n C σ (eval (.Constant (.str x) k pos) C.env) (.str x) := .mk <| fun A hid s Q E R S q => wpAny_Constant_str (q _ _ _ (Keeps.refl _) ⟨_, rfl⟩)
theorem Ev.bool {b : Bool} {k : Nat} {pos : Pos} : Ev n C σ (eval (.Constant (.bool b) k pos) C.env) (.bool b) := .mk <| fun A hid s Q E R S q => wpAny_Constant_bool (q _ s.heap s.toks (Keeps.refl _) rfl)
theorem Ev.none {k : Nat} {pos : Pos} : Ev n C σ (eval (.Constant .none k pos) C.env) .none := .mk <| fun A hid s Q E R S q => wpAny_Constant_none (q _ s.heap s.toks (Keeps.refl _) rfl)
theorem wp_name {prog : Program} {w : World} {A : Around} {E : Value → Shared → Prop} {s : Shared} {env : Env} {x : Str} {k : NameKind} {v : Value} {Q : Value → Shared → Prop} {pos : Pos}
    (hk : env.scope.kind = .function) (hl : env.kindOf x = some k) (a : Has env s.heap x k v) (h : Q v s) (h1 : (x == ("__debug__" : Str)) = false) (h2 : (x == ("__classdict__" : Str)) = false) : wpAny (model prog w) A (eval (.Name x pos) env) Q E s := by
  refine wpAny_Name ?_ h1
  cases k <;> simp only [Has] at a
  case «local» => obtain ⟨m, hm, hv⟩ := a; exact wpAny_loadName_local hk hl hm hv h
  case cell => obtain ⟨c, hc, hv⟩ := a; exact wpAny_loadName_cell hk hl hc hv h
  case free => obtain ⟨c, hc, hv⟩ := a; exact wpAny_loadName_free hk hl hc hv h h2
theorem Ev.name (O : C.Ok) (i : Nat) {x : Str} {k : NameKind} {p : PV} {pos : Pos} (e1 : C.nm[i]? = some (x, k)) (e2 : σ[i]? = some (.val p)) (h1 : (x == ("__debug__" : Str)) = false) (h2 : (x == ("__classdict__" : Str)) = false) :
    Ev n C σ (eval (.Name x pos) C.env) p := .mk <| fun A hid s Q E R S q => by
  obtain ⟨v, a, b⟩ := S.vals i x k p e1 e2
  exact wp_name O.kind (O.kindOf e1) a (q v s.heap s.toks (Keeps.refl _) b) h1 h2
/-- a name of the text's top that is a def -/
theorem Ev.glob (O : C.Ok) (i : Nat) {x : Str} {a : Addr} {pos : Pos} (e1 : C.nm[i]? = some (x, .globalImplicit)) (e2 : C.mg x = some (.ref a)) (h1 : (x == ("__debug__" : Str)) = false) :
    Ev n C σ (eval (.Name x pos) C.env) (.fn a) := .mk <| fun A hid s Q E R S q =>
  Name_function_global O.kind (O.kindOf e1) (loadGlobal_global (by rw [O.glob]; exact S.gl.g.keeps (S.gl.top.trans S.keep)) e2 (q _ s.heap s.toks (Keeps.refl _) rfl)) h1
end
end Mine
-- Ops
namespace Mine
open PySem PySem.Calls PyProof.Rows PySem.W
/-- a step on values -/
structure Op1 (n : Nat) (prog : Program) (w : World) (f : Value → Sem Value) (p r : PV) : Prop where
  run : ∀ (A : Around) (hid : List Addr) (s : Shared) (Q : Value → Shared → Prop) (E : Value → Shared → Prop) (a : Value), Room n A → VR hid s.heap p a →
    (∀ v h' tk, Keeps s.heap h' → VR hid h' r v → Q v { s with heap := h', toks := tk }) → wpAny (model prog w) A (f a) Q E s
structure Op2 (n : Nat) (prog : Program) (w : World) (f : Value → Value → Sem Value) (p q r : PV) : Prop where
  run : ∀ (A : Around) (hid : List Addr) (s : Shared) (Q : Value → Shared → Prop) (E : Value → Shared → Prop) (a b : Value), Room n A → sysModules < s.heap.objs.size ∧ (∀ x ∈ hid, ∃ vs n, s.heap.get? x = some (LObj vs n)) → VR hid s.heap p a → VR hid s.heap q b →
    (∀ v h' tk, Keeps s.heap h' → VR hid h' r v → Q v { s with heap := h', toks := tk }) → wpAny (model prog w) A (f a b) Q E s
structure Tr (n : Nat) (prog : Program) (w : World) (p : PV) (b : Bool) : Prop where
  run : ∀ (A : Around) (hid : List Addr) (s : Shared) (Q : Bool → Shared → Prop) (E : Value → Shared → Prop) (a : Value), Room n A → VR hid s.heap p a →
    (∀ h' tk, Keeps s.heap h' → Q b { s with heap := h', toks := tk }) → wpAny (model prog w) A (truthy a) Q E s
section
variable {n : Nat} {C : Cx} {σ : List Slot} {p q r : PV}
theorem St.side {hid : List Addr} {h : Heap} (S : St C hid σ h) : sysModules < h.objs.size ∧ (∀ x ∈ hid, ∃ vs n, h.get? x = some (LObj vs n)) := ⟨Nat.lt_of_lt_of_le S.gl'.low S.gl'.size, S.isl⟩
theorem Ev.bin {l r' : Expr} {op : Operator} {pos : Pos} (h1 : Ev n C σ (eval l C.env) p) (h2 : Ev n C σ (eval r' C.env) q) (h3 : Op2 n C.prog C.w (binaryOp op) p q r) : Ev n C σ (eval (.BinOp l op r' pos) C.env) r := .mk <| fun A hid s Q E R S k =>
  wpAny_BinOp (h1.run A hid s _ E R S fun a h' tk k1 va => h2.run A hid _ _ E R (S.keeps k1) fun b h'' tk' k2 vb => h3.run A hid _ _ E a b R ((S.keeps k1).keeps k2).side (va.keeps k2) vb fun v h3 tk3 k3 v3 => k v h3 tk3 ((k1.trans k2).trans k3) v3)
theorem Ev.una {x : Expr} {op : UnaryOp} {pos : Pos} (h1 : Ev n C σ (eval x C.env) p) (h3 : Op1 n C.prog C.w (unaryOp op) p r) : Ev n C σ (eval (.UnaryOp op x pos) C.env) r := .mk <| fun A hid s Q E R S k =>
  wpAny_UnaryOp (h1.run A hid s _ E R S fun a h' tk k1 va => h3.run A hid _ _ E a R va fun v h3 tk3 k3 v3 => k v h3 tk3 (k1.trans k3) v3)
theorem Ev.cmp {l r' : Expr} {op : CmpOp} {pos : Pos} (h1 : Ev n C σ (eval l C.env) p) (h2 : Ev n C σ (eval r' C.env) q) (h3 : Op2 n C.prog C.w (compareOp op) p q r) (hm : behindInMarks op r' = false := by rfl) : Ev n C σ (eval (.Compare l [op] [r'] pos) C.env) r := .mk <| fun A hid s Q E R S k =>
  wpAny_Compare1 (h1.run A hid s _ E R S fun a h' tk k1 va => h2.run A hid _ _ E R (S.keeps k1) fun b h'' tk' k2 vb => h3.run A hid _ _ E a b R ((S.keeps k1).keeps k2).side (va.keeps k2) vb fun v h3 tk3 k3 v3 => k v h3 tk3 ((k1.trans k2).trans k3) v3) hm
/-- a test by a value's truth -/
theorem Et.plain {e : Expr} {b : Bool} (h1 : Ev n C σ (eval e C.env) p) (h2 : Tr n C.prog C.w p b) (he : isTrue e C.env (eval e C.env) = (do let v ← (eval e C.env); standAt e.pos; holding [v] (truthy v)) := by rfl) : Et n C σ (isTrue e C.env (eval e C.env)) b := .mk <| fun A hid s Q E R S k =>
  isTrue_plain (h1.run A hid s _ E R S fun a h' tk k1 va => h2.run A hid _ _ E a R va fun h'' tk' k2 => k h'' tk' (k1.trans k2)) he
theorem Et.cmp {l r' : Expr} {op : CmpOp} {pos : Pos} {whole : Sem Value} {b : Bool} (h1 : Ev n C σ (eval l C.env) p) (h2 : Ev n C σ (eval r' C.env) q) (h3 : Op2 n C.prog C.w (compareOp op) p q (.bool b)) (hm : behindInMarks op r' = false := by rfl) : Et n C σ (isTrue (.Compare l [op] [r'] pos) C.env whole) b := .mk <| fun A hid s Q E R S k =>
  wpAny_isTrue_Compare1 (h1.run A hid s _ E R S fun a h' tk k1 va => h2.run A hid _ _ E R (S.keeps k1) fun b' h'' tk' k2 vb => h3.run A hid _ _ E a b' R ((S.keeps k1).keeps k2).side (va.keeps k2) vb fun v h3 tk3 k3 v3 => by
    cases v3
    exact wpAny_truthy_bool (k h3 tk3 ((k1.trans k2).trans k3))) hm
theorem Et.not {x : Expr} {pos : Pos} {whole : Sem Value} {b : Bool} (h : Et n C σ (isTrue x C.env (eval x C.env)) b) : Et n C σ (isTrue (.UnaryOp .Not x pos) C.env whole) (!b) := .mk <| fun A hid s Q E R S k =>
  wpAny_isTrue_Not (h.run A hid s _ E R S k)
theorem Ev.ifexp {test body orelse : Expr} {pos : Pos} {b : Bool} (h : Et n C σ (isTrue test C.env (eval test C.env)) b) (h1 : b = true → Ev n C σ (eval body C.env) p) (h2 : b = false → Ev n C σ (eval orelse C.env) p) : Ev n C σ (eval (.IfExp test body orelse pos) C.env) p := .mk <| fun A hid s Q E R S k =>
  wpAny_IfExp (h.run A hid s _ E R S fun h' tk k1 => by
    cases b with
    | true => exact (h1 rfl).run A hid _ _ E R (S.keeps k1) fun v h'' tk' k2 => k v h'' tk' (k1.trans k2)
    | false => exact (h2 rfl).run A hid _ _ E R (S.keeps k1) fun v h'' tk' k2 => k v h'' tk' (k1.trans k2))
end
section
variable {n : Nat} {prog : Program} {w : World} {a b : Int} {x y : Str} {c d : Bool}
theorem Op2.add_int : Op2 n prog w (binaryOp .Add) (.int a) (.int b) (.int (a + b)) := .mk <| fun A hid s Q E u v R _ h1 h2 k => by
  obtain ⟨t, rfl⟩ := h1; obtain ⟨t', rfl⟩ := h2
  with_reducible refine PyProof.Rows.add_int ?_
  exact (k _ _ _ (Keeps.refl _) ⟨_, rfl⟩)
theorem Op2.sub_int : Op2 n prog w (binaryOp .Sub) (.int a) (.int b) (.int (a - b)) := .mk <| fun A hid s Q E u v R _ h1 h2 k => by
  obtain ⟨t, rfl⟩ := h1; obtain ⟨t', rfl⟩ := h2
  with_reducible refine PyProof.Rows.sub_int ?_
  exact (k _ _ _ (Keeps.refl _) ⟨_, rfl⟩)
theorem Op2.or_int : Op2 n prog w (binaryOp .BitOr) (.int a) (.int b) (.int (Builtin.bitOr a b)) := .mk <| fun A hid s Q E u v R _ h1 h2 k => by
  obtain ⟨t, rfl⟩ := h1; obtain ⟨t', rfl⟩ := h2
  with_reducible refine PyProof.Rows.or_int ?_
  exact (k _ _ _ (Keeps.refl _) ⟨_, rfl⟩)
theorem Op2.and_int : Op2 n prog w (binaryOp .BitAnd) (.int a) (.int b) (.int (Builtin.bitAnd a b)) := .mk <| fun A hid s Q E u v R _ h1 h2 k => by
  obtain ⟨t, rfl⟩ := h1; obtain ⟨t', rfl⟩ := h2
  with_reducible refine PyProof.Rows.and_int ?_
  exact (k _ _ _ (Keeps.refl _) ⟨_, rfl⟩)
theorem Op2.mod_int (hb : b ≠ 0) : Op2 n prog w (binaryOp .Mod) (.int a) (.int b) (.int (a.fmod b)) := .mk <| fun A hid s Q E u v R _ h1 h2 k => by
  obtain ⟨t, rfl⟩ := h1; obtain ⟨t', rfl⟩ := h2
  with_reducible refine PyProof.Rows.mod_int' hb ?_
  exact (k _ _ _ (Keeps.refl _) ⟨_, rfl⟩)
theorem Op2.div_int (hb : b ≠ 0) (hp : Builtin.divisionGoesByPylong a b = false) : Op2 n prog w (binaryOp .FloorDiv) (.int a) (.int b) (.int (a.fdiv b)) := .mk <| fun A hid s Q E u v R _ h1 h2 k => by
  obtain ⟨t, rfl⟩ := h1; obtain ⟨t', rfl⟩ := h2
  with_reducible refine PyProof.Rows.floordiv_int hb ?_ (.inl hp)
  exact (k _ _ _ (Keeps.refl _) ⟨_, rfl⟩)
theorem Op2.pow_int (hn : 0 ≤ b) (hsz : (Builtin.Int.intBits a : Int) * b ≤ 2 ^ 27) : Op2 n prog w (binaryOp .Pow) (.int a) (.int b) (.int (a ^ b.toNat)) := .mk <| fun A hid s Q E u v R _ h1 h2 k => by
  obtain ⟨t, rfl⟩ := h1; obtain ⟨t', rfl⟩ := h2
  with_reducible refine PyProof.Rows.pow_int hn hsz ?_
  exact (k _ _ _ (Keeps.refl _) ⟨_, rfl⟩)
theorem Op2.shl_int (hn : 0 ≤ b) (hn2 : b ≤ 1000000) (ha : a.natAbs < 2 ^ 64) : Op2 n prog w (binaryOp .LShift) (.int a) (.int b) (.int (a * 2 ^ b.toNat)) := .mk <| fun A hid s Q E u v R _ h1 h2 k => by
  obtain ⟨t, rfl⟩ := h1; obtain ⟨t', rfl⟩ := h2
  with_reducible refine PyProof.Rows.lshift_int_small hn hn2 ha ?_
  exact (k _ _ _ (Keeps.refl _) ⟨_, rfl⟩)
theorem Op2.shr_int (hn : 0 ≤ b) : Op2 n prog w (binaryOp .RShift) (.int a) (.int b) (.int (a.fdiv (2 ^ b.toNat))) := .mk <| fun A hid s Q E u v R _ h1 h2 k => by
  obtain ⟨t, rfl⟩ := h1; obtain ⟨t', rfl⟩ := h2
  with_reducible refine PyProof.Rows.rshift_int hn ?_
  exact (k _ _ _ (Keeps.refl _) ⟨_, rfl⟩)
theorem Op1.inv_int : Op1 n prog w (unaryOp .Invert) (.int a) (.int (Builtin.bitNot a)) := .mk <| fun A hid s Q E u R h1 k => by
  obtain ⟨t, rfl⟩ := h1
  with_reducible refine PyProof.Rows.invert_int ?_
  exact (k _ _ _ (Keeps.refl _) ⟨_, rfl⟩)
theorem Op2.iadd_int : Op2 n prog w (inplaceOp .Add) (.int a) (.int b) (.int (a + b)) := .mk <| fun A hid s Q E u v R _ h1 h2 k => by
  obtain ⟨t, rfl⟩ := h1; obtain ⟨t', rfl⟩ := h2
  with_reducible refine PyProof.Rows.iadd_int ?_
  exact (k _ _ _ (Keeps.refl _) ⟨_, rfl⟩)
theorem Op2.ior_int : Op2 n prog w (inplaceOp .BitOr) (.int a) (.int b) (.int (Builtin.bitOr a b)) := .mk <| fun A hid s Q E u v R _ h1 h2 k => by
  obtain ⟨t, rfl⟩ := h1; obtain ⟨t', rfl⟩ := h2
  with_reducible refine PyProof.Rows.ior_int ?_
  exact (k _ _ _ (Keeps.refl _) ⟨_, rfl⟩)
theorem Op2.ixor_int : Op2 n prog w (inplaceOp .BitXor) (.int a) (.int b) (.int (Builtin.bitXor a b)) := .mk <| fun A hid s Q E u v R _ h1 h2 k => by
  obtain ⟨t, rfl⟩ := h1; obtain ⟨t', rfl⟩ := h2
  with_reducible refine PyProof.Rows.ixor_int ?_
  exact (k _ _ _ (Keeps.refl _) ⟨_, rfl⟩)
theorem Op2.idiv_int (hb : b ≠ 0) (hp : Builtin.divisionGoesByPylong a b = false) : Op2 n prog w (inplaceOp .FloorDiv) (.int a) (.int b) (.int (a.fdiv b)) := .mk <| fun A hid s Q E u v R _ h1 h2 k => by
  obtain ⟨t, rfl⟩ := h1; obtain ⟨t', rfl⟩ := h2
  with_reducible refine PyProof.Rows.ifloordiv_int hb ?_ (.inl hp)
  exact (k _ _ _ (Keeps.refl _) ⟨_, rfl⟩)
theorem Op2.iadd_str (hsz : x.length + y.length ≤ sizeLine) : Op2 n prog w (inplaceOp .Add) (.str x) (.str y) (.str (x ++ y)) := .mk <| fun A hid s Q E u v R _ h1 h2 k => by
  obtain ⟨t, rfl⟩ := h1; obtain ⟨t', rfl⟩ := h2
  with_reducible refine PyProof.Rows.iadd_str ?_ hsz
  exact (fun t'' tk => k _ _ _ (Keeps.refl _) ⟨_, rfl⟩)
theorem Op2.eq_int : Op2 n prog w (compareOp .Eq) (.int a) (.int b) (.bool (a == b)) := .mk <| fun A hid s Q E u v R _ h1 h2 k => by
  obtain ⟨t, rfl⟩ := h1; obtain ⟨t', rfl⟩ := h2
  with_reducible refine PyProof.Rows.eq_int ?_
  exact (k _ s.heap s.toks (Keeps.refl _) rfl)
theorem Op2.lt_int : Op2 n prog w (compareOp .Lt) (.int a) (.int b) (.bool (decide (a < b))) := .mk <| fun A hid s Q E u v R _ h1 h2 k => by
  obtain ⟨t, rfl⟩ := h1; obtain ⟨t', rfl⟩ := h2
  with_reducible refine PyProof.Rows.lt_int ?_
  exact (k _ s.heap s.toks (Keeps.refl _) rfl)
theorem Op2.gt_int : Op2 n prog w (compareOp .Gt) (.int a) (.int b) (.bool (decide (b < a))) := .mk <| fun A hid s Q E u v R _ h1 h2 k => by
  obtain ⟨t, rfl⟩ := h1; obtain ⟨t', rfl⟩ := h2
  with_reducible refine PyProof.Rows.gt_int ?_
  exact (k _ s.heap s.toks (Keeps.refl _) rfl)
theorem Op2.le_int : Op2 n prog w (compareOp .LtE) (.int a) (.int b) (.bool (decide (a ≤ b))) := .mk <| fun A hid s Q E u v R _ h1 h2 k => by
  obtain ⟨t, rfl⟩ := h1; obtain ⟨t', rfl⟩ := h2
  with_reducible refine PyProof.Rows.le_int ?_
  exact (k _ s.heap s.toks (Keeps.refl _) rfl)
theorem Op2.ne_str : Op2 n prog w (compareOp .NotEq) (.str x) (.str y) (.bool (x != y)) := .mk <| fun A hid s Q E u v R _ h1 h2 k => by
  obtain ⟨t, rfl⟩ := h1; obtain ⟨t', rfl⟩ := h2
  with_reducible refine PyProof.Rows.ne_str ?_
  exact (k _ s.heap s.toks (Keeps.refl _) rfl)
theorem Op2.le_str : Op2 n prog w (compareOp .LtE) (.str x) (.str y) (.bool (!decide (y.cps.toList < x.cps.toList))) := .mk <| fun A hid s Q E u v R _ h1 h2 k => by
  obtain ⟨t, rfl⟩ := h1; obtain ⟨t', rfl⟩ := h2
  with_reducible refine PySem.P.le_str ?_
  exact (k _ s.heap s.toks (Keeps.refl _) rfl)
theorem Op2.in_str : Op2 n prog w (compareOp .In) (.str y) (.str x) (.bool (!(Builtin.Str.occurrences x y 0 x.length 1).isEmpty)) := .mk <| fun A hid s Q E u v R _ h1 h2 k => by
  obtain ⟨t, rfl⟩ := h1; obtain ⟨t', rfl⟩ := h2
  with_reducible refine PyProof.Rows.in_str ?_
  exact (k _ s.heap s.toks (Keeps.refl _) rfl)
theorem Op2.eq_bool : Op2 n prog w (compareOp .Eq) (.bool c) (.bool d) (.bool (c == d)) := .mk <| fun A hid s Q E u v R _ h1 h2 k => by
  cases h1; cases h2
  with_reducible refine PyProof.Rows.eq_bool ?_
  exact (k _ s.heap s.toks (Keeps.refl _) rfl)
theorem Op2.ne_bool : Op2 n prog w (compareOp .NotEq) (.bool c) (.bool d) (.bool (c != d)) := .mk <| fun A hid s Q E u v R _ h1 h2 k => by
  cases h1; cases h2
  with_reducible refine PyProof.Rows.ne_bool ?_
  exact (k _ s.heap s.toks (Keeps.refl _) rfl)
theorem Tr.int : Tr n prog w (.int a) (a != 0) := .mk <| fun A hid s Q E u R h1 k => by
  obtain ⟨t, rfl⟩ := h1
  with_reducible refine PyProof.Rows.truthy_int ?_
  exact (k s.heap s.toks (Keeps.refl _))
theorem Tr.bool : Tr n prog w (.bool c) c := .mk <| fun A hid s Q E u R h1 k => by
  cases h1
  with_reducible refine wpAny_truthy_bool ?_
  exact (k s.heap s.toks (Keeps.refl _))
theorem Op2.isNot_none {p : PV} {b : Bool} (h : ∀ hid hh v, VR hid hh p v → (!(v == Value.none)) = b) : Op2 n prog w (compareOp .IsNot) p .none (.bool b) := .mk <| fun A hid s Q E u v R _ h1 h2 k => by
  cases h2
  with_reducible refine PySem.isNot_none ?_
  exact (by rw [h _ _ _ h1]; exact k _ s.heap s.toks (Keeps.refl _) rfl)
end
end Mine
-- Ex
namespace Mine
open PySem PySem.Calls PyProof.Rows PySem.W
/-- fields objects and lists, tuples in sight stand as they were -/
def Calm (hid : List Addr) (h h' : Heap) : Prop := ∀ b o, h.get? b = some o → ((∃ vs, o.data = .fields vs) ∨ ((∃ xs n, o.data = .seq xs n) ∧ b ∉ hid)) → h'.get? b = some o
structure Grow (hid : List Addr) (h : Heap) (hid' : List Addr) (h' : Heap) : Prop where
  calm : Calm hid h h'
  more : ∀ a ∈ hid, a ∈ hid'
  new : ∀ a ∈ hid', (∃ o, h.get? a = some o) → a ∈ hid
  live : ∀ a, (∃ o, h.get? a = some o) → ∃ o, h'.get? a = some o
theorem Grow.keeps {hid : List Addr} {h h' : Heap} (k : Keeps h h') : Grow hid h hid h' := ⟨fun b o e _ => k b o e, fun _ x => x, fun _ x _ => x, fun a ⟨o, e⟩ => ⟨o, k a o e⟩⟩
theorem Grow.refl {hid : List Addr} {h : Heap} : Grow hid h hid h := .keeps (.refl h)
theorem Grow.trans {a b c : List Addr} {h h' h'' : Heap} (x : Grow a h b h') (y : Grow b h' c h'') : Grow a h c h'' :=
  ⟨fun p o e q => y.calm p o (x.calm p o e q) (q.imp id fun ⟨u, n⟩ => ⟨u, fun m => n (x.new p m ⟨o, e⟩)⟩), fun p q => y.more p (x.more p q),
    fun p q e => x.new p (y.new p q (x.live p e)) e, fun p e => y.live p (x.live p e)⟩
theorem Grow.stays {a b : List Addr} {h h' : Heap} (x : Grow a h b h') : Stays a h h' := fun p o e u n => x.calm p o e (.inr ⟨u, n⟩)
theorem VR.grow {a b : List Addr} {h h' : Heap} (x : Grow a h b h') {p : PV} {v : Value} (r : VR a h p v) : VR b h' p v :=
  VR.stays (hid := b) (fun p o e u n => x.calm p o e (.inr ⟨u, fun m => n (x.more p m)⟩)) (VR.sub (fun p q e => x.new p q e) r)
theorem VRs.grow {a b : List Addr} {h h' : Heap} (x : Grow a h b h') {p : List PV} {v : List Value} (r : VRs a h p v) : VRs b h' p v :=
  VRs.stays (hid := b) (fun p o e u n => x.calm p o e (.inr ⟨u, fun m => n (x.more p m)⟩)) (VRs.sub (fun p q e => x.new p q e) r)
inductive Out where
  | next (σ : List Slot)
  | brk (σ : List Slot)
  | ret (p : PV)
def OutIs (C : Cx) (hid : List Addr) : Out → Flow → Heap → Prop
  | .next σ, f, h => f = .next ∧ St C hid σ h
  | .brk σ, f, h => f = .brk ∧ St C hid σ h
  | .ret p, f, h => ∃ v, f = .ret v ∧ Keeps C.h₀ h ∧ VR C.inh h p v
structure Ex (n : Nat) (C : Cx) (σ : List Slot) (t : Sem Flow) (o : Out) : Prop where
  run : ∀ (A : Around) (hid : List Addr) (s : Shared) (Q : Flow → Shared → Prop) (E : Value → Shared → Prop), Room n A → St C hid σ s.heap →
    (∀ f hid' h' tk, Grow hid s.heap hid' h' → OutIs C hid' o f h' → Q f { s with heap := h', toks := tk }) → wpAny (model C.prog C.w) A t Q E s
theorem IsCell_data {h : Heap} {c : Addr} {v : Option Value} {o : Obj} (x : h.IsCell c v) (e : h.get? c = some o) : o.data = .cell v := by
  obtain ⟨o', e', d⟩ := x
  rw [e] at e'; cases e'; exact d
theorem Ns_data {h : Heap} {a : Addr} {m : Str → Option Value} {o : Obj} (x : h.Ns a m) (e : h.get? a = some o) : ∃ es n, o.data = .dict es n := by
  obtain ⟨o', es, n, e', d, _⟩ := x
  rw [e] at e'; cases e'; exact ⟨es, n, d⟩
section
variable {n : Nat} {C : Cx} {σ : List Slot} {hid : List Addr} {h h' : Heap}
theorem set_at {i j : Nat} {s t : Slot} (e : (σ.set i s)[j]? = some t) : (i = j ∧ t = s) ∨ (i ≠ j ∧ σ[j]? = some t) := by
  rw [List.getElem?_set] at e
  split at e
  · rename_i q
    split at e
    · cases e; exact .inl ⟨q, rfl⟩
    · cases e
  · exact .inr ⟨by assumption, e⟩
/-- how Has fares when one thing that holds no list turns -/
theorem Has.other {env : Env} {x : Str} {k : NameKind} {v : Value} {a : Addr} (H : Has env h x k v) (sb : ∀ b, b ≠ a → ∀ o, h.get? b = some o → h'.get? b = some o)
    (h1 : ∀ m, h.Ns env.locals m → env.locals ≠ a) (h2 : ∀ c v, env.cells.lookup x = some c → h.IsCell c v → c ≠ a) : Has env h' x k v := by
  cases k <;> simp only [Has] at H ⊢
  case «local» =>
    obtain ⟨m, hm, hv⟩ := H
    obtain ⟨o, es, ep, e, r⟩ := id hm
    exact ⟨m, ⟨o, es, ep, sb _ (h1 m hm) o e, r⟩, hv⟩
  all_goals
    obtain ⟨c, hc, hv⟩ := H
    obtain ⟨o, e, d⟩ := id hv
    exact ⟨c, hc, o, sb _ (h2 c _ hc hv) o e, d⟩
theorem apart_of (S : St C hid σ h) {σ' : List Slot} (back : ∀ (j : Nat) y k xs, C.nm[j]? = some (y, k) → σ'[j]? = some (.own xs) → ∃ ys l, σ[j]? = some (.own ys) ∧ Has C.env h y k (.ref l) ∧ Has C.env h' y k (.ref l)) :
    ∀ (i j : Nat) x k y k' xs ys l, C.nm[i]? = some (x, k) → C.nm[j]? = some (y, k') → σ'[i]? = some (.own xs) → σ'[j]? = some (.own ys) → Has C.env h' x k (.ref l) → Has C.env h' y k' (.ref l) → i = j := by
  intro i j x k y k' xs ys l e1 e2 e3 e4 a b
  obtain ⟨_, l1, f1, a1, a2⟩ := back i x k xs e1 e3
  obtain ⟨_, l2, f2, b1, b2⟩ := back j y k' ys e2 e4
  have q1 := a2.same a
  have q2 := b2.same b
  cases q1; cases q2
  exact S.apart i j x k y k' _ _ l e1 e2 f1 f2 a1 b1
/-- a local name takes a value -/
theorem St.storeLocal (O : C.Ok) (S : St C hid σ h) {i : Nat} {x : Str} {p : PV} {v : Value} {m : Str → Option Value} (e1 : C.nm[i]? = some (x, .local)) (hm : h.Ns C.env.locals m)
    (hn : h'.Ns C.env.locals (fun y => if y = x then some v else m y)) (sb : Heap.SameBut C.env.locals h h') (vr : VR hid h p v) : St C hid (σ.set i (.val p)) h' ∧ Grow hid h hid h' := by
  have D : ∀ b o, h.get? b = some o → (∀ es n, o.data ≠ .dict es n) → h'.get? b = some o := fun b o e q => by
    by_cases hb : b = C.env.locals
    · subst hb; obtain ⟨es, n, d⟩ := Ns_data hm e; exact absurd d (q es n)
    · rw [sb.2 b hb]; exact e
  have DL : ∀ b vs n, h.get? b = some (LObj vs n) → h'.get? b = some (LObj vs n) := fun b vs n e => D b _ e (fun es n q => by cases q)
  have st : Stays hid h h' := fun b o e ⟨xs, n, d⟩ _ => D b o e (fun es n q => by rw [d] at q; cases q)
  have other : ∀ (j : Nat) y k w, C.nm[j]? = some (y, k) → i ≠ j → Has C.env h y k w → Has C.env h' y k w := fun j y k w ej ij H => by
    have hxy : y ≠ x := fun q => ij (by subst q; exact at_once O.once e1 ej)
    cases k <;> simp only [Has] at H ⊢
    case «local» =>
      obtain ⟨m', hm', hv⟩ := H
      rw [Ns_same hm' hm] at hv
      exact ⟨_, hn, by simp only [hxy, if_false]; exact hv⟩
    all_goals
      obtain ⟨c, hc, o, e, d⟩ := H
      exact ⟨c, hc, o, D c o e (fun es n q => by rw [d] at q; cases q), d⟩
  have own : ∀ (j : Nat) y k xs, C.nm[j]? = some (y, k) → (σ.set i (.val p))[j]? = some (.own xs) → ∃ l vs n, Has C.env h y k (.ref l) ∧ Has C.env h' y k (.ref l) ∧ σ[j]? = some (.own xs) ∧ l ∈ hid ∧ C.h₀.objs.size ≤ l ∧ h.get? l = some (LObj vs n) ∧ VRs hid h xs vs := fun j y k xs ej es => by
    rcases set_at es with ⟨_, q⟩ | ⟨ij, q⟩
    · cases q
    · obtain ⟨l, vs, n, a, b, c, d, f⟩ := S.owns j y k xs ej q
      exact ⟨l, vs, n, a, other j y k _ ej ij a, q, b, c, d, f⟩
  refine ⟨{ gl := S.gl, keep := fun b o e => ?_, sub := S.sub, isl := fun a ha => let ⟨vs, n, e⟩ := S.isl a ha; ⟨vs, n, DL a vs n e⟩, loc := ⟨_, hn⟩, up := S.up, vals := ?_, owns := ?_, apart := ?_, cells := ?_ }, ?_⟩
  · have := Heap.lt_size e
    rw [sb.2 b (Nat.ne_of_lt (Nat.lt_of_lt_of_le this S.up))]
    exact S.keep b o e
  · intro j y k q ej es
    rcases set_at es with ⟨ij, f⟩ | ⟨ij, f⟩
    · subst ij; cases f
      rw [e1] at ej; cases ej
      exact ⟨v, ⟨_, hn, by simp⟩, VR.stays st vr⟩
    · obtain ⟨u, a, b⟩ := S.vals j y k q ej f
      exact ⟨u, other j y k u ej ij a, VR.stays st b⟩
  · intro j y k xs ej es
    obtain ⟨l, vs, n, a, a', _, b, c, d, f⟩ := own j y k xs ej es
    exact ⟨l, vs, n, a', b, c, DL _ _ _ d, VRs.stays st f⟩
  · exact apart_of S fun j y k xs ej es => let ⟨l, vs, n, a, a', q, _⟩ := own j y k xs ej es; ⟨xs, l, q, a, a'⟩
  · intro j y ej
    obtain ⟨c, w, hc, o, e, d⟩ := S.cells j y ej
    exact ⟨c, w, hc, o, D c o e (fun es n q => by rw [d] at q; cases q), d⟩
  · refine ⟨fun b o e q => D b o e ?_, fun _ x => x, fun _ x _ => x, fun b ⟨o, e⟩ => ?_⟩
    · rcases q with ⟨vs, d⟩ | ⟨⟨xs, n, d⟩, _⟩ <;> (intro es n q; rw [d] at q; cases q)
    · by_cases hb : b = C.env.locals
      · subst hb; obtain ⟨o', _, _, e', _⟩ := hn; exact ⟨o', e'⟩
      · rw [sb.2 b hb]; exact ⟨o, e⟩
/-- a cell name takes a value -/
theorem St.storeCell (O : C.Ok) (S : St C hid σ h) {i : Nat} {x : Str} {c : Addr} {p : PV} {v : Value} {v₀ : Option Value} (e1 : C.nm[i]? = some (x, .cell)) (hc : C.env.cells.lookup x = some c) (hc0 : h.IsCell c v₀)
    (hn : h'.IsCell c (some v)) (sb : Heap.SameBut c h h') (vr : VR hid h p v) (up : C.h₀.objs.size ≤ c) (inj : ∀ (j : Nat) y k, C.nm[j]? = some (y, k) → C.env.cells.lookup y = some c → y = x) :
    St C hid (σ.set i (.val p)) h' ∧ Grow hid h hid h' := by
  have D : ∀ b o, h.get? b = some o → (∀ v, o.data ≠ .cell v) → h'.get? b = some o := fun b o e q => by
    by_cases hb : b = c
    · subst hb; exact absurd (IsCell_data hc0 e) (q _)
    · rw [sb.2 b hb]; exact e
  have DL : ∀ b vs n, h.get? b = some (LObj vs n) → h'.get? b = some (LObj vs n) := fun b vs n e => D b _ e (fun v q => by cases q)
  have st : Stays hid h h' := fun b o e ⟨xs, n, d⟩ _ => D b o e (fun v q => by rw [d] at q; cases q)
  have other : ∀ (j : Nat) y k w, C.nm[j]? = some (y, k) → i ≠ j → Has C.env h y k w → Has C.env h' y k w := fun j y k w ej ij H => by
    have hxy : y ≠ x := fun q => ij (by subst q; exact at_once O.once e1 ej)
    cases k <;> simp only [Has] at H ⊢
    case «local» =>
      obtain ⟨m', ⟨o, es, ep, e, d, r⟩, hv⟩ := H
      exact ⟨m', ⟨o, es, ep, D _ o e (fun v q => by rw [d] at q; cases q), d, r⟩, hv⟩
    all_goals
      obtain ⟨c', hc', o, e, d⟩ := H
      have : c' ≠ c := fun q => hxy (inj j y _ ej (by rw [← q]; exact hc'))
      exact ⟨c', hc', o, by rw [sb.2 c' this]; exact e, d⟩
  have own : ∀ (j : Nat) y k xs, C.nm[j]? = some (y, k) → (σ.set i (.val p))[j]? = some (.own xs) → ∃ l vs n, Has C.env h y k (.ref l) ∧ Has C.env h' y k (.ref l) ∧ σ[j]? = some (.own xs) ∧ l ∈ hid ∧ C.h₀.objs.size ≤ l ∧ h.get? l = some (LObj vs n) ∧ VRs hid h xs vs := fun j y k xs ej es => by
    rcases set_at es with ⟨_, q⟩ | ⟨ij, q⟩
    · cases q
    · obtain ⟨l, vs, n, a, b, c, d, f⟩ := S.owns j y k xs ej q
      exact ⟨l, vs, n, a, other j y k _ ej ij a, q, b, c, d, f⟩
  refine ⟨{ gl := S.gl, keep := fun b o e => ?_, sub := S.sub, isl := fun a ha => let ⟨vs, n, e⟩ := S.isl a ha; ⟨vs, n, DL a vs n e⟩, loc := ?_, up := S.up, vals := ?_, owns := ?_, apart := ?_, cells := ?_ }, ?_⟩
  · have := Heap.lt_size e
    rw [sb.2 b (Nat.ne_of_lt (Nat.lt_of_lt_of_le this up))]
    exact S.keep b o e
  · obtain ⟨m, o, es, ep, e, d, r⟩ := S.loc
    exact ⟨m, o, es, ep, D _ o e (fun v q => by rw [d] at q; cases q), d, r⟩
  · intro j y k q ej es
    rcases set_at es with ⟨ij, f⟩ | ⟨ij, f⟩
    · subst ij; cases f
      rw [e1] at ej; cases ej
      exact ⟨v, ⟨c, hc, hn⟩, VR.stays st vr⟩
    · obtain ⟨u, a, b⟩ := S.vals j y k q ej f
      exact ⟨u, other j y k u ej ij a, VR.stays st b⟩
  · intro j y k xs ej es
    obtain ⟨l, vs, n, a, a', _, b, c, d, f⟩ := own j y k xs ej es
    exact ⟨l, vs, n, a', b, c, DL _ _ _ d, VRs.stays st f⟩
  · exact apart_of S fun j y k xs ej es => let ⟨l, vs, n, a, a', q, _⟩ := own j y k xs ej es; ⟨xs, l, q, a, a'⟩
  · intro j y ej
    obtain ⟨c', w, hc', o, e, d⟩ := S.cells j y ej
    by_cases q : c' = c
    · subst q; exact ⟨c', _, hc', hn⟩
    · exact ⟨c', w, hc', o, by rw [sb.2 c' q]; exact e, d⟩
  · refine ⟨fun b o e q => D b o e ?_, fun _ x => x, fun _ x _ => x, fun b ⟨o, e⟩ => ?_⟩
    · rcases q with ⟨vs, d⟩ | ⟨⟨xs, n, d⟩, _⟩ <;> (intro v q; rw [d] at q; cases q)
    · by_cases hb : b = c
      · subst hb; obtain ⟨o', e', _⟩ := hn; exact ⟨o', e'⟩
      · rw [sb.2 b hb]; exact ⟨o, e⟩
/-- an object of fields (an iterator) turns, others may come -/
theorem St.fields (S : St C hid σ h) {a : Addr} (hf : ∀ o, h.get? a = some o → ∃ vs, o.data = .fields vs) (up : C.h₀.get? a = none) (sb : ∀ b o, b ≠ a → h.get? b = some o → h'.get? b = some o) : St C hid σ h' := by
  have D : ∀ b o, h.get? b = some o → (∀ vs, o.data ≠ .fields vs) → h'.get? b = some o := fun b o e q => by
    by_cases hb : b = a
    · subst hb; obtain ⟨vs, d⟩ := hf o e; exact absurd d (q vs)
    · exact sb b o hb e
  have DL : ∀ b vs n, h.get? b = some (LObj vs n) → h'.get? b = some (LObj vs n) := fun b vs n e => D b _ e (fun v q => by cases q)
  have st : Stays hid h h' := fun b o e ⟨xs, n, d⟩ _ => D b o e (fun v q => by rw [d] at q; cases q)
  have other : ∀ y k w, Has C.env h y k w → Has C.env h' y k w := fun y k w H => by
    cases k <;> simp only [Has] at H ⊢
    case «local» =>
      obtain ⟨m', ⟨o, es, ep, e, d, r⟩, hv⟩ := H
      exact ⟨m', ⟨o, es, ep, D _ o e (fun v q => by rw [d] at q; cases q), d, r⟩, hv⟩
    all_goals
      obtain ⟨c', hc', o, e, d⟩ := H
      exact ⟨c', hc', o, D _ o e (fun v q => by rw [d] at q; cases q), d⟩
  refine { gl := S.gl, keep := fun b o e => ?_, sub := S.sub, isl := fun a ha => let ⟨vs, n, e⟩ := S.isl a ha; ⟨vs, n, DL a vs n e⟩, loc := ?_, up := S.up, vals := ?_, owns := ?_, apart := ?_, cells := ?_ }
  · exact sb b o (fun q => by rw [q, up] at e; cases e) (S.keep b o e)
  · obtain ⟨m, o, es, ep, e, d, r⟩ := S.loc
    exact ⟨m, o, es, ep, D _ o e (fun v q => by rw [d] at q; cases q), d, r⟩
  · intro j y k q ej es
    obtain ⟨u, a, b⟩ := S.vals j y k q ej es
    exact ⟨u, other y k u a, VR.stays st b⟩
  · intro j y k xs ej es
    obtain ⟨l, vs, n, a, b, c, d, f⟩ := S.owns j y k xs ej es
    exact ⟨l, vs, n, other y k _ a, b, c, DL _ _ _ d, VRs.stays st f⟩
  · exact apart_of S fun j y k xs ej es => let ⟨l, vs, n, a, _⟩ := S.owns j y k xs ej es; ⟨xs, l, es, a, other y k _ a⟩
  · intro j y ej
    obtain ⟨c', w, hc', o, e, d⟩ := S.cells j y ej
    exact ⟨c', w, hc', o, D _ o e (fun v q => by rw [d] at q; cases q), d⟩
/-- a list of the frame's own takes other items -/
theorem St.turnOwn (O : C.Ok) (S : St C hid σ h) {i : Nat} {x : Str} {k : NameKind} {xs ys : List PV} {l : Addr} {us : List Value} {m : Nat} (e1 : C.nm[i]? = some (x, k)) (e2 : σ[i]? = some (.own xs)) (H : Has C.env h x k (.ref l))
    (ho : h'.get? l = some (LObj us m)) (sb : Heap.SameBut l h h') (vr : VRs hid h ys us) : St C hid (σ.set i (.own ys)) h' ∧ Grow hid h hid h' := by
  obtain ⟨l', vs, n', H', hl, up, hlo, _⟩ := S.owns i x k xs e1 e2
  have q := H.same H'
  cases q
  have D : ∀ b o, h.get? b = some o → (∀ vs n, o.data ≠ .seq vs n) → h'.get? b = some o := fun b o e q => by
    by_cases hb : b = l
    · subst hb; rw [hlo] at e; cases e; exact absurd rfl (q _ _)
    · rw [sb.2 b hb]; exact e
  have st : Stays hid h h' := fun b o e _ nb => by rw [sb.2 b (fun q => nb (q ▸ hl))]; exact e
  have other : ∀ y k w, Has C.env h y k w → Has C.env h' y k w := fun y k w H => by
    cases k <;> simp only [Has] at H ⊢
    case «local» =>
      obtain ⟨m', ⟨o, es, ep, e, d, r⟩, hv⟩ := H
      exact ⟨m', ⟨o, es, ep, D _ o e (fun v n q => by rw [d] at q; cases q), d, r⟩, hv⟩
    all_goals
      obtain ⟨c', hc', o, e, d⟩ := H
      exact ⟨c', hc', o, D _ o e (fun v n q => by rw [d] at q; cases q), d⟩
  refine ⟨{ gl := S.gl, keep := fun b o e => ?_, sub := S.sub, isl := fun a ha => ?_, loc := ?_, up := S.up, vals := ?_, owns := ?_, apart := ?_, cells := ?_ }, ?_⟩
  · have := Heap.lt_size e
    rw [sb.2 b (Nat.ne_of_lt (Nat.lt_of_lt_of_le this up))]
    exact S.keep b o e
  · by_cases q : a = l
    · subst q; exact ⟨us, m, ho⟩
    · obtain ⟨vs, n, e⟩ := S.isl a ha
      exact ⟨vs, n, by rw [sb.2 a q]; exact e⟩
  · obtain ⟨m, o, es, ep, e, d, r⟩ := S.loc
    exact ⟨m, o, es, ep, D _ o e (fun v n q => by rw [d] at q; cases q), d, r⟩
  · intro j y k q ej es
    rcases set_at es with ⟨ij, f⟩ | ⟨ij, f⟩
    · cases f
    · obtain ⟨u, a, b⟩ := S.vals j y k q ej f
      exact ⟨u, other y k u a, VR.stays st b⟩
  · intro j y k' zs ej es
    rcases set_at es with ⟨ij, f⟩ | ⟨ij, f⟩
    · subst ij; cases f
      rw [e1] at ej; cases ej
      exact ⟨l, us, m, other _ _ _ H, hl, up, ho, VRs.stays st vr⟩
    · obtain ⟨l2, vs2, n2, a, b, c, d, g⟩ := S.owns j y k' zs ej f
      have : l2 ≠ l := fun q => by
        subst q
        exact ij (S.apart i j x k y k' _ _ l2 e1 ej e2 f H a)
      exact ⟨l2, vs2, n2, other _ _ _ a, b, c, by rw [sb.2 l2 this]; exact d, VRs.stays st g⟩
  · exact apart_of S fun j y k' zs ej es => by
      rcases set_at es with ⟨ij, f⟩ | ⟨ij, f⟩
      · subst ij
        rw [e1] at ej; cases ej
        exact ⟨xs, l, e2, H, other _ _ _ H⟩
      · obtain ⟨l2, vs2, n2, a, _⟩ := S.owns j y k' zs ej f
        exact ⟨zs, l2, f, a, other _ _ _ a⟩
  · intro j y ej
    obtain ⟨c', w, hc', o, e, d⟩ := S.cells j y ej
    exact ⟨c', w, hc', o, D _ o e (fun v n q => by rw [d] at q; cases q), d⟩
  · refine ⟨fun b o e q => ?_, fun _ x => x, fun _ x _ => x, fun b ⟨o, e⟩ => ?_⟩
    · rcases q with ⟨vs, d⟩ | ⟨⟨xs, n, d⟩, nb⟩
      · exact D b o e (fun v n q => by rw [d] at q; cases q)
      · exact st b o e ⟨xs, n, d⟩ nb
    · by_cases hb : b = l
      · subst hb; exact ⟨_, ho⟩
      · rw [sb.2 b hb]; exact ⟨o, e⟩
end
end Mine
-- Ex2
namespace Mine
open PySem PySem.Calls PyProof.Rows PySem.W
section
variable {n : Nat} {C : Cx} {σ : List Slot} {p q r : PV} {o : Out}
theorem Ex.nil : Ex n C σ (execs [] C.env) (.next σ) := .mk <| fun A hid s Q E R S k => wpAny_execs_nil (k _ hid s.heap s.toks .refl ⟨rfl, S⟩)
theorem Ex.cons {σ' : List Slot} {st : Stmt} {rest : List Stmt} (h1 : Ex n C σ (exec st C.env) (.next σ')) (h2 : Ex n C σ' (execs rest C.env) o) : Ex n C σ (execs (st :: rest) C.env) o := .mk <| fun A hid s Q E R S k =>
  wpAny_execs_cons (h1.run A hid s _ E R S fun f hid' h' tk g ⟨e, S'⟩ => by
    subst e
    exact h2.run A hid' _ Q E R S' fun f' hid'' h'' tk' g' oi => k f' hid'' h'' tk' (g.trans g') oi)
theorem Ex.stop {st : Stmt} {rest : List Stmt} (h1 : Ex n C σ (exec st C.env) o) (ho : ∀ σ', o ≠ .next σ') : Ex n C σ (execs (st :: rest) C.env) o := .mk <| fun A hid s Q E R S k =>
  wpAny_execs_cons (h1.run A hid s _ E R S fun f hid' h' tk g oi => by
    cases o with
    | next σ' => exact absurd rfl (ho σ')
    | brk σ' => obtain ⟨e, S'⟩ := id oi; subst e; exact k _ hid' h' tk g oi
    | ret p => obtain ⟨v, e, S'⟩ := id oi; subst e; exact k _ hid' h' tk g oi)
/-- a statement that gives what it gives, then the rest -/
theorem Ex.then {st : Stmt} {rest : List Stmt} {o₁ : Out} (h1 : Ex n C σ (exec st C.env) o₁) (h2 : ∀ σ', o₁ = .next σ' → Ex n C σ' (execs rest C.env) o) (h3 : (∀ σ', o₁ ≠ .next σ') → o = o₁) : Ex n C σ (execs (st :: rest) C.env) o := by
  cases o₁ with
  | next σ' => exact Ex.cons h1 (h2 σ' rfl)
  | brk σ' => rw [h3 (fun _ e => by cases e)]; exact Ex.stop h1 (fun _ e => by cases e)
  | ret p => rw [h3 (fun _ e => by cases e)]; exact Ex.stop h1 (fun _ e => by cases e)
theorem Ex.ret {e : Expr} {pos : Pos} (h1 : Ev n C σ (eval e C.env) p) : Ex n C σ (exec (.Return (some e) pos) C.env) (.ret p) := .mk <| fun A hid s Q E R S k =>
  wpAny_Return_some (h1.run A hid s _ E R S fun v h' tk k1 r1 => k _ hid h' tk (.keeps k1) ⟨v, rfl, S.keep.trans k1, r1.less S.sub⟩)
theorem Ex.ite {test : Expr} {body orelse : List Stmt} {pos : Pos} {b : Bool} (h : Et n C σ (isTrue test C.env (eval test C.env)) b) (h1 : b = true → Ex n C σ (execs body C.env) o) (h2 : b = false → Ex n C σ (execs orelse C.env) o) :
    Ex n C σ (exec (.If test body orelse pos) C.env) o := .mk <| fun A hid s Q E R S k =>
  wpAny_If (h.run A hid s _ E R S fun h' tk k1 => by
    cases b with
    | true => exact (h1 rfl).run A hid _ _ E R (S.keeps k1) fun f hid' h'' tk' g oi => k f hid' h'' tk' ((Grow.keeps k1).trans g) oi
    | false => exact (h2 rfl).run A hid _ _ E R (S.keeps k1) fun f hid' h'' tk' g oi => k f hid' h'' tk' ((Grow.keeps k1).trans g) oi)
theorem Ex.assign (O : C.Ok) (i : Nat) {x : Str} {e : Expr} {p' pos : Pos} (e1 : C.nm[i]? = some (x, .local)) (h1 : Ev n C σ (eval e C.env) p) (hs : swapsWith e (some (.Name x p')) pos.line C.env = pure false := by rfl) :
    Ex n C σ (exec (.Assign [.Name x p'] e pos) C.env) (.next (σ.set i (.val p))) := .mk <| fun A hid s Q E R S k =>
  wpAny_Assign_Name (h1.run A hid s _ E R S fun v h' tk k1 r1 => by
    have S1 := S.keeps k1
    obtain ⟨m, hm⟩ := S1.loc
    refine wpAny_storeName_local (O.kindOf e1) hm (fun h2 hn sb => ?_) (by rw [O.kind]; rfl)
    obtain ⟨S2, g⟩ := S1.storeLocal O e1 hm hn sb r1
    exact k _ hid h2 _ ((Grow.keeps k1).trans g) ⟨rfl, S2⟩) hs
/-- the cells that a frame may store into -/
structure Cx.Cells (C : Cx) : Prop where
  up : ∀ (i : Nat) x c, C.nm[i]? = some (x, .cell) → C.env.cells.lookup x = some c → C.h₀.objs.size ≤ c
  inj : ∀ x y c, C.env.cells.lookup x = some c → C.env.cells.lookup y = some c → y = x
theorem Ex.assignC (O : C.Ok) (K : C.Cells) (i : Nat) {x : Str} {e : Expr} {p' pos : Pos} (e1 : C.nm[i]? = some (x, .cell)) (h1 : Ev n C σ (eval e C.env) p) (hs : swapsWith e (some (.Name x p')) pos.line C.env = pure false) :
    Ex n C σ (exec (.Assign [.Name x p'] e pos) C.env) (.next (σ.set i (.val p))) := .mk <| fun A hid s Q E R S k =>
  wpAny_Assign_Name (h1.run A hid s _ E R S fun v h' tk k1 r1 => by
    have S1 := S.keeps k1
    obtain ⟨c, v₀, hc, hc0⟩ := S1.cells i x e1
    refine wpAny_storeName_cell O.kind (O.kindOf e1) hc hc0 fun h2 hn sb => ?_
    obtain ⟨S2, g⟩ := S1.storeCell O e1 hc hc0 hn sb r1 (K.up i x c e1 hc) (fun j y k _ e => K.inj x y c hc e)
    exact k _ hid h2 _ ((Grow.keeps k1).trans g) ⟨rfl, S2⟩) hs
theorem Ex.aug (O : C.Ok) (i : Nat) {x : Str} {op : Operator} {e : Expr} {p' pos : Pos} (e1 : C.nm[i]? = some (x, .local)) (e2 : σ[i]? = some (.val p)) (h1 : Ev n C σ (eval e C.env) q) (h2 : Op2 n C.prog C.w (inplaceOp op) p q r) :
    Ex n C σ (exec (.AugAssign (.Name x p') op e pos) C.env) (.next (σ.set i (.val r))) := .mk <| fun A hid s Q E R S k => by
  obtain ⟨v, H, rv⟩ := S.vals i x _ p e1 e2
  obtain ⟨m, hm, hv⟩ := H
  refine wpAny_AugAssign_Name (wpAny_loadName_local O.kind (O.kindOf e1) hm hv (h1.run A hid _ _ E R S fun u h' tk k1 r1 => h2.run A hid _ _ E v u R (S.keeps k1).side (rv.keeps k1) r1 fun w' h'' tk' k2 r2 => ?_))
  have S1 := S.keeps (k1.trans k2)
  obtain ⟨m, hm⟩ := S1.loc
  refine wpAny_storeName_local (O.kindOf e1) hm (fun h2 hn sb => ?_) (by rw [O.kind]; rfl)
  obtain ⟨S2, g⟩ := S1.storeLocal O e1 hm hn sb r2
  exact k _ hid h2 _ ((Grow.keeps (k1.trans k2)).trans g) ⟨rfl, S2⟩
end
end Mine
-- Ca
namespace Mine
open PySem PySem.Calls PyProof.Rows PySem.W
/-- a list of argument trees -/
structure Els (n : Nat) (C : Cx) (σ : List Slot) (pos : Pos) (es : List Expr) (ps : List PV) : Prop where
  run : ∀ (A : Around) (hid : List Addr) (s : Shared) (Q : List Value → Shared → Prop) (E : Value → Shared → Prop), Room n A → St C hid σ s.heap →
    (∀ vs h' tk, Keeps s.heap h' → VRs hid h' ps vs → Q vs { s with heap := h', toks := tk }) → wpAny (model C.prog C.w) A (spliced (backTo pos (starEach es C.env))) Q E s
def plainArg : Expr → Bool
  | .Starred .. => false
  | _ => true
theorem starEach_plain {e : Expr} {rest : List Expr} {env : Env} (h : plainArg e = true) : starEach (e :: rest) env = (false, eval e env) :: starEach rest env := by
  cases e <;> first | rfl | cases h
section
variable {n : Nat} {C : Cx} {σ : List Slot} {p q r : PV} {ps qs : List PV} {pos : Pos}
theorem Els.nil : Els n C σ pos [] [] := .mk <| fun A hid s Q E R S k => spliced_none (k [] s.heap s.toks (.refl _) .nil)
theorem Els.cons {e : Expr} {es : List Expr} (h1 : Ev n C σ (eval e C.env) p) (h2 : Els n C σ pos es ps) (he : plainArg e = true := by rfl) : Els n C σ pos (e :: es) (p :: ps) := .mk <| fun A hid s Q E R S k =>
  spliced_more (h1.run A hid s _ E R S fun v h' tk k1 r1 => h2.run A hid _ _ E R (S.keeps k1) fun vs h'' tk' k2 r2 => k _ h'' tk' (k1.trans k2) (.cons (r1.keeps k2) r2)) (starEach_plain he)
theorem St.fresh {hid : List Addr} {h : Heap} (S : St C hid σ h) : h.objs.size ∉ hid := fun q => by
  obtain ⟨vs, m, e⟩ := S.isl _ q
  exact absurd (Heap.lt_size e) (Nat.lt_irrefl _)
theorem Ev.tup {es : List Expr} {k : Nat} (h1 : Els n C σ pos es ps) (hz : ps.length ≤ sizeLine := by decide) : Ev n C σ (eval (.Tuple es k pos) C.env) (.tup ps) := .mk <| fun A hid s Q E R S k' =>
  wpAny_Tuple (h1.run A hid s _ E R S fun vs h' tk k1 r1 => ⟨by rw [r1.length]; exact hz, k' _ _ tk (k1.trans (.push _ _)) ⟨_, vs, 0, rfl, (S.keeps k1).fresh, Heap.get?_push_size _ rfl, r1.keeps (.push _ _)⟩⟩)
theorem Ev.lst {es : List Expr} (h1 : Els n C σ pos es ps) (hz : ps.length ≤ sizeLine := by decide) : Ev n C σ (eval (.List es pos) C.env) (.lst ps) := .mk <| fun A hid s Q E R S k' => by
  rw [show eval (.List es pos) C.env = (do standAt pos; newList (← spliced (backTo pos (starEach es C.env)))) from rfl]
  exact wpAny_bind (wpAny_standAt (wpAny_bind (h1.run A hid s _ E R S fun vs h' tk k1 r1 => wpAny_newObj_type (k' _ _ tk (k1.trans (.push _ _)) ⟨_, vs, 0, rfl, (S.keeps k1).fresh, Heap.get?_push_size _ rfl, r1.keeps (.push _ _)⟩)
    (by show vs.toArray.size ≤ sizeLine; rw [List.size_toArray, r1.length]; exact hz))))
/-- a contract: the def at f gives p on ps -/
structure Fn (n : Nat) (prog : Program) (w : World) (mg mb : Str → Option Value) (hb : Heap) (f : Addr) (ps : List PV) (p : PV) : Prop where
  run : ∀ (A : Around) (hid : List Addr) (s : Shared) (Q : Value → Shared → Prop) (E : Value → Shared → Prop) (vs : List Value), Room n A → GL mg mb hb s.heap → (∀ x ∈ hid, ∃ vs n, s.heap.get? x = some (LObj vs n)) → VRs hid s.heap ps vs →
    (∀ v h' tk, Keeps s.heap h' → VR hid h' p v → Q v { s with heap := h', toks := tk }) → wpAny (model prog w) A (call (.ref f) vs) Q E s
abbrev Cx.Fn (n : Nat) (C : Cx) (f : Addr) (ps : List PV) (p : PV) : Prop := Mine.Fn n C.prog C.w C.mg C.mb C.hb f ps p
structure FnAt (mg : Str → Option Value) (hb : Heap) (x : Str) (f : Addr) (params : Arguments) (body : List Stmt) (scope : Scope) : Prop where
  name : mg x = some (.ref f)
  obj : ∃ o pm c doc, hb.get? f = some o ∧ o.data = .func (docDef x params body scope pm c doc) ∧ hb.CodeRec c x
/-- a call of a value that is a def -/
theorem Ev.callF {g : Expr} {e : Expr} {es : List Expr} {f : Addr} {x : Str} {params body scope} (F : FnAt C.mg C.hb x f params body scope) (h0 : Ev n C σ (eval g C.env) (.fn f)) (h1 : Els n C σ pos (e :: es) ps) (h2 : C.Fn n f ps p)
    (hg : eval (.Call g (e :: es) [] pos) C.env = (do callWith pos (← eval g C.env) [] (backTo pos (starEach (e :: es) C.env)) (backToKw pos (keywordEach [] C.env))) := by rfl) (he : plainArg e = true := by rfl) :
    Ev n C σ (eval (.Call g (e :: es) [] pos) C.env) p := .mk <| fun A hid s Q E R S k => by
  rw [hg]
  obtain ⟨o, pm, c, doc, ho, hd, hc⟩ := F.obj
  refine wpAny_bind (h0.run A hid s _ E R S fun v h' tk k1 r1 => ?_)
  cases r1
  exact callWith_def hd (h1.run A hid _ _ E R (S.keeps k1) fun vs h'' tk' k2 r2 => ⟨k2 _ _ (k1 _ _ (S.gl'.top _ _ ho)), h2.run A hid _ _ E vs R ((S.keeps k1).keeps k2).gl' ((S.keeps k1).keeps k2).isl r2 fun v h3 tk3 k3 r3 => k v h3 tk3 ((k1.trans k2).trans k3) r3⟩) (starEach_plain he)
theorem Ev.callF0 {g : Expr} {f : Addr} {x : Str} {params body scope} (F : FnAt C.mg C.hb x f params body scope) (h0 : Ev n C σ (eval g C.env) (.fn f)) (h2 : C.Fn n f [] p)
    (hg : eval (.Call g [] [] pos) C.env = (do callWith pos (← eval g C.env) [] (backTo pos (starEach [] C.env)) (backToKw pos (keywordEach [] C.env))) := by rfl) :
    Ev n C σ (eval (.Call g [] [] pos) C.env) p := .mk <| fun A hid s Q E R S k => by
  rw [hg]
  obtain ⟨o, pm, c, doc, ho, hd, hc⟩ := F.obj
  refine wpAny_bind (h0.run A hid s _ E R S fun v h' tk k1 r1 => ?_)
  cases r1
  exact callWith_function (o := o) (fd := _) (PyProof.Rows.evalArgs_none ⟨⟨k1 _ _ (S.gl'.top _ _ ho), hd⟩, h2.run A hid _ _ E [] R (S.keeps k1).gl' (S.keeps k1).isl .nil fun v h3 tk3 k3 r3 => k v h3 tk3 (k1.trans k3) r3⟩)
/-- a built-in function's call -/
structure Bf (n : Nat) (prog : Program) (w : World) (f : Value) (ps : List PV) (p : PV) : Prop where
  run : ∀ (A : Around) (hid : List Addr) (s : Shared) (Q : Value → Shared → Prop) (E : Value → Shared → Prop) (vs : List Value), Room n A → (∃ mg mb hb, GL mg mb hb s.heap) → (∀ x ∈ hid, ∃ vs n, s.heap.get? x = some (LObj vs n)) → VRs hid s.heap ps vs →
    (∀ v h' tk, Keeps s.heap h' → VR hid h' p v → Q v { s with heap := h', toks := tk }) → wpAny (model prog w) A (call f vs) Q E s
theorem wp_builtinName (O : C.Ok) {A : Around} {hid : List Addr} {s : Shared} {Q : Value → Shared → Prop} {E : Value → Shared → Prop} (S : St C hid σ s.heap) (i : Nat) {x : Str} {v : Value} {pos : Pos} (e1 : C.nm[i]? = some (x, .globalImplicit)) (e2 : C.mg x = Option.none) (e3 : C.mb x = some v) (h1 : (x == ("__debug__" : Str)) = false) (h : Q v s) :
    wpAny (model C.prog C.w) A (eval (.Name x pos) C.env) Q E s :=
  Name_function_global O.kind (O.kindOf e1) (loadGlobal_builtin (by rw [O.glob]; exact S.gl'.g.keeps S.gl'.top) e2 (by rw [O.blt]; exact S.gl'.b.keeps S.gl'.top) e3 h) h1
theorem Ev.callB (O : C.Ok) (i : Nat) {x : Str} {id : String} {p' : Pos} {e : Expr} {es : List Expr} (e1 : C.nm[i]? = some (x, .globalImplicit)) (e2 : C.mg x = Option.none) (e3 : C.mb x = some (.builtin id)) (h1 : Els n C σ pos (e :: es) ps) (h2 : Bf n C.prog C.w (.builtin id) ps p)
    (hd : (x == ("__debug__" : Str)) = false) (he : plainArg e = true := by rfl) (hes : (backTo pos (starEach es C.env)).any (·.1) = false := by rfl) : Ev n C σ (eval (.Call (.Name x p') (e :: es) [] pos) C.env) p := .mk <| fun A hid s Q E R S k =>
  wpAny_bind (m := eval (.Name x p') C.env) (wp_builtinName O S i e1 e2 e3 hd (callWith_builtin1 (h1.run A hid s _ E R S fun vs h' tk k1 r1 => h2.run A hid _ _ E vs R ⟨_, _, _, (S.keeps k1).gl'⟩ (S.keeps k1).isl r1 fun v h3 tk3 k3 r3 => k v h3 tk3 (k1.trans k3) r3) (starEach_plain he) hes))
theorem Ev.callT (O : C.Ok) (i : Nat) {x : Str} {T : String} {p' : Pos} {e : Expr} {es : List Expr} (e1 : C.nm[i]? = some (x, .globalImplicit)) (e2 : C.mg x = Option.none) (e3 : C.mb x = some (.type T)) (h1 : Els n C σ pos (e :: es) ps) (h2 : Bf n C.prog C.w (.type T) ps p)
    (hd : (x == ("__debug__" : Str)) = false) (he : plainArg e = true := by rfl) (hes : (backTo pos (starEach es C.env)).any (·.1) = false := by rfl) : Ev n C σ (eval (.Call (.Name x p') (e :: es) [] pos) C.env) p := .mk <| fun A hid s Q E R S k =>
  wpAny_bind (m := eval (.Name x p') C.env) (wp_builtinName O S i e1 e2 e3 hd (PyProof.Rows.callWith_type1 (h1.run A hid s _ E R S fun vs h' tk k1 r1 => h2.run A hid _ _ E vs R ⟨_, _, _, (S.keeps k1).gl'⟩ (S.keeps k1).isl r1 fun v h3 tk3 k3 r3 => k v h3 tk3 (k1.trans k3) r3) (starEach_plain he) hes))
end
/-- the frame of a def at its start -/
def cxOf (prog : Program) (w : World) (mg mb : Str → Option Value) (hb : Heap) (x : Str) (scope : Scope) (L f : Addr) (cd : Value) (h₀ : Heap) (inh : List Addr) : Cx :=
  { prog, w, mg, mb, hb, env := envOf x scope L f cd, nm := scope.names, h₀, inh }
theorem lookup_zip : ∀ {xs : List Str} {vs : List Value} (_ : xs.Nodup) (i : Nat) {x : Str} {v : Value}, xs[i]? = some x → vs[i]? = some v → (xs.zip vs).reverse.lookup x = some v := by
  intro xs vs hn i x v hx hv
  have mem : (x, v) ∈ xs.zip vs := by
    have : (xs.zip vs)[i]? = some (x, v) := by rw [List.getElem?_zip_eq_some]; exact ⟨hx, hv⟩
    exact List.mem_of_getElem? this
  have nd : ((xs.zip vs).map (·.1)).Nodup := by
    refine List.Nodup.sublist ?_ hn
    clear mem hx hv hn
    induction xs generalizing vs with
    | nil => simp
    | cons a r ih => cases vs with
      | nil => simp
      | cons b t => simp only [List.zip_cons_cons, List.map_cons]; exact (ih (vs := t)).cons_cons a
  have key : ∀ (l : List (Str × Value)), (l.map (·.1)).Nodup → (x, v) ∈ l → l.lookup x = some v := by
    intro l
    induction l with
    | nil => intro _ h; cases h
    | cons a r ih =>
      intro hn hm
      rw [List.map_cons, List.nodup_cons] at hn
      rcases List.mem_cons.mp hm with rfl | q
      · simp [List.lookup_cons]
      · have : (x == a.1) = false := by
          cases z : x == a.1 with
          | false => rfl
          | true => rw [beq_iff_eq] at z; subst z; exact absurd (List.mem_map.mpr ⟨_, q, rfl⟩) hn.1
        obtain ⟨a1, a2⟩ := a
        rw [List.lookup_cons, this]; exact ih hn.2 q
  refine key _ ?_ (List.mem_reverse.mpr mem)
  rw [List.map_reverse]; exact (List.reverse_perm _).symm.nodup nd
section
variable {n : Nat} {prog : Program} {w : World} {mg mb : Str → Option Value} {hb : Heap} {f : Addr} {ps : List PV} {p : PV} {x : Str} {params : Arguments} {body : List Stmt} {scope : Scope}
theorem Fn.intro (F : FnAt mg hb x f params body scope) (xs : List Str) (rest : Nat)
    (hk : scope.kind = .function) (hco : scope.isCoroutine = false) (hgen : scope.isGenerator = false) (hnd : (scope.names.map (·.1)).Nodup) (hcell : ∀ y ∈ scope.names, y.2 ≠ .cell)
    (hxs : ∀ (i : Nat) y, xs[i]? = some y → scope.names[i]? = some (y, .local)) (hxn : xs.Nodup) (hlen : ps.length = xs.length)
    (hbind : ∀ vs pm c doc, vs.length = xs.length → bindArgs (docDef x params body scope pm c doc) ⟨vs, []⟩ = pure (xs.zip vs))
    (hbody : ∀ L cd h₀ inh, (cxOf prog w mg mb hb x scope L f cd h₀ inh).Ok → Ex n (cxOf prog w mg mb hb x scope L f cd h₀ inh) (ps.map .val ++ List.replicate rest .unset) (execs body (envOf x scope L f cd)) (.ret p)) :
    Fn (n + 1) prog w mg mb hb f ps p := .mk <| fun A hid s Q E vs R G I V k => by
  obtain ⟨o, pm, c, doc, ho, hd, hc⟩ := F.obj
  have hvl : vs.length = xs.length := by rw [V.length, hlen]
  refine wpAny_call (call_plain R.depth (G.top _ _ ho) hd (G.nolimit.keeps G.top) (hc.keeps G.top) (hbind vs pm c doc hvl) (fun y hy => ?_) (fun h₁ F₁ => ?_) hco hgen hk hcell)
  · obtain ⟨i, hi⟩ := List.getElem?_of_mem hy
    rw [List.getElem?_zip_eq_some] at hi
    exact lookup_at hnd (hxs i y.1 hi.1)
  · have k1 : Keeps s.heap h₁ := F₁.keep
    have O : (cxOf prog w mg mb hb x scope s.heap.objs.size f c s.heap hid).Ok := ⟨hk, rfl, rfl, rfl, hnd, fun a ha => let ⟨vs, n, e⟩ := I a ha; ⟨_, e⟩⟩
    have S : St (cxOf prog w mg mb hb x scope s.heap.objs.size f c s.heap hid) hid (ps.map .val ++ List.replicate rest .unset) h₁ := by
      have at_ : ∀ (i : Nat) q, (ps.map Slot.val ++ List.replicate rest Slot.unset)[i]? = some q → ∃ r, ps[i]? = some r ∧ q = .val r ∨ q = .unset := fun i q e => by
        rw [List.getElem?_append] at e
        split at e
        · rw [List.getElem?_map] at e
          obtain ⟨r, e1, e2⟩ := Option.map_eq_some_iff.mp e
          exact ⟨r, .inl ⟨e1, e2.symm⟩⟩
        · have := List.mem_of_getElem? e
          exact ⟨.none, .inr (List.eq_of_mem_replicate this)⟩
      refine { gl := G, keep := k1, sub := fun _ h => h, isl := fun a ha => let ⟨vs, n, e⟩ := I a ha; ⟨vs, n, k1 _ _ e⟩, loc := ⟨_, F₁.ns⟩, up := Nat.le_refl _, vals := ?_, owns := ?_, apart := ?_, cells := ?_ }
      · intro i y kd q e1 e2
        obtain ⟨r, ⟨er, eq⟩ | eq⟩ := at_ i _ e2
        · cases eq
          obtain ⟨v, hv, hr⟩ := V.get i er
          have hi : i < xs.length := by
            have := (List.getElem?_eq_some_iff.mp er).1
            omega
          have hy := hxs i xs[i] (List.getElem?_eq_getElem hi)
          have e1' : scope.names[i]? = some (y, kd) := e1
          rw [e1'] at hy
          cases hy
          exact ⟨v, ⟨_, F₁.ns, lookup_zip hxn i (List.getElem?_eq_getElem hi) hv⟩, hr.keeps k1⟩
        · cases eq
      · intro i y kd q e1 e2
        obtain ⟨r, ⟨er, eq⟩ | eq⟩ := at_ i _ e2 <;> cases eq
      · intro i j y kd y' kd' q q' l e1 e1' e2
        obtain ⟨r, ⟨er, eq⟩ | eq⟩ := at_ i _ e2 <;> cases eq
      · intro i y e1
        exact absurd rfl (hcell _ (List.mem_of_getElem? (show scope.names[i]? = _ from e1)))
    refine (hbody _ c s.heap hid O).run _ hid _ _ _ R.deeper S fun fl hid' h' tk g oi => ?_
    obtain ⟨v, rfl, k2, r2⟩ := oi
    exact k v h' tk k2 r2
end
end Mine
-- Lo
namespace Mine
open PySem PySem.Calls PyProof.Rows PySem.W
section
variable {C : Cx} {σ : List Slot} {hid : List Addr} {h h' : Heap}
theorem St.fieldsL (S : St C hid σ h) {wr : List Addr} (hf : ∀ a ∈ wr, ∀ o, h.get? a = some o → ∃ vs, o.data = .fields vs) (up : ∀ a ∈ wr, C.h₀.get? a = none) (sb : ∀ b o, b ∉ wr → h.get? b = some o → h'.get? b = some o) : St C hid σ h' := by
  have D : ∀ b o, h.get? b = some o → (∀ vs, o.data ≠ .fields vs) → h'.get? b = some o := fun b o e q => by
    by_cases hb : b ∈ wr
    · obtain ⟨vs, d⟩ := hf b hb o e; exact absurd d (q vs)
    · exact sb b o hb e
  have DL : ∀ b vs n, h.get? b = some (LObj vs n) → h'.get? b = some (LObj vs n) := fun b vs n e => D b _ e (fun v q => by cases q)
  have st : Stays hid h h' := fun b o e ⟨xs, n, d⟩ _ => D b o e (fun v q => by rw [d] at q; cases q)
  have other : ∀ y k w, Has C.env h y k w → Has C.env h' y k w := fun y k w H => by
    cases k <;> simp only [Has] at H ⊢
    case «local» =>
      obtain ⟨m', ⟨o, es, ep, e, d, r⟩, hv⟩ := H
      exact ⟨m', ⟨o, es, ep, D _ o e (fun v q => by rw [d] at q; cases q), d, r⟩, hv⟩
    all_goals
      obtain ⟨c', hc', o, e, d⟩ := H
      exact ⟨c', hc', o, D _ o e (fun v q => by rw [d] at q; cases q), d⟩
  refine { gl := S.gl, keep := fun b o e => ?_, sub := S.sub, isl := fun a ha => let ⟨vs, n, e⟩ := S.isl a ha; ⟨vs, n, DL a vs n e⟩, loc := ?_, up := S.up, vals := ?_, owns := ?_, apart := ?_, cells := ?_ }
  · exact sb b o (fun q => by rw [up b q] at e; cases e) (S.keep b o e)
  · obtain ⟨m, o, es, ep, e, d, r⟩ := S.loc
    exact ⟨m, o, es, ep, D _ o e (fun v q => by rw [d] at q; cases q), d, r⟩
  · intro j y k q ej es
    obtain ⟨u, a, b⟩ := S.vals j y k q ej es
    exact ⟨u, other y k u a, VR.stays st b⟩
  · intro j y k xs ej es
    obtain ⟨l, vs, n, a, b, c, d, f⟩ := S.owns j y k xs ej es
    exact ⟨l, vs, n, other y k _ a, b, c, DL _ _ _ d, VRs.stays st f⟩
  · exact apart_of S fun j y k xs ej es => let ⟨l, vs, n, a, _⟩ := S.owns j y k xs ej es; ⟨xs, l, es, a, other y k _ a⟩
  · intro j y ej
    obtain ⟨c', w, hc', o, e, d⟩ := S.cells j y ej
    exact ⟨c', w, hc', o, D _ o e (fun v q => by rw [d] at q; cases q), d⟩
end
/-- an iterator at I that hands out ps; it writes only the objects wr; hi: the heap where it was made -/
structure ItAt (n : Nat) (prog : Program) (w : World) (hi : Heap) (hid : List Addr) (target : Expr) (I : Addr) (wr : List Addr) (ps : List PV) (J : Nat → Heap → Prop) : Prop where
  frame : ∀ i h h', J i h → (∀ b ∈ wr, ∀ o, h.get? b = some o → h'.get? b = some o) → J i h'
  fld : ∀ i h, J i h → ∀ b ∈ wr, ∃ o vs, h.get? b = some o ∧ o.data = .fields vs
  item : ∀ (A : Around) (i : Nat) (s : Shared) (Q : Value → Shared → Prop) (E : Value → Shared → Prop) (p : PV) (hid' : List Addr), Room n A → J i s.heap → Stays hid hi s.heap → ps[i]? = some p →
    (∀ a ∈ hid', ∃ o, s.heap.get? a = some o) → (∀ a ∈ hid, a ∈ hid') → (∀ a ∈ hid', (∃ o, hi.get? a = some o) → a ∈ hid) →
    (∀ v h' tk, J (i + 1) h' → VR hid' h' p v → (∀ b o, b ∉ wr → s.heap.get? b = some o → h'.get? b = some o) → (∀ b ∈ wr, ∃ o vs, h'.get? b = some o ∧ o.data = .fields vs) → Q v { s with heap := h', toks := tk }) →
    wpAny (model prog w) A (pyNext (.ref I)) (fun r s₁ => match r with | some v => wpAny (model prog w) A (letOwnedTupleGo target (.ref I) v) (fun _ s₂ => Q v s₂) E s₁ | none => False) E s
  done : ∀ (A : Around) (s : Shared) (Q : Shared → Prop) (E : Value → Shared → Prop), Room n A → J ps.length s.heap → Stays hid hi s.heap →
    (∀ h' tk, (∀ b o, b ∉ wr → s.heap.get? b = some o → h'.get? b = some o) → Q { s with heap := h', toks := tk }) →
    wpAny (model prog w) A (pyNext (.ref I)) (fun r s₁ => match r with | none => Q s₁ | some _ => False) E s
structure EvIter (n : Nat) (C : Cx) (σ : List Slot) (target iter : Expr) (ps : List PV) : Prop where
  run : ∀ (A : Around) (hid : List Addr) (s : Shared) (Q : Value → Shared → Prop) (E : Value → Shared → Prop), Room n A → St C hid σ s.heap →
    (∀ I wr J h' tk, Keeps s.heap h' → ItAt n C.prog C.w h' hid target I wr ps J → J 0 h' → (∀ b ∈ wr, s.heap.get? b = none) → Q (.ref I) { s with heap := h', toks := tk }) →
    wpAny (model C.prog C.w) A (eval iter C.env) (fun x s₁ => wpAny (model C.prog C.w) A (pyIter x) Q E s₁) E s
structure Asg (n : Nat) (C : Cx) (σ : List Slot) (target : Expr) (p : PV) (σ' : List Slot) : Prop where
  run : ∀ (A : Around) (hid : List Addr) (s : Shared) (Q : Unit → Shared → Prop) (E : Value → Shared → Prop) (v : Value), Room n A → St C hid σ s.heap → VR hid s.heap p v →
    (∀ hid' h' tk, Grow hid s.heap hid' h' → St C hid' σ' h' → Q () { s with heap := h', toks := tk }) → wpAny (model C.prog C.w) A (assign target C.env v) Q E s
inductive Loop (n : Nat) (C : Cx) (target : Expr) (body orelse : List Stmt) : List PV → List Slot → Out → Prop where
  | done {σ o} : Ex n C σ (execs orelse C.env) o → Loop n C target body orelse [] σ o
  | next {p ps σ σ₁ σ₂ o} : Asg n C σ target p σ₁ → Ex n C σ₁ (execs body C.env) (.next σ₂) → Loop n C target body orelse ps σ₂ o → Loop n C target body orelse (p :: ps) σ o
  | brk {p ps σ σ₁ σ₂} : Asg n C σ target p σ₁ → Ex n C σ₁ (execs body C.env) (.brk σ₂) → Loop n C target body orelse (p :: ps) σ (.next σ₂)
  | ret {p ps σ σ₁ q} : Asg n C σ target p σ₁ → Ex n C σ₁ (execs body C.env) (.ret q) → Loop n C target body orelse (p :: ps) σ (.ret q)
section
variable {n : Nat} {C : Cx} {σ : List Slot} {p : PV} {ps : List PV} {o : Out}
theorem Asg.name (O : C.Ok) (i : Nat) {x : Str} {pos : Pos} (e1 : C.nm[i]? = some (x, .local)) : Asg n C σ (.Name x pos) p (σ.set i (.val p)) := .mk <| fun A hid s Q E v R S r k => by
  obtain ⟨m, hm⟩ := S.loc
  refine wpAny_assign_Name (wpAny_storeName_local (O.kindOf e1) hm (fun h2 hn sb => ?_) (by rw [O.kind]; rfl))
  obtain ⟨S2, g⟩ := S.storeLocal O e1 hm hn sb r
  exact k hid h2 _ g S2
theorem drop_at {α : Type} {l : List α} {i : Nat} {x : α} {r : List α} (e : l.drop i = x :: r) : l[i]? = some x ∧ l.drop (i + 1) = r := by
  constructor
  · have : (l.drop i)[0]? = some x := by rw [e]; rfl
    rwa [List.getElem?_drop, Nat.add_zero] at this
  · rw [← List.drop_drop, e]; rfl
theorem drop_end {α : Type} {l : List α} {i : Nat} (hi : i ≤ l.length) (e : l.drop i = []) : i = l.length := by
  have := congrArg List.length e
  rw [List.length_drop, List.length_nil] at this
  omega
theorem Ex.for {target iter : Expr} {body orelse : List Stmt} {pos : Pos} (h1 : EvIter n C σ target iter ps) (h2 : Loop n C target body orelse ps σ o)
    (hs : ∀ x, foldedSetIterable iter C.env x = pure x := by intro _; rfl) : Ex n C σ (exec (.For target iter body orelse pos) C.env) o := .mk <| fun A hid s Q E R S k => by
  refine wpAny_For (h1.run A hid s _ E R S fun I wr J hi tk k1 it j0 fresh => ?_) hs
  refine codeAny_forLoop_any (fun k s' => ∃ i rest σ' hid', k = rest.length ∧ i ≤ ps.length ∧ ps.drop i = rest ∧ s' = { s with heap := s'.heap, toks := s'.toks } ∧ J i s'.heap ∧ St C hid' σ' s'.heap ∧ Grow hid s.heap hid' s'.heap ∧
    (∀ a ∈ hid', (∃ o, hi.get? a = some o) → a ∈ hid) ∧ Stays hid hi s'.heap ∧ (∀ a, (∃ o, hi.get? a = some o) → ∃ o, s'.heap.get? a = some o) ∧ Loop n C target body orelse rest σ' o) ?_ ps.length
    ⟨0, ps, σ, hid, rfl, Nat.zero_le _, rfl, rfl, j0, S.keeps k1, .keeps k1, fun a ha _ => ha, fun _ _ e _ _ => e, fun _ e => e, h2⟩
  rintro kk s' ⟨i, rest, σ', hid', rfl, hle, hdrop, hsh, hJ, hS, hG, hnew, hst, hlive, hL⟩
  have upW : ∀ b ∈ wr, C.h₀.get? b = none := fun b hb => by
    cases q : C.h₀.get? b with
    | none => rfl
    | some ob => have := S.keep b ob q; rw [fresh b hb] at this; cases this
  have fW : ∀ a ∈ wr, ∀ o, s'.heap.get? a = some o → ∃ vs, o.data = .fields vs := fun a ha o e => by
    obtain ⟨o', vs, e', d⟩ := it.fld i _ hJ a ha
    rw [e] at e'; cases e'; exact ⟨vs, d⟩
  -- what pyNext leaves
  have after : ∀ h', (∀ b o, b ∉ wr → s'.heap.get? b = some o → h'.get? b = some o) → St C hid' σ' h' ∧ Grow hid s.heap hid' h' ∧ Stays hid hi h' := fun h' sb => by
    refine ⟨hS.fieldsL fW upW sb, ⟨fun b o e q => ?_, hG.more, hG.new, fun a e => ?_⟩, fun b o e u nb => ?_⟩
    · exact sb b o (fun m => by rw [fresh b m] at e; cases e) (hG.calm b o e q)
    · obtain ⟨o', e'⟩ := hG.live a e
      exact ⟨o', sb a o' (fun m => by obtain ⟨o, e⟩ := e; rw [fresh a m] at e; cases e) e'⟩
    · refine sb b o (fun m => ?_) (hst b o e u nb)
      obtain ⟨vs, d⟩ := fW b m o (hst b o e u nb)
      obtain ⟨xs, n, d'⟩ := u
      rw [d] at d'; cases d'
  cases rest with
  | nil =>
    have hi' := drop_end hle hdrop
    cases hL with
    | done hE =>
      refine wpAny_mono (it.done A s' (fun s₁ => wpAny (model C.prog C.w) A (execs orelse C.env) (fun f s₃ => Q f s₃) (notedBy (model C.prog C.w) A C.env fun e s' => cameBackBy (model C.prog C.w) A C.env E e s') s₁) _ R (hi' ▸ hJ) hst fun h' tk' sb => ?_) (fun r s₁ hr => ?_) fun _ _ x => x
      · obtain ⟨S1, G1, _⟩ := after h' sb
        rw [hsh]
        exact hE.run A hid' _ _ _ R S1 fun f hid'' h'' tk'' g oi => k f hid'' h'' tk'' (G1.trans g) oi
      · cases r with
        | none => exact hr
        | some v => exact hr.elim
  | cons p rest =>
    obtain ⟨hp, hd⟩ := drop_at hdrop
    have hle' : i + 1 ≤ ps.length := (List.getElem?_eq_some_iff.mp hp).1
    have big : ∀ v h' tk', J (i + 1) h' → VR hid' h' p v → (∀ b o, b ∉ wr → s'.heap.get? b = some o → h'.get? b = some o) → (∀ b ∈ wr, ∃ o vs, h'.get? b = some o ∧ o.data = .fields vs) →
        wpAny (model C.prog C.w) A (PySem.assign target C.env v) (fun _ s₂ => wpAny (model C.prog C.w) A (execs body C.env) (fun f s₃ => match f with
            | .next | .cont => ∃ m, m < (p :: rest).length ∧ ∃ i rest σ' hid', m = rest.length ∧ i ≤ ps.length ∧ ps.drop i = rest ∧ s₃ = { s with heap := s₃.heap, toks := s₃.toks } ∧ J i s₃.heap ∧ St C hid' σ' s₃.heap ∧ Grow hid s.heap hid' s₃.heap ∧
    (∀ a ∈ hid', (∃ o, hi.get? a = some o) → a ∈ hid) ∧ Stays hid hi s₃.heap ∧ (∀ a, (∃ o, hi.get? a = some o) → ∃ o, s₃.heap.get? a = some o) ∧ Loop n C target body orelse rest σ' o
            | .brk => Q .next s₃
            | .ret v => Q (.ret v) s₃) (notedBy (model C.prog C.w) A C.env fun e s' => cameBackBy (model C.prog C.w) A C.env E e s') s₂) (notedBy (model C.prog C.w) A C.env fun e s' => cameBackBy (model C.prog C.w) A C.env E e s') { s with heap := h', toks := tk' } := fun v h' tk' j1 r1 sb exf => by
      obtain ⟨S1, G1, st1⟩ := after h' sb
      have lv1 : ∀ a, (∃ o, hi.get? a = some o) → ∃ o, h'.get? a = some o := fun a e => by
        obtain ⟨o', e'⟩ := hlive a e
        by_cases q : a ∈ wr
        · obtain ⟨o, _, e2, _⟩ := exf a q; exact ⟨o, e2⟩
        · exact ⟨o', sb a o' q e'⟩
      -- a further growth keeps the loop's own things
      have on : ∀ hid₂ h₂, Grow hid' h' hid₂ h₂ → J (i + 1) h₂ ∧ (∀ a ∈ hid₂, (∃ o, hi.get? a = some o) → a ∈ hid) ∧ Stays hid hi h₂ ∧ (∀ a, (∃ o, hi.get? a = some o) → ∃ o, h₂.get? a = some o) := fun hid₂ h₂ g => by
        refine ⟨it.frame _ _ _ j1 fun b hb o e => ?_, fun a ha e => hnew a (g.new a ha (lv1 a e)) e, fun b o e u nb => ?_, fun a e => g.live a (lv1 a e)⟩
        · obtain ⟨o', vs, e', d⟩ := exf b hb
          rw [e] at e'; cases e'
          exact g.calm b o e (.inl ⟨vs, d⟩)
        · exact g.calm b o (st1 b o e u nb) (.inr ⟨u, fun m => nb (hnew b m ⟨o, e⟩)⟩)
      cases hL with
      | next hA hB hL' =>
        refine hA.run A hid' _ _ _ v R S1 r1 fun hid₂ h₂ tk₂ g2 S2 => hB.run A hid₂ _ _ _ R S2 fun f hid₃ h₃ tk₃ g3 ⟨ef, S3⟩ => ?_
        subst ef
        obtain ⟨a1, a2, a3, a4⟩ := on hid₃ h₃ (g2.trans g3)
        exact ⟨rest.length, by simp, i + 1, rest, _, hid₃, rfl, hle', hd, rfl, a1, S3, G1.trans (g2.trans g3), a2, a3, a4, hL'⟩
      | brk hA hB =>
        refine hA.run A hid' _ _ _ v R S1 r1 fun hid₂ h₂ tk₂ g2 S2 => hB.run A hid₂ _ _ _ R S2 fun f hid₃ h₃ tk₃ g3 ⟨ef, S3⟩ => ?_
        subst ef
        exact k .next hid₃ h₃ tk₃ (G1.trans (g2.trans g3)) ⟨rfl, S3⟩
      | ret hA hB =>
        refine hA.run A hid' _ _ _ v R S1 r1 fun hid₂ h₂ tk₂ g2 S2 => hB.run A hid₂ _ _ _ R S2 fun f hid₃ h₃ tk₃ g3 oi => ?_
        obtain ⟨u, ef, r⟩ := id oi
        subst ef
        exact k _ hid₃ h₃ tk₃ (G1.trans (g2.trans g3)) oi
    rw [hsh]
    refine wpAny_mono (it.item A i { s with heap := s'.heap, toks := s'.toks } _ _ p hid' R hJ hst hp (fun a ha => let ⟨vs, n, e⟩ := hS.isl a ha; ⟨_, e⟩) hG.more hnew fun v h' tk' j1 r1 sb exf => big v h' tk' j1 r1 sb exf) (fun r s₁ hr => ?_) fun _ _ x => x
    cases r with
    | none => exact hr.elim
    | some v => exact hr
end
end Mine
-- It
namespace Mine
open PySem PySem.Calls PyProof.Rows PySem.W
theorem VRs.later {hid hid' : List Addr} {hi h' : Heap} {ps : List PV} {vs : List Value} (r : VRs hid hi ps vs) (more : ∀ a ∈ hid, a ∈ hid') (new : ∀ a ∈ hid', (∃ o, hi.get? a = some o) → a ∈ hid) (st : Stays hid hi h') : VRs hid' h' ps vs :=
  VRs.stays (hid := hid') (fun b o e u n => st b o e u fun m => n (more b m)) (VRs.sub new r)
theorem VR.later {hid hid' : List Addr} {hi h' : Heap} {p : PV} {v : Value} (r : VR hid hi p v) (more : ∀ a ∈ hid, a ∈ hid') (new : ∀ a ∈ hid', (∃ o, hi.get? a = some o) → a ∈ hid) (st : Stays hid hi h') : VR hid' h' p v :=
  VR.stays (hid := hid') (fun b o e u n => st b o e u fun m => n (more b m)) (VR.sub new r)
abbrev ownedIters : List String := ["enumerate", "zip", "dict_itemiterator", "dict_reverseitemiterator", "odict_iterator", "itertools.zip_longest", "itertools.pairwise"]
theorem letGo_other {prog : Program} {w : World} {A : Around} {E : Value → Shared → Prop} {s : Shared} {I : Addr} {v : Value} {T : String} {target : Expr} {o : Obj} {Q : Unit → Shared → Prop} (ho : s.heap.get? I = some o) (hc : o.cls = .type T)
    (hT : ownedIters.contains T = false) (h : Q () s) : wpAny (model prog w) A (letOwnedTupleGo target (.ref I) v) Q E s := by
  have key : wpAny (model prog w) A (match (Value.ref I, v) with
      | (.ref r, .ref a) => (do
        let o ← load r
        match o.cls, o.data with
        | .type n, .fields vs =>
          if ["enumerate", "zip", "dict_itemiterator", "dict_reverseitemiterator", "odict_iterator", "itertools.zip_longest", "itertools.pairwise"].contains n && vs[0]? == some (rawInt a) then
            rule "for.unpacks-the-owned-tuple"
            updateField r 0 .none
        | _, _ => pure () : Sem Unit)
      | _ => pure ()) Q E s := by
    cases v <;> try exact wpAny_pure h
    refine wpAny_bind (wpAny_load ho ?_)
    obtain ⟨c, d, dt, sl⟩ := o
    dsimp only at hc
    subst hc
    cases dt <;> try exact wpAny_pure h
    dsimp only
    rw [show (["enumerate", "zip", "dict_itemiterator", "dict_reverseitemiterator", "odict_iterator", "itertools.zip_longest", "itertools.pairwise"].contains T) = false from hT]
    exact wpAny_pure h
  cases target <;> first | exact wpAny_pure h | exact key
section
variable {n : Nat} {prog : Program} {w : World} {C : Cx} {σ : List Slot} {ps : List PV}
theorem ItAt.lst {hi : Heap} {hid : List Addr} {target : Expr} {I l : Addr} {vs : List Value} {m : Nat} (hl : hi.get? l = some (LObj vs m)) (nl : l ∉ hid) (hv : VRs hid hi ps vs) :
    ItAt n prog w hi hid target I [I] ps (fun i h => h.IsListIter I l i) where
  frame := fun i h h' ⟨o, ho, r⟩ k => ⟨o, k I (by simp) o ho, r⟩
  fld := fun i h ⟨o, ho, hc, hd⟩ b hb => by rw [List.mem_singleton.mp hb]; exact ⟨o, _, ho, hd⟩
  item := fun A i s Q E p hid' R hJ hst hp ex more new k => by
    have hL : s.heap.IsList l vs.toArray := ⟨_, hst l _ hl ⟨_, _, rfl⟩ nl, rfl, _, rfl⟩
    obtain ⟨v, e, r⟩ := hv.get i hp
    refine wpAny_pyNext_list_item hJ hL (x := v) (by simpa using e) fun h' hit sb => ?_
    obtain ⟨o, ho, hc, hd⟩ := id hit
    refine letGo_other (s := { s with heap := h' }) ho hc (by decide) ?_
    have st' : Stays hid hi h' := fun b o' e' u nb => by
      have q := hst b o' e' u nb
      rw [sb.2 b (fun z => by
        subst z
        obtain ⟨o2, ho2, _, hd2⟩ := hJ
        rw [q] at ho2; cases ho2
        obtain ⟨_, _, d⟩ := u
        rw [hd2] at d; cases d)]
      exact q
    exact k v h' s.toks hit (r.later more new st') (fun b o' nb e' => by rw [sb.2 b (fun z => nb (by simp [z]))]; exact e') (fun b hb => by rw [List.mem_singleton.mp hb]; exact ⟨o, _, ho, hd⟩)
  done := fun A s Q E R hJ hst k => by
    have hL : s.heap.IsList l vs.toArray := ⟨_, hst l _ hl ⟨_, _, rfl⟩ nl, rfl, _, rfl⟩
    exact wpAny_pyNext_list_end R.handled hJ hL (by simp [hv.length]) fun h' sb => k h' s.toks fun b o nb e => sb b o (fun z => nb (by simp [z])) e
theorem ItAt.tup {hi : Heap} {hid : List Addr} {target : Expr} {I l : Addr} {vs : List Value} {m : Nat} (hl : hi.get? l = some (TObj vs m)) (nl : l ∉ hid) (hv : VRs hid hi ps vs) :
    ItAt n prog w hi hid target I [I] ps (fun i h => IsTupIter h I l i) where
  frame := fun i h h' ⟨o, ho, r⟩ k => ⟨o, k I (by simp) o ho, r⟩
  fld := fun i h ⟨o, ho, hc, hd⟩ b hb => by rw [List.mem_singleton.mp hb]; exact ⟨o, _, ho, hd⟩
  item := fun A i s Q E p hid' R hJ hst hp ex more new k => by
    have hL : IsTup s.heap l vs.toArray := ⟨_, hst l _ hl ⟨_, _, rfl⟩ nl, rfl, _, rfl⟩
    obtain ⟨v, e, r⟩ := hv.get i hp
    refine next_tuple_item hJ hL (x := v) (by simpa using e) fun h' hit sb => ?_
    obtain ⟨o, ho, hc, hd⟩ := id hit
    refine letGo_other (s := { s with heap := h' }) ho hc (by decide) ?_
    have st' : Stays hid hi h' := fun b o' e' u nb => by
      have q := hst b o' e' u nb
      rw [sb.2 b (fun z => by
        subst z
        obtain ⟨o2, ho2, _, hd2⟩ := hJ
        rw [q] at ho2; cases ho2
        obtain ⟨_, _, d⟩ := u
        rw [hd2] at d; cases d)]
      exact q
    exact k v h' s.toks hit (r.later more new st') (fun b o' nb e' => by rw [sb.2 b (fun z => nb (by simp [z]))]; exact e') (fun b hb => by rw [List.mem_singleton.mp hb]; exact ⟨o, _, ho, hd⟩)
  done := fun A s Q E R hJ hst k => by
    have hL : IsTup s.heap l vs.toArray := ⟨_, hst l _ hl ⟨_, _, rfl⟩ nl, rfl, _, rfl⟩
    exact next_tuple_end R.handled hJ hL (by simp [hv.length]) fun h' sb => k h' s.toks fun b o nb e => sb b o (fun z => nb (by simp [z])) e
theorem push_none (h : Heap) : h.get? h.objs.size = none := Heap.get?_none_of_le (Nat.le_refl _)
theorem fresh_of {h h' : Heap} (k : Keeps h h') : h.get? h'.objs.size = none := by
  cases q : h.get? h'.objs.size with
  | none => rfl
  | some o => exact absurd (Heap.lt_size (k _ _ q)) (Nat.lt_irrefl _)
theorem EvIter.lst {target iter : Expr} (h1 : Ev n C σ (eval iter C.env) (.lst ps)) : EvIter n C σ target iter ps := .mk <| fun A hid s Q E R S k =>
  h1.run A hid s _ E R S fun v h' tk k1 ⟨l, vs, m, ev, nl, hl, hv⟩ => by
    subst ev
    refine wpAny_pyIter_list ⟨_, hl, rfl, _, rfl⟩ ?_
    exact k _ [h'.objs.size] _ _ tk (k1.trans (.push _ _)) (.lst (Heap.get?_push_of_some _ hl) nl (hv.keeps (.push _ _))) ⟨_, Heap.get?_push_size _ rfl, rfl, rfl⟩ (fun b hb => by rw [List.mem_singleton.mp hb]; exact fresh_of k1)
theorem EvIter.tup {target iter : Expr} (h1 : Ev n C σ (eval iter C.env) (.tup ps)) : EvIter n C σ target iter ps := .mk <| fun A hid s Q E R S k =>
  h1.run A hid s _ E R S fun v h' tk k1 ⟨l, vs, m, ev, nl, hl, hv⟩ => by
    subst ev
    refine iter_tuple ⟨_, hl, rfl, _, rfl⟩ ?_
    exact k _ [h'.objs.size] _ _ tk (k1.trans (.push _ _)) (.tup (Heap.get?_push_of_some _ hl) nl (hv.keeps (.push _ _))) ⟨_, Heap.get?_push_size _ rfl, rfl, rfl⟩ (fun b hb => by rw [List.mem_singleton.mp hb]; exact fresh_of k1)
/-- a text's signs, each a text -/
def signs (x : Str) : List PV := x.cps.toList.map fun c => .str ⟨#[c]⟩
theorem signs_at {x : Str} {i : Nat} {p : PV} (e : (signs x)[i]? = some p) : ∃ c, x.cps[i]? = some c ∧ p = .str ⟨#[c]⟩ := by
  unfold signs at e
  rw [List.getElem?_map] at e
  obtain ⟨c, e1, e2⟩ := Option.map_eq_some_iff.mp e
  exact ⟨c, by simpa using e1, e2.symm⟩
theorem ItAt.ascii {hi : Heap} {hid : List Addr} {target : Expr} {I : Addr} {x : Str} {t : Tok} : ItAt n prog w hi hid target I [I] (signs x) (fun i h => h.IsStrIter I "str_ascii_iterator" x t i) where
  frame := fun i h h' ⟨o, ho, r⟩ k => ⟨o, k I (by simp) o ho, r⟩
  fld := fun i h ⟨o, ho, hc, hd⟩ b hb => by rw [List.mem_singleton.mp hb]; exact ⟨o, _, ho, hd⟩
  item := fun A i s Q E p hid' R hJ hst hp ex more new k => by
    obtain ⟨c, ec, rfl⟩ := signs_at hp
    refine wpAny_pyNext_ascii_item hJ ec fun h' hit sb => ?_
    obtain ⟨o, ho, hc, hd⟩ := id hit
    refine letGo_other (s := { s with heap := h', toks := s.toks + 1 }) ho hc (by decide) ?_
    exact k _ h' _ hit ⟨_, rfl⟩ (fun b o' nb e' => by rw [sb.2 b (fun z => nb (by simp [z]))]; exact e') (fun b hb => by rw [List.mem_singleton.mp hb]; exact ⟨o, _, ho, hd⟩)
  done := fun A s Q E R hJ hst k => wpAny_pyNext_ascii_end R.handled hJ (by simp [signs]) fun h' sb => k h' s.toks fun b o nb e => sb b o (fun z => nb (by simp [z])) e
theorem ItAt.wide {hi : Heap} {hid : List Addr} {target : Expr} {I : Addr} {x : Str} {t : Tok} : ItAt n prog w hi hid target I [I] (signs x) (fun i h => h.IsStrIter I "str_iterator" x t i) where
  frame := fun i h h' ⟨o, ho, r⟩ k => ⟨o, k I (by simp) o ho, r⟩
  fld := fun i h ⟨o, ho, hc, hd⟩ b hb => by rw [List.mem_singleton.mp hb]; exact ⟨o, _, ho, hd⟩
  item := fun A i s Q E p hid' R hJ hst hp ex more new k => by
    obtain ⟨c, ec, rfl⟩ := signs_at hp
    refine wpAny_pyNext_wide_item hJ ec fun h' hit sb => ?_
    obtain ⟨o, ho, hc, hd⟩ := id hit
    refine letGo_other (s := { s with heap := h', toks := s.toks + 1 }) ho hc (by decide) ?_
    exact k _ h' _ hit ⟨_, rfl⟩ (fun b o' nb e' => by rw [sb.2 b (fun z => nb (by simp [z]))]; exact e') (fun b hb => by rw [List.mem_singleton.mp hb]; exact ⟨o, _, ho, hd⟩)
  done := fun A s Q E R hJ hst k => wpAny_pyNext_wide_end R.handled hJ (by simp [signs]) fun h' sb => k h' s.toks fun b o nb e => sb b o (fun z => nb (by simp [z])) e
theorem EvIter.str {target iter : Expr} {x : Str} (h1 : Ev n C σ (eval iter C.env) (.str x)) : EvIter n C σ target iter (signs x) := .mk <| fun A hid s Q E R S k =>
  h1.run A hid s _ E R S fun v h' tk k1 ⟨t, ev⟩ => by
    subst ev
    cases ha : x.cps.all (· < 128) with
    | true =>
      refine wpAny_pyIter_ascii ha ?_
      exact k _ [h'.objs.size] _ _ tk (k1.trans (.push _ _)) .ascii ⟨_, Heap.get?_push_size _ rfl, rfl, rfl⟩ (fun b hb => by rw [List.mem_singleton.mp hb]; exact fresh_of k1)
    | false =>
      refine wpAny_pyIter_wide ha ?_
      exact k _ [h'.objs.size] _ _ tk (k1.trans (.push _ _)) .wide ⟨_, Heap.get?_push_size _ rfl, rfl, rfl⟩ (fun b hb => by rw [List.mem_singleton.mp hb]; exact fresh_of k1)
/-- range(n): the ints from 0 -/
def upto (n : Nat) : List PV := (List.range n).map fun (i : Nat) => .int (i : Int)
theorem upto_at {k i : Nat} {p : PV} (e : (upto k)[i]? = some p) : i < k ∧ p = .int i := by
  unfold upto at e
  rw [List.getElem?_map] at e
  obtain ⟨c, e1, e2⟩ := Option.map_eq_some_iff.mp e
  obtain ⟨hl, he⟩ := List.getElem?_eq_some_iff.mp e1
  rw [List.length_range] at hl
  rw [List.getElem_range] at he
  exact ⟨hl, by rw [← e2, he]⟩
theorem ItAt.range {hi : Heap} {hid : List Addr} {target : Expr} {I : Addr} {k : Nat} : ItAt n prog w hi hid target I [I] (upto k) (fun i h => i ≤ k ∧ IsRangeIter h I i ((k : Int) - i) 1) where
  frame := fun i h h' ⟨a, b⟩ k => ⟨a, k I (by simp) _ b⟩
  fld := fun i h ⟨a, ho⟩ b hb => by rw [List.mem_singleton.mp hb]; exact ⟨_, _, ho, rfl⟩
  item := fun A i s Q E p hid' R hJ hst hp ex more new k' => by
    obtain ⟨lt, rfl⟩ := upto_at hp
    refine wpAny_pyNext_range_item hJ.2 (by omega) fun h' hit sb => ?_
    refine letGo_other (s := { s with heap := h', toks := s.toks + 1 }) hit rfl (by decide) ?_
    have hit' : IsRangeIter h' I ((i + 1 : Nat) : Int) ((k : Int) - ((i + 1 : Nat) : Int)) 1 := by
      have e1 : (i : Int) + 1 = ((i + 1 : Nat) : Int) := by omega
      have e2 : (k : Int) - i - 1 = (k : Int) - ((i + 1 : Nat) : Int) := by omega
      rw [← e2, ← e1]; exact hit
    exact k' _ h' _ ⟨lt, hit'⟩ ⟨_, rfl⟩ (fun b o' nb e' => by rw [sb.2 b (fun z => nb (by simp [z]))]; exact e') (fun b hb => by rw [List.mem_singleton.mp hb]; exact ⟨_, _, hit, rfl⟩)
  done := fun A s Q E R hJ hst k' => wpAny_pyNext_range_end R.handled hJ.2 (by simp [upto]) fun h' sb => k' h' s.toks fun b o nb e => sb b o (fun z => nb (by simp [z])) e
theorem EvIter.range (O : C.Ok) {target : Expr} {x : Str} {p' pos : Pos} {e : Expr} {k : Nat} {z : Int} (i : Nat) (e1 : C.nm[i]? = some (x, .globalImplicit)) (e2 : C.mg x = none) (e3 : C.mb x = some (.type "range")) (h1 : Ev n C σ (eval e C.env) (.int z)) (hz : z = (k : Int)) (hk : k < 1000000)
    (hd : (x == ("__debug__" : Str)) = false) (he : plainArg e = true := by rfl) : EvIter n C σ target (.Call (.Name x p') [e] [] pos) (upto k) := .mk <| fun A hid s Q E R S kk => by
  subst hz
  refine wpAny_bind (m := eval (.Name x p') C.env) (wp_builtinName O S i e1 e2 e3 hd (PyProof.Rows.callWith_type1 ((Els.cons h1 Els.nil he).run A hid s _ E R S fun vs h' tk k1 r1 => ?_) (starEach_plain he) rfl))
  obtain ⟨v, r, rfl, ⟨t, rfl⟩, rfl⟩ := r1
  refine call_range_1 ?_
  have hsz : Builtin.Range.rangeSize 0 (k : Int) 1 = (k : Int) := by
    unfold Builtin.Range.rangeSize
    rw [if_pos (show (1 : Int) > 0 by decide)]
    split <;> omega
  refine wpAny_pyIter_range (a := 0) (b := k) (c := 1) (Heap.get?_push_size _ rfl) ?_ ?_
  · have fit : ∀ z : Int, 0 ≤ z → z < 2000000 → Builtin.Range.rangeFitsLong z = true := fun z h1 h2 => by
      unfold Builtin.Range.rangeFitsLong
      have a1 : -(2 ^ 63) ≤ z := by omega
      have a2 : z < 2 ^ 63 := by omega
      rw [decide_eq_true a1, decide_eq_true a2]; rfl
    unfold Builtin.Range.small
    rw [hsz, fit 0 (by omega) (by omega), fit k (by omega) (by omega), fit 1 (by omega) (by omega), if_pos (show (1 : Int) > 0 by decide), fit _ (by omega) (by omega), Bool.or_true]
    rfl
  · rw [hsz]
    have k2 := (Keeps.push h' { cls := .type "range", data := .fields #[.int 0 tk, .int k t, .int 1 (tk + 1)] }).trans (Keeps.push _ { cls := .type "range_iterator", data := .fields #[rawInt 0, rawInt (k : Int), rawInt 1] })
    refine kk _ [_] _ _ _ (k1.trans k2) .range ⟨Nat.zero_le _, ?_⟩ (fun b hb => by rw [List.mem_singleton.mp hb]; exact fresh_of (k1.trans (Keeps.push _ _)))
    have := Heap.get?_push_size (h'.push { cls := .type "range", data := .fields #[.int 0 tk, .int k t, .int 1 (tk + 1)] }) (o := { cls := .type "range_iterator", data := .fields #[rawInt 0, rawInt (k : Int), rawInt 1] }) rfl
    simpa using this
end
end Mine
-- As
namespace Mine
open PySem PySem.Calls PyProof.Rows PySem.W
section
variable {n : Nat} {C : Cx} {σ : List Slot} {p : PV} {ps : List PV} {b : Bool}
structure AsgAll (n : Nat) (C : Cx) (σ : List Slot) (ts : List Expr) (ps : List PV) (σ' : List Slot) : Prop where
  run : ∀ (A : Around) (hid : List Addr) (s : Shared) (Q : Unit → Shared → Prop) (E : Value → Shared → Prop) (vs : List Value), Room n A → St C hid σ s.heap → VRs hid s.heap ps vs →
    (∀ hid' h' tk, Grow hid s.heap hid' h' → St C hid' σ' h' → Q () { s with heap := h', toks := tk }) → wpAny (model C.prog C.w) A (assignInOrder ((assignEach ts C.env).map (·.2)) vs) Q E s
theorem AsgAll.nil : AsgAll n C σ [] [] σ := .mk <| fun A hid s Q E vs R S r k => by
  cases r
  exact assignInOrder_nil (k hid s.heap s.toks .refl S)
theorem assignEach_plain {e : Expr} {rest : List Expr} {env : Env} (h : plainArg e = true) : assignEach (e :: rest) env = (false, assign e env) :: assignEach rest env := by
  cases e <;> first | rfl | cases h
theorem AsgAll.cons {t : Expr} {ts : List Expr} {σ₁ σ' : List Slot} (h1 : Asg n C σ t p σ₁) (h2 : AsgAll n C σ₁ ts ps σ') (ht : plainArg t = true := by rfl) : AsgAll n C σ (t :: ts) (p :: ps) σ' := .mk <| fun A hid s Q E vs R S r k => by
  obtain ⟨v, rest, rfl, r1, r2⟩ := r
  rw [assignEach_plain ht]
  exact assignInOrder_cons (h1.run A hid s _ E v R S r1 fun hid' h' tk g S' => h2.run A hid' _ Q E rest R S' (r2.grow g) fun hid'' h'' tk' g' S'' => k hid'' h'' tk' (g.trans g') S'')
theorem assignEach_len {env : Env} : ∀ {ts : List Expr}, ts.all plainArg = true → (assignEach ts env).length = ts.length ∧ (assignEach ts env).findIdx? (·.1) = none
  | [], _ => ⟨rfl, rfl⟩
  | t :: ts, h => by
    rw [List.all_cons, Bool.and_eq_true] at h
    obtain ⟨a, b⟩ := assignEach_len (env := env) h.2
    rw [assignEach_plain h.1]
    exact ⟨by rw [List.length_cons, List.length_cons, a], by rw [List.findIdx?_cons]; simp [b]⟩
theorem Asg.tup {ts : List Expr} {k : Nat} {pos : Pos} {σ' : List Slot} (h : AsgAll n C σ ts ps σ') (hl : ts.length = ps.length := by rfl) (ht : ts.all plainArg = true := by rfl) : Asg n C σ (.Tuple ts k pos) (.tup ps) σ' := .mk <| fun A hid s Q E v R S r kk => by
  obtain ⟨l, vs, m, rfl, nl, hl', hv⟩ := r
  obtain ⟨a, b⟩ := assignEach_len (env := C.env) ht
  refine assign_Tuple_tuple (items := vs.toArray) R.handled ⟨_, hl', rfl, _, rfl⟩ (by rw [a, hl, List.size_toArray, hv.length]) b fun h' ext => ?_
  have k1 : Keeps s.heap h' := fun c o e => ext c o (Nat.ne_of_lt (Heap.lt_size e)) e
  exact h.run A hid _ Q E vs R (S.keeps k1) (hv.keeps k1) fun hid' h'' tk g S' => kk hid' h'' tk ((Grow.keeps k1).trans g) S'
/-- a chain of two comparisons -/
theorem Et.chain2 {l r₁ r₂ : Expr} {op₁ op₂ : CmpOp} {pos : Pos} {whole : Sem Value} {p q r : PV} {b₁ b₂ : Bool} (h0 : Ev n C σ (eval l C.env) p) (h1 : Ev n C σ (eval r₁ C.env) q) (h2 : Ev n C σ (eval r₂ C.env) r)
    (c1 : Op2 n C.prog C.w (compareOp op₁) p q (.bool b₁)) (c2 : Op2 n C.prog C.w (compareOp op₂) q r (.bool b₂)) (hm : lastMarks [op₁, op₂] [r₁, r₂] = false := by rfl) :
    Et n C σ (isTrue (.Compare l [op₁, op₂] [r₁, r₂] pos) C.env whole) (b₁ && b₂) := .mk <| fun A hid s Q E R S k => by
  refine isTrue_chain (h0.run A hid s _ E R S fun a h' tk k1 ra => test_link (h1.run A hid _ _ E R (S.keeps k1) fun v1 h2' tk2 k2 r1 => c1.run A hid _ _ E a v1 R ((S.keeps k1).keeps k2).side (ra.keeps k2) r1 fun c h3 tk3 k3 rc => ?_)) hm
  cases rc
  refine wpAny_truthy_bool ?_
  have S3 := ((S.keeps k1).keeps k2).keeps k3
  cases b₁ with
  | false => exact k h3 tk3 ((k1.trans k2).trans k3)
  | true =>
    refine test_last (h2.run A hid _ _ E R S3 fun v2 h4 tk4 k4 r2 => c2.run A hid _ _ E v1 v2 R (S3.keeps k4).side ((r1.keeps k3).keeps k4) r2 fun c' h5 tk5 k5 rc' => ?_)
    cases rc'
    exact wpAny_truthy_bool (k h5 tk5 ((((k1.trans k2).trans k3).trans k4).trans k5))
end
end Mine
-- Pg
namespace Mine
open PySem PySem.Calls PyProof.Rows PySem.W
set_option maxRecDepth 100000
def stmt (i : Nat) : Stmt := PySem.Challenge.pw_wa0046_01.main.body.getD i (.Pass ⟨0, 0, 0, 0⟩)
def fnParams : Stmt → Arguments
  | .FunctionDef _ a _ _ _ _ _ _ _ _ => a
  | _ => ⟨[], [], none, [], [], none, []⟩
def fnBody : Stmt → List Stmt
  | .FunctionDef _ _ b _ _ _ _ _ _ _ => b
  | _ => []
def fnScope : Stmt → Scope
  | .FunctionDef _ _ _ _ _ _ s _ _ _ => s
  | _ => PySem.Challenge.pw_wa0046_01.main.scope
abbrev DefAt (mg : Str → Option Value) (hb : Heap) (x : Str) (f : Addr) (i : Nat) : Prop := FnAt mg hb x f (fnParams (stmt i)) (fnBody (stmt i)) (fnScope (stmt i))
def runsL : List (Int × Int × Int) := [(173, 173, 0), (847, 847, 0), (6150, 6150, 0), (6155, 6157, 0), (8203, 8205, 0), (8288, 8288, 0), (65024, 65039, 0), (65279, 65279, 0), (64976, 65007, 1), (131070, 131071, 1), (65529, 65533, 2), (12272, 12283, 3), (832, 833, 4), (8206, 8207, 4), (8234, 8238, 4), (8298, 8303, 4), (917505, 917505, 5), (917536, 917631, 5)]
def runsP : List PV := runsL.map fun r => .tup [.int r.1, .int r.2.1, .int r.2.2]
def isK (a b : NameKind) : Bool := match a, b with
  | .local, .local => true | .cell, .cell => true | .globalImplicit, .globalImplicit => true | _, _ => false
/-- the looks at a def that a call of it wants -/
def defOk (st : Stmt) (xs : List Str) : Bool := match st with
  | .FunctionDef _ ⟨[], as, none, [], [], none, []⟩ _ _ _ _ sc _ _ _ =>
    (match sc.kind with | .function => true | _ => false) && !sc.isCoroutine && !sc.isGenerator && decide (sc.names.map (·.1)).Nodup && (sc.names.all fun y => match y.2 with | .cell => false | _ => true) &&
    decide (as.map (·.arg) = xs) && decide (sc.names.take xs.length = xs.map fun x => (x, NameKind.local)) && decide xs.Nodup
  | _ => false
section
variable {prog : Program} {w : World} {mg mb : Str → Option Value} {hb : Heap}
theorem defOk_parts {st : Stmt} {xs : List Str} (ok : defOk st xs = true) : (fnScope st).kind = .function ∧ (fnScope st).isCoroutine = false ∧ (fnScope st).isGenerator = false ∧ ((fnScope st).names.map (·.1)).Nodup ∧
    (∀ y ∈ (fnScope st).names, y.2 ≠ .cell) ∧ (∀ (i : Nat) y, xs[i]? = some y → (fnScope st).names[i]? = some (y, .local)) ∧ xs.Nodup := by
  unfold defOk at ok
  split at ok
  · rename_i sc _ _ _
    simp only [Bool.and_eq_true, decide_eq_true_eq, Bool.not_eq_true'] at ok
    obtain ⟨⟨⟨⟨⟨⟨⟨k1, k2⟩, k3⟩, k4⟩, k5⟩, k6⟩, k7⟩, k8⟩ := ok
    show sc.kind = .function ∧ sc.isCoroutine = false ∧ sc.isGenerator = false ∧ (sc.names.map (·.1)).Nodup ∧ (∀ y ∈ sc.names, y.2 ≠ .cell) ∧ (∀ (i : Nat) y, xs[i]? = some y → sc.names[i]? = some (y, .local)) ∧ xs.Nodup
    refine ⟨by (split at k1 <;> first | assumption | cases k1), k2, k3, k4, fun y hy e => ?_, fun i y e => ?_, k8⟩
    · have := List.all_eq_true.mp k5 y hy
      rw [e] at this; cases this
    · have hl := (List.getElem?_eq_some_iff.mp e).1
      have : (sc.names.take xs.length)[i]? = some (y, .local) := by rw [k7, List.getElem?_map, e]; rfl
      rw [List.getElem?_take_of_lt hl] at this
      exact this
  · cases ok
theorem Fn.of {i : Nat} {x : Str} {f : Addr} {n : Nat} {ps : List PV} {p : PV} (F : DefAt mg hb x f i) (xs : List Str) (rest : Nat) (ok : defOk (stmt i) xs = true) (hlen : ps.length = xs.length)
    (hbind : ∀ vs pm c doc, vs.length = xs.length → bindArgs (docDef x (fnParams (stmt i)) (fnBody (stmt i)) (fnScope (stmt i)) pm c doc) ⟨vs, []⟩ = pure (xs.zip vs))
    (hbody : ∀ L cd h₀ inh, (cxOf prog w mg mb hb x (fnScope (stmt i)) L f cd h₀ inh).Ok → Ex n (cxOf prog w mg mb hb x (fnScope (stmt i)) L f cd h₀ inh) (ps.map .val ++ List.replicate rest .unset) (execs (fnBody (stmt i)) (cxOf prog w mg mb hb x (fnScope (stmt i)) L f cd h₀ inh).env) (.ret p)) :
    Fn (n + 1) prog w mg mb hb f ps p := by
  obtain ⟨a, b, c, d, e, g, h⟩ := defOk_parts ok
  exact Fn.intro F xs rest a b c d e g h hlen hbind hbody
theorem len0 {α : Type} {vs : List α} (h : vs.length = ([] : List Str).length) : vs = [] := List.eq_nil_of_length_eq_zero h
theorem len1 {α : Type} {vs : List α} {x : Str} (h : vs.length = [x].length) : ∃ a, vs = [a] := by
  match vs, h with
  | [a], _ => exact ⟨a, rfl⟩
theorem len2 {α : Type} {vs : List α} {x y : Str} (h : vs.length = [x, y].length) : ∃ a b, vs = [a, b] := by
  match vs, h with
  | [a, b], _ => exact ⟨a, b, rfl⟩
set_option profiler true
set_option profiler.threshold 100
theorem runs_spec {f : Addr} (F : DefAt mg hb "_law_runs" f 25) : Fn 1 prog w mg mb hb f [] (.tup runsP) := by
  refine Fn.of F [] 0 (by decide +kernel) rfl (fun vs pm c doc h => by rw [len0 h]; kernel_rfl) fun L cd h₀ inh O => ?_
  conv in (fnBody _) => whnf
  refine Ex.stop (Ex.ret (Ev.tup ?_)) (fun _ e => by cases e)
  repeat' (first | exact Els.nil | refine Els.cons ?_ ?_ | refine Ev.tup ?_ | exact Ev.int)
end
end Mine
-- Sb
namespace Mine
open PySem PySem.Calls PyProof.Rows PySem.W
section
variable {n : Nat} {C : Cx} {σ : List Slot} {p q r : PV} {ps : List PV}
theorem Ev.sub {value slice : Expr} {pos : Pos} (h1 : Ev n C σ (eval value C.env) p) (h2 : Ev n C σ (eval slice C.env) q) (h3 : Op2 n C.prog C.w (subscriptTail value slice) p q r) : Ev n C σ (eval (.Subscript value slice pos) C.env) r := .mk <| fun A hid s Q E R S k =>
  Subscript_ (h1.run A hid s _ E R S fun a h' tk k1 va => h2.run A hid _ _ E R (S.keeps k1) fun b h'' tk' k2 vb => h3.run A hid _ _ E a b R ((S.keeps k1).keeps k2).side (va.keeps k2) vb fun v h3 tk3 k3 v3 => k v h3 tk3 ((k1.trans k2).trans k3) v3)
abbrev Plainly (slice : Expr) : Prop := ∀ o i, subscripted slice false o i = operate [o, i] (getItem o i)
theorem seqIndex_nn {i : Int} {n : Nat} (h0 : 0 ≤ i) (h1 : i < n) : seqIndex? i n = some i.toNat := by
  obtain ⟨k, rfl⟩ := Int.eq_ofNat_of_zero_le h0
  unfold seqIndex?
  have a : ¬ ((k : Int) < 0) := by omega
  simp only [a, if_false]
  rw [if_pos (by simp; omega)]
theorem Op2.item_tup {value slice : Expr} {i : Int} (h0 : 0 ≤ i) (hp : ps[i.toNat]? = some p) (hf : i < 2 ^ 63) (hs : Plainly slice := by intro _ _; rfl) : Op2 n C.prog C.w (subscriptTail value slice) (.tup ps) (.int i) p := .mk <| fun A hid s Q E a b R _ h1 h2 k => by
  obtain ⟨l, vs, m, rfl, nl, hl, hv⟩ := h1
  obtain ⟨t, rfl⟩ := h2
  obtain ⟨v, e, r⟩ := hv.get _ hp
  have hlt := (List.getElem?_eq_some_iff.mp e).1
  exact item_tupleT ⟨_, hl, rfl, _, rfl⟩ (by omega) hf (seqIndex_nn h0 (by omega)) e (k v s.heap s.toks (Keeps.refl _) r) (hs _ _)
theorem Op2.item_lst {value slice : Expr} {i : Int} (h0 : 0 ≤ i) (hp : ps[i.toNat]? = some p) (hf : i < 2 ^ 63) (hs : Plainly slice := by intro _ _; rfl) : Op2 n C.prog C.w (subscriptTail value slice) (.lst ps) (.int i) p := .mk <| fun A hid s Q E a b R _ h1 h2 k => by
  obtain ⟨l, vs, m, rfl, nl, hl, hv⟩ := h1
  obtain ⟨t, rfl⟩ := h2
  obtain ⟨v, e, r⟩ := hv.get _ hp
  have hL : s.heap.IsList l vs.toArray := ⟨_, hl, rfl, _, rfl⟩
  exact tail_any hL.typeIs slot_list_getitem.lookup (wpAny_getItem_list hL h0 hf (x := v) (by simpa using e) (k v s.heap s.toks (Keeps.refl _) r)) (hs _ _)
theorem Op2.item_str {value slice : Expr} {x : Str} {i : Int} {c : Nat} (h0 : 0 ≤ i) (hc : x.cps[i.toNat]? = some c) (hf : i < 2 ^ 63) (hs : Plainly slice := by intro _ _; rfl) : Op2 n C.prog C.w (subscriptTail value slice) (.str x) (.int i) (.str ⟨#[c]⟩) := .mk <| fun A hid s Q E a b R _ h1 h2 k => by
  obtain ⟨t, rfl⟩ := h1
  obtain ⟨u, rfl⟩ := h2
  have hlt : i.toNat < x.cps.size := (Array.getElem?_eq_some_iff.mp hc).1
  refine tail_any (typeIs_str _ _ _) F.slot_str_getitem.lookup (PySem.P.getItem_str (c := c) ?_ ?_ ?_) (hs _ _)
  · rw [decide_eq_false (by omega), decide_eq_false (by omega)]; rfl
  · rw [seqIndex_nn h0 (by show i < ((x.cps.size : Nat) : Int); omega)]; exact hc
  · exact k _ _ _ (Keeps.refl _) ⟨_, rfl⟩
/-- picks by places -/
def pvPick (ps : List PV) (lo hi : Option Int) : List PV := (sliceRange (sliceBounds lo hi none ps.length).1 (sliceBounds lo hi none ps.length).2.1 (sliceBounds lo hi none ps.length).2.2).filterMap (ps[·]?)
theorem VRs.filterMap {hid : List Addr} {h : Heap} {ps : List PV} {vs : List Value} (r : VRs hid h ps vs) : ∀ (is : List Nat), VRs hid h (is.filterMap (ps[·]?)) (is.filterMap (vs[·]?))
  | [] => rfl
  | i :: is => by
    rw [List.filterMap_cons, List.filterMap_cons]
    cases e : ps[i]? with
    | none =>
      have : vs[i]? = none := by rw [List.getElem?_eq_none_iff] at e ⊢; rw [r.length]; exact e
      rw [this]; exact VRs.filterMap r is
    | some p =>
      obtain ⟨v, ev, rv⟩ := r.get i e
      rw [ev]; exact .cons rv (VRs.filterMap r is)
theorem VRs.pick {hid : List Addr} {h : Heap} {ps : List PV} {vs : List Value} (r : VRs hid h ps vs) (lo hi : Option Int) : VRs hid h (pvPick ps lo hi) (slicePick vs.toArray lo hi none).toList := by
  have e : (slicePick vs.toArray lo hi none).toList = (sliceRange (sliceBounds lo hi none ps.length).1 (sliceBounds lo hi none ps.length).2.1 (sliceBounds lo hi none ps.length).2.2).filterMap (vs[·]?) := by
    unfold slicePick
    rw [List.size_toArray, r.length]
    simp
  rw [e]; exact r.filterMap _
/-- a part of a slice -/
structure EvPart (n : Nat) (C : Cx) (σ : List Slot) (e : Option Expr) (k : Option Int) : Prop where
  run : ∀ (A : Around) (hid : List Addr) (s : Shared) (Q : Value → Shared → Prop) (E : Value → Shared → Prop), Room n A → St C hid σ s.heap →
    (∀ v h' tk, Keeps s.heap h' → IsPart v k → Q v { s with heap := h', toks := tk }) → wpAny (model C.prog C.w) A (evalPart e C.env) Q E s
theorem EvPart.no : EvPart n C σ none none := .mk <| fun A hid s Q E R S k => wpAny_pure (k _ s.heap s.toks (.refl _) .none)
theorem EvPart.int {e : Expr} {i : Int} (h : Ev n C σ (eval e C.env) (.int i)) : EvPart n C σ (some e) (some i) := .mk <| fun A hid s Q E R S k => h.run A hid s Q E R S fun v h' tk k1 r => by
  obtain ⟨t, rfl⟩ := r; exact k _ h' tk k1 (.int i t)
theorem Ev.slice {value : Expr} {lo up : Option Expr} {p' pos : Pos} {a b : Option Int} (h1 : Ev n C σ (eval value C.env) (.lst ps)) (h2 : EvPart n C σ lo a) (h3 : EvPart n C σ up b) (hz : ps.length ≤ sizeLine)
    (ht : ∀ o r, letTemporaryGo value o r = pure () := by intro _ _; rfl) :
    Ev n C σ (eval (.Subscript value (.Slice lo up Option.none p') pos) C.env) (.lst (pvPick ps a b)) := .mk <| fun A hid s Q E R S k =>
  wpAny_Subscript_list_slice (h1.run A hid s _ E R S fun v h' tk k1 r1 => h2.run A hid _ _ E R (S.keeps k1) fun vl h2' tk2 k2 pl => h3.run A hid _ _ E R ((S.keeps k1).keeps k2) fun vu h3' tk3 k3 pu => by
    obtain ⟨l, vs, m, rfl, nl, hl, hv⟩ := r1
    have S3 := ((S.keeps k1).keeps k2).keeps k3
    refine ⟨l, vs.toArray, a, b, rfl, ⟨_, k3 _ _ (k2 _ _ hl), rfl, _, rfl⟩, by rw [List.size_toArray, hv.length]; exact hz, pl, pu, ?_⟩
    have kk : Keeps h3' ((h3'.push { cls := .type "slice", data := .fields #[vl, vu, .none] }).push { cls := .type "list", data := .seq (slicePick vs.toArray a b Option.none) }) := (Keeps.push _ _).trans (Keeps.push _ _)
    have e1 : h3'.objs.size + 1 = (h3'.push { cls := .type "slice", data := .fields #[vl, vu, .none] }).objs.size := by rw [Heap.size_push]
    refine k _ _ tk3 (((k1.trans k2).trans k3).trans kk) ⟨_, (slicePick vs.toArray a b Option.none).toList, 0, rfl, ?_, ?_, ?_⟩
    · intro q
      obtain ⟨_, _, e⟩ := S3.isl _ q
      have := Heap.lt_size e
      exact absurd this (by show ¬ (h3'.objs.size + 1 < h3'.objs.size); omega)
    · dsimp only
      rw [e1]; exact Heap.get?_push_size _ rfl
    · exact ((hv.keeps k2).keeps k3).pick a b |>.keeps kk) ht
end
end Mine
-- Me
namespace Mine
open PySem PySem.Calls PyProof.Rows PySem.W
/-- how a method's call is laid -/
abbrev MethAt (o : Expr) (name : Str) (ap pos : Pos) (args : List Expr) (env : Env) (pl : Sem Bool) : Prop :=
  eval (.Call (.Attribute o name ap) args [] pos) env = (do
      let ov ← eval o env
      standAt ap.atName
      let (f, first) ← holding [ov] (getMethod ov name pl)
      callWith pos f first (backTo pos (starEach args env)) [])
section
variable {n : Nat} {C : Cx} {σ : List Slot} {p q r : PV} {ps : List PV}
def strike (x c y z : Str) : Str := if (Builtin.Str.occurrences x c 0 x.length 1).isEmpty then x else Txt.replace x y z
theorem Ex.strike (O : C.Ok) (i : Nat) {nm : Str} {x c y z : Str} {k1 k2 k3 : Nat} {p1 p2 p3 p4 p5 p6 p7 p8 p9 pos : Pos} {pl : Sem Bool} (e1 : C.nm[i]? = some (nm, .local)) (e2 : σ[i]? = some (.val (.str x)))
    (he : MethAt (.Name nm p5) "replace" p6 p9 [.Constant (.str y) k2 p7, .Constant (.str z) k3 p8] C.env pl)
    (hyz : (y == z) = false) (hx : x.length ≤ 1048576) (hz : z.length ≤ 14) (hd : (nm == ("__debug__" : Str)) = false) (hc : (nm == ("__classdict__" : Str)) = false)
    (hs : swapsWith (.Call (.Attribute (.Name nm p5) "replace" p6) [.Constant (.str y) k2 p7, .Constant (.str z) k3 p8] [] p9) (some (.Name nm p4)) pos.line C.env = pure false) {pa : Pos}
    (hs' : swapsWith (.Call (.Attribute (.Name nm p5) "replace" p6) [.Constant (.str y) k2 p7, .Constant (.str z) k3 p8] [] p9) (some (.Name nm p4)) pa.line C.env = pure false) :
    Ex n C σ (exec (.If (.Compare (.Constant (.str c) k1 p1) [.In] [.Name nm p2] p3) [.Assign [.Name nm p4] (.Call (.Attribute (.Name nm p5) "replace" p6) [.Constant (.str y) k2 p7, .Constant (.str z) k3 p8] [] p9) pa] [] pos) C.env)
      (.next (σ.set i (.val (.str (Mine.strike x c y z))))) := .mk <| fun A hid s Q E R S k => by
  obtain ⟨v, H, t, rfl⟩ := S.vals i nm _ _ e1 e2
  refine wpAny_If (wpAny_isTrue_Compare1 (wpAny_Constant_str ?_) rfl)
  refine wp_name O.kind (O.kindOf e1) H ?_ hd hc
  refine PyProof.Rows.in_str (wpAny_truthy_bool ?_)
  unfold Mine.strike at k
  cases hocc : (Builtin.Str.occurrences x c 0 x.length 1).isEmpty with
  | true =>
    rw [hocc] at k
    simp only [if_true] at k
    refine wpAny_execs_nil ?_
    have : σ.set i (.val (.str x)) = σ := List.ext_getElem? fun j => by
      rw [List.getElem?_set]
      split
      · rename_i q; subst q
        have hl := (List.getElem?_eq_some_iff.mp e2).1
        rw [if_pos hl, e2]
      · rfl
    exact k .next hid s.heap (s.toks + 1) .refl ⟨rfl, by rw [this]; exact S⟩
  | false =>
    rw [hocc] at k
    simp only [Bool.false_eq_true, if_false] at k
    refine wpAny_execs_cons (wpAny_Assign_Name ?_ hs')
    refine MethodCall_ ?_ he
    refine wp_name O.kind (O.kindOf e1) H ?_ hd hc
    with_reducible refine GM.replace ?_
    refine PyProof.Rows.callWith_method1 (spliced_more (wpAny_Constant_str (spliced_more (wpAny_Constant_str (spliced_none ?_)) rfl)) rfl) rfl rfl
    refine SC.replaceW (Nat.succ_ne_zero _) (Nat.succ_ne_zero _) (Nat.ne_of_lt (Nat.lt_succ_self _)) hyz hx hz fun t' tk => ?_
    obtain ⟨m, hm⟩ := S.loc
    refine wpAny_storeName_local (O.kindOf e1) hm (fun h2 hn sb => ?_) (by rw [O.kind]; rfl)
    obtain ⟨S2, g⟩ := S.storeLocal O e1 hm hn sb (p := .str (Txt.replace x y z)) ⟨_, rfl⟩
    refine wpAny_execs_nil (k .next hid h2 _ g ⟨rfl, S2⟩)
theorem Ev.lower {o : Expr} {ap pos : Pos} {x : Str} {pl : Sem Bool} (h1 : Ev n C σ (eval o C.env) (.str x)) (hfit : Builtin.Str.tooLong (Txt.lower x).length = false) (he : MethAt o "lower" ap pos [] C.env pl) :
    Ev n C σ (eval (.Call (.Attribute o "lower" ap) [] [] pos) C.env) (.str (Txt.lower x)) := .mk <| fun A hid s Q E R S k => by
  refine MethodCall_ (h1.run A hid s _ E R S fun v h' tk k1 r1 => ?_) he
  obtain ⟨t, rfl⟩ := r1
  with_reducible refine GM.lower ?_
  refine callWith_method0 ?_
  with_reducible refine SC.lower hfit ?_
  exact k _ _ _ k1 ⟨_, rfl⟩
theorem strs_of {hid : List Addr} {h : Heap} : ∀ {xs : List Str} {vs : List Value}, VRs hid h (xs.map .str) vs → ∃ l, vs = strValues l ∧ l.map (·.1) = xs
  | [], _, r => ⟨[], r, rfl⟩
  | x :: xs, _, ⟨v, vs, e, ⟨t, ev⟩, r⟩ => by
    obtain ⟨l, e1, e2⟩ := strs_of r
    subst ev
    exact ⟨(x, t) :: l, by rw [e, e1]; rfl, by rw [List.map_cons, e2]⟩
theorem of_strs {hid : List Addr} {h : Heap} : ∀ (l : List (Str × Tok)), VRs hid h ((l.map (·.1)).map .str) (strValues l)
  | [] => rfl
  | (x, t) :: l => ⟨_, _, rfl, ⟨t, rfl⟩, of_strs l⟩
theorem Ev.join {o a : Expr} {ap pos : Pos} {x : Str} {xs : List Str} {pl : Sem Bool} (h1 : Ev n C σ (eval o C.env) (.str x)) (h2 : Ev n C σ (eval a C.env) (.lst (xs.map .str))) (hok : JoinOk x xs = true) (he : MethAt o "join" ap pos [a] C.env pl) (ha : plainArg a = true := by rfl) :
    Ev n C σ (eval (.Call (.Attribute o "join" ap) [a] [] pos) C.env) (.str (Txt.join x xs)) := .mk <| fun A hid s Q E R S k => by
  refine MethodCall_ (h1.run A hid s _ E R S fun v h' tk k1 r1 => ?_) he
  obtain ⟨t, rfl⟩ := r1
  with_reducible refine GM.join ?_
  refine PyProof.Rows.callWith_method1 ((Els.cons h2 Els.nil ha).run A hid _ _ E R (S.keeps k1) fun vs h'' tk' k2 r2 => ?_) (starEach_plain ha) rfl
  obtain ⟨v, r, rfl, ⟨l, us, m, rfl, nl, hl, hv⟩, rfl⟩ := r2
  obtain ⟨ll, rfl, e2⟩ := strs_of hv
  have hL : h''.IsList l (strValues ll).toArray := ⟨_, hl, rfl, _, rfl⟩
  refine SC.join (D := l) (l := ll) (texts := xs) hL e2 hok fun t' tk => ?_
  exact k _ _ _ (k1.trans k2) ⟨_, rfl⟩
/-- append on a list of the frame's own -/
theorem Ex.append (O : C.Ok) (i : Nat) {nm : Str} {k : NameKind} {xs : List PV} {a : Expr} {p5 ap pos epos : Pos} {pl : Sem Bool} (e1 : C.nm[i]? = some (nm, k)) (e2 : σ[i]? = some (.own xs)) (h1 : Ev n C σ (eval a C.env) p) (hlen : xs.length ≤ 1000000)
    (he : MethAt (.Name nm p5) "append" ap pos [a] C.env pl) (hd : (nm == ("__debug__" : Str)) = false) (hc : (nm == ("__classdict__" : Str)) = false) (ha : plainArg a = true := by rfl)
    (hi : interactive C.env = false := by rfl) (hs : swapsWith (.Call (.Attribute (.Name nm p5) "append" ap) [a] [] pos) Option.none epos.line C.env = pure false := by rfl) :
    Ex n C σ (exec (.Expr (.Call (.Attribute (.Name nm p5) "append" ap) [a] [] pos) epos) C.env) (.next (σ.set i (.own (xs ++ [p])))) := .mk <| fun A hid s Q E R S kk => by
  obtain ⟨l, vs, m, H, hl, up, ho, hv⟩ := S.owns i nm k xs e1 e2
  refine wpAny_Expr (MethodCall_ ?_ he) hi hs
  refine wp_name O.kind (O.kindOf e1) H ?_ hd hc
  refine getMethod_list_append ho rfl rfl ?_
  refine PyProof.Rows.callWith_method1 ((Els.cons h1 Els.nil ha).run A hid _ _ E R S fun us h' tk k1 r1 => ?_) (starEach_plain ha) rfl
  obtain ⟨v, r, rfl, rv, rfl⟩ := r1
  have S1 := S.keeps k1
  have ho1 := k1 _ _ ho
  have hL : h'.IsList l vs.toArray := ⟨_, ho1, rfl, _, rfl⟩
  show wpAny _ _ (call (.builtin "list.append") [.ref l, v]) _ _ _
  have hsz : vs.toArray.size ≤ 1000000 := by rw [List.size_toArray, hv.length]; exact hlen
  refine wpAny_call_entry slot_list_append hL.typeIs entry_list_append ?_ (args_list_append _ _)
  show wpAny _ _ (updateSeq l (·.push v) >>= fun _ => PySem.ret Value.none) _ _ _
  refine wpAny_bind ?_
  refine wpAny_updateSeq ho1 rfl (wpAny_pure ⟨Value.none, rfl, ?_⟩) (by unfold sizeLine; omega) (by unfold sizeLine; rw [Array.size_push]; omega)
  have e' : Obj.mapSeq (·.push v) (LObj vs m) = LObj (vs ++ [v]) (if (vs.toArray.push v).size == vs.toArray.size then m else m + 1) := by
    show ({ cls := .type "list", data := .seq (vs.toArray.push v) (if (vs.toArray.push v).size == vs.toArray.size then m else m + 1) } : Obj) = _
    unfold LObj
    rw [List.push_toArray]
  have hnew : (h'.update l (Obj.mapSeq (·.push v))).get? l = some (LObj (vs ++ [v]) (if (vs.toArray.push v).size == vs.toArray.size then m else m + 1)) := by
    rw [Heap.get?_update_self _ ho1 (by rw [e']; rfl), e']
  obtain ⟨S2, g⟩ := S1.turnOwn O e1 e2 (H.keeps k1) hnew (Heap.SameBut.update ..) (ys := xs ++ [p]) ((hv.keeps k1).append (.one rv))
  exact kk .next hid _ _ ((Grow.keeps k1).trans g) ⟨rfl, S2⟩
end
end Mine
-- Bu
namespace Mine
open PySem PySem.Calls PyProof.Rows PySem.W
section
variable {n : Nat} {prog : Program} {w : World} {p q r : PV} {ps : List PV} {hid : List Addr} {h : Heap}
theorem ints_of : ∀ {xs : List Int} {vs : List Value}, VRs hid h (xs.map .int) vs → IntsAre vs xs
  | [], _, r => by cases r; exact .nil
  | x :: xs, _, ⟨v, vs, e, ⟨t, ev⟩, r⟩ => by
    subst ev; rw [e]; exact .cons x t (ints_of r)
theorem strsAre_of : ∀ {xs : List Str} {vs : List Value}, VRs hid h (xs.map .str) vs → StrsAre vs xs
  | [], _, r => by cases r; exact .nil
  | x :: xs, _, ⟨v, vs, e, ⟨t, ev⟩, r⟩ => by
    subst ev; rw [e]; exact .cons x t (strsAre_of r)
theorem of_strsAre : ∀ {vs : List Value} {xs : List Str}, StrsAre vs xs → VRs hid h (xs.map .str) vs
  | _, _, .nil => rfl
  | _, _, .cons y t r => ⟨_, _, rfl, ⟨t, rfl⟩, of_strsAre r⟩
theorem bools_of : ∀ {xs : List Bool} {vs : List Value}, VRs hid h (xs.map .bool) vs → vs = xs.map .bool
  | [], _, r => r
  | x :: xs, _, ⟨v, vs, e, ev, r⟩ => by
    cases ev; rw [e, bools_of r]; rfl
theorem Bf.ord {c : Nat} : Bf n prog w (.builtin "ord") [.str ⟨#[c]⟩] (.int c) := .mk <| fun A hid s Q E vs R G I r k => by
  obtain ⟨v, r', rfl, ⟨t, rfl⟩, rfl⟩ := r
  with_reducible refine P.ord_of_char ?_
  exact k _ _ _ (Keeps.refl _) ⟨_, rfl⟩
theorem Bf.chr {i : Int} (h0 : 0 ≤ i) (h1 : i ≤ 1114111) : Bf n prog w (.builtin "chr") [.int i] (.str ⟨#[i.toNat]⟩) := .mk <| fun A hid s Q E vs R G I r k => by
  obtain ⟨v, r', rfl, ⟨t, rfl⟩, rfl⟩ := r
  with_reducible refine chr_of_range h0 h1 ?_
  exact k _ _ _ (Keeps.refl _) ⟨_, rfl⟩
theorem Bf.hex {i : Int} (hsz : (PySem.baseText "0x" 16 i).length ≤ sizeLine) : Bf n prog w (.builtin "hex") [.int i] (.str (PySem.baseText "0x" 16 i)) := .mk <| fun A hid s Q E vs R G I r k => by
  obtain ⟨v, r', rfl, ⟨t, rfl⟩, rfl⟩ := r
  with_reducible refine P.hex_of_int ?_ hsz
  exact k _ _ _ (Keeps.refl _) ⟨_, rfl⟩
def typeOfP (T : String) (h : Heap) (v : Value) : Prop := v = .type T
theorem sum_pre : ∀ (xs : List (Int × Tok)) (j : Nat), j ≤ xs.length → preSum (numAt xs.toArray) j = ((xs.take j).map (·.1)).sum
  | xs, 0, _ => rfl
  | xs, j + 1, hj => by
    have e : (xs.take (j + 1)) = xs.take j ++ [xs[j]] := by rw [List.take_append_getElem]
    rw [preSum, sum_pre xs j (by omega), e, List.map_append, List.sum_append]
    simp [numAt, show j < xs.length by omega]
theorem pairs_of : ∀ {xs : List Int} {vs : List Value}, VRs hid h (xs.map .int) vs → ∃ l : List (Int × Tok), vs = l.map (fun p => .int p.1 p.2) ∧ l.map (·.1) = xs
  | [], _, r => ⟨[], r, rfl⟩
  | x :: xs, _, ⟨v, vs, e, ⟨t, ev⟩, r⟩ => by
    obtain ⟨l, e1, e2⟩ := pairs_of r
    subst ev
    exact ⟨(x, t) :: l, by rw [e, e1]; rfl, by rw [List.map_cons, e2]⟩
theorem Bf.sum {xs : List Int} (hb : ∀ j, j < xs.length → InLong (xs.getD j 0) ∧ InLong ((xs.take (j + 1)).sum)) : Bf n prog w (.builtin "sum") [.lst (xs.map .int)] (.int xs.sum) := .mk <| fun A hid s Q E vs R G I r k => by
  obtain ⟨v, r', rfl, ⟨l, us, m, rfl, nl, hl, hv⟩, rfl⟩ := r
  obtain ⟨ll, rfl, e2⟩ := pairs_of hv
  have hL : s.heap.IsList l (intItems ll.toArray) := by
    have e : intItems ll.toArray = (ll.map (fun p => Value.int p.1 p.2)).toArray := by simp [intItems]
    rw [e]; exact ⟨_, hl, rfl, _, rfl⟩
  refine sum_intList R.handled hL (fun j hj => ?_) fun h' tk t' hk => ?_
  · rw [List.size_toArray] at hj
    have hj' : j < xs.length := by rw [← e2, List.length_map]; exact hj
    obtain ⟨a, b⟩ := hb j hj'
    refine ⟨?_, ?_⟩
    · have : numAt ll.toArray j = xs.getD j 0 := by
        subst e2
        simp [numAt, List.getD_eq_getElem?_getD]
      rw [this]; exact a
    · rw [sum_pre ll (j + 1) hj, List.map_take, e2]; exact b
  · have e : preSum (numAt ll.toArray) ll.toArray.size = xs.sum := by
      rw [List.size_toArray, sum_pre ll _ (Nat.le_refl _), List.take_length, e2]
    rw [e]
    exact k _ h' tk hk ⟨_, rfl⟩
/-- strs in their order -/
theorem Bf.sorted {xs ys : List Str} (h64 : xs.length < 64) (hy : ∀ zs : List Str, zs.Perm xs → sortedS zs = true → zs = ys) : Bf n prog w (.builtin "sorted") [.lst (xs.map .str)] (.lst (ys.map .str)) := .mk <| fun A hid s Q E vs R G I r k => by
  obtain ⟨v, r', rfl, ⟨l, us, m, rfl, nl, hl, hv⟩, rfl⟩ := r
  have hs := strsAre_of hv
  refine sorted_strs ⟨_, hl, rfl, _, rfl⟩ hs (by rw [hv.length, List.length_map]; exact h64) fun out ss' h1 h2 h3 => ?_
  have := hy ss' h2 h3
  subst this
  obtain ⟨e, he⟩ := sortedAll_at s.heap us out
  have kk : Keeps s.heap (sortedAll s.heap us out) := fun b o q => sortedAll_old q
  refine k _ _ s.toks kk ⟨_, out.toList, e, rfl, fun q => ?_, ?_, of_strsAre h1⟩
  · obtain ⟨_, _, ee⟩ := I _ q
    have := Heap.lt_size ee
    exact Nat.not_succ_le_self _ (Nat.le_of_succ_le this)
  · exact he
end
section
variable {n : Nat} {prog : Program} {w : World} {a b : Int} {x y : Str} {c d : Bool}
theorem Op2.in_tup_ints {xs : List Int} : Op2 n prog w (compareOp .In) (.int a) (.tup (xs.map .int)) (.bool (xs.any (· == a))) := .mk <| fun A hid s Q E u v R _ h1 h2 k => by
  obtain ⟨t, rfl⟩ := h1
  obtain ⟨l, us, m, rfl, nl, hl, hv⟩ := h2
  exact in_tuple_ints ⟨_, hl, rfl, _, rfl⟩ (ints_of hv) (k _ s.heap s.toks (Keeps.refl _) rfl)
theorem Op2.notIn_lst_ints {xs : List Int} : Op2 n prog w (compareOp .NotIn) (.int a) (.lst (xs.map .int)) (.bool (!xs.any (· == a))) := .mk <| fun A hid s Q E u v R _ h1 h2 k => by
  obtain ⟨t, rfl⟩ := h1
  obtain ⟨l, us, m, rfl, nl, hl, hv⟩ := h2
  exact notin_list_ints ⟨_, hl, rfl, _, rfl⟩ (ints_of hv) (k _ s.heap s.toks (Keeps.refl _) rfl)
theorem Op2.notIn_lst_strs {xs : List Str} : Op2 n prog w (compareOp .NotIn) (.str x) (.lst (xs.map .str)) (.bool (!xs.any (· == x))) := .mk <| fun A hid s Q E u v R _ h1 h2 k => by
  obtain ⟨t, rfl⟩ := h1
  obtain ⟨l, us, m, rfl, nl, hl, hv⟩ := h2
  exact notin_list_strs ⟨_, hl, rfl, _, rfl⟩ (strsAre_of hv) (k _ s.heap s.toks (Keeps.refl _) rfl)
end
end Mine
-- Ow
namespace Mine
open PySem PySem.Calls PyProof.Rows PySem.W
section
variable {n : Nat} {C : Cx} {σ : List Slot} {p q r : PV} {ps : List PV} {hid : List Addr} {h h' : Heap}
theorem VRs.set {hid : List Addr} {h : Heap} : ∀ {ps : List PV} {vs : List Value}, VRs hid h ps vs → ∀ {p : PV} {v : Value}, VR hid h p v → ∀ (i : Nat), VRs hid h (ps.set i p) (vs.set i v)
  | [], _, x, _, _, _, _ => by cases x; rfl
  | _ :: _, _, ⟨v, r, e, a, b⟩, p, u, hu, i => by
    subst e
    cases i with
    | zero => exact ⟨u, r, rfl, hu, b⟩
    | succ i => exact ⟨v, r.set i u, rfl, a, VRs.set b hu i⟩
/-- a name that holds a list of the frame's own -/
theorem St.become (O : C.Ok) (S : St C hid σ h) {i : Nat} {x : Str} {k : NameKind} {l : Addr} {xs : List PV} {vs : List Value} {m : Nat} (e1 : C.nm[i]? = some (x, k)) (e2 : σ[i]? = some (.val (.fn l))) (hl : l ∈ hid) (up : C.h₀.objs.size ≤ l)
    (ho : h.get? l = some (LObj vs m)) (hv : VRs hid h xs vs) (sep : ∀ (j : Nat) y k' ys, C.nm[j]? = some (y, k') → σ[j]? = some (.own ys) → ¬ Has C.env h y k' (.ref l)) : St C hid (σ.set i (.own xs)) h := by
  have Hl : Has C.env h x k (.ref l) := by
    obtain ⟨v, a, b⟩ := S.vals i x k _ e1 e2
    cases b; exact a
  have own : ∀ (j : Nat) y k' ys, C.nm[j]? = some (y, k') → (σ.set i (.own xs))[j]? = some (.own ys) → ∃ l' vs n, Has C.env h y k' (.ref l') ∧ l' ∈ hid ∧ C.h₀.objs.size ≤ l' ∧ h.get? l' = some (LObj vs n) ∧ VRs hid h ys vs ∧ ((i = j ∧ l' = l) ∨ (i ≠ j ∧ σ[j]? = some (.own ys) ∧ l' ≠ l)) := fun j y k' ys ej es => by
    rcases set_at es with ⟨ij, f⟩ | ⟨ij, f⟩
    · subst ij; cases f
      rw [e1] at ej; cases ej
      exact ⟨l, vs, m, Hl, hl, up, ho, hv, .inl ⟨rfl, rfl⟩⟩
    · obtain ⟨l', vs', n', a, b, c, d, e⟩ := S.owns j y k' ys ej f
      exact ⟨l', vs', n', a, b, c, d, e, .inr ⟨ij, f, fun q => sep j y k' ys ej f (q ▸ a)⟩⟩
  refine { gl := S.gl, keep := S.keep, sub := S.sub, isl := S.isl, loc := S.loc, up := S.up, vals := ?_, owns := ?_, apart := ?_, cells := S.cells }
  · intro j y k' q ej es
    rcases set_at es with ⟨ij, f⟩ | ⟨ij, f⟩
    · cases f
    · exact S.vals j y k' q ej f
  · intro j y k' ys ej es
    obtain ⟨l', vs', n', a, b, c, d, e, _⟩ := own j y k' ys ej es
    exact ⟨l', vs', n', a, b, c, d, e⟩
  · intro j₁ j₂ y k₁ z k₂ ys zs l' e₁ e₂ s₁ s₂ a b
    obtain ⟨l₁, _, _, a', _, _, _, _, c₁⟩ := own j₁ y k₁ ys e₁ s₁
    obtain ⟨l₂, _, _, b', _, _, _, _, c₂⟩ := own j₂ z k₂ zs e₂ s₂
    have q₁ := a'.same a; cases q₁
    have q₂ := b'.same b; cases q₂
    rcases c₁ with ⟨u₁, v₁⟩ | ⟨u₁, w₁, v₁⟩ <;> rcases c₂ with ⟨u₂, v₂⟩ | ⟨u₂, w₂, v₂⟩
    · rw [← u₁, ← u₂]
    · exact absurd v₁ v₂
    · exact absurd v₂ v₁
    · exact S.apart j₁ j₂ y k₁ z k₂ ys zs _ e₁ e₂ w₁ w₂ a b
/-- x = [ ... ], a list of the frame's own -/
theorem Ex.own (O : C.Ok) (i : Nat) {x : Str} {es : List Expr} {p' lp pos : Pos} (e1 : C.nm[i]? = some (x, .local)) (h1 : Els n C σ lp es ps) (hz : ps.length ≤ sizeLine := by decide) (hi : i < σ.length := by decide)
    (hs : swapsWith (.List es lp) (some (.Name x p')) pos.line C.env = pure false := by rfl) :
    Ex n C σ (exec (.Assign [.Name x p'] (.List es lp) pos) C.env) (.next (σ.set i (.own ps))) := .mk <| fun A hid s Q E R S k => by
  refine wpAny_Assign_Name ?_ hs
  rw [show eval (.List es lp) C.env = (do standAt lp; newList (← spliced (backTo lp (starEach es C.env)))) from rfl]
  refine wpAny_bind (wpAny_standAt (wpAny_bind (h1.run A hid s _ E R S fun vs h' tk k1 r1 => wpAny_newObj_type ?_ (by show vs.toArray.size ≤ sizeLine; rw [List.size_toArray, r1.length]; exact hz))))
  have S1 := S.keeps k1
  have hno : h'.get? h'.objs.size = Option.none := push_none h'
  have kp : Keeps h' (h'.push { cls := .type "list", data := .seq vs.toArray }) := .push _ _
  have gp : (h'.push { cls := .type "list", data := .seq vs.toArray }).get? h'.objs.size = some (LObj vs 0) := Heap.get?_push_size _ rfl
  have sz1 : C.h₀.objs.size ≤ h'.objs.size := by
    obtain ⟨m, hm⟩ := S1.loc
    exact Nat.le_trans S1.up (Nat.le_of_lt hm.lt)
  have nsub : ∀ a ∈ h'.objs.size :: hid, (∃ o, h'.get? a = some o) → a ∈ hid := fun a ha ⟨o, e⟩ => by
    rcases List.mem_cons.mp ha with rfl | q
    · rw [hno] at e; cases e
    · exact q
  have S2 : St C (h'.objs.size :: hid) σ (h'.push { cls := .type "list", data := .seq vs.toArray }) := by
    have S1k := S1.keeps kp
    refine { gl := S1k.gl, keep := S1k.keep, sub := fun a ha => List.mem_cons_of_mem _ (S1k.sub a ha), isl := fun a ha => ?_, loc := S1k.loc, up := S1k.up, vals := ?_, owns := ?_, apart := S1k.apart, cells := S1k.cells }
    · rcases List.mem_cons.mp ha with rfl | q
      · exact ⟨vs, 0, gp⟩
      · exact S1k.isl a q
    · intro j y kd q ej es
      obtain ⟨v, a, b⟩ := S1.vals j y kd q ej es
      exact ⟨v, a.keeps kp, (VR.sub nsub b).keeps kp⟩
    · intro j y kd ys ej es
      obtain ⟨l, us, m, a, b, c, d, e⟩ := S1.owns j y kd ys ej es
      exact ⟨l, us, m, a.keeps kp, List.mem_cons_of_mem _ b, c, kp _ _ d, (VRs.sub nsub e).keeps kp⟩
  obtain ⟨m, hm⟩ := S2.loc
  refine wpAny_storeName_local (O.kindOf e1) hm (fun h2 hn sb => ?_) (by rw [O.kind]; rfl)
  obtain ⟨S3, g⟩ := S2.storeLocal O e1 hm hn sb (p := .fn h'.objs.size) rfl
  have hloc : C.env.locals ≠ h'.objs.size := fun q => by
    obtain ⟨m', hm'⟩ := S1.loc
    have := hm'.lt
    rw [q] at this
    exact absurd this (Nat.lt_irrefl _)
  have st2 : Stays (h'.objs.size :: hid) (h'.push { cls := .type "list", data := .seq vs.toArray }) h2 := g.stays
  have S4 := S3.become O (i := i) (x := x) (k := .local) (l := h'.objs.size) (xs := ps) (vs := vs) (m := 0) e1 (by rw [List.getElem?_set, if_pos rfl, if_pos hi]) (List.mem_cons_self) sz1
    (by rw [sb.2 _ (Ne.symm hloc)]; exact gp) (VRs.stays st2 ((VRs.sub nsub r1).keeps kp)) (fun j y k' ys ej es H => by
      rcases set_at es with ⟨_, f⟩ | ⟨ij, f⟩
      · cases f
      · obtain ⟨l2, _, _, a, _, _, d, _⟩ := S1.owns j y k' ys ej f
        have hyx : y ≠ x := fun q => ij (by subst q; exact at_once O.once e1 ej)
        have a3 : Has C.env h2 y k' (.ref l2) := by
          have a4 := a.keeps kp
          cases k' <;> simp only [Has] at a4 ⊢
          case «local» =>
            obtain ⟨m', hm', hv⟩ := a4
            rw [Ns_same hm' hm] at hv
            exact ⟨_, hn, by simp only [hyx, if_false]; exact hv⟩
          all_goals
            obtain ⟨c, hc, o, e, d'⟩ := a4
            refine ⟨c, hc, o, ?_, d'⟩
            rw [sb.2 c (fun q => by
              subst q
              obtain ⟨_, _, dd⟩ := Ns_data hm e
              rw [dd] at d'; cases d')]
            exact e
        have := a3.same H
        cases this
        rw [hno] at d; cases d)
  rw [List.set_set] at S4
  refine k .next (h'.objs.size :: hid) h2 _ ?_ ⟨rfl, S4⟩
  refine (Grow.keeps k1).trans (Grow.trans ?_ g)
  exact ⟨fun b o e _ => kp b o e, fun a ha => List.mem_cons_of_mem _ ha, nsub, fun a ⟨o, e⟩ => ⟨o, kp a o e⟩⟩
theorem St.freeze (O : C.Ok) (S : St C hid σ h) {i : Nat} {x : Str} {k : NameKind} {xs : List PV} (e1 : C.nm[i]? = some (x, k)) (e2 : σ[i]? = some (.own xs)) :
    ∃ l hidF, l ∈ hid ∧ (∀ a ∈ hidF, a ∈ hid) ∧ (∀ a ∈ hid, a = l ∨ a ∈ hidF) ∧ l ∉ hidF ∧ St C hidF (σ.set i (.val (.lst xs))) h := by
  obtain ⟨l, vs, m, H, hl, up, ho, hv⟩ := S.owns i x k xs e1 e2
  have sub : ∀ a ∈ hid.filter (fun a => decide (a ≠ l)), a ∈ hid := fun a ha => (List.mem_filter.mp ha).1
  have nl : l ∉ hid.filter (fun a => decide (a ≠ l)) := fun q => by simpa using (List.mem_filter.mp q).2
  refine ⟨l, hid.filter (fun a => decide (a ≠ l)), hl, sub, fun a ha => ?_, nl, ?_⟩
  · by_cases q : a = l
    · exact .inl q
    · exact .inr (List.mem_filter.mpr ⟨ha, by simpa using q⟩)
  · refine { gl := S.gl, keep := S.keep, sub := fun a ha => ?_, isl := fun a ha => S.isl a (sub a ha), loc := S.loc, up := S.up, vals := ?_, owns := ?_, apart := ?_, cells := S.cells }
    · refine List.mem_filter.mpr ⟨S.sub a ha, ?_⟩
      obtain ⟨o, e⟩ := O.old a ha
      have := Heap.lt_size e
      have : a ≠ l := fun q => absurd (Heap.lt_size e) (Nat.not_lt_of_le (q ▸ up))
      simpa using this
    · intro j y k' q ej es
      rcases set_at es with ⟨ij, f⟩ | ⟨ij, f⟩
      · subst ij; cases f
        rw [e1] at ej; cases ej
        exact ⟨.ref l, H, l, vs, m, rfl, nl, ho, hv.less sub⟩
      · obtain ⟨v, a, b⟩ := S.vals j y k' q ej f
        exact ⟨v, a, b.less sub⟩
    · intro j y k' ys ej es
      rcases set_at es with ⟨ij, f⟩ | ⟨ij, f⟩
      · cases f
      · obtain ⟨l', vs', n', a, b, c, d, e⟩ := S.owns j y k' ys ej f
        have : l' ≠ l := fun q => by subst q; exact ij (S.apart i j x k y k' _ _ _ e1 ej e2 f H a)
        exact ⟨l', vs', n', a, List.mem_filter.mpr ⟨b, by simpa using this⟩, c, d, e.less sub⟩
    · intro j₁ j₂ y k₁ z k₂ ys zs l' e₁ e₂ s₁ s₂ a b
      rcases set_at s₁ with ⟨_, f⟩ | ⟨_, f₁⟩
      · cases f
      rcases set_at s₂ with ⟨_, f⟩ | ⟨_, f₂⟩
      · cases f
      exact S.apart j₁ j₂ y k₁ z k₂ ys zs l' e₁ e₂ f₁ f₂ a b
/-- what a scalar is -/
def PV.flat : PV → Bool
  | .lst _ => false
  | .tup _ => false
  | _ => true
theorem VR.flat {hid hid' : List Addr} {h : Heap} : ∀ {p : PV} {v : Value}, p.flat = true → VR hid h p v → VR hid' h p v
  | .none, _, _, x => x
  | .bool _, _, _, x => x
  | .int _, _, _, x => x
  | .str _, _, _, x => x
  | .fn _, _, _, x => x
  | .lst _, _, f, _ => by cases f
  | .tup _, _, f, _ => by cases f
theorem Ev.freeze (O : C.Ok) (i : Nat) {x : Str} {k : NameKind} {xs : List PV} {t : Sem Value} (e1 : C.nm[i]? = some (x, k)) (e2 : σ[i]? = some (.own xs)) (h1 : Ev n C (σ.set i (.val (.lst xs))) t p) (hp : p.flat = true := by rfl) : Ev n C σ t p := .mk <| fun A hid s Q E R S kk => by
  obtain ⟨l, hidF, _, _, _, _, S'⟩ := S.freeze O e1 e2
  exact h1.run A hidF s Q E R S' fun v h' tk k1 r1 => kk v h' tk k1 (r1.flat hp)
theorem Et.freeze (O : C.Ok) (i : Nat) {x : Str} {k : NameKind} {xs : List PV} {t : Sem Bool} {b : Bool} (e1 : C.nm[i]? = some (x, k)) (e2 : σ[i]? = some (.own xs)) (h1 : Et n C (σ.set i (.val (.lst xs))) t b) : Et n C σ t b := .mk <| fun A hid s Q E R S kk => by
  obtain ⟨l, hidF, _, _, _, _, S'⟩ := S.freeze O e1 e2
  exact h1.run A hidF s Q E R S' fun h' tk k1 => kk h' tk k1
theorem Ex.freeze (O : C.Ok) (i : Nat) {x : Str} {k : NameKind} {xs : List PV} {t : Sem Flow} (e1 : C.nm[i]? = some (x, k)) (e2 : σ[i]? = some (.own xs)) (h1 : Ex n C (σ.set i (.val (.lst xs))) t (.ret p)) : Ex n C σ t (.ret p) := .mk <| fun A hid s Q E R S kk => by
  obtain ⟨l, hidF, hl, sub, all, nl, S'⟩ := S.freeze O e1 e2
  refine h1.run A hidF s Q E R S' fun f hid' h' tk g oi => kk f (l :: hid') h' tk ⟨fun b o e u => ?_, fun a ha => ?_, fun a ha e => ?_, g.live⟩ oi
  · exact g.calm b o e (u.imp id fun ⟨v, nb⟩ => ⟨v, fun m => nb (sub b m)⟩)
  · rcases all a ha with rfl | q
    · exact List.mem_cons_self
    · exact List.mem_cons_of_mem _ (g.more a q)
  · rcases List.mem_cons.mp ha with rfl | q
    · exact hl
    · exact sub a (g.new a q e)
/-- a slice of a list of the frame's own is a new list -/
theorem Ev.sliceOwn (O : C.Ok) (i : Nat) {x : Str} {k : NameKind} {xs : List PV} {lo up : Option Expr} {p1 p' pos : Pos} {a b : Option Int} (e1 : C.nm[i]? = some (x, k)) (e2 : σ[i]? = some (.own xs)) (h2 : EvPart n C σ lo a) (h3 : EvPart n C σ up b) (hz : xs.length ≤ sizeLine)
    (h1 : (x == ("__debug__" : Str)) = false) (hc : (x == ("__classdict__" : Str)) = false) (ht : ∀ o r, letTemporaryGo (.Name x p1) o r = pure () := by intro _ _; rfl) :
    Ev n C σ (eval (.Subscript (.Name x p1) (.Slice lo up Option.none p') pos) C.env) (.lst (pvPick xs a b)) := .mk <| fun A hid s Q E R S kk => by
  obtain ⟨l, vs, m, H, hl, up', ho, hv⟩ := S.owns i x k xs e1 e2
  refine wpAny_Subscript_list_slice (wp_name O.kind (O.kindOf e1) H (h2.run A hid _ _ E R S fun vl h2' tk2 k2 pl => h3.run A hid _ _ E R (S.keeps k2) fun vu h3' tk3 k3 pu => ?_) h1 hc) ht
  have S3 := (S.keeps k2).keeps k3
  refine ⟨l, vs.toArray, a, b, rfl, ⟨_, k3 _ _ (k2 _ _ ho), rfl, _, rfl⟩, by rw [List.size_toArray, hv.length]; exact hz, pl, pu, ?_⟩
  have kp : Keeps h3' ((h3'.push { cls := .type "slice", data := .fields #[vl, vu, .none] }).push { cls := .type "list", data := .seq (slicePick vs.toArray a b Option.none) }) := (Keeps.push _ _).trans (Keeps.push _ _)
  have es : h3'.objs.size + 1 = (h3'.push { cls := .type "slice", data := .fields #[vl, vu, .none] }).objs.size := by rw [Heap.size_push]
  refine kk _ _ tk3 ((k2.trans k3).trans kp) ⟨_, (slicePick vs.toArray a b Option.none).toList, 0, rfl, ?_, ?_, ?_⟩
  · intro q
    obtain ⟨_, _, e⟩ := S3.isl _ q
    have := Heap.lt_size e
    exact absurd this (by show ¬ (h3'.objs.size + 1 < h3'.objs.size); omega)
  · dsimp only
    rw [es]; exact Heap.get?_push_size _ rfl
  · exact ((hv.keeps k2).keeps k3).pick a b |>.keeps kp
/-- x[i] op= e on a list of the frame's own -/
theorem Ex.augSub (O : C.Ok) (i : Nat) {x : Str} {k : NameKind} {xs : List PV} {idx e : Expr} {op : Operator} {p1 p' pos : Pos} {j : Int} (e1 : C.nm[i]? = some (x, k)) (e2 : σ[i]? = some (.own xs)) (h1 : Ev n C σ (eval idx C.env) (.int j)) (h0 : 0 ≤ j) (hj : xs[j.toNat]? = some p) (hf : j < 2 ^ 63)
    (h2 : Ev n C σ (eval e C.env) q) (h3 : Op2 n C.prog C.w (inplaceOp op) p q r) (hd : (x == ("__debug__" : Str)) = false) (hc : (x == ("__classdict__" : Str)) = false)
    (ha : ∀ ov iv new, augStore idx ov iv new = (do holding [new, ov, iv] (setItem ov iv new); release [new, ov, iv] []; pure .next) := by intro _ _ _; rfl) :
    Ex n C σ (exec (.AugAssign (.Subscript (.Name x p1) idx p') op e pos) C.env) (.next (σ.set i (.own (xs.set j.toNat r)))) := .mk <| fun A hid s Q E R S kk => by
  obtain ⟨l, vs, m, H, hl, up', ho, hv⟩ := S.owns i x k xs e1 e2
  refine wpAny_AugAssign_Subscript_any (wp_name O.kind (O.kindOf e1) H (h1.run A hid _ _ E R S fun iv h' tk k1 r1 => ?_) hd hc) ha
  obtain ⟨t, rfl⟩ := r1
  obtain ⟨v, ev, rv⟩ := hv.get _ hj
  refine wpAny_getItem_list (x := v) ⟨_, k1 _ _ ho, rfl, _, rfl⟩ h0 hf (by simpa using ev) ?_
  have S1 := S.keeps k1
  refine h2.run A hid _ _ E R S1 fun u h'' tk' k2 r2 => h3.run A hid _ _ E v u R (S1.keeps k2).side ((rv.keeps k1).keeps k2) r2 fun w' h3' tk3 k3 r3 => ?_
  have ho3 := k3 _ _ (k2 _ _ (k1 _ _ ho))
  have hlt := (List.getElem?_eq_some_iff.mp ev).1
  refine PySem.W.ki_setAt (n := m) ho3 h0 hf (by rw [List.size_toArray]; omega) ?_
  have S3 := (S1.keeps k2).keeps k3
  have e' : Obj.mapSeq (·.setIfInBounds j.toNat w') (LObj vs m) = LObj (vs.set j.toNat w') (if (vs.toArray.setIfInBounds j.toNat w').size == vs.toArray.size then m else m + 1) := by
    show ({ cls := .type "list", data := .seq (vs.toArray.setIfInBounds j.toNat w') (if (vs.toArray.setIfInBounds j.toNat w').size == vs.toArray.size then m else m + 1) } : Obj) = _
    unfold LObj
    rw [List.setIfInBounds_toArray]
  have hnew : (h3'.update l (Obj.mapSeq (·.setIfInBounds j.toNat w'))).get? l = some (LObj (vs.set j.toNat w') (if (vs.toArray.setIfInBounds j.toNat w').size == vs.toArray.size then m else m + 1)) := by
    rw [Heap.get?_update_self _ ho3 (by rw [e']; rfl), e']
  obtain ⟨S4, g⟩ := S3.turnOwn O e1 e2 (((H.keeps k1).keeps k2).keeps k3) hnew (Heap.SameBut.update ..) (ys := xs.set j.toNat r) ((((hv.keeps k1).keeps k2).keeps k3).set r3 _)
  exact kk .next hid _ tk3 ((Grow.keeps ((k1.trans k2).trans k3)).trans g) ⟨rfl, S4⟩
end
end Mine
-- Bo
namespace Mine
open PySem PySem.Calls PyProof.Rows PySem.W
section
variable {n : Nat} {C : Cx} {σ : List Slot} {p q r : PV} {ps : List PV} {hid : List Addr} {h h' : Heap} {o : Out}
theorem Et.or0 {pos : Pos} {whole : Sem Value} : Et n C σ (isTrue (.BoolOp .Or [] pos) C.env whole) false := .mk <| fun A hid s Q E R S k => isTrue_or_nil (k s.heap s.toks (.refl _))
theorem Et.or {x : Expr} {rest : List Expr} {pos : Pos} {whole : Sem Value} {a b : Bool} (h1 : Et n C σ (isTrue x C.env (eval x C.env)) a) (h2 : a = false → Et n C σ (isTrue (.BoolOp .Or rest pos) C.env whole) b) :
    Et n C σ (isTrue (.BoolOp .Or (x :: rest) pos) C.env whole) (a || b) := .mk <| fun A hid s Q E R S k => isTrue_or (h1.run A hid s _ E R S fun h' tk k1 => by
  cases a with
  | true => exact k h' tk k1
  | false => exact (h2 rfl).run A hid _ _ E R (S.keeps k1) fun h'' tk' k2 => k h'' tk' (k1.trans k2))
theorem Et.of {t : Sem Bool} {a b : Bool} (h : Et n C σ t a) (e : a = b) : Et n C σ t b := e ▸ h
theorem Ev.of {t : Sem Value} (h : Ev n C σ t p) (e : p = q) : Ev n C σ t q := e ▸ h
theorem Ex.of {t : Sem Flow} {o' : Out} (h : Ex n C σ t o) (e : o = o') : Ex n C σ t o' := e ▸ h
theorem Ex.from {σ' : List Slot} {t : Sem Flow} (h : Ex n C σ t o) (e : σ = σ') : Ex n C σ' t o := e ▸ h
theorem Ev.and {x y : Expr} {pos : Pos} {a b : Bool} (h1 : Ev n C σ (eval x C.env) (.bool a)) (h2 : a = true → Ev n C σ (eval y C.env) (.bool b)) : Ev n C σ (eval (.BoolOp .And [x, y] pos) C.env) (.bool (a && b)) := .mk <| fun A hid s Q E R S k =>
  BoolOp_and (h1.run A hid s _ E R S fun v h' tk k1 r1 => by
    cases r1
    refine wpAny_truthy_bool ?_
    cases a with
    | true => exact BoolOp_one ((h2 rfl).run A hid _ _ E R (S.keeps k1) fun v h'' tk' k2 r2 => k v h'' tk' (k1.trans k2) r2)
    | false => exact k _ h' tk k1 rfl)
theorem Ev.isBool (O : C.Ok) (i j : Nat) {x y : Str} {e : Expr} {p1 p2 pos : Pos} {b : Bool} (e1 : C.nm[i]? = some (x, .globalImplicit)) (m1 : C.mg x = Option.none) (b1 : C.mb x = some (.builtin "isinstance"))
    (e2 : C.nm[j]? = some (y, .globalImplicit)) (m2 : C.mg y = Option.none) (b2 : C.mb y = some (.type "bool")) (h1 : Ev n C σ (eval e C.env) (.bool b)) (hd : (x == ("__debug__" : Str)) = false) (hd2 : (y == ("__debug__" : Str)) = false) (he : plainArg e = true := by rfl) :
    Ev n C σ (eval (.Call (.Name x p1) [e, .Name y p2] [] pos) C.env) (.bool true) := .mk <| fun A hid s Q E R S k => by
  refine wpAny_bind (m := eval (.Name x p1) C.env) (wp_builtinName O S i e1 m1 b1 hd ?_)
  refine PyProof.Rows.callWith_builtin1 (spliced_more (h1.run A hid s _ E R S fun v h' tk k1 r1 => ?_) (starEach_plain he)) (starEach_plain he) rfl
  cases r1
  refine spliced_more (wp_builtinName O (S.keeps k1) j e2 m2 b2 hd2 (spliced_none ?_)) rfl
  with_reducible refine IsiPair.bool_bool ?_
  exact k _ h' tk k1 rfl
theorem Ex.try {body : List Stmt} {h0 : ExceptHandler} {hs : List ExceptHandler} {pos : Pos} (h1 : Ex n C σ (execs body C.env) (.ret p)) : Ex n C σ (exec (.Try body (h0 :: hs) [] [] pos) C.env) (.ret p) := .mk <| fun A hid s Q E R S k =>
  wpAny_Try_except (h1.run A hid s _ _ R S fun f hid' h' tk g oi => by
    obtain ⟨v, rfl, r⟩ := id oi
    exact k _ hid' h' tk g oi)
theorem Ex.expr {e : Expr} {pos : Pos} (h1 : Ev n C σ (eval e C.env) .none) (hi : interactive C.env = false := by rfl) (hs : swapsWith e Option.none pos.line C.env = pure false := by rfl) : Ex n C σ (exec (.Expr e pos) C.env) (.next σ) := .mk <| fun A hid s Q E R S k =>
  wpAny_Expr (h1.run A hid s _ E R S fun v h' tk k1 r1 => by
    cases r1
    exact k .next hid h' tk (.keeps k1) ⟨rfl, S.keeps k1⟩) hi hs
theorem Ex.brk {pos : Pos} : Ex n C σ (exec (.Break pos) C.env) (.brk σ) := .mk <| fun A hid s Q E R S k => wpAny_Break (k .brk hid s.heap s.toks .refl ⟨rfl, S⟩)
end
end Mine
-- En
namespace Mine
open PySem PySem.Calls PyProof.Rows PySem.W
section
variable {n : Nat} {prog : Program} {w : World} {C : Cx} {σ : List Slot} {ps : List PV}
def enumP (ps : List PV) : List PV := ps.mapIdx fun (i : Nat) p => .tup [.int (i : Int), p]
theorem enumP_at {ps : List PV} {i : Nat} {q : PV} (e : (enumP ps)[i]? = some q) : ∃ p, ps[i]? = some p ∧ q = .tup [.int (i : Int), p] := by
  unfold enumP at e
  rw [List.getElem?_mapIdx] at e
  obtain ⟨p, e1, e2⟩ := Option.map_eq_some_iff.mp e
  exact ⟨p, e1, e2.symm⟩
theorem ItAt.enum {hi : Heap} {hid : List Addr} {ts : List Expr} {kd : Nat} {pos : Pos} {I it l : Addr} {vs : List Value} {m : Nat} (hl : hi.get? l = some (LObj vs m)) (nl : l ∉ hid) (hv : VRs hid hi ps vs) (hne : I ≠ it) :
    ItAt n prog w hi hid (.Tuple ts kd pos) I [I, it] (enumP ps) (fun i h => ∃ old, IsEnum h I it i old ∧ h.IsListIter it l i) where
  frame := fun i h h' ⟨old, a, o, ho, r⟩ k => ⟨old, k I (by simp) _ a, o, k it (by simp) o ho, r⟩
  fld := fun i h ⟨old, a, o, ho, hc, hd⟩ b hb => by
    rcases List.mem_cons.mp hb with rfl | hb
    · exact ⟨_, _, a, rfl⟩
    · rw [List.mem_singleton.mp hb]; exact ⟨o, _, ho, hd⟩
  item := fun A i s Q E p hid' R ⟨old, hJ, hit⟩ hst hp ex more new k => by
    have hL : s.heap.IsList l vs.toArray := ⟨_, hst l _ hl ⟨_, _, rfl⟩ nl, rfl, _, rfl⟩
    obtain ⟨q, eq, rfl⟩ := enumP_at hp
    obtain ⟨v, e, r⟩ := hv.get i eq
    refine wpAny_pyNext_enum_item hJ hit hL (x := v) (by simpa using e) hne fun h' heo hit' ht' hz' hk' => ?_
    refine wpAny_letOwnedTupleGo_enum (s := { s with heap := h', toks := s.toks + 1 }) heo fun h2 he2 hs2 => ?_
    have hs2 : Heap.SameBut I h' h2 := hs2
    have hIl : I < s.heap.objs.size := Heap.lt_size hJ
    obtain ⟨oi, hoi, hci, hdi⟩ := id hit
    have hiI : it < s.heap.objs.size := Heap.lt_size hoi
    have ht2 : h2.get? s.heap.objs.size = some (TObj [.int i s.toks, v] 0) := by
      rw [hs2.2 _ (Nat.ne_of_gt hIl)]; exact ht'
    have kb : ∀ b o, b ≠ I → b ≠ it → s.heap.get? b = some o → h2.get? b = some o := fun b o n1 n2 x => by
      rw [hs2.2 b n1]; exact hk' b o n1 n2 x
    have hit2 : h2.IsListIter it l (i + 1) := by
      obtain ⟨o, ho, r⟩ := hit'
      exact ⟨o, by rw [hs2.2 it (Ne.symm hne)]; exact ho, r⟩
    have st' : Stays hid hi h2 := fun b o' e' u nb => by
      have q := hst b o' e' u nb
      obtain ⟨xs, nn, d⟩ := u
      refine kb b o' (fun z => ?_) (fun z => ?_) q
      · subst z
        rw [hJ] at q
        cases q; cases d
      · subst z
        rw [hoi] at q; cases q
        rw [hdi] at d; cases d
    have nh : s.heap.objs.size ∉ hid' := fun q => by
      obtain ⟨o, e⟩ := ex _ q
      exact absurd (Heap.lt_size e) (Nat.lt_irrefl _)
    refine k (.ref s.heap.objs.size) h2 _ ⟨_, he2, hit2⟩ ⟨_, _, 0, rfl, nh, ht2, _, _, rfl, ⟨_, rfl⟩, _, _, rfl, r.later more new st', rfl⟩ (fun b o nb e' => ?_) (fun b hb => ?_)
    · have nb1 : b ≠ I := fun z => nb (by simp [z])
      have nb2 : b ≠ it := fun z => nb (by simp [z])
      exact kb b o nb1 nb2 e'
    · rcases List.mem_cons.mp hb with rfl | hb
      · exact ⟨_, _, he2, rfl⟩
      · obtain ⟨o, ho, hc, hd⟩ := hit2
        rw [List.mem_singleton.mp hb]; exact ⟨o, _, ho, hd⟩
  done := fun A s Q E R ⟨old, hJ, hit⟩ hst k => by
    have hL : s.heap.IsList l vs.toArray := ⟨_, hst l _ hl ⟨_, _, rfl⟩ nl, rfl, _, rfl⟩
    refine wpAny_pyNext_enum_end R.handled hJ hit hL (by simp [hv.length, enumP]) fun h' sb => k h' s.toks fun b o nb e => sb b o (fun z => nb (by simp [z])) e
theorem EvIter.enum (O : C.Ok) {x : Str} {e : Expr} {ts : List Expr} {kd : Nat} {p' tp pos : Pos} (i : Nat) (e1 : C.nm[i]? = some (x, .globalImplicit)) (e2 : C.mg x = none) (e3 : C.mb x = some (.type "enumerate")) (h1 : Ev n C σ (eval e C.env) (.lst ps))
    (hd : (x == ("__debug__" : Str)) = false) (he : plainArg e = true := by rfl) : EvIter n C σ (.Tuple ts kd tp) (.Call (.Name x p') [e] [] pos) (enumP ps) := .mk <| fun A hid s Q E R S kk => by
  refine wpAny_bind (m := eval (.Name x p') C.env) (wp_builtinName O S i e1 e2 e3 hd (PyProof.Rows.callWith_type1 ((Els.cons h1 Els.nil he).run A hid s _ E R S fun vs h' tk k1 r1 => ?_) (starEach_plain he) rfl))
  obtain ⟨v, r, rfl, ⟨l, us, m, rfl, nl, hl, hv⟩, rfl⟩ := r1
  refine call_enumerate_list ⟨_, hl, rfl, _, rfl⟩ fun h2 a b sz k2 => ?_
  refine wpAny_pyIter_enum a ?_
  have k12 : Keeps s.heap h2 := k1.trans k2
  refine kk _ [h'.objs.size + 1, h'.objs.size] _ h2 tk k12 (.enum (k2 _ _ hl) nl (hv.keeps k2) (by show ¬ (h'.objs.size + 1 = h'.objs.size); omega)) ⟨_, a, b⟩ (fun b hb => ?_)
  rcases List.mem_cons.mp hb with rfl | hb
  · cases q : s.heap.get? (h'.objs.size + 1) with
    | none => rfl
    | some o => exact absurd (Heap.lt_size (k1 _ _ q)) (by show ¬ (h'.objs.size + 1 < h'.objs.size); omega)
  · rw [List.mem_singleton.mp hb]; exact fresh_of k1
end
end Mine
-- Cm
namespace Mine
open PySem PySem.Calls PyProof.Rows PySem.W
/-- an iterator for a comprehension -/
structure ItC (n : Nat) (prog : Program) (w : World) (hi : Heap) (hid : List Addr) (I : Addr) (wr : List Addr) (ps : List PV) (J : Nat → Heap → Prop) : Prop where
  frame : ∀ i h h', J i h → (∀ b ∈ wr, ∀ o, h.get? b = some o → h'.get? b = some o) → J i h'
  fld : ∀ i h, J i h → ∀ b ∈ wr, ∃ o vs, h.get? b = some o ∧ o.data = .fields vs
  self : ∀ (A : Around) (i : Nat) (s : Shared) (Q : Value → Shared → Prop) (E : Value → Shared → Prop), J i s.heap → Q (.ref I) s → wpAny (model prog w) A (pyIter (.ref I)) Q E s
  item : ∀ (A : Around) (i : Nat) (s : Shared) (Q : Option Value → Shared → Prop) (E : Value → Shared → Prop) (p : PV) (hid' : List Addr), Room n A → J i s.heap → Stays hid hi s.heap → ps[i]? = some p →
    (∀ a ∈ hid, a ∈ hid') → (∀ a ∈ hid', (∃ o, hi.get? a = some o) → a ∈ hid) →
    (∀ v h' tk, J (i + 1) h' → VR hid' h' p v → (∀ b o, b ∉ wr → s.heap.get? b = some o → h'.get? b = some o) → (∀ b ∈ wr, ∃ o vs, h'.get? b = some o ∧ o.data = .fields vs) → Q (some v) { s with heap := h', toks := tk }) →
    wpAny (model prog w) A (pyNext (.ref I)) Q E s
  done : ∀ (A : Around) (s : Shared) (Q : Option Value → Shared → Prop) (E : Value → Shared → Prop), Room n A → J ps.length s.heap → Stays hid hi s.heap →
    (∀ h' tk, (∀ b o, b ∉ wr → s.heap.get? b = some o → h'.get? b = some o) → Q none { s with heap := h', toks := tk }) → wpAny (model prog w) A (pyNext (.ref I)) Q E s
structure EvItC (n : Nat) (C : Cx) (σ : List Slot) (iter : Expr) (ps : List PV) : Prop where
  run : ∀ (A : Around) (hid : List Addr) (s : Shared) (Q : Value → Shared → Prop) (E : Value → Shared → Prop), Room n A → St C hid σ s.heap →
    (∀ I wr J h' tk, Keeps s.heap h' → ItC n C.prog C.w h' hid I wr ps J → J 0 h' → (∀ b ∈ wr, s.heap.get? b = none) → Q (.ref I) { s with heap := h', toks := tk }) →
    wpAny (model C.prog C.w) A (eval iter C.env) (fun x s₁ => wpAny (model C.prog C.w) A (pyIter x) Q E s₁) E s
section
variable {n : Nat} {prog : Program} {w : World} {C : Cx} {σ : List Slot} {ps : List PV}
theorem ItC.lst {hi : Heap} {hid : List Addr} {I l : Addr} {vs : List Value} {m : Nat} (hl : hi.get? l = some (LObj vs m)) (nl : l ∉ hid) (hv : VRs hid hi ps vs) :
    ItC n prog w hi hid I [I] ps (fun i h => h.IsListIter I l i) where
  frame := fun i h h' ⟨o, ho, r⟩ k => ⟨o, k I (by simp) o ho, r⟩
  fld := fun i h ⟨o, ho, hc, hd⟩ b hb => by rw [List.mem_singleton.mp hb]; exact ⟨o, _, ho, hd⟩
  self := fun A i s Q E hJ h => wpAny_pyIter_listiter hJ h
  item := fun A i s Q E p hid' R hJ hst hp more new k => by
    have hL : s.heap.IsList l vs.toArray := ⟨_, hst l _ hl ⟨_, _, rfl⟩ nl, rfl, _, rfl⟩
    obtain ⟨v, e, r⟩ := hv.get i hp
    refine wpAny_pyNext_list_item hJ hL (x := v) (by simpa using e) fun h' hit sb => ?_
    obtain ⟨o, ho, hc, hd⟩ := id hit
    have st' : Stays hid hi h' := fun b o' e' u nb => by
      have q := hst b o' e' u nb
      rw [sb.2 b (fun z => by
        subst z
        obtain ⟨o2, ho2, _, hd2⟩ := hJ
        rw [q] at ho2; cases ho2
        obtain ⟨_, _, d⟩ := u
        rw [hd2] at d; cases d)]
      exact q
    exact k v h' s.toks hit (r.later more new st') (fun b o' nb e' => by rw [sb.2 b (fun z => nb (by simp [z]))]; exact e') (fun b hb => by rw [List.mem_singleton.mp hb]; exact ⟨o, _, ho, hd⟩)
  done := fun A s Q E R hJ hst k => by
    have hL : s.heap.IsList l vs.toArray := ⟨_, hst l _ hl ⟨_, _, rfl⟩ nl, rfl, _, rfl⟩
    exact wpAny_pyNext_list_end R.handled hJ hL (by simp [hv.length]) fun h' sb => k h' s.toks fun b o nb e => sb b o (fun z => nb (by simp [z])) e
theorem EvItC.lst {iter : Expr} (h1 : Ev n C σ (eval iter C.env) (.lst ps)) : EvItC n C σ iter ps := .mk <| fun A hid s Q E R S k =>
  h1.run A hid s _ E R S fun v h' tk k1 ⟨l, vs, m, ev, nl, hl, hv⟩ => by
    subst ev
    refine wpAny_pyIter_list ⟨_, hl, rfl, _, rfl⟩ ?_
    exact k _ [h'.objs.size] _ _ tk (k1.trans (.push _ _)) (.lst (Heap.get?_push_of_some _ hl) nl (hv.keeps (.push _ _))) ⟨_, Heap.get?_push_size _ rfl, rfl, rfl⟩ (fun b hb => by rw [List.mem_singleton.mp hb]; exact fresh_of k1)
theorem ItC.range {hi : Heap} {hid : List Addr} {I : Addr} {k : Nat} : ItC n prog w hi hid I [I] (upto k) (fun i h => i ≤ k ∧ IsRangeIter h I i ((k : Int) - i) 1) where
  frame := fun i h h' ⟨a, b⟩ k => ⟨a, k I (by simp) _ b⟩
  fld := fun i h ⟨a, ho⟩ b hb => by rw [List.mem_singleton.mp hb]; exact ⟨_, _, ho, rfl⟩
  self := fun A i s Q E hJ h => wpAny_pyIter_rangeiter hJ.2 h
  item := fun A i s Q E p hid' R hJ hst hp more new k' => by
    obtain ⟨lt, rfl⟩ := upto_at hp
    refine wpAny_pyNext_range_item hJ.2 (by omega) fun h' hit sb => ?_
    have hit' : IsRangeIter h' I ((i + 1 : Nat) : Int) ((k : Int) - ((i + 1 : Nat) : Int)) 1 := by
      have e1 : (i : Int) + 1 = ((i + 1 : Nat) : Int) := by omega
      have e2 : (k : Int) - i - 1 = (k : Int) - ((i + 1 : Nat) : Int) := by omega
      rw [← e2, ← e1]; exact hit
    exact k' _ h' _ ⟨lt, hit'⟩ ⟨_, rfl⟩ (fun b o' nb e' => by rw [sb.2 b (fun z => nb (by simp [z]))]; exact e') (fun b hb => by rw [List.mem_singleton.mp hb]; exact ⟨_, _, hit, rfl⟩)
  done := fun A s Q E R hJ hst k' => wpAny_pyNext_range_end R.handled hJ.2 (by simp [upto]) fun h' sb => k' h' s.toks fun b o nb e => sb b o (fun z => nb (by simp [z])) e
theorem EvItC.range (O : C.Ok) {x : Str} {p' pos : Pos} {e : Expr} {k : Nat} {z : Int} (i : Nat) (e1 : C.nm[i]? = some (x, .globalImplicit)) (e2 : C.mg x = none) (e3 : C.mb x = some (.type "range")) (h1 : Ev n C σ (eval e C.env) (.int z)) (hz : z = (k : Int)) (hk : k < 1000000)
    (hd : (x == ("__debug__" : Str)) = false) (he : plainArg e = true := by rfl) : EvItC n C σ (.Call (.Name x p') [e] [] pos) (upto k) := .mk <| fun A hid s Q E R S kk => by
  subst hz
  refine wpAny_bind (m := eval (.Name x p') C.env) (wp_builtinName O S i e1 e2 e3 hd (PyProof.Rows.callWith_type1 ((Els.cons h1 Els.nil he).run A hid s _ E R S fun vs h' tk k1 r1 => ?_) (starEach_plain he) rfl))
  obtain ⟨v, r, rfl, ⟨t, rfl⟩, rfl⟩ := r1
  refine call_range_1 ?_
  have hsz : Builtin.Range.rangeSize 0 (k : Int) 1 = (k : Int) := by
    unfold Builtin.Range.rangeSize
    rw [if_pos (show (1 : Int) > 0 by decide)]
    split <;> omega
  refine wpAny_pyIter_range (a := 0) (b := k) (c := 1) (Heap.get?_push_size _ rfl) ?_ ?_
  · have fit : ∀ z : Int, 0 ≤ z → z < 2000000 → Builtin.Range.rangeFitsLong z = true := fun z h1 h2 => by
      unfold Builtin.Range.rangeFitsLong
      have a1 : -(2 ^ 63) ≤ z := by omega
      have a2 : z < 2 ^ 63 := by omega
      rw [decide_eq_true a1, decide_eq_true a2]; rfl
    unfold Builtin.Range.small
    rw [hsz, fit 0 (by omega) (by omega), fit k (by omega) (by omega), fit 1 (by omega) (by omega), if_pos (show (1 : Int) > 0 by decide), fit _ (by omega) (by omega), Bool.or_true]
    rfl
  · rw [hsz]
    have k2 := (Keeps.push h' { cls := .type "range", data := .fields #[.int 0 tk, .int k t, .int 1 (tk + 1)] }).trans (Keeps.push _ { cls := .type "range_iterator", data := .fields #[rawInt 0, rawInt (k : Int), rawInt 1] })
    refine kk _ [_] _ _ _ (k1.trans k2) .range ⟨Nat.zero_le _, ?_⟩ (fun b hb => by rw [List.mem_singleton.mp hb]; exact fresh_of (k1.trans (Keeps.push _ _)))
    have := Heap.get?_push_size (h'.push { cls := .type "range", data := .fields #[.int 0 tk, .int k t, .int 1 (tk + 1)] }) (o := { cls := .type "range_iterator", data := .fields #[rawInt 0, rawInt (k : Int), rawInt 1] }) rfl
    simpa using this
/-- the names that a comprehension takes from its frame: each place of σ' but the target's -/
def Pulls (nm : List (Str × NameKind)) (σ : List Slot) : List (Str × NameKind) → List Slot → Prop
  | _, [] => True
  | [], _ :: _ => False
  | _ :: r, .unset :: s => Pulls nm σ r s
  | (y, k) :: r, .val p :: s => (k = .free ∧ ∃ j : Nat, nm[j]? = some (y, .cell) ∧ σ[j]? = some (.val p)) ∧ Pulls nm σ r s
  | _ :: _, .own _ :: _ => False
theorem Pulls.at {nm : List (Str × NameKind)} {σ : List Slot} : ∀ {ns : List (Str × NameKind)} {σ' : List Slot}, Pulls nm σ ns σ' → ∀ (i : Nat) {p : PV}, σ'[i]? = some (.val p) →
    ∃ y, ns[i]? = some (y, .free) ∧ ∃ j : Nat, nm[j]? = some (y, .cell) ∧ σ[j]? = some (.val p)
  | _, [], _, i, p, e => by simp at e
  | [], _ :: _, h, _, _, _ => h.elim
  | _ :: r, .unset :: s, h, i, p, e => by
    have h' : Pulls nm σ r s := h
    cases i with
    | zero => cases e
    | succ i => exact Pulls.at h' i e
  | (y, k) :: r, .val q :: s, h, i, p, e => by
    cases i with
    | zero => cases e; obtain ⟨rfl, j⟩ := h.1; exact ⟨y, rfl, j⟩
    | succ i => exact Pulls.at h.2 i e
  | _ :: _, .own _ :: _, h, _, _, _ => h.elim
theorem Pulls.noOwn {nm : List (Str × NameKind)} {σ : List Slot} : ∀ {ns : List (Str × NameKind)} {σ' : List Slot}, Pulls nm σ ns σ' → ∀ (i : Nat) {xs : List PV}, σ'[i]? ≠ some (.own xs)
  | _, [], _, i, p => by simp
  | [], _ :: _, h, _, _ => h.elim
  | _ :: r, .unset :: s, h, i, p => by
    have h' : Pulls nm σ r s := h
    cases i with
    | zero => intro e; cases e
    | succ i => exact Pulls.noOwn h' i
  | (y, k) :: r, .val q :: s, h, i, p => by
    cases i with
    | zero => intro e; cases e
    | succ i => exact Pulls.noOwn h.2 i
  | _ :: _, .own _ :: _, h, _, _ => h.elim
/-- the frame of a comprehension -/
def compCx (C : Cx) (scope : Scope) (cl : List (Str × Addr)) (L : Addr) (h₀ : Heap) (inh : List Addr) (nm' : List (Str × NameKind)) : Cx :=
  { prog := C.prog, w := C.w, mg := C.mg, mb := C.mb, hb := C.hb, env := compEnvC scope cl L C.env, nm := nm', h₀, inh }
/-- a turn's outcome: an item, or none -/
def CStep (n : Nat) (C : Cx) (σ : List Slot) (ifs : List Expr) (elt : Expr) (r : Option PV) : Prop := match ifs with
  | [] => ∃ q, r = some q ∧ q.flat = true ∧ Ev n C σ (eval elt C.env) q
  | [t] => ∃ b, Et n C σ (isTrue t C.env (eval t C.env)) b ∧ (b = true → ∃ q, r = some q ∧ q.flat = true ∧ Ev n C σ (eval elt C.env) q) ∧ (b = false → r = none)
  | _ => False
inductive CompOut (n : Nat) (C : Cx) (σ' : List Slot) (ifs : List Expr) (elt : Expr) : List PV → List PV → Prop where
  | nil : CompOut n C σ' ifs elt [] []
  | cons {p ps r out} : CStep n C (σ'.set 1 (.val p)) ifs elt r → CompOut n C σ' ifs elt ps out → CompOut n C σ' ifs elt (p :: ps) (r.toList ++ out)
theorem closureFor_ok {scope : Scope} {env : Env} (h : ∀ y, (y, NameKind.free) ∈ scope.names → ∃ c, env.cells.lookup y = some c) :
    ∃ cl, closureFor scope env = pure cl ∧ (∀ y c, (y, c) ∈ cl → env.cells.lookup y = some c ∧ (y, NameKind.free) ∈ scope.names) ∧ (∀ y, (y, NameKind.free) ∈ scope.names → ∃ c, cl.lookup y = some c) := by
  unfold closureFor
  have key : ∀ (ns : List (Str × NameKind)) (acc : List (Str × Addr)), (∀ y, (y, NameKind.free) ∈ ns → ∃ c, env.cells.lookup y = some c) → (∀ y c, (y, c) ∈ acc → env.cells.lookup y = some c ∧ (y, NameKind.free) ∈ scope.names) → (∀ z ∈ ns, z ∈ scope.names) →
      ∃ cl, (forIn ns acc fun (x : Str × NameKind) (cs : List (Str × Addr)) => (if x.2 == NameKind.free then do let a ← cellOf env x.1; pure (ForInStep.yield ((x.1, a) :: cs)) else pure (ForInStep.yield cs) : Sem (ForInStep (List (Str × Addr))))) = pure cl ∧
        (∀ y c, (y, c) ∈ cl → env.cells.lookup y = some c ∧ (y, NameKind.free) ∈ scope.names) ∧ (∀ y, (y, NameKind.free) ∈ ns ∨ (∃ c, acc.lookup y = some c) → ∃ c, cl.lookup y = some c) := by
    intro ns
    induction ns with
    | nil => intro acc _ ha _; exact ⟨acc, by rw [List.forIn_nil], ha, fun y q => q.elim (fun m => nomatch m) id⟩
    | cons x r ih =>
      intro acc hx ha hin
      obtain ⟨y, k⟩ := x
      rw [List.forIn_cons]
      by_cases hk : k = .free
      · subst hk
        obtain ⟨c, hc⟩ := hx y List.mem_cons_self
        obtain ⟨cl, e, f, g⟩ := ih ((y, c) :: acc) (fun z hz => hx z (List.mem_cons_of_mem _ hz)) (fun z d hz => by
          rcases List.mem_cons.mp hz with q | q
          · cases q; exact ⟨hc, hin _ List.mem_cons_self⟩
          · exact ha z d q) (fun z hz => hin z (List.mem_cons_of_mem _ hz))
        refine ⟨cl, ?_, f, fun z hz => ?_⟩
        · simp only [show (NameKind.free == NameKind.free) = true from rfl, if_true]
          rw [show cellOf env y = pure c by unfold cellOf; rw [hc]]
          exact e
        · refine g z ?_
          rcases hz with hz | ⟨d, hd⟩
          · rcases List.mem_cons.mp hz with q | q
            · cases q; exact .inr ⟨c, by simp [List.lookup_cons]⟩
            · exact .inl q
          · by_cases zy : z = y
            · subst zy; exact .inr ⟨c, by simp [List.lookup_cons]⟩
            · have : (z == y) = false := by simpa using zy
              exact .inr ⟨d, by rw [List.lookup_cons, this]; exact hd⟩
      · obtain ⟨cl, e, f, g⟩ := ih acc (fun z hz => hx z (List.mem_cons_of_mem _ hz)) ha (fun z hz => hin z (List.mem_cons_of_mem _ hz))
        have hkf : (k == NameKind.free) = false := by cases k <;> first | rfl | exact absurd rfl hk
        refine ⟨cl, ?_, f, fun z hz => g z ?_⟩
        · simp only [hkf, Bool.false_eq_true, if_false]
          exact e
        · rcases hz with hz | hz
          · rcases List.mem_cons.mp hz with q | q
            · cases q; exact absurd rfl hk
            · exact .inl q
          · exact .inr hz
  obtain ⟨cl, e, f, g⟩ := key scope.names [] h (fun _ _ m => nomatch m) (fun _ h => h)
  refine ⟨cl, ?_, f, fun y hy => g y (.inl hy)⟩
  refine (congrArg (fun m : Sem (List (Str × Addr)) => m >>= fun cs => pure cs) (Eq.trans ?_ e)).trans rfl
  refine congrArg (fun f => forIn scope.names ([] : List (Str × Addr)) f) (funext fun x => funext fun cs => ?_)
  obtain ⟨y, k⟩ := x
  cases k <;> rfl
end
end Mine
-- Cp
namespace Mine
open PySem PySem.Calls PyProof.Rows PySem.W
section
variable {n : Nat} {C : Cx} {σ : List Slot} {p q r : PV} {ps out : List PV} {hid : List Addr}
theorem wp_append {prog : Program} {w : World} {A : Around} {E : Value → Shared → Prop} {s : Shared} {l : Addr} {vs : List Value} {m : Nat} {v : Value} {Q : Value → Shared → Prop} (ho : s.heap.get? l = some (LObj vs m)) (hsz : vs.length ≤ 1000000)
    (k : ∀ h' m', h'.get? l = some (LObj (vs ++ [v]) m') → Heap.SameBut l s.heap h' → Q .none { s with heap := h' }) : wpAny (model prog w) A (call (.builtin "list.append") [.ref l, v]) Q E s := by
  have hL : s.heap.IsList l vs.toArray := ⟨_, ho, rfl, _, rfl⟩
  have hsz : vs.toArray.size ≤ 1000000 := by rw [List.size_toArray]; exact hsz
  refine wpAny_call_entry slot_list_append hL.typeIs entry_list_append ?_ (args_list_append _ _)
  show wpAny _ _ (updateSeq l (·.push v) >>= fun _ => PySem.ret Value.none) _ _ _
  refine wpAny_bind ?_
  refine wpAny_updateSeq ho rfl (wpAny_pure ⟨Value.none, rfl, ?_⟩) (by unfold sizeLine; omega) (by unfold sizeLine; rw [Array.size_push]; omega)
  have e' : Obj.mapSeq (·.push v) (LObj vs m) = LObj (vs ++ [v]) (if (vs.toArray.push v).size == vs.toArray.size then m else m + 1) := by
    show ({ cls := .type "list", data := .seq (vs.toArray.push v) (if (vs.toArray.push v).size == vs.toArray.size then m else m + 1) } : Obj) = _
    unfold LObj
    rw [List.push_toArray]
  exact k _ _ (by rw [Heap.get?_update_self _ ho (by rw [e']; rfl), e']) (Heap.SameBut.update ..)
theorem wp_asgName (O : C.Ok) {A : Around} {s : Shared} {Q : Unit → Shared → Prop} {E : Value → Shared → Prop} {v : Value} (S : St C hid σ s.heap) {i : Nat} {x : Str} {k : NameKind} {px : Pos} (e1 : C.nm[i]? = some (x, k)) (hk : k = .local ∨ k = .cell)
    (own : k = .cell → ∀ c, C.env.cells.lookup x = some c → C.h₀.objs.size ≤ c ∧ ∀ (j : Nat) y k', C.nm[j]? = some (y, k') → C.env.cells.lookup y = some c → y = x) (vr : VR hid s.heap p v)
    (kk : ∀ a h' tk, (a = C.env.locals ∨ (k = .cell ∧ C.env.cells.lookup x = some a)) → Heap.SameBut a s.heap h' → Grow hid s.heap hid h' → St C hid (σ.set i (.val p)) h' → Q () { s with heap := h', toks := tk }) :
    wpAny (model C.prog C.w) A (PySem.assign (.Name x px) C.env v) Q E s := by
  rcases hk with rfl | rfl
  · obtain ⟨m, hm⟩ := S.loc
    refine wpAny_assign_Name (wpAny_storeName_local (O.kindOf e1) hm (fun h2 hn sb => ?_) (by rw [O.kind]; rfl))
    obtain ⟨S2, g⟩ := S.storeLocal O e1 hm hn sb vr
    exact kk _ h2 _ (.inl rfl) sb g S2
  · obtain ⟨c, v₀, hc, hc0⟩ := S.cells i x e1
    obtain ⟨up, inj⟩ := own rfl c hc
    refine wpAny_assign_Name (wpAny_storeName_cell O.kind (O.kindOf e1) hc hc0 fun h2 hn sb => ?_)
    obtain ⟨S2, g⟩ := S.storeCell O e1 hc hc0 hn sb vr up inj
    exact kk _ h2 _ (.inr ⟨rfl, hc⟩) sb g S2
theorem Asg.cell (O : C.Ok) (K : C.Cells) (i : Nat) {x : Str} {pos : Pos} (e1 : C.nm[i]? = some (x, .cell)) : Asg n C σ (.Name x pos) p (σ.set i (.val p)) := .mk <| fun A hid s Q E v R S r k =>
  wp_asgName O S e1 (.inr rfl) (fun _ c hc => ⟨K.up i x c e1 hc, fun j y k' _ e => K.inj x y c hc e⟩) r fun a h' tk _ _ g S' => k hid h' tk g S'
theorem cellsFrom_old : ∀ (names : List (Str × NameKind)) (base : Nat) (acc : List (Str × Addr)) (y : Str), (∀ k, (y, k) ∈ names → k ≠ .cell) → (cellsFrom base names acc).lookup y = acc.lookup y
  | [], _, _, _, _ => rfl
  | (z, k) :: r, base, acc, y, h => by
    unfold cellsFrom
    split
    · rename_i hk
      have hk' : k = .cell := by cases k <;> first | rfl | cases hk
      subst hk'
      have zy : y ≠ z := fun q => h .cell (by rw [q]; exact List.mem_cons_self) rfl
      rw [cellsFrom_old r _ _ y fun k m => h k (List.mem_cons_of_mem _ m), List.lookup_cons, show (y == z) = false by simpa using zy]
    · exact cellsFrom_old r _ _ y fun k m => h k (List.mem_cons_of_mem _ m)
theorem cellsFrom_own : ∀ (names : List (Str × NameKind)) (h : Heap) (acc : List (Str × Addr)) (x : Str), (names.map (·.1)).Nodup → (x, NameKind.cell) ∈ names →
    ∃ c, (cellsFrom h.objs.size names acc).lookup x = some c ∧ h.objs.size ≤ c ∧ (pushCells h names).IsCell c none
  | [], _, _, _, _, hx => nomatch hx
  | (z, k) :: r, h, acc, x, nd, hx => by
    rw [List.map_cons, List.nodup_cons] at nd
    unfold cellsFrom pushCells
    rcases List.mem_cons.mp hx with q | q
    · cases q
      simp only [show (NameKind.cell == NameKind.cell) = true from rfl, if_true]
      refine ⟨h.objs.size, ?_, Nat.le_refl _, ?_⟩
      · rw [cellsFrom_old r _ _ z fun k m e => nd.1 (List.mem_map.mpr ⟨_, m, rfl⟩)]
        simp [List.lookup_cons]
      · exact ⟨_, pushCells_keeps _ _ _ _ (Heap.get?_push_size _ rfl), rfl⟩
    · split
      · rename_i hk
        have := cellsFrom_own r (h.push { cls := .type "cell", data := .cell none }) ((z, h.objs.size) :: acc) x nd.2 q
        rw [Heap.size_push] at this
        obtain ⟨c, a, b, d⟩ := this
        exact ⟨c, a, by omega, d⟩
      · exact cellsFrom_own r h acc x nd.2 q
theorem relabel_at {scope : Scope} {env : Env} {i : Nat} {y : Str} {k : NameKind} (e : scope.names[i]? = some (y, k)) : (relabel scope env).names[i]? = some (if (k == .free && env.scope.kind == .function && env.kindOf y == some .cell) then (y, .cell) else (y, k)) := by
  unfold relabel
  rw [List.getElem?_map, e]; rfl
theorem relabel_from {scope : Scope} {env : Env} {i : Nat} {y : Str} {k : NameKind} (e : (relabel scope env).names[i]? = some (y, k)) : ∃ k', scope.names[i]? = some (y, k') ∧ (k = k' ∨ (k' = .free ∧ k = .cell)) := by
  unfold relabel at e
  rw [List.getElem?_map] at e
  obtain ⟨⟨z, k'⟩, e1, e2⟩ := Option.map_eq_some_iff.mp e
  dsimp only at e2
  split at e2
  · rename_i h
    cases e2
    simp only [Bool.and_eq_true] at h
    have : k' = .free := by cases k' <;> first | rfl | (have := h.1.1; cases this)
    exact ⟨k', e1, .inr ⟨this, rfl⟩⟩
  · cases e2; exact ⟨_, e1, .inl rfl⟩
theorem relabel_fst {scope : Scope} {env : Env} : (relabel scope env).names.map (·.1) = scope.names.map (·.1) := by
  unfold relabel
  rw [List.map_map]
  refine List.map_congr_left fun x _ => ?_
  dsimp only [Function.comp]
  split <;> rfl
theorem VR.flat' {hid hid' : List Addr} {h h' : Heap} : ∀ {p : PV} {v : Value}, p.flat = true → VR hid h p v → VR hid' h' p v
  | .none, _, _, x => x
  | .bool _, _, _, x => x
  | .int _, _, _, x => x
  | .str _, _, _, x => x
  | .fn _, _, _, x => x
  | .lst _, _, f, _ => by cases f
  | .tup _, _, f, _ => by cases f
theorem VRs.flat' {hid hid' : List Addr} {h h' : Heap} : ∀ {ps : List PV} {vs : List Value}, (∀ p ∈ ps, p.flat = true) → VRs hid h ps vs → VRs hid' h' ps vs
  | [], _, _, x => x
  | _ :: _, _, f, ⟨v, r, e, a, b⟩ => ⟨v, r, e, VR.flat' (f _ List.mem_cons_self) a, VRs.flat' (fun p m => f p (List.mem_cons_of_mem _ m)) b⟩
/-- an address of hid that no name of the frame bears may turn -/
theorem St.touch (S : St C hid σ h) {h' : Heap} {l : Addr} {us : List Value} {m : Nat} (hl : l ∈ hid) (up : C.h₀.objs.size ≤ l) (no : ∀ (i : Nat) xs, σ[i]? ≠ some (.own xs))
    (ho : h'.get? l = some (LObj us m)) (sb : Heap.SameBut l h h') : St C hid σ h' := by
  obtain ⟨vs0, n0, hlo⟩ := S.isl l hl
  have D : ∀ b o, h.get? b = some o → (∀ vs n, o.data ≠ .seq vs n) → h'.get? b = some o := fun b o e q => by
    by_cases hb : b = l
    · subst hb; rw [hlo] at e; cases e; exact absurd rfl (q _ _)
    · rw [sb.2 b hb]; exact e
  have st : Stays hid h h' := fun b o e _ nb => by rw [sb.2 b (fun q => nb (q ▸ hl))]; exact e
  have other : ∀ y k w, Has C.env h y k w → Has C.env h' y k w := fun y k w H => by
    cases k <;> simp only [Has] at H ⊢
    case «local» =>
      obtain ⟨m', ⟨o, es, ep, e, d, r⟩, hv⟩ := H
      exact ⟨m', ⟨o, es, ep, D _ o e (fun v n q => by rw [d] at q; cases q), d, r⟩, hv⟩
    all_goals
      obtain ⟨c', hc', o, e, d⟩ := H
      exact ⟨c', hc', o, D _ o e (fun v n q => by rw [d] at q; cases q), d⟩
  refine { gl := S.gl, keep := fun b o e => ?_, sub := S.sub, isl := fun a ha => ?_, loc := ?_, up := S.up, vals := ?_, owns := ?_, apart := ?_, cells := ?_ }
  · have := Heap.lt_size e
    rw [sb.2 b (Nat.ne_of_lt (Nat.lt_of_lt_of_le this up))]
    exact S.keep b o e
  · by_cases q : a = l
    · subst q; exact ⟨us, m, ho⟩
    · obtain ⟨vs, n, e⟩ := S.isl a ha
      exact ⟨vs, n, by rw [sb.2 a q]; exact e⟩
  · obtain ⟨m, o, es, ep, e, d, r⟩ := S.loc
    exact ⟨m, o, es, ep, D _ o e (fun v n q => by rw [d] at q; cases q), d, r⟩
  · intro j y k q ej es
    obtain ⟨u, a, b⟩ := S.vals j y k q ej es
    exact ⟨u, other y k u a, VR.stays st b⟩
  · intro j y k' zs ej es
    exact absurd es (no j zs)
  · intro j₁ j₂ y k₁ z k₂ ys zs l' e₁ e₂ s₁
    exact absurd s₁ (no j₁ ys)
  · intro j y ej
    obtain ⟨c', w, hc', o, e, d⟩ := S.cells j y ej
    exact ⟨c', w, hc', o, D _ o e (fun v n q => by rw [d] at q; cases q), d⟩
end
end Mine
-- Cq
namespace Mine
open PySem PySem.Calls PyProof.Rows PySem.W
section
variable {n : Nat} {C : Cx} {σ : List Slot} {p q r : PV} {ps out : List PV} {hid : List Addr}
/-- the facts of a comprehension that its text tells -/
structure CompOk (C : Cx) (σ : List Slot) (scope : Scope) (nm' : List (Str × NameKind)) (σ' : List Slot) (x : Str) : Prop where
  free : ∀ y, (y, NameKind.free) ∈ scope.names → ∃ j : Nat, C.nm[j]? = some (y, .cell)
  once : (scope.names.map (·.1)).Nodup
  kind : scope.kind = .function
  nm : (relabel scope C.env).names = nm'
  target : ∃ kx, scope.names[1]? = some (x, kx) ∧ (kx = .local ∨ kx = .cell)
  pulls : Pulls C.nm σ scope.names σ'
  len : 1 < σ'.length
  solo : ∀ y, (y, NameKind.cell) ∈ scope.names → y = x
theorem comp_ok (O : C.Ok) {s : Shared} (S : St C hid σ s.heap) {scope : Scope} {nm' : List (Str × NameKind)} {σ' : List Slot} {x : Str} (K : CompOk C σ scope nm' σ' x) (cl : List (Str × Addr)) (L : Addr) : (compCx C scope cl L C.h₀ C.inh nm').Ok where
  kind := K.kind
  glob := O.glob
  blt := O.blt
  names := K.nm
  once := by show (nm'.map (·.1)).Nodup; rw [← K.nm, relabel_fst]; exact K.once
  old := O.old
theorem same_kind {ns : List (Str × NameKind)} (nd : (ns.map (·.1)).Nodup) {y : Str} {k k' : NameKind} (h : (y, k) ∈ ns) (h' : (y, k') ∈ ns) : k = k' := by
  obtain ⟨i, e⟩ := List.getElem?_of_mem h
  obtain ⟨j, e'⟩ := List.getElem?_of_mem h'
  have a := lookup_at nd e
  have b := lookup_at nd e'
  rw [a] at b; cases b; rfl
/-- the frame of the comprehension as its loop begins -/
theorem comp_start (O : C.Ok) {s : Shared} (S : St C hid σ s.heap) {scope : Scope} {nm' : List (Str × NameKind)} {σ' : List Slot} {x : Str} (K : CompOk C σ scope nm' σ' x) {cl : List (Str × Addr)}
    (hcl : ∀ y c, (y, c) ∈ cl → C.env.cells.lookup y = some c ∧ (y, NameKind.free) ∈ scope.names) (hcl2 : ∀ y, (y, NameKind.free) ∈ scope.names → ∃ c, cl.lookup y = some c) {hi : Heap} (k1 : Keeps s.heap hi) (ob : Obj) (hob : ob = LObj [] 0) :
    St (compCx C scope (cellsFrom (hi.objs.size + 2) scope.names cl) (hi.objs.size + 1) C.h₀ C.inh nm') (hi.objs.size :: hid) σ' (pushCells ((hi.push ob).push { cls := .type "dict", data := .dict #[] }) scope.names) ∧
      Keeps hi (pushCells ((hi.push ob).push { cls := .type "dict", data := .dict #[] }) scope.names) ∧
      (pushCells ((hi.push ob).push { cls := .type "dict", data := .dict #[] }) scope.names).get? hi.objs.size = some (LObj [] 0) ∧
      (∀ c, (cellsFrom (hi.objs.size + 2) scope.names cl).lookup x = some c → (∃ kx, scope.names[1]? = some (x, kx) ∧ kx = .cell) → hi.objs.size + 2 ≤ c ∧ ∀ (j : Nat) y k', nm'[j]? = some (y, k') → (cellsFrom (hi.objs.size + 2) scope.names cl).lookup y = some c → y = x) := by
  subst hob
  have sz2 : ((hi.push (LObj [] 0)).push { cls := .type "dict", data := .dict #[] }).objs.size = hi.objs.size + 2 := by rw [Heap.size_push, Heap.size_push]
  have sz1 : (hi.push (LObj [] 0)).objs.size = hi.objs.size + 1 := by rw [Heap.size_push]
  have kp : Keeps hi (pushCells ((hi.push (LObj [] 0)).push { cls := .type "dict", data := .dict #[] }) scope.names) := fun b o e => pushCells_keeps _ _ _ _ (Heap.get?_push_of_some _ (Heap.get?_push_of_some _ e))
  have gD : (pushCells ((hi.push (LObj [] 0)).push { cls := .type "dict", data := .dict #[] }) scope.names).get? hi.objs.size = some (LObj [] 0) :=
    pushCells_keeps _ _ _ _ (Heap.get?_push_of_some _ (Heap.get?_push_size _ rfl))
  have nD : s.heap.get? hi.objs.size = none := fresh_of k1
  have szle : C.h₀.objs.size ≤ hi.objs.size := by
    obtain ⟨m, hm⟩ := (S.keeps k1).loc
    exact Nat.le_trans S.up (Nat.le_of_lt hm.lt)
  have live : ∀ (y : Str) c, (y, NameKind.free) ∈ scope.names → cl.lookup y = some c → ∃ j : Nat, C.nm[j]? = some (y, .cell) ∧ C.env.cells.lookup y = some c := fun y c hy e => by
    obtain ⟨j, ej⟩ := K.free y hy
    exact ⟨j, ej, (hcl y c (mem_of_lookup e)).1⟩
  have oldL : ∀ y, (y, NameKind.free) ∈ scope.names → (cellsFrom (hi.objs.size + 2) scope.names cl).lookup y = cl.lookup y := fun y hy => cellsFrom_old _ _ _ y fun k hk => by
    rw [same_kind K.once hk hy]; exact fun e => by cases e
  have nmAt : ∀ {i : Nat} {y : Str} {k : NameKind}, nm'[i]? = some (y, k) → ∃ k', scope.names[i]? = some (y, k') ∧ (k = k' ∨ (k' = .free ∧ k = .cell)) := fun {i y k} e => by rw [← K.nm] at e; exact relabel_from e
  have sub : ∀ a ∈ hi.objs.size :: hid, (∃ o, s.heap.get? a = some o) → a ∈ hid := fun a ha ⟨o, e⟩ => by
    rcases List.mem_cons.mp ha with rfl | q
    · rw [nD] at e; cases e
    · exact q
  have kall := k1.trans kp
  refine ⟨{ gl := S.gl, keep := S.keep.trans kall, sub := fun a ha => List.mem_cons_of_mem _ (S.sub a ha), isl := fun a ha => ?_, loc := ?_, up := ?_, vals := ?_, owns := ?_, apart := ?_, cells := ?_ }, kp, gD, ?_⟩
  · rcases List.mem_cons.mp ha with rfl | q
    · exact ⟨_, _, gD⟩
    · obtain ⟨vs, m, e⟩ := S.isl a q; exact ⟨vs, m, kall _ _ e⟩
  · refine ⟨fun _ => none, ?_⟩
    have := (Heap.Ns.new (hi.push (LObj [] 0)) (.type "dict")).keeps (fun b o e => pushCells_keeps scope.names _ b o e)
    rw [sz1] at this
    exact this
  · show C.h₀.objs.size ≤ hi.objs.size + 1
    omega
  · intro i y k p e1 e2
    obtain ⟨y', ey, j, ej, es⟩ := K.pulls.at i e2
    obtain ⟨k', ek, kk⟩ := nmAt e1
    rw [ey] at ek; cases ek
    obtain ⟨v, H, rv⟩ := S.vals j y .cell p ej es
    obtain ⟨c, hc, hv⟩ := H
    have hy := List.mem_of_getElem? ey
    obtain ⟨c', hc'⟩ := hcl2 y hy
    have := (hcl y c' (mem_of_lookup hc')).1
    rw [hc] at this; cases this
    have kc : k = .cell := by
      rcases kk with rfl | ⟨_, q⟩
      · have e1' : (relabel scope C.env).names[i]? = some (y, .free) := by rw [K.nm]; exact e1
        rw [relabel_at ey] at e1'
        rw [O.kindOf ej, O.kind] at e1'
        cases e1'
      · exact q
    subst kc
    exact ⟨v, ⟨c, by show (cellsFrom _ _ _).lookup y = _; rw [oldL y hy]; exact hc', hv.keeps kall⟩, (VR.sub sub rv).keeps kall⟩
  · intro i y k xs e1 e2
    exact absurd e2 (K.pulls.noOwn i)
  · intro i j y k z k' xs ys l e1 e2 s1
    exact absurd s1 (K.pulls.noOwn i)
  · intro i y e1
    obtain ⟨k', ek, kk⟩ := nmAt e1
    rcases kk with rfl | ⟨rfl, _⟩
    · obtain ⟨c, a, b, d⟩ := cellsFrom_own scope.names ((hi.push (LObj [] 0)).push { cls := .type "dict", data := .dict #[] }) cl y K.once (List.mem_of_getElem? ek)
      rw [sz2] at a
      exact ⟨c, _, a, d⟩
    · have hy := List.mem_of_getElem? ek
      obtain ⟨c', hc'⟩ := hcl2 y hy
      obtain ⟨j, ej, hl⟩ := live y c' hy hc'
      obtain ⟨c, v, a, b⟩ := S.cells j y ej
      rw [hl] at a; cases a
      exact ⟨c', v, by show (cellsFrom _ _ _).lookup y = _; rw [oldL y hy]; exact hc', b.keeps kall⟩
  · rintro c hc ⟨kx, ex, rfl⟩
    obtain ⟨c', a, b, d⟩ := cellsFrom_own scope.names ((hi.push (LObj [] 0)).push { cls := .type "dict", data := .dict #[] }) cl x K.once (List.mem_of_getElem? ex)
    rw [sz2] at a b
    rw [hc] at a; cases a
    refine ⟨b, fun j y k' ej ey => ?_⟩
    obtain ⟨k₂, ek, _⟩ := nmAt ej
    have hm := List.mem_of_getElem? ek
    by_cases hcell : k₂ = .cell
    · subst hcell
      exact K.solo y hm
    · have : (cellsFrom (hi.objs.size + 2) scope.names cl).lookup y = cl.lookup y := cellsFrom_old _ _ _ y fun k hk => by rw [same_kind K.once hk hm]; exact hcell
      rw [this] at ey
      obtain ⟨e2, e3⟩ := hcl y c (mem_of_lookup ey)
      obtain ⟨j2, ej2⟩ := K.free y e3
      obtain ⟨c2, v2, a2, o2, e4, _⟩ := S.cells j2 y ej2
      rw [e2] at a2; cases a2
      have := Heap.lt_size (k1 _ _ e4)
      exact absurd (Nat.lt_of_lt_of_le this (Nat.le_trans (Nat.le_add_right _ 2) b)) (Nat.lt_irrefl _)
end
end Mine
-- Cr
namespace Mine
open PySem PySem.Calls PyProof.Rows PySem.W
section
variable {n : Nat} {C : Cx} {σ : List Slot} {p q r : PV} {ps out : List PV} {hid : List Addr}
theorem comp_loop {scope : Scope} {nm' : List (Str × NameKind)} {σ' : List Slot} {x : Str} {px pos : Pos} {elt iter : Expr} {ifs : List Expr} {cells : List (Str × Addr)} {L D I : Addr} {wr : List Addr} {J : Nat → Heap → Prop} {hi s0heap : Heap} {kx : NameKind}
    (O : (compCx C scope cells L C.h₀ C.inh nm').Ok) (e1 : nm'[1]? = some (x, kx)) (hk : kx = .local ∨ kx = .cell)
    (own : kx = .cell → ∀ c, cells.lookup x = some c → hi.objs.size + 2 ≤ c ∧ ∀ (j : Nat) y k', nm'[j]? = some (y, k') → cells.lookup y = some c → y = x)
    (it : ItC n C.prog C.w hi hid I wr ps J) (hD : D = hi.objs.size) (hL : L = hi.objs.size + 1) (szle : C.h₀.objs.size ≤ hi.objs.size) (noOwn : ∀ (i : Nat) xs, σ'[i]? ≠ some (.own xs)) (hz : ps.length ≤ 100000) (wrf : ∀ b ∈ wr, ∃ o vs, hi.get? b = some o ∧ o.data = .fields vs) (wrh : ∀ b ∈ wr, C.h₀.get? b = none)
    {A : Around} {RR : Result → Shared → Prop} (R : Room n A) {s₀ : Shared}
    (k : ∀ h' tk vs m mm, (∀ b o, b ∉ wr → hi.get? b = some o → h'.get? b = some o) → h'.get? D = some (LObj vs m) → VRs hid h' out vs → h'.Ns L mm → RR (.ok .next) { s₀ with heap := h', toks := tk })
    (s : Shared) (hs0 : s = { s₀ with heap := s.heap, toks := s.toks }) (hJ : J 0 s.heap) (S : St (compCx C scope cells L C.h₀ C.inh nm') (D :: hid) σ' s.heap) (hDo : s.heap.get? D = some (LObj [] 0)) (hKB : ∀ b o, b ∉ wr → hi.get? b = some o → s.heap.get? b = some o)
    (hC : CompOut n (compCx C scope cells L C.h₀ C.inh nm') σ' ifs elt ps out) :
    codeAny (model C.prog C.w) A (.compLoop (.ListComp elt [⟨.Name x px, iter, ifs, 0⟩] scope pos) 0 (.ref I) (.ref D) (compEnvC scope cells L C.env)) RR s := by
  have wrl : ∀ b ∈ wr, b < hi.objs.size := fun b hb => let ⟨o, _, e, _⟩ := wrf b hb; Heap.lt_size e
  refine codeAny_compLoop_tests (fun kk s' => ∃ i rest σc acc orest vs m, kk = rest.length ∧ i ≤ ps.length ∧ ps.drop i = rest ∧ s' = { s₀ with heap := s'.heap, toks := s'.toks } ∧ J i s'.heap ∧ St (compCx C scope cells L C.h₀ C.inh nm') (D :: hid) σc s'.heap ∧
    (∀ t, σc.set 1 t = σ'.set 1 t) ∧ (∀ (i : Nat) xs, σc[i]? ≠ some (.own xs)) ∧ s'.heap.get? D = some (LObj vs m) ∧ (∀ p ∈ acc, p.flat = true) ∧ VRs hid s'.heap acc vs ∧ acc.length ≤ i ∧ CompOut n (compCx C scope cells L C.h₀ C.inh nm') σ' ifs elt rest orest ∧ acc ++ orest = out ∧
    (∀ b o, b ∉ wr → hi.get? b = some o → s'.heap.get? b = some o)) ?_ ps.length ⟨0, ps, σ', [], out, [], 0, rfl, Nat.zero_le _, rfl, hs0, hJ, S, fun _ => rfl, noOwn, hDo, (by intro p hp; cases hp), rfl, Nat.le_refl _, hC, rfl, hKB⟩
  rintro kk s' ⟨i, rest, σc, acc, orest, vs, m, rfl, hle, hdrop, hsh, hJi, hS, hset, hno, hDi, hfl, hvs, hacc, hout, happ, hkb⟩
  have hst : Stays hid hi s'.heap := fun b o e u nb => hkb b o (fun m => by
    obtain ⟨o', vs', e', d⟩ := wrf b m
    obtain ⟨xs, nn, d'⟩ := u
    rw [e] at e'; cases e'
    rw [d] at d'; cases d') e
  cases rest with
  | nil =>
    have hi' := drop_end hle hdrop
    cases hout
    rw [List.append_nil] at happ
    subst happ
    refine it.done A s' _ _ R (hi' ▸ hJi) hst fun h' tk sb => ?_
    have hDw : D ∉ wr := fun q => by have h := wrl D q; rw [hD] at h; exact Nat.lt_irrefl _ h
    obtain ⟨mm, hmm⟩ := hS.loc
    obtain ⟨oL, es, ep, eL, dL, rL⟩ := hmm
    have hLw : L ∉ wr := fun q => by have h := wrl L q; rw [hL] at h; exact absurd h (Nat.not_lt_of_le (Nat.le_succ _))
    rw [hsh]
    exact k h' tk vs m mm (fun b o nb e => sb b o nb (hkb b o nb e)) (sb D _ hDw hDi) (VRs.flat' hfl hvs) ⟨oL, es, ep, sb L oL hLw eL, dL, rL⟩
  | cons p rest =>
    obtain ⟨hp, hd⟩ := drop_at hdrop
    have hle' : i + 1 ≤ ps.length := (List.getElem?_eq_some_iff.mp hp).1
    refine it.item A i s' _ _ p (D :: hid) R hJi hst hp (fun a ha => List.mem_cons_of_mem _ ha) (fun a ha ⟨o, e⟩ => ?_) fun v h1 tk1 j1 r1 sb1 exf1 => ?_
    · rcases List.mem_cons.mp ha with rfl | q
      · rw [hD] at e; exact absurd (Heap.lt_size e) (Nat.lt_irrefl _)
      · exact q
    have hDw : D ∉ wr := fun q => by have h := wrl D q; rw [hD] at h; exact Nat.lt_irrefl _ h
    have S1 : St (compCx C scope cells L C.h₀ C.inh nm') (D :: hid) σc h1 := hS.fieldsL (wr := wr) (fun a ha o e => by
      obtain ⟨o', vs', e', d⟩ := it.fld i _ hJi a ha
      rw [e] at e'; cases e'; exact ⟨vs', d⟩) wrh sb1
    have hD1 := sb1 D _ hDw hDi
    have kb1 : ∀ b o, b ∉ wr → hi.get? b = some o → h1.get? b = some o := fun b o nb e => sb1 b o nb (hkb b o nb e)
    show wpAny _ A (PySem.assign (.Name x px) (compEnvC scope cells L C.env) v) _ _ _
    refine wp_asgName (C := compCx C scope cells L C.h₀ C.inh nm') O (s := { s' with heap := h1, toks := tk1 }) S1 e1 hk (fun kc c hc => ?_) r1 fun a h2 tk2 ha sb2 g2 S2 => ?_
    · obtain ⟨u, f⟩ := own kc c hc
      exact ⟨Nat.le_trans szle (Nat.le_trans (Nat.le_add_right _ 2) u), f⟩
    have sb2 : Heap.SameBut a h1 h2 := sb2
    have haU : hi.objs.size + 1 ≤ a := by
      rcases ha with rfl | ⟨kc, hc⟩
      · exact Nat.le_of_eq hL.symm
      · exact Nat.le_trans (Nat.le_succ _) (own kc a hc).1
    have haD : D ≠ a := Nat.ne_of_lt (by rw [hD]; exact Nat.lt_of_succ_le haU)
    have haw : a ∉ wr := fun q => absurd (wrl a q) (Nat.not_lt_of_le (Nat.le_of_succ_le haU))
    have hD2 : h2.get? D = some (LObj vs m) := by rw [sb2.2 D haD]; exact hD1
    have kb2 : ∀ b o, b ∉ wr → hi.get? b = some o → h2.get? b = some o := fun b o nb e => by
      have := Heap.lt_size e
      rw [sb2.2 b (Nat.ne_of_lt (Nat.lt_of_lt_of_le this (Nat.le_of_succ_le haU)))]; exact kb1 b o nb e
    have j2 : J (i + 1) h2 := it.frame _ _ _ j1 fun b hb o e => by rw [sb2.2 b (fun q => haw (q ▸ hb))]; exact e
    rw [hset] at S2
    have hno2 : ∀ (j : Nat) xs, (σ'.set 1 (Slot.val p))[j]? ≠ some (.own xs) := fun j xs e => by
      rcases set_at e with ⟨_, f⟩ | ⟨_, f⟩
      · cases f
      · exact noOwn j xs f
    cases hout with
    | @cons _ _ rr orest' hstep hout' =>
    -- the turn's end
    have fin : ∀ (h3 : Heap) (tk3 : Nat), Keeps h2 h3 → rr = none → ∃ mm, mm < (p :: rest).length ∧ ∃ i rest σc acc orest vs m, mm = rest.length ∧ i ≤ ps.length ∧ ps.drop i = rest ∧ ({ s' with heap := h3, toks := tk3 } : Shared) = { s₀ with heap := h3, toks := tk3 } ∧ J i h3 ∧ St (compCx C scope cells L C.h₀ C.inh nm') (D :: hid) σc h3 ∧
        (∀ t, σc.set 1 t = σ'.set 1 t) ∧ (∀ (i : Nat) xs, σc[i]? ≠ some (.own xs)) ∧ h3.get? D = some (LObj vs m) ∧ (∀ p ∈ acc, p.flat = true) ∧ VRs hid h3 acc vs ∧ acc.length ≤ i ∧ CompOut n (compCx C scope cells L C.h₀ C.inh nm') σ' ifs elt rest orest ∧ acc ++ orest = out ∧
        (∀ b o, b ∉ wr → hi.get? b = some o → h3.get? b = some o) := fun h3 tk3 k3 hr => by
      subst hr
      refine ⟨rest.length, by simp, i + 1, rest, σ'.set 1 (.val p), acc, orest', vs, m, rfl, hle', hd, by rw [hsh], ?_, S2.keeps k3, fun t => List.set_set .., hno2, k3 _ _ hD2, hfl, VRs.flat' hfl hvs, Nat.le_succ_of_le hacc, hout', by simpa using happ, fun b o nb e => k3 b o (kb2 b o nb e)⟩
      exact it.frame _ _ _ j2 fun b hb o e => k3 b o e
    have add : ∀ (h2' : Heap) (tk2' : Nat) (EE : Value → Shared → Prop), Keeps h2 h2' → ∀ q, rr = some q → q.flat = true → Ev n (compCx C scope cells L C.h₀ C.inh nm') (σ'.set 1 (.val p)) (eval elt (compEnvC scope cells L C.env)) q →
        wpAny (model C.prog C.w) A (eval elt (compEnvC scope cells L C.env)) (fun x s₄ => wpAny (model C.prog C.w) A (call (.builtin "list.append") [.ref D, x]) (fun _ s₅ => ∃ mm, mm < (p :: rest).length ∧ ∃ i rest σc acc orest vs m, mm = rest.length ∧ i ≤ ps.length ∧ ps.drop i = rest ∧ s₅ = { s₀ with heap := s₅.heap, toks := s₅.toks } ∧ J i s₅.heap ∧ St (compCx C scope cells L C.h₀ C.inh nm') (D :: hid) σc s₅.heap ∧
        (∀ t, σc.set 1 t = σ'.set 1 t) ∧ (∀ (i : Nat) xs, σc[i]? ≠ some (.own xs)) ∧ s₅.heap.get? D = some (LObj vs m) ∧ (∀ p ∈ acc, p.flat = true) ∧ VRs hid s₅.heap acc vs ∧ acc.length ≤ i ∧ CompOut n (compCx C scope cells L C.h₀ C.inh nm') σ' ifs elt rest orest ∧ acc ++ orest = out ∧
        (∀ b o, b ∉ wr → hi.get? b = some o → s₅.heap.get? b = some o)) EE s₄) EE { s' with heap := h2', toks := tk2' } := fun h2' tk2' EE k2' q hr hq hE => by
      subst hr
      refine hE.run A (D :: hid) { s' with heap := h2', toks := tk2' } _ _ R (S2.keeps k2') fun u h3 tk3 k3 r3 => ?_
      have k23 : Keeps h2 h3 := k2'.trans k3
      have hlen : vs.length = acc.length := hvs.length
      refine wp_append (k23 _ _ hD2) (by omega) fun h4 m4 ho4 sb4 => ?_
      have sb4 : Heap.SameBut D h3 h4 := sb4
      have S3 := S2.keeps k23
      have hup : C.h₀.objs.size ≤ D := by rw [hD]; exact szle
      have S4 : St (compCx C scope cells L C.h₀ C.inh nm') (D :: hid) (σ'.set 1 (.val p)) h4 := S3.touch List.mem_cons_self hup hno2 ho4 sb4
      refine ⟨rest.length, by simp, i + 1, rest, σ'.set 1 (.val p), acc ++ [q], orest', vs ++ [u], m4, rfl, hle', hd, by rw [hsh], ?_, S4, fun t => List.set_set .., hno2, ho4, fun z hz => ?_, ?_, by rw [List.length_append]; exact Nat.succ_le_succ hacc, hout', by simpa using happ, fun b o nb e => ?_⟩
      · refine it.frame _ _ _ j2 fun b hb o e => ?_
        rw [sb4.2 b (fun q => hDw (q ▸ hb))]; exact k23 b o e
      · rcases List.mem_append.mp hz with z1 | z1
        · exact hfl z z1
        · rw [List.mem_singleton.mp z1]; exact hq
      · exact (VRs.flat' hfl hvs).append (.one (VR.flat' hq r3))
      · have := Heap.lt_size e
        rw [sb4.2 b (Nat.ne_of_lt (by rw [hD]; exact this))]; exact k23 b o (kb2 b o nb e)
    unfold CStep at hstep
    split at hstep
    · obtain ⟨q, hr, hq, hE⟩ := hstep
      rw [List.forIn_nil]
      refine wpAny_pure ?_
      rw [if_pos rfl]
      exact add h2 tk2 _ (.refl _) q hr hq hE
    · obtain ⟨b, hT, hY, hN⟩ := hstep
      rw [List.forIn_cons, if_pos rfl]
      refine wpAny_bind (wpAny_bind (hT.run A (D :: hid) { s' with heap := h2, toks := tk2 } _ _ R S2 fun h3 tk3 k3 => wpAny_pure ?_))
      dsimp only
      rw [List.forIn_nil]
      refine wpAny_pure ?_
      cases b with
      | true =>
        rw [if_pos rfl]
        obtain ⟨q, hr, hq, hE⟩ := hY rfl
        exact add h3 tk3 _ k3 q hr hq hE
      | false =>
        rw [if_neg Bool.false_ne_true]
        exact fin h3 tk3 k3 (hN rfl)
    · exact hstep.elim
end
end Mine
-- Cs
namespace Mine
open PySem PySem.Calls PyProof.Rows PySem.W
section
variable {n : Nat} {C : Cx} {σ : List Slot} {p q r : PV} {ps out : List PV} {hid : List Addr}
/-- a dict that is no part of the frame may turn -/
theorem St.dictGo {h h' : Heap} (S : St C hid σ h) {L : Addr} {mm : Str → Option Value} (hn : h.Ns L mm) (sb : Heap.SameBut L h h') (nl : C.env.locals ≠ L) (n0 : C.h₀.get? L = none) : St C hid σ h' := by
  have D : ∀ b o, h.get? b = some o → (∀ es n, o.data ≠ .dict es n) → h'.get? b = some o := fun b o e q => by
    by_cases hb : b = L
    · subst hb
      obtain ⟨es, ep, d⟩ := Ns_data hn e
      exact absurd d (q es ep)
    · rw [sb.2 b hb]; exact e
  have DL : ∀ b vs n, h.get? b = some (LObj vs n) → h'.get? b = some (LObj vs n) := fun b vs n e => D b _ e (fun _ _ q => by cases q)
  have st : Stays hid h h' := fun b o e ⟨xs, n, d⟩ _ => D b o e (fun _ _ q => by rw [d] at q; cases q)
  have other : ∀ y k w, Has C.env h y k w → Has C.env h' y k w := fun y k w H => by
    cases k <;> simp only [Has] at H ⊢
    case «local» =>
      obtain ⟨m', ⟨o, es, ep, e, d, r⟩, hv⟩ := H
      exact ⟨m', ⟨o, es, ep, by rw [sb.2 _ nl]; exact e, d, r⟩, hv⟩
    all_goals
      obtain ⟨c', hc', o, e, d⟩ := H
      exact ⟨c', hc', o, D _ o e (fun _ _ q => by rw [d] at q; cases q), d⟩
  refine { gl := S.gl, keep := fun b o e => ?_, sub := S.sub, isl := fun a ha => let ⟨vs, n, e⟩ := S.isl a ha; ⟨vs, n, DL a vs n e⟩, loc := ?_, up := S.up, vals := ?_, owns := ?_, apart := ?_, cells := ?_ }
  · rw [sb.2 b (fun q => by rw [q, n0] at e; cases e)]; exact S.keep b o e
  · obtain ⟨m, o, es, ep, e, d, r⟩ := S.loc
    exact ⟨m, o, es, ep, by rw [sb.2 _ nl]; exact e, d, r⟩
  · intro j y k q ej es
    obtain ⟨u, a, b⟩ := S.vals j y k q ej es
    exact ⟨u, other y k u a, VR.stays st b⟩
  · intro j y k xs ej es
    obtain ⟨l, vs, n, a, b, c, d, f⟩ := S.owns j y k xs ej es
    exact ⟨l, vs, n, other y k _ a, b, c, DL _ _ _ d, VRs.stays st f⟩
  · exact apart_of S fun j y k xs ej es => let ⟨l, vs, n, a, _⟩ := S.owns j y k xs ej es; ⟨xs, l, es, a, other y k _ a⟩
  · intro j y ej
    obtain ⟨c', w, hc', o, e, d⟩ := S.cells j y ej
    exact ⟨c', w, hc', o, D _ o e (fun _ _ q => by rw [d] at q; cases q), d⟩
theorem wp_comp (O : C.Ok) {scope : Scope} {nm' : List (Str × NameKind)} {σ' : List Slot} {x : Str} {px pos pos' : Pos} {elt iter : Expr} {ifs : List Expr} (K : CompOk C σ scope nm' σ' x) (hit : EvItC n C σ iter ps)
    (hbody : ∀ cl L, (compCx C scope cl L C.h₀ C.inh nm').Ok → CompOut n (compCx C scope cl L C.h₀ C.inh nm') σ' ifs elt ps out) (hz : ps.length ≤ 100000) (hs : ∀ x, foldedSetIterable iter C.env x = pure x)
    {A : Around} {s : Shared} (R : Room n A) (S : St C hid σ s.heap) {use : Option (Value → Sem Unit)} {Q : Value → Shared → Prop} {E : Value → Shared → Prop}
    (k : ∀ D L h' tk vs m mm, Keeps s.heap h' → s.heap.get? D = none → s.heap.get? L = none → D ≠ L → h'.get? D = some (LObj vs m) → VRs hid h' out vs → h'.Ns L mm →
      compPost (model C.prog C.w) A E use Q (.ref D) L (.ok .next) { s with heap := h', toks := tk }) :
    wpAny (model C.prog C.w) A (comprehension (.ListComp elt [⟨.Name x px, iter, ifs, 0⟩] scope pos) scope C.env pos' (newList []) false (eval iter C.env) use) Q E s := by
  obtain ⟨cl, hclos, hcl, hcl2⟩ := closureFor_ok (scope := scope) (env := C.env) fun y hy => by
    obtain ⟨j, ej⟩ := K.free y hy
    obtain ⟨c, v, a, b⟩ := S.cells j y ej
    exact ⟨c, a⟩
  have hnames : ∀ y ∈ scope.names, y.2 = .local → scope.names.lookup y.1 = some .local := fun y hy e => by
    obtain ⟨i, ei⟩ := List.getElem?_of_mem hy
    rw [lookup_at K.once (x := y.1) (k := y.2) ei, e]
  refine wpAny_comprehension_free (use := use) rfl hs hclos K.kind hnames (hit.run A hid s _ E R S fun I wr J hi tk k1 it j0 fresh => ?_)
  refine wpAny_newObj_type ?_
  simp only [newFunctionEnv, Option.isSome_some, if_true]
  refine wpAny_bind (wpAny_alloc ?_)
  refine wpAny_bind (wpAny_layCells _ (fun name kind cells => by cases hkc : kind == NameKind.cell <;> simp [hkc]) _ _ _ _ ?_)
  dsimp only
  rw [List.forIn_nil]
  refine wpAny_bind (wpAny_pure (wpAny_pure ?_))
  have sz1 : (hi.push { cls := .type "list", data := .seq ([] : List Value).toArray }).objs.size = hi.objs.size + 1 := by rw [Heap.size_push]
  have sz2 : ((hi.push { cls := .type "list", data := .seq ([] : List Value).toArray }).push { cls := .type "dict", data := .dict #[] }).objs.size = hi.objs.size + 2 := by rw [Heap.size_push, Heap.size_push]
  obtain ⟨S2, kp, gD, own⟩ := comp_start O S K hcl hcl2 k1 { cls := .type "list", data := .seq ([] : List Value).toArray } rfl
  have wrf : ∀ b ∈ wr, ∃ o vs, hi.get? b = some o ∧ o.data = .fields vs := it.fld 0 hi j0
  have wrh : ∀ b ∈ wr, C.h₀.get? b = none := fun b hb => by
    cases q : C.h₀.get? b with
    | none => rfl
    | some ob => have := S.keep b ob q; rw [fresh b hb] at this; cases this
  have szle : C.h₀.objs.size ≤ hi.objs.size := by
    obtain ⟨m, hm⟩ := (S.keeps k1).loc
    exact Nat.le_trans S.up (Nat.le_of_lt hm.lt)
  obtain ⟨kx, ex, hkx⟩ := K.target
  have e1 : nm'[1]? = some (x, kx) := by
    rw [← K.nm, relabel_at ex]
    rcases hkx with rfl | rfl <;> rfl
  have O' := comp_ok O S K (cellsFrom (hi.objs.size + 2) scope.names cl) (hi.objs.size + 1)
  have j0' : J 0 (pushCells ((hi.push { cls := .type "list", data := .seq ([] : List Value).toArray }).push { cls := .type "dict", data := .dict #[] }) scope.names) := it.frame 0 _ _ j0 fun b _ o e => kp b o e
  have loop : codeAny (model C.prog C.w) A (.compLoop (.ListComp elt [⟨.Name x px, iter, ifs, 0⟩] scope pos) 0 (.ref I) (.ref hi.objs.size) (compEnvC scope (cellsFrom (hi.objs.size + 2) scope.names cl) (hi.objs.size + 1) C.env)) (compPost (model C.prog C.w) A E use Q (.ref hi.objs.size) (hi.objs.size + 1))
      { s with heap := pushCells ((hi.push { cls := .type "list", data := .seq ([] : List Value).toArray }).push { cls := .type "dict", data := .dict #[] }) scope.names, toks := tk } := by
    refine comp_loop (n := n) (C := C) (s₀ := s) (s0heap := hi) (ps := ps) (out := out) (σ' := σ') (hid := hid) (hi := hi) (wr := wr) (J := J) (kx := kx) (nm' := nm') (scope := scope) (cells := cellsFrom (hi.objs.size + 2) scope.names cl) (L := hi.objs.size + 1) (D := hi.objs.size) (I := I) O' e1 hkx (fun kc c hc => own c hc ⟨kx, ex, kc⟩) it rfl rfl szle (fun i xs => K.pulls.noOwn i) hz wrf wrh R (fun h' tk' vs m mm kb hD hv hn => ?_) _ rfl j0' S2 gD (fun b o _ e => kp b o e) (hbody _ _ O')
    refine k hi.objs.size (hi.objs.size + 1) h' tk' vs m mm (fun b o e => kb b o (fun m => by rw [fresh b m] at e; cases e) (k1 b o e)) (fresh_of k1) ?_ (by show ¬ (hi.objs.size = hi.objs.size + 1); omega) hD hv hn
    cases q : s.heap.get? (hi.objs.size + 1) with
    | none => rfl
    | some o => exact absurd (Heap.lt_size (k1 _ _ q)) (by show ¬ (hi.objs.size + 1 < hi.objs.size); omega)
  rw [sz1, sz2]
  exact codeAny_compStart_list loop (it.self A 0 _ _ _ j0' loop)
theorem Ev.comp (O : C.Ok) {scope : Scope} {x : Str} {px pos : Pos} {elt iter : Expr} {ifs : List Expr} {nm' : List (Str × NameKind)} {σ' : List Slot} (K : CompOk C σ scope nm' σ' x) (hit : EvItC n C σ iter ps)
    (hbody : ∀ cl L, (compCx C scope cl L C.h₀ C.inh nm').Ok → CompOut n (compCx C scope cl L C.h₀ C.inh nm') σ' ifs elt ps out) (hz : ps.length ≤ 100000 := by decide) (hs : ∀ x, foldedSetIterable iter C.env x = pure x := by intro _; rfl) :
    Ev n C σ (eval (.ListComp elt [⟨.Name x px, iter, ifs, 0⟩] scope pos) C.env) (.lst out) := .mk <| fun A hid s Q E R S k => by
  rw [eval_ListComp]
  refine wp_comp (use := Option.none) O K hit hbody hz hs R S fun D L h' tk vs m mm kp nD nL hDL gD hv hn => ⟨mm, hn, fun h'' sb => ?_⟩
  have sb : Heap.SameBut L h' h'' := sb
  have kp2 : Keeps s.heap h'' := fun b o e => by
    rw [sb.2 b (fun q => by rw [q, nL] at e; cases e)]; exact kp b o e
  have gD2 : h''.get? D = some (LObj vs m) := by rw [sb.2 D hDL]; exact gD
  refine k (.ref D) h'' tk kp2 ⟨D, vs, m, rfl, fun q => ?_, gD2, VRs.stays (hid := hid) (fun b o e u nb => ?_) hv⟩
  · obtain ⟨_, _, e⟩ := S.isl D q
    rw [nD] at e; cases e
  · rw [sb.2 b (fun q => by
      subst q
      obtain ⟨oL, es, ep, eL, dL, _⟩ := hn
      obtain ⟨xs, nn, d⟩ := u
      rw [eL] at e; cases e
      rw [dL] at d; cases d)]
    exact e
/-- x = [ ... for ... ] where the name takes the list as the comprehension ends -/
theorem Ex.assignComp (O : C.Ok) (i : Nat) {scope : Scope} {x y : Str} {px py pos spos : Pos} {elt iter : Expr} {ifs : List Expr} {nm' : List (Str × NameKind)} {σ' : List Slot} (ey : C.nm[i]? = some (y, .local)) (K : CompOk C σ scope nm' σ' x) (hit : EvItC n C σ iter ps)
    (hbody : ∀ cl L, (compCx C scope cl L C.h₀ C.inh nm').Ok → CompOut n (compCx C scope cl L C.h₀ C.inh nm') σ' ifs elt ps out)
    (hsw : swapsWith (.ListComp elt [⟨.Name x px, iter, ifs, 0⟩] scope pos) (some (.Name y py)) spos.line C.env = pure true) (hz : ps.length ≤ 100000 := by decide) (hs : ∀ x, foldedSetIterable iter C.env x = pure x := by intro _; rfl) :
    Ex n C σ (exec (.Assign [.Name y py] (.ListComp elt [⟨.Name x px, iter, ifs, 0⟩] scope pos) spos) C.env) (.next (σ.set i (.val (.lst out)))) := .mk <| fun A hid s Q E R S k => by
  rw [exec_Assign_Name_used _ _ _ _ hsw]
  refine wpAny_bind (wpAny_standAt (wpAny_bind ?_))
  show wpAny _ A (do let _ ← comprehension (.ListComp elt [⟨.Name x px, iter, ifs, 0⟩] scope pos) scope C.env _ (newList []) false (eval iter C.env) (some (PySem.assign (.Name y py) C.env))) _ _ s
  refine wpAny_bind (wpAny_mono (wp_comp (use := some (PySem.assign (.Name y py) C.env)) (Q := fun _ s' => Q .next s') O K hit hbody hz hs R S fun D L h' tk vs m mm kp nD nL hDL gD hv hn => ?_) (fun _ s' hq => wpAny_pure (wpAny_pure hq)) fun _ _ e => e)
  have S1 := S.keeps kp
  show wpAny _ A (PySem.assign (.Name y py) C.env (.ref D)) _ _ _
  obtain ⟨mo, hmo⟩ := S1.loc
  have nDh : D ∉ hid := fun q => by
    obtain ⟨_, _, e⟩ := S.isl D q
    rw [nD] at e; cases e
  have hvD : VR hid h' (.lst out) (.ref D) := ⟨D, vs, m, rfl, nDh, gD, hv⟩
  refine wpAny_assign_Name (wpAny_storeName_local (O.kindOf ey) hmo (fun h2 hn2 sb2 => ?_) (by rw [O.kind]; rfl))
  obtain ⟨S2, g⟩ := S1.storeLocal O ey hmo hn2 sb2 hvD
  have sb2 : Heap.SameBut C.env.locals h' h2 := sb2
  have locL : C.env.locals ≠ L := fun q => by
    obtain ⟨m0, o, _, _, e, _⟩ := S.loc
    rw [q, nL] at e; cases e
  have hn2L : h2.Ns L mm := by
    obtain ⟨o, es, ep, e, r⟩ := hn
    exact ⟨o, es, ep, by rw [sb2.2 L (Ne.symm locL)]; exact e, r⟩
  refine ⟨mm, hn2L, fun h3 sb3 => ?_⟩
  have sb3 : Heap.SameBut L h2 h3 := sb3
  have notOld : ∀ b o, s.heap.get? b = some o → b ≠ L := fun b o e q => by rw [q, nL] at e; cases e
  have S3 := S2.dictGo hn2L sb3 locL (by
    cases q : C.h₀.get? L with
    | none => rfl
    | some o => exact absurd rfl (notOld L o (S.keep _ _ q)))
  have g2 := (Grow.keeps (hid := hid) kp).trans g
  refine k .next hid h3 _ ⟨fun b o e u => ?_, fun _ x => x, fun _ x _ => x, fun b ⟨o, e⟩ => ?_⟩ ⟨rfl, S3⟩
  · rw [sb3.2 b (notOld b o e)]; exact g2.calm b o e u
  · obtain ⟨o', e'⟩ := g2.live b ⟨o, e⟩
    exact ⟨o', by rw [sb3.2 b (notOld b o e)]; exact e'⟩
end
end Mine
-- Df
namespace Mine
open PySem PySem.Calls PyProof.Rows PySem.W
set_option maxRecDepth 100000
def nm2 : List (Str × NameKind) := [("flags", .local), ("names", .local), ("i", .local), ("flag", .local), ("range", .globalImplicit), ("COMPILER_FLAG_NAMES", .globalImplicit), ("hex", .globalImplicit)]
def nm5 : List (Str × NameKind) := [("code", .local), ("ord", .globalImplicit), ("b1_set", .globalImplicit)]
def nm7 : List (Str × NameKind) := [("code", .local), ("r", .local), ("b3_exceptions", .globalImplicit), ("ord", .globalImplicit)]
def nm8 : List (Str × NameKind) := [("code", .local), ("c", .local), ("ord", .globalImplicit)]
def nm10 : List (Str × NameKind) := [("code", .local), ("ord", .globalImplicit), ("c6_set", .globalImplicit)]
def nm12 : List (Str × NameKind) := [("code", .local), ("ord", .globalImplicit), ("c7_set", .globalImplicit)]
def nm14 : List (Str × NameKind) := [("code", .local), ("ord", .globalImplicit), ("c8_set", .globalImplicit)]
def nm16 : List (Str × NameKind) := [("code", .local), ("ord", .globalImplicit), ("c9_set", .globalImplicit)]
def nm18 : List (Str × NameKind) := [("text", .local), ("TypeError", .globalImplicit), ("type", .globalImplicit)]
def nm19 : List (Str × NameKind) := [("text", .local), ("TypeError", .globalImplicit), ("AttributeError", .globalImplicit), ("_raise_serialization_error", .globalImplicit)]
def nm20 : List (Str × NameKind) := [("text", .local), ("TypeError", .globalImplicit), ("AttributeError", .globalImplicit), ("_raise_serialization_error", .globalImplicit)]
def nm21 : List (Str × NameKind) := [("text", .local), ("TypeError", .globalImplicit), ("AttributeError", .globalImplicit), ("_raise_serialization_error", .globalImplicit)]
def nm22 : List (Str × NameKind) := [("text", .local), ("TypeError", .globalImplicit), ("AttributeError", .globalImplicit), ("_raise_serialization_error", .globalImplicit)]
def nm23 : List (Str × NameKind) := [("text", .local), ("TypeError", .globalImplicit), ("AttributeError", .globalImplicit), ("_raise_serialization_error", .globalImplicit)]
def nm25 : List (Str × NameKind) := []
def nm26 : List (Str × NameKind) := [("script", .local), ("cells", .local), ("place", .local), ("x", .local), ("enumerate", .globalImplicit)]
def nm27 : List (Str × NameKind) := [("cell", .local), ("runs", .local), ("text", .local), ("left", .local), ("_", .local), ("place", .local), ("low", .local), ("high", .local), ("table", .local), ("_law_runs", .globalImplicit), ("range", .globalImplicit), ("chr", .globalImplicit)]
def nm28 : List (Str × NameKind) := [("code", .local), ("low", .local), ("high", .local), ("table", .local), ("_law_runs", .globalImplicit)]
def nm29 : List (Str × NameKind) := [("way", .local), ("text", .local), ("written", .local), ("row", .local), ("sign", .local), ("table", .local), ("_law_table", .globalImplicit), ("ord", .globalImplicit)]
def nm30 : List (Str × NameKind) := [("sign", .local), ("in_table_b1", .globalImplicit), ("in_table_c4", .globalImplicit), ("in_table_c6", .globalImplicit), ("in_table_c7", .globalImplicit), ("in_table_c8", .globalImplicit), ("in_table_c9", .globalImplicit)]
def nm31 : List (Str × NameKind) := [("text", .local), ("sign", .local), ("table", .local), ("place", .local), ("answer", .local), ("_law_table", .globalImplicit), ("ord", .globalImplicit), ("enumerate", .globalImplicit), ("_law_asked", .globalImplicit), ("isinstance", .globalImplicit), ("bool", .globalImplicit)]
def nm32 : List (Str × NameKind) := [("writer", .local), ("text", .local), ("found", .local), ("sign", .local), ("answers", .local), ("map_table_b3", .globalImplicit), ("_law_asked", .globalImplicit)]
def nm33 : List (Str × NameKind) := [("number", .cell), ("names", .cell), ("range", .globalImplicit)]
def nm33c0 : List (Str × NameKind) := [(".0", .local), ("place", .local), ("names", .cell), ("number", .cell)]
def nm34 : List (Str × NameKind) := [("numbers", .local), ("unions", .local), ("number", .local), ("other", .local)]
def nm35 : List (Str × NameKind) := [("words", .local), ("kept", .local), ("word", .local), ("sorted", .globalImplicit)]
def nm36 : List (Str × NameKind) := [((Str.ofString "script" : Str), NameKind.local), ((Str.ofString "cells" : Str), NameKind.local), ((Str.ofString "total" : Str), NameKind.local), ((Str.ofString "way" : Str), NameKind.cell), ((Str.ofString "shift" : Str), NameKind.cell), ((Str.ofString "writer" : Str), NameKind.cell), ((Str.ofString "texts" : Str), NameKind.cell), ((Str.ofString "rows" : Str), NameKind.cell), ((Str.ofString "columns" : Str), NameKind.cell), ((Str.ofString "alone" : Str), NameKind.cell), ((Str.ofString "shown" : Str), NameKind.local), ((Str.ofString "plain" : Str), NameKind.local), ((Str.ofString "quiet" : Str), NameKind.local), ((Str.ofString "hit" : Str), NameKind.local), ((Str.ofString "choice" : Str), NameKind.cell), ((Str.ofString "joined" : Str), NameKind.local), ((Str.ofString "found" : Str), NameKind.local), ((Str.ofString "told" : Str), NameKind.local), ((Str.ofString "back" : Str), NameKind.local), ((Str.ofString "_law_cells" : Str), NameKind.globalImplicit), ((Str.ofString "sum" : Str), NameKind.globalImplicit), ((Str.ofString "_escape_cdata" : Str), NameKind.globalImplicit), ((Str.ofString "_escape_attrib" : Str), NameKind.globalImplicit), ((Str.ofString "_escape_attrib_html" : Str), NameKind.globalImplicit), ((Str.ofString "_escape_cdata_c14n" : Str), NameKind.globalImplicit), ((Str.ofString "_escape_attrib_c14n" : Str), NameKind.globalImplicit), ((Str.ofString "range" : Str), NameKind.globalImplicit), ((Str.ofString "_law_findings" : Str), NameKind.globalImplicit), ((Str.ofString "pretty_flags" : Str), NameKind.globalImplicit), ((Str.ofString "_law_words" : Str), NameKind.globalImplicit), ((Str.ofString "_law_unions" : Str), NameKind.globalImplicit), ((Str.ofString "_law_once" : Str), NameKind.globalImplicit), ((Str.ofString "sorted" : Str), NameKind.globalImplicit), ((Str.ofString "_law_answered" : Str), NameKind.globalImplicit)]
def nm36c0 : List (Str × NameKind) := [(".0", .local), ("cell", .local), ("_law_text", .globalImplicit)]
def nm36c1 : List (Str × NameKind) := [(".0", .local), ("text", .local), ("_law_row", .globalImplicit), ("way", .cell)]
def nm36c2 : List (Str × NameKind) := [(".0", .local), ("j", .cell), ("sum", .globalImplicit), ("range", .globalImplicit), ("rows", .cell)]
def nm36c3 : List (Str × NameKind) := [(".0", .local), ("i", .local), ("j", .cell), ("rows", .cell)]
def nm36c4 : List (Str × NameKind) := [(".0", .local), ("text", .local), ("_law_findings", .globalImplicit), ("writer", .cell)]
def nm36c5 : List (Str × NameKind) := [(".0", .local), ("i", .local), ("choice", .cell), ("texts", .cell)]
def nm36c6 : List (Str × NameKind) := [(".0", .local), ("j", .local), ("choice", .cell), ("columns", .cell)]
def nm36c7 : List (Str × NameKind) := [(".0", .local), ("i", .local), ("alone", .cell), ("choice", .cell)]
def nm36c8 : List (Str × NameKind) := [(".0", .local), ("union", .cell), ("_law_words", .globalImplicit), ("sum", .globalImplicit), ("range", .globalImplicit), ("columns", .cell), ("shift", .cell)]
def nm36c9 : List (Str × NameKind) := [(".0", .local), ("j", .local), ("columns", .cell), ("union", .cell)]
def nm36c10 : List (Str × NameKind) := [(".0", .local), ("union", .cell), ("_law_words", .globalImplicit), ("sum", .globalImplicit), ("range", .globalImplicit), ("rows", .cell), ("shift", .cell)]
def nm36c11 : List (Str × NameKind) := [(".0", .local), ("i", .local), ("rows", .cell), ("union", .cell)]
/-- the frame of a def, its names told -/
abbrev cxN (prog : Program) (w : World) (mg mb : Str → Option Value) (hb : Heap) (x : Str) (scope : Scope) (nm : List (Str × NameKind)) (L f : Addr) (cd : Value) (h₀ : Heap) (inh : List Addr) : Cx :=
  { prog, w, mg, mb, hb, env := envOf x scope L f cd, nm, h₀, inh }
/-- a name of the text's builtins -/
abbrev Bt (mg mb : Str → Option Value) (x : Str) (v : Value) : Prop := mg x = none ∧ mb x = some v
section
variable {prog : Program} {w : World} {mg mb : Str → Option Value} {hb : Heap}
theorem Fn.ofN {i : Nat} {x : Str} {f : Addr} {n : Nat} {ps : List PV} {p : PV} (F : DefAt mg hb x f i) (xs : List Str) (rest : Nat) (nm : List (Str × NameKind)) (σ : List Slot) (hnm : (fnScope (stmt i)).names = nm) (hσ : ps.map .val ++ List.replicate rest .unset = σ) (ok : defOk (stmt i) xs = true) (hlen : ps.length = xs.length)
    (hbind : ∀ vs pm c doc, vs.length = xs.length → bindArgs (docDef x (fnParams (stmt i)) (fnBody (stmt i)) (fnScope (stmt i)) pm c doc) ⟨vs, []⟩ = pure (xs.zip vs))
    (hbody : ∀ L cd h₀ inh, (cxN prog w mg mb hb x (fnScope (stmt i)) nm L f cd h₀ inh).Ok → Ex n (cxN prog w mg mb hb x (fnScope (stmt i)) nm L f cd h₀ inh) σ (execs (fnBody (stmt i)) (cxN prog w mg mb hb x (fnScope (stmt i)) nm L f cd h₀ inh).env) (.ret p)) :
    Fn (n + 1) prog w mg mb hb f ps p := by
  subst hnm hσ
  exact Fn.of F xs rest ok hlen hbind hbody
theorem Fn.le {n m : Nat} {f : Addr} {ps : List PV} {p : PV} (F : Fn n prog w mg mb hb f ps p) (h : n ≤ m) : Fn m prog w mg mb hb f ps p := .mk <| fun A hid s Q E vs R => F.run A hid s Q E vs (R.le h)
theorem fnAt {x : Str} {f : Addr} {i : Nat} (F : DefAt mg hb x f i) : mg x = some (.ref f) := F.name
end
section
variable {prog : Program} {w : World} {mg mb : Str → Option Value} {hb : Heap}
def tableOf (c : Int) : Int := ((runsL.findSome? fun r => if r.1 ≤ c ∧ c ≤ r.2.1 then some r.2.2 else none).getD (if c.fmod 65536 > 65533 then 1 else 6))
def tabOut (code : PV) (c : Int) : List (Int × Int × Int) → Slot → Slot → Slot → Out
  | [], a, b, t => .next [.val code, a, b, t]
  | r :: rs, a, b, t => if r.1 ≤ c ∧ c ≤ r.2.1 then .ret (.int r.2.2) else tabOut code c rs (.val (.int r.1)) (.val (.int r.2.1)) (.val (.int r.2.2))
theorem tabOut_is (code : PV) (c : Int) : ∀ (rs : List (Int × Int × Int)) (a b t : Slot), (∃ v, (rs.findSome? fun r => if r.1 ≤ c ∧ c ≤ r.2.1 then some r.2.2 else none) = some v ∧ tabOut code c rs a b t = .ret (.int v)) ∨
    ((rs.findSome? fun r => if r.1 ≤ c ∧ c ≤ r.2.1 then some r.2.2 else none) = none ∧ ∃ a' b' t', tabOut code c rs a b t = .next [.val code, a', b', t'])
  | [], a, b, t => .inr ⟨rfl, a, b, t, rfl⟩
  | r :: rs, a, b, t => by
    unfold tabOut
    rw [List.findSome?_cons]
    by_cases h : r.1 ≤ c ∧ c ≤ r.2.1
    · rw [if_pos h, if_pos h]; exact .inl ⟨_, rfl, rfl⟩
    · rw [if_neg h, if_neg h]; exact tabOut_is code c rs _ _ _
theorem table_spec {f fr : Addr} (F : DefAt mg hb "_law_table" f 28) (Fr : DefAt mg hb "_law_runs" fr 25) (c : Int) : Fn 2 prog w mg mb hb f [.int c] (.int (tableOf c)) := by
  refine Fn.ofN F ["code"] 3 nm28 [.val (.int c), .unset, .unset, .unset] rfl rfl (by decide +kernel) rfl (fun vs pm c doc h => by obtain ⟨a, rfl⟩ := len1 h; kernel_rfl) fun L cd h₀ inh O => ?_
  conv in (fnBody _) => whnf
  refine Ex.then (o₁ := tabOut (.int c) c runsL .unset .unset .unset) (Ex.for (EvIter.tup (Ev.callF0 Fr (Ev.glob O 4 rfl Fr.name rfl) (runs_spec Fr))) ?_) ?_ ?_
  · unfold runsP
    refine (?_ : ∀ (rs : List (Int × Int × Int)) (a b t : Slot), Loop 1 _ _ _ _ (rs.map fun r => .tup [.int r.1, .int r.2.1, .int r.2.2]) [.val (.int c), a, b, t] (tabOut (.int c) c rs a b t)) runsL _ _ _
    intro rs
    induction rs with
    | nil => intro a b t; exact Loop.done Ex.nil
    | cons r rs ih =>
      intro a b t
      unfold tabOut
      have test : (decide (r.1 ≤ c) && decide (c ≤ r.2.1)) = decide (r.1 ≤ c ∧ c ≤ r.2.1) := by rw [Bool.decide_and]
      split
      · rename_i h
        refine Loop.ret (Asg.tup (AsgAll.cons (Asg.name O 1 rfl) (AsgAll.cons (Asg.name O 2 rfl) (AsgAll.cons (Asg.name O 3 rfl) AsgAll.nil)))) ?_
        refine Ex.stop (Ex.ite (Et.of (Et.chain2 (Ev.name O 1 rfl rfl rfl rfl) (Ev.name O 0 rfl rfl rfl rfl) (Ev.name O 2 rfl rfl rfl rfl) Op2.le_int Op2.le_int) (test.trans (decide_eq_true h))) (fun _ => ?_) (fun e => absurd e (by decide))) (fun _ e => by cases e)
        exact Ex.stop (Ex.ret (Ev.name O 3 rfl rfl rfl rfl)) (fun _ e => by cases e)
      · rename_i h
        refine Loop.next (σ₂ := [.val (.int c), .val (.int r.1), .val (.int r.2.1), .val (.int r.2.2)]) (Asg.tup (AsgAll.cons (Asg.name O 1 rfl) (AsgAll.cons (Asg.name O 2 rfl) (AsgAll.cons (Asg.name O 3 rfl) AsgAll.nil)))) ?_ (ih _ _ _)
        refine Ex.cons (Ex.ite (Et.of (Et.chain2 (Ev.name O 1 rfl rfl rfl rfl) (Ev.name O 0 rfl rfl rfl rfl) (Ev.name O 2 rfl rfl rfl rfl) Op2.le_int Op2.le_int) (test.trans (decide_eq_false h))) (fun e => absurd e (by decide)) (fun _ => Ex.nil)) Ex.nil
  · intro σ' hσ'
    rcases tabOut_is (.int c) c runsL .unset .unset .unset with ⟨v, _, e⟩ | ⟨e0, a, b, t, e⟩
    · rw [e] at hσ'; cases hσ'
    · rw [e] at hσ'; cases hσ'
      have ht : tableOf c = if decide (65533 < c.fmod 65536) then 1 else 6 := by
        unfold tableOf
        rw [e0]
        simp only [Option.getD_none, gt_iff_lt, decide_eq_true_eq]
      refine Ex.stop (Ex.ret ?_) (fun _ e => by cases e)
      refine Ev.ifexp (Et.cmp (Ev.bin (Ev.name O 0 rfl rfl rfl rfl) Ev.int (Op2.mod_int (by decide))) Ev.int Op2.gt_int) (fun hb => ?_) (fun hb => ?_)
      · rw [ht, if_pos hb]; exact Ev.int
      · rw [ht, if_neg (by rw [hb]; decide)]; exact Ev.int
  · intro hn
    rcases tabOut_is (.int c) c runsL .unset .unset .unset with ⟨v, e0, e⟩ | ⟨e0, a, b, t, e⟩
    · rw [e]; unfold tableOf; rw [e0]; rfl
    · exact absurd e (hn _)
end
end Mine
-- Dg
namespace Mine
open PySem PySem.Calls PyProof.Rows PySem.W
set_option maxRecDepth 100000
theorem methAt {o : Expr} {name : Str} {ap pos : Pos} {args : List Expr} {env : Env} (hbase : attributeBase o name env (eval o env) = eval o env) (hform : methodCallForm (args.length + ([] : List Keyword).length) (backTo pos (starEach args env)) (backToKw pos (keywordEach [] env)) = true)
    (hline : (ap.endLine == pos.line) = true) : MethAt o name ap pos args env (do return (← importBound o env).getD true) := by
  show eval (.Call (.Attribute o name ap) args [] pos) env = _
  rw [arm_eval_Call, hbase]
  unfold methodCall calleeOf methodCallPos
  rw [hform, hline]
  rfl
/-- a set of the text's top: what it holds -/
structure SetAt (prog : Program) (w : World) (hb : Heap) (a : Addr) (f : Int → Bool) : Prop where
  run : ∀ (A : Around) (s : Shared) (Q : Value → Shared → Prop) (E : Value → Shared → Prop) (n : Nat) (k : Int) (t : Tok), Room n A → Keeps hb s.heap → (∀ tk, Q (.bool (f k)) { s with toks := tk }) →
    wpAny (model prog w) A (compareOp .In (.int k t) (.ref a)) Q E s
/-- a dict of the text's top: int to str -/
structure DictAt (prog : Program) (w : World) (hb : Heap) (a : Addr) (f : Int → Option Str) : Prop where
  obj : ∃ o, hb.get? a = some o ∧ o.cls = .type "dict" ∧ o.dict = none
  get1 : ∀ (A : Around) (s : Shared) (Q : Value → Shared → Prop) (E : Value → Shared → Prop) (n : Nat) (k : Int) (t : Tok), Room n A → Keeps hb s.heap → (∀ v tk, (match f k with | none => v = .none | some x => ∃ t', v = .str x t') → Q v { s with toks := tk }) →
    wpAny (model prog w) A (call (.builtin "dict.get") [.ref a, .int k t]) Q E s
  get2 : ∀ (A : Around) (s : Shared) (Q : Value → Shared → Prop) (E : Value → Shared → Prop) (n : Nat) (k : Int) (t : Tok) (d : Value), Room n A → Keeps hb s.heap → (∀ v tk, (match f k with | none => v = d | some x => ∃ t', v = .str x t') → Q v { s with toks := tk }) →
    wpAny (model prog w) A (call (.builtin "dict.get") [.ref a, .int k t, d]) Q E s
section
variable {n : Nat} {C : Cx} {σ : List Slot} {p q r : PV} {ps : List PV}
theorem Ev.inSet (O : C.Ok) (i : Nat) {x : Str} {l : Expr} {p' pos : Pos} {k : Int} {a : Addr} {f : Int → Bool} (e1 : C.nm[i]? = some (x, .globalImplicit)) (e2 : C.mg x = some (.ref a)) (hs : SetAt C.prog C.w C.hb a f) (h1 : Ev n C σ (eval l C.env) (.int k)) (hd : (x == ("__debug__" : Str)) = false := by rfl) :
    Ev n C σ (eval (.Compare l [.In] [.Name x p'] pos) C.env) (.bool (f k)) := .mk <| fun A hid s Q E R S kk =>
  wpAny_Compare1 (h1.run A hid s _ E R S fun u h' tk k1 va => (Ev.glob (n := n) (σ := σ) O i e1 e2 hd).run A hid _ _ E R (S.keeps k1) fun b h'' tk' k2 vb => by
    cases vb
    obtain ⟨t, rfl⟩ := va
    exact hs.run A _ _ E n k t R (((S.keeps k1).keeps k2).gl'.top) fun tk3 => kk _ h'' tk3 (k1.trans k2) rfl) rfl
theorem Ev.get1 (O : C.Ok) (i : Nat) {x : Str} {e : Expr} {p5 ap pos : Pos} {k : Int} {a : Addr} {f : Int → Option Str} {pl : Sem Bool} (e1 : C.nm[i]? = some (x, .globalImplicit)) (e2 : C.mg x = some (.ref a)) (hs : DictAt C.prog C.w C.hb a f) (h1 : Ev n C σ (eval e C.env) (.int k))
    (he : MethAt (.Name x p5) "get" ap pos [e] C.env pl) (hd : (x == ("__debug__" : Str)) = false := by rfl) (ha : plainArg e = true := by rfl) :
    Ev n C σ (eval (.Call (.Attribute (.Name x p5) "get" ap) [e] [] pos) C.env) (match f k with | Option.none => .none | some x => .str x) := .mk <| fun A hid s Q E R S kk => by
  refine MethodCall_ ((Ev.glob (n := n) (σ := σ) O i e1 e2 hd).run A hid s _ E R S fun v h' tk k1 r1 => ?_) he
  cases r1
  obtain ⟨o, ho, hc, hdn⟩ := hs.obj
  have hT := (S.keeps k1).gl'.top _ _ ho
  refine getMethod_builtin ⟨o, hT, hc⟩ PySem.F.plainAttrs_dict PySem.F.slot_dict_get PySem.F.type_dict_get (fun b e => by injection e with e; subst e; exact ⟨o, hT, hdn⟩) ?_
  refine PyProof.Rows.callWith_method1 ((Els.cons h1 Els.nil ha).run A hid _ _ E R (S.keeps k1) fun vs h'' tk' k2 r2 => ?_) (starEach_plain ha) rfl
  obtain ⟨v, r, rfl, ⟨t, rfl⟩, rfl⟩ := r2
  refine hs.get1 A _ _ E n k t R (((S.keeps k1).keeps k2).gl'.top) fun v tk3 hv => kk v h'' tk3 (k1.trans k2) ?_
  cases hf : f k with
  | none => rw [hf] at hv; exact hv
  | some x => rw [hf] at hv; exact hv
theorem Ev.get2 (O : C.Ok) (i : Nat) {x y : Str} {e e' : Expr} {p5 ap pos : Pos} {k : Int} {a : Addr} {f : Int → Option Str} {pl : Sem Bool} (e1 : C.nm[i]? = some (x, .globalImplicit)) (e2 : C.mg x = some (.ref a)) (hs : DictAt C.prog C.w C.hb a f) (h1 : Ev n C σ (eval e C.env) (.int k)) (h2 : Ev n C σ (eval e' C.env) (.str y))
    (he : MethAt (.Name x p5) "get" ap pos [e, e'] C.env pl) (hd : (x == ("__debug__" : Str)) = false := by rfl) (ha : plainArg e = true := by rfl) (ha' : plainArg e' = true := by rfl) (hes : (backTo pos (starEach [e'] C.env)).any (·.1) = false := by rfl) :
    Ev n C σ (eval (.Call (.Attribute (.Name x p5) "get" ap) [e, e'] [] pos) C.env) (.str ((f k).getD y)) := .mk <| fun A hid s Q E R S kk => by
  refine MethodCall_ ((Ev.glob (n := n) (σ := σ) O i e1 e2 hd).run A hid s _ E R S fun v h' tk k1 r1 => ?_) he
  cases r1
  obtain ⟨o, ho, hc, hdn⟩ := hs.obj
  have hT := (S.keeps k1).gl'.top _ _ ho
  refine getMethod_builtin ⟨o, hT, hc⟩ PySem.F.plainAttrs_dict PySem.F.slot_dict_get PySem.F.type_dict_get (fun b e => by injection e with e; subst e; exact ⟨o, hT, hdn⟩) ?_
  refine PyProof.Rows.callWith_method1 ((Els.cons h1 (Els.cons h2 Els.nil ha') ha).run A hid _ _ E R (S.keeps k1) fun vs h'' tk' k2 r2 => ?_) (starEach_plain ha) hes
  obtain ⟨v, r, rfl, ⟨t, rfl⟩, v2, r2', rfl, ⟨t2, rfl⟩, rfl⟩ := r2
  refine hs.get2 A _ _ E n k t _ R (((S.keeps k1).keeps k2).gl'.top) fun v tk3 hv => kk v h'' tk3 (k1.trans k2) ?_
  cases hf : f k with
  | none => rw [hf] at hv; exact ⟨t2, hv⟩
  | some x => rw [hf] at hv; exact hv
end
section
variable {prog : Program} {w : World} {mg mb : Str → Option Value} {hb : Heap}
abbrev chS (c : Nat) : Str := ⟨#[c]⟩
abbrev ordB (mg mb : Str → Option Value) : Prop := Bt mg mb "ord" (.builtin "ord")
def c4Of (c : Int) : Bool := if c < 64976 then false else if c < 65008 then true else [65534, 65535].any (· == Builtin.bitAnd c 65535)
theorem c4_spec {f : Addr} (F : DefAt mg hb "in_table_c4" f 8) (Bo : ordB mg mb) (c : Nat) : Fn 1 prog w mg mb hb f [.str (chS c)] (.bool (c4Of c)) := by
  refine Fn.ofN F ["code"] 2 nm8 [.val (.str (chS c)), .unset, .unset] rfl rfl (by decide +kernel) rfl (fun vs pm c doc h => by obtain ⟨a, rfl⟩ := len1 h; kernel_rfl) fun L cd h₀ inh O => ?_
  conv in (fnBody _) => whnf
  refine Ex.cons (Ex.assign O 1 rfl (Ev.callB O 2 rfl Bo.1 Bo.2 (Els.cons (Ev.name O 0 rfl rfl rfl rfl) Els.nil) Bf.ord rfl)) ?_
  by_cases h1 : (c : Int) < 64976
  · refine Ex.stop (Ex.ite (Et.of (Et.cmp (Ev.name O 1 rfl rfl rfl rfl) Ev.int Op2.lt_int) (decide_eq_true h1)) (fun _ => ?_) (fun e => absurd e (by decide))) (fun _ e => by cases e)
    refine Ex.stop (Ex.ret (Ev.of Ev.bool ?_)) (fun _ e => by cases e)
    unfold c4Of; rw [if_pos h1]
  refine Ex.cons (Ex.ite (Et.of (Et.cmp (Ev.name O 1 rfl rfl rfl rfl) Ev.int Op2.lt_int) (decide_eq_false h1)) (fun e => absurd e (by decide)) (fun _ => Ex.nil)) ?_
  by_cases h2 : (c : Int) < 65008
  · refine Ex.stop (Ex.ite (Et.of (Et.cmp (Ev.name O 1 rfl rfl rfl rfl) Ev.int Op2.lt_int) (decide_eq_true h2)) (fun _ => ?_) (fun e => absurd e (by decide))) (fun _ e => by cases e)
    refine Ex.stop (Ex.ret (Ev.of Ev.bool ?_)) (fun _ e => by cases e)
    unfold c4Of; rw [if_neg h1, if_pos h2]
  refine Ex.cons (Ex.ite (Et.of (Et.cmp (Ev.name O 1 rfl rfl rfl rfl) Ev.int Op2.lt_int) (decide_eq_false h2)) (fun e => absurd e (by decide)) (fun _ => Ex.nil)) ?_
  refine Ex.stop (Ex.ret (Ev.of (Ev.cmp (Ev.bin (Ev.callB O 2 rfl Bo.1 Bo.2 (Els.cons (Ev.name O 0 rfl rfl rfl rfl) Els.nil) Bf.ord rfl) Ev.int Op2.and_int) (Ev.tup (Els.cons Ev.int (Els.cons Ev.int Els.nil))) (Op2.in_tup_ints (xs := [65534, 65535]))) ?_)) (fun _ e => by cases e)
  unfold c4Of; rw [if_neg h1, if_neg h2]
theorem b1_spec {f a : Addr} {g : Int → Bool} (F : DefAt mg hb "in_table_b1" f 5) (Bo : ordB mg mb) (m : mg "b1_set" = some (.ref a)) (hs : SetAt prog w hb a g) (c : Nat) : Fn 1 prog w mg mb hb f [.str (chS c)] (.bool (g c)) := by
  refine Fn.ofN F ["code"] 0 nm5 [.val (.str (chS c))] rfl rfl (by decide +kernel) rfl (fun vs pm c doc h => by obtain ⟨a, rfl⟩ := len1 h; kernel_rfl) fun L cd h₀ inh O => ?_
  conv in (fnBody _) => whnf
  exact Ex.stop (Ex.ret (Ev.inSet O 2 rfl m hs (Ev.callB O 1 rfl Bo.1 Bo.2 (Els.cons (Ev.name O 0 rfl rfl rfl rfl) Els.nil) Bf.ord rfl))) (fun _ e => by cases e)
theorem c6_spec {f a : Addr} {g : Int → Bool} (F : DefAt mg hb "in_table_c6" f 10) (Bo : ordB mg mb) (m : mg "c6_set" = some (.ref a)) (hs : SetAt prog w hb a g) (c : Nat) : Fn 1 prog w mg mb hb f [.str (chS c)] (.bool (g c)) := by
  refine Fn.ofN F ["code"] 0 nm10 [.val (.str (chS c))] rfl rfl (by decide +kernel) rfl (fun vs pm c doc h => by obtain ⟨a, rfl⟩ := len1 h; kernel_rfl) fun L cd h₀ inh O => ?_
  conv in (fnBody _) => whnf
  exact Ex.stop (Ex.ret (Ev.inSet O 2 rfl m hs (Ev.callB O 1 rfl Bo.1 Bo.2 (Els.cons (Ev.name O 0 rfl rfl rfl rfl) Els.nil) Bf.ord rfl))) (fun _ e => by cases e)
theorem c7_spec {f a : Addr} {g : Int → Bool} (F : DefAt mg hb "in_table_c7" f 12) (Bo : ordB mg mb) (m : mg "c7_set" = some (.ref a)) (hs : SetAt prog w hb a g) (c : Nat) : Fn 1 prog w mg mb hb f [.str (chS c)] (.bool (g c)) := by
  refine Fn.ofN F ["code"] 0 nm12 [.val (.str (chS c))] rfl rfl (by decide +kernel) rfl (fun vs pm c doc h => by obtain ⟨a, rfl⟩ := len1 h; kernel_rfl) fun L cd h₀ inh O => ?_
  conv in (fnBody _) => whnf
  exact Ex.stop (Ex.ret (Ev.inSet O 2 rfl m hs (Ev.callB O 1 rfl Bo.1 Bo.2 (Els.cons (Ev.name O 0 rfl rfl rfl rfl) Els.nil) Bf.ord rfl))) (fun _ e => by cases e)
theorem c8_spec {f a : Addr} {g : Int → Bool} (F : DefAt mg hb "in_table_c8" f 14) (Bo : ordB mg mb) (m : mg "c8_set" = some (.ref a)) (hs : SetAt prog w hb a g) (c : Nat) : Fn 1 prog w mg mb hb f [.str (chS c)] (.bool (g c)) := by
  refine Fn.ofN F ["code"] 0 nm14 [.val (.str (chS c))] rfl rfl (by decide +kernel) rfl (fun vs pm c doc h => by obtain ⟨a, rfl⟩ := len1 h; kernel_rfl) fun L cd h₀ inh O => ?_
  conv in (fnBody _) => whnf
  exact Ex.stop (Ex.ret (Ev.inSet O 2 rfl m hs (Ev.callB O 1 rfl Bo.1 Bo.2 (Els.cons (Ev.name O 0 rfl rfl rfl rfl) Els.nil) Bf.ord rfl))) (fun _ e => by cases e)
theorem c9_spec {f a : Addr} {g : Int → Bool} (F : DefAt mg hb "in_table_c9" f 16) (Bo : ordB mg mb) (m : mg "c9_set" = some (.ref a)) (hs : SetAt prog w hb a g) (c : Nat) : Fn 1 prog w mg mb hb f [.str (chS c)] (.bool (g c)) := by
  refine Fn.ofN F ["code"] 0 nm16 [.val (.str (chS c))] rfl rfl (by decide +kernel) rfl (fun vs pm c doc h => by obtain ⟨a, rfl⟩ := len1 h; kernel_rfl) fun L cd h₀ inh O => ?_
  conv in (fnBody _) => whnf
  exact Ex.stop (Ex.ret (Ev.inSet O 2 rfl m hs (Ev.callB O 1 rfl Bo.1 Bo.2 (Els.cons (Ev.name O 0 rfl rfl rfl rfl) Els.nil) Bf.ord rfl))) (fun _ e => by cases e)
def b3Of (g : Int → Option Str) (c : Nat) : Str := match g c with | some x => x | none => Txt.lower (chS c)
theorem b3_spec {f a : Addr} {g : Int → Option Str} (F : DefAt mg hb "map_table_b3" f 7) (Bo : ordB mg mb) (m : mg "b3_exceptions" = some (.ref a)) (hs : DictAt prog w hb a g) (c : Nat) (hfit : Builtin.Str.tooLong (Txt.lower (chS c)).length = false) : Fn 1 prog w mg mb hb f [.str (chS c)] (.str (b3Of g c)) := by
  refine Fn.ofN F ["code"] 1 nm7 [.val (.str (chS c)), .unset] rfl rfl (by decide +kernel) rfl (fun vs pm c doc h => by obtain ⟨a, rfl⟩ := len1 h; kernel_rfl) fun L cd h₀ inh O => ?_
  conv in (fnBody _) => whnf
  refine Ex.cons (Ex.assign O 1 rfl (Ev.get1 O 2 rfl m hs (Ev.callB O 3 rfl Bo.1 Bo.2 (Els.cons (Ev.name O 0 rfl rfl rfl rfl) Els.nil) Bf.ord rfl) rfl)) ?_
  unfold b3Of
  cases hg : g c with
  | none =>
    refine Ex.cons (σ' := [.val (.str (chS c)), .val .none]) (Ex.ite (b := false) (Et.cmp (p := .none) (Ev.name O 1 rfl rfl rfl rfl) Ev.none (Op2.isNot_none fun _ _ v h => by cases h; rfl)) (fun e => absurd e (by decide)) (fun _ => Ex.nil)) ?_
    exact Ex.stop (Ex.ret (Ev.lower (Ev.name O 0 rfl rfl rfl rfl) hfit rfl)) (fun _ e => by cases e)
  | some x =>
    refine Ex.stop (Ex.ite (b := true) (Et.cmp (p := .str x) (Ev.name O 1 rfl rfl rfl rfl) Ev.none (Op2.isNot_none fun _ _ v h => by obtain ⟨t, rfl⟩ := h; rfl)) (fun _ => ?_) (fun e => absurd e (by decide))) (fun _ e => by cases e)
    exact Ex.stop (Ex.ret (Ev.name O 1 rfl rfl rfl rfl)) (fun _ e => by cases e)
end
end Mine
-- Dh
namespace Mine
open PySem PySem.Calls PyProof.Rows PySem.W
set_option maxRecDepth 100000
/-- a text, its signs replaced in turn -/
def escape : List (Str × Str) → Str → Str
  | [], x => x
  | (c, z) :: r, x => escape r (strike x c c z)
def EscOk : List (Str × Str) → Str → Prop
  | [], _ => True
  | (c, z) :: r, x => x.length ≤ 1048576 ∧ EscOk r (strike x c c z)
theorem escape_cons (c z : Str) (r : List (Str × Str)) (x : Str) : escape ((c, z) :: r) x = escape r (strike x c c z) := rfl
section
variable {prog : Program} {w : World} {mg mb : Str → Option Value} {hb : Heap}
def esc0 : List (Str × Str) := [("&", "&amp;"), ("<", "&lt;"), (">", "&gt;")]
def esc1 : List (Str × Str) := [("&", "&amp;"), ("<", "&lt;"), (">", "&gt;"), ("\"", "&quot;"), ("\r", "&#13;"), ("\n", "&#10;"), ("\t", "&#09;")]
def esc2 : List (Str × Str) := [("&", "&amp;"), (">", "&gt;"), ("\"", "&quot;")]
def esc3 : List (Str × Str) := [("&", "&amp;"), ("<", "&lt;"), (">", "&gt;"), ("\r", "&#xD;")]
def esc4 : List (Str × Str) := [("&", "&amp;"), ("<", "&lt;"), ("\"", "&quot;"), ("\t", "&#x9;"), ("\n", "&#xA;"), ("\r", "&#xD;")]
theorem esc0_spec {f : Addr} (F : DefAt mg hb "_escape_cdata" f 19) (x : Str) (hx : EscOk esc0 x) : Fn 1 prog w mg mb hb f [.str x] (.str (escape esc0 x)) := by
  refine Fn.ofN F ["text"] 0 nm19 [.val (.str x)] rfl rfl (by decide +kernel) rfl (fun vs pm c doc h => by obtain ⟨a, rfl⟩ := len1 h; kernel_rfl) fun L cd h₀ inh O => ?_
  conv in (fnBody _) => whnf
  refine Ex.stop (Ex.try ?_) (fun _ e => by cases e)
  rw [show esc0 = ([("&", "&amp;"), ("<", "&lt;"), (">", "&gt;")] : List (Str × Str)) from rfl] at hx ⊢
  obtain ⟨h, hx⟩ := hx
  refine Ex.cons (Ex.strike O 0 rfl rfl (methAt ?b0 ?f0 ?l0) ?hyz0 h ?hz0 ?hd0 ?hc0 ?hs0 ?ht0) ?rest0
  case b0 => rfl
  case f0 => rfl
  case l0 => rfl
  case hd0 => rfl
  case hc0 => rfl
  case hs0 => rfl
  case ht0 => rfl
  case hyz0 => decide +kernel
  case hz0 => decide +kernel
  rw [escape_cons]
  generalize strike x "&" "&" "&amp;" = x at hx ⊢
  obtain ⟨h, hx⟩ := hx
  refine Ex.cons (Ex.strike O 0 rfl rfl (methAt ?b1 ?f1 ?l1) ?hyz1 h ?hz1 ?hd1 ?hc1 ?hs1 ?ht1) ?rest1
  case b1 => rfl
  case f1 => rfl
  case l1 => rfl
  case hd1 => rfl
  case hc1 => rfl
  case hs1 => rfl
  case ht1 => rfl
  case hyz1 => decide +kernel
  case hz1 => decide +kernel
  rw [escape_cons]
  generalize strike x "<" "<" "&lt;" = x at hx ⊢
  obtain ⟨h, hx⟩ := hx
  refine Ex.cons (Ex.strike O 0 rfl rfl (methAt ?b2 ?f2 ?l2) ?hyz2 h ?hz2 ?hd2 ?hc2 ?hs2 ?ht2) ?rest2
  case b2 => rfl
  case f2 => rfl
  case l2 => rfl
  case hd2 => rfl
  case hc2 => rfl
  case hs2 => rfl
  case ht2 => rfl
  case hyz2 => decide +kernel
  case hz2 => decide +kernel
  rw [escape_cons]
  generalize strike x ">" ">" "&gt;" = x at hx ⊢
  exact Ex.stop (Ex.ret (Ev.name O 0 rfl rfl rfl rfl)) (fun _ e => by cases e)
theorem esc1_spec {f : Addr} (F : DefAt mg hb "_escape_attrib" f 20) (x : Str) (hx : EscOk esc1 x) : Fn 1 prog w mg mb hb f [.str x] (.str (escape esc1 x)) := by
  refine Fn.ofN F ["text"] 0 nm20 [.val (.str x)] rfl rfl (by decide +kernel) rfl (fun vs pm c doc h => by obtain ⟨a, rfl⟩ := len1 h; kernel_rfl) fun L cd h₀ inh O => ?_
  conv in (fnBody _) => whnf
  refine Ex.stop (Ex.try ?_) (fun _ e => by cases e)
  rw [show esc1 = ([("&", "&amp;"), ("<", "&lt;"), (">", "&gt;"), ("\"", "&quot;"), ("\r", "&#13;"), ("\n", "&#10;"), ("\t", "&#09;")] : List (Str × Str)) from rfl] at hx ⊢
  obtain ⟨h, hx⟩ := hx
  refine Ex.cons (Ex.strike O 0 rfl rfl (methAt ?b0 ?f0 ?l0) ?hyz0 h ?hz0 ?hd0 ?hc0 ?hs0 ?ht0) ?rest0
  case b0 => rfl
  case f0 => rfl
  case l0 => rfl
  case hd0 => rfl
  case hc0 => rfl
  case hs0 => rfl
  case ht0 => rfl
  case hyz0 => decide +kernel
  case hz0 => decide +kernel
  rw [escape_cons]
  generalize strike x "&" "&" "&amp;" = x at hx ⊢
  obtain ⟨h, hx⟩ := hx
  refine Ex.cons (Ex.strike O 0 rfl rfl (methAt ?b1 ?f1 ?l1) ?hyz1 h ?hz1 ?hd1 ?hc1 ?hs1 ?ht1) ?rest1
  case b1 => rfl
  case f1 => rfl
  case l1 => rfl
  case hd1 => rfl
  case hc1 => rfl
  case hs1 => rfl
  case ht1 => rfl
  case hyz1 => decide +kernel
  case hz1 => decide +kernel
  rw [escape_cons]
  generalize strike x "<" "<" "&lt;" = x at hx ⊢
  obtain ⟨h, hx⟩ := hx
  refine Ex.cons (Ex.strike O 0 rfl rfl (methAt ?b2 ?f2 ?l2) ?hyz2 h ?hz2 ?hd2 ?hc2 ?hs2 ?ht2) ?rest2
  case b2 => rfl
  case f2 => rfl
  case l2 => rfl
  case hd2 => rfl
  case hc2 => rfl
  case hs2 => rfl
  case ht2 => rfl
  case hyz2 => decide +kernel
  case hz2 => decide +kernel
  rw [escape_cons]
  generalize strike x ">" ">" "&gt;" = x at hx ⊢
  obtain ⟨h, hx⟩ := hx
  refine Ex.cons (Ex.strike O 0 rfl rfl (methAt ?b3 ?f3 ?l3) ?hyz3 h ?hz3 ?hd3 ?hc3 ?hs3 ?ht3) ?rest3
  case b3 => rfl
  case f3 => rfl
  case l3 => rfl
  case hd3 => rfl
  case hc3 => rfl
  case hs3 => rfl
  case ht3 => rfl
  case hyz3 => decide +kernel
  case hz3 => decide +kernel
  rw [escape_cons]
  generalize strike x "\"" "\"" "&quot;" = x at hx ⊢
  obtain ⟨h, hx⟩ := hx
  refine Ex.cons (Ex.strike O 0 rfl rfl (methAt ?b4 ?f4 ?l4) ?hyz4 h ?hz4 ?hd4 ?hc4 ?hs4 ?ht4) ?rest4
  case b4 => rfl
  case f4 => rfl
  case l4 => rfl
  case hd4 => rfl
  case hc4 => rfl
  case hs4 => rfl
  case ht4 => rfl
  case hyz4 => decide +kernel
  case hz4 => decide +kernel
  rw [escape_cons]
  generalize strike x "\r" "\r" "&#13;" = x at hx ⊢
  obtain ⟨h, hx⟩ := hx
  refine Ex.cons (Ex.strike O 0 rfl rfl (methAt ?b5 ?f5 ?l5) ?hyz5 h ?hz5 ?hd5 ?hc5 ?hs5 ?ht5) ?rest5
  case b5 => rfl
  case f5 => rfl
  case l5 => rfl
  case hd5 => rfl
  case hc5 => rfl
  case hs5 => rfl
  case ht5 => rfl
  case hyz5 => decide +kernel
  case hz5 => decide +kernel
  rw [escape_cons]
  generalize strike x "\n" "\n" "&#10;" = x at hx ⊢
  obtain ⟨h, hx⟩ := hx
  refine Ex.cons (Ex.strike O 0 rfl rfl (methAt ?b6 ?f6 ?l6) ?hyz6 h ?hz6 ?hd6 ?hc6 ?hs6 ?ht6) ?rest6
  case b6 => rfl
  case f6 => rfl
  case l6 => rfl
  case hd6 => rfl
  case hc6 => rfl
  case hs6 => rfl
  case ht6 => rfl
  case hyz6 => decide +kernel
  case hz6 => decide +kernel
  rw [escape_cons]
  generalize strike x "\t" "\t" "&#09;" = x at hx ⊢
  exact Ex.stop (Ex.ret (Ev.name O 0 rfl rfl rfl rfl)) (fun _ e => by cases e)
theorem esc2_spec {f : Addr} (F : DefAt mg hb "_escape_attrib_html" f 21) (x : Str) (hx : EscOk esc2 x) : Fn 1 prog w mg mb hb f [.str x] (.str (escape esc2 x)) := by
  refine Fn.ofN F ["text"] 0 nm21 [.val (.str x)] rfl rfl (by decide +kernel) rfl (fun vs pm c doc h => by obtain ⟨a, rfl⟩ := len1 h; kernel_rfl) fun L cd h₀ inh O => ?_
  conv in (fnBody _) => whnf
  refine Ex.stop (Ex.try ?_) (fun _ e => by cases e)
  rw [show esc2 = ([("&", "&amp;"), (">", "&gt;"), ("\"", "&quot;")] : List (Str × Str)) from rfl] at hx ⊢
  obtain ⟨h, hx⟩ := hx
  refine Ex.cons (Ex.strike O 0 rfl rfl (methAt ?b0 ?f0 ?l0) ?hyz0 h ?hz0 ?hd0 ?hc0 ?hs0 ?ht0) ?rest0
  case b0 => rfl
  case f0 => rfl
  case l0 => rfl
  case hd0 => rfl
  case hc0 => rfl
  case hs0 => rfl
  case ht0 => rfl
  case hyz0 => decide +kernel
  case hz0 => decide +kernel
  rw [escape_cons]
  generalize strike x "&" "&" "&amp;" = x at hx ⊢
  obtain ⟨h, hx⟩ := hx
  refine Ex.cons (Ex.strike O 0 rfl rfl (methAt ?b1 ?f1 ?l1) ?hyz1 h ?hz1 ?hd1 ?hc1 ?hs1 ?ht1) ?rest1
  case b1 => rfl
  case f1 => rfl
  case l1 => rfl
  case hd1 => rfl
  case hc1 => rfl
  case hs1 => rfl
  case ht1 => rfl
  case hyz1 => decide +kernel
  case hz1 => decide +kernel
  rw [escape_cons]
  generalize strike x ">" ">" "&gt;" = x at hx ⊢
  obtain ⟨h, hx⟩ := hx
  refine Ex.cons (Ex.strike O 0 rfl rfl (methAt ?b2 ?f2 ?l2) ?hyz2 h ?hz2 ?hd2 ?hc2 ?hs2 ?ht2) ?rest2
  case b2 => rfl
  case f2 => rfl
  case l2 => rfl
  case hd2 => rfl
  case hc2 => rfl
  case hs2 => rfl
  case ht2 => rfl
  case hyz2 => decide +kernel
  case hz2 => decide +kernel
  rw [escape_cons]
  generalize strike x "\"" "\"" "&quot;" = x at hx ⊢
  exact Ex.stop (Ex.ret (Ev.name O 0 rfl rfl rfl rfl)) (fun _ e => by cases e)
theorem esc3_spec {f : Addr} (F : DefAt mg hb "_escape_cdata_c14n" f 22) (x : Str) (hx : EscOk esc3 x) : Fn 1 prog w mg mb hb f [.str x] (.str (escape esc3 x)) := by
  refine Fn.ofN F ["text"] 0 nm22 [.val (.str x)] rfl rfl (by decide +kernel) rfl (fun vs pm c doc h => by obtain ⟨a, rfl⟩ := len1 h; kernel_rfl) fun L cd h₀ inh O => ?_
  conv in (fnBody _) => whnf
  refine Ex.stop (Ex.try ?_) (fun _ e => by cases e)
  rw [show esc3 = ([("&", "&amp;"), ("<", "&lt;"), (">", "&gt;"), ("\r", "&#xD;")] : List (Str × Str)) from rfl] at hx ⊢
  obtain ⟨h, hx⟩ := hx
  refine Ex.cons (Ex.strike O 0 rfl rfl (methAt ?b0 ?f0 ?l0) ?hyz0 h ?hz0 ?hd0 ?hc0 ?hs0 ?ht0) ?rest0
  case b0 => rfl
  case f0 => rfl
  case l0 => rfl
  case hd0 => rfl
  case hc0 => rfl
  case hs0 => rfl
  case ht0 => rfl
  case hyz0 => decide +kernel
  case hz0 => decide +kernel
  rw [escape_cons]
  generalize strike x "&" "&" "&amp;" = x at hx ⊢
  obtain ⟨h, hx⟩ := hx
  refine Ex.cons (Ex.strike O 0 rfl rfl (methAt ?b1 ?f1 ?l1) ?hyz1 h ?hz1 ?hd1 ?hc1 ?hs1 ?ht1) ?rest1
  case b1 => rfl
  case f1 => rfl
  case l1 => rfl
  case hd1 => rfl
  case hc1 => rfl
  case hs1 => rfl
  case ht1 => rfl
  case hyz1 => decide +kernel
  case hz1 => decide +kernel
  rw [escape_cons]
  generalize strike x "<" "<" "&lt;" = x at hx ⊢
  obtain ⟨h, hx⟩ := hx
  refine Ex.cons (Ex.strike O 0 rfl rfl (methAt ?b2 ?f2 ?l2) ?hyz2 h ?hz2 ?hd2 ?hc2 ?hs2 ?ht2) ?rest2
  case b2 => rfl
  case f2 => rfl
  case l2 => rfl
  case hd2 => rfl
  case hc2 => rfl
  case hs2 => rfl
  case ht2 => rfl
  case hyz2 => decide +kernel
  case hz2 => decide +kernel
  rw [escape_cons]
  generalize strike x ">" ">" "&gt;" = x at hx ⊢
  obtain ⟨h, hx⟩ := hx
  refine Ex.cons (Ex.strike O 0 rfl rfl (methAt ?b3 ?f3 ?l3) ?hyz3 h ?hz3 ?hd3 ?hc3 ?hs3 ?ht3) ?rest3
  case b3 => rfl
  case f3 => rfl
  case l3 => rfl
  case hd3 => rfl
  case hc3 => rfl
  case hs3 => rfl
  case ht3 => rfl
  case hyz3 => decide +kernel
  case hz3 => decide +kernel
  rw [escape_cons]
  generalize strike x "\r" "\r" "&#xD;" = x at hx ⊢
  exact Ex.stop (Ex.ret (Ev.name O 0 rfl rfl rfl rfl)) (fun _ e => by cases e)
theorem esc4_spec {f : Addr} (F : DefAt mg hb "_escape_attrib_c14n" f 23) (x : Str) (hx : EscOk esc4 x) : Fn 1 prog w mg mb hb f [.str x] (.str (escape esc4 x)) := by
  refine Fn.ofN F ["text"] 0 nm23 [.val (.str x)] rfl rfl (by decide +kernel) rfl (fun vs pm c doc h => by obtain ⟨a, rfl⟩ := len1 h; kernel_rfl) fun L cd h₀ inh O => ?_
  conv in (fnBody _) => whnf
  refine Ex.stop (Ex.try ?_) (fun _ e => by cases e)
  rw [show esc4 = ([("&", "&amp;"), ("<", "&lt;"), ("\"", "&quot;"), ("\t", "&#x9;"), ("\n", "&#xA;"), ("\r", "&#xD;")] : List (Str × Str)) from rfl] at hx ⊢
  obtain ⟨h, hx⟩ := hx
  refine Ex.cons (Ex.strike O 0 rfl rfl (methAt ?b0 ?f0 ?l0) ?hyz0 h ?hz0 ?hd0 ?hc0 ?hs0 ?ht0) ?rest0
  case b0 => rfl
  case f0 => rfl
  case l0 => rfl
  case hd0 => rfl
  case hc0 => rfl
  case hs0 => rfl
  case ht0 => rfl
  case hyz0 => decide +kernel
  case hz0 => decide +kernel
  rw [escape_cons]
  generalize strike x "&" "&" "&amp;" = x at hx ⊢
  obtain ⟨h, hx⟩ := hx
  refine Ex.cons (Ex.strike O 0 rfl rfl (methAt ?b1 ?f1 ?l1) ?hyz1 h ?hz1 ?hd1 ?hc1 ?hs1 ?ht1) ?rest1
  case b1 => rfl
  case f1 => rfl
  case l1 => rfl
  case hd1 => rfl
  case hc1 => rfl
  case hs1 => rfl
  case ht1 => rfl
  case hyz1 => decide +kernel
  case hz1 => decide +kernel
  rw [escape_cons]
  generalize strike x "<" "<" "&lt;" = x at hx ⊢
  obtain ⟨h, hx⟩ := hx
  refine Ex.cons (Ex.strike O 0 rfl rfl (methAt ?b2 ?f2 ?l2) ?hyz2 h ?hz2 ?hd2 ?hc2 ?hs2 ?ht2) ?rest2
  case b2 => rfl
  case f2 => rfl
  case l2 => rfl
  case hd2 => rfl
  case hc2 => rfl
  case hs2 => rfl
  case ht2 => rfl
  case hyz2 => decide +kernel
  case hz2 => decide +kernel
  rw [escape_cons]
  generalize strike x "\"" "\"" "&quot;" = x at hx ⊢
  obtain ⟨h, hx⟩ := hx
  refine Ex.cons (Ex.strike O 0 rfl rfl (methAt ?b3 ?f3 ?l3) ?hyz3 h ?hz3 ?hd3 ?hc3 ?hs3 ?ht3) ?rest3
  case b3 => rfl
  case f3 => rfl
  case l3 => rfl
  case hd3 => rfl
  case hc3 => rfl
  case hs3 => rfl
  case ht3 => rfl
  case hyz3 => decide +kernel
  case hz3 => decide +kernel
  rw [escape_cons]
  generalize strike x "\t" "\t" "&#x9;" = x at hx ⊢
  obtain ⟨h, hx⟩ := hx
  refine Ex.cons (Ex.strike O 0 rfl rfl (methAt ?b4 ?f4 ?l4) ?hyz4 h ?hz4 ?hd4 ?hc4 ?hs4 ?ht4) ?rest4
  case b4 => rfl
  case f4 => rfl
  case l4 => rfl
  case hd4 => rfl
  case hc4 => rfl
  case hs4 => rfl
  case ht4 => rfl
  case hyz4 => decide +kernel
  case hz4 => decide +kernel
  rw [escape_cons]
  generalize strike x "\n" "\n" "&#xA;" = x at hx ⊢
  obtain ⟨h, hx⟩ := hx
  refine Ex.cons (Ex.strike O 0 rfl rfl (methAt ?b5 ?f5 ?l5) ?hyz5 h ?hz5 ?hd5 ?hc5 ?hs5 ?ht5) ?rest5
  case b5 => rfl
  case f5 => rfl
  case l5 => rfl
  case hd5 => rfl
  case hc5 => rfl
  case hs5 => rfl
  case ht5 => rfl
  case hyz5 => decide +kernel
  case hz5 => decide +kernel
  rw [escape_cons]
  generalize strike x "\r" "\r" "&#xD;" = x at hx ⊢
  exact Ex.stop (Ex.ret (Ev.name O 0 rfl rfl rfl rfl)) (fun _ e => by cases e)
end
end Mine
-- To
namespace Mine
open PySem PySem.Calls PyProof.Rows PySem.W
set_option maxRecDepth 100000
def upL (a n : Nat) : List Int := (List.range n).map fun i => ((a + i : Nat) : Int)
def setL_b1 : List Int := [173, 847, 6150, 6155, 6156, 6157, 8203, 8204, 8205, 8288, 65279] ++ upL 65024 16
def setL_c6 : List Int := upL 65529 5
def setL_c7 : List Int := upL 12272 12
def setL_c8 : List Int := [832, 833, 8206, 8207] ++ upL 8234 5 ++ upL 8298 6
def setL_c9 : List Int := [917505] ++ upL 917536 96
def inL (l : List Int) (k : Int) : Bool := l.any (· == k)
set_option genInjectivity false in
set_option genSizeOf false in
/-- what stands at the text's top: the defs, the sets, the dicts, the builtins that it names -/
structure Top (prog : Program) (w : World) (mg mb : Str → Option Value) (hb : Heap) (flags b3 : Int → Option Str) where
  f2 : Addr
  F2 : DefAt mg hb "pretty_flags" f2 2
  f5 : Addr
  F5 : DefAt mg hb "in_table_b1" f5 5
  f7 : Addr
  F7 : DefAt mg hb "map_table_b3" f7 7
  f8 : Addr
  F8 : DefAt mg hb "in_table_c4" f8 8
  f10 : Addr
  F10 : DefAt mg hb "in_table_c6" f10 10
  f12 : Addr
  F12 : DefAt mg hb "in_table_c7" f12 12
  f14 : Addr
  F14 : DefAt mg hb "in_table_c8" f14 14
  f16 : Addr
  F16 : DefAt mg hb "in_table_c9" f16 16
  f19 : Addr
  F19 : DefAt mg hb "_escape_cdata" f19 19
  f20 : Addr
  F20 : DefAt mg hb "_escape_attrib" f20 20
  f21 : Addr
  F21 : DefAt mg hb "_escape_attrib_html" f21 21
  f22 : Addr
  F22 : DefAt mg hb "_escape_cdata_c14n" f22 22
  f23 : Addr
  F23 : DefAt mg hb "_escape_attrib_c14n" f23 23
  f25 : Addr
  F25 : DefAt mg hb "_law_runs" f25 25
  f26 : Addr
  F26 : DefAt mg hb "_law_cells" f26 26
  f27 : Addr
  F27 : DefAt mg hb "_law_text" f27 27
  f28 : Addr
  F28 : DefAt mg hb "_law_table" f28 28
  f29 : Addr
  F29 : DefAt mg hb "_law_row" f29 29
  f30 : Addr
  F30 : DefAt mg hb "_law_asked" f30 30
  f31 : Addr
  F31 : DefAt mg hb "_law_answered" f31 31
  f32 : Addr
  F32 : DefAt mg hb "_law_findings" f32 32
  f33 : Addr
  F33 : DefAt mg hb "_law_words" f33 33
  f34 : Addr
  F34 : DefAt mg hb "_law_unions" f34 34
  f35 : Addr
  F35 : DefAt mg hb "_law_once" f35 35
  f36 : Addr
  F36 : DefAt mg hb "law" f36 36
  a_b1 : Addr
  m_b1 : mg "b1_set" = some (.ref a_b1)
  s_b1 : SetAt prog w hb a_b1 (inL setL_b1)
  a_c6 : Addr
  m_c6 : mg "c6_set" = some (.ref a_c6)
  s_c6 : SetAt prog w hb a_c6 (inL setL_c6)
  a_c7 : Addr
  m_c7 : mg "c7_set" = some (.ref a_c7)
  s_c7 : SetAt prog w hb a_c7 (inL setL_c7)
  a_c8 : Addr
  m_c8 : mg "c8_set" = some (.ref a_c8)
  s_c8 : SetAt prog w hb a_c8 (inL setL_c8)
  a_c9 : Addr
  m_c9 : mg "c9_set" = some (.ref a_c9)
  s_c9 : SetAt prog w hb a_c9 (inL setL_c9)
  a_flags : Addr
  m_flags : mg "COMPILER_FLAG_NAMES" = some (.ref a_flags)
  s_flags : DictAt prog w hb a_flags flags
  a_b3 : Addr
  m_b3 : mg "b3_exceptions" = some (.ref a_b3)
  s_b3 : DictAt prog w hb a_b3 b3
  b_range : Bt mg mb "range" (.type "range")
  b_enumerate : Bt mg mb "enumerate" (.type "enumerate")
  b_bool : Bt mg mb "bool" (.type "bool")
  b_hex : Bt mg mb "hex" (.builtin "hex")
  b_ord : Bt mg mb "ord" (.builtin "ord")
  b_chr : Bt mg mb "chr" (.builtin "chr")
  b_isinstance : Bt mg mb "isinstance" (.builtin "isinstance")
  b_sum : Bt mg mb "sum" (.builtin "sum")
  b_sorted : Bt mg mb "sorted" (.builtin "sorted")
end Mine
-- Di
namespace Mine
open PySem PySem.Calls PyProof.Rows PySem.W
set_option maxRecDepth 100000
section
variable {n : Nat} {C : Cx} {σ : List Slot} {p q r : PV} {ps : List PV} {hid : List Addr} {h h' : Heap} {o : Out}
/-- what a frame's name holds is let out of mind -/
theorem St.forget (S : St C hid σ h) (i : Nat) : St C hid (σ.set i .unset) h where
  gl := S.gl
  keep := S.keep
  sub := S.sub
  isl := S.isl
  loc := S.loc
  up := S.up
  vals := fun j x k p e1 e2 => by
    rcases set_at e2 with ⟨_, f⟩ | ⟨_, f⟩
    · cases f
    · exact S.vals j x k p e1 f
  owns := fun j x k p e1 e2 => by
    rcases set_at e2 with ⟨_, f⟩ | ⟨_, f⟩
    · cases f
    · exact S.owns j x k p e1 f
  apart := fun i j x k y k' xs ys l e1 e2 s1 s2 a b => by
    rcases set_at s1 with ⟨_, f⟩ | ⟨_, f1⟩
    · cases f
    rcases set_at s2 with ⟨_, f⟩ | ⟨_, f2⟩
    · cases f
    exact S.apart i j x k y k' xs ys l e1 e2 f1 f2 a b
  cells := S.cells
def unsets (is : List Nat) (σ : List Slot) : List Slot := is.foldl (fun σ i => σ.set i .unset) σ
theorem St.unsets : ∀ (is : List Nat) {σ : List Slot}, St C hid σ h → St C hid (unsets is σ) h
  | [], _, S => S
  | i :: is, _, S => St.unsets is (S.forget i)
theorem Ex.weak (is : List Nat) {σ' : List Slot} {t : Sem Flow} (h1 : Ex n C σ t (.next σ')) : Ex n C σ t (.next (Mine.unsets is σ')) := .mk <| fun A hid s Q E R S k => h1.run A hid s Q E R S fun f hid' h' tk g ⟨e, S'⟩ => k f hid' h' tk g ⟨e, S'.unsets is⟩
theorem Ex.weakB (is : List Nat) {σ' : List Slot} {t : Sem Flow} (h1 : Ex n C σ t (.brk σ')) : Ex n C σ t (.brk (Mine.unsets is σ')) := .mk <| fun A hid s Q E R S k => h1.run A hid s Q E R S fun f hid' h' tk g ⟨e, S'⟩ => k f hid' h' tk g ⟨e, S'.unsets is⟩
end
theorem eqBool_bool {prog : Program} {w : World} {A : Around} {E : Value → Shared → Prop} {s : Shared} {a b : Bool} {Q : Bool → Shared → Prop} (h : Q (a == b) s) : wpAny (model prog w) A (eqBool (.bool a) (.bool b)) Q E s := by
  unfold eqBool
  show wpAny _ _ (if (Value.bool a == Value.bool b) = true then _ else _) Q E s
  by_cases hab : (Value.bool a == Value.bool b) = true
  · rw [if_pos hab]
    have e : a = b := by have := eq_of_beq hab; injection this
    subst e
    exact wpAny_bind (wpAny_rule (wpAny_pure (by simpa using h)))
  · rw [if_neg hab]
    exact wpAny_bind (PyProof.Rows.eq_bool (wpAny_truthy_bool h))
theorem eqGives_bool (a b : Bool) : MeetsSeq.EqGives (.bool a) (.bool b) (a == b) := fun _ _ _ _ _ _ h => eqBool_bool h
section
variable {n : Nat} {prog : Program} {w : World}
def isB (b : Bool) : Value → Bool
  | .bool c => c == b
  | _ => false
theorem Op2.in_lst_bools {xs : List Bool} {b : Bool} : Op2 n prog w (compareOp .In) (.bool b) (.lst (xs.map .bool)) (.bool (xs.any (· == b))) := .mk <| fun A hid s Q E u v R _ h1 h2 k => by
  cases h1
  obtain ⟨l, us, m, rfl, nl, hl, hv⟩ := h2
  have hb := bools_of hv
  subst hb
  refine SeqInW.in_listW (isB b) (fun y hy => ?_) (l := l) (items := (xs.map Value.bool).toArray) ⟨_, hl, rfl, _, rfl⟩ ?_
  · rw [List.mem_toArray] at hy
    obtain ⟨c, _, rfl⟩ := List.mem_map.mp hy
    exact eqGives_bool c b
  · have e : (xs.map Value.bool).toArray.any (isB b) = xs.any (· == b) := by
      rw [← Array.any_toList]
      show (xs.map Value.bool).any _ = _
      rw [List.any_map]; rfl
    rw [e]
    exact k _ s.heap s.toks (Keeps.refl _) rfl
theorem enumP_map {α : Type} (g : α → PV) (xs : List α) : enumP (xs.map g) = xs.zipIdx.map fun q => .tup [.int (q.2 : Int), g q.1] := by
  unfold enumP
  refine List.ext_getElem? fun i => ?_
  rw [List.getElem?_mapIdx, List.getElem?_map, List.getElem?_map, List.getElem?_zipIdx, Option.map_map, Option.map_map]
  cases xs[i]? <;> simp
end
section
variable {prog : Program} {w : World} {mg mb : Str → Option Value} {hb : Heap} {flags b3 : Int → Option Str}
def askedL (c : Nat) : List Bool := [inL setL_b1 c, c4Of c, inL setL_c6 c, inL setL_c7 c, inL setL_c8 c, inL setL_c9 c]
theorem asked_spec (T : Top prog w mg mb hb flags b3) (c : Nat) : Fn 2 prog w mg mb hb T.f30 [.str (chS c)] (.lst ((askedL c).map .bool)) := by
  refine Fn.ofN T.F30 ["sign"] 0 nm30 [.val (.str (chS c))] rfl rfl (by decide +kernel) rfl (fun vs pm c doc h => by obtain ⟨a, rfl⟩ := len1 h; kernel_rfl) fun L cd h₀ inh O => ?_
  conv in (fnBody _) => whnf
  refine Ex.stop (Ex.ret (Ev.lst ?_ (by show 6 ≤ sizeLine; decide))) (fun _ e => by cases e)
  unfold askedL
  refine Els.cons (Ev.callF T.F5 (Ev.glob O 1 rfl T.F5.name rfl) (Els.cons (Ev.name O 0 rfl rfl rfl rfl) Els.nil) (b1_spec T.F5 T.b_ord T.m_b1 T.s_b1 c)) ?_
  refine Els.cons (Ev.callF T.F8 (Ev.glob O 2 rfl T.F8.name rfl) (Els.cons (Ev.name O 0 rfl rfl rfl rfl) Els.nil) (c4_spec T.F8 T.b_ord c)) ?_
  refine Els.cons (Ev.callF T.F10 (Ev.glob O 3 rfl T.F10.name rfl) (Els.cons (Ev.name O 0 rfl rfl rfl rfl) Els.nil) (c6_spec T.F10 T.b_ord T.m_c6 T.s_c6 c)) ?_
  refine Els.cons (Ev.callF T.F12 (Ev.glob O 4 rfl T.F12.name rfl) (Els.cons (Ev.name O 0 rfl rfl rfl rfl) Els.nil) (c7_spec T.F12 T.b_ord T.m_c7 T.s_c7 c)) ?_
  refine Els.cons (Ev.callF T.F14 (Ev.glob O 5 rfl T.F14.name rfl) (Els.cons (Ev.name O 0 rfl rfl rfl rfl) Els.nil) (c8_spec T.F14 T.b_ord T.m_c8 T.s_c8 c)) ?_
  refine Els.cons (Ev.callF T.F16 (Ev.glob O 6 rfl T.F16.name rfl) (Els.cons (Ev.name O 0 rfl rfl rfl rfl) Els.nil) (c9_spec T.F16 T.b_ord T.m_c9 T.s_c9 c)) ?_
  exact Els.nil
/-- the six answers are as the runs tell -/
def ansOk (t : Int) (q : Bool × Nat) : Bool := q.1 == ((q.2 : Int) == t)
def askOk (c : Nat) : Bool := (askedL c).zipIdx.all (ansOk (tableOf c))
theorem answered_spec (T : Top prog w mg mb hb flags b3) (x : Str) : Fn 3 prog w mg mb hb T.f31 [.str x] (.bool (x.cps.toList.all askOk)) := by
  refine Fn.ofN T.F31 ["text"] 4 nm31 [.val (.str x), .unset, .unset, .unset, .unset] rfl rfl (by decide +kernel) rfl (fun vs pm c doc h => by obtain ⟨a, rfl⟩ := len1 h; kernel_rfl) fun L cd h₀ inh O => ?_
  conv in (fnBody _) => whnf
  refine Ex.then (o₁ := if x.cps.toList.all askOk then .next [.val (.str x), .unset, .unset, .unset, .unset] else .ret (.bool false)) (Ex.for (EvIter.str (Ev.name O 0 rfl rfl rfl rfl)) ?_) ?_ ?_
  · unfold signs
    refine (?_ : ∀ cs : List Nat, Loop 2 _ _ _ _ (cs.map fun c => .str ⟨#[c]⟩) [.val (.str x), .unset, .unset, .unset, .unset] (if cs.all askOk then .next [.val (.str x), .unset, .unset, .unset, .unset] else .ret (.bool false))) x.cps.toList
    intro cs
    induction cs with
    | nil => exact Loop.done Ex.nil
    | cons c cs ih =>
      rw [List.map_cons, List.all_cons]
      cases hc : askOk c with
      | true =>
        rw [Bool.true_and]
        refine Loop.next (σ₂ := [.val (.str x), .unset, .unset, .unset, .unset]) (Asg.name O 1 rfl) ?_ ih
        refine Ex.cons (Ex.assign O 2 rfl (Ev.callF T.F28 (Ev.glob O 5 rfl T.F28.name rfl) (Els.cons (Ev.callB O 6 rfl T.b_ord.1 T.b_ord.2  (Els.cons (Ev.name O 1 rfl rfl rfl rfl) Els.nil) Bf.ord rfl) Els.nil) (table_spec T.F28 T.F25 c))) ?_
        refine Ex.cons (Ex.weak [1, 2] (σ' := [.val (.str x), .val (.str (chS c)), .val (.int (tableOf c)), .unset, .unset]) (Ex.for (ps := enumP ((askedL c).map .bool)) (EvIter.enum O 7 rfl T.b_enumerate.1 T.b_enumerate.2 (Ev.callF T.F30 (Ev.glob O 8 rfl T.F30.name rfl) (Els.cons (Ev.name O 1 rfl rfl rfl rfl) Els.nil) (asked_spec T c)) rfl) ?_)) Ex.nil
        rw [enumP_map]
        refine (?_ : ∀ l : List (Bool × Nat), l.all (ansOk (tableOf c)) = true → Loop 2 _ _ _ _ (l.map fun q => .tup [.int (q.2 : Int), .bool q.1]) [.val (.str x), .val (.str (chS c)), .val (.int (tableOf c)), .unset, .unset] (.next [.val (.str x), .val (.str (chS c)), .val (.int (tableOf c)), .unset, .unset])) (askedL c).zipIdx hc
        intro l
        induction l with
        | nil => intro _; exact Loop.done Ex.nil
        | cons q l ihl =>
          obtain ⟨v, i⟩ := q
          intro hl
          rw [List.all_cons, Bool.and_eq_true] at hl
          refine Loop.next (Asg.tup (AsgAll.cons (Asg.name O 3 rfl) (AsgAll.cons (Asg.name O 4 rfl) AsgAll.nil))) (Ex.weak [3, 4] (Ex.cons (Ex.ite (b := false) (Et.of (Et.or (Et.not (Et.plain (Ev.isBool O 9 10 rfl T.b_isinstance.1 T.b_isinstance.2 rfl T.b_bool.1 T.b_bool.2 (Ev.name O 4 rfl rfl rfl rfl) rfl rfl) Tr.bool)) (fun _ => Et.or (Et.cmp (Ev.name O 4 rfl rfl rfl rfl) (Ev.cmp (Ev.name O 3 rfl rfl rfl rfl) (Ev.name O 2 rfl rfl rfl rfl) Op2.eq_int) Op2.ne_bool) (fun _ => Et.or0))) ?_) (fun e => absurd e (by decide)) (fun _ => Ex.nil)) Ex.nil)) (ihl hl.2)
          have h1 : (v == ((i : Int) == tableOf c)) = true := hl.1
          rw [bne, h1]; rfl
      | false =>
        rw [Bool.false_and]
        refine Loop.ret (Asg.name O 1 rfl) ?_
        refine Ex.cons (Ex.assign O 2 rfl (Ev.callF T.F28 (Ev.glob O 5 rfl T.F28.name rfl) (Els.cons (Ev.callB O 6 rfl T.b_ord.1 T.b_ord.2  (Els.cons (Ev.name O 1 rfl rfl rfl rfl) Els.nil) Bf.ord rfl) Els.nil) (table_spec T.F28 T.F25 c))) ?_
        refine Ex.stop (Ex.for (ps := enumP ((askedL c).map .bool)) (EvIter.enum O 7 rfl T.b_enumerate.1 T.b_enumerate.2 (Ev.callF T.F30 (Ev.glob O 8 rfl T.F30.name rfl) (Els.cons (Ev.name O 1 rfl rfl rfl rfl) Els.nil) (asked_spec T c)) rfl) ?_) (fun _ e => by cases e)
        rw [enumP_map]
        refine (?_ : ∀ l : List (Bool × Nat), l.all (ansOk (tableOf c)) = false → Loop 2 _ _ _ _ (l.map fun q => .tup [.int (q.2 : Int), .bool q.1]) [.val (.str x), .val (.str (chS c)), .val (.int (tableOf c)), .unset, .unset] (.ret (.bool false))) (askedL c).zipIdx hc
        intro l
        induction l with
        | nil => intro h; cases h
        | cons q l ihl =>
          obtain ⟨v, i⟩ := q
          intro hl
          rw [List.all_cons, Bool.and_eq_false_iff] at hl
          cases h1 : (v == ((i : Int) == tableOf c)) with
          | true =>
            refine Loop.next (Asg.tup (AsgAll.cons (Asg.name O 3 rfl) (AsgAll.cons (Asg.name O 4 rfl) AsgAll.nil))) (Ex.weak [3, 4] (Ex.cons (Ex.ite (b := false) (Et.of (Et.or (Et.not (Et.plain (Ev.isBool O 9 10 rfl T.b_isinstance.1 T.b_isinstance.2 rfl T.b_bool.1 T.b_bool.2 (Ev.name O 4 rfl rfl rfl rfl) rfl rfl) Tr.bool)) (fun _ => Et.or (Et.cmp (Ev.name O 4 rfl rfl rfl rfl) (Ev.cmp (Ev.name O 3 rfl rfl rfl rfl) (Ev.name O 2 rfl rfl rfl rfl) Op2.eq_int) Op2.ne_bool) (fun _ => Et.or0))) ?_) (fun e => absurd e (by decide)) (fun _ => Ex.nil)) Ex.nil)) (ihl (hl.resolve_left (by unfold ansOk; rw [h1]; decide)))
            rw [bne, h1]; rfl
          | false =>
            refine Loop.ret (Asg.tup (AsgAll.cons (Asg.name O 3 rfl) (AsgAll.cons (Asg.name O 4 rfl) AsgAll.nil))) (Ex.stop (Ex.ite (b := true) (Et.of (Et.or (Et.not (Et.plain (Ev.isBool O 9 10 rfl T.b_isinstance.1 T.b_isinstance.2 rfl T.b_bool.1 T.b_bool.2 (Ev.name O 4 rfl rfl rfl rfl) rfl rfl) Tr.bool)) (fun _ => Et.or (Et.cmp (Ev.name O 4 rfl rfl rfl rfl) (Ev.cmp (Ev.name O 3 rfl rfl rfl rfl) (Ev.name O 2 rfl rfl rfl rfl) Op2.eq_int) Op2.ne_bool) (fun _ => Et.or0))) ?_) (fun _ => Ex.stop (Ex.ret Ev.bool) (fun _ e => by cases e)) (fun e => absurd e (by decide))) (fun _ e => by cases e))
            rw [bne, h1]; rfl
  · intro σ' hσ'
    cases h : x.cps.toList.all askOk with
    | true =>
      rw [h] at hσ'; cases hσ'
      exact Ex.stop (Ex.ret Ev.bool) (fun _ e => by cases e)
    | false => rw [h] at hσ'; cases hσ'
  · intro hn
    cases h : x.cps.toList.all askOk with
    | true => rw [h] at hn; exact absurd rfl (hn _)
    | false => rfl
end
end Mine
-- Dj
namespace Mine
open PySem PySem.Calls PyProof.Rows PySem.W
set_option maxRecDepth 100000
section
variable {prog : Program} {w : World} {mg mb : Str → Option Value} {hb : Heap} {flags b3 : Int → Option Str}
/-- what the judges but the first find in a sign -/
def find1 (b3 : Int → Option Str) (f : Int) (c : Nat) : Int := if b3Of b3 c != chS c then Builtin.bitOr f 2 else f
def find2 (f : Int) (c : Nat) : Int := if inL setL_b1 c then Builtin.bitOr f 4 else f
def find3 (f : Int) (c : Nat) : Int := if ((askedL c).drop 1).any (· == true) then Builtin.bitOr f 8 else f
def findStep (b3 : Int → Option Str) (f : Int) (c : Nat) : Int := find3 (find2 (find1 b3 f c) c) c
def findOf (b3 : Int → Option Str) (wr : Str → Str) (x : Str) : Int := x.cps.toList.foldl (findStep b3) (if wr x != x then 1 else 0)
theorem pvPick_one (a b c d e f : PV) : pvPick [a, b, c, d, e, f] (some 1) none = [b, c, d, e, f] := by kernel_rfl
theorem asked_pick (c : Nat) : PV.lst (pvPick ((askedL c).map .bool) (some 1) none) = .lst (((askedL c).drop 1).map .bool) := congrArg PV.lst (pvPick_one (.bool (inL setL_b1 c)) (.bool (c4Of c)) (.bool (inL setL_c6 c)) (.bool (inL setL_c7 c)) (.bool (inL setL_c8 c)) (.bool (inL setL_c9 c)))
theorem asked_len (c : Nat) : ((askedL c).map PV.bool).length ≤ sizeLine := by show 6 ≤ sizeLine; decide
theorem findings_spec (T : Top prog w mg mb hb flags b3) {fw : Addr} {xw : Str} {pw bw sw} (Fw : FnAt mg hb xw fw pw bw sw) (wr : Str → Str) (x : Str) (hw : Fn 1 prog w mg mb hb fw [.str x] (.str (wr x)))
    (hl : ∀ c ∈ x.cps.toList, Builtin.Str.tooLong (Txt.lower (chS c)).length = false) : Fn 3 prog w mg mb hb T.f32 [.fn fw, .str x] (.int (findOf b3 wr x)) := by
  refine Fn.ofN T.F32 ["writer", "text"] 3 nm32 [.val (.fn fw), .val (.str x), .unset, .unset, .unset] rfl rfl (by decide +kernel) rfl (fun vs pm c doc h => by obtain ⟨a, b, rfl⟩ := len2 h; kernel_rfl) fun L cd h₀ inh O => ?_
  conv in (fnBody _) => whnf
  refine Ex.cons (Ex.assign O 2 rfl Ev.int) ?_
  refine Ex.cons (σ' := [.val (.fn fw), .val (.str x), .val (.int (if wr x != x then 1 else 0)), .unset, .unset]) (Ex.ite (Et.cmp (Ev.callF Fw (Ev.name O 0 rfl rfl rfl rfl) (Els.cons (Ev.name O 1 rfl rfl rfl rfl) Els.nil) (hw.le (by decide))) (Ev.name O 1 rfl rfl rfl rfl) Op2.ne_str) (fun h => ?_) (fun h => ?_)) ?_
  · rw [h, if_pos rfl]; exact Ex.cons (Ex.assign O 2 rfl Ev.int) Ex.nil
  · rw [h, if_neg (by decide)]; exact Ex.nil
  refine Ex.cons (σ' := [.val (.fn fw), .val (.str x), .val (.int (findOf b3 wr x)), .unset, .unset]) (Ex.for (EvIter.str (Ev.name O 1 rfl rfl rfl rfl)) ?_) (Ex.stop (Ex.ret (Ev.name O 2 rfl rfl rfl rfl)) (fun _ e => by cases e))
  unfold findOf signs
  refine (?_ : ∀ (cs : List Nat) (f : Int), (∀ c ∈ cs, Builtin.Str.tooLong (Txt.lower (chS c)).length = false) → Loop 2 _ _ _ _ (cs.map fun c => .str ⟨#[c]⟩) [.val (.fn fw), .val (.str x), .val (.int f), .unset, .unset] (.next [.val (.fn fw), .val (.str x), .val (.int (cs.foldl (findStep b3) f)), .unset, .unset])) x.cps.toList _ hl
  intro cs
  induction cs with
  | nil => intro f _; exact Loop.done Ex.nil
  | cons c cs ih =>
    intro f hl
    rw [List.map_cons, List.foldl_cons]
    refine Loop.next (σ₂ := [.val (.fn fw), .val (.str x), .val (.int (findStep b3 f c)), .unset, .unset]) (Asg.name O 3 rfl) ?_ (ih _ fun d hd => hl d (List.mem_cons_of_mem _ hd))
    unfold findStep
    refine Ex.cons (σ' := [.val (.fn fw), .val (.str x), .val (.int (find1 b3 f c)), .val (.str (chS c)), .unset]) (Ex.ite (Et.cmp (Ev.callF T.F7 (Ev.glob O 5 rfl T.F7.name rfl) (Els.cons (Ev.name O 3 rfl rfl rfl rfl) Els.nil) ((b3_spec T.F7 T.b_ord T.m_b3 T.s_b3 c (hl c List.mem_cons_self)).le (by decide))) (Ev.name O 3 rfl rfl rfl rfl) Op2.ne_str) (fun h => ?_) (fun h => ?_)) ?_
    · rw [find1, h, if_pos rfl]; exact Ex.cons (Ex.aug O 2 rfl rfl Ev.int Op2.ior_int) Ex.nil
    · rw [find1, h, if_neg (by decide)]; exact Ex.nil
    generalize find1 b3 f c = f1
    refine Ex.cons (Ex.assign O 4 rfl (Ev.callF T.F30 (Ev.glob O 6 rfl T.F30.name rfl) (Els.cons (Ev.name O 3 rfl rfl rfl rfl) Els.nil) (asked_spec T c))) ?_
    refine Ex.cons (σ' := [.val (.fn fw), .val (.str x), .val (.int (find2 f1 c)), .val (.str (chS c)), .val (.lst ((askedL c).map .bool))]) (Ex.ite (b := inL setL_b1 c) (Et.plain (Ev.sub (Ev.name O 4 rfl rfl rfl rfl) Ev.int (Op2.item_lst (by decide) rfl (by decide))) Tr.bool) (fun h => ?_) (fun h => ?_)) ?_
    · rw [find2, h, if_pos rfl]; exact Ex.cons (Ex.aug O 2 rfl rfl Ev.int Op2.ior_int) Ex.nil
    · rw [find2, h, if_neg (by decide)]; exact Ex.nil
    generalize find2 f1 c = f2
    refine Ex.weak [3, 4] (σ' := [.val (.fn fw), .val (.str x), .val (.int (find3 f2 c)), .val (.str (chS c)), .val (.lst ((askedL c).map .bool))]) ?_
    have hasked := asked_pick c
    refine Ex.cons (Ex.ite (b := ((askedL c).drop 1).any (· == true)) (Et.cmp Ev.bool (Ev.of (q := .lst (((askedL c).drop 1).map .bool)) (Ev.slice (Ev.name O 4 rfl rfl rfl rfl) (EvPart.int Ev.int) EvPart.no (asked_len c)) (asked_pick c)) Op2.in_lst_bools) (fun h => ?_) (fun h => ?_)) Ex.nil
    · rw [find3, h, if_pos rfl]; exact Ex.cons (Ex.aug O 2 rfl rfl Ev.int Op2.ior_int) Ex.nil
    · rw [find3, h, if_neg (by decide)]; exact Ex.nil
end
end Mine
-- Dk
namespace Mine
open PySem PySem.Calls PyProof.Rows PySem.W
set_option maxRecDepth 100000
section
variable {prog : Program} {w : World} {mg mb : Str → Option Value} {hb : Heap} {flags b3 : Int → Option Str}
def wrL : List Str := ["&<>", "&<>\"\r\n\t", "&>\"", "&<>\r", "&<\"\r\n\t"]
def isIn (y x : Str) : Bool := !(Builtin.Str.occurrences x y 0 x.length 1).isEmpty
def letterOf (c : Nat) : Bool := (!decide ((chS c).cps.toList < ("A" : Str).cps.toList) && !decide (("Z" : Str).cps.toList < (chS c).cps.toList)) || (isIn (chS c) "ßﬃ𝐀" || false)
def rowStep (wri : Str) (r : Int) (c : Nat) : Int :=
  if isIn (chS c) wri then Builtin.bitOr r 1 else if tableOf c == 0 then Builtin.bitOr r 4 else if decide (tableOf c < 6) then Builtin.bitOr r 8 else if letterOf c then Builtin.bitOr r 2 else r
def rowOf (wri : Str) (x : Str) : Int := x.cps.toList.foldl (rowStep wri) 0
theorem row_spec (T : Top prog w mg mb hb flags b3) (way : Int) (wri : Str) (h0 : 0 ≤ way) (h1 : way < 5) (hw : wrL[way.toNat]? = some wri) (x : Str) : Fn 3 prog w mg mb hb T.f29 [.int way, .str x] (.int (rowOf wri x)) := by
  refine Fn.ofN T.F29 ["way", "text"] 4 nm29 [.val (.int way), .val (.str x), .unset, .unset, .unset, .unset] rfl rfl (by decide +kernel) rfl (fun vs pm c doc h => by obtain ⟨a, b, rfl⟩ := len2 h; kernel_rfl) fun L cd h₀ inh O => ?_
  conv in (fnBody _) => whnf
  refine Ex.cons (Ex.assign (p := .str wri) O 2 rfl (Ev.sub (p := .tup (wrL.map .str)) (Ev.tup ?_) (Ev.name O 0 rfl rfl rfl rfl) (Op2.item_tup h0 (by rw [List.getElem?_map, hw]; rfl) (by omega)))) ?_
  · exact Els.cons Ev.str (Els.cons Ev.str (Els.cons Ev.str (Els.cons Ev.str (Els.cons Ev.str Els.nil))))
  refine Ex.cons (Ex.assign O 3 rfl Ev.int) ?_
  refine Ex.cons (σ' := [.val (.int way), .val (.str x), .val (.str wri), .val (.int (rowOf wri x)), .unset, .unset]) (Ex.for (EvIter.str (Ev.name O 1 rfl rfl rfl rfl)) ?_) (Ex.stop (Ex.ret (Ev.name O 3 rfl rfl rfl rfl)) (fun _ e => by cases e))
  unfold rowOf signs
  refine (?_ : ∀ (cs : List Nat) (f : Int), Loop 2 _ _ _ _ (cs.map fun c => .str ⟨#[c]⟩) [.val (.int way), .val (.str x), .val (.str wri), .val (.int f), .unset, .unset] (.next [.val (.int way), .val (.str x), .val (.str wri), .val (.int (cs.foldl (rowStep wri) f)), .unset, .unset])) x.cps.toList 0
  intro cs
  induction cs with
  | nil => intro f; exact Loop.done Ex.nil
  | cons c cs ih =>
    intro f
    rw [List.map_cons, List.foldl_cons]
    refine Loop.next (σ₂ := [.val (.int way), .val (.str x), .val (.str wri), .val (.int (rowStep wri f c)), .unset, .unset]) (Asg.name O 4 rfl) ?_ (ih _)
    refine Ex.cons (Ex.assign O 5 rfl (Ev.callF T.F28 (Ev.glob O 6 rfl T.F28.name rfl) (Els.cons (Ev.callB O 7 rfl T.b_ord.1 T.b_ord.2  (Els.cons (Ev.name O 4 rfl rfl rfl rfl) Els.nil) Bf.ord rfl) Els.nil) (table_spec T.F28 T.F25 c))) ?_
    refine Ex.weak [4, 5] (σ' := [.val (.int way), .val (.str x), .val (.str wri), .val (.int (rowStep wri f c)), .val (.str (chS c)), .val (.int (tableOf c))]) ?_
    refine Ex.cons (Ex.ite (b := isIn (chS c) wri) (Et.cmp (Ev.name O 4 rfl rfl rfl rfl) (Ev.name O 2 rfl rfl rfl rfl) Op2.in_str) (fun h => ?_) (fun h => ?_)) Ex.nil
    · rw [rowStep, if_pos h]; exact Ex.cons (Ex.aug O 3 rfl rfl Ev.int Op2.ior_int) Ex.nil
    refine Ex.cons (Ex.ite (b := tableOf c == 0) (Et.cmp (Ev.name O 5 rfl rfl rfl rfl) Ev.int Op2.eq_int) (fun h2 => ?_) (fun h2 => ?_)) Ex.nil
    · rw [rowStep, if_neg (by rw [h]; decide), if_pos h2]; exact Ex.cons (Ex.aug O 3 rfl rfl Ev.int Op2.ior_int) Ex.nil
    refine Ex.cons (Ex.ite (b := decide (tableOf c < 6)) (Et.cmp (Ev.name O 5 rfl rfl rfl rfl) Ev.int Op2.lt_int) (fun h3 => ?_) (fun h3 => ?_)) Ex.nil
    · rw [rowStep, if_neg (by rw [h]; decide), if_neg (by rw [h2]; decide), if_pos h3]; exact Ex.cons (Ex.aug O 3 rfl rfl Ev.int Op2.ior_int) Ex.nil
    refine Ex.cons (Ex.ite (b := letterOf c) (Et.or (Et.chain2 Ev.str (Ev.name O 4 rfl rfl rfl rfl) Ev.str Op2.le_str Op2.le_str) (fun _ => Et.or (Et.cmp (Ev.name O 4 rfl rfl rfl rfl) Ev.str Op2.in_str) (fun _ => Et.or0))) (fun h4 => ?_) (fun h4 => ?_)) Ex.nil
    · rw [rowStep, if_neg (by rw [h]; decide), if_neg (by rw [h2]; decide), if_neg (by rw [h3]; decide), if_pos h4]; exact Ex.cons (Ex.aug O 3 rfl rfl Ev.int Op2.ior_int) Ex.nil
    · rw [rowStep, if_neg (by rw [h]; decide), if_neg (by rw [h2]; decide), if_neg (by rw [h3]; decide), if_neg (by rw [h4]; decide)]; exact Ex.nil
/-- the four cells -/
def cellStep (cs : List Int) (q : Int × Nat) : List Int := cs.set (q.2 % 4) ((cs.getD (q.2 % 4) 0) + q.1.fmod 1000000000)
def cellsOf (script : List Int) : List Int := ((script.take 20).zipIdx).foldl cellStep [649, 36301, 98701, 4129]
end
end Mine
-- Dl
namespace Mine
open PySem PySem.Calls PyProof.Rows PySem.W
set_option maxRecDepth 100000
theorem pick_to (ps : List PV) (m : Nat) : (sliceRange 0 (m : Int) 1).filterMap (ps[·]?) = ps.take m := by
  have h := sliceRange_one 0 m
  rw [show ((0 : Nat) : Int) = 0 from rfl] at h
  rw [h, Nat.sub_zero]
  have := pick_run ps.toArray 0 m
  simpa using this
theorem pvPick_take (ps : List PV) (k : Nat) : pvPick ps none (some (k : Int)) = ps.take k := by
  unfold pvPick
  have e : sliceBounds none (some (k : Int)) none ps.length = (0, ((min k ps.length : Nat) : Int), 1) := by
    simp only [sliceBounds, Option.getD_none]
    have h1 : ¬ ((k : Int) < 0) := by omega
    simp only [h1, if_false, show (1 : Int) > 0 by decide, if_true]
    congr 2
    omega
  rw [e, pick_to]
  by_cases h : k ≤ ps.length
  · rw [Nat.min_eq_left h]
  · rw [Nat.min_eq_right (by omega), List.take_length, List.take_of_length_le (by omega)]
theorem pvPick_all (ps : List PV) : pvPick ps none none = ps := by
  unfold pvPick
  have e : sliceBounds none none none ps.length = (0, (ps.length : Int), 1) := by
    simp only [sliceBounds, Option.getD_none, show (1 : Int) > 0 by decide, if_true]
  rw [e, pick_to, List.take_length]
section
variable {prog : Program} {w : World} {mg mb : Str → Option Value} {hb : Heap} {flags b3 : Int → Option Str}
theorem cells_spec (T : Top prog w mg mb hb flags b3) (script : List Int) (hs : script.length ≤ 100) : Fn 1 prog w mg mb hb T.f26 [.lst (script.map .int)] (.lst ((cellsOf script).map .int)) := by
  refine Fn.ofN T.F26 ["script"] 3 nm26 [.val (.lst (script.map .int)), .unset, .unset, .unset] rfl rfl (by decide +kernel) rfl (fun vs pm c doc h => by obtain ⟨a, rfl⟩ := len1 h; kernel_rfl) fun L cd h₀ inh O => ?_
  conv in (fnBody _) => whnf
  refine Ex.cons (Ex.own O 1 rfl (Els.cons Ev.int (Els.cons Ev.int (Els.cons Ev.int (Els.cons Ev.int Els.nil)))) (hi := (by show 1 < 4; decide))) ?_
  refine Ex.cons (σ' := [.val (.lst (script.map .int)), .own ((cellsOf script).map .int), .unset, .unset]) (Ex.for (ps := enumP ((script.take 20).map .int)) (EvIter.enum O 4 rfl T.b_enumerate.1 T.b_enumerate.2 (Ev.of (Ev.slice (Ev.name O 0 rfl rfl rfl rfl) EvPart.no (EvPart.int Ev.int) (by rw [List.length_map]; unfold sizeLine; omega)) ?_) rfl) ?_) (Ex.freeze O 1 rfl rfl (Ex.stop (Ex.ret (Ev.name O 1 rfl rfl rfl rfl)) (fun _ e => by cases e)))
  · rw [List.map_take]
    exact congrArg PV.lst (pvPick_take _ 20)
  rw [enumP_map]
  unfold cellsOf
  refine (?_ : ∀ (l : List (Int × Nat)) (cs : List Int), cs.length = 4 → Loop 0 _ _ _ _ (l.map fun q => .tup [.int (q.2 : Int), .int q.1]) [.val (.lst (script.map .int)), .own (cs.map .int), .unset, .unset] (.next [.val (.lst (script.map .int)), .own ((l.foldl cellStep cs).map .int), .unset, .unset])) (script.take 20).zipIdx [649, 36301, 98701, 4129] rfl
  intro l
  induction l with
  | nil => intro cs _; exact Loop.done Ex.nil
  | cons q l ih =>
    obtain ⟨x, i⟩ := q
    intro cs hcs
    have hi : ((i : Int)).fmod 4 = ((i % 4 : Nat) : Int) := by rw [Int.fmod_eq_emod_of_nonneg _ (by decide)]; omega
    refine Loop.next (σ₂ := [.val (.lst (script.map .int)), .own ((cellStep cs (x, i)).map .int), .unset, .unset]) (Asg.tup (AsgAll.cons (Asg.name O 2 rfl) (AsgAll.cons (Asg.name O 3 rfl) AsgAll.nil))) ?_ (ih _ (by unfold cellStep; rw [List.length_set]; exact hcs))
    refine Ex.weak [2, 3] (σ' := [.val (.lst (script.map .int)), .own ((cellStep cs (x, i)).map .int), .val (.int i), .val (.int x)]) ?_
    have hlt : i % 4 < cs.length := by omega
    refine Ex.cons (Ex.of (Ex.augSub (p := .int (cs.getD (i % 4) 0)) (j := ((i % 4 : Nat) : Int)) O 1 rfl rfl (Ev.of (Ev.bin (Ev.name O 2 rfl rfl rfl rfl) Ev.int (Op2.mod_int (by decide))) (by rw [hi])) (by omega) ?_ (by omega) (Ev.bin (Ev.name O 3 rfl rfl rfl rfl) (Ev.bin Ev.int Ev.int (Op2.pow_int (by decide) (by decide))) (Op2.mod_int (by decide))) Op2.iadd_int rfl rfl) ?_) Ex.nil
    · rw [Int.toNat_natCast, List.getElem?_map, List.getElem?_eq_getElem hlt, List.getD_eq_getElem?_getD, List.getElem?_eq_getElem hlt]; rfl
    · rw [Int.toNat_natCast]
      unfold cellStep
      rw [List.map_set]
      rfl
end
end Mine
-- Dm
namespace Mine
open PySem PySem.Calls PyProof.Rows PySem.W
set_option maxRecDepth 100000
section
variable {n : Nat} {C : Cx} {σ : List Slot} {p : PV}
theorem Ex.assignA {t e : Expr} {pos : Pos} {σ' : List Slot} (h1 : Ev n C σ (eval e C.env) p) (h2 : Asg n C σ t p σ') (ht : plainArg t = true := by rfl) (hs : swapsWithSole [t] e pos.line C.env = pure false := by rfl) (hw : swappedStores [t] e C.env = pure Option.none := by rfl) :
    Ex n C σ (exec (.Assign [t] e pos) C.env) (.next σ') := .mk <| fun A hid s Q E R S k => by
  refine wpAny_Assign_stores (h1.run A hid s _ E R S fun v h' tk k1 r1 => ?_) hs hw
  rw [assignEach_plain ht]
  show wpAny _ _ (PySem.assign t C.env v) _ _ _
  exact h2.run A hid _ _ E v R (S.keeps k1) r1 fun hid' h'' tk' g S' => k .next hid' h'' tk' ((Grow.keeps k1).trans g) ⟨rfl, S'⟩
end
section
variable {prog : Program} {w : World} {mg mb : Str → Option Value} {hb : Heap} {flags b3 : Int → Option Str}
def escL : List Nat := [38, 60, 62, 34, 13, 10, 9, 97]
def letL : List Int := [65, 90, 223, 64259, 119808, 97, 64, 91]
def endL (r : Int × Int × Int) : List Int := [r.1 - 1, r.1, r.2.1, r.2.1 + 1]
def placeOf (l : Int) : Int := (l.fmod 216).fdiv 3
def runAt (l : Int) : Int × Int × Int := runsL.getD ((placeOf l).fmod 18).toNat (0, 0, 0)
def signOf (l : Int) : Nat :=
  if l.fmod 3 == 0 then escL.getD ((placeOf l).fmod 8).toNat 0 else if l.fmod 3 == 1 then (letL.getD ((placeOf l).fmod 8).toNat 0).toNat else ((endL (runAt l)).getD ((placeOf l).fdiv 18).toNat 0).toNat
def textGo : Nat → Int → Str → Str
  | 0, _, t => t
  | k + 1, l, t => textGo k (l.fdiv 216) (t ++ chS (signOf l))
def textOf (cell : Int) : Str := textGo (1 + cell.fmod 3).toNat (cell.fdiv 3) ""
theorem fdiv_nn {a b : Int} (h : 0 ≤ a) (hb : 0 < b) : 0 ≤ a.fdiv b := Int.fdiv_nonneg h (by omega)
theorem place_range (l : Int) : 0 ≤ placeOf l ∧ placeOf l < 72 := by
  unfold placeOf
  have h1 : 0 ≤ l.fmod 216 := Int.fmod_nonneg_of_pos _ (by decide)
  have h2 : l.fmod 216 < 216 := Int.fmod_lt_of_pos _ (by decide)
  rw [Int.fdiv_eq_ediv_of_nonneg _ (by decide)]
  omega
theorem esc_at : ∀ k < 8, ("&<>\"\r\n\ta" : Str).cps[k]? = some (escL.getD k 0) := by decide +kernel
theorem let_ok : ∀ k < 8, 0 ≤ letL.getD k 0 ∧ letL.getD k 0 ≤ 1114111 := by decide +kernel
theorem end_ok : ∀ k < 18, ∀ j < 4, 0 ≤ (endL (runsL.getD k (0, 0, 0))).getD j 0 ∧ (endL (runsL.getD k (0, 0, 0))).getD j 0 ≤ 1114111 := by decide +kernel
theorem getD_at {α : Type} {l : List α} {k : Nat} {d : α} (h : k < l.length) : l[k]? = some (l.getD k d) := by
  rw [List.getD_eq_getElem?_getD, List.getElem?_eq_getElem h]; rfl
theorem text_spec (T : Top prog w mg mb hb flags b3) (cell : Int) (h0 : 0 ≤ cell) : Fn 2 prog w mg mb hb T.f27 [.int cell] (.str (textOf cell)) := by
  refine Fn.ofN T.F27 ["cell"] 8 nm27 [.val (.int cell), .unset, .unset, .unset, .unset, .unset, .unset, .unset, .unset] rfl rfl (by decide +kernel) rfl (fun vs pm c doc h => by obtain ⟨a, rfl⟩ := len1 h; kernel_rfl) fun L cd h₀ inh O => ?_
  conv in (fnBody _) => whnf
  have hk1 : 0 ≤ cell.fmod 3 := Int.fmod_nonneg_of_pos _ (by decide)
  have hk2 : cell.fmod 3 < 3 := Int.fmod_lt_of_pos _ (by decide)
  refine Ex.cons (Ex.assign O 1 rfl (Ev.callF0 T.F25 (Ev.glob O 9 rfl T.F25.name rfl) ((runs_spec T.F25).le (by decide)))) ?_
  refine Ex.cons (Ex.assign O 2 rfl Ev.str) ?_
  refine Ex.cons (Ex.assign O 3 rfl (Ev.bin (Ev.name O 0 rfl rfl rfl rfl) Ev.int (Op2.div_int (by decide) (PyProof.noPylong_of_log2 (by decide +kernel))))) ?_
  refine Ex.cons (σ' := [.val (.int cell), .val (.tup runsP), .val (.str (textOf cell)), .unset, .unset, .unset, .unset, .unset, .unset]) (Ex.for (ps := upto (1 + cell.fmod 3).toNat) (EvIter.range O (z := 1 + cell.fmod 3) 10 rfl T.b_range.1 T.b_range.2 (Ev.bin Ev.int (Ev.bin (Ev.name O 0 rfl rfl rfl rfl) Ev.int (Op2.mod_int (by decide))) Op2.add_int) (by omega) (by omega) rfl) ?_) (Ex.stop (Ex.ret (Ev.name O 2 rfl rfl rfl rfl)) (fun _ e => by cases e))
  have hlen : (upto (1 + cell.fmod 3).toNat).length = (1 + cell.fmod 3).toNat := by unfold upto; rw [List.length_map, List.length_range]
  have hto : textOf cell = textGo (upto (1 + cell.fmod 3).toNat).length (cell.fdiv 3) "" := by rw [hlen]; rfl
  rw [hto]
  refine (?_ : ∀ (ps : List PV) (l : Int) (t : Str), 0 ≤ l → t.length + ps.length ≤ 1000 → Loop 1 _ _ _ _ ps [.val (.int cell), .val (.tup runsP), .val (.str t), .val (.int l), .unset, .unset, .unset, .unset, .unset] (.next [.val (.int cell), .val (.tup runsP), .val (.str (textGo ps.length l t)), .unset, .unset, .unset, .unset, .unset, .unset])) (upto (1 + cell.fmod 3).toNat) (cell.fdiv 3) "" (fdiv_nn h0 (by decide)) (by rw [hlen]; show 0 + _ ≤ 1000; omega)
  intro ps
  induction ps with
  | nil => intro l t _ _; exact Loop.done (Ex.weak [3] Ex.nil)
  | cons p ps ih =>
    intro l t hl ht
    rw [List.length_cons] at ht ⊢
    have hp := place_range l
    have m8 : 0 ≤ (placeOf l).fmod 8 ∧ (placeOf l).fmod 8 < 8 := ⟨Int.fmod_nonneg_of_pos _ (by decide), Int.fmod_lt_of_pos _ (by decide)⟩
    have m18 : 0 ≤ (placeOf l).fmod 18 ∧ (placeOf l).fmod 18 < 18 := ⟨Int.fmod_nonneg_of_pos _ (by decide), Int.fmod_lt_of_pos _ (by decide)⟩
    have d18 : 0 ≤ (placeOf l).fdiv 18 ∧ (placeOf l).fdiv 18 < 4 := by rw [Int.fdiv_eq_ediv_of_nonneg _ (by decide)]; omega
    have hsz : ∀ c : Nat, t.length + (chS c).length ≤ sizeLine := fun c => by
      have : (chS c).length = 1 := rfl
      unfold sizeLine; omega
    refine Loop.next (σ₂ := [.val (.int cell), .val (.tup runsP), .val (.str (t ++ chS (signOf l))), .val (.int (l.fdiv 216)), .unset, .unset, .unset, .unset, .unset]) (Asg.name O 4 rfl) ?_ (ih _ _ (fdiv_nn hl (by decide)) (by
      have : (t ++ chS (signOf l)).length = t.length + 1 := by
        show (t.cps ++ #[_]).size = t.cps.size + 1
        rw [Array.size_append]; rfl
      omega))
    refine Ex.cons (σ' := [.val (.int cell), .val (.tup runsP), .val (.str t), .val (.int l), .val p, .val (.int (placeOf l)), .unset, .unset, .unset]) (Ex.assign O 5 rfl (Ev.bin (Ev.bin (Ev.name O 3 rfl rfl rfl rfl) Ev.int (Op2.mod_int (by decide))) Ev.int (Op2.div_int (by decide) (PyProof.noPylong_of_log2 (by decide +kernel))))) ?_
    refine Ex.cons (σ' := [.val (.int cell), .val (.tup runsP), .val (.str (t ++ chS (signOf l))), .val (.int l), .unset, .unset, .unset, .unset, .unset]) ?_ (Ex.cons (Ex.aug O 3 rfl rfl Ev.int (Op2.idiv_int (by decide) (PyProof.noPylong_of_log2 (by decide +kernel)))) Ex.nil)
    refine Ex.ite (b := l.fmod 3 == 0) (Et.cmp (Ev.bin (Ev.name O 3 rfl rfl rfl rfl) Ev.int (Op2.mod_int (by decide))) Ev.int Op2.eq_int) (fun h => ?_) (fun h => ?_)
    · refine Ex.weak [4, 5] (σ' := [.val (.int cell), .val (.tup runsP), .val (.str (t ++ chS (signOf l))), .val (.int l), .val p, .val (.int (placeOf l)), .unset, .unset, .unset]) ?_
      refine Ex.cons (Ex.aug O 2 rfl rfl (Ev.sub Ev.str (Ev.bin (Ev.name O 5 rfl rfl rfl rfl) Ev.int (Op2.mod_int (by decide))) (Op2.item_str (c := signOf l) m8.1 ?_ (by have := m8.2; omega))) (Op2.iadd_str (hsz _))) Ex.nil
      rw [signOf, if_pos h]
      exact esc_at _ (by have := m8.2; have := m8.1; omega)
    refine Ex.cons (Ex.ite (b := l.fmod 3 == 1) (Et.cmp (Ev.bin (Ev.name O 3 rfl rfl rfl rfl) Ev.int (Op2.mod_int (by decide))) Ev.int Op2.eq_int) (fun h1 => ?_) (fun h1 => ?_)) Ex.nil
    · refine Ex.weak [4, 5] (σ' := [.val (.int cell), .val (.tup runsP), .val (.str (t ++ chS (signOf l))), .val (.int l), .val p, .val (.int (placeOf l)), .unset, .unset, .unset]) ?_
      have hlt : ((placeOf l).fmod 8).toNat < 8 := by have := m8.2; have := m8.1; omega
      have hsign : signOf l = (letL.getD ((placeOf l).fmod 8).toNat 0).toNat := by rw [signOf, if_neg (by rw [h]; decide), if_pos h1]
      rw [hsign]
      obtain ⟨u1, u2⟩ := let_ok _ hlt
      refine Ex.cons (Ex.aug O 2 rfl rfl (Ev.callB O 11 rfl T.b_chr.1 T.b_chr.2  (Els.cons (Ev.sub (p := .tup (letL.map .int)) (Ev.tup ?_) (Ev.bin (Ev.name O 5 rfl rfl rfl rfl) Ev.int (Op2.mod_int (by decide))) (Op2.item_tup m8.1 ?_ (by have := m8.2; omega))) Els.nil) (Bf.chr u1 u2) rfl) (Op2.iadd_str (hsz _))) Ex.nil
      · exact Els.cons Ev.int (Els.cons Ev.int (Els.cons Ev.int (Els.cons Ev.int (Els.cons Ev.int (Els.cons Ev.int (Els.cons Ev.int (Els.cons Ev.int Els.nil)))))))
      · show (letL.map PV.int)[((placeOf l).fmod 8).toNat]? = _
        rw [List.getElem?_map, getD_at (d := 0) hlt]; rfl
    · refine Ex.weak [4, 5, 6, 7, 8] (σ' := [.val (.int cell), .val (.tup runsP), .val (.str (t ++ chS (signOf l))), .val (.int l), .val p, .val (.int (placeOf l)), .val (.int (runAt l).1), .val (.int (runAt l).2.1), .val (.int (runAt l).2.2)]) ?_
      have hlt : ((placeOf l).fmod 18).toNat < 18 := by have := m18.2; have := m18.1; omega
      have hlt4 : ((placeOf l).fdiv 18).toNat < 4 := by have := d18.2; have := d18.1; omega
      have hsign : signOf l = ((endL (runAt l)).getD ((placeOf l).fdiv 18).toNat 0).toNat := by rw [signOf, if_neg (by rw [h]; decide), if_neg (by rw [h1]; decide)]
      rw [hsign]
      obtain ⟨u1, u2⟩ := end_ok _ hlt _ hlt4
      refine Ex.cons (Ex.assignA (p := .tup [.int (runAt l).1, .int (runAt l).2.1, .int (runAt l).2.2]) (Ev.sub (Ev.name O 1 rfl rfl rfl rfl) (Ev.bin (Ev.name O 5 rfl rfl rfl rfl) Ev.int (Op2.mod_int (by decide))) (Op2.item_tup m18.1 ?_ (by have := m18.2; omega))) (Asg.tup (AsgAll.cons (Asg.name O 6 rfl) (AsgAll.cons (Asg.name O 7 rfl) (AsgAll.cons (Asg.name O 8 rfl) AsgAll.nil))))) ?_
      · show (runsL.map fun r => PV.tup [.int r.1, .int r.2.1, .int r.2.2])[((placeOf l).fmod 18).toNat]? = _
        rw [List.getElem?_map, getD_at (d := (0, 0, 0)) hlt]; rfl
      refine Ex.cons (Ex.aug O 2 rfl rfl (Ev.callB O 11 rfl T.b_chr.1 T.b_chr.2  (Els.cons (Ev.sub (p := .tup ((endL (runAt l)).map .int)) (Ev.tup ?_ (by show 4 ≤ sizeLine; decide)) (Ev.bin (Ev.name O 5 rfl rfl rfl rfl) Ev.int (Op2.div_int (by decide) (PyProof.noPylong_of_log2 (by decide +kernel)))) (Op2.item_tup d18.1 ?_ (by have := d18.2; omega))) Els.nil) (Bf.chr u1 u2) rfl) (Op2.iadd_str (hsz _))) Ex.nil
      · exact Els.cons (Ev.bin (Ev.name O 6 rfl rfl rfl rfl) Ev.int Op2.sub_int) (Els.cons (Ev.name O 6 rfl rfl rfl rfl) (Els.cons (Ev.name O 7 rfl rfl rfl rfl) (Els.cons (Ev.bin (Ev.name O 7 rfl rfl rfl rfl) Ev.int Op2.add_int) Els.nil)))
      · show ((endL (runAt l)).map PV.int)[((placeOf l).fdiv 18).toNat]? = _
        rw [List.getElem?_map, getD_at (d := 0) hlt4]; rfl
end
end Mine
-- Dn
namespace Mine
open PySem PySem.Calls PyProof.Rows PySem.W
set_option maxRecDepth 100000
/-- strs in their order -/
def leS (a b : Str) : Bool := !decide (b.cps.toList < a.cps.toList)
theorem leS_iff {a b : Str} : leS a b = true ↔ a.cps.toList ≤ b.cps.toList := by
  unfold leS
  rw [Bool.not_eq_true', decide_eq_false_iff_not]
  exact Iff.rfl
theorem leS_trans (a b c : Str) (h1 : leS a b = true) (h2 : leS b c = true) : leS a c = true := leS_iff.mpr (List.le_trans (leS_iff.mp h1) (leS_iff.mp h2))
theorem leS_total (a b : Str) : (leS a b || leS b a) = true := by
  rw [Bool.or_eq_true, leS_iff, leS_iff]
  exact List.le_total _ _
theorem leS_anti {a b : Str} (h1 : leS a b = true) (h2 : leS b a = true) : a = b := by
  have := List.le_antisymm (leS_iff.mp h1) (leS_iff.mp h2)
  cases a; cases b
  dsimp only at this
  rw [Str.mk.injEq]
  exact Array.toList_inj.mp this
def sortC (xs : List Str) : List Str := xs.mergeSort leS
theorem perm_sorted_eq : ∀ {xs ys : List Str}, xs.Perm ys → xs.Pairwise (fun a b => leS a b = true) → ys.Pairwise (fun a b => leS a b = true) → xs = ys
  | [], ys, h, _, _ => (List.Perm.nil_eq h)
  | x :: xs, [], h, _, _ => (List.Perm.eq_nil h)
  | x :: xs, y :: ys, h, p1, p2 => by
    rw [List.pairwise_cons] at p1 p2
    have hx : x = y := by
      rcases List.mem_cons.mp (h.subset List.mem_cons_self) with e | m
      · exact e
      rcases List.mem_cons.mp (h.symm.subset (List.mem_cons_self (a := y) (l := ys))) with e | m'
      · exact e.symm
      exact leS_anti (p1.1 y m') (p2.1 x m)
    subst hx
    rw [perm_sorted_eq (List.Perm.cons_inv h) p1.2 p2.2]
theorem sortC_perm {xs ys : List Str} (h : xs.Perm ys) : sortC xs = sortC ys :=
  perm_sorted_eq ((List.mergeSort_perm xs leS).trans (h.trans (List.mergeSort_perm ys leS).symm)) (List.pairwise_mergeSort leS_trans leS_total xs) (List.pairwise_mergeSort leS_trans leS_total ys)
theorem pairwise_of_rising : ∀ (p : Str) (l : List Str), risingS p l = true → (p :: l).Pairwise (fun a b => leS a b = true)
  | p, [], _ => List.pairwise_singleton _ _
  | p, x :: r, h => by
    have h' : (!PySem.Spec.ltCps x.cps.toList p.cps.toList && risingS x r) = true := h
    rw [Bool.and_eq_true] at h'
    have ih := pairwise_of_rising x r h'.2
    have hpx : leS p x = true := by unfold leS; rw [← ltCps_eq]; exact h'.1
    rw [List.pairwise_cons]
    refine ⟨fun y hy => ?_, ih⟩
    rcases List.mem_cons.mp hy with rfl | m
    · exact hpx
    · exact leS_trans _ _ _ hpx ((List.pairwise_cons.mp ih).1 y m)
theorem sortC_only {xs zs : List Str} (h : zs.Perm xs) (hs : sortedS zs = true) : zs = sortC xs := by
  have hp : zs.Pairwise (fun a b => leS a b = true) := by
    cases zs with
    | nil => exact List.Pairwise.nil
    | cons x r => exact pairwise_of_rising x r hs
  exact perm_sorted_eq (h.trans (List.mergeSort_perm xs leS).symm) hp (List.pairwise_mergeSort leS_trans leS_total xs)
section
variable {prog : Program} {w : World} {mg mb : Str → Option Value} {hb : Heap} {flags b3 : Int → Option Str}
def addU (num : Int) (acc : List Int) (o : Int) : List Int := if acc.any (· == Builtin.bitOr o num) then acc else acc ++ [Builtin.bitOr o num]
def uStep (us : List Int) (num : Int) : List Int := us.foldl (addU num) us
def unionsOf (nums : List Int) : List Int := nums.foldl uStep [0]
theorem addU_len (num : Int) (acc : List Int) (o : Int) : (addU num acc o).length ≤ acc.length + 1 := by
  unfold addU; split
  · omega
  · rw [List.length_append]; exact Nat.le_refl _
theorem unions_spec (T : Top prog w mg mb hb flags b3) (nums : List Int) (hn : nums.length ≤ 8) : Fn 1 prog w mg mb hb T.f34 [.lst (nums.map .int)] (.lst ((unionsOf nums).map .int)) := by
  refine Fn.ofN T.F34 ["numbers"] 3 nm34 [.val (.lst (nums.map .int)), .unset, .unset, .unset] rfl rfl (by decide +kernel) rfl (fun vs pm c doc h => by obtain ⟨a, rfl⟩ := len1 h; kernel_rfl) fun L cd h₀ inh O => ?_
  conv in (fnBody _) => whnf
  refine Ex.cons (Ex.own O 1 rfl (Els.cons Ev.int Els.nil) (hi := (by show 1 < 4; decide))) ?_
  refine Ex.cons (σ' := [.val (.lst (nums.map .int)), .own ((unionsOf nums).map .int), .unset, .unset]) (Ex.for (EvIter.lst (Ev.name O 0 rfl rfl rfl rfl)) ?_) (Ex.freeze O 1 rfl rfl (Ex.stop (Ex.ret (Ev.name O 1 rfl rfl rfl rfl)) (fun _ e => by cases e)))
  unfold unionsOf
  refine (?_ : ∀ (ns us : List Int), us.length * 2 ^ ns.length ≤ 256 → Loop 0 _ _ _ _ (ns.map .int) [.val (.lst (nums.map .int)), .own (us.map .int), .unset, .unset] (.next [.val (.lst (nums.map .int)), .own ((ns.foldl uStep us).map .int), .unset, .unset])) nums [0] (by
    show 1 * 2 ^ nums.length ≤ 256
    have := Nat.pow_le_pow_right (n := 2) (by decide) hn
    omega)
  intro ns
  induction ns with
  | nil => intro us _; exact Loop.done Ex.nil
  | cons num ns ih =>
    intro us hlen
    rw [List.length_cons, Nat.pow_succ] at hlen
    have h1 : 1 ≤ 2 ^ ns.length := Nat.one_le_two_pow
    have hus : us.length ≤ 256 := by
      have : us.length * 1 ≤ us.length * (2 ^ ns.length * 2) := Nat.mul_le_mul_left _ (by omega)
      omega
    have key : ∀ (os acc : List Int), (os.foldl (addU num) acc).length ≤ acc.length + os.length := by
      intro os
      induction os with
      | nil => intro acc; exact Nat.le_refl _
      | cons o os ih => intro acc; rw [List.foldl_cons, List.length_cons]; have := ih (addU num acc o); have := addU_len num acc o; omega
    refine Loop.next (σ₂ := [.val (.lst (nums.map .int)), .own ((uStep us num).map .int), .unset, .unset]) (Asg.name O 2 rfl) ?_ (ih (uStep us num) (by
      have := key us us
      have h2 : (uStep us num).length ≤ us.length * 2 := by unfold uStep; omega
      calc (uStep us num).length * 2 ^ ns.length ≤ us.length * 2 * 2 ^ ns.length := Nat.mul_le_mul_right _ h2
        _ = us.length * (2 ^ ns.length * 2) := by rw [Nat.mul_assoc, Nat.mul_comm 2]
        _ ≤ 256 := hlen))
    refine Ex.weak [2, 3] (σ' := [.val (.lst (nums.map .int)), .own ((uStep us num).map .int), .val (.int num), .unset]) ?_
    refine Ex.cons (Ex.for (ps := us.map .int) (EvIter.lst (Ev.of (Ev.sliceOwn O 1 rfl rfl EvPart.no EvPart.no (by rw [List.length_map]; unfold sizeLine; omega) rfl rfl) (congrArg PV.lst (pvPick_all _)))) ?_) Ex.nil
    unfold uStep
    refine (?_ : ∀ (os acc : List Int), acc.length + os.length ≤ 1000 → Loop 0 _ _ _ _ (os.map .int) [.val (.lst (nums.map .int)), .own (acc.map .int), .val (.int num), .unset] (.next [.val (.lst (nums.map .int)), .own ((os.foldl (addU num) acc).map .int), .val (.int num), .unset])) us us (by omega)
    intro os
    induction os with
    | nil => intro acc _; exact Loop.done Ex.nil
    | cons o os iho =>
      intro acc hacc
      rw [List.length_cons] at hacc
      refine Loop.next (σ₂ := [.val (.lst (nums.map .int)), .own ((addU num acc o).map .int), .val (.int num), .unset]) (Asg.name O 3 rfl) ?_ (iho (addU num acc o) (by have := addU_len num acc o; omega))
      refine Ex.weak [3] (σ' := [.val (.lst (nums.map .int)), .own ((addU num acc o).map .int), .val (.int num), .val (.int o)]) ?_
      refine Ex.cons (Ex.ite (Et.freeze O 1 rfl rfl (Et.cmp (Ev.bin (Ev.name O 3 rfl rfl rfl rfl) (Ev.name O 2 rfl rfl rfl rfl) Op2.or_int) (Ev.name O 1 rfl rfl rfl rfl) Op2.notIn_lst_ints)) (fun h => ?_) (fun h => ?_)) Ex.nil
      · rw [addU, if_neg (by rw [Bool.not_eq_true'] at h; rw [h]; decide)]
        refine Ex.cons (Ex.of (Ex.append O 1 rfl rfl (Ev.bin (Ev.name O 3 rfl rfl rfl rfl) (Ev.name O 2 rfl rfl rfl rfl) Op2.or_int) (by rw [List.length_map]; omega) (methAt rfl rfl rfl) rfl rfl) ?_) Ex.nil
        rw [List.map_append]; rfl
      · rw [addU, if_pos (by rw [Bool.not_eq_false'] at h; exact h)]
        exact Ex.nil
def addO (acc : List Str) (x : Str) : List Str := if acc.any (· == x) then acc else acc ++ [x]
def onceOf (ws : List Str) : List Str := ws.foldl addO []
theorem addO_len (acc : List Str) (o : Str) : (addO acc o).length ≤ acc.length + 1 := by
  unfold addO; split
  · omega
  · rw [List.length_append]; exact Nat.le_refl _
theorem once_spec (T : Top prog w mg mb hb flags b3) (ws : List Str) (hn : ws.length ≤ 60) : Fn 1 prog w mg mb hb T.f35 [.lst (ws.map .str)] (.lst ((sortC (onceOf ws)).map .str)) := by
  refine Fn.ofN T.F35 ["words"] 2 nm35 [.val (.lst (ws.map .str)), .unset, .unset] rfl rfl (by decide +kernel) rfl (fun vs pm c doc h => by obtain ⟨a, rfl⟩ := len1 h; kernel_rfl) fun L cd h₀ inh O => ?_
  conv in (fnBody _) => whnf
  refine Ex.cons (Ex.own O 1 rfl Els.nil (hi := (by show 1 < 3; decide))) ?_
  have hlen : (onceOf ws).length < 64 := by
    have key : ∀ (os acc : List Str), (os.foldl addO acc).length ≤ acc.length + os.length := by
      intro os
      induction os with
      | nil => intro acc; exact Nat.le_refl _
      | cons o os ih => intro acc; rw [List.foldl_cons, List.length_cons]; have := ih (addO acc o); have := addO_len acc o; omega
    have := key ws []
    unfold onceOf
    rw [List.length_nil] at this
    omega
  refine Ex.cons (σ' := [.val (.lst (ws.map .str)), .own ((onceOf ws).map .str), .unset]) (Ex.for (EvIter.lst (Ev.name O 0 rfl rfl rfl rfl)) ?_) (Ex.freeze O 1 rfl rfl (Ex.stop (Ex.ret (Ev.callB O 3 rfl T.b_sorted.1 T.b_sorted.2  (Els.cons (Ev.name O 1 rfl rfl rfl rfl) Els.nil) (Bf.sorted hlen fun zs => sortC_only) rfl)) (fun _ e => by cases e)))
  unfold onceOf
  refine (?_ : ∀ (os acc : List Str), acc.length + os.length ≤ 1000 → Loop 0 _ _ _ _ (os.map .str) [.val (.lst (ws.map .str)), .own (acc.map .str), .unset] (.next [.val (.lst (ws.map .str)), .own ((os.foldl addO acc).map .str), .unset])) ws [] (by rw [List.length_nil]; omega)
  intro os
  induction os with
  | nil => intro acc _; exact Loop.done Ex.nil
  | cons o os iho =>
    intro acc hacc
    rw [List.length_cons] at hacc
    refine Loop.next (σ₂ := [.val (.lst (ws.map .str)), .own ((addO acc o).map .str), .unset]) (Asg.name O 2 rfl) ?_ (iho (addO acc o) (by have := addO_len acc o; omega))
    refine Ex.weak [2] (σ' := [.val (.lst (ws.map .str)), .own ((addO acc o).map .str), .val (.str o)]) ?_
    refine Ex.cons (Ex.ite (Et.freeze O 1 rfl rfl (Et.cmp (Ev.name O 2 rfl rfl rfl rfl) (Ev.name O 1 rfl rfl rfl rfl) Op2.notIn_lst_strs)) (fun h => ?_) (fun h => ?_)) Ex.nil
    · rw [addO, if_neg (by rw [Bool.not_eq_true'] at h; rw [h]; decide)]
      refine Ex.cons (Ex.of (Ex.append O 1 rfl rfl (Ev.name O 2 rfl rfl rfl rfl) (by rw [List.length_map]; omega) (methAt rfl rfl rfl) rfl rfl) ?_) Ex.nil
      rw [List.map_append]; rfl
    · rw [addO, if_pos (by rw [Bool.not_eq_false'] at h; exact h)]
      exact Ex.nil
end
end Mine
-- Dp
namespace Mine
open PySem PySem.Calls PyProof.Rows PySem.W
set_option maxRecDepth 100000
section
variable {prog : Program} {w : World} {mg mb : Str → Option Value} {hb : Heap} {flags b3 : Int → Option Str}
def hexS (f : Int) : Str := PySem.baseText "0x" 16 f
def bitOf (i : Nat) : Int := 1 * 2 ^ i
def flagsGo (flags : Int → Option Str) : List Nat → Int → List Str → List Str
  | [], f, acc => acc ++ [hexS f]
  | i :: r, f, acc => if Builtin.bitAnd f (bitOf i) != 0 then
      (if Builtin.bitXor f (bitOf i) != 0 then flagsGo flags r (Builtin.bitXor f (bitOf i)) (acc ++ [(flags (bitOf i)).getD (hexS (bitOf i))]) else acc ++ [(flags (bitOf i)).getD (hexS (bitOf i))])
    else flagsGo flags r f acc
def flagsOk : List Nat → Int → Bool
  | [], f => decide ((hexS f).length ≤ 1000)
  | i :: r, f => if Builtin.bitAnd f (bitOf i) != 0 then (if Builtin.bitXor f (bitOf i) != 0 then flagsOk r (Builtin.bitXor f (bitOf i)) else true) else flagsOk r f
def prettyOf (flags : Int → Option Str) (f : Int) : Str := Txt.join ", " (flagsGo flags (List.range 32) f [])
theorem hex_bits : ∀ i < 32, (hexS (bitOf i)).length ≤ 1000 := by decide +kernel
theorem upto_eq (k : Nat) : upto k = (List.range k).map fun (i : Nat) => PV.int (i : Int) := rfl
theorem pretty_spec (T : Top prog w mg mb hb flags b3) (f : Int) (ok : flagsOk (List.range 32) f = true) (hj : JoinOk ", " (flagsGo flags (List.range 32) f []) = true) : Fn 1 prog w mg mb hb T.f2 [.int f] (.str (prettyOf flags f)) := by
  refine Fn.ofN T.F2 ["flags"] 3 nm2 [.val (.int f), .unset, .unset, .unset] rfl rfl (by decide +kernel) rfl (fun vs pm c doc h => by obtain ⟨a, rfl⟩ := len1 h; kernel_rfl) fun L cd h₀ inh O => ?_
  conv in (fnBody _) => whnf
  refine Ex.cons (Ex.own O 1 rfl Els.nil (hi := (by show 1 < 4; decide))) ?_
  refine Ex.cons (σ' := [.unset, .own ((flagsGo flags (List.range 32) f []).map .str), .unset, .unset]) (Ex.for (EvIter.range O (k := 32) 4 rfl T.b_range.1 T.b_range.2 Ev.int rfl (by decide) rfl) ?_) (Ex.freeze O 1 rfl rfl (Ex.stop (Ex.ret (Ev.join Ev.str (Ev.name O 1 rfl rfl rfl rfl) hj (methAt rfl rfl rfl))) (fun _ e => by cases e)))
  rw [upto_eq]
  refine (?_ : ∀ (is : List Nat) (f : Int) (acc : List Str), flagsOk is f = true → (∀ i ∈ is, i < 32) → acc.length + is.length ≤ 1000 → Loop 0 _ _ _ _ (is.map fun (i : Nat) => .int (i : Int)) [.val (.int f), .own (acc.map .str), .unset, .unset] (.next [.unset, .own ((flagsGo flags is f acc).map .str), .unset, .unset])) (List.range 32) f [] ok (fun i hi => List.mem_range.mp hi) (by decide)
  intro is
  induction is with
  | nil =>
    intro f acc hok _ hacc
    unfold flagsGo
    rw [List.length_nil] at hacc
    have hx : (hexS f).length ≤ 1000 := by simpa [flagsOk] using hok
    refine Loop.done (Ex.weak [0] (σ' := [.val (.int f), .own ((acc ++ [hexS f]).map .str), .unset, .unset]) ?_)
    refine Ex.cons (Ex.of (Ex.append (p := .str (hexS f)) O 1 rfl rfl (Ev.callB O 6 rfl T.b_hex.1 T.b_hex.2  (Els.cons (Ev.name O 0 rfl rfl rfl rfl) Els.nil) (Bf.hex (Nat.le_trans hx (by decide))) rfl) (by rw [List.length_map]; omega) (methAt rfl rfl rfl) rfl rfl) ?_) Ex.nil
    rw [List.map_append]; rfl
  | cons i is ih =>
    intro f acc hok his hacc
    have hi := his i List.mem_cons_self
    rw [List.length_cons] at hacc
    have hx := hex_bits i hi
    unfold flagsGo
    unfold flagsOk at hok
    by_cases hb : (Builtin.bitAnd f (bitOf i) != 0) = true
    · rw [if_pos hb] at hok ⊢
      by_cases hz : (Builtin.bitXor f (bitOf i) != 0) = true
      · rw [if_pos hz] at hok ⊢
        refine Loop.next (σ₂ := [.val (.int (Builtin.bitXor f (bitOf i))), .own ((acc ++ [(flags (bitOf i)).getD (hexS (bitOf i))]).map .str), .unset, .unset]) (Asg.name O 2 rfl) ?_ (ih _ _ hok (fun j hj => his j (List.mem_cons_of_mem _ hj)) (by rw [List.length_append]; show acc.length + 1 + is.length ≤ 1000; omega))
        refine Ex.weak [2, 3] (σ' := [.val (.int (Builtin.bitXor f (bitOf i))), .own ((acc ++ [(flags (bitOf i)).getD (hexS (bitOf i))]).map .str), .val (.int (i : Int)), .val (.int (bitOf i))]) ?_
        refine Ex.cons (σ' := [.val (.int f), .own (acc.map .str), .val (.int (i : Int)), .val (.int (bitOf i))]) (Ex.assign O 3 rfl (Ev.of (Ev.bin Ev.int (Ev.name O 2 rfl rfl rfl rfl) (Op2.shl_int (by omega) (by omega) (by decide))) (by rw [Int.toNat_natCast]; rfl))) ?_
        refine Ex.cons (Ex.ite (b := true) (Et.of (Et.plain (Ev.bin (Ev.name O 0 rfl rfl rfl rfl) (Ev.name O 3 rfl rfl rfl rfl) Op2.and_int) Tr.int) hb) (fun _ => ?_) (fun e => absurd e (by decide))) Ex.nil
        refine Ex.cons (Ex.of (Ex.append (p := .str ((flags (bitOf i)).getD (hexS (bitOf i)))) O 1 rfl rfl (Ev.get2 O 5 rfl T.m_flags T.s_flags (Ev.name O 3 rfl rfl rfl rfl) (Ev.callB O 6 rfl T.b_hex.1 T.b_hex.2  (Els.cons (Ev.name O 3 rfl rfl rfl rfl) Els.nil) (Bf.hex (Nat.le_trans hx (by decide))) rfl) (methAt rfl rfl rfl)) (by rw [List.length_map]; omega) (methAt rfl rfl rfl) rfl rfl) (o' := .next [.val (.int f), .own ((acc ++ [(flags (bitOf i)).getD (hexS (bitOf i))]).map .str), .val (.int (i : Int)), .val (.int (bitOf i))]) (by rw [List.map_append]; rfl)) ?_
        refine Ex.cons (Ex.aug O 0 rfl rfl (Ev.name O 3 rfl rfl rfl rfl) Op2.ixor_int) ?_
        exact Ex.cons (Ex.ite (b := false) (Et.of (Et.not (Et.plain (Ev.name O 0 rfl rfl rfl rfl) Tr.int)) (by rw [hz]; rfl)) (fun e => absurd e (by decide)) (fun _ => Ex.nil)) Ex.nil
      · rw [if_neg hz] at hok ⊢
        refine Loop.brk (σ₂ := [.unset, .own ((acc ++ [(flags (bitOf i)).getD (hexS (bitOf i))]).map .str), .unset, .unset]) (Asg.name O 2 rfl) ?_
        refine Ex.weakB [0, 2, 3] (σ' := [.val (.int (Builtin.bitXor f (bitOf i))), .own ((acc ++ [(flags (bitOf i)).getD (hexS (bitOf i))]).map .str), .val (.int (i : Int)), .val (.int (bitOf i))]) ?_
        refine Ex.cons (σ' := [.val (.int f), .own (acc.map .str), .val (.int (i : Int)), .val (.int (bitOf i))]) (Ex.assign O 3 rfl (Ev.of (Ev.bin Ev.int (Ev.name O 2 rfl rfl rfl rfl) (Op2.shl_int (by omega) (by omega) (by decide))) (by rw [Int.toNat_natCast]; rfl))) ?_
        refine Ex.stop (Ex.ite (b := true) (Et.of (Et.plain (Ev.bin (Ev.name O 0 rfl rfl rfl rfl) (Ev.name O 3 rfl rfl rfl rfl) Op2.and_int) Tr.int) hb) (fun _ => ?_) (fun e => absurd e (by decide))) (fun _ e => by cases e)
        refine Ex.cons (Ex.of (Ex.append (p := .str ((flags (bitOf i)).getD (hexS (bitOf i)))) O 1 rfl rfl (Ev.get2 O 5 rfl T.m_flags T.s_flags (Ev.name O 3 rfl rfl rfl rfl) (Ev.callB O 6 rfl T.b_hex.1 T.b_hex.2  (Els.cons (Ev.name O 3 rfl rfl rfl rfl) Els.nil) (Bf.hex (Nat.le_trans hx (by decide))) rfl) (methAt rfl rfl rfl)) (by rw [List.length_map]; omega) (methAt rfl rfl rfl) rfl rfl) (o' := .next [.val (.int f), .own ((acc ++ [(flags (bitOf i)).getD (hexS (bitOf i))]).map .str), .val (.int (i : Int)), .val (.int (bitOf i))]) (by rw [List.map_append]; rfl)) ?_
        refine Ex.cons (Ex.aug O 0 rfl rfl (Ev.name O 3 rfl rfl rfl rfl) Op2.ixor_int) ?_
        exact Ex.stop (Ex.ite (b := true) (Et.of (Et.not (Et.plain (Ev.name O 0 rfl rfl rfl rfl) Tr.int)) (by simpa using hz)) (fun _ => Ex.stop Ex.brk (fun _ e => by cases e)) (fun e => absurd e (by decide))) (fun _ e => by cases e)
    · rw [if_neg hb] at hok ⊢
      refine Loop.next (σ₂ := [.val (.int f), .own (acc.map .str), .unset, .unset]) (Asg.name O 2 rfl) ?_ (ih _ _ hok (fun j hj => his j (List.mem_cons_of_mem _ hj)) (by omega))
      refine Ex.weak [2, 3] (σ' := [.val (.int f), .own (acc.map .str), .val (.int (i : Int)), .val (.int (bitOf i))]) ?_
      refine Ex.cons (σ' := [.val (.int f), .own (acc.map .str), .val (.int (i : Int)), .val (.int (bitOf i))]) (Ex.assign O 3 rfl (Ev.of (Ev.bin Ev.int (Ev.name O 2 rfl rfl rfl rfl) (Op2.shl_int (by omega) (by omega) (by decide))) (by rw [Int.toNat_natCast]; rfl))) ?_
      exact Ex.cons (Ex.ite (b := false) (Et.of (Et.plain (Ev.bin (Ev.name O 0 rfl rfl rfl rfl) (Ev.name O 3 rfl rfl rfl rfl) Op2.and_int) Tr.int) (by simpa using hb)) (fun e => absurd e (by decide)) (fun _ => Ex.nil)) Ex.nil
end
end Mine
-- Dq
namespace Mine
open PySem PySem.Calls PyProof.Rows PySem.W
set_option maxRecDepth 100000
abbrev cxC (prog : Program) (w : World) (mg mb : Str → Option Value) (hb : Heap) (x : Str) (scope : Scope) (nm : List (Str × NameKind)) (L f : Addr) (cd : Value) (h₀ : Heap) (inh : List Addr) : Cx :=
  { prog, w, mg, mb, hb, env := envOfC x scope L f cd, nm, h₀, inh }
/-- the looks at a def of one parameter whose frame has cells -/
def defOkC (st : Stmt) (x : Str) (k : NameKind) : Bool := match st with
  | .FunctionDef _ ⟨[], _, none, [], [], none, []⟩ _ _ _ _ sc _ _ _ =>
    (match sc.kind with | .function => true | _ => false) && !sc.isCoroutine && !sc.isGenerator && decide (sc.names.map (·.1)).Nodup && decide (sc.names.take 1 = [(x, k)])
  | _ => false
theorem defOkC_parts {st : Stmt} {x : Str} {k : NameKind} (ok : defOkC st x k = true) : (fnScope st).kind = .function ∧ (fnScope st).isCoroutine = false ∧ (fnScope st).isGenerator = false ∧ ((fnScope st).names.map (·.1)).Nodup ∧ (fnScope st).names[0]? = some (x, k) := by
  unfold defOkC at ok
  split at ok
  · rename_i sc _ _ _
    simp only [Bool.and_eq_true, decide_eq_true_eq, Bool.not_eq_true'] at ok
    obtain ⟨⟨⟨⟨k1, k2⟩, k3⟩, k4⟩, k5⟩ := ok
    show sc.kind = .function ∧ sc.isCoroutine = false ∧ sc.isGenerator = false ∧ (sc.names.map (·.1)).Nodup ∧ sc.names[0]? = some (x, k)
    refine ⟨by (split at k1 <;> first | assumption | cases k1), k2, k3, k4, ?_⟩
    have : (sc.names.take 1)[0]? = some (x, k) := by rw [k5]; rfl
    rwa [List.getElem?_take_of_lt (by decide)] at this
  · cases ok
section
variable {prog : Program} {w : World} {mg mb : Str → Option Value} {hb : Heap}
theorem Fn.ofC {i : Nat} {x xp : Str} {kp : NameKind} {f : Addr} {n : Nat} {p q : PV} (F : DefAt mg hb x f i) (hkp : kp = .local ∨ kp = .cell) (rest : Nat) (nm : List (Str × NameKind)) (σ : List Slot) (hnm : (fnScope (stmt i)).names = nm) (hσ : .val p :: List.replicate rest .unset = σ) (ok : defOkC (stmt i) xp kp = true)
    (hbind : ∀ v pm c doc, bindArgs (docDef x (fnParams (stmt i)) (fnBody (stmt i)) (fnScope (stmt i)) pm c doc) ⟨[v], []⟩ = pure [(xp, v)])
    (hbody : ∀ L cd h₀ inh, (cxC prog w mg mb hb x (fnScope (stmt i)) nm L f cd h₀ inh).Ok → (cxC prog w mg mb hb x (fnScope (stmt i)) nm L f cd h₀ inh).Cells → Ex n (cxC prog w mg mb hb x (fnScope (stmt i)) nm L f cd h₀ inh) σ (execs (fnBody (stmt i)) (cxC prog w mg mb hb x (fnScope (stmt i)) nm L f cd h₀ inh).env) (.ret q)) :
    Fn (n + 1) prog w mg mb hb f [p] q := .mk <| fun A hid s Q E vs R G I V k => by
  subst hnm hσ
  obtain ⟨hk, hco, hgen, hnd, h0⟩ := defOkC_parts ok
  obtain ⟨o, pm, c, doc, ho, hd, hc⟩ := F.obj
  obtain ⟨v, r, rfl, rv, rfl⟩ := V
  have hl := lookup_at hnd h0
  have hcx : ∀ y, (y, NameKind.cell) ∈ (fnScope (stmt i)).names → ∃ cc, (cellsFrom (s.heap.objs.size + 1) (fnScope (stmt i)).names []).lookup y = some cc := fun y hy => by
    obtain ⟨cc, a, _⟩ := cellsFrom_own (fnScope (stmt i)).names (s.heap.push { cls := .type "frame", data := .dict #[] }) [] y hnd hy
    rw [Heap.size_push] at a
    exact ⟨cc, a⟩
  have hkind : (envOfC x (fnScope (stmt i)) s.heap.objs.size f c).kindOf xp = some kp := hl
  refine wpAny_call (call_cells R.depth (G.top _ _ ho) hd (G.nolimit.keeps G.top) (hc.keeps G.top) (hbind v pm c doc) (fun y hy => ?_) (fun h₁ tk F₁ X₁ => ?_) hco hgen hk)
  · rw [List.mem_singleton.mp hy]
    rcases hkp with rfl | rfl
    · exact .inl hl
    · obtain ⟨cc, hcc⟩ := hcx xp (List.mem_of_getElem? h0)
      exact .inr ⟨hl, by show ((cellsFrom _ _ _).lookup xp).isSome = true; rw [hcc]; rfl⟩
  · have k1 : Keeps s.heap h₁ := F₁.keep
    have O : (cxC prog w mg mb hb x (fnScope (stmt i)) (fnScope (stmt i)).names s.heap.objs.size f c s.heap hid).Ok := ⟨hk, rfl, rfl, rfl, hnd, fun a ha => let ⟨vs, n, e⟩ := I a ha; ⟨_, e⟩⟩
    have K : (cxC prog w mg mb hb x (fnScope (stmt i)) (fnScope (stmt i)).names s.heap.objs.size f c s.heap hid).Cells :=
      ⟨fun j y cc _ e => Nat.le_of_lt (X₁.above y cc (mem_of_lookup e)), fun y z cc e1 e2 => name_of_addr X₁.apart (mem_of_lookup e2) (mem_of_lookup e1)⟩
    have Hp : Has (envOfC x (fnScope (stmt i)) s.heap.objs.size f c) h₁ xp kp v := by
      rcases hkp with rfl | rfl
      · refine ⟨_, F₁.ns, ?_⟩
        unfold bindL
        rw [if_pos hkind]
        unfold bindL
        simp
      · obtain ⟨cc, hcc⟩ := hcx xp (List.mem_of_getElem? h0)
        refine ⟨cc, hcc, ?_⟩
        have := X₁.cell xp cc hcc
        unfold bindC at this
        rw [if_neg (by rw [hkind]; decide)] at this
        unfold bindC at this
        simpa using this
    have S : St (cxC prog w mg mb hb x (fnScope (stmt i)) (fnScope (stmt i)).names s.heap.objs.size f c s.heap hid) hid (.val p :: List.replicate rest .unset) h₁ := by
      have at_ : ∀ (j : Nat) q, (Slot.val p :: List.replicate rest Slot.unset)[j]? = some q → (j = 0 ∧ q = .val p) ∨ q = .unset := fun j q e => by
        cases j with
        | zero => cases e; exact .inl ⟨rfl, rfl⟩
        | succ j => exact .inr (List.eq_of_mem_replicate (List.mem_of_getElem? (show (List.replicate rest Slot.unset)[j]? = _ from e)))
      refine { gl := G, keep := k1, sub := fun _ h => h, isl := fun a ha => let ⟨vs, n, e⟩ := I a ha; ⟨vs, n, k1 _ _ e⟩, loc := ⟨_, F₁.ns⟩, up := Nat.le_refl _, vals := ?_, owns := ?_, apart := ?_, cells := ?_ }
      · intro j y kd q e1 e2
        rcases at_ j _ e2 with ⟨rfl, eq⟩ | eq
        · cases eq
          have e1' : (fnScope (stmt i)).names[0]? = some (y, kd) := e1
          rw [h0] at e1'; cases e1'
          exact ⟨v, Hp, rv.keeps k1⟩
        · cases eq
      · intro j y kd q e1 e2
        rcases at_ j _ e2 with ⟨_, eq⟩ | eq <;> cases eq
      · intro j j' y kd y' kd' q q' l e1 e1' e2
        rcases at_ j _ e2 with ⟨_, eq⟩ | eq <;> cases eq
      · intro j y e1
        obtain ⟨cc, hcc⟩ := hcx y (List.mem_of_getElem? e1)
        exact ⟨cc, _, hcc, X₁.cell y cc hcc⟩
    refine (hbody _ c s.heap hid O K).run _ hid _ _ _ R.deeper S fun fl hid' h' tk g oi => ?_
    obtain ⟨u, rfl, k2, r2⟩ := oi
    exact k u h' tk k2 r2
end
section
variable {prog : Program} {w : World} {mg mb : Str → Option Value} {hb : Heap} {flags b3 : Int → Option Str}
def wordL : List Str := ["OPTIMIZED", "NEWLOCALS", "VARARGS", "VARKEYWORDS", "NESTED", "GENERATOR", "NOFREE", "COROUTINE", "ITERABLE_COROUTINE", "ASYNC_GENERATOR", "0x400", "0x800"]
def bitAt (f : Int) (i : Nat) : Bool := Builtin.bitAnd (f.fdiv (2 ^ i)) 1 != 0
def namesOf (f : Int) : List Str := ((List.range 12).filter (bitAt f)).map fun i => wordL.getD i ""
def wordsOf (f : Int) : Str := if f == 0 then "0x0" else Txt.join ", " (namesOf f)
theorem CompOut.upto {n : Nat} {C : Cx} {σ' : List Slot} {ifs : List Expr} {elt : Expr} {is : List Nat} {b : Nat → Bool} {g : Nat → PV} (h : ∀ i ∈ is, CStep n C (σ'.set 1 (.val (.int (i : Int)))) ifs elt (if b i then some (g i) else none)) :
    CompOut n C σ' ifs elt (is.map fun (i : Nat) => .int (i : Int)) ((is.filter b).map g) := by
  induction is with
  | nil => exact .nil
  | cons i is ih =>
    have h1 := h i List.mem_cons_self
    have h2 := ih fun j hj => h j (List.mem_cons_of_mem _ hj)
    rw [List.map_cons, List.filter_cons]
    cases hb : b i with
    | true =>
      rw [hb, if_pos rfl] at h1
      exact CompOut.cons h1 h2
    | false =>
      rw [hb, if_neg (by decide)] at h1
      exact CompOut.cons h1 h2
theorem words_spec (T : Top prog w mg mb hb flags b3) (f : Int) (hj : JoinOk ", " (namesOf f) = true) : Fn 1 prog w mg mb hb T.f33 [.int f] (.str (wordsOf f)) := by
  refine Fn.ofC (xp := "number") T.F33 (.inr rfl) 1 nm33 [.val (.int f), .unset] rfl rfl (by decide +kernel) (fun v pm c doc => by kernel_rfl) fun L cd h₀ inh O K => ?_
  conv in (fnBody _) => whnf
  refine Ex.cons (Ex.assignC (p := .tup (wordL.map .str)) O K 1 rfl (Ev.tup ?_) rfl) ?_
  · repeat' (first | exact Els.nil | refine Els.cons Ev.str ?_)
  unfold wordsOf
  by_cases h0 : (f == 0) = true
  · rw [if_pos h0]
    exact Ex.stop (Ex.ite (b := true) (Et.of (Et.cmp (Ev.name O 0 rfl rfl rfl rfl) Ev.int Op2.eq_int) h0) (fun _ => Ex.stop (Ex.ret Ev.str) (fun _ e => by cases e)) (fun e => absurd e (by decide))) (fun _ e => by cases e)
  rw [if_neg h0]
  refine Ex.cons (Ex.ite (b := false) (Et.of (Et.cmp (Ev.name O 0 rfl rfl rfl rfl) Ev.int Op2.eq_int) (by simpa using h0)) (fun e => absurd e (by decide)) (fun _ => Ex.nil)) ?_
  refine Ex.stop (Ex.ret (Ev.join (xs := namesOf f) Ev.str (Ev.comp (ps := upto 12) (nm' := nm33c0) (σ' := [.unset, .unset, .val (.tup (wordL.map .str)), .val (.int f)]) O ?_ (EvItC.range O 2 rfl T.b_range.1 T.b_range.2 Ev.int rfl (by decide) rfl) (fun cl L' O' => ?_)) hj (methAt rfl rfl rfl))) (fun _ e => by cases e)
  · refine { free := ?_, once := by decide +kernel, kind := rfl, nm := by kernel_rfl, target := ⟨.local, rfl, .inl rfl⟩, pulls := ⟨⟨rfl, 1, rfl, rfl⟩, ⟨rfl, 0, rfl, rfl⟩, trivial⟩, len := by show 1 < 4; decide, solo := ?_ }
    · intro y hy
      rcases List.mem_cons.mp hy with e | hy
      · cases e
      rcases List.mem_cons.mp hy with e | hy
      · cases e
      rcases List.mem_cons.mp hy with e | hy
      · cases e; exact ⟨1, rfl⟩
      rcases List.mem_cons.mp hy with e | hy
      · cases e; exact ⟨0, rfl⟩
      · cases hy
    · intro y hy
      simp at hy
  · rw [upto_eq]
    unfold namesOf
    rw [List.map_map]
    refine CompOut.upto fun i hi => ?_
    have hi := List.mem_range.mp hi
    refine ⟨bitAt f i, Et.plain (Ev.bin (Ev.bin (Ev.name O' 3 rfl rfl rfl rfl) (Ev.name O' 1 rfl rfl rfl rfl) (Op2.shr_int (by omega))) Ev.int Op2.and_int) ?_, fun hb => ⟨_, by rw [if_pos hb], rfl, ?_⟩, fun hb => by rw [if_neg (by rw [hb]; decide)]⟩
    · rw [Int.toNat_natCast]
      exact Tr.int
    · refine Ev.sub (Ev.name O' 2 rfl rfl rfl rfl) (Ev.name O' 1 rfl rfl rfl rfl) (Op2.item_tup (by omega) ?_ (by omega))
      have hw : wordL[i]? = some (wordL.getD i "") := getD_at (show i < wordL.length from hi)
      rw [Int.toNat_natCast, List.getElem?_map, hw]; rfl
end
end Mine
-- Dr
namespace Mine
open PySem PySem.Calls PyProof.Rows PySem.W
set_option maxRecDepth 100000
theorem strsAre_at : ∀ {vs : List Value} {xs : List Str}, StrsAre vs xs → ∀ (j : Nat) (h : j < vs.length), ∃ t, vs[j] = .str (xs.getD j "") t
  | _, _, .nil, j, h => absurd h (Nat.not_lt_zero _)
  | _, _, .cons y t r, 0, h => ⟨t, rfl⟩
  | _, _, .cons y t r, j + 1, h => strsAre_at r j (Nat.lt_of_succ_lt_succ h)
theorem strsAre_len {vs : List Value} {xs : List Str} (h : StrsAre vs xs) : vs.length = xs.length := by
  induction h with
  | nil => rfl
  | cons y t r ih => rw [List.length_cons, List.length_cons, ih]
theorem all_eq {xs ys : List Str} (h : xs.length = ys.length) : (List.range xs.length).all (fun j => xs.getD j "" == ys.getD j "") = (xs == ys) := by
  rw [Bool.eq_iff_iff, List.all_eq_true, beq_iff_eq]
  constructor
  · intro H
    refine List.ext_getElem h fun j h1 h2 => ?_
    have := H j (List.mem_range.mpr h1)
    rw [beq_iff_eq, List.getD_eq_getElem?_getD, List.getD_eq_getElem?_getD, List.getElem?_eq_getElem h1, List.getElem?_eq_getElem h2] at this
    exact this
  · rintro rfl j _; simp
section
variable {n : Nat} {prog : Program} {w : World}
theorem Op2.eq_lst_strs {xs ys : List Str} : Op2 n prog w (compareOp .Eq) (.lst (xs.map .str)) (.lst (ys.map .str)) (.bool (xs == ys)) := .mk <| fun A hid s Q E u v R _ h1 h2 k => by
  obtain ⟨l, us, m, rfl, nl, hl, hv⟩ := h1
  obtain ⟨l2, us2, m2, rfl, nl2, hl2, hv2⟩ := h2
  have s1 := strsAre_of hv
  have s2 := strsAre_of hv2
  have n1 := strsAre_len s1
  have n2 := strsAre_len s2
  by_cases hlen : xs.length = ys.length
  · refine SeqAt.eq_listAt (e := fun j => xs.getD j "" == ys.getD j "") (items := us.toArray) (items2 := us2.toArray) ⟨_, hl, rfl, _, rfl⟩ ⟨_, hl2, rfl, _, rfl⟩ (by rw [List.size_toArray, List.size_toArray, n1, n2, hlen]) R.units (fun j h1 h2 => ?_) ?_
    · obtain ⟨t, e⟩ := strsAre_at s1 j (by simpa using h1)
      obtain ⟨t2, e2⟩ := strsAre_at s2 j (by simpa using h2)
      rw [show us.toArray[j] = us[j]'(by simpa using h1) from rfl, show us2.toArray[j] = us2[j]'(by simpa using h2) from rfl, e, e2]
      exact (eqGives_str _ _ t t2).at _ _
    · rw [List.size_toArray, n1, all_eq hlen]
      exact k _ s.heap s.toks (Keeps.refl _) rfl
  · refine SeqAt.eq_list_lengthsAt (items := us.toArray) (items2 := us2.toArray) ⟨_, hl, rfl, _, rfl⟩ ⟨_, hl2, rfl, _, rfl⟩ (by rw [List.size_toArray, List.size_toArray, n1, n2]; simpa using hlen) R.units ?_
    have : (xs == ys) = false := by
      rw [beq_eq_false_iff_ne]; rintro rfl; exact hlen rfl
    rw [this] at k
    exact k _ s.heap s.toks (Keeps.refl _) rfl
theorem Op2.ne_lst_strs {xs ys : List Str} : Op2 n prog w (compareOp .NotEq) (.lst (xs.map .str)) (.lst (ys.map .str)) (.bool (!(xs == ys))) := .mk <| fun A hid s Q E u v R _ h1 h2 k => by
  obtain ⟨l, us, m, rfl, nl, hl, hv⟩ := h1
  obtain ⟨l2, us2, m2, rfl, nl2, hl2, hv2⟩ := h2
  have s1 := strsAre_of hv
  have s2 := strsAre_of hv2
  have n1 := strsAre_len s1
  have n2 := strsAre_len s2
  show wpAny _ _ (richCompare .NotEq (.ref l) (.ref l2)) _ _ _
  by_cases hlen : xs.length = ys.length
  · refine SeqAt.RcNeAt.lists (e := fun j => xs.getD j "" == ys.getD j "") (items := us.toArray) (items2 := us2.toArray) ⟨_, hl, rfl, _, rfl⟩ ⟨_, hl2, rfl, _, rfl⟩ (by rw [List.size_toArray, List.size_toArray, n1, n2, hlen]) R.units (fun j h1 h2 => ?_) prog w E Q ?_
    · obtain ⟨t, e⟩ := strsAre_at s1 j (by simpa using h1)
      obtain ⟨t2, e2⟩ := strsAre_at s2 j (by simpa using h2)
      rw [show us.toArray[j] = us[j]'(by simpa using h1) from rfl, show us2.toArray[j] = us2[j]'(by simpa using h2) from rfl, e, e2]
      exact (eqGives_str _ _ t t2).at _ _
    · rw [List.size_toArray, n1, all_eq hlen]
      exact k _ s.heap s.toks (Keeps.refl _) rfl
  · refine SeqAt.RcNeAt.lists_lengths (items := us.toArray) (items2 := us2.toArray) ⟨_, hl, rfl, _, rfl⟩ ⟨_, hl2, rfl, _, rfl⟩ (by rw [List.size_toArray, List.size_toArray, n1, n2]; simpa using hlen) R.units prog w E Q ?_
    have : (xs == ys) = false := by
      rw [beq_eq_false_iff_ne]; rintro rfl; exact hlen rfl
    rw [this] at k
    exact k _ s.heap s.toks (Keeps.refl _) rfl
end
section
variable {prog : Program} {w : World} {mg mb : Str → Option Value} {hb : Heap} {flags b3 : Int → Option Str}
def escs : List (List (Str × Str)) := [esc0, esc1, esc2, esc3, esc4]
def wrF (T : Top prog w mg mb hb flags b3) : List Addr := [T.f19, T.f20, T.f21, T.f22, T.f23]
theorem writer_spec (T : Top prog w mg mb hb flags b3) (k : Nat) (hk : k < 5) : ∃ fw cs, (wrF T)[k]? = some fw ∧ escs[k]? = some cs ∧ (∃ xw pw bw sw, FnAt mg hb xw fw pw bw sw) ∧ ∀ x, EscOk cs x → Fn 1 prog w mg mb hb fw [.str x] (.str (escape cs x)) := by
  rcases k with _ | _ | _ | _ | _ | k
  · exact ⟨_, _, rfl, rfl, ⟨_, _, _, _, T.F19⟩, fun x h => esc0_spec T.F19 x h⟩
  · exact ⟨_, _, rfl, rfl, ⟨_, _, _, _, T.F20⟩, fun x h => esc1_spec T.F20 x h⟩
  · exact ⟨_, _, rfl, rfl, ⟨_, _, _, _, T.F21⟩, fun x h => esc2_spec T.F21 x h⟩
  · exact ⟨_, _, rfl, rfl, ⟨_, _, _, _, T.F22⟩, fun x h => esc3_spec T.F22 x h⟩
  · exact ⟨_, _, rfl, rfl, ⟨_, _, _, _, T.F23⟩, fun x h => esc4_spec T.F23 x h⟩
  · omega
end
end Mine
-- Ds
namespace Mine
open PySem PySem.Calls PyProof.Rows PySem.W
set_option maxRecDepth 100000
section
variable {n : Nat} {C : Cx} {σ : List Slot}
theorem CompOut.all {C : Cx} {σ' : List Slot} {ifs : List Expr} {elt : Expr} {α : Type} {mk g : α → PV} {xs : List α} (h : ∀ x ∈ xs, CStep n C (σ'.set 1 (.val (mk x))) ifs elt (some (g x))) : CompOut n C σ' ifs elt (xs.map mk) (xs.map g) := by
  induction xs with
  | nil => exact .nil
  | cons x xs ih => exact CompOut.cons (h x List.mem_cons_self) (ih fun y hy => h y (List.mem_cons_of_mem _ hy))
/-- the sum of 2 ** i over the places below four that b picks -/
def sumBits (b : Nat → Bool) : Int := (((List.range 4).filter b).map fun i => (2 : Int) ^ i).sum
theorem sumBits_eq (b : Nat → Bool) : sumBits b = (if b 0 then 1 else 0) + ((if b 1 then 2 else 0) + ((if b 2 then 4 else 0) + (if b 3 then 8 else 0))) := by
  unfold sumBits
  rw [show List.range 4 = [0, 1, 2, 3] from rfl]
  simp only [List.filter_cons, List.filter_nil]
  cases b 0 <;> cases b 1 <;> cases b 2 <;> cases b 3 <;> rfl
theorem pows_fit (b : Nat → Bool) (j : Nat) : InLong ((((List.range 4).filter b).map fun i => (2 : Int) ^ i).getD j 0) ∧ InLong (((((List.range 4).filter b).map fun i => (2 : Int) ^ i).take (j + 1)).sum) := by
  have key : ∀ l : List Nat, l.Sublist [0, 1, 2, 3] → 0 ≤ ((l.map fun i => (2 : Int) ^ i).getD j 0) ∧ ((l.map fun i => (2 : Int) ^ i).getD j 0) ≤ 8 ∧ 0 ≤ ((l.map fun i => (2 : Int) ^ i).take (j + 1)).sum ∧ ((l.map fun i => (2 : Int) ^ i).take (j + 1)).sum ≤ 15 := by
    intro l hl
    have h1 : ∀ x ∈ (l.map fun i => (2 : Int) ^ i), 0 ≤ x ∧ x ≤ 8 := by
      intro x hx
      obtain ⟨i, hi, rfl⟩ := List.mem_map.mp hx
      have := hl.subset hi
      simp only [List.mem_cons, List.not_mem_nil, or_false] at this
      rcases this with rfl | rfl | rfl | rfl <;> decide
    have h2 : ∀ (l1 l2 : List Int), l1.Sublist l2 → (∀ x ∈ l2, 0 ≤ x) → 0 ≤ l1.sum ∧ l1.sum ≤ l2.sum := by
      intro l1 l2 hs
      induction hs with
      | slnil => intro _; exact ⟨Int.le_refl _, Int.le_refl _⟩
      | cons a _ ih =>
        intro hp
        obtain ⟨a1, a2⟩ := ih fun x hx => hp x (List.mem_cons_of_mem _ hx)
        have := hp a List.mem_cons_self
        rw [List.sum_cons]; exact ⟨a1, by omega⟩
      | cons_cons a _ ih =>
        intro hp
        obtain ⟨a1, a2⟩ := ih fun x hx => hp x (List.mem_cons_of_mem _ hx)
        have := hp a List.mem_cons_self
        rw [List.sum_cons, List.sum_cons]; exact ⟨by omega, by omega⟩
    have h3 := h2 _ _ ((List.take_sublist (j + 1) (l.map fun i => (2 : Int) ^ i)).trans (hl.map _)) (fun x hx => by
      obtain ⟨i, hi, rfl⟩ := List.mem_map.mp hx
      simp only [List.mem_cons, List.not_mem_nil, or_false] at hi
      rcases hi with rfl | rfl | rfl | rfl <;> decide)
    have h4 : ([0, 1, 2, 3].map fun i => (2 : Int) ^ i).sum = 15 := by decide
    refine ⟨?_, ?_, h3.1, by rw [h4] at h3; exact h3.2⟩
    · rw [List.getD_eq_getElem?_getD]
      cases e : (l.map fun i => (2 : Int) ^ i)[j]? with
      | none => decide
      | some x => exact (h1 x (List.mem_of_getElem? e)).1
    · rw [List.getD_eq_getElem?_getD]
      cases e : (l.map fun i => (2 : Int) ^ i)[j]? with
      | none => decide
      | some x => exact (h1 x (List.mem_of_getElem? e)).2
  obtain ⟨a, b', c, d⟩ := key _ (List.filter_sublist (p := b) (l := List.range 4))
  unfold InLong
  refine ⟨⟨?_, ?_⟩, ⟨?_, ?_⟩⟩ <;> omega
theorem Ev.sumBits (O : C.Ok) (js jr : Nat) {sm rg x : Str} {scope : Scope} {nm' : List (Str × NameKind)} {σ' : List Slot} {test : Expr} {k0 k1 : Nat} {p1 p2 p3 p4 p5 p6 p7 px pos pos' : Pos} (s1 : C.nm[js]? = some (sm, .globalImplicit)) (s2 : C.mg sm = Option.none) (s3 : C.mb sm = some (.builtin "sum")) (hds : (sm == ("__debug__" : Str)) = false)
    (r1 : C.nm[jr]? = some (rg, .globalImplicit)) (r2 : C.mg rg = Option.none) (r3 : C.mb rg = some (.type "range")) (hdr : (rg == ("__debug__" : Str)) = false)
    (K : CompOk C σ scope nm' σ' x) (hx : nm'[1]? = some (x, .local)) (hd : (x == ("__debug__" : Str)) = false) (hc : (x == ("__classdict__" : Str)) = false) (b : Nat → Bool)
    (ht : ∀ (i : Nat), i < 4 → ∀ cl L, (compCx C scope cl L C.h₀ C.inh nm').Ok → Et n (compCx C scope cl L C.h₀ C.inh nm') (σ'.set 1 (.val (.int (i : Int)))) (isTrue test (compCx C scope cl L C.h₀ C.inh nm').env (eval test (compCx C scope cl L C.h₀ C.inh nm').env)) (b i)) :
    Ev n C σ (eval (.Call (.Name sm p1) [.ListComp (.BinOp (.Constant (.int 2) k0 p2) .Pow (.Name x p3) p4) [⟨.Name x px, .Call (.Name rg p5) [.Constant (.int 4) k1 p6] [] p7, [test], 0⟩] scope pos] [] pos') C.env) (.int (Mine.sumBits b)) := by
  refine Ev.callB (ps := [.lst ((((List.range 4).filter b).map fun i => (2 : Int) ^ i).map .int)]) O js s1 s2 s3 (Els.cons (Ev.comp (ps := upto 4) O K (EvItC.range O jr r1 r2 r3 Ev.int rfl (by decide) hdr) (fun cl L' O' => ?_)) Els.nil) (Bf.sum fun j _ => pows_fit b j) hds
  rw [upto_eq, List.map_map]
  refine CompOut.upto fun i hi => ?_
  have hi := List.mem_range.mp hi
  refine ⟨b i, ht i hi cl L' O', fun hb => ⟨.int ((2 : Int) ^ i), by rw [if_pos hb]; rfl, rfl, ?_⟩, fun hb => by rw [if_neg (by rw [hb]; decide)]⟩
  refine Ev.of (Ev.bin Ev.int (Ev.name O' 1 hx (by rw [List.getElem?_set, if_pos rfl, if_pos K.len]) hd hc) (Op2.pow_int (by omega) ?_)) (by rw [Int.toNat_natCast])
  have e : (Builtin.Int.intBits 2 : Int) = 2 := by decide
  rw [e]; omega
end
end Mine
-- Dt
namespace Mine
open PySem PySem.Calls PyProof.Rows PySem.W
set_option maxRecDepth 100000
/-- what the law builds, from its four cells -/
def wayD (cs : List Int) : Int := cs.sum.fmod 5
def shiftD (cs : List Int) : Int := (cs.sum.fdiv 5).fmod 9
def csD (cs : List Int) : List (Str × Str) := escs.getD (wayD cs).toNat []
def wriD (cs : List Int) : Str := wrL.getD (wayD cs).toNat ""
def textsD (cs : List Int) : List Str := cs.map textOf
def rowsD (cs : List Int) : List Int := (textsD cs).map (rowOf (wriD cs))
def colsD (cs : List Int) : List Int := (List.range 4).map fun j => sumBits fun i => bitAt ((rowsD cs).getD i 0) j
def aloneD (b3 : Int → Option Str) (cs : List Int) : List Int := (textsD cs).map (findOf b3 (escape (csD cs)))
def picksD (cs : List Int) (c : Nat) : List Str := ((List.range 4).filter (bitAt (c : Int))).map fun i => (textsD cs).getD i ""
def joinedD (cs : List Int) (c : Nat) : Str := Txt.join "" (picksD cs c)
def foundD (b3 : Int → Option Str) (cs : List Int) (c : Nat) : Int := findOf b3 (escape (csD cs)) (joinedD cs c)
def shD (cs : List Int) (x : Int) : Int := x * 2 ^ (shiftD cs).toNat
def plainB (cs : List Int) (c : Nat) : Int := sumBits fun j => Builtin.bitAnd ((colsD cs).getD j 0) (c : Int) != 0
def hitB (b3 : Int → Option Str) (cs : List Int) (c : Nat) : Int := sumBits fun i => Builtin.bitAnd ((aloneD b3 cs).getD i 0) (c : Int) != 0
def toldB (cs : List Int) (u : Int) : Int := sumBits fun j => Builtin.bitAnd ((colsD cs).getD j 0) (Builtin.bitNot u) == 0
def backB (cs : List Int) (u : Int) : Int := sumBits fun i => Builtin.bitAnd ((rowsD cs).getD i 0) (Builtin.bitNot u) != 0
def shownW (flags b3 : Int → Option Str) (cs : List Int) (c : Nat) : Str := prettyOf flags (shD cs (foundD b3 cs c))
def plainW (cs : List Int) (c : Nat) : Str := wordsOf (shD cs (plainB cs c))
def quietW (flags b3 : Int → Option Str) (cs : List Int) (c : Nat) : Str := prettyOf flags (shD cs (15 - foundD b3 cs c))
def hitW (flags b3 : Int → Option Str) (cs : List Int) (c : Nat) : Str := prettyOf flags (shD cs (hitB b3 cs c))
def toldL (cs : List Int) : List Str := (unionsOf (colsD cs)).map fun u => wordsOf (shD cs (toldB cs u))
def backL (cs : List Int) : List Str := (unionsOf (rowsD cs)).map fun u => wordsOf (shD cs (backB cs u))
def quietL (flags b3 : Int → Option Str) (cs : List Int) : List Str := (List.range 16).map (quietW flags b3 cs)
def hitL (flags b3 : Int → Option Str) (cs : List Int) : List Str := (List.range 16).map (hitW flags b3 cs)
def lawOf (flags b3 : Int → Option Str) (cs : List Int) : Bool :=
  if !(sortC (onceOf (quietL flags b3 cs)) == sortC (toldL cs)) || (!(sortC (onceOf (hitL flags b3 cs)) == sortC (backL cs)) || false) then false
  else ((List.range 16).map (shownW flags b3 cs) == (List.range 16).map (plainW cs)) && (Txt.join "" (textsD cs)).cps.toList.all askOk
/-- a number that pretty_flags and the words take -/
def NumOk (flags : Int → Option Str) (f : Int) : Prop := flagsOk (List.range 32) f = true ∧ JoinOk ", " (flagsGo flags (List.range 32) f []) = true ∧ JoinOk ", " (namesOf f) = true
/-- a text that the judges take -/
def TextOk (cs : List Int) (x : Str) : Prop := EscOk (csD cs) x ∧ ∀ c ∈ x.cps.toList, Builtin.Str.tooLong (Txt.lower (chS c)).length = false
/-- what the walk of the law leans on -/
structure LawOk (flags b3 : Int → Option Str) (cs : List Int) : Prop where
  len : cs.length = 4
  nn : ∀ c ∈ cs, 0 ≤ c
  sums : ∀ j, j < cs.length → InLong (cs.getD j 0) ∧ InLong ((cs.take (j + 1)).sum)
  texts : ∀ t ∈ textsD cs, TextOk cs t
  joined : ∀ c < 16, TextOk cs (joinedD cs c)
  picks : ∀ c < 16, JoinOk "" (picksD cs c) = true
  whole : JoinOk "" (textsD cs) = true
  small : ∀ c < 16, (foundD b3 cs c).natAbs < 1000
  shown : ∀ c < 16, NumOk flags (shD cs (foundD b3 cs c))
  plain : ∀ c < 16, NumOk flags (shD cs (plainB cs c))
  quiet : ∀ c < 16, NumOk flags (shD cs (15 - foundD b3 cs c))
  hit : ∀ c < 16, NumOk flags (shD cs (hitB b3 cs c))
  told : ∀ u, NumOk flags (shD cs (toldB cs u))
  back : ∀ u, NumOk flags (shD cs (backB cs u))
  lens : (unionsOf (colsD cs)).length < 64 ∧ (unionsOf (rowsD cs)).length < 64
section
variable {prog : Program} {w : World} {mg mb : Str → Option Value} {hb : Heap} {flags b3 : Int → Option Str}
theorem sumBits_small (b : Nat → Bool) : 0 ≤ sumBits b ∧ sumBits b ≤ 15 := by
  rw [sumBits_eq]
  cases b 0 <;> cases b 1 <;> cases b 2 <;> cases b 3 <;> decide
theorem shift_range (cs : List Int) : 0 ≤ shiftD cs ∧ shiftD cs < 9 := ⟨Int.fmod_nonneg_of_pos _ (by decide), Int.fmod_lt_of_pos _ (by decide)⟩
theorem way_range (cs : List Int) : 0 ≤ wayD cs ∧ wayD cs < 5 := ⟨Int.fmod_nonneg_of_pos _ (by decide), Int.fmod_lt_of_pos _ (by decide)⟩
/-- the names that a comprehension takes from around it, with their places there -/
def FrAt (nm : List (Str × NameKind)) : List (Str × Nat) → Prop
  | [] => True
  | (y, j) :: r => nm[j]? = some (y, .cell) ∧ FrAt nm r
theorem FrAt.get {nm : List (Str × NameKind)} : ∀ {fr : List (Str × Nat)}, FrAt nm fr → ∀ y ∈ fr.map (·.1), ∃ j : Nat, nm[j]? = some (y, .cell)
  | [], _, y, hy => by cases hy
  | (z, j) :: r, h, y, hy => by
    rcases List.mem_cons.mp hy with rfl | m
    · exact ⟨j, h.1⟩
    · exact FrAt.get h.2 y m
theorem compOk {C : Cx} {σ : List Slot} {scope : Scope} {nm' : List (Str × NameKind)} {σ' : List Slot} {x : Str} (fr : List (Str × Nat)) (hfr : scope.names.filterMap (fun y => if y.2 == NameKind.free then some y.1 else none) = fr.map (·.1)) (hat : FrAt C.nm fr)
    (once : (scope.names.map (·.1)).Nodup) (kind : scope.kind = .function) (nm : (relabel scope C.env).names = nm') (target : ∃ kx, scope.names[1]? = some (x, kx) ∧ (kx = .local ∨ kx = .cell)) (pulls : Pulls C.nm σ scope.names σ') (len : 1 < σ'.length)
    (solo : (scope.names.all fun y => y.2 != NameKind.cell || y.1 == x) = true) : CompOk C σ scope nm' σ' x where
  free := fun y hy => hat.get y (by rw [← hfr]; exact List.mem_filterMap.mpr ⟨_, hy, rfl⟩)
  once := once
  kind := kind
  nm := nm
  target := target
  pulls := pulls
  len := len
  solo := fun y hy => by
    have := List.all_eq_true.mp solo _ hy
    rw [Bool.or_eq_true, beq_iff_eq] at this
    rcases this with h | h
    · cases h
    · exact h
theorem ints_at {xs : List Int} {i : Nat} (h : i < xs.length) : (xs.map PV.int)[((i : Nat) : Int).toNat]? = some (.int (xs.getD i 0)) := by
  rw [Int.toNat_natCast, List.getElem?_map, getD_at (d := 0) h]; rfl
theorem strs_at {xs : List Str} {i : Nat} (h : i < xs.length) : (xs.map PV.str)[((i : Nat) : Int).toNat]? = some (.str (xs.getD i "")) := by
  have e : xs[i]? = some (xs.getD i "") := getD_at h
  rw [Int.toNat_natCast, List.getElem?_map, e]; rfl
theorem bit_test {n : Nat} {prog : Program} {w : World} (f : Int) (i : Nat) : Tr n prog w (.int (Builtin.bitAnd (f.fdiv (2 ^ ((i : Nat) : Int).toNat)) 1)) (bitAt f i) := by
  rw [Int.toNat_natCast]; exact Tr.int
/-- the law's frame in its loop -/
def lawS (script cs : List Int) (fw : Addr) (b3 : Int → Option Str) (a b c d : List Str) : List Slot :=
  [.val (.lst (script.map .int)), .val (.lst (cs.map .int)), .val (.int cs.sum), .val (.int (wayD cs)), .val (.int (shiftD cs)), .val (.fn fw), .val (.lst ((textsD cs).map .str)), .val (.lst ((rowsD cs).map .int)), .val (.lst ((colsD cs).map .int)), .val (.lst ((aloneD b3 cs).map .int)),
    .own (a.map .str), .own (b.map .str), .own (c.map .str), .own (d.map .str), .unset, .unset, .unset, .unset, .unset]
theorem law_spec (T : Top prog w mg mb hb flags b3) (script : List Int) (hs : script.length ≤ 100) (K : LawOk flags b3 (cellsOf script)) : Fn 4 prog w mg mb hb T.f36 [.lst (script.map .int)] (.bool (lawOf flags b3 (cellsOf script))) := by
  refine Fn.ofC (xp := "script") T.F36 (.inl rfl) 18 nm36 [.val (.lst (script.map .int)), .unset, .unset, .unset, .unset, .unset, .unset, .unset, .unset, .unset, .unset, .unset, .unset, .unset, .unset, .unset, .unset, .unset, .unset] rfl rfl (by decide +kernel) (fun v pm c doc => by kernel_rfl) fun L cd h₀ inh O KC => ?_
  conv in (fnBody _) => whnf
  refine Ex.cons (Ex.assign O 1 rfl (Ev.callF T.F26 (Ev.glob O 19 rfl T.F26.name rfl) (Els.cons (Ev.name O 0 rfl rfl rfl rfl) Els.nil) ((cells_spec T script hs).le (by decide)))) ?_
  generalize hcs : cellsOf script = cs at K ⊢
  have hw := way_range cs
  have hsh := shift_range cs
  obtain ⟨fw, rs, hfw, hrs, ⟨xw, pw', bw, sw, Fw⟩, hwr⟩ := writer_spec T (wayD cs).toNat (by omega)
  have hcsD : csD cs = rs := by unfold csD; rw [List.getD_eq_getElem?_getD, hrs]; rfl
  have hwri : wrL[(wayD cs).toNat]? = some (wriD cs) := getD_at (by show _ < 5; omega)
  refine Ex.cons (Ex.assign (p := .int cs.sum) O 2 rfl (Ev.callB O 20 rfl T.b_sum.1 T.b_sum.2  (Els.cons (Ev.name O 1 rfl rfl rfl rfl) Els.nil) (Bf.sum K.sums) rfl)) ?_
  refine Ex.cons (Ex.assignC (p := .int (wayD cs)) O KC 3 rfl (Ev.bin (Ev.name O 2 rfl rfl rfl rfl) Ev.int (Op2.mod_int (by decide))) rfl) ?_
  refine Ex.cons (Ex.assignC (p := .int (shiftD cs)) O KC 4 rfl (Ev.bin (Ev.bin (Ev.name O 2 rfl rfl rfl rfl) Ev.int (Op2.div_int (by decide) (PyProof.noPylong_of_log2 (by decide +kernel)))) Ev.int (Op2.mod_int (by decide))) rfl) ?_
  refine Ex.cons (Ex.assignC (p := .fn fw) O KC 5 rfl (Ev.sub (p := .tup ((wrF T).map .fn)) (Ev.tup ?_ (by show 5 ≤ sizeLine; decide)) (Ev.name O 3 rfl rfl rfl rfl) (Op2.item_tup hw.1 (by rw [List.getElem?_map, hfw]; rfl) (by omega))) rfl) ?_
  · exact Els.cons (Ev.glob O 21 rfl T.F19.name rfl) (Els.cons (Ev.glob O 22 rfl T.F20.name rfl) (Els.cons (Ev.glob O 23 rfl T.F21.name rfl) (Els.cons (Ev.glob O 24 rfl T.F22.name rfl) (Els.cons (Ev.glob O 25 rfl T.F23.name rfl) Els.nil))))
  have lt4 : (textsD cs).length = 4 := by unfold textsD; rw [List.length_map]; exact K.len
  have lr4 : (rowsD cs).length = 4 := by unfold rowsD; rw [List.length_map]; exact lt4
  have lc4 : (colsD cs).length = 4 := by unfold colsD; rw [List.length_map]; rfl
  have la4 : (aloneD b3 cs).length = 4 := by unfold aloneD; rw [List.length_map]; exact lt4
  refine Ex.cons (Ex.assignC (p := .lst ((textsD cs).map .str)) O KC 6 rfl (Ev.of (Ev.comp (ps := cs.map .int) (out := cs.map fun c => .str (textOf c)) (nm' := nm36c0) (σ' := [.unset, .unset, .unset]) O ?_ (EvItC.lst (Ev.name O 1 rfl rfl rfl rfl)) (fun cl L' O' => ?_) (by rw [List.length_map, K.len]; decide)) (by unfold textsD; rw [List.map_map]; rfl)) (by kernel_rfl)) ?_
  · exact compOk [] (by decide +kernel) trivial (by decide +kernel) rfl (by kernel_rfl) ⟨.local, rfl, .inl rfl⟩ trivial (by show 1 < 3; decide) (by decide +kernel)
  · refine CompOut.all fun c hc => ⟨_, rfl, rfl, ?_⟩
    exact Ev.callF T.F27 (Ev.glob O' 2 rfl T.F27.name rfl) (Els.cons (Ev.name O' 1 rfl rfl rfl rfl) Els.nil) ((text_spec T c (K.nn c hc)).le (by decide))
  refine Ex.cons (Ex.assignC (p := .lst ((rowsD cs).map .int)) O KC 7 rfl (Ev.of (Ev.comp (ps := (textsD cs).map .str) (out := (textsD cs).map fun x => .int (rowOf (wriD cs) x)) (nm' := nm36c1) (σ' := [.unset, .unset, .unset, .val (.int (wayD cs))]) O ?_ (EvItC.lst (Ev.name O 6 rfl rfl rfl rfl)) (fun cl L' O' => ?_) (by rw [List.length_map, lt4]; decide)) (by unfold rowsD; rw [List.map_map]; rfl)) (by kernel_rfl)) ?_
  · exact compOk [("way", 3)] (by decide +kernel) ⟨rfl, trivial⟩ (by decide +kernel) rfl (by kernel_rfl) ⟨.local, rfl, .inl rfl⟩ ⟨⟨rfl, 3, rfl, rfl⟩, trivial⟩ (by show 1 < 4; decide) (by decide +kernel)
  · refine CompOut.all fun x hx => ⟨_, rfl, rfl, ?_⟩
    exact Ev.callF T.F29 (Ev.glob O' 2 rfl T.F29.name rfl) (Els.cons (Ev.name O' 3 rfl rfl rfl rfl) (Els.cons (Ev.name O' 1 rfl rfl rfl rfl) Els.nil)) (row_spec T (wayD cs) (wriD cs) hw.1 hw.2 hwri x)
  refine Ex.cons (Ex.assignC (p := .lst ((colsD cs).map .int)) O KC 8 rfl (Ev.of (Ev.comp (ps := upto 4) (out := (List.range 4).map fun j => .int (sumBits fun i => bitAt ((rowsD cs).getD i 0) j)) (nm' := nm36c2) (σ' := [.unset, .unset, .unset, .unset, .val (.lst ((rowsD cs).map .int))]) O ?_ (EvItC.range O 26 rfl T.b_range.1 T.b_range.2 Ev.int rfl (by decide) rfl) (fun cl L' O' => ?_) (by decide)) (by unfold colsD; rw [List.map_map]; rfl)) (by kernel_rfl)) ?_
  · exact compOk [("rows", 7)] (by decide +kernel) ⟨rfl, trivial⟩ (by decide +kernel) rfl (by kernel_rfl) ⟨.cell, rfl, .inr rfl⟩ ⟨⟨rfl, 7, rfl, rfl⟩, trivial⟩ (by show 1 < 5; decide) (by decide +kernel)
  · rw [upto_eq]
    refine CompOut.all fun j hj => ⟨_, rfl, rfl, ?_⟩
    refine Ev.sumBits (nm' := nm36c3) (σ' := [.unset, .unset, .val (.int (j : Int)), .val (.lst ((rowsD cs).map .int))]) O' 2 3 rfl T.b_sum.1 T.b_sum.2 rfl rfl T.b_range.1 T.b_range.2 rfl ?_ rfl rfl rfl (fun i => bitAt ((rowsD cs).getD i 0) j) fun i hi cl2 L2 O2 => ?_
    · exact compOk [("j", 1), ("rows", 4)] (by decide +kernel) ⟨rfl, rfl, trivial⟩ (by decide +kernel) rfl (by kernel_rfl) ⟨.local, rfl, .inl rfl⟩ ⟨⟨rfl, 1, rfl, rfl⟩, ⟨rfl, 4, rfl, rfl⟩, trivial⟩ (by show 1 < 4; decide) (by decide +kernel)
    · exact Et.plain (Ev.bin (Ev.bin (Ev.sub (Ev.name O2 3 rfl rfl rfl rfl) (Ev.name O2 1 rfl rfl rfl rfl) (Op2.item_lst (by omega) (ints_at (by omega)) (by omega))) (Ev.name O2 2 rfl rfl rfl rfl) (Op2.shr_int (by omega))) Ev.int Op2.and_int) (bit_test _ _)
  refine Ex.cons (Ex.assignC (p := .lst ((aloneD b3 cs).map .int)) O KC 9 rfl (Ev.of (Ev.comp (ps := (textsD cs).map .str) (out := (textsD cs).map fun x => .int (findOf b3 (escape (csD cs)) x)) (nm' := nm36c4) (σ' := [.unset, .unset, .unset, .val (.fn fw)]) O ?_ (EvItC.lst (Ev.name O 6 rfl rfl rfl rfl)) (fun cl L' O' => ?_) (by rw [List.length_map, lt4]; decide)) (by unfold aloneD; rw [List.map_map]; rfl)) (by kernel_rfl)) ?_
  · exact compOk [("writer", 5)] (by decide +kernel) ⟨rfl, trivial⟩ (by decide +kernel) rfl (by kernel_rfl) ⟨.local, rfl, .inl rfl⟩ ⟨⟨rfl, 5, rfl, rfl⟩, trivial⟩ (by show 1 < 4; decide) (by decide +kernel)
  · refine CompOut.all fun x hx => ⟨_, rfl, rfl, ?_⟩
    obtain ⟨x1, x2⟩ := K.texts x hx
    rw [hcsD] at x1 ⊢
    exact Ev.callF T.F32 (Ev.glob O' 2 rfl T.F32.name rfl) (Els.cons (Ev.name O' 3 rfl rfl rfl rfl) (Els.cons (Ev.name O' 1 rfl rfl rfl rfl) Els.nil)) (findings_spec T Fw (escape rs) x (hwr x x1) x2)
  refine Ex.cons (Ex.own O 10 rfl Els.nil (hi := (by show 10 < 19; decide))) ?_
  refine Ex.cons (Ex.own O 11 rfl Els.nil (hi := (by show 11 < 19; decide))) ?_
  refine Ex.cons (Ex.own O 12 rfl Els.nil (hi := (by show 12 < 19; decide))) ?_
  refine Ex.cons (Ex.own O 13 rfl Els.nil (hi := (by show 13 < 19; decide))) ?_
  refine Ex.cons (σ' := lawS script cs fw b3 ((List.range 16).map (shownW flags b3 cs)) ((List.range 16).map (plainW cs)) (quietL flags b3 cs) (hitL flags b3 cs)) (Ex.for (ps := upto 16) (EvIter.range O 26 rfl T.b_range.1 T.b_range.2 Ev.int rfl (by decide) rfl) ?_) ?_
  · rw [upto_eq]
    unfold quietL hitL
    refine (?_ : ∀ (l : List Nat) (a b c d : List Str), (∀ i ∈ l, i < 16) → a.length + l.length ≤ 100 → b.length + l.length ≤ 100 → c.length + l.length ≤ 100 → d.length + l.length ≤ 100 → Loop 3 _ _ _ _ (l.map fun (i : Nat) => .int (i : Int)) (lawS script cs fw b3 a b c d)
      (.next (lawS script cs fw b3 (a ++ l.map (shownW flags b3 cs)) (b ++ l.map (plainW cs)) (c ++ l.map (quietW flags b3 cs)) (d ++ l.map (hitW flags b3 cs))))) (List.range 16) [] [] [] [] (fun i hi => List.mem_range.mp hi) (by decide) (by decide) (by decide) (by decide)
    intro l
    induction l with
    | nil =>
      intro a b c d _ _ _ _ _
      simp only [List.map_nil, List.append_nil]
      exact Loop.done Ex.nil
    | cons i l ih =>
      intro a b c d hl ha hb' hc hd
      have hi := hl i List.mem_cons_self
      rw [List.length_cons] at ha hb' hc hd
      have app : ∀ (xs : List Str) (x : Str) (ys : List Str), xs ++ x :: ys = (xs ++ [x]) ++ ys := fun xs x ys => by rw [List.append_assoc]; rfl
      simp only [List.map_cons]
      rw [app a, app b, app c, app d]
      refine Loop.next (σ₂ := lawS script cs fw b3 (a ++ [shownW flags b3 cs i]) (b ++ [plainW cs i]) (c ++ [quietW flags b3 cs i]) (d ++ [hitW flags b3 cs i])) (Asg.cell O KC 14 rfl) ?_ (ih _ _ _ _ (fun j hj => hl j (List.mem_cons_of_mem _ hj)) (by rw [List.length_append]; show a.length + 1 + l.length ≤ 100; omega) (by rw [List.length_append]; show b.length + 1 + l.length ≤ 100; omega) (by rw [List.length_append]; show c.length + 1 + l.length ≤ 100; omega) (by rw [List.length_append]; show d.length + 1 + l.length ≤ 100; omega))
      have W := fun (a b c d : List Str) => (lawS script cs fw b3 a b c d).set 14 (.val (.int (i : Int)))
      -- joined
      refine Ex.weak [14, 15, 16] (σ' := (((lawS script cs fw b3 (a ++ [shownW flags b3 cs i]) (b ++ [plainW cs i]) (c ++ [quietW flags b3 cs i]) (d ++ [hitW flags b3 cs i])).set 14 (.val (.int (i : Int)))).set 15 (.val (.str (joinedD cs i)))).set 16 (.val (.int (foundD b3 cs i)))) ?_
      refine Ex.cons (σ' := ((lawS script cs fw b3 a b c d).set 14 (.val (.int (i : Int)))).set 15 (.val (.str (joinedD cs i)))) (Ex.assign O 15 rfl (Ev.join (xs := picksD cs i) Ev.str (Ev.comp (ps := upto 4) (out := (picksD cs i).map .str) (nm' := nm36c5) (σ' := [.unset, .unset, .val (.int (i : Int)), .val (.lst ((textsD cs).map .str))]) O ?_ (EvItC.range O 26 rfl T.b_range.1 T.b_range.2 Ev.int rfl (by decide) rfl) (fun cl L' O' => ?_) (by decide)) (K.picks i hi) (methAt rfl rfl rfl))) ?_
      · exact compOk [("choice", 14), ("texts", 6)] (by decide +kernel) ⟨rfl, rfl, trivial⟩ (by decide +kernel) rfl (by kernel_rfl) ⟨.local, rfl, .inl rfl⟩ ⟨⟨rfl, 14, rfl, rfl⟩, ⟨rfl, 6, rfl, rfl⟩, trivial⟩ (by show 1 < 4; decide) (by decide +kernel)
      · rw [upto_eq]
        unfold picksD
        rw [List.map_map]
        refine CompOut.upto fun k hk => ?_
        have hk := List.mem_range.mp hk
        refine ⟨bitAt (i : Int) k, Et.plain (Ev.bin (Ev.bin (Ev.name O' 2 rfl rfl rfl rfl) (Ev.name O' 1 rfl rfl rfl rfl) (Op2.shr_int (by omega))) Ev.int Op2.and_int) (bit_test _ _), fun hb => ⟨_, by rw [if_pos hb], rfl, ?_⟩, fun hb => by rw [if_neg (by rw [hb]; decide)]⟩
        exact Ev.sub (Ev.name O' 3 rfl rfl rfl rfl) (Ev.name O' 1 rfl rfl rfl rfl) (Op2.item_lst (by omega) (strs_at (by omega)) (by omega))
      -- found
      obtain ⟨x1, x2⟩ := K.joined i hi
      have hfound := findings_spec T Fw (escape rs) (joinedD cs i) (hwr _ (hcsD ▸ x1)) x2
      rw [← hcsD] at hfound
      refine Ex.cons (σ' := (((lawS script cs fw b3 a b c d).set 14 (.val (.int (i : Int)))).set 15 (.val (.str (joinedD cs i)))).set 16 (.val (.int (foundD b3 cs i)))) (Ex.assign O 16 rfl (Ev.callF T.F32 (Ev.glob O 27 rfl T.F32.name rfl) (Els.cons (Ev.name O 5 rfl rfl rfl rfl) (Els.cons (Ev.name O 15 rfl rfl rfl rfl) Els.nil)) hfound)) ?_
      have small := K.small i hi
      -- shown
      refine Ex.cons (σ' := (((lawS script cs fw b3 (a ++ [shownW flags b3 cs i]) b c d).set 14 (.val (.int (i : Int)))).set 15 (.val (.str (joinedD cs i)))).set 16 (.val (.int (foundD b3 cs i)))) (Ex.of (Ex.append (p := .str (shownW flags b3 cs i)) O 10 rfl rfl (Ev.callF T.F2 (Ev.glob O 28 rfl T.F2.name rfl) (Els.cons (Ev.bin (Ev.name O 16 rfl rfl rfl rfl) (Ev.name O 4 rfl rfl rfl rfl) (Op2.shl_int hsh.1 (by omega) (by omega))) Els.nil) ((pretty_spec T _ (K.shown i hi).1 (K.shown i hi).2.1).le (by decide))) (by rw [List.length_map]; omega) (methAt rfl rfl rfl) rfl rfl) ?_) ?_
      · simp only [lawS, List.map_append]; rfl
      -- plain
      have sp := sumBits_small (fun j => Builtin.bitAnd ((colsD cs).getD j 0) (i : Int) != 0)
      refine Ex.cons (σ' := (((lawS script cs fw b3 (a ++ [shownW flags b3 cs i]) (b ++ [plainW cs i]) c d).set 14 (.val (.int (i : Int)))).set 15 (.val (.str (joinedD cs i)))).set 16 (.val (.int (foundD b3 cs i)))) (Ex.of (Ex.append (p := .str (plainW cs i)) O 11 rfl rfl (Ev.callF T.F33 (Ev.glob O 29 rfl T.F33.name rfl) (Els.cons (Ev.bin (Ev.sumBits (nm' := nm36c6) (σ' := [.unset, .unset, .val (.int (i : Int)), .val (.lst ((colsD cs).map .int))]) O 20 26 rfl T.b_sum.1 T.b_sum.2 rfl rfl T.b_range.1 T.b_range.2 rfl ?_ rfl rfl rfl (fun j => Builtin.bitAnd ((colsD cs).getD j 0) (i : Int) != 0) (fun k hk cl2 L2 O2 => ?_)) (Ev.name O 4 rfl rfl rfl rfl) (Op2.shl_int hsh.1 (by omega) (by omega))) Els.nil) ((words_spec T _ (K.plain i hi).2.2).le (by decide))) (by rw [List.length_map]; omega) (methAt rfl rfl rfl) rfl rfl) ?_) ?_
      · exact compOk [("choice", 14), ("columns", 8)] (by decide +kernel) ⟨rfl, rfl, trivial⟩ (by decide +kernel) rfl (by kernel_rfl) ⟨.local, rfl, .inl rfl⟩ ⟨⟨rfl, 14, rfl, rfl⟩, ⟨rfl, 8, rfl, rfl⟩, trivial⟩ (by show 1 < 4; decide) (by decide +kernel)
      · exact Et.plain (Ev.bin (Ev.sub (Ev.name O2 3 rfl rfl rfl rfl) (Ev.name O2 1 rfl rfl rfl rfl) (Op2.item_lst (by omega) (ints_at (by omega)) (by omega))) (Ev.name O2 2 rfl rfl rfl rfl) Op2.and_int) Tr.int
      · simp only [lawS, List.map_append]; rfl
      -- quiet
      refine Ex.cons (σ' := (((lawS script cs fw b3 (a ++ [shownW flags b3 cs i]) (b ++ [plainW cs i]) (c ++ [quietW flags b3 cs i]) d).set 14 (.val (.int (i : Int)))).set 15 (.val (.str (joinedD cs i)))).set 16 (.val (.int (foundD b3 cs i)))) (Ex.of (Ex.append (p := .str (quietW flags b3 cs i)) O 12 rfl rfl (Ev.callF T.F2 (Ev.glob O 28 rfl T.F2.name rfl) (Els.cons (Ev.bin (Ev.bin Ev.int (Ev.name O 16 rfl rfl rfl rfl) Op2.sub_int) (Ev.name O 4 rfl rfl rfl rfl) (Op2.shl_int hsh.1 (by omega) (by omega))) Els.nil) ((pretty_spec T _ (K.quiet i hi).1 (K.quiet i hi).2.1).le (by decide))) (by rw [List.length_map]; omega) (methAt rfl rfl rfl) rfl rfl) ?_) ?_
      · simp only [lawS, List.map_append]; rfl
      -- hit
      have sh := sumBits_small (fun j => Builtin.bitAnd ((aloneD b3 cs).getD j 0) (i : Int) != 0)
      refine Ex.cons (Ex.of (Ex.append (p := .str (hitW flags b3 cs i)) O 13 rfl rfl (Ev.callF T.F2 (Ev.glob O 28 rfl T.F2.name rfl) (Els.cons (Ev.bin (Ev.sumBits (nm' := nm36c7) (σ' := [.unset, .unset, .val (.lst ((aloneD b3 cs).map .int)), .val (.int (i : Int))]) O 20 26 rfl T.b_sum.1 T.b_sum.2 rfl rfl T.b_range.1 T.b_range.2 rfl ?_ rfl rfl rfl (fun j => Builtin.bitAnd ((aloneD b3 cs).getD j 0) (i : Int) != 0) (fun k hk cl2 L2 O2 => ?_)) (Ev.name O 4 rfl rfl rfl rfl) (Op2.shl_int hsh.1 (by omega) (by omega))) Els.nil) ((pretty_spec T _ (K.hit i hi).1 (K.hit i hi).2.1).le (by decide))) (by rw [List.length_map]; omega) (methAt rfl rfl rfl) rfl rfl) ?_) Ex.nil
      · exact compOk [("alone", 9), ("choice", 14)] (by decide +kernel) ⟨rfl, rfl, trivial⟩ (by decide +kernel) rfl (by kernel_rfl) ⟨.local, rfl, .inl rfl⟩ ⟨⟨rfl, 9, rfl, rfl⟩, ⟨rfl, 14, rfl, rfl⟩, trivial⟩ (by show 1 < 4; decide) (by decide +kernel)
      · exact Et.plain (Ev.bin (Ev.sub (Ev.name O2 2 rfl rfl rfl rfl) (Ev.name O2 1 rfl rfl rfl rfl) (Op2.item_lst (by omega) (ints_at (by omega)) (by omega))) (Ev.name O2 3 rfl rfl rfl rfl) Op2.and_int) Tr.int
      · simp only [lawS, List.map_append]; rfl
  refine Ex.cons (Ex.assignComp (ps := (unionsOf (colsD cs)).map .int) (out := (unionsOf (colsD cs)).map fun u => .str (wordsOf (shD cs (toldB cs u)))) (nm' := nm36c8) (σ' := [.unset, .unset, .unset, .unset, .unset, .val (.lst ((colsD cs).map .int)), .val (.int (shiftD cs))]) O 17 rfl ?_ (EvItC.lst (Ev.callF T.F34 (Ev.glob O 30 rfl T.F34.name rfl) (Els.cons (Ev.name O 8 rfl rfl rfl rfl) Els.nil) ((unions_spec T (colsD cs) (by omega)).le (by decide)))) (fun cl L' O' => ?_) (by kernel_rfl) (by rw [List.length_map]; have := K.lens.1; omega)) ?_
  · exact compOk [("columns", 8), ("shift", 4)] (by decide +kernel) ⟨rfl, rfl, trivial⟩ (by decide +kernel) rfl (by kernel_rfl) ⟨.cell, rfl, .inr rfl⟩ ⟨⟨rfl, 8, rfl, rfl⟩, ⟨rfl, 4, rfl, rfl⟩, trivial⟩ (by show 1 < 7; decide) (by decide +kernel)
  · refine CompOut.all fun u hu => ⟨_, rfl, rfl, ?_⟩
    have st := sumBits_small (fun j => Builtin.bitAnd ((colsD cs).getD j 0) (Builtin.bitNot u) == 0)
    refine Ev.callF T.F33 (Ev.glob O' 2 rfl T.F33.name rfl) (Els.cons (Ev.bin (Ev.sumBits (nm' := nm36c9) (σ' := [.unset, .unset, .val (.lst ((colsD cs).map .int)), .val (.int u)]) O' 3 4 rfl T.b_sum.1 T.b_sum.2 rfl rfl T.b_range.1 T.b_range.2 rfl ?_ rfl rfl rfl (fun j => Builtin.bitAnd ((colsD cs).getD j 0) (Builtin.bitNot u) == 0) (fun k hk cl2 L2 O2 => ?_)) (Ev.name O' 6 rfl rfl rfl rfl) (Op2.shl_int hsh.1 (by omega) (by omega))) Els.nil) ((words_spec T _ (K.told u).2.2).le (by decide))
    · exact compOk [("columns", 5), ("union", 1)] (by decide +kernel) ⟨rfl, rfl, trivial⟩ (by decide +kernel) rfl (by kernel_rfl) ⟨.local, rfl, .inl rfl⟩ ⟨⟨rfl, 5, rfl, rfl⟩, ⟨rfl, 1, rfl, rfl⟩, trivial⟩ (by show 1 < 4; decide) (by decide +kernel)
    · exact Et.cmp (Ev.bin (Ev.sub (Ev.name O2 2 rfl rfl rfl rfl) (Ev.name O2 1 rfl rfl rfl rfl) (Op2.item_lst (by omega) (ints_at (by omega)) (by omega))) (Ev.una (Ev.name O2 3 rfl rfl rfl rfl) Op1.inv_int) Op2.and_int) Ev.int Op2.eq_int
  refine Ex.cons (Ex.assignComp (ps := (unionsOf (rowsD cs)).map .int) (out := (unionsOf (rowsD cs)).map fun u => .str (wordsOf (shD cs (backB cs u)))) (nm' := nm36c10) (σ' := [.unset, .unset, .unset, .unset, .unset, .val (.lst ((rowsD cs).map .int)), .val (.int (shiftD cs))]) O 18 rfl ?_ (EvItC.lst (Ev.callF T.F34 (Ev.glob O 30 rfl T.F34.name rfl) (Els.cons (Ev.name O 7 rfl rfl rfl rfl) Els.nil) ((unions_spec T (rowsD cs) (by omega)).le (by decide)))) (fun cl L' O' => ?_) (by kernel_rfl) (by rw [List.length_map]; have := K.lens.2; omega)) ?_
  · exact compOk [("rows", 7), ("shift", 4)] (by decide +kernel) ⟨rfl, rfl, trivial⟩ (by decide +kernel) rfl (by kernel_rfl) ⟨.cell, rfl, .inr rfl⟩ ⟨⟨rfl, 7, rfl, rfl⟩, ⟨rfl, 4, rfl, rfl⟩, trivial⟩ (by show 1 < 7; decide) (by decide +kernel)
  · refine CompOut.all fun u hu => ⟨_, rfl, rfl, ?_⟩
    have st := sumBits_small (fun j => Builtin.bitAnd ((rowsD cs).getD j 0) (Builtin.bitNot u) != 0)
    refine Ev.callF T.F33 (Ev.glob O' 2 rfl T.F33.name rfl) (Els.cons (Ev.bin (Ev.sumBits (nm' := nm36c11) (σ' := [.unset, .unset, .val (.lst ((rowsD cs).map .int)), .val (.int u)]) O' 3 4 rfl T.b_sum.1 T.b_sum.2 rfl rfl T.b_range.1 T.b_range.2 rfl ?_ rfl rfl rfl (fun j => Builtin.bitAnd ((rowsD cs).getD j 0) (Builtin.bitNot u) != 0) (fun k hk cl2 L2 O2 => ?_)) (Ev.name O' 6 rfl rfl rfl rfl) (Op2.shl_int hsh.1 (by omega) (by omega))) Els.nil) ((words_spec T _ (K.back u).2.2).le (by decide))
    · exact compOk [("rows", 5), ("union", 1)] (by decide +kernel) ⟨rfl, rfl, trivial⟩ (by decide +kernel) rfl (by kernel_rfl) ⟨.local, rfl, .inl rfl⟩ ⟨⟨rfl, 5, rfl, rfl⟩, ⟨rfl, 1, rfl, rfl⟩, trivial⟩ (by show 1 < 4; decide) (by decide +kernel)
    · exact Et.plain (Ev.bin (Ev.sub (Ev.name O2 2 rfl rfl rfl rfl) (Ev.name O2 1 rfl rfl rfl rfl) (Op2.item_lst (by omega) (ints_at (by omega)) (by omega))) (Ev.una (Ev.name O2 3 rfl rfl rfl rfl) Op1.inv_int) Op2.and_int) Tr.int
  refine Ex.freeze O 10 rfl rfl (Ex.freeze O 11 rfl rfl (Ex.freeze O 12 rfl rfl (Ex.freeze O 13 rfl rfl ?_)))
  have et : (toldL cs).map PV.str = (unionsOf (colsD cs)).map fun u => .str (wordsOf (shD cs (toldB cs u))) := by unfold toldL; rw [List.map_map]; rfl
  have eb : (backL cs).map PV.str = (unionsOf (rowsD cs)).map fun u => .str (wordsOf (shD cs (backB cs u))) := by unfold backL; rw [List.map_map]; rfl
  refine Ex.from (σ := [.val (.lst (script.map .int)), .val (.lst (cs.map .int)), .val (.int cs.sum), .val (.int (wayD cs)), .val (.int (shiftD cs)), .val (.fn fw), .val (.lst ((textsD cs).map .str)), .val (.lst ((rowsD cs).map .int)), .val (.lst ((colsD cs).map .int)), .val (.lst ((aloneD b3 cs).map .int)),
    .val (.lst (((List.range 16).map (shownW flags b3 cs)).map .str)), .val (.lst (((List.range 16).map (plainW cs)).map .str)), .val (.lst ((quietL flags b3 cs).map .str)), .val (.lst ((hitL flags b3 cs).map .str)), .unset, .unset, .unset, .val (.lst ((toldL cs).map .str)), .val (.lst ((backL cs).map .str))]) ?_ (by rw [et, eb]; rfl)
  have l16 : (quietL flags b3 cs).length ≤ 60 := by show ((List.range 16).map _).length ≤ 60; rw [List.length_map]; decide
  have h16 : (hitL flags b3 cs).length ≤ 60 := by show ((List.range 16).map _).length ≤ 60; rw [List.length_map]; decide
  have t64 : (toldL cs).length < 64 := by unfold toldL; rw [List.length_map]; exact K.lens.1
  have b64 : (backL cs).length < 64 := by unfold backL; rw [List.length_map]; exact K.lens.2
  unfold lawOf
  cases hb2 : (!(sortC (onceOf (quietL flags b3 cs)) == sortC (toldL cs)) || (!(sortC (onceOf (hitL flags b3 cs)) == sortC (backL cs)) || false)) with
  | true =>
    rw [if_pos rfl]
    refine Ex.stop (Ex.ite (b := true) (Et.of (Et.or (Et.cmp (Ev.callF T.F35 (Ev.glob O 31 rfl T.F35.name rfl) (Els.cons (Ev.name O 12 rfl rfl rfl rfl) Els.nil) ((once_spec T _ l16).le (by decide))) (Ev.callB O 32 rfl T.b_sorted.1 T.b_sorted.2  (Els.cons (Ev.name O 17 rfl rfl rfl rfl) Els.nil) (Bf.sorted t64 fun zs => sortC_only) rfl) Op2.ne_lst_strs) (fun _ => Et.or (Et.cmp (Ev.callF T.F35 (Ev.glob O 31 rfl T.F35.name rfl) (Els.cons (Ev.name O 13 rfl rfl rfl rfl) Els.nil) ((once_spec T _ h16).le (by decide))) (Ev.callB O 32 rfl T.b_sorted.1 T.b_sorted.2  (Els.cons (Ev.name O 18 rfl rfl rfl rfl) Els.nil) (Bf.sorted b64 fun zs => sortC_only) rfl) Op2.ne_lst_strs) (fun _ => Et.or0))) hb2) (fun _ => Ex.stop (Ex.ret Ev.bool) (fun _ e => by cases e)) (fun e => absurd e (by decide))) (fun _ e => by cases e)
  | false =>
    rw [if_neg (by decide)]
    refine Ex.cons (Ex.ite (b := false) (Et.of (Et.or (Et.cmp (Ev.callF T.F35 (Ev.glob O 31 rfl T.F35.name rfl) (Els.cons (Ev.name O 12 rfl rfl rfl rfl) Els.nil) ((once_spec T _ l16).le (by decide))) (Ev.callB O 32 rfl T.b_sorted.1 T.b_sorted.2  (Els.cons (Ev.name O 17 rfl rfl rfl rfl) Els.nil) (Bf.sorted t64 fun zs => sortC_only) rfl) Op2.ne_lst_strs) (fun _ => Et.or (Et.cmp (Ev.callF T.F35 (Ev.glob O 31 rfl T.F35.name rfl) (Els.cons (Ev.name O 13 rfl rfl rfl rfl) Els.nil) ((once_spec T _ h16).le (by decide))) (Ev.callB O 32 rfl T.b_sorted.1 T.b_sorted.2  (Els.cons (Ev.name O 18 rfl rfl rfl rfl) Els.nil) (Bf.sorted b64 fun zs => sortC_only) rfl) Op2.ne_lst_strs) (fun _ => Et.or0))) hb2) (fun e => absurd e (by decide)) (fun _ => Ex.nil)) ?_
    exact Ex.stop (Ex.ret (Ev.and (Ev.cmp (Ev.name O 10 rfl rfl rfl rfl) (Ev.name O 11 rfl rfl rfl rfl) Op2.eq_lst_strs) (fun _ => Ev.callF T.F31 (Ev.glob O 33 rfl T.F31.name rfl) (Els.cons (Ev.join (xs := textsD cs) Ev.str (Ev.name O 6 rfl rfl rfl rfl) K.whole (methAt rfl rfl rfl)) Els.nil) (answered_spec T _)))) (fun _ e => by cases e)
end
end Mine
-- Ad
namespace Mine
open PySem PySem.Calls PyProof.Rows PySem.W
/-- a tree's own run, up to where it is through -/
theorem runs_through {prog : Program} {w : World} {t : Sem Fin} {s : Shared} {R : Shared → Prop} (hreg : s.asleep)
    (h : wpAny (model prog w) callerA t (fun fin s' => ∃ f, fin = .done f ∧ R s' ∧ leftWithCleanup s'.gens = false) (fun _ _ => False) s) :
    ∃ n σ t' s'', schedN (denote table) prog w n (.single s ⟨t, .builtin "claim.caller" {}, default, []⟩) = .running (.single σ t') ∧ through t' = true ∧ σ.forget = s''.forget ∧ R s'' ∧ σ.heap.life = s.heap.life := by
  have h1 := wp_of_wpAny_done (M := model prog w) (R := fun r s' => ((∃ f, r = .ok f) ∧ R s') ∧ leftWithCleanup s'.gens = false) caller_in (wpAny_mono h (fun fin s' ⟨f, e, a, b⟩ => ⟨f, e, ⟨⟨f, rfl⟩, a⟩, b⟩) (fun _ _ f => f.elim)) default
  obtain ⟨n, r, s', hn, hR⟩ := (wp_iff_halts (M := model prog w) t (fun r s' => (∃ f, r = .ok f) ∧ R s') default s).mp h1
  obtain ⟨s'', hr, hf, hc⟩ := runNI_real _ _ _ hn (outcomeOf_ends r)
  have hne : ∀ k s₂, runN (denote table) prog w k s ⟨t, .builtin "claim.caller" {}, default, []⟩ ≠ .halted (.unsupported "lifetime:generator-with-cleanup-left-suspended") s₂ := by
    intro k s₂ hk
    have a := runN_mono (denote table) prog w n k s _ _ s'' hr
    have b := runN_mono (denote table) prog w k n s _ _ s₂ hk
    rw [Nat.add_comm, b] at a
    injection a with a1 _
    have := outcomeOf_ends r
    rw [← a1] at this
    exact absurd this (by simp [Outcome.ends])
  have h2 : Sem.wp (model prog w) (Ctx.of (.builtin "claim.caller" {}) []) t (fun fin _ s' => ∃ f, fin = .done f ∧ R s' ∧ leftWithCleanup s'.gens = false) (fun _ _ _ => False) default s := h _ default caller_in
  obtain ⟨m, s₃, σ, p', leaf, hm, hfo, hl⟩ := wp_reaches h2
  have hs := (schedN_eq_runN (denote table) prog w s _ hreg ⟨hc, hne⟩ m).trans (congrArg Run.lift hm)
  rcases hl with ⟨a, rfl, f, rfl, hR3, _⟩ | ⟨e, _, hf⟩
  · exact ⟨m, σ, _, s₃, hs, rfl, hfo, hR3, runN_life_running hm⟩
  · exact hf.elim
end Mine
-- Hd
namespace Mine
open PySem PySem.Calls PyProof.Rows PySem.W
set_option maxRecDepth 100000
/-- all but the globals and the code's table stand -/
def Kp (Pl : Addr) (h h' : Heap) : Prop := ∀ b o, b ≠ Pl → b ≠ mainGlobals → h.get? b = some o → h'.get? b = some o
theorem Kp.trans {Pl : Addr} {a b c : Heap} (x : Kp Pl a b) (y : Kp Pl b c) : Kp Pl a c := fun p o n m e => y p o n m (x p o n m e)
theorem Keeps.kp {Pl : Addr} {a b : Heap} (x : Keeps a b) : Kp Pl a b := fun p o _ _ e => x p o e
def trip : List (Int × Int × Value) → List Value
  | [] => []
  | (a, b, c) :: r => rawInt a :: rawInt b :: c :: trip r
theorem trip_append : ∀ (l r : List (Int × Int × Value)), trip (l ++ r) = trip l ++ trip r
  | [], _ => rfl
  | (a, b, c) :: l, r => by simp [trip, trip_append l r]
theorem among_none {pos : Pos} : ∀ {l : List (Int × Int × Value)}, (∀ t ∈ l, t.1 ≠ (pos.line : Int)) → codeAmong pos (trip l) = none
  | [], _ => rfl
  | (a, b, c) :: l, h => by
    have h1 := h (a, b, c) List.mem_cons_self
    have h2 : (a == (pos.line : Int)) = false := by simpa using h1
    show (if (a == (pos.line : Int) && b == (pos.col : Int)) = true then some c else codeAmong pos (trip l)) = none
    rw [h2, Bool.false_and, if_neg (by decide)]
    exact among_none fun t ht => h t (List.mem_cons_of_mem _ ht)
/-- the state of the text's top between two statements -/
structure TS (P : Params) (mg : Str → Option Value) (c Pl : Addr) (lines : List Nat) (h : Heap) : Prop where
  main : ∃ ps l, h.Main mg c Pl ps ∧ ps.toList = trip l ∧ ∀ t ∈ l, ∃ n ∈ lines, t.1 = (n : Int)
  old : ∀ b o, b ≠ mainGlobals → (boot_heap P).get? b = some o → h.get? b = some o
  fresh : 11 ≤ c ∧ 11 ≤ Pl ∧ 11 ≤ h.objs.size
/-- a def's object -/
structure DefObj (Pl : Addr) (h : Heap) (a : Addr) (x : Str) (params : Arguments) (body : List Stmt) (scope : Scope) : Prop where
  ne : a ≠ Pl ∧ a ≠ mainGlobals
  obj : ∃ o pm c doc, h.get? a = some o ∧ o.data = .func (docDef x params body scope pm (.ref c) doc) ∧ c ≠ Pl ∧ c ≠ mainGlobals ∧ h.CodeRec (.ref c) x
theorem DefObj.kp {Pl : Addr} {h h' : Heap} {a : Addr} {x : Str} {params : Arguments} {body : List Stmt} {scope : Scope} (D : DefObj Pl h a x params body scope) (k : Kp Pl h h') : DefObj Pl h' a x params body scope :=
  ⟨D.ne, let ⟨o, pm, c, doc, e, d, n1, n2, r⟩ := D.obj; ⟨o, pm, c, doc, k a o D.ne.1 D.ne.2 e, d, n1, n2, r.at fun o e => k c o n1 n2 e⟩⟩
section
variable {P : Params} {w : World} {A : Around} {E : Value → Shared → Prop} {s : Shared} {Q : Flow → Shared → Prop} {mg : Str → Option Value} {c Pl F : Addr} {lines : List Nat}
abbrev pw : Program := PySem.Challenge.pw_wa0046_01
abbrev envM (c F : Addr) : Env := mainEnv pw c F
theorem TS.lt {h : Heap} (T : TS P mg c Pl lines h) : Pl < h.objs.size ∧ mainGlobals < h.objs.size := by
  obtain ⟨ps, l, m, _⟩ := T.main
  refine ⟨?_, m.g.lt⟩
  obtain ⟨o, vs, file, tf, flags, tg, inF, text, tt, op, a, r1, r2, r3, r4, r5, r6, b, r⟩ := m.code
  exact Heap.lt_size b
theorem boot_size (P : Params) : (boot_heap P).objs.size = 11 := by kernel_rfl
def fnPos : Stmt → Pos
  | .FunctionDef _ _ _ _ _ _ _ _ _ p => p
  | .Assign _ _ p => p
  | _ => ⟨0, 0, 0, 0⟩
theorem top_def (i : Nat) (x : Str) (hst : stmt i = .FunctionDef x (fnParams (stmt i)) (fnBody (stmt i)) [] none [] (fnScope (stmt i)) none x (fnPos (stmt i)))
    (hexec : PlainDefTree x (fnParams (stmt i)) (fnBody (stmt i)) (fnScope (stmt i)) (fnPos (stmt i))) (hfree : ((fnScope (stmt i)).names.all fun y => y.2 != NameKind.free) = true) (hdoc : docOf (fnBody (stmt i)) = none) (hloc : pw.main.scope.names.lookup x = some .local)
    (hq : qualnameIn { scope := pw.main.scope, locals := mainGlobals, globals := mainGlobals, cells := [] } x x = x) (hnb : x ≠ "__builtins__") (hline : (lines.all fun n => n != (fnPos (stmt i)).line) = true)
    (T : TS P mg c Pl lines s.heap)
    (k : ∀ a h' tk, TS P (fun y => if y = x then some (.ref a) else mg y) c Pl ((fnPos (stmt i)).line :: lines) h' → Kp Pl s.heap h' → DefObj Pl h' a x (fnParams (stmt i)) (fnBody (stmt i)) (fnScope (stmt i)) → Q .next { s with heap := h', toks := tk }) :
    wpAny (model pw w) A (exec (stmt i) (envM c F)) Q E s := by
  obtain ⟨ps, l, m, hps, hl⟩ := T.main
  have hlt := T.lt
  have hnf : codeAmong (fnPos (stmt i)) ps.toList = none := by
    rw [hps]
    refine among_none fun t ht e => ?_
    obtain ⟨n, hn, en⟩ := hl t ht
    have := List.all_eq_true.mp hline n hn
    have h2 : n ≠ (fnPos (stmt i)).line := by simpa using this
    exact h2 (by rw [en] at e; exact Int.ofNat.inj e)
  rw [hst]
  refine wpAny_plainDefN hexec (fun y hy e => ?_) hdoc hloc hq m (fun a c' h' tk ha m' ho hc' hP' kp => ?_) hnb rfl hnf
  · have := List.all_eq_true.mp hfree y hy
    rw [e] at this; cases this
  · refine k a h' tk ⟨⟨_, l ++ [(((fnPos (stmt i)).line : Int), ((fnPos (stmt i)).col : Int), Value.ref c')], m', ?_, fun t ht => ?_⟩, fun b o nb e => ?_, T.fresh.1, T.fresh.2.1, ?_⟩ kp ⟨⟨?_, ?_⟩, _, _, c', .none, ho, rfl, ?_, ?_, hc'.2⟩
    · rw [trip_append, Array.toList_append, hps]; rfl
    · rcases List.mem_append.mp ht with q | q
      · obtain ⟨n, hn, e⟩ := hl t q
        exact ⟨n, List.mem_cons_of_mem _ hn, e⟩
      · rw [List.mem_singleton.mp q]; exact ⟨_, List.mem_cons_self, rfl⟩
    · have := Heap.lt_size e
      rw [boot_size] at this
      exact kp b o (Nat.ne_of_lt (Nat.lt_of_lt_of_le this T.fresh.2.1)) nb (T.old b o nb e)
    · have := Heap.lt_size ho
      have h1 := T.fresh.2.2
      exact Nat.le_of_lt (Nat.lt_of_le_of_lt (Nat.le_trans h1 ha) this)
    · exact Nat.ne_of_gt (Nat.lt_of_lt_of_le hlt.1 ha)
    · exact Nat.ne_of_gt (Nat.lt_of_lt_of_le hlt.2 ha)
    · exact Nat.ne_of_gt (Nat.lt_of_lt_of_le hlt.1 hc'.1)
    · exact Nat.ne_of_gt (Nat.lt_of_lt_of_le hlt.2 hc'.1)
/-- a name of the text's top takes a value -/
theorem top_assign {x : Str} {e : Expr} {p' pos : Pos} (hloc : pw.main.scope.names.lookup x = some .local) (hnb : x ≠ "__builtins__") (hs : swapsWith e (some (.Name x p')) pos.line (envM c F) = pure false) (T : TS P mg c Pl lines s.heap)
    (h : wpAny (model pw w) A (eval e (envM c F)) (fun v s₁ => Keeps s.heap s₁.heap ∧ s₁ = { s with heap := s₁.heap, toks := s₁.toks } ∧
      ∀ h' tk, TS P (fun y => if y = x then some v else mg y) c Pl lines h' → (∀ b o, b ≠ mainGlobals → s₁.heap.get? b = some o → h'.get? b = some o) → Q .next { s with heap := h', toks := tk }) E s) :
    wpAny (model pw w) A (exec (.Assign [.Name x p'] e pos) (envM c F)) Q E s := by
  refine wpAny_Assign_Name (wpAny_mono h (fun v s₁ ⟨kp, he, k⟩ => ?_) fun _ _ x => x) hs
  obtain ⟨ps, l, m, hps, hl⟩ := T.main
  have hlt := T.lt
  have m1 : s₁.heap.Main mg c Pl ps := ⟨m.g.keeps kp, m.code.keeps kp, m.low, by
    obtain ⟨bm, o, a1, a2, a3, a4, a5, a6⟩ := m.bmod
    exact ⟨bm, o, a1, a2, a3, a4, kp _ _ a5, a6⟩⟩
  refine wpAny_storeName_local (env := envM c F) hloc m1.g (fun h' hn sb => ?_) (by show (pw.main.scope.kind == .class || (pw.main.scope.kind == .module && mainGlobals != mainGlobals)) = false; rfl)
  have sb : Heap.SameBut mainGlobals s₁.heap h' := sb
  have kb : ∀ b o, b ≠ mainGlobals → s₁.heap.get? b = some o → h'.get? b = some o := fun b o nb e => by rw [sb.2 b nb]; exact e
  rw [he]
  refine k h' _ ⟨⟨ps, l, ⟨hn, ?_, m.low, ?_⟩, hps, hl⟩, fun b o nb e => kb b o nb (kp b o (T.old b o nb e)), T.fresh.1, T.fresh.2.1, ?_⟩ kb
  · exact m1.code.sameBut sb (Nat.ne_of_gt m.low.1) (Nat.ne_of_gt m.low.2)
  · obtain ⟨bm, o, a1, a2, a3, a4, a5, a6⟩ := m1.bmod
    exact ⟨bm, o, by simp only [Ne.symm hnb, if_false]; exact a1, a2, a3, a4, kb _ _ a3 a5, a6⟩
  · rw [sb.1]
    obtain ⟨o, vs, file, tf, flags, tg, inF, text, tt, op, a, r1, r2, r3, r4, r5, r6, b, r⟩ := m1.code
    exact Nat.le_trans T.fresh.2.1 (Nat.le_of_lt (Heap.lt_size b))
end
end Mine
-- Hda
namespace Mine
open PySem PySem.Calls PyProof.Rows PySem.W
set_option maxRecDepth 100000
/-- the entries of a dict of ints to strs -/
inductive Ents : List DictEntry → List (Int × Str) → Prop where
  | nil : Ents [] []
  | cons {k : Int} {x : Str} {t u : Tok} {es cs} : Ents es cs → Ents (⟨hashInt k, .int k t, .str x u⟩ :: es) ((k, x) :: cs)
theorem Ents.append {es es' : List DictEntry} {cs cs' : List (Int × Str)} (h : Ents es cs) (h' : Ents es' cs') : Ents (es ++ es') (cs ++ cs') := by
  induction h with
  | nil => exact h'
  | cons _ ih => exact .cons ih
theorem Ents.len {es : List DictEntry} {cs : List (Int × Str)} (h : Ents es cs) : es.length = cs.length := by
  induction h with
  | nil => rfl
  | cons _ ih => rw [List.length_cons, List.length_cons, ih]
theorem Ents.keys {es : List DictEntry} {cs : List (Int × Str)} (h : Ents es cs) : ∀ e ∈ es, ∃ k t, e.key = .int k t ∧ e.hash = hashInt k := by
  induction h with
  | nil => intro e he; cases he
  | cons _ ih => intro e he; rcases List.mem_cons.mp he with rfl | m
                 · exact ⟨_, _, rfl, rfl⟩
                 · exact ih e m
theorem Ents.mem {es : List DictEntry} {cs : List (Int × Str)} (h : Ents es cs) : ∀ e ∈ es, ∃ k t, e.key = .int k t ∧ e.hash = hashInt k ∧ k ∈ cs.map (·.1) := by
  induction h with
  | nil => intro e he; cases he
  | cons _ ih =>
    intro e he
    rcases List.mem_cons.mp he with rfl | m
    · exact ⟨_, _, rfl, rfl, List.mem_cons_self⟩
    · obtain ⟨k, t, a, b, c⟩ := ih e m
      exact ⟨k, t, a, b, List.mem_cons_of_mem _ c⟩
theorem Ents.find_none {es : List DictEntry} {cs : List (Int × Str)} (h : Ents es cs) {k : Int} (hk : k ∉ cs.map (·.1)) : (es.toArray.findIdx? fun e => Value.isInt k e.key) = none := by
  rw [Array.findIdx?_eq_none_iff]
  intro e he
  obtain ⟨k', t, a, _, c⟩ := h.mem e (List.mem_toArray.mp he)
  rw [a]
  show (k' == k) = false
  rw [beq_eq_false_iff_ne]
  rintro rfl
  exact hk c
abbrev DObj (es : List DictEntry) (ep : Nat) : Obj := { cls := .type "dict", data := .dict es.toArray ep }
/-- a dict of ints to strs -/
def DI (h : Heap) (d : Addr) (cs : List (Int × Str)) : Prop := ∃ es ep, h.get? d = some (DObj es ep) ∧ Ents es cs
theorem DI.keeps {h h' : Heap} {d : Addr} {cs : List (Int × Str)} (x : DI h d cs) (k : ∀ o, h.get? d = some o → h'.get? d = some o) : DI h' d cs := let ⟨es, ep, e, r⟩ := x; ⟨es, ep, k _ e, r⟩
section
variable {prog : Program} {w : World} {A : Around} {E : Value → Shared → Prop} {s : Shared} {d : Addr} {cs : List (Int × Str)} {k : Int} {x : Str} {t u : Tok} {Q : Unit → Shared → Prop}
theorem push_at {es : List DictEntry} {ep : Nat} (ho : s.heap.get? d = some (DObj es ep)) (r : Ents es cs) (part : Option Value) (hz : es.length ≤ 100000)
    (hQ : ∀ h', DI h' d (cs ++ [(k, x)]) → Heap.SameBut d s.heap h' → Q () { s with heap := h' }) : wpAny (model prog w) A (updateDictKeys d (·.push ⟨hashInt k, .int k t, .str x u⟩) part) Q E s := by
  refine wpAny_updateDictKeys (hz := by rw [List.size_toArray]; unfold sizeLine; omega) ho rfl (hQ _ ⟨es ++ [⟨hashInt k, .int k t, .str x u⟩], ep + 1, ?_, r.append (.cons .nil)⟩ (Heap.SameBut.update ..))
  have e' : Obj.mapDictKeys (·.push ⟨hashInt k, .int k t, .str x u⟩) (DObj es ep) = DObj (es ++ [⟨hashInt k, .int k t, .str x u⟩]) (ep + 1) := by
    show ({ cls := .type "dict", data := .dict (es.toArray.push _) (ep + 1) } : Obj) = _
    unfold DObj
    rw [List.push_toArray]
  rw [Heap.get?_update_self _ ho (by rw [e']; rfl), e']
theorem put_fresh (D : DI s.heap d cs) (hk : k ∉ cs.map (·.1)) (hz : cs.length ≤ 100000) (hQ : ∀ h', DI h' d (cs ++ [(k, x)]) → Heap.SameBut d s.heap h' → Q () { s with heap := h' }) :
    wpAny (model prog w) A (dictPut d (hashInt k) (.int k t) (.str x u)) Q E s := by
  obtain ⟨es, ep, ho, r⟩ := D
  unfold dictPut
  refine wpAny_bind (wpAny_dictFind_int ho rfl (fun e he => let ⟨k, t, a, b, _⟩ := r.mem e (List.mem_toArray.mp he); ⟨k, t, a, b⟩) ?_)
  rw [r.find_none hk]
  exact push_at ho r _ (by rw [r.len]; exact hz) hQ
theorem set_fresh (D : DI s.heap d cs) (hk : k ∉ cs.map (·.1)) (hz : cs.length ≤ 100000) (hQ : ∀ h' tk, DI h' d (cs ++ [(k, x)]) → Heap.SameBut d s.heap h' → Q () { s with heap := h', toks := tk }) :
    wpAny (model prog w) A (dictSet d (.int k t) (.str x u)) Q E s := by
  obtain ⟨es, ep, ho, r⟩ := D
  unfold dictSet
  refine wpAny_holding (wpAny_bind (wpAny_pyHash_int ?_))
  unfold dictSetHashed
  refine wpAny_holding (wpAny_bind (wpAny_dictFind_int (s := { s with toks := s.toks + 1 }) ho rfl (fun e he => let ⟨k, t, a, b, _⟩ := r.mem e (List.mem_toArray.mp he); ⟨k, t, a, b⟩) ?_))
  rw [r.find_none hk]
  exact wpAny_bind (wpAny_rule (push_at (s := { s with toks := s.toks + 1 }) ho r _ (by rw [r.len]; exact hz) fun h' a b => hQ h' _ a b))
end
/-- trees of constants -/
structure ConP (p : Sem Value × Sem Value) (c : Int × Str) : Prop where
  key : ∀ (prog : Program) (w : World) (A : Around) (s : Shared) (Q : Value → Shared → Prop) (E : Value → Shared → Prop), (∀ t tk, Q (.int c.1 t) { s with toks := tk }) → wpAny (model prog w) A p.1 Q E s
  val : ∀ (prog : Program) (w : World) (A : Around) (s : Shared) (Q : Value → Shared → Prop) (E : Value → Shared → Prop), (∀ t tk, Q (.str c.2 t) { s with toks := tk }) → wpAny (model prog w) A p.2 Q E s
inductive ConPs : List (Sem Value × Sem Value) → List (Int × Str) → Prop where
  | nil : ConPs [] []
  | cons {p c ps cs} : ConP p c → ConPs ps cs → ConPs (p :: ps) (c :: cs)
theorem ConPs.append {ps ps' : List (Sem Value × Sem Value)} {cs cs' : List (Int × Str)} (h : ConPs ps cs) (h' : ConPs ps' cs') : ConPs (ps ++ ps') (cs ++ cs') := by
  induction h with
  | nil => exact h'
  | cons a _ ih => exact .cons a ih
theorem ConPs.len {ps : List (Sem Value × Sem Value)} {cs : List (Int × Str)} (h : ConPs ps cs) : ps.length = cs.length := by
  induction h with
  | nil => rfl
  | cons _ _ ih => rw [List.length_cons, List.length_cons, ih]
inductive Vals : List (Value × Value) → List (Int × Str) → Prop where
  | nil : Vals [] []
  | cons {k : Int} {x : Str} {t u : Tok} {vs cs} : Vals vs cs → Vals ((.int k t, .str x u) :: vs) ((k, x) :: cs)
section
variable {prog : Program} {w : World} {A : Around} {E : Value → Shared → Prop}
theorem evalPairs_con : ∀ {ps : List (Sem Value × Sem Value)} {cs : List (Int × Str)}, ConPs ps cs → ∀ {s : Shared} {Q : List (Value × Value) → Shared → Prop}, (∀ vs tk, Vals vs cs → Q vs { s with toks := tk }) → wpAny (model prog w) A (evalPairs ps) Q E s
  | _, _, .nil, s, Q, h => wpAny_pure (h [] s.toks .nil)
  | _, _, .cons a r, s, Q, h => by
    refine wpAny_bind (a.key prog w A _ _ _ fun t tk => wpAny_bind (wpAny_holding (a.val prog w A _ _ _ fun u tk2 => wpAny_bind (wpAny_holding (evalPairs_con r fun vs tk3 hv => wpAny_pure (h _ tk3 (.cons hv)))))))
/-- the keys rise -/
def Rises : List (Int × Str) → Prop := fun cs => (cs.map (·.1)).Pairwise (· < ·)
theorem Rises.fresh {a b : List (Int × Str)} {k : Int} {x : Str} (h : Rises (a ++ (k, x) :: b)) : k ∉ a.map (·.1) := by
  unfold Rises at h
  rw [List.map_append, List.map_cons, List.pairwise_append] at h
  intro m
  exact absurd (h.2.2 k m k List.mem_cons_self) (Int.lt_irrefl _)
theorem storeAll_con {d : Addr} : ∀ {vs : List (Value × Value)} {cs : List (Int × Str)}, Vals vs cs → ∀ (acc : List (Int × Str)) {s : Shared} {Q : PUnit → Shared → Prop}, DI s.heap d acc → Rises (acc ++ cs) → (acc ++ cs).length ≤ 100000 →
    (∀ h' tk, DI h' d (acc ++ cs) → Heap.SameBut d s.heap h' → Q PUnit.unit { s with heap := h', toks := tk }) →
    wpAny (model prog w) A (forIn vs PUnit.unit fun (x : Value × Value) (_ : PUnit) => (do dictSet d x.1 x.2; pure (ForInStep.yield PUnit.unit) : Sem (ForInStep PUnit))) Q E s
  | _, _, .nil, acc, s, Q, D, _, _, h => by
    rw [List.forIn_nil]
    exact wpAny_pure (h s.heap s.toks (by rw [List.append_nil]; exact D) (Heap.SameBut.refl _ _))
  | _, _, .cons r, acc, s, Q, D, hr, hz, h => by
    rw [List.forIn_cons]
    rw [List.length_append, List.length_cons] at hz
    refine wpAny_bind (wpAny_bind (set_fresh D hr.fresh (by omega) fun h1 tk1 D1 s1 => wpAny_pure (storeAll_con r _ D1 (by rw [List.append_assoc]; exact hr) (by rw [List.append_assoc, List.length_append]; exact hz) fun h' tk D' s' => ?_)))
    rw [List.append_assoc] at D'
    exact h h' tk D' (s1.trans s')
end
end Mine
-- Hdb
namespace Mine
open PySem PySem.Calls PyProof.Rows PySem.W
set_option maxRecDepth 100000
section
variable {prog : Program} {w : World} {A : Around} {E : Value → Shared → Prop}
theorem longAll_con {d : Addr} : ∀ {ps : List (Sem Value × Sem Value)} {cs : List (Int × Str)}, ConPs ps cs → ∀ (acc : List (Int × Str)) {s : Shared} {Q : PUnit → Shared → Prop}, DI s.heap d acc → Rises (acc ++ cs) → (acc ++ cs).length ≤ 100000 →
    (∀ h' tk, DI h' d (acc ++ cs) → Heap.SameBut d s.heap h' → Q PUnit.unit { s with heap := h', toks := tk }) →
    wpAny (model prog w) A (forIn ps PUnit.unit fun (x : Sem Value × Sem Value) (_ : PUnit) => (do let kv ← x.1; let vv ← holding [kv] x.2; holding [kv, vv] (dictSet d kv vv); pure (ForInStep.yield PUnit.unit) : Sem (ForInStep PUnit))) Q E s
  | _, _, .nil, acc, s, Q, D, _, _, h => by
    rw [List.forIn_nil]
    exact wpAny_pure (h s.heap s.toks (by rw [List.append_nil]; exact D) (Heap.SameBut.refl _ _))
  | _, _, .cons a r, acc, s, Q, D, hr, hz, h => by
    rw [List.forIn_cons]
    rw [List.length_append, List.length_cons] at hz
    refine wpAny_bind (wpAny_bind (a.key prog w A _ _ _ fun t tk => wpAny_bind (wpAny_holding (a.val prog w A _ _ _ fun u tk2 => wpAny_bind (wpAny_holding ?_)))))
    refine set_fresh (s := { s with toks := tk2 }) D hr.fresh (by omega) fun h1 tk1 D1 s1 => wpAny_pure (longAll_con r _ D1 (by rw [List.append_assoc]; exact hr) (by rw [List.append_assoc, List.length_append]; exact hz) fun h' tk D' s' => ?_)
    rw [List.append_assoc] at D'
    exact h h' tk D' (Heap.SameBut.trans s1 s')
theorem subDict_con {ps : List (Sem Value × Sem Value)} {cs : List (Int × Str)} {s : Shared} {Q : Addr → Shared → Prop} (h : ConPs ps cs) (hr : Rises cs) (hz : cs.length ≤ 100000)
    (k : ∀ h' tk, DI h' s.heap.objs.size cs → Keeps s.heap h' → Q s.heap.objs.size { s with heap := h', toks := tk }) : wpAny (model prog w) A (subDict ps) Q E s := by
  have D0 : DI (s.heap.push (DObj [] 0)) s.heap.objs.size [] := ⟨[], 0, Heap.get?_push_size _ rfl, .nil⟩
  have keep : ∀ h', Heap.SameBut s.heap.objs.size (s.heap.push (DObj [] 0)) h' → Keeps s.heap h' := fun h' sb b o e => by
    rw [sb.2 b (Nat.ne_of_lt (Heap.lt_size e))]; exact Heap.get?_push_of_some _ e
  unfold subDict
  refine wpAny_bind (wpAny_alloc ?_)
  refine wpAny_bind (wpAny_holding ?_)
  by_cases hl : ps.length ≤ 15
  · rw [if_pos hl]
    refine wpAny_bind (evalPairs_con h fun vs tk hv => wpAny_holding (wpAny_bind ?_))
    refine storeAll_con hv [] D0 hr hz fun h' tk' D' sb => wpAny_pure (wpAny_pure (k h' tk' D' (keep h' sb)))
  · rw [if_neg hl]
    refine wpAny_bind (wpAny_rule (wpAny_bind ?_))
    refine longAll_con h [] D0 hr hz fun h' tk' D' sb => wpAny_pure (wpAny_pure (k h' tk' D' (keep h' sb)))
theorem Ents.at {es : List DictEntry} {cs : List (Int × Str)} (h : Ents es cs) : ∀ i, i < es.length → ∃ k x t u, es[i]? = some ⟨hashInt k, .int k t, .str x u⟩ ∧ cs[i]? = some (k, x) := by
  induction h with
  | nil => intro i hi; exact absurd hi (Nat.not_lt_zero _)
  | cons _ ih =>
    intro i hi
    cases i with
    | zero => exact ⟨_, _, _, _, rfl, rfl⟩
    | succ i => exact ih i (Nat.lt_of_succ_lt_succ hi)
theorem mergeLoop {d a : Addr} {es : List DictEntry} {ep : Nat} {c1 c2 : List (Int × Str)} (hne : a ≠ d) (f : Nat → PUnit → Sem (ForInStep PUnit))
    (hf : ∀ (i : Nat) (s : Shared) (Q : ForInStep PUnit → Shared → Prop), i < es.length → s.heap.get? a = some (DObj es ep) → DI s.heap d (c1 ++ c2.take i) →
      (∀ h', DI h' d (c1 ++ c2.take (i + 1)) → Heap.SameBut d s.heap h' → Q (.yield PUnit.unit) { s with heap := h' }) → wpAny (model prog w) A (f i PUnit.unit) Q E s) :
    ∀ (n i : Nat) {s : Shared} {Q : PUnit → Shared → Prop}, i + n = es.length → s.heap.get? a = some (DObj es ep) → DI s.heap d (c1 ++ c2.take i) →
      (∀ h', DI h' d (c1 ++ c2.take es.length) → Heap.SameBut d s.heap h' → Q PUnit.unit { s with heap := h' }) → wpAny (model prog w) A (forIn (List.range' i n) PUnit.unit f) Q E s
  | 0, i, s, Q, hi, ho, D, k => by
    rw [show List.range' i 0 = [] from rfl, List.forIn_nil]
    have : i = es.length := by omega
    exact wpAny_pure (k s.heap (this ▸ D) (Heap.SameBut.refl _ _))
  | n + 1, i, s, Q, hi, ho, D, k => by
    rw [List.range'_succ, List.forIn_cons]
    refine wpAny_bind (hf i s _ (by omega) ho D fun h' D' sb => ?_)
    exact mergeLoop hne f hf n (i + 1) (by omega) (by rw [sb.2 a hne]; exact ho) D' fun h'' D'' sb' => k h'' D'' (sb.trans sb')
theorem merge_con {d a : Addr} {c1 c2 : List (Int × Str)} {s : Shared} {Q : Unit → Shared → Prop} (D1 : DI s.heap d c1) (D2 : DI s.heap a c2) (hne : a ≠ d) (hsys : (a == sysModules) = false) (h0 : c1 ≠ []) (hr : Rises (c1 ++ c2)) (hz : (c1 ++ c2).length ≤ 100000)
    (k : ∀ h', DI h' d (c1 ++ c2) → Heap.SameBut d s.heap h' → Q () { s with heap := h' }) : wpAny (model prog w) A (mergeMapping d (.ref a) false) Q E s := by
  obtain ⟨es, ep, ho, hE⟩ := D2
  obtain ⟨es1, ep1, ho1, hE1⟩ := id D1
  have hT : s.TypeIs (.ref a) "dict" := ⟨_, ho, rfl⟩
  have hlen := hE.len
  unfold mergeMapping
  refine wpAny_bind (wpAny_bind (wpAny_typeOf hT (wpAny_of_eq isSubtype_dict_dict ?_)))
  refine wpAny_bind (wpAny_specialOf hT PySem.F.slot_dict_iter.lookup (wpAny_bind (wpAny_pure ?_)))
  rw [show (some (Value.builtin "dict.__iter__") == some (Value.builtin "dict.__iter__")) = true from by simp]
  dsimp only
  rw [hsys]
  refine wpAny_ite ?_
  rw [if_neg (by decide)]
  refine wpAny_bind (wpAny_dictEntries ho1 rfl ?_)
  have he : es1.toArray.isEmpty = false := by
    cases es1 with
    | nil => cases hE1; exact absurd rfl h0
    | cons _ _ => rfl
  rw [he, if_neg (by decide)]
  refine wpAny_bind (wpAny_dictEntries ho rfl ?_)
  refine wpAny_bind (wpAny_dictEpoch ho rfl ?_)
  rw [List.size_toArray, List.range_eq_range']
  refine wpAny_bind (mergeLoop (es := es) (ep := ep) (c1 := c1) (c2 := c2) hne _ (fun i s Q hi ho D k => ?_) es.length 0 (by omega) ho (by rw [List.take_zero, List.append_nil]; exact D1) fun h' D' sb => wpAny_pure (k h' (by rw [hlen, List.take_length] at D'; exact D') sb))
  obtain ⟨kk, x, t, u, e1, e2⟩ := hE.at i hi
  refine wpAny_bind (wpAny_dictEntries ho rfl ?_)
  rw [List.getElem?_toArray, e1]
  dsimp only
  have e3 : c2.take (i + 1) = c2.take i ++ [(kk, x)] := by rw [List.take_add_one, e2]; rfl
  have e4 : c1 ++ c2 = (c1 ++ c2.take i) ++ (kk, x) :: c2.drop (i + 1) := by
    rw [List.append_assoc]
    congr 1
    conv => lhs; rw [← List.take_append_drop i c2]
    congr 1
    have h2 : i < c2.length := by omega
    rw [List.drop_eq_getElem_cons h2]
    congr 1
    rw [List.getElem?_eq_getElem h2] at e2
    exact Option.some.inj e2
  refine wpAny_bind (wpAny_holding ?_)
  rw [if_neg (by decide)]
  refine put_fresh D (Rises.fresh (e4 ▸ hr)) (by rw [e4] at hz; rw [List.length_append] at hz; omega) fun h' D' sb => ?_
  refine wpAny_bind (wpAny_dictEpoch (by rw [sb.2 a hne]; exact ho) rfl ?_)
  rw [show (ep != ep) = false from by simp, if_neg (by decide)]
  refine wpAny_pure (k h' ?_ sb)
  rw [e3, ← List.append_assoc]; exact D'
end
end Mine
-- Hdc
namespace Mine
open PySem PySem.Calls PyProof.Rows PySem.W
set_option maxRecDepth 100000
/-- the objects below base stand -/
def Old (base : Nat) (h h' : Heap) : Prop := ∀ b o, b < base → h.get? b = some o → h'.get? b = some o
theorem Old.trans {base : Nat} {a b c : Heap} (x : Old base a b) (y : Old base b c) : Old base a c := fun p o n e => y p o n (x p o n e)
theorem Keeps.old {base : Nat} {a b : Heap} (x : Keeps a b) : Old base a b := fun p o _ e => x p o e
theorem Same.old {base : Nat} {a b : Heap} {d : Addr} (x : Heap.SameBut d a b) (h : base ≤ d) : Old base a b := fun p o n e => by rw [x.2 p (Nat.ne_of_lt (Nat.lt_of_lt_of_le n h))]; exact e
/-- where a display stands -/
def MainIs (base : Nat) (h : Heap) (done : List (Int × Str)) : Option Addr → Prop
  | none => done = []
  | some d => base ≤ d ∧ DI h d done ∧ done ≠ []
section
variable {prog : Program} {w : World} {A : Around} {E : Value → Shared → Prop}
theorem flush_con {base : Nat} (hb : 11 ≤ base) {ps : List (Sem Value × Sem Value)} {done cur : List (Int × Str)} {main : Option Addr} {s : Shared} {Q : Addr → Shared → Prop} (hs : base ≤ s.heap.objs.size) (h : ConPs ps cur) (hc : cur ≠ []) (hr : Rises (done ++ cur)) (hz : (done ++ cur).length ≤ 100000) (M : MainIs base s.heap done main)
    (rel : Value → Sem Unit) (k : ∀ d h' tk, base ≤ d → DI h' d (done ++ cur) → Old base s.heap h' → Q d { s with heap := h', toks := tk }) :
    wpAny (model prog w) A (match main with | none => (do return some (← subDict ps) : Sem (Option Addr)) | some d => (do let sub ← holding [.ref d] (subDict ps); (holding [.ref d, .ref sub] (mergeMapping d (.ref sub) false)).onRaise (fun x => do let _ ← holding [.ref d, x] (runValue (.builtin "proto.let_go" {}))); return some d))
      (fun r s' => ∃ d, r = some d ∧ Q d s') E s := by
  cases main with
  | none =>
    have hd : done = [] := M
    subst hd
    refine wpAny_bind (subDict_con h hr hz fun h' tk D kp => wpAny_pure ⟨_, rfl, k _ h' tk hs D kp.old⟩)
  | some d =>
    obtain ⟨m1, m2, m3⟩ := M
    have hr2 : Rises cur := by
      unfold Rises at hr ⊢
      rw [List.map_append, List.pairwise_append] at hr
      exact hr.2.1
    rw [List.length_append] at hz
    refine wpAny_bind (wpAny_holding (subDict_con h hr2 (by omega) fun h' tk D kp => ?_))
    obtain ⟨es, ep, e, _⟩ := id m2
    have hlt : d < s.heap.objs.size := Heap.lt_size e
    refine wpAny_bind (wpAny_onRaise (wpAny_holding ?_))
    refine merge_con (s := { s with heap := h', toks := tk }) (m2.keeps fun o e => kp _ _ e) D (Nat.ne_of_gt hlt) ?_ m3 hr (by rw [List.length_append]; omega) fun h'' D'' sb => wpAny_pure ⟨d, rfl, k d h'' tk m1 D'' (kp.old.trans (Same.old sb m1))⟩
    rw [beq_eq_false_iff_ne]
    intro q
    have : sysModules < s.heap.objs.size := Nat.lt_of_lt_of_le (by decide) (Nat.le_trans hb hs)
    rw [q] at this
    exact Nat.lt_irrefl _ this
theorem gather_con {base : Nat} (hb : 11 ≤ base) (fl : List (Sem Value × Sem Value) → Option Addr → Sem (Option Addr)) (f : (Option (Sem Value) × Sem Value) → (Option Addr × List (Sem Value × Sem Value)) → Sem (ForInStep (Option Addr × List (Sem Value × Sem Value))))
    (hf : ∀ (p : Sem Value × Sem Value) run main, run.length + 1 < 17 → f (some p.1, p.2) (main, run) = pure (.yield (main, run ++ [p])))
    (hf17 : ∀ (p : Sem Value × Sem Value) run main, run.length + 1 = 17 → f (some p.1, p.2) (main, run) = (do let m ← fl (run ++ [p]) main; pure (.yield (m, []))))
    (hfl : ∀ (ps : List (Sem Value × Sem Value)) (done cur : List (Int × Str)) (main : Option Addr) (s : Shared) (Q : Addr → Shared → Prop), base ≤ s.heap.objs.size → ConPs ps cur → cur ≠ [] → Rises (done ++ cur) → (done ++ cur).length ≤ 100000 → MainIs base s.heap done main →
      (∀ d h' tk, base ≤ d → DI h' d (done ++ cur) → Old base s.heap h' → Q d { s with heap := h', toks := tk }) → wpAny (model prog w) A (fl ps main) (fun r s' => ∃ d, r = some d ∧ Q d s') E s) :
    ∀ (items : List (Sem Value × Sem Value)) (run : List (Sem Value × Sem Value)) (done cur rest : List (Int × Str)) (main : Option Addr) (s : Shared) (Q : Option Addr × List (Sem Value × Sem Value) → Shared → Prop), base ≤ s.heap.objs.size → run.length < 17 → ConPs run cur → ConPs items rest →
      Rises (done ++ cur ++ rest) → (done ++ cur ++ rest).length ≤ 100000 → MainIs base s.heap done main →
      (∀ main' run' done' cur' h' tk, base ≤ h'.objs.size → ConPs run' cur' → MainIs base h' done' main' → done' ++ cur' = done ++ cur ++ rest → Old base s.heap h' → Q (main', run') { s with heap := h', toks := tk }) →
      wpAny (model prog w) A (forIn (items.map fun p => (some p.1, p.2)) (main, run) f) Q E s
  | [], run, done, cur, rest, main, s, Q, hs, hl, hrun, hit, hr, hz, M, k => by
    cases hit
    rw [List.map_nil, List.forIn_nil]
    exact wpAny_pure (k main run done cur s.heap s.toks hs hrun M (by rw [List.append_nil]) fun _ _ _ e => e)
  | p :: items, run, done, cur, _, main, s, Q, hs, hl, hrun, .cons (c := c) (cs := rest) hp hit, hr, hz, M, k => by
    rw [List.map_cons, List.forIn_cons]
    have e1 : done ++ cur ++ c :: rest = done ++ (cur ++ [c]) ++ rest := by simp
    by_cases h17 : run.length + 1 < 17
    · rw [hf p run main h17]
      refine wpAny_bind (wpAny_pure ?_)
      refine gather_con hb fl f hf hf17 hfl items (run ++ [p]) done (cur ++ [c]) rest main s Q hs (by rw [List.length_append]; exact h17) (hrun.append (.cons hp .nil)) hit (e1 ▸ hr) (e1 ▸ hz) M fun main' run' done' cur' h' tk a b d e g => k main' run' done' cur' h' tk a b d (e.trans e1.symm) g
    · rw [hf17 p run main (by omega)]
      have hr' := e1 ▸ hr
      have hz' := e1 ▸ hz
      refine wpAny_bind (wpAny_bind (wpAny_mono (hfl (run ++ [p]) done (cur ++ [c]) main s (fun d s' => wpAny (model prog w) A (pure (ForInStep.yield (some d, []))) (fun r s'' => wpAny (model prog w) A (match r with | .done b => pure b | .yield b => forIn (items.map fun p => (some p.1, p.2)) b f) Q E s'') E s') hs (hrun.append (.cons hp .nil)) (by simp) ?_ ?_ M ?_) (fun r s' ⟨d, e, h⟩ => by subst e; exact h) fun _ _ e => e))
      · unfold Rises at hr' ⊢
        rw [List.map_append, List.pairwise_append] at hr'
        exact hr'.1
      · rw [List.length_append] at hz'; omega
      · intro d h' tk hbd D o
        refine wpAny_pure ?_
        obtain ⟨es, ep, ed, _⟩ := id D
        have hs' : base ≤ h'.objs.size := Nat.le_of_lt (Nat.lt_of_le_of_lt hbd (Heap.lt_size ed))
        refine gather_con hb fl f hf hf17 hfl items [] (done ++ (cur ++ [c])) [] rest (some d) { s with heap := h', toks := tk } Q hs' (by decide) .nil hit (by rw [List.append_nil]; exact hr') (by rw [List.append_nil]; exact hz') ⟨hbd, D, by simp⟩ fun main' run' done' cur' h'' tk' a b d' e g => ?_
        exact k main' run' done' cur' h'' tk' a b d' (by rw [e, List.append_nil, e1]) (o.trans g)
end
end Mine
-- Hdd
namespace Mine
open PySem PySem.Calls PyProof.Rows PySem.W
set_option maxRecDepth 100000
section
variable {prog : Program} {w : World} {A : Around} {E : Value → Shared → Prop}
theorem display_con {ps : List (Sem Value × Sem Value)} {cs : List (Int × Str)} {s : Shared} {Q : Value → Shared → Prop} (hb : 11 ≤ s.heap.objs.size) (h : ConPs ps cs) (h0 : cs ≠ []) (hr : Rises cs) (hz : cs.length ≤ 100000)
    (k : ∀ d h' tk, s.heap.objs.size ≤ d → DI h' d cs → Keeps s.heap h' → Q (.ref d) { s with heap := h', toks := tk }) : wpAny (model prog w) A (dictDisplay (ps.map fun p => (some p.1, p.2))) Q E s := by
  have old : ∀ h', Old s.heap.objs.size s.heap h' → Keeps s.heap h' := fun h' o b ob e => o b ob (Heap.lt_size e) e
  unfold dictDisplay
  dsimp only
  refine wpAny_bind (gather_con hb (fun ps main => match main with | none => (do return some (← subDict ps) : Sem (Option Addr)) | some d => (do let sub ← holding [.ref d] (subDict ps); (holding [.ref d, .ref sub] (mergeMapping d (.ref sub) false)).onRaise (fun x => do let _ ← holding [.ref d, x] (runValue (.builtin "proto.let_go" {}))); return some d)) _ (fun p run main hl => ?_) (fun p run main hl => ?_) (fun ps done cur main s' Q hs hp hc hr hz M k => ?_) ps [] [] [] cs none s _ (Nat.le_refl _) (by decide) .nil h hr hz rfl fun main' run' done' cur' h' tk hs hrun M e o => ?_)
  · have hne : ((run ++ [(p.1, p.2)]).length == 17) = false := by simp; omega
    simp only [hne, Bool.false_eq_true, if_false]
  · have he : ((run ++ [(p.1, p.2)]).length == 17) = true := by simp; omega
    have hn : (run ++ [(p.1, p.2)]).isEmpty = false := by simp
    simp only [he, if_true, hn, Bool.false_eq_true, if_false]
    rfl
  · exact flush_con hb hs hp hc hr hz M (fun _ => pure ()) k
  · rw [List.nil_append, List.nil_append] at e
    cases run' with
    | nil =>
      cases hrun
      rw [List.append_nil] at e
      subst e
      refine wpAny_bind (wpAny_pure ?_)
      cases main' with
      | none => exact absurd M h0
      | some d => exact wpAny_pure (k d h' tk M.1 M.2.1 (old h' o))
    | cons p run' =>
      have hc : cur' ≠ [] := by cases hrun; simp
      have e2 : (done' ++ cur') = cs := e
      refine wpAny_bind (wpAny_mono (flush_con (Q := fun d s' => wpAny (model prog w) A (pure (Value.ref d)) Q E s') hb hs hrun hc (e2 ▸ hr) (e2 ▸ hz) M (fun _ => pure ()) fun d h'' tk' a b c => wpAny_pure (k d h'' tk' a (e2 ▸ b) (old h'' (o.trans c)))) (fun r s' ⟨d, er, hq⟩ => by subst er; exact hq) fun _ _ x => x)
end
end Mine
-- Hde
namespace Mine
open PySem PySem.Calls PyProof.Rows PySem.W
set_option maxRecDepth 100000
def getL (cs : List (Int × Str)) (k : Int) : Option Str := (cs.find? fun c => c.1 == k).map (·.2)
theorem Ents.look {es : List DictEntry} {cs : List (Int × Str)} (h : Ents es cs) (k : Int) : (getL cs k = none ∧ findBy Value.isInt es.toArray k = none) ∨ ∃ x t, getL cs k = some x ∧ findBy Value.isInt es.toArray k = some (.str x t) := by
  unfold findBy getL
  rw [List.find?_toArray]
  induction h with
  | nil => exact .inl ⟨rfl, rfl⟩
  | @cons k' x t u es cs _ ih =>
    rw [List.find?_cons, List.find?_cons]
    have e : Value.isInt k (.int k' t) = (k' == k) := rfl
    cases hk : (k' == k) with
    | true =>
      refine .inr ⟨x, u, ?_, ?_⟩
      · simp [hk]
      · simp [e, hk]
    | false =>
      simp only [hk, e]
      exact ih
section
variable {prog : Program} {w : World}
theorem DI.at {hb : Heap} {a : Addr} {cs : List (Int × Str)} (D : DI hb a cs) (hsys : (a == sysModules) = false) : DictAt prog w hb a (getL cs) := by
  obtain ⟨es, ep, ho, r⟩ := D
  have map : ∀ h, Keeps hb h → h.MapOf (intKind prog w) a (fun k => findBy (intKind prog w).is es.toArray k) := fun h kp => ⟨_, es.toArray, ep, kp _ _ ho, ⟨rfl, rfl, rfl⟩, rfl, fun e he => by
    obtain ⟨k, t, e1, e2, _⟩ := r.mem e (List.mem_toArray.mp he)
    refine ⟨k, ?_, e2⟩
    rw [e1]
    show (k == k) = true
    simp, fun k => rfl⟩
  refine ⟨⟨_, ho, rfl, rfl⟩, fun A s Q E n k t R kp h => ?_, fun A s Q E n k t d R kp h => ?_⟩
  · refine call_meetsIn PySem.F.slot_dict_get ⟨_, kp _ _ ho, rfl⟩ PySem.F.entry_dict_get (PySem.F.args_dict_get_2 _ _) (meets_dict_get (intKind prog w) a (intKind_is prog w k t) hsys) ⟨_, map _ kp, ?_⟩
    rcases r.look k with ⟨e1, e2⟩ | ⟨x, u, e1, e2⟩
    · rw [show findBy (intKind prog w).is es.toArray k = none from e2]
      exact h _ _ (by rw [e1]; rfl)
    · rw [show findBy (intKind prog w).is es.toArray k = some (.str x u) from e2]
      exact h _ _ (by rw [e1]; exact ⟨u, rfl⟩)
  · refine call_meetsIn PySem.F.slot_dict_get ⟨_, kp _ _ ho, rfl⟩ PySem.F.entry_dict_get (PySem.F.args_dict_get_3 _ _ _) (meets_dict_get_default (intKind prog w) a (intKind_is prog w k t) hsys d) ⟨_, map _ kp, ?_⟩
    rcases r.look k with ⟨e1, e2⟩ | ⟨x, u, e1, e2⟩
    · rw [show findBy (intKind prog w).is es.toArray k = none from e2]
      exact h _ _ (by rw [e1]; rfl)
    · rw [show findBy (intKind prog w).is es.toArray k = some (.str x u) from e2]
      exact h _ _ (by rw [e1]; exact ⟨u, rfl⟩)
end
def cpairs : List (Option Expr) → List Expr → Option (List (Int × Str))
  | [], [] => some []
  | some (.Constant (.int i) _ _) :: ks, .Constant (.str x) _ _ :: vs => (cpairs ks vs).map ((i, x) :: ·)
  | _, _ => none
theorem cpairs_con {env : Env} {pos : Pos} : ∀ {ks : List (Option Expr)} {vs : List Expr} {cs : List (Int × Str)}, cpairs ks vs = some cs →
    ∃ ps, (evalEachOpt ks env).zip ((evalEach vs env).map fun v => do let x ← v; standAt pos; pure x) = ps.map (fun p => (some p.1, p.2)) ∧ ConPs ps cs := by
  intro ks vs
  fun_induction cpairs ks vs with
  | case1 => intro cs h; cases h; exact ⟨[], rfl, .nil⟩
  | case2 i kd p ks x kd' p' vs ih =>
    intro cs h
    obtain ⟨cs', h', rfl⟩ := Option.map_eq_some_iff.mp h
    obtain ⟨ps, e, r⟩ := ih h'
    refine ⟨(eval (.Constant (.int i) kd p) env, (do let x ← eval (.Constant (.str x) kd' p') env; standAt pos; pure x)) :: ps, ?_, .cons ⟨fun prog w A s Q E k => by
      show wpAny _ _ (eval (.Constant (.int i) kd p) env) _ _ _
      exact wpAny_Constant_int (k _ _), fun prog w A s Q E k => by
      show wpAny _ _ (do let x ← eval (.Constant (.str x) kd' p') env; standAt pos; pure x) _ _ _
      exact wpAny_bind (wpAny_Constant_str (wpAny_bind (wpAny_standAt (wpAny_pure (k _ _)))))⟩ r⟩
    rw [List.map_cons, ← e]
    rfl
  | case3 => intro cs h; cases h
def risesB : List (Int × Str) → Bool
  | (a, _) :: (b, y) :: r => decide (a < b) && risesB ((b, y) :: r)
  | _ => true
theorem rises_of : ∀ {cs : List (Int × Str)}, risesB cs = true → Rises cs
  | [], _ => List.Pairwise.nil
  | [_], _ => List.pairwise_singleton _ _
  | (a, x) :: (b, y) :: r, h => by
    have h' : (decide (a < b) && risesB ((b, y) :: r)) = true := h
    rw [Bool.and_eq_true, decide_eq_true_eq] at h'
    have ih := rises_of h'.2
    unfold Rises at ih ⊢
    rw [List.map_cons, List.pairwise_cons]
    refine ⟨fun k hk => ?_, ih⟩
    rw [List.map_cons] at ih hk
    rcases List.mem_cons.mp hk with rfl | m
    · exact h'.1
    · exact Int.lt_trans h'.1 ((List.pairwise_cons.mp ih).1 k m)
def dictL : Stmt → List (Int × Str)
  | .Assign _ (.Dict ks vs _) _ => (cpairs ks vs).getD []
  | _ => []
def dictOk : Stmt → Bool
  | .Assign [.Name _ _] (.Dict ks vs _) _ => (cpairs ks vs).isSome && risesB ((cpairs ks vs).getD []) && !((cpairs ks vs).getD []).isEmpty && decide (((cpairs ks vs).getD []).length ≤ 100000)
  | _ => false
theorem dict1 : dictOk (stmt 1) = true := by decide +kernel
theorem dict6 : dictOk (stmt 6) = true := by decide +kernel
end Mine
-- Hs
namespace Mine
open PySem PySem.Calls PyProof.Rows PySem.W
set_option maxRecDepth 100000
section
variable {prog : Program} {w : World} {A : Around} {E : Value → Shared → Prop} {s : Shared}
theorem upL_at (a : Int) (n i : Nat) (v : Value) (h : ∃ t, v = Value.int (a + i * 1) t) : ∃ t, v = .int ((fun i : Nat => a + i) i) t := by
  obtain ⟨t, e⟩ := h
  exact ⟨t, by rw [e, Int.mul_one]⟩
set_option maxHeartbeats 3200000 in
/-- set of a range -/
theorem set_range {r : Addr} {a : Int} {n : Nat} {t u v : Tok} {Q : Value → Shared → Prop} (hh : A.handled = none) (hr : IsRange s.heap r a (a + n) 1 t u v) (hsm : Builtin.Range.small a (a + n) 1 = true) (hsz : Builtin.Range.rangeSize a (a + n) 1 = n) (hb : n + 1 < scanBound)
    (h : ∀ (h' : Heap) (tk : Nat), h'.SetOf (intKind prog w) s.heap.objs.size (fun k => (firstMet (fun i : Nat => a + i) n).any (· == k)) (firstMet (fun i : Nat => a + i) n).length → Keeps s.heap h' → Q (.ref s.heap.objs.size) { s with heap := h', toks := tk }) :
    wpAny (model prog w) A (call (.type "set") [.ref r]) Q E s := by
  obtain ⟨c, tl, hmro⟩ := F.called_set.mro
  have hmade := F.called_set.made
  have hsub := F.called_set.sub
  refine wpAny_call (codeAny_of_tree ?_)
  show wpAny _ _ (callAny (.type "set") _) _ _ _
  refine wpAny_pure ⟨Code.quiet_builtin _ (by decide +kernel), codeAny_builtin F.entry_type_call ?_⟩
  rw [Around.under_plain (weight_type_call_type "set" [.ref r] []) rfl]
  have h1 := F.called_set.notType
  have h2 := F.called_set.canCreate
  have hct := F.typeCall_set_1 (.ref r)
  repeat (any_goals (first | assumption | wp_step))
  refine codeAny_mono (code_set_new_1 (.ref r) (E := E) (Q₁ := fun obj s₁ => ∃ led : Bool, obj = .ref s.heap.objs.size ∧ s₁ = { s with heap := s.heap.push { cls := .type "set", dict := none, data := .set #[] 0 (.fresh 0 0 led) } }) fun led => ⟨led, rfl, rfl⟩) fun res s₁ hres => ?_
  cases res with
  | error e => exact hres
  | ok fl =>
    cases fl with
    | ret obj =>
      obtain ⟨led, rfl, rfl⟩ := hres
      have hS : (s.heap.push { cls := .type "set", dict := none, data := .set #[] 0 (.fresh 0 0 led) }).get? s.heap.objs.size = some { cls := .type "set", dict := none, data := .set #[] 0 (.fresh 0 0 led) } := Heap.get?_push_size _ rfl
      have hT : Shared.TypeIs { s with heap := s.heap.push { cls := .type "set", dict := none, data := .set #[] 0 (.fresh 0 0 led) } } (.ref s.heap.objs.size) "set" := ⟨_, hS, rfl⟩
      have hr1 : IsRange (s.heap.push { cls := .type "set", dict := none, data := .set #[] 0 (.fresh 0 0 led) }) r a (a + n) 1 t u v := Heap.get?_push_of_some _ hr
      have hTr : Shared.TypeIs { s with heap := s.heap.push { cls := .type "set", dict := none, data := .set #[] 0 (.fresh 0 0 led) } } (.ref r) "range" := ⟨_, hr1, rfl⟩
      have hli := F.called_set.init.lookup
      have hbi := F.called_set.init.bind (.ref s.heap.objs.size)
      repeat (any_goals (first | assumption | wp_step))
      refine codeAny_mono (codeAny_call_builtin (R := wants (fun x s₂ => x = .none ∧ ∃ h' tk, s₂ = { s with heap := h', toks := tk } ∧
          h'.SetOf (intKind prog w) s.heap.objs.size (fun k => (firstMet (fun i : Nat => a + i) n).any (· == k)) (firstMet (fun i : Nat => a + i) n).length ∧ Keeps s.heap h') E) F.called_set.init.plain F.entry_set_init (check_set_init_1 hT ?_)) fun r₂ s₂ hr₂ => ?_
      · have hsls := F.sub_range_set
        have hslf := F.sub_range_frozenset
        have hne : (Value.type "range" == Value.type "dict") = false := by decide
        unfold Builtin.«set.__init__» noKeywords Builtin.Frozenset.updateFrom
        generalize hPI : pyIter = PI
        wp_walk
        subst hPI
        refine wpAny_pyIter_range (a := a) (b := a + n) (c := 1) (t := t) (u := u) (v := v) ?_ hsm ?_
        · exact hr1
        rw [hsz]
        refine wpAny_bind (wpAny_runValue ?_)
        have hh3 : A.in1.in1.in1.handled = none := by simp [hh]
        have hSf : s.heap.objs.size ∉ [(s.heap.push { cls := .type "set", dict := none, data := .set #[] 0 (.fresh 0 0 led) }).objs.size] := by
          rw [Heap.size_push, List.mem_singleton]
          exact Nat.ne_of_lt (Nat.lt_succ_self _)
        refine codeAny_set_update_loopS ((Walks.range hh3 (s.heap.push { cls := .type "set", dict := none, data := .set #[] 0 (.fresh 0 0 led) }).objs.size a 1 n).toS) s.heap.objs.size hSf (fun i : Nat => a + i) (fun i v hv => upL_at a n i v hv) hb (n - 0) 0 _ (by omega) (Nat.zero_le _) ?hI ?hS0 ?hR
        case hI =>
          have e1 : a + ((0 : Nat) : Int) * 1 = a := by omega
          have e2 : (n : Int) - ((0 : Nat) : Int) = n := by omega
          show IsRangeIter _ _ _ _ _
          rw [e1, e2]
          exact Heap.get?_push_size _ rfl
        case hS0 =>
          refine SetOf_congr ((setObjOf_fresh (knd := intKind prog w) led).setOf (a := s.heap.objs.size) ?_ (by unfold scanBound; omega)) (fun _ => rfl) rfl
          exact Heap.get?_push_of_some _ hS
        case hR =>
          intro s' hm hS'
          obtain ⟨h', g', d', tk', os'⟩ := s'
          have eg : g' = s.gens := hm.gens
          have ed : d' = s.drawn := hm.drawn
          have eo : os' = s.os := hm.os
          subst eg; subst ed; subst eo
          show wpAny _ _ _ _ _ _
          refine wpAny_pure ?_
          show wpAny _ _ (PySem.ret Value.none) _ _ _
          refine wpAny_pure ⟨rfl, h', tk', rfl, hS', fun b o e => ?_⟩
          have hlt := Heap.lt_size e
          have hb1 : b ≠ s.heap.objs.size := Nat.ne_of_lt hlt
          have hb2 : b ≠ (s.heap.push { cls := .type "set", dict := none, data := .set #[] 0 (.fresh 0 0 led) }).objs.size := by
            rw [Heap.size_push]; exact Nat.ne_of_lt (Nat.lt_succ_of_lt hlt)
          exact hm.heap b o (by simp only [List.mem_cons, List.mem_singleton, List.not_mem_nil, or_false, not_or]; exact ⟨hb1, hb2⟩) (Heap.get?_push_of_some _ (Heap.get?_push_of_some _ e))
      · cases r₂ with
        | error e => exact hr₂
        | ok fl₂ =>
          cases fl₂ with
          | ret x =>
            obtain ⟨rfl, h', tk, rfl, hS', hk'⟩ := hr₂
            repeat (any_goals (first | assumption | wp_step))
            exact h _ _ hS' hk'
          | _ => exact hr₂.elim
    | _ => exact hres.elim
end
end Mine
-- Ht
namespace Mine
open PySem PySem.Calls PyProof.Rows PySem.W
set_option maxRecDepth 100000
theorem TS.keeps {P : Params} {mg : Str → Option Value} {c Pl : Addr} {lines : List Nat} {h h' : Heap} (T : TS P mg c Pl lines h) (k : Keeps h h') : TS P mg c Pl lines h' := by
  obtain ⟨ps, l, m, r⟩ := T.main
  have hl := T.lt
  refine ⟨⟨ps, l, ⟨m.g.keeps k, m.code.keeps k, m.low, ?_⟩, r⟩, fun b o nb e => k _ _ (T.old b o nb e), T.fresh.1, T.fresh.2.1, ?_⟩
  · obtain ⟨bm, o, a1, a2, a3, a4, a5, a6⟩ := m.bmod
    exact ⟨bm, o, a1, a2, a3, a4, k _ _ a5, a6⟩
  · obtain ⟨o, vs, file, tf, flags, tg, inF, text, tt, op, a, r1, r2, r3, r4, r5, r6, b, r⟩ := m.code
    exact Nat.le_trans T.fresh.2.1 (Nat.le_of_lt (Heap.lt_size (k _ _ b)))
noncomputable abbrev mbP (P : Params) : Str → Option Value := (boot_heap P).nsMap builtinsNs
theorem boot_b (P : Params) : (boot_heap P).isNs builtinsNs = true := by kernel_rfl
theorem TS.b {P : Params} {mg : Str → Option Value} {c Pl : Addr} {lines : List Nat} {h : Heap} (T : TS P mg c Pl lines h) : h.Ns builtinsNs (mbP P) := by
  obtain ⟨o, es, ep, e, r⟩ := Heap.Ns.of_isNs (boot_b P)
  exact ⟨o, es, ep, T.old _ o (by decide) e, r⟩
theorem TS.g {P : Params} {mg : Str → Option Value} {c Pl : Addr} {lines : List Nat} {h : Heap} (T : TS P mg c Pl lines h) : h.Ns mainGlobals mg := by
  obtain ⟨ps, l, m, r⟩ := T.main
  exact m.g
/-- an expression of the text's top -/
structure Em (P : Params) (w : World) (mg : Str → Option Value) (e : Expr) (Φ : Heap → Value → Prop) : Prop where
  run : ∀ (A : Around) (s : Shared) (Q : Value → Shared → Prop) (E : Value → Shared → Prop) (c Pl F : Addr) (lines : List Nat), A.handled = none → TS P mg c Pl lines s.heap → (∀ v h' tk, Keeps s.heap h' → Φ h' v → Q v { s with heap := h', toks := tk }) →
    wpAny (model pw w) A (eval e (envM c F)) Q E s
def IntL (ns : List Int) (h : Heap) (v : Value) : Prop := ∃ l vs n, v = .ref l ∧ h.get? l = some (LObj vs n) ∧ IntsAre vs ns
def RngL (a n : Nat) (h : Heap) (v : Value) : Prop := ∃ r t u x, v = .ref r ∧ IsRange h r (a : Int) ((a : Int) + (n : Int)) 1 t u x
def SetV (w : World) (ns : List Int) (h : Heap) (v : Value) : Prop := ∃ a n, v = .ref a ∧ 11 ≤ a ∧ h.SetOf (intKind pw w) a (inL ns) n
def DctV (cs : List (Int × Str)) (h : Heap) (v : Value) : Prop := ∃ a, v = .ref a ∧ 11 ≤ a ∧ DI h a cs
section
variable {P : Params} {w : World} {mg : Str → Option Value}
theorem topName {A : Around} {E : Value → Shared → Prop} {s : Shared} {Q : Value → Shared → Prop} {c Pl F : Addr} {lines : List Nat} {x : Str} {v : Value} {p : Pos} (T : TS P mg c Pl lines s.heap) (h1 : mg x = none) (h2 : mbP P x = some v) (hd : (x == ("__debug__" : Str)) = false) (h : Q v s) : wpAny (model pw w) A (eval (.Name x p) (envM c F)) Q E s :=
  Name_module (env := envM c F) rfl rfl (loadGlobal_builtin T.g h1 T.b h2 h) hd
theorem Em.range {x : Str} {p p1 p2 pos : Pos} {k1 k2 : Nat} {a n : Nat} {b : Int} (hx : x = "range") (h1 : mg x = none) (h2 : mbP P x = some (.type "range")) (hb : b = (a : Int) + (n : Int)) : Em P w mg (.Call (.Name x p) [.Constant (.int (a : Int)) k1 p1, .Constant (.int b) k2 p2] [] pos) (RngL a n) := .mk <| fun A s Q E c Pl F lines hh T k => by
  subst hx hb
  refine wpAny_bind (m := eval (.Name _ p) (envM c F)) (topName T h1 h2 (by decide) ?_)
  refine PyProof.Rows.callWith_type1 (spliced_more (wpAny_Constant_int (spliced_more (wpAny_Constant_int (spliced_none ?_)) rfl)) rfl) rfl rfl
  refine call_range_2 ?_
  exact k _ _ _ (Keeps.push _ _) ⟨_, _, _, _, rfl, IsRange.new _ _ _ _ _ _ _⟩
theorem small_of {a n : Nat} (ha : a < 2000000) (hn : n < 2000000) : Builtin.Range.small (a : Int) ((a : Int) + (n : Int)) 1 = true ∧ Builtin.Range.rangeSize (a : Int) ((a : Int) + (n : Int)) 1 = n := by
  have hsz : Builtin.Range.rangeSize (a : Int) ((a : Int) + (n : Int)) 1 = (n : Int) := by
    unfold Builtin.Range.rangeSize
    rw [if_pos (show (1 : Int) > 0 by decide)]
    split <;> omega
  refine ⟨?_, hsz⟩
  have fit : ∀ z : Int, 0 ≤ z → z < 10000000 → Builtin.Range.rangeFitsLong z = true := fun z h1 h2 => by
    unfold Builtin.Range.rangeFitsLong
    have a1 : -(2 ^ 63) ≤ z := by omega
    have a2 : z < 2 ^ 63 := by omega
    rw [decide_eq_true a1, decide_eq_true a2]; rfl
  unfold Builtin.Range.small
  rw [hsz, fit a (by omega) (by omega), fit (a + n) (by omega) (by omega), fit 1 (by omega) (by omega), if_pos (show (1 : Int) > 0 by decide), fit ((a : Int) + (n : Int) + (1 - 1)) (by omega) (by omega), Bool.or_true]
  simp only [Bool.and_self, Bool.true_and, Bool.and_true]
  exact fit (n : Int) (by omega) (by omega)
theorem ints_seq : ∀ (l : List Value) (b : Int), (∀ j v, l[j]? = some v → ∃ t, v = Value.int (b + (j : Nat)) t) → IntsAre l ((List.range l.length).map fun j : Nat => b + (j : Nat))
  | [], _, _ => .nil
  | v :: l, b, h => by
    obtain ⟨t, e⟩ := h 0 v rfl
    subst e
    rw [List.length_cons, List.range_succ_eq_map, List.map_cons, List.map_map]
    refine .cons _ t ?_
    have ih := ints_seq l (b + 1) fun j v hv => by
      obtain ⟨t, e⟩ := h (j + 1) v hv
      exact ⟨t, by rw [e]; congr 1; omega⟩
    have ee : ((List.range l.length).map fun j : Nat => b + 1 + (j : Nat)) = (List.range l.length).map ((fun j : Nat => b + (j : Nat)) ∘ Nat.succ) := List.map_congr_left fun j _ => by
      show b + 1 + (j : Int) = b + ((j + 1 : Nat) : Int)
      omega
    rw [← ee]; exact ih
theorem items_ints {acc : Array Value} {a n : Nat} (h : ItemsOf (fun i v => ∃ t, v = Value.int ((a : Int) + (i : Nat) * 1) t) acc n) : IntsAre acc.toList (upL a n) := by
  obtain ⟨h1, h2⟩ := h
  have := ints_seq acc.toList a fun j v hv => by
    obtain ⟨t, e⟩ := h2 j v (by rw [← Array.getElem?_toList]; exact hv)
    exact ⟨t, by rw [e, Int.mul_one]⟩
  rw [Array.length_toList, h1] at this
  have ee : ((List.range n).map fun j : Nat => (a : Int) + (j : Nat)) = upL a n := List.map_congr_left fun j _ => by
    show (a : Int) + (j : Int) = ((a + j : Nat) : Int)
    omega
  rw [ee] at this
  exact this
theorem Em.list {x : Str} {p pos : Pos} {e : Expr} {a n : Nat} (hx : x = "list") (h1 : mg x = none) (h2 : mbP P x = some (.type "list")) (he : Em P w mg e (RngL a n)) (hp : plainArg e = true) (ha : a < 2000000) (hn : n < 2000000) : Em P w mg (.Call (.Name x p) [e] [] pos) (IntL (upL a n)) := .mk <| fun A s Q E c Pl F lines hh T k => by
  subst hx
  refine wpAny_bind (m := eval (.Name _ p) (envM c F)) (topName T h1 h2 (by decide) ?_)
  refine PyProof.Rows.callWith_type1 (spliced_more (he.run A s _ E c Pl F lines hh T fun v h' tk kp r => spliced_none ?_) (starEach_plain hp)) (starEach_plain hp) rfl
  obtain ⟨r, t, u, y, rfl, hr⟩ := r
  obtain ⟨s1, s2⟩ := small_of ha hn
  refine call_list_range (s := { s with heap := h', toks := tk }) hh hr s1 s2 (by omega) fun h'' tk' acc c' kp2 hL hI => ?_
  refine k _ h'' tk' (kp.trans kp2) ⟨_, acc.toList, c', rfl, ?_, items_ints hI⟩
  rw [hL]
/-- constants -/
def consts : List Expr → Option (List Int)
  | [] => some []
  | .Constant (.int i) _ _ :: r => (consts r).map (i :: ·)
  | _ => none
theorem spliced_consts {A : Around} {E : Value → Shared → Prop} {env : Env} {pos : Pos} : ∀ {es : List Expr} {ns : List Int}, consts es = some ns → ∀ {s : Shared} {Q : List Value → Shared → Prop}, (∀ vs tk, IntsAre vs ns → Q vs { s with toks := tk }) →
    wpAny (model pw w) A (spliced (backTo pos (starEach es env))) Q E s := by
  intro es
  fun_induction consts es with
  | case1 => intro ns h s Q k; cases h; exact spliced_none (k [] s.toks .nil)
  | case2 i kd p r ih =>
    intro ns h s Q k
    obtain ⟨ns', h', rfl⟩ := Option.map_eq_some_iff.mp h
    exact spliced_more (wpAny_Constant_int (ih h' fun vs tk hv => k _ tk (.cons _ _ hv))) rfl
  | case3 => intro ns h; cases h
theorem Em.lst {es : List Expr} {pos : Pos} {ns : List Int} (hc : consts es = some ns) (hz : ns.length ≤ 100000) : Em P w mg (.List es pos) (IntL ns) := .mk <| fun A s Q E c Pl F lines hh T k => by
  rw [show eval (.List es pos) (envM c F) = (do standAt pos; newList (← spliced (backTo pos (starEach es (envM c F))))) from rfl]
  refine wpAny_bind (wpAny_standAt (wpAny_bind (spliced_consts hc fun vs tk hv => wpAny_newObj_type (k _ _ tk (Keeps.push _ _) ⟨_, vs, 0, rfl, Heap.get?_push_size _ rfl, hv⟩) ?_)))
  show vs.toArray.size ≤ sizeLine
  rw [List.size_toArray, IntsAre.length hv]; unfold sizeLine; omega
theorem ints_app {vs ws : List Value} {ns ms : List Int} (h : IntsAre vs ns) (h' : IntsAre ws ms) : IntsAre (vs ++ ws) (ns ++ ms) := by
  induction h with
  | nil => exact h'
  | cons n t _ ih => exact .cons n t ih
theorem Em.add {e1 e2 : Expr} {pos : Pos} {ns ms : List Int} (h1 : Em P w mg e1 (IntL ns)) (h2 : Em P w mg e2 (IntL ms)) (hz : ns.length + ms.length ≤ 100000) : Em P w mg (.BinOp e1 .Add e2 pos) (IntL (ns ++ ms)) := .mk <| fun A s Q E c Pl F lines hh T k => by
  refine wpAny_BinOp (h1.run A s _ E c Pl F lines hh T fun v h' tk k1 r1 => h2.run A _ _ E c Pl F lines hh (T.keeps k1) fun u h'' tk' k2 r2 => ?_)
  obtain ⟨l, vs, n, rfl, hl, i1⟩ := r1
  obtain ⟨l2, ws, n2, rfl, hl2, i2⟩ := r2
  refine PySem.P.add_list (s := { s with heap := h'', toks := tk' }) (items := vs.toArray) (items2 := ws.toArray) (n := n) (n2 := n2) (k2 _ _ hl) hl2 ?_ (by rw [List.size_toArray, List.size_toArray, IntsAre.length i1, IntsAre.length i2]; unfold sizeLine; omega)
  refine k _ _ tk' ((k1.trans k2).trans (Keeps.push _ _)) ⟨_, vs ++ ws, 0, rfl, ?_, ints_app i1 i2⟩
  rw [Heap.get?_push_size _ rfl]
  simp
theorem first_any (ns : List Int) (k : Int) : (firstMet (fun i => ns.getD i 0) ns.length).any (· == k) = inL ns k := by
  rw [firstMet_any]
  unfold inL
  congr 1
  refine List.ext_getElem (by simp) fun i h1 h2 => ?_
  simp at h1
  simp [List.getD_eq_getElem?_getD, h1]
theorem Em.setL {x : Str} {p pos : Pos} {e : Expr} {ns : List Int} (hx : x = "set") (h1 : mg x = none) (h2 : mbP P x = some (.type "set")) (he : Em P w mg e (IntL ns)) (hp : plainArg e = true) (hz : ns.length ≤ 1000) : Em P w mg (.Call (.Name x p) [e] [] pos) (SetV w ns) := .mk <| fun A s Q E c Pl F lines hh T k => by
  subst hx
  refine wpAny_bind (m := eval (.Name _ p) (envM c F)) (topName T h1 h2 (by decide) ?_)
  refine PyProof.Rows.callWith_type1 (spliced_more (he.run A s _ E c Pl F lines hh T fun v h' tk kp r => spliced_none ?_) (starEach_plain hp)) (starEach_plain hp) rfl
  obtain ⟨l, vs, n, rfl, hl, hi⟩ := r
  have hv := IntsAre.length hi
  refine PySem.call_set_list (s := { s with heap := h', toks := tk }) (items := vs.toArray) (ns := ns) hh ⟨_, hl, rfl, _, rfl⟩ hi (by rw [List.size_toArray, hv]; unfold scanBound; omega) fun h'' tk' hS kb => ?_
  have k2 : Keeps h' h'' := fun b o e => kb b o (Heap.lt_size e) e
  have hsz : vs.toArray.size = ns.length := by rw [List.size_toArray, hv]
  simp only [hsz] at hS
  exact k _ h'' tk' (kp.trans k2) ⟨_, _, rfl, (T.keeps kp).fresh.2.2, SetOf_congr hS (fun k => first_any ns k) rfl⟩
theorem Em.setR {x : Str} {p pos : Pos} {e : Expr} {a n : Nat} (hx : x = "set") (h1 : mg x = none) (h2 : mbP P x = some (.type "set")) (he : Em P w mg e (RngL a n)) (hp : plainArg e = true) (ha : a < 2000000) (hn : n < 1000) : Em P w mg (.Call (.Name x p) [e] [] pos) (SetV w (upL a n)) := .mk <| fun A s Q E c Pl F lines hh T k => by
  subst hx
  refine wpAny_bind (m := eval (.Name _ p) (envM c F)) (topName T h1 h2 (by decide) ?_)
  refine PyProof.Rows.callWith_type1 (spliced_more (he.run A s _ E c Pl F lines hh T fun v h' tk kp r => spliced_none ?_) (starEach_plain hp)) (starEach_plain hp) rfl
  obtain ⟨r, t, u, y, rfl, hr⟩ := r
  obtain ⟨s1, s2⟩ := small_of ha (show n < 2000000 by omega)
  refine set_range (s := { s with heap := h', toks := tk }) hh hr s1 s2 (by unfold scanBound; omega) fun h'' tk' hS k2 => ?_
  refine k _ h'' tk' (kp.trans k2) ⟨_, _, rfl, (T.keeps kp).fresh.2.2, SetOf_congr hS (fun k => ?_) rfl⟩
  rw [firstMet_any]
  unfold inL upL
  congr 1
theorem Em.dct {ks : List (Option Expr)} {vs : List Expr} {pos : Pos} {cs : List (Int × Str)} (hc : cpairs ks vs = some cs) (h0 : cs ≠ []) (hr : risesB cs = true) (hz : cs.length ≤ 100000) : Em P w mg (.Dict ks vs pos) (DctV cs) := .mk <| fun A s Q E c Pl F lines hh T k => by
  obtain ⟨ps, e, r⟩ := cpairs_con (env := envM c F) (pos := pos) hc
  rw [arm_eval_Dict, e]
  refine wpAny_bind (wpAny_standAt ?_)
  exact display_con T.fresh.2.2 r h0 (rises_of hr) hz fun d h' tk hd D kp => k _ h' tk kp ⟨d, rfl, Nat.le_trans T.fresh.2.2 hd, D⟩
theorem Em.str {x : Str} {kd : Nat} {p : Pos} : Em P w mg (.Constant (.str x) kd p) (fun _ _ => True) := .mk <| fun A s Q E c Pl F lines hh T k => wpAny_Constant_str (k _ s.heap _ (Keeps.refl _) trivial)
end
end Mine
-- Hw
namespace Mine
open PySem PySem.Calls PyProof.Rows PySem.W
set_option maxRecDepth 100000
theorem bb_range (P : Params) : mbP P "range" = some (.type "range") := by kernel_rfl
theorem bb_list (P : Params) : mbP P "list" = some (.type "list") := by kernel_rfl
theorem bb_set (P : Params) : mbP P "set" = some (.type "set") := by kernel_rfl
structure SetP (Pl : Addr) (w : World) (ns : List Int) (h : Heap) (a : Addr) : Prop where
  ne : a ≠ Pl ∧ a ≠ mainGlobals
  set : ∃ n, h.SetOf (intKind pw w) a (inL ns) n
structure DctP (Pl : Addr) (cs : List (Int × Str)) (h : Heap) (a : Addr) : Prop where
  ne : a ≠ Pl ∧ a ≠ mainGlobals ∧ 11 ≤ a
  dct : DI h a cs
theorem SetP.kp {Pl : Addr} {w : World} {ns : List Int} {h h' : Heap} {a : Addr} (S : SetP Pl w ns h a) (k : Kp Pl h h') : SetP Pl w ns h' a :=
  ⟨S.ne, let ⟨n, o, es, ep, t, e, r⟩ := S.set; ⟨n, o, es, ep, t, k a o S.ne.1 S.ne.2 e, r⟩⟩
theorem DctP.kp {Pl : Addr} {cs : List (Int × Str)} {h h' : Heap} {a : Addr} (S : DctP Pl cs h a) (k : Kp Pl h h') : DctP Pl cs h' a :=
  ⟨S.ne, S.dct.keeps fun o e => k a o S.ne.1 S.ne.2.1 e⟩
section
variable {P : Params} {w : World} {A : Around} {E : Value → Shared → Prop} {s : Shared} {Q : Flow → Shared → Prop} {mg : Str → Option Value} {c Pl F : Addr} {lines : List Nat}
theorem TS.table {h : Heap} (T : TS P mg c Pl lines h) : ∃ o ps, h.get? Pl = some o ∧ o.data = .fields ps := by
  obtain ⟨ps, l, m, _⟩ := T.main
  obtain ⟨o, vs, file, tf, flags, tg, inF, text, tt, op, a, r1, r2, r3, r4, r5, r6, b, d, _⟩ := m.code
  exact ⟨op, ps, b, d⟩
def isComp : Expr → Bool
  | .ListComp .. | .SetComp .. | .DictComp .. => true
  | _ => false
theorem swaps_no {e : Expr} {t : Option Expr} {l : Nat} {env : Env} (h : isComp e = false) : swapsWith e t l env = pure false := by
  cases e <;> first | rfl | cases h
theorem top_em {Φ : Heap → Value → Prop} (i : Nat) {x : Str} {e : Expr} {p' pos : Pos} (hst : stmt i = .Assign [.Name x p'] e pos) (hem : Em P w mg e Φ) (hloc : pw.main.scope.names.lookup x = some .local) (hnb : x ≠ "__builtins__")
    (hs : isComp e = false) (T : TS P mg c Pl lines s.heap) (hh : A.handled = none)
    (k : ∀ v h₁ h' tk, Φ h₁ v → TS P mg c Pl lines h₁ → TS P (fun y => if y = x then some v else mg y) c Pl lines h' → Kp Pl s.heap h' → (∀ b o, b ≠ mainGlobals → h₁.get? b = some o → h'.get? b = some o) → Q .next { s with heap := h', toks := tk }) :
    wpAny (model pw w) A (exec (stmt i) (envM c F)) Q E s := by
  rw [hst]
  refine top_assign hloc hnb (swaps_no hs) T (hem.run A s _ E c Pl F lines hh T fun v h' tk kp hΦ => ⟨kp, rfl, fun h'' tk' T' kb => k v h' h'' tk' hΦ (T.keeps kp) T' (fun b o n m e => kb b o m (kp b o e)) kb⟩)
theorem setP_of {ns : List Int} {h₁ h' : Heap} {v : Value} (hv : SetV w ns h₁ v) (T : TS P mg c Pl lines h₁) (kb : ∀ b o, b ≠ mainGlobals → h₁.get? b = some o → h'.get? b = some o) : ∃ a, v = .ref a ∧ SetP Pl w ns h' a := by
  obtain ⟨a, n, rfl, h11, o, es, ep, t, e, hx, hd, r⟩ := hv
  have nm : a ≠ mainGlobals := fun q => by subst q; exact absurd h11 (by decide)
  refine ⟨a, rfl, ⟨fun q => ?_, nm⟩, n, o, es, ep, t, kb a o nm e, hx, hd, r⟩
  subst q
  obtain ⟨o', ps, e', d'⟩ := T.table
  rw [e] at e'; cases e'
  rw [hd] at d'; cases d'
theorem dctP_of {cs : List (Int × Str)} {h₁ h' : Heap} {v : Value} (hv : DctV cs h₁ v) (T : TS P mg c Pl lines h₁) (kb : ∀ b o, b ≠ mainGlobals → h₁.get? b = some o → h'.get? b = some o) : ∃ a, v = .ref a ∧ DctP Pl cs h' a := by
  obtain ⟨a, rfl, h11, D⟩ := hv
  have nm : a ≠ mainGlobals := fun q => by subst q; exact absurd h11 (by decide)
  refine ⟨a, rfl, ⟨fun q => ?_, nm, h11⟩, D.keeps fun o e => kb a o nm e⟩
  subst q
  obtain ⟨o', ps, e', d'⟩ := T.table
  obtain ⟨es, ep, e, _⟩ := D
  rw [e] at e'; cases e'
  cases d'
end
theorem dct_of (i : Nat) {x : Str} {ks : List (Option Expr)} {vs : List Expr} {p p' pos : Pos} (hst : stmt i = .Assign [.Name x p] (.Dict ks vs p') pos) (ok : dictOk (stmt i) = true) : cpairs ks vs = some (dictL (stmt i)) ∧ dictL (stmt i) ≠ [] ∧ risesB (dictL (stmt i)) = true ∧ (dictL (stmt i)).length ≤ 100000 := by
  rw [hst] at ok ⊢
  simp only [dictOk, dictL, Bool.and_eq_true, Bool.not_eq_true', decide_eq_true_eq] at ok ⊢
  obtain ⟨⟨⟨a, b⟩, c⟩, d⟩ := ok
  obtain ⟨cs, e⟩ := Option.isSome_iff_exists.mp a
  rw [e] at b c d ⊢
  exact ⟨rfl, (fun q => by rw [q] at c; cases c), b, d⟩
theorem top_dct {P : Params} {w : World} {A : Around} {E : Value → Shared → Prop} {s : Shared} {Q : Flow → Shared → Prop} {mg : Str → Option Value} {c Pl F : Addr} {lines : List Nat} (i : Nat) {x : Str} (hst : ∃ ks vs p p' pos, stmt i = .Assign [.Name x p] (.Dict ks vs p') pos) (ok : dictOk (stmt i) = true)
    (hloc : pw.main.scope.names.lookup x = some .local) (hnb : x ≠ "__builtins__") (T : TS P mg c Pl lines s.heap) (hh : A.handled = none)
    (k : ∀ a h' tk, TS P (fun y => if y = x then some (.ref a) else mg y) c Pl lines h' → Kp Pl s.heap h' → DctP Pl (dictL (stmt i)) h' a → Q .next { s with heap := h', toks := tk }) : wpAny (model pw w) A (exec (stmt i) (envM c F)) Q E s := by
  obtain ⟨ks, vs, p, p', pos, e⟩ := hst
  obtain ⟨c1, c2, c3, c4⟩ := dct_of i e ok
  refine top_em i e (Em.dct c1 c2 c3 c4) hloc hnb rfl T hh fun v h₁ h' tk hv T₁ T' kp kb => ?_
  obtain ⟨a, rfl, X⟩ := dctP_of hv T₁ kb
  exact k a h' tk T' kp X
/-- the statements that are left -/
structure Wk (w : World) (A : Around) (E : Value → Shared → Prop) (Q : Flow → Shared → Prop) (c F : Addr) (sts : List Stmt) (s : Shared) : Prop where
  run : wpAny (model pw w) A (execs sts (envM c F)) Q E s
section
variable {P : Params} {w : World} {A : Around} {E : Value → Shared → Prop} {s : Shared} {Q : Flow → Shared → Prop} {mg : Str → Option Value} {c Pl F : Addr} {lines : List Nat} {rest : List Stmt} {h₀ : Heap} {t₀ : Nat}
theorem Wk.em {Φ : Heap → Value → Prop} (i : Nat) {x : Str} {e : Expr} {p' pos : Pos} (hst : stmt i = .Assign [.Name x p'] e pos) (hem : Em P w mg e Φ) (hloc : pw.main.scope.names.lookup x = some .local) (hnb : x ≠ "__builtins__")
    (hs : isComp e = false) (T : TS P mg c Pl lines h₀) (hh : A.handled = none)
    (k : ∀ v h₁ h' tk, Φ h₁ v → TS P mg c Pl lines h₁ → TS P (fun y => if y = x then some v else mg y) c Pl lines h' → Kp Pl h₀ h' → (∀ b o, b ≠ mainGlobals → h₁.get? b = some o → h'.get? b = some o) → Wk w A E Q c F rest { s with heap := h', toks := tk }) :
    Wk w A E Q c F (stmt i :: rest) { s with heap := h₀, toks := t₀ } :=
  ⟨wpAny_execs_cons (top_em i hst hem hloc hnb hs T hh fun v h₁ h' tk a b c d e => (k v h₁ h' tk a b c d e).run)⟩
theorem Wk.dct (i : Nat) {x : Str} (hst : ∃ ks vs p p' pos, stmt i = .Assign [.Name x p] (.Dict ks vs p') pos) (ok : dictOk (stmt i) = true)
    (hloc : pw.main.scope.names.lookup x = some .local) (hnb : x ≠ "__builtins__") (T : TS P mg c Pl lines h₀) (hh : A.handled = none)
    (k : ∀ a h' tk, TS P (fun y => if y = x then some (.ref a) else mg y) c Pl lines h' → Kp Pl h₀ h' → DctP Pl (dictL (stmt i)) h' a → Wk w A E Q c F rest { s with heap := h', toks := tk }) : Wk w A E Q c F (stmt i :: rest) { s with heap := h₀, toks := t₀ } :=
  ⟨wpAny_execs_cons (top_dct i hst ok hloc hnb T hh fun a h' tk x y z => (k a h' tk x y z).run)⟩
theorem Wk.def (i : Nat) (x : Str) (hst : stmt i = .FunctionDef x (fnParams (stmt i)) (fnBody (stmt i)) [] none [] (fnScope (stmt i)) none x (fnPos (stmt i)))
    (hexec : PlainDefTree x (fnParams (stmt i)) (fnBody (stmt i)) (fnScope (stmt i)) (fnPos (stmt i))) (hfree : ((fnScope (stmt i)).names.all fun y => y.2 != NameKind.free) = true) (hdoc : docOf (fnBody (stmt i)) = none) (hloc : pw.main.scope.names.lookup x = some .local)
    (hq : qualnameIn { scope := pw.main.scope, locals := mainGlobals, globals := mainGlobals, cells := [] } x x = x) (hnb : x ≠ "__builtins__") (hline : (lines.all fun n => n != (fnPos (stmt i)).line) = true)
    (T : TS P mg c Pl lines h₀)
    (k : ∀ a h' tk, TS P (fun y => if y = x then some (.ref a) else mg y) c Pl ((fnPos (stmt i)).line :: lines) h' → Kp Pl h₀ h' → DefObj Pl h' a x (fnParams (stmt i)) (fnBody (stmt i)) (fnScope (stmt i)) → Wk w A E Q c F rest { s with heap := h', toks := tk }) :
    Wk w A E Q c F (stmt i :: rest) { s with heap := h₀, toks := t₀ } :=
  ⟨wpAny_execs_cons (top_def i x hst hexec hfree hdoc hloc hq hnb hline T fun a h' tk x y z => (k a h' tk x y z).run)⟩
theorem Wk.nil (h : Q .next s) : Wk w A E Q c F [] s := ⟨wpAny_execs_nil h⟩
end
/-- the names that the top binds -/
structure Mg (P : Params) (mg : Str → Option Value) : Prop where
  bound : ∀ x v, mg x = some v → (boot_heap P).nsMap mainGlobals x = some v ∨ x ∈ pw.boundNames
  laid : ∀ x ∈ laidNames, mg x = (boot_heap P).nsMap mainGlobals x
theorem Mg.put {P : Params} {mg : Str → Option Value} (M : Mg P mg) {y : Str} {u : Option Value} (h : (pw.boundNames.contains y && !laidNames.contains y) = true) : Mg P (fun x => if x = y then u else mg x) := by
  obtain ⟨h1, h2⟩ := Bool.and_eq_true_iff.mp h
  refine ⟨fun x v e => ?_, fun x hx => ?_⟩
  · by_cases q : x = y
    · subst q; exact .inr (List.contains_iff_mem.mp h1)
    · simp only [if_neg q] at e; exact M.bound x v e
  · have q : x ≠ y := fun q => by subst q; rw [List.contains_iff_mem.mpr hx] at h2; cases h2
    simp only [if_neg q]; exact M.laid x hx
/-- what the walk of the top leaves -/
structure Left (P : Params) (w : World) (mg : Str → Option Value) (c Pl : Addr) (lines : List Nat) (h : Heap) : Prop where
  state : TS P mg c Pl lines h
  d1 : ∃ a, mg "COMPILER_FLAG_NAMES" = some (.ref a) ∧ DctP Pl (dictL (stmt 1)) h a
  d2 : ∃ a, mg "pretty_flags" = some (.ref a) ∧ DefObj Pl h a "pretty_flags" (fnParams (stmt 2)) (fnBody (stmt 2)) (fnScope (stmt 2))
  d4 : ∃ a, mg "b1_set" = some (.ref a) ∧ SetP Pl w setL_b1 h a
  d5 : ∃ a, mg "in_table_b1" = some (.ref a) ∧ DefObj Pl h a "in_table_b1" (fnParams (stmt 5)) (fnBody (stmt 5)) (fnScope (stmt 5))
  d6 : ∃ a, mg "b3_exceptions" = some (.ref a) ∧ DctP Pl (dictL (stmt 6)) h a
  d7 : ∃ a, mg "map_table_b3" = some (.ref a) ∧ DefObj Pl h a "map_table_b3" (fnParams (stmt 7)) (fnBody (stmt 7)) (fnScope (stmt 7))
  d8 : ∃ a, mg "in_table_c4" = some (.ref a) ∧ DefObj Pl h a "in_table_c4" (fnParams (stmt 8)) (fnBody (stmt 8)) (fnScope (stmt 8))
  d9 : ∃ a, mg "c6_set" = some (.ref a) ∧ SetP Pl w setL_c6 h a
  d10 : ∃ a, mg "in_table_c6" = some (.ref a) ∧ DefObj Pl h a "in_table_c6" (fnParams (stmt 10)) (fnBody (stmt 10)) (fnScope (stmt 10))
  d11 : ∃ a, mg "c7_set" = some (.ref a) ∧ SetP Pl w setL_c7 h a
  d12 : ∃ a, mg "in_table_c7" = some (.ref a) ∧ DefObj Pl h a "in_table_c7" (fnParams (stmt 12)) (fnBody (stmt 12)) (fnScope (stmt 12))
  d13 : ∃ a, mg "c8_set" = some (.ref a) ∧ SetP Pl w setL_c8 h a
  d14 : ∃ a, mg "in_table_c8" = some (.ref a) ∧ DefObj Pl h a "in_table_c8" (fnParams (stmt 14)) (fnBody (stmt 14)) (fnScope (stmt 14))
  d15 : ∃ a, mg "c9_set" = some (.ref a) ∧ SetP Pl w setL_c9 h a
  d16 : ∃ a, mg "in_table_c9" = some (.ref a) ∧ DefObj Pl h a "in_table_c9" (fnParams (stmt 16)) (fnBody (stmt 16)) (fnScope (stmt 16))
  d18 : ∃ a, mg "_raise_serialization_error" = some (.ref a) ∧ DefObj Pl h a "_raise_serialization_error" (fnParams (stmt 18)) (fnBody (stmt 18)) (fnScope (stmt 18))
  d19 : ∃ a, mg "_escape_cdata" = some (.ref a) ∧ DefObj Pl h a "_escape_cdata" (fnParams (stmt 19)) (fnBody (stmt 19)) (fnScope (stmt 19))
  d20 : ∃ a, mg "_escape_attrib" = some (.ref a) ∧ DefObj Pl h a "_escape_attrib" (fnParams (stmt 20)) (fnBody (stmt 20)) (fnScope (stmt 20))
  d21 : ∃ a, mg "_escape_attrib_html" = some (.ref a) ∧ DefObj Pl h a "_escape_attrib_html" (fnParams (stmt 21)) (fnBody (stmt 21)) (fnScope (stmt 21))
  d22 : ∃ a, mg "_escape_cdata_c14n" = some (.ref a) ∧ DefObj Pl h a "_escape_cdata_c14n" (fnParams (stmt 22)) (fnBody (stmt 22)) (fnScope (stmt 22))
  d23 : ∃ a, mg "_escape_attrib_c14n" = some (.ref a) ∧ DefObj Pl h a "_escape_attrib_c14n" (fnParams (stmt 23)) (fnBody (stmt 23)) (fnScope (stmt 23))
  d25 : ∃ a, mg "_law_runs" = some (.ref a) ∧ DefObj Pl h a "_law_runs" (fnParams (stmt 25)) (fnBody (stmt 25)) (fnScope (stmt 25))
  d26 : ∃ a, mg "_law_cells" = some (.ref a) ∧ DefObj Pl h a "_law_cells" (fnParams (stmt 26)) (fnBody (stmt 26)) (fnScope (stmt 26))
  d27 : ∃ a, mg "_law_text" = some (.ref a) ∧ DefObj Pl h a "_law_text" (fnParams (stmt 27)) (fnBody (stmt 27)) (fnScope (stmt 27))
  d28 : ∃ a, mg "_law_table" = some (.ref a) ∧ DefObj Pl h a "_law_table" (fnParams (stmt 28)) (fnBody (stmt 28)) (fnScope (stmt 28))
  d29 : ∃ a, mg "_law_row" = some (.ref a) ∧ DefObj Pl h a "_law_row" (fnParams (stmt 29)) (fnBody (stmt 29)) (fnScope (stmt 29))
  d30 : ∃ a, mg "_law_asked" = some (.ref a) ∧ DefObj Pl h a "_law_asked" (fnParams (stmt 30)) (fnBody (stmt 30)) (fnScope (stmt 30))
  d31 : ∃ a, mg "_law_answered" = some (.ref a) ∧ DefObj Pl h a "_law_answered" (fnParams (stmt 31)) (fnBody (stmt 31)) (fnScope (stmt 31))
  d32 : ∃ a, mg "_law_findings" = some (.ref a) ∧ DefObj Pl h a "_law_findings" (fnParams (stmt 32)) (fnBody (stmt 32)) (fnScope (stmt 32))
  d33 : ∃ a, mg "_law_words" = some (.ref a) ∧ DefObj Pl h a "_law_words" (fnParams (stmt 33)) (fnBody (stmt 33)) (fnScope (stmt 33))
  d34 : ∃ a, mg "_law_unions" = some (.ref a) ∧ DefObj Pl h a "_law_unions" (fnParams (stmt 34)) (fnBody (stmt 34)) (fnScope (stmt 34))
  d35 : ∃ a, mg "_law_once" = some (.ref a) ∧ DefObj Pl h a "_law_once" (fnParams (stmt 35)) (fnBody (stmt 35)) (fnScope (stmt 35))
  d36 : ∃ a, mg "law" = some (.ref a) ∧ DefObj Pl h a "law" (fnParams (stmt 36)) (fnBody (stmt 36)) (fnScope (stmt 36))
theorem bound_0 : (pw.boundNames.contains "__name__" && !laidNames.contains "__name__") = true := by decide +kernel
theorem bound_1 : (pw.boundNames.contains "COMPILER_FLAG_NAMES" && !laidNames.contains "COMPILER_FLAG_NAMES") = true := by decide +kernel
theorem bound_2 : (pw.boundNames.contains "pretty_flags" && !laidNames.contains "pretty_flags") = true := by decide +kernel
theorem bound_3 : (pw.boundNames.contains "__name__" && !laidNames.contains "__name__") = true := by decide +kernel
theorem bound_4 : (pw.boundNames.contains "b1_set" && !laidNames.contains "b1_set") = true := by decide +kernel
theorem bound_5 : (pw.boundNames.contains "in_table_b1" && !laidNames.contains "in_table_b1") = true := by decide +kernel
theorem bound_6 : (pw.boundNames.contains "b3_exceptions" && !laidNames.contains "b3_exceptions") = true := by decide +kernel
theorem bound_7 : (pw.boundNames.contains "map_table_b3" && !laidNames.contains "map_table_b3") = true := by decide +kernel
theorem bound_8 : (pw.boundNames.contains "in_table_c4" && !laidNames.contains "in_table_c4") = true := by decide +kernel
theorem bound_9 : (pw.boundNames.contains "c6_set" && !laidNames.contains "c6_set") = true := by decide +kernel
theorem bound_10 : (pw.boundNames.contains "in_table_c6" && !laidNames.contains "in_table_c6") = true := by decide +kernel
theorem bound_11 : (pw.boundNames.contains "c7_set" && !laidNames.contains "c7_set") = true := by decide +kernel
theorem bound_12 : (pw.boundNames.contains "in_table_c7" && !laidNames.contains "in_table_c7") = true := by decide +kernel
theorem bound_13 : (pw.boundNames.contains "c8_set" && !laidNames.contains "c8_set") = true := by decide +kernel
theorem bound_14 : (pw.boundNames.contains "in_table_c8" && !laidNames.contains "in_table_c8") = true := by decide +kernel
theorem bound_15 : (pw.boundNames.contains "c9_set" && !laidNames.contains "c9_set") = true := by decide +kernel
theorem bound_16 : (pw.boundNames.contains "in_table_c9" && !laidNames.contains "in_table_c9") = true := by decide +kernel
theorem bound_17 : (pw.boundNames.contains "__name__" && !laidNames.contains "__name__") = true := by decide +kernel
theorem bound_18 : (pw.boundNames.contains "_raise_serialization_error" && !laidNames.contains "_raise_serialization_error") = true := by decide +kernel
theorem bound_19 : (pw.boundNames.contains "_escape_cdata" && !laidNames.contains "_escape_cdata") = true := by decide +kernel
theorem bound_20 : (pw.boundNames.contains "_escape_attrib" && !laidNames.contains "_escape_attrib") = true := by decide +kernel
theorem bound_21 : (pw.boundNames.contains "_escape_attrib_html" && !laidNames.contains "_escape_attrib_html") = true := by decide +kernel
theorem bound_22 : (pw.boundNames.contains "_escape_cdata_c14n" && !laidNames.contains "_escape_cdata_c14n") = true := by decide +kernel
theorem bound_23 : (pw.boundNames.contains "_escape_attrib_c14n" && !laidNames.contains "_escape_attrib_c14n") = true := by decide +kernel
theorem bound_24 : (pw.boundNames.contains "__name__" && !laidNames.contains "__name__") = true := by decide +kernel
theorem bound_25 : (pw.boundNames.contains "_law_runs" && !laidNames.contains "_law_runs") = true := by decide +kernel
theorem bound_26 : (pw.boundNames.contains "_law_cells" && !laidNames.contains "_law_cells") = true := by decide +kernel
theorem bound_27 : (pw.boundNames.contains "_law_text" && !laidNames.contains "_law_text") = true := by decide +kernel
theorem bound_28 : (pw.boundNames.contains "_law_table" && !laidNames.contains "_law_table") = true := by decide +kernel
theorem bound_29 : (pw.boundNames.contains "_law_row" && !laidNames.contains "_law_row") = true := by decide +kernel
theorem bound_30 : (pw.boundNames.contains "_law_asked" && !laidNames.contains "_law_asked") = true := by decide +kernel
theorem bound_31 : (pw.boundNames.contains "_law_answered" && !laidNames.contains "_law_answered") = true := by decide +kernel
theorem bound_32 : (pw.boundNames.contains "_law_findings" && !laidNames.contains "_law_findings") = true := by decide +kernel
theorem bound_33 : (pw.boundNames.contains "_law_words" && !laidNames.contains "_law_words") = true := by decide +kernel
theorem bound_34 : (pw.boundNames.contains "_law_unions" && !laidNames.contains "_law_unions") = true := by decide +kernel
theorem bound_35 : (pw.boundNames.contains "_law_once" && !laidNames.contains "_law_once") = true := by decide +kernel
theorem bound_36 : (pw.boundNames.contains "law" && !laidNames.contains "law") = true := by decide +kernel
set_option maxHeartbeats 4000000 in
theorem walk {P : Params} {w : World} {A : Around} {E : Value → Shared → Prop} {s : Shared} {Q : Flow → Shared → Prop} {c Pl F : Addr} (hh : A.handled = none) (T0 : TS P ((boot_heap P).nsMap mainGlobals) c Pl [] s.heap)
    (k : ∀ mg lines h' tk, Left P w mg c Pl lines h' → Kp Pl s.heap h' → Mg P mg → Q .next { s with heap := h', toks := tk }) :
    Wk w A E Q c F [stmt 0, stmt 1, stmt 2, stmt 3, stmt 4, stmt 5, stmt 6, stmt 7, stmt 8, stmt 9, stmt 10, stmt 11, stmt 12, stmt 13, stmt 14, stmt 15, stmt 16, stmt 17, stmt 18, stmt 19, stmt 20, stmt 21, stmt 22, stmt 23, stmt 24, stmt 25, stmt 26, stmt 27, stmt 28, stmt 29, stmt 30, stmt 31, stmt 32, stmt 33, stmt 34, stmt 35, stmt 36] s := by
  refine Wk.em 0 (x := "__name__") rfl Em.str ?_ ?_ ?_ T0 hh fun v0 g0 h1 tk1 V0 U0 T1 K1 kb0 => ?_
  · decide +kernel
  · decide +kernel
  · rfl
  refine Wk.dct (x := "COMPILER_FLAG_NAMES") 1 ⟨_, _, _, _, _, rfl⟩ dict1 ?_ ?_ T1 hh fun a1 h2 tk2 T2 K2 X1 => ?_
  · decide +kernel
  · decide +kernel
  refine Wk.def 2 "pretty_flags" rfl (fun _ => rfl) ?_ rfl ?_ ?_ ?_ ?_ T2 fun a2 h3 tk3 T3 K3 X2 => ?_
  · decide +kernel
  · decide +kernel
  · kernel_rfl
  · decide +kernel
  · decide +kernel
  refine Wk.em 3 (x := "__name__") rfl Em.str ?_ ?_ ?_ T3 hh fun v3 g3 h4 tk4 V3 U3 T4 K4 kb3 => ?_
  · decide +kernel
  · decide +kernel
  · rfl
  refine Wk.em 4 (x := "b1_set") rfl (Em.setL rfl (by kernel_rfl) (bb_set P) (Em.add (Em.lst rfl (by decide)) (Em.list rfl (by kernel_rfl) (bb_list P) (Em.range (a := 65024) (n := 16) rfl (by kernel_rfl) (bb_range P) (by decide)) rfl (by decide) (by decide)) (by decide)) rfl (by decide)) ?_ ?_ ?_ T4 hh fun v4 g4 h5 tk5 V4 U4 T5 K5 kb4 => ?_
  · decide +kernel
  · decide +kernel
  · rfl
  obtain ⟨a4, rfl, X4⟩ := setP_of V4 U4 kb4
  refine Wk.def 5 "in_table_b1" rfl (fun _ => rfl) ?_ rfl ?_ ?_ ?_ ?_ T5 fun a5 h6 tk6 T6 K6 X5 => ?_
  · decide +kernel
  · decide +kernel
  · kernel_rfl
  · decide +kernel
  · decide +kernel
  refine Wk.dct (x := "b3_exceptions") 6 ⟨_, _, _, _, _, rfl⟩ dict6 ?_ ?_ T6 hh fun a6 h7 tk7 T7 K7 X6 => ?_
  · decide +kernel
  · decide +kernel
  refine Wk.def 7 "map_table_b3" rfl (fun _ => rfl) ?_ rfl ?_ ?_ ?_ ?_ T7 fun a7 h8 tk8 T8 K8 X7 => ?_
  · decide +kernel
  · decide +kernel
  · kernel_rfl
  · decide +kernel
  · decide +kernel
  refine Wk.def 8 "in_table_c4" rfl (fun _ => rfl) ?_ rfl ?_ ?_ ?_ ?_ T8 fun a8 h9 tk9 T9 K9 X8 => ?_
  · decide +kernel
  · decide +kernel
  · kernel_rfl
  · decide +kernel
  · decide +kernel
  refine Wk.em 9 (x := "c6_set") rfl (Em.setR rfl (by kernel_rfl) (bb_set P) (Em.range (a := 65529) (n := 5) rfl (by kernel_rfl) (bb_range P) (by decide)) rfl (by decide) (by decide)) ?_ ?_ ?_ T9 hh fun v9 g9 h10 tk10 V9 U9 T10 K10 kb9 => ?_
  · decide +kernel
  · decide +kernel
  · rfl
  obtain ⟨a9, rfl, X9⟩ := setP_of V9 U9 kb9
  refine Wk.def 10 "in_table_c6" rfl (fun _ => rfl) ?_ rfl ?_ ?_ ?_ ?_ T10 fun a10 h11 tk11 T11 K11 X10 => ?_
  · decide +kernel
  · decide +kernel
  · kernel_rfl
  · decide +kernel
  · decide +kernel
  refine Wk.em 11 (x := "c7_set") rfl (Em.setR rfl (by kernel_rfl) (bb_set P) (Em.range (a := 12272) (n := 12) rfl (by kernel_rfl) (bb_range P) (by decide)) rfl (by decide) (by decide)) ?_ ?_ ?_ T11 hh fun v11 g11 h12 tk12 V11 U11 T12 K12 kb11 => ?_
  · decide +kernel
  · decide +kernel
  · rfl
  obtain ⟨a11, rfl, X11⟩ := setP_of V11 U11 kb11
  refine Wk.def 12 "in_table_c7" rfl (fun _ => rfl) ?_ rfl ?_ ?_ ?_ ?_ T12 fun a12 h13 tk13 T13 K13 X12 => ?_
  · decide +kernel
  · decide +kernel
  · kernel_rfl
  · decide +kernel
  · decide +kernel
  refine Wk.em 13 (x := "c8_set") rfl (Em.setL rfl (by kernel_rfl) (bb_set P) (Em.add (Em.add (Em.lst rfl (by decide)) (Em.list rfl (by kernel_rfl) (bb_list P) (Em.range (a := 8234) (n := 5) rfl (by kernel_rfl) (bb_range P) (by decide)) rfl (by decide) (by decide)) (by decide)) (Em.list rfl (by kernel_rfl) (bb_list P) (Em.range (a := 8298) (n := 6) rfl (by kernel_rfl) (bb_range P) (by decide)) rfl (by decide) (by decide)) (by decide)) rfl (by decide)) ?_ ?_ ?_ T13 hh fun v13 g13 h14 tk14 V13 U13 T14 K14 kb13 => ?_
  · decide +kernel
  · decide +kernel
  · rfl
  obtain ⟨a13, rfl, X13⟩ := setP_of V13 U13 kb13
  refine Wk.def 14 "in_table_c8" rfl (fun _ => rfl) ?_ rfl ?_ ?_ ?_ ?_ T14 fun a14 h15 tk15 T15 K15 X14 => ?_
  · decide +kernel
  · decide +kernel
  · kernel_rfl
  · decide +kernel
  · decide +kernel
  refine Wk.em 15 (x := "c9_set") rfl (Em.setL rfl (by kernel_rfl) (bb_set P) (Em.add (Em.lst rfl (by decide)) (Em.list rfl (by kernel_rfl) (bb_list P) (Em.range (a := 917536) (n := 96) rfl (by kernel_rfl) (bb_range P) (by decide)) rfl (by decide) (by decide)) (by decide)) rfl (by decide)) ?_ ?_ ?_ T15 hh fun v15 g15 h16 tk16 V15 U15 T16 K16 kb15 => ?_
  · decide +kernel
  · decide +kernel
  · rfl
  obtain ⟨a15, rfl, X15⟩ := setP_of V15 U15 kb15
  refine Wk.def 16 "in_table_c9" rfl (fun _ => rfl) ?_ rfl ?_ ?_ ?_ ?_ T16 fun a16 h17 tk17 T17 K17 X16 => ?_
  · decide +kernel
  · decide +kernel
  · kernel_rfl
  · decide +kernel
  · decide +kernel
  refine Wk.em 17 (x := "__name__") rfl Em.str ?_ ?_ ?_ T17 hh fun v17 g17 h18 tk18 V17 U17 T18 K18 kb17 => ?_
  · decide +kernel
  · decide +kernel
  · rfl
  refine Wk.def 18 "_raise_serialization_error" rfl (fun _ => rfl) ?_ rfl ?_ ?_ ?_ ?_ T18 fun a18 h19 tk19 T19 K19 X18 => ?_
  · decide +kernel
  · decide +kernel
  · kernel_rfl
  · decide +kernel
  · decide +kernel
  refine Wk.def 19 "_escape_cdata" rfl (fun _ => rfl) ?_ rfl ?_ ?_ ?_ ?_ T19 fun a19 h20 tk20 T20 K20 X19 => ?_
  · decide +kernel
  · decide +kernel
  · kernel_rfl
  · decide +kernel
  · decide +kernel
  refine Wk.def 20 "_escape_attrib" rfl (fun _ => rfl) ?_ rfl ?_ ?_ ?_ ?_ T20 fun a20 h21 tk21 T21 K21 X20 => ?_
  · decide +kernel
  · decide +kernel
  · kernel_rfl
  · decide +kernel
  · decide +kernel
  refine Wk.def 21 "_escape_attrib_html" rfl (fun _ => rfl) ?_ rfl ?_ ?_ ?_ ?_ T21 fun a21 h22 tk22 T22 K22 X21 => ?_
  · decide +kernel
  · decide +kernel
  · kernel_rfl
  · decide +kernel
  · decide +kernel
  refine Wk.def 22 "_escape_cdata_c14n" rfl (fun _ => rfl) ?_ rfl ?_ ?_ ?_ ?_ T22 fun a22 h23 tk23 T23 K23 X22 => ?_
  · decide +kernel
  · decide +kernel
  · kernel_rfl
  · decide +kernel
  · decide +kernel
  refine Wk.def 23 "_escape_attrib_c14n" rfl (fun _ => rfl) ?_ rfl ?_ ?_ ?_ ?_ T23 fun a23 h24 tk24 T24 K24 X23 => ?_
  · decide +kernel
  · decide +kernel
  · kernel_rfl
  · decide +kernel
  · decide +kernel
  refine Wk.em 24 (x := "__name__") rfl Em.str ?_ ?_ ?_ T24 hh fun v24 g24 h25 tk25 V24 U24 T25 K25 kb24 => ?_
  · decide +kernel
  · decide +kernel
  · rfl
  refine Wk.def 25 "_law_runs" rfl (fun _ => rfl) ?_ rfl ?_ ?_ ?_ ?_ T25 fun a25 h26 tk26 T26 K26 X25 => ?_
  · decide +kernel
  · decide +kernel
  · kernel_rfl
  · decide +kernel
  · decide +kernel
  refine Wk.def 26 "_law_cells" rfl (fun _ => rfl) ?_ rfl ?_ ?_ ?_ ?_ T26 fun a26 h27 tk27 T27 K27 X26 => ?_
  · decide +kernel
  · decide +kernel
  · kernel_rfl
  · decide +kernel
  · decide +kernel
  refine Wk.def 27 "_law_text" rfl (fun _ => rfl) ?_ rfl ?_ ?_ ?_ ?_ T27 fun a27 h28 tk28 T28 K28 X27 => ?_
  · decide +kernel
  · decide +kernel
  · kernel_rfl
  · decide +kernel
  · decide +kernel
  refine Wk.def 28 "_law_table" rfl (fun _ => rfl) ?_ rfl ?_ ?_ ?_ ?_ T28 fun a28 h29 tk29 T29 K29 X28 => ?_
  · decide +kernel
  · decide +kernel
  · kernel_rfl
  · decide +kernel
  · decide +kernel
  refine Wk.def 29 "_law_row" rfl (fun _ => rfl) ?_ rfl ?_ ?_ ?_ ?_ T29 fun a29 h30 tk30 T30 K30 X29 => ?_
  · decide +kernel
  · decide +kernel
  · kernel_rfl
  · decide +kernel
  · decide +kernel
  refine Wk.def 30 "_law_asked" rfl (fun _ => rfl) ?_ rfl ?_ ?_ ?_ ?_ T30 fun a30 h31 tk31 T31 K31 X30 => ?_
  · decide +kernel
  · decide +kernel
  · kernel_rfl
  · decide +kernel
  · decide +kernel
  refine Wk.def 31 "_law_answered" rfl (fun _ => rfl) ?_ rfl ?_ ?_ ?_ ?_ T31 fun a31 h32 tk32 T32 K32 X31 => ?_
  · decide +kernel
  · decide +kernel
  · kernel_rfl
  · decide +kernel
  · decide +kernel
  refine Wk.def 32 "_law_findings" rfl (fun _ => rfl) ?_ rfl ?_ ?_ ?_ ?_ T32 fun a32 h33 tk33 T33 K33 X32 => ?_
  · decide +kernel
  · decide +kernel
  · kernel_rfl
  · decide +kernel
  · decide +kernel
  refine Wk.def 33 "_law_words" rfl (fun _ => rfl) ?_ rfl ?_ ?_ ?_ ?_ T33 fun a33 h34 tk34 T34 K34 X33 => ?_
  · decide +kernel
  · decide +kernel
  · kernel_rfl
  · decide +kernel
  · decide +kernel
  refine Wk.def 34 "_law_unions" rfl (fun _ => rfl) ?_ rfl ?_ ?_ ?_ ?_ T34 fun a34 h35 tk35 T35 K35 X34 => ?_
  · decide +kernel
  · decide +kernel
  · kernel_rfl
  · decide +kernel
  · decide +kernel
  refine Wk.def 35 "_law_once" rfl (fun _ => rfl) ?_ rfl ?_ ?_ ?_ ?_ T35 fun a35 h36 tk36 T36 K36 X35 => ?_
  · decide +kernel
  · decide +kernel
  · kernel_rfl
  · decide +kernel
  · decide +kernel
  refine Wk.def 36 "law" rfl (fun _ => rfl) ?_ rfl ?_ ?_ ?_ ?_ T36 fun a36 h37 tk37 T37 K37 X36 => ?_
  · decide +kernel
  · decide +kernel
  · kernel_rfl
  · decide +kernel
  · decide +kernel
  have L37 : Kp Pl h37 h37 := fun _ _ _ _ e => e
  have L36 : Kp Pl h36 h37 := K37.trans L37
  have L35 : Kp Pl h35 h37 := K36.trans L36
  have L34 : Kp Pl h34 h37 := K35.trans L35
  have L33 : Kp Pl h33 h37 := K34.trans L34
  have L32 : Kp Pl h32 h37 := K33.trans L33
  have L31 : Kp Pl h31 h37 := K32.trans L32
  have L30 : Kp Pl h30 h37 := K31.trans L31
  have L29 : Kp Pl h29 h37 := K30.trans L30
  have L28 : Kp Pl h28 h37 := K29.trans L29
  have L27 : Kp Pl h27 h37 := K28.trans L28
  have L26 : Kp Pl h26 h37 := K27.trans L27
  have L25 : Kp Pl h25 h37 := K26.trans L26
  have L24 : Kp Pl h24 h37 := K25.trans L25
  have L23 : Kp Pl h23 h37 := K24.trans L24
  have L22 : Kp Pl h22 h37 := K23.trans L23
  have L21 : Kp Pl h21 h37 := K22.trans L22
  have L20 : Kp Pl h20 h37 := K21.trans L21
  have L19 : Kp Pl h19 h37 := K20.trans L20
  have L18 : Kp Pl h18 h37 := K19.trans L19
  have L17 : Kp Pl h17 h37 := K18.trans L18
  have L16 : Kp Pl h16 h37 := K17.trans L17
  have L15 : Kp Pl h15 h37 := K16.trans L16
  have L14 : Kp Pl h14 h37 := K15.trans L15
  have L13 : Kp Pl h13 h37 := K14.trans L14
  have L12 : Kp Pl h12 h37 := K13.trans L13
  have L11 : Kp Pl h11 h37 := K12.trans L12
  have L10 : Kp Pl h10 h37 := K11.trans L11
  have L9 : Kp Pl h9 h37 := K10.trans L10
  have L8 : Kp Pl h8 h37 := K9.trans L9
  have L7 : Kp Pl h7 h37 := K8.trans L8
  have L6 : Kp Pl h6 h37 := K7.trans L7
  have L5 : Kp Pl h5 h37 := K6.trans L6
  have L4 : Kp Pl h4 h37 := K5.trans L5
  have L3 : Kp Pl h3 h37 := K4.trans L4
  have L2 : Kp Pl h2 h37 := K3.trans L3
  have L1 : Kp Pl h1 h37 := K2.trans L2
  have M0 : Mg P ((boot_heap P).nsMap mainGlobals) := ⟨fun _ _ e => .inl e, fun _ _ => rfl⟩
  have M1 := Mg.put (u := some v0) M0 bound_0
  have M2 := Mg.put (u := some (.ref a1)) M1 bound_1
  have M3 := Mg.put (u := some (.ref a2)) M2 bound_2
  have M4 := Mg.put (u := some v3) M3 bound_3
  have M5 := Mg.put (u := some (.ref a4)) M4 bound_4
  have M6 := Mg.put (u := some (.ref a5)) M5 bound_5
  have M7 := Mg.put (u := some (.ref a6)) M6 bound_6
  have M8 := Mg.put (u := some (.ref a7)) M7 bound_7
  have M9 := Mg.put (u := some (.ref a8)) M8 bound_8
  have M10 := Mg.put (u := some (.ref a9)) M9 bound_9
  have M11 := Mg.put (u := some (.ref a10)) M10 bound_10
  have M12 := Mg.put (u := some (.ref a11)) M11 bound_11
  have M13 := Mg.put (u := some (.ref a12)) M12 bound_12
  have M14 := Mg.put (u := some (.ref a13)) M13 bound_13
  have M15 := Mg.put (u := some (.ref a14)) M14 bound_14
  have M16 := Mg.put (u := some (.ref a15)) M15 bound_15
  have M17 := Mg.put (u := some (.ref a16)) M16 bound_16
  have M18 := Mg.put (u := some v17) M17 bound_17
  have M19 := Mg.put (u := some (.ref a18)) M18 bound_18
  have M20 := Mg.put (u := some (.ref a19)) M19 bound_19
  have M21 := Mg.put (u := some (.ref a20)) M20 bound_20
  have M22 := Mg.put (u := some (.ref a21)) M21 bound_21
  have M23 := Mg.put (u := some (.ref a22)) M22 bound_22
  have M24 := Mg.put (u := some (.ref a23)) M23 bound_23
  have M25 := Mg.put (u := some v24) M24 bound_24
  have M26 := Mg.put (u := some (.ref a25)) M25 bound_25
  have M27 := Mg.put (u := some (.ref a26)) M26 bound_26
  have M28 := Mg.put (u := some (.ref a27)) M27 bound_27
  have M29 := Mg.put (u := some (.ref a28)) M28 bound_28
  have M30 := Mg.put (u := some (.ref a29)) M29 bound_29
  have M31 := Mg.put (u := some (.ref a30)) M30 bound_30
  have M32 := Mg.put (u := some (.ref a31)) M31 bound_31
  have M33 := Mg.put (u := some (.ref a32)) M32 bound_32
  have M34 := Mg.put (u := some (.ref a33)) M33 bound_33
  have M35 := Mg.put (u := some (.ref a34)) M34 bound_34
  have M36 := Mg.put (u := some (.ref a35)) M35 bound_35
  have M37 := Mg.put (u := some (.ref a36)) M36 bound_36
  exact Wk.nil (k _ _ h37 tk37 ⟨T37, ⟨a1, by kernel_rfl, X1.kp L2⟩, ⟨a2, by kernel_rfl, X2.kp L3⟩, ⟨a4, by kernel_rfl, X4.kp L5⟩, ⟨a5, by kernel_rfl, X5.kp L6⟩, ⟨a6, by kernel_rfl, X6.kp L7⟩, ⟨a7, by kernel_rfl, X7.kp L8⟩, ⟨a8, by kernel_rfl, X8.kp L9⟩, ⟨a9, by kernel_rfl, X9.kp L10⟩, ⟨a10, by kernel_rfl, X10.kp L11⟩, ⟨a11, by kernel_rfl, X11.kp L12⟩, ⟨a12, by kernel_rfl, X12.kp L13⟩, ⟨a13, by kernel_rfl, X13.kp L14⟩, ⟨a14, by kernel_rfl, X14.kp L15⟩, ⟨a15, by kernel_rfl, X15.kp L16⟩, ⟨a16, by kernel_rfl, X16.kp L17⟩, ⟨a18, by kernel_rfl, X18.kp L19⟩, ⟨a19, by kernel_rfl, X19.kp L20⟩, ⟨a20, by kernel_rfl, X20.kp L21⟩, ⟨a21, by kernel_rfl, X21.kp L22⟩, ⟨a22, by kernel_rfl, X22.kp L23⟩, ⟨a23, by kernel_rfl, X23.kp L24⟩, ⟨a25, by kernel_rfl, X25.kp L26⟩, ⟨a26, by kernel_rfl, X26.kp L27⟩, ⟨a27, by kernel_rfl, X27.kp L28⟩, ⟨a28, by kernel_rfl, X28.kp L29⟩, ⟨a29, by kernel_rfl, X29.kp L30⟩, ⟨a30, by kernel_rfl, X30.kp L31⟩, ⟨a31, by kernel_rfl, X31.kp L32⟩, ⟨a32, by kernel_rfl, X32.kp L33⟩, ⟨a33, by kernel_rfl, X33.kp L34⟩, ⟨a34, by kernel_rfl, X34.kp L35⟩, ⟨a35, by kernel_rfl, X35.kp L36⟩, ⟨a36, by kernel_rfl, X36.kp L37⟩⟩ (K1.trans L1) M37)
end Mine
-- Hx
namespace Mine
open PySem PySem.Calls PyProof.Rows PySem.W
set_option maxRecDepth 100000
theorem behind_pw : behindTheImports pw = [stmt 0, stmt 1, stmt 2, stmt 3, stmt 4, stmt 5, stmt 6, stmt 7, stmt 8, stmt 9, stmt 10, stmt 11, stmt 12, stmt 13, stmt 14, stmt 15, stmt 16, stmt 17, stmt 18, stmt 19, stmt 20, stmt 21, stmt 22, stmt 23, stmt 24, stmt 25, stmt 26, stmt 27, stmt 28, stmt 29, stmt 30, stmt 31, stmt 32, stmt 33, stmt 34, stmt 35, stmt 36] := by kernel_rfl
theorem open_pw : opening pw = plainProg pw.main.scope.names := by kernel_rfl
theorem fence_pw (s : Shared) : fenceModules? pw s = some s := by kernel_rfl
theorem mods_pw : importedModules pw.main.body = [] := by kernel_rfl
theorem boot_g (P : Params) : (boot_heap P).isNs mainGlobals = true := by kernel_rfl
theorem boot_c (P : Params) : (boot_heap P).isNs cStatics = true := by kernel_rfl
theorem boot_ckeys (P : Params) : (boot_heap P).nsKeys cStatics = [] := by kernel_rfl
theorem boot_view (P : Params) : (boot_heap P).bltView = bltViewBooted := by kernel_rfl
theorem boot_names (P : Params) : ((boot_heap P).nsKeys mainGlobals).all startupNames.contains = true := by kernel_rfl
theorem boot_bm (P : Params) : (boot_heap P).nsMap mainGlobals "__builtins__" = some (.ref 4) := by kernel_rfl
theorem boot_bo (P : Params) : (boot_heap P).get? 4 = some { cls := .type "module", dict := some builtinsNs } := by kernel_rfl
theorem boot_bmo (P : Params) : ∃ o, (boot_heap P).get? 4 = some o ∧ o.cls = .type "module" ∧ o.dict = some builtinsNs ∧ o.data = .plain := ⟨_, boot_bo P, rfl, rfl, rfl⟩
theorem anns_hd : hasAnns (behindTheImports pw) = false := by kernel_rfl
theorem docs_hd : docOf (behindTheImports pw) = none := by kernel_rfl
theorem boot_main {P : Params} {h : Heap} {c Pl : Addr} (k : Keeps (boot_heap P) h) (hc : (boot_heap P).objs.size ≤ c) (hP : (boot_heap P).objs.size ≤ Pl) (hcode : h.IsCode c Pl #[]) : TS P ((boot_heap P).nsMap mainGlobals) c Pl [] h := by
  rw [boot_size] at hc hP
  obtain ⟨o, e, b1, b2, b3⟩ := boot_bmo P
  refine ⟨⟨#[], [], ⟨(Heap.Ns.of_isNs (boot_g P)).keeps k, hcode, ⟨Nat.lt_of_lt_of_le (by decide) hc, Nat.lt_of_lt_of_le (by decide) hP⟩, ⟨4, o, boot_bm P, by decide, by decide, Nat.ne_of_lt (Nat.lt_of_lt_of_le (by decide) hP), k _ _ e, b1, b2, b3⟩⟩, rfl, fun t ht => by cases ht⟩, fun b o _ e => k b o e, hc, hP, ?_⟩
  obtain ⟨o, vs, file, tf, flags, tg, inF, text, tt, op, a, r⟩ := hcode
  exact Nat.le_of_lt (Nat.lt_of_le_of_lt hc (Heap.lt_size a))
/-- the top's run from the boot -/
theorem top_walk {w : World} {s : Shared} {R : Shared → Prop} (hh : s.heap = boot_heap w.params) (hg : s.gens = #[])
    (k : ∀ mg c Pl lines h' tk, Left w.params w mg c Pl lines h' → Mg w.params mg → R { s with heap := h', toks := tk }) :
    wpAny (model pw w) callerA (topStub pw).cur (fun fin s' => ∃ f, fin = .done f ∧ R s' ∧ leftWithCleanup s'.gens = false) (fun _ _ => False) s := by
  show wpAny (model pw w) callerA (do
      let code ← moduleCode pw.main
      let frame ← newBodyFrame code mainNs mainNs
      let _ ← run (.body (behindTheImports pw) { scope := pw.main.scope, locals := mainNs, globals := mainNs, cells := [], code, frame := some frame })
      ret .none : Sem Fin) _ _ s
  refine wpAny_bind (wpAny_moduleCode fun c Pl h₁ tk₁ k₁ hc hPl hcode => ?_)
  unfold newBodyFrame
  have G := (Heap.Ns.of_isNs (boot_g w.params)).keeps (hh ▸ k₁)
  refine wpAny_bind (wpAny_bind (wpAny_nsGet G (wpAny_alloc ?_)))
  refine wpAny_bind (wpAny_run (codeAny_body anns_hd docs_hd ?_))
  have T0 : TS w.params ((boot_heap w.params).nsMap mainGlobals) c Pl [] (h₁.push { cls := .type "frame", slots := #[some (.ref c), some (.ref mainNs), some (.ref mainNs), none, some (((boot_heap w.params).nsMap mainGlobals "__name__").getD .none), none, some (.ref builtinsNs)] }) :=
    (boot_main (hh ▸ k₁) (hh ▸ hc) (hh ▸ hPl) hcode).keeps (Keeps.push _ _)
  rw [behind_pw]
  refine wpAny_mono (E := fun _ _ => False) (Q := fun f s' => R s' ∧ leftWithCleanup s'.gens = false) ?_ (fun f s' hr => ?_) (fun _ _ x => x.elim)
  · refine (walk (s := { s with heap := h₁.push _, toks := tk₁ }) (c := c) (Pl := Pl) (by rfl) T0 fun mg lines h' tk L K M => ⟨k mg c Pl lines h' tk L M, ?_⟩).run
    show leftWithCleanup s.gens = false
    rw [hg]; simp [leftWithCleanup]
  · exact wpAny_pure ⟨_, rfl, hr⟩
end Mine
-- Hy
namespace Mine
open PySem PySem.Calls PyProof.Rows PySem.W
set_option maxRecDepth 100000
theorem globalOf_at {h : Heap} {mg : Str → Option Value} (G : h.Ns mainGlobals mg) (x : Str) : globalOf h x = mg x := Claim2Try.globalOf_of_ns G x
theorem TS.statics {P : Params} {mg : Str → Option Value} {c Pl : Addr} {lines : List Nat} {h : Heap} (T : TS P mg c Pl lines h) : h.Ns cStatics (fun _ => none) := by
  have N := Heap.Ns.of_isNs (boot_c P)
  rw [show (boot_heap P).nsMap cStatics = fun _ => none from funext fun x => Heap.nsMap_none (by rw [boot_ckeys]; exact List.not_mem_nil)] at N
  obtain ⟨o, es, ep, e, r⟩ := N
  exact ⟨o, es, ep, T.old _ o (by decide) e, r⟩
theorem boot_statics (P : Params) (key : Str) : staticOf (boot_heap P) key = none := by
  rw [Pin.staticOf_eq (boot_c P)]
  exact Heap.nsMap_none (by rw [boot_ckeys]; exact List.not_mem_nil)
theorem statics_at {h : Heap} {m : Str → Option Value} (N : h.Ns cStatics m) (key : Str) : staticOf h key = m key := by
  obtain ⟨o, es, ep, ho, hd, _, hf⟩ := N
  simp only [staticOf, ho, hd]
  exact hf key
theorem builtin_at {h : Heap} {m : Str → Option Value} (N : h.Ns builtinsNs m) (x : Str) : builtinOf h x = m x := by
  obtain ⟨o, es, ep, ho, hd, _, hf⟩ := N
  simp only [builtinOf, ho, hd]
  exact hf x
theorem Mg.bm {P : Params} {mg : Str → Option Value} {c Pl : Addr} {lines : List Nat} {h : Heap} (T : TS P mg c Pl lines h) : ∃ bm o, mg "__builtins__" = some (.ref bm) ∧ h.get? bm = some o ∧ o.cls = .type "module" ∧ o.dict = some builtinsNs := by
  obtain ⟨ps, l, m, _⟩ := T.main
  obtain ⟨bm, o, a, _, _, _, b, c, d, _⟩ := m.bmod
  exact ⟨bm, o, a, b, c, d⟩
theorem boot_startup {P : Params} {x : Str} {v : Value} (h : (boot_heap P).nsMap mainGlobals x = some v) : x ∈ startupNames := by
  by_cases hk : x ∈ (boot_heap P).nsKeys mainGlobals
  · exact List.contains_iff_mem.mp (List.all_eq_true.mp (boot_names P) x hk)
  · rw [Heap.nsMap_none hk] at h; cases h
/-- what the top leaves -/
theorem head {w : World} {s₀ : Shared} (hz : s₀.asleep) (hh : s₀.heap = boot_heap w.params) (hg : s₀.gens = #[]) :
    ∃ s₁ mg c Pl lines, TopRan pw w s₀ s₁ ∧ s₁.asleep ∧ s₁.gens = #[] ∧ Left w.params w mg c Pl lines s₁.heap ∧ Mg w.params mg := by
  obtain ⟨n, σ, t', s'', hn, ht, hfo, ⟨⟨mg, c, Pl, lines, L, M⟩, hgs, hos⟩, hl⟩ := runs_through (prog := pw) (w := w) (R := fun s' => (∃ mg c Pl lines, Left w.params w mg c Pl lines s'.heap ∧ Mg w.params mg) ∧ s'.gens = #[] ∧ s'.os = s₀.os) hz
    (top_walk hh hg fun mg c Pl lines h' tk L M => ⟨⟨mg, c, Pl, lines, L, M⟩, hg, rfl⟩)
  obtain ⟨e1, _, _, e4, e5⟩ := Shared.forget_eq hfo
  rw [← e1] at L
  rw [← e4] at hos
  rw [hgs] at e5
  have hgen : σ.gens = #[] := by
    have := congrArg Array.size e5
    simp only [Array.size_map] at this
    exact Array.eq_empty_of_size_eq_zero this
  have T := L.state
  have N := T.statics
  refine ⟨σ, mg, c, Pl, lines, ⟨⟨n, t', hn, ht⟩, hl, Shared.rest_eq hos, fun b o e hb => ?_, fun key v e => ?_, fun key => .inl ?_, (let ⟨o, es, n, e, d, k, _⟩ := T.g; ⟨o, es, n, e, d, k⟩), fun x hx => ?_, ?_, fun g hgm => ?_, fun x v e => ?_, fun x hx => ?_⟩, Shared.asleep_of_life hl hz, hgen, L, M⟩
  · rw [hh] at e
    exact T.old b o (fun q => hb (.inl q)) e
  · rw [statics_at N] at e; cases e
  · rw [statics_at N, hh, boot_statics]
  · rw [builtin_at T.b]
    exact Heap.of_bltView (boot_b _) (boot_view _) x hx
  · obtain ⟨bm, o, a, b, c, d⟩ := Mg.bm T
    exact ⟨bm, o, (globalOf_at T.g _).trans a, b, c, d⟩
  · rw [hgen] at hgm; simp at hgm
  · rw [globalOf_at T.g] at e
    exact (M.bound x v e).imp boot_startup id
  · rw [globalOf_at T.g, hh, globalOf_at (Heap.Ns.of_isNs (boot_g _))]
    exact M.laid x hx
end Mine
-- Hz
namespace Mine
open PySem PySem.Calls PyProof.Rows PySem.W
set_option maxRecDepth 100000
theorem SetP.at {Pl : Addr} {w : World} {ns : List Int} {h : Heap} {a : Addr} (S : SetP Pl w ns h a) : SetAt pw w h a (inL ns) := by
  obtain ⟨n, o, es, ep, t, e, r⟩ := S.set
  refine ⟨fun A s Q E m k t' R kp hq => ?_⟩
  exact wpAny_inSet_of (knd := intKind pw w) (intKind_is pw w k t') rfl ⟨o, es, ep, t, kp _ _ e, r⟩ (hq _)
theorem DefObj.at {Pl : Addr} {h : Heap} {a : Addr} {x : Str} {i : Nat} {mg : Str → Option Value} (m : mg x = some (.ref a)) (D : DefObj Pl h a x (fnParams (stmt i)) (fnBody (stmt i)) (fnScope (stmt i))) : DefAt mg h x a i :=
  ⟨m, let ⟨o, pm, c, doc, e, d, _, _, r⟩ := D.obj; ⟨o, pm, .ref c, doc, e, d, r⟩⟩
theorem Mg.blt {P : Params} {mg : Str → Option Value} (M : Mg P mg) {x : Str} {v : Value} (h : ((boot_heap P).nsMap mainGlobals x).isNone = true) (hb : pw.boundNames.contains x = false) (hv : mbP P x = some v) : Bt mg (mbP P) x v := by
  refine ⟨?_, hv⟩
  cases e : mg x with
  | none => rfl
  | some u =>
    rcases M.bound x u e with q | q
    · rw [q] at h; cases h
    · rw [List.contains_iff_mem.mpr q] at hb; cases hb
abbrev flagsF : Int → Option Str := getL (dictL (stmt 1))
abbrev b3F : Int → Option Str := getL (dictL (stmt 6))
theorem DctP.sys {Pl : Addr} {cs : List (Int × Str)} {h : Heap} {a : Addr} (D : DctP Pl cs h a) : (a == sysModules) = false := by
  rw [beq_eq_false_iff_ne]
  intro e
  have := D.ne.2.2
  rw [e] at this
  exact absurd this (by decide)
theorem mb_range (P : Params) : mbP P "range" = some (.type "range") := by kernel_rfl
theorem mn_range (P : Params) : ((boot_heap P).nsMap mainGlobals "range").isNone = true := by kernel_rfl
theorem mx_range : pw.boundNames.contains "range" = false := by decide +kernel
theorem mb_enumerate (P : Params) : mbP P "enumerate" = some (.type "enumerate") := by kernel_rfl
theorem mn_enumerate (P : Params) : ((boot_heap P).nsMap mainGlobals "enumerate").isNone = true := by kernel_rfl
theorem mx_enumerate : pw.boundNames.contains "enumerate" = false := by decide +kernel
theorem mb_bool (P : Params) : mbP P "bool" = some (.type "bool") := by kernel_rfl
theorem mn_bool (P : Params) : ((boot_heap P).nsMap mainGlobals "bool").isNone = true := by kernel_rfl
theorem mx_bool : pw.boundNames.contains "bool" = false := by decide +kernel
theorem mb_hex (P : Params) : mbP P "hex" = some (.builtin "hex") := by kernel_rfl
theorem mn_hex (P : Params) : ((boot_heap P).nsMap mainGlobals "hex").isNone = true := by kernel_rfl
theorem mx_hex : pw.boundNames.contains "hex" = false := by decide +kernel
theorem mb_ord (P : Params) : mbP P "ord" = some (.builtin "ord") := by kernel_rfl
theorem mn_ord (P : Params) : ((boot_heap P).nsMap mainGlobals "ord").isNone = true := by kernel_rfl
theorem mx_ord : pw.boundNames.contains "ord" = false := by decide +kernel
theorem mb_chr (P : Params) : mbP P "chr" = some (.builtin "chr") := by kernel_rfl
theorem mn_chr (P : Params) : ((boot_heap P).nsMap mainGlobals "chr").isNone = true := by kernel_rfl
theorem mx_chr : pw.boundNames.contains "chr" = false := by decide +kernel
theorem mb_isinstance (P : Params) : mbP P "isinstance" = some (.builtin "isinstance") := by kernel_rfl
theorem mn_isinstance (P : Params) : ((boot_heap P).nsMap mainGlobals "isinstance").isNone = true := by kernel_rfl
theorem mx_isinstance : pw.boundNames.contains "isinstance" = false := by decide +kernel
theorem mb_sum (P : Params) : mbP P "sum" = some (.builtin "sum") := by kernel_rfl
theorem mn_sum (P : Params) : ((boot_heap P).nsMap mainGlobals "sum").isNone = true := by kernel_rfl
theorem mx_sum : pw.boundNames.contains "sum" = false := by decide +kernel
theorem mb_sorted (P : Params) : mbP P "sorted" = some (.builtin "sorted") := by kernel_rfl
theorem mn_sorted (P : Params) : ((boot_heap P).nsMap mainGlobals "sorted").isNone = true := by kernel_rfl
theorem mx_sorted : pw.boundNames.contains "sorted" = false := by decide +kernel
theorem top_of {w : World} {mg : Str → Option Value} {c Pl : Addr} {lines : List Nat} {h : Heap} (L : Left w.params w mg c Pl lines h) (M : Mg w.params mg) : Nonempty (Top pw w mg (mbP w.params) h flagsF b3F) := by
  obtain ⟨f2, m2, D2⟩ := L.d2
  obtain ⟨f5, m5, D5⟩ := L.d5
  obtain ⟨f7, m7, D7⟩ := L.d7
  obtain ⟨f8, m8, D8⟩ := L.d8
  obtain ⟨f10, m10, D10⟩ := L.d10
  obtain ⟨f12, m12, D12⟩ := L.d12
  obtain ⟨f14, m14, D14⟩ := L.d14
  obtain ⟨f16, m16, D16⟩ := L.d16
  obtain ⟨f19, m19, D19⟩ := L.d19
  obtain ⟨f20, m20, D20⟩ := L.d20
  obtain ⟨f21, m21, D21⟩ := L.d21
  obtain ⟨f22, m22, D22⟩ := L.d22
  obtain ⟨f23, m23, D23⟩ := L.d23
  obtain ⟨f25, m25, D25⟩ := L.d25
  obtain ⟨f26, m26, D26⟩ := L.d26
  obtain ⟨f27, m27, D27⟩ := L.d27
  obtain ⟨f28, m28, D28⟩ := L.d28
  obtain ⟨f29, m29, D29⟩ := L.d29
  obtain ⟨f30, m30, D30⟩ := L.d30
  obtain ⟨f31, m31, D31⟩ := L.d31
  obtain ⟨f32, m32, D32⟩ := L.d32
  obtain ⟨f33, m33, D33⟩ := L.d33
  obtain ⟨f34, m34, D34⟩ := L.d34
  obtain ⟨f35, m35, D35⟩ := L.d35
  obtain ⟨f36, m36, D36⟩ := L.d36
  obtain ⟨a4, m4, D4⟩ := L.d4
  obtain ⟨a9, m9, D9⟩ := L.d9
  obtain ⟨a11, m11, D11⟩ := L.d11
  obtain ⟨a13, m13, D13⟩ := L.d13
  obtain ⟨a15, m15, D15⟩ := L.d15
  obtain ⟨a1, m1, D1⟩ := L.d1
  obtain ⟨a6, m6, D6⟩ := L.d6
  exact ⟨⟨f2, D2.at m2, f5, D5.at m5, f7, D7.at m7, f8, D8.at m8, f10, D10.at m10, f12, D12.at m12, f14, D14.at m14, f16, D16.at m16, f19, D19.at m19, f20, D20.at m20, f21, D21.at m21, f22, D22.at m22, f23, D23.at m23, f25, D25.at m25, f26, D26.at m26, f27, D27.at m27, f28, D28.at m28, f29, D29.at m29, f30, D30.at m30, f31, D31.at m31, f32, D32.at m32, f33, D33.at m33, f34, D34.at m34, f35, D35.at m35, f36, D36.at m36, a4, m4, D4.at, a9, m9, D9.at, a11, m11, D11.at, a13, m13, D13.at, a15, m15, D15.at, a1, m1, D1.dct.at D1.sys, a6, m6, D6.dct.at D6.sys, M.blt (mn_range _) mx_range (mb_range _), M.blt (mn_enumerate _) mx_enumerate (mb_enumerate _), M.blt (mn_bool _) mx_bool (mb_bool _), M.blt (mn_hex _) mx_hex (mb_hex _), M.blt (mn_ord _) mx_ord (mb_ord _), M.blt (mn_chr _) mx_chr (mb_chr _), M.blt (mn_isinstance _) mx_isinstance (mb_isinstance _), M.blt (mn_sum _) mx_sum (mb_sum _), M.blt (mn_sorted _) mx_sorted (mb_sorted _)⟩⟩
end Mine
-- Hq
namespace Mine
open PySem PySem.Calls PyProof.Rows PySem.W
set_option maxRecDepth 100000
theorem ints_items {R : WRecords} : ∀ {xs : List WData}, WShape.hasItems R xs .int = true → ∃ ns : List Int, xs = ns.map .int
  | [], _ => ⟨[], rfl⟩
  | x :: xs, h => by
    obtain ⟨h1, h2⟩ := Bool.and_eq_true_iff.mp (show (WShape.has R x .int && WShape.hasItems R xs .int) = true from by simpa [WShape.hasItems] using h)
    obtain ⟨i, rfl⟩ := hasW_int h1
    obtain ⟨ns, rfl⟩ := ints_items h2
    exact ⟨i :: ns, rfl⟩
abbrev rwL : OpenLaw := PySem.Challenge.rw_wa0046_01
theorem script_of {args : List WData} (h : rwL.row.toRowW.claim.pre args = true) : ∃ ns : List Int, args = [.list (ns.map .int)] ∧ ns.length ≤ 63 := by
  obtain ⟨h1, h2⟩ := pre_splitW h
  obtain ⟨d, r, rfl, h3, h4⟩ := hasAllW_cons (e := .list .int) (es := []) h1
  obtain rfl := hasAllW_nil h4
  obtain ⟨xs, rfl, h5⟩ := hasW_list h3
  obtain ⟨ns, rfl⟩ := ints_items h5
  refine ⟨ns, rfl, ?_⟩
  have h6 : (WTm.and (.not (.lt (.lit (.int 63)) (.len (.arg 0)))) (.lit (.bool true))).holds [] { args := [.list (ns.map .int)] } = true := h2
  by_cases hl : ns.length ≤ 63
  · exact hl
  · exfalso
    have : decide ((63 : Int) < ((ns.map WData.int).length : Int)) = true := by
      rw [List.length_map]; exact decide_eq_true (by omega)
    have e : less? (WData.int 63) (WData.int ns.length) = some true := by
      show some (decide ((63 : Int) < (ns.length : Int))) = some true
      rw [decide_eq_true (by omega)]
    simp [WTm.holds, WTm.value, e] at h6
theorem vrs_ints {P : Params} {h : Heap} : ∀ {ns : List Int} {vs : List Value}, WellAll P h vs (ns.map .int) → VRs [] h (ns.map .int) vs
  | [], _, .nil => rfl
  | n :: ns, _, .cons (.int _ t) r => ⟨_, _, rfl, ⟨t, rfl⟩, vrs_ints r⟩
theorem vrs_script {P : Params} {h : Heap} {ns : List Int} {vs : List Value} (W : WellAll P h vs [.list (ns.map .int)]) : VRs [] h [.lst (ns.map .int)] vs := by
  obtain ⟨v, vs', rfl, h1, h2⟩ := wellAll_cons_inv W
  cases h2
  cases h1 with
  | list e r => exact ⟨_, _, rfl, ⟨_, _, 0, rfl, List.not_mem_nil, e, vrs_ints r⟩, rfl⟩
theorem GL.of {w : World} {mg : Str → Option Value} {c Pl : Addr} {lines : List Nat} {h h' : Heap} (T : TS w.params mg c Pl lines h) (k : Keeps h h') (hs : h.objs.size ≤ h'.objs.size) : GL mg (mbP w.params) h h' :=
  ⟨T.g, T.b, ⟨_, T.statics, rfl⟩, ⟨_, T.statics, rfl⟩, Nat.lt_of_lt_of_le (by decide) T.fresh.2.2, k, hs⟩
theorem room_caller : Room 4 callerA := by
  refine ⟨by decide +kernel, by decide +kernel, rfl⟩
theorem post_true {args ds : List WData} : rwL.row.toRowW.claim.post args (.bool true) ds = true := by
  show (WShape.has [] (.bool true) .bool && (WTm.eq .res (.lit (.bool true))).holds [] { args := args, res := some (.bool true), after := ds }) = true
  have e : same (.bool true) (.bool true) = true := by decide +kernel
  simp [WShape.has, WShape.arms, WTm.holds, WTm.value, e]
theorem law_ends {w : World} {s : Shared} {mg : Str → Option Value} {c Pl : Addr} {lines : List Nat} (plain : ∀ ns : List Int, ns.length ≤ 63 → LawOk flagsF b3F (cellsOf ns) ∧ lawOf flagsF b3F (cellsOf ns) = true)
    (L : Left w.params w mg c Pl lines s.heap) (M : Mg w.params mg) (hz : s.asleep) (hg : s.gens = #[]) {free : Addr → Prop} {gens : Prop} {kept : Heap → Prop} (hk : ∀ h', kept h') :
    rwL.row.toRowW.claim.CallFrom (callStub rwL.row.toRowW.name) w free gens kept s := by
  have T := L.state
  obtain ⟨X⟩ := top_of L M
  refine ClaimW.callFrom_of_specG (c := rwL.row.toRowW.claim) (tree := fun vs => (callStub rwL.row.toRowW.name vs).cur) hz hg fun args hpre hlay ord hord => ?_
  obtain ⟨ns, rfl, hn⟩ := script_of hpre
  obtain ⟨⟨vs, s₁⟩, hlaid⟩ := Option.isSome_iff_exists.mp (layAllW_isSome (R := rwL.row.toRowW.claim.records) (cl := classAt s.heap) (P := w.params) (ord := ord) (fun c hc => by cases hc) [.list (ns.map .int)] rwL.row.toRowW.args s (pre_splitW hpre).1)
  have keeps := layAllW_keeps _ _ _ hlaid
  have hal := layAllW_rest _ _ _ hlaid
  obtain ⟨as, hrd, hin, hold⟩ := reads_layAllW hord _ _ _ hlaid hlay s₁.heap (fun _ _ e => e)
  have W := well_layAllW hord _ s _ hlaid s₁.heap fun _ _ e => e
  have LL : Laid rwL.row.toRowW.claim.records w s s₁ [.list (ns.map .int)] vs as := ⟨⟨ord, hord, hlaid⟩, hrd, hin, hold, keeps, hal.1.trans hg, hal.2.2.1⟩
  have hsz : s.heap.objs.size ≤ s₁.heap.objs.size := (layAllW_grows _ _ _ hlaid).size
  obtain ⟨K, hlaw⟩ := plain ns hn
  refine ⟨vs, s₁, hlaid, ?_⟩
  refine wpAny_bind (wpAny_nsGet (T.g.keeps keeps) ?_)
  show wpAny _ _ (match mg "law" with | some f => (do ret (← call f vs) : Sem Fin) | none => unsupported "claim.caller:no-such-global") _ _ _
  rw [X.F36.name]
  refine wpAny_bind ((law_spec X ns (by omega) K).run callerA [] s₁ _ _ vs room_caller (GL.of T keeps hsz) (fun x hx => by cases hx) (vrs_script W) fun v h' tk k1 r1 => ?_)
  rw [hlaw] at r1
  cases r1
  refine wpAny_pure ⟨_, rfl, ?_⟩
  have G : GoodWG rwL.row.toRowW.claim (classAt s.heap) (ExcName.means s.heap) [.list (ns.map .int)] s₁ (.ok (.ret (.bool true))) { s₁ with heap := h', toks := tk } :=
    ⟨.inl ⟨_, .bool true, [], rfl, fun cls => rfl, .bool true, post_true, fun _ => ⟨List.nodup_nil, fun a ha => by cases ha⟩⟩, OldK.of_keep k1, rfl, .of_eq (hal.1.trans hg)⟩
  have z := G.laid (c := rwL.row.toRowW.claim) rfl rfl (ident_freeW (r := rwL.row.toRowW) rfl rfl rfl) LL
  exact ⟨z.1, z.2.1, z.2.2, hk _⟩
theorem bare_pw : pw.bare := ⟨rfl, rfl, rfl, rfl, rfl, by decide +kernel⟩
theorem opens_pw : opensWell pw = true := by decide +kernel
theorem def_pw : pw.theDef "law" = some (fnParams (stmt 36), fnBody (stmt 36), fnScope (stmt 36)) := by kernel_rfl
theorem plain36 : (fnParams (stmt 36)).defaults = [] ∧ kwWritten? (fnParams (stmt 36)).kwonlyargs (fnParams (stmt 36)).kw_defaults = some [] := ⟨by kernel_rfl, by kernel_rfl⟩
theorem pin_law {w : World} {s : Shared} {mg : Str → Option Value} {c Pl : Addr} {lines : List Nat} (L : Left w.params w mg c Pl lines s.heap) : isTheDefsW pw s.heap "law" := by
  obtain ⟨a, m, D⟩ := L.d36
  obtain ⟨o, pm, c, doc, e, d, _⟩ := D.obj
  exact ⟨a, o, _, _, _, _, (globalOf_at L.state.g _).trans m, e, d, def_pw, rfl, rfl, rfl, rfl, rfl, rfl, rfl, rfl, .inl ⟨plain36.1, rfl⟩, [], plain36.2, .inl ⟨rfl, rfl⟩⟩
theorem boot_fenced (w : World) : ∃ s₀, fencedOpening treeTable pw w 600 = some s₀ ∧ s₀.heap = boot_heap w.params ∧ s₀.gens = #[] := by
  obtain ⟨s, hs, e⟩ := Option.map_eq_some_iff.mp (boot_open (p := pw) (N := 600) open_pw rfl fence_pw w)
  exact ⟨s, hs, congrArg (·.1) e, congrArg (·.2.1) e⟩
theorem promised_pw : rwL.row.toRowW.promised := ⟨[.list []], by decide +kernel, by decide +kernel⟩
theorem row_holds (plain : ∀ ns : List Int, ns.length ≤ 63 → LawOk flagsF b3F (cellsOf ns) ∧ lawOf flagsF b3F (cellsOf ns) = true) (said : rwL.row.wellSaid = true) : rwL.row.Holds := by
  refine ⟨said, promised_pw, ⟨bare_pw, opens_pw, rfl⟩, promised_pw.witness, fun w => ?_⟩
  obtain ⟨s₀, hf, hh, hg⟩ := boot_fenced w
  rw [← table_eq_tree] at hf
  obtain ⟨s, h1, h2⟩ := Option.bind_eq_some_iff.mp hf
  have A : AfterImport (opening pw) w s := AfterImport.of_importEnds h1
  refine ⟨⟨s, A⟩, fun s' hs' => ?_⟩
  obtain rfl : s' = s := AfterImport.unique hs' A
  have z : s₀.asleep := Shared.asleep_of_life (fence_lifeW h2) A.life
  obtain ⟨s₁, mg, c, Pl, lines, R, hz, hg1, L, M⟩ := head z hh hg
  exact ⟨s₀, h2, hg, s₁, R, fun n hn => by obtain rfl := List.mem_singleton.mp hn; exact pin_law L, fun x hx => absurd (show x ∈ ([] : List (Str × List (Str × WShape))) from hx) List.not_mem_nil, fun x hx => absurd (show x ∈ ([] : List (Str × List (Str × WShape))) from hx) List.not_mem_nil, law_ends plain L M hz hg1 fun h' hw => absurd hw (by show false ≠ true; decide)⟩
theorem holds_of (plain : ∀ ns : List Int, ns.length ≤ 63 → LawOk flagsF b3F (cellsOf ns) ∧ lawOf flagsF b3F (cellsOf ns) = true) : PySem.Challenge.rw_wa0046_01.Holds := by
  w_on
  o_law
  exact row_holds plain (by assumption)
end Mine
-- Ka
namespace Mine
open PySem PySem.Calls PyProof.Rows PySem.W
set_option maxRecDepth 100000
/-- the signs of which the law's texts are made -/
def alph : List Nat := [9, 10, 13, 34, 38, 60, 62, 64, 65, 90, 91, 97, 172, 173, 174, 223, 831, 832, 833, 834, 846, 847, 848, 6149, 6150, 6151, 6154, 6155, 6157, 6158, 8202, 8203, 8205, 8206, 8207, 8208, 8233, 8234, 8238, 8239, 8287, 8288, 8289, 8297, 8298, 8303, 8304, 12271, 12272, 12283, 12284, 64259, 64975, 64976, 65007, 65008, 65023, 65024, 65039, 65040, 65278, 65279, 65280, 65528, 65529, 65533, 65534, 119808, 131069, 131070, 131071, 131072, 917504, 917505, 917506, 917535, 917536, 917631, 917632]
theorem sign_small : ((List.range 216).all fun k => alph.contains (signOf (k : Int))) = true := by decide +kernel
theorem sign_mod (l : Int) : signOf l = signOf (l.fmod 216) := by
  have h1 : (l.fmod 216).fmod 3 = l.fmod 3 := by
    rw [Int.fmod_eq_emod_of_nonneg _ (by decide), Int.fmod_eq_emod_of_nonneg _ (by decide), Int.fmod_eq_emod_of_nonneg _ (by decide)]
    omega
  have h2 : placeOf (l.fmod 216) = placeOf l := by
    unfold placeOf
    rw [Int.fmod_eq_emod_of_nonneg _ (by decide), Int.fmod_eq_emod_of_nonneg _ (by decide)]
    congr 1
    omega
  unfold signOf runAt
  rw [h1, h2]
theorem sign_in (l : Int) : signOf l ∈ alph := by
  rw [sign_mod]
  have h1 : 0 ≤ l.fmod 216 := Int.fmod_nonneg_of_pos _ (by decide)
  have h2 : l.fmod 216 < 216 := Int.fmod_lt_of_pos _ (by decide)
  have := List.all_eq_true.mp sign_small (l.fmod 216).toNat (List.mem_range.mpr (by omega))
  rw [Int.toNat_of_nonneg h1] at this
  exact List.contains_iff_mem.mp this
/-- a text of such signs -/
def Alph (x : Str) : Prop := ∀ c ∈ x.cps.toList, c ∈ alph
theorem cps_app (x y : Str) : (x ++ y).cps.toList = x.cps.toList ++ y.cps.toList := by
  show (x.cps ++ y.cps).toList = _
  rw [Array.toList_append]
theorem Alph.app {x y : Str} (h : Alph x) (k : Alph y) : Alph (x ++ y) := fun c hc => by
  rw [cps_app] at hc
  rcases List.mem_append.mp hc with q | q
  · exact h c q
  · exact k c q
theorem len_cps (x : Str) : x.length = x.cps.toList.length := rfl
theorem textGo_is : ∀ (k : Nat) (l : Int) (t : Str), Alph t → Alph (textGo k l t) ∧ (textGo k l t).length = t.length + k
  | 0, _, t, h => ⟨h, rfl⟩
  | k + 1, l, t, h => by
    obtain ⟨a, b⟩ := textGo_is k (l.fdiv 216) (t ++ chS (signOf l)) (h.app fun c hc => by
      have : c ∈ [signOf l] := hc
      rw [List.mem_singleton.mp this]; exact sign_in l)
    refine ⟨a, ?_⟩
    show (textGo k (l.fdiv 216) (t ++ chS (signOf l))).length = _
    rw [b, len_cps, cps_app, List.length_append]
    show t.cps.toList.length + 1 + k = t.cps.toList.length + (k + 1)
    omega
theorem text_is (c : Int) : Alph (textOf c) ∧ (textOf c).length ≤ 3 := by
  obtain ⟨a, b⟩ := textGo_is (1 + c.fmod 3).toNat (c.fdiv 3) "" (fun c hc => by cases hc)
  refine ⟨a, ?_⟩
  unfold textOf
  rw [b]
  have h1 : 0 ≤ c.fmod 3 := Int.fmod_nonneg_of_pos _ (by decide)
  have h2 : c.fmod 3 < 3 := Int.fmod_lt_of_pos _ (by decide)
  have : ("" : Str).length = 0 := rfl
  omega
/-- the signs' small letters -/
def lowOf (c : Nat) : Nat := if c == 65 then 97 else if c == 90 then 122 else c
theorem lower_a : ((alph.take 20).all fun c => Txt.lower (chS c) == chS (lowOf c)) = true := by decide +kernel
theorem lower_b : (((alph.drop 20).take 20).all fun c => Txt.lower (chS c) == chS (lowOf c)) = true := by decide +kernel
theorem lower_c : (((alph.drop 40).take 20).all fun c => Txt.lower (chS c) == chS (lowOf c)) = true := by decide +kernel
theorem lower_d : ((alph.drop 60).all fun c => Txt.lower (chS c) == chS (lowOf c)) = true := by decide +kernel
theorem lower_are : (alph.all fun c => Txt.lower (chS c) == chS (lowOf c)) = true := by
  have e : alph = alph.take 20 ++ ((alph.drop 20).take 20 ++ ((alph.drop 40).take 20 ++ alph.drop 60)) := by rfl
  rw [e, List.all_append, List.all_append, List.all_append, lower_a, lower_b, lower_c, lower_d]; rfl
theorem lower_is {c : Nat} (h : c ∈ alph) : Txt.lower (chS c) = chS (lowOf c) := beq_iff_eq.mp (List.all_eq_true.mp lower_are c h)
theorem lower_short {c : Nat} (h : c ∈ alph) : Builtin.Str.tooLong (Txt.lower (chS c)).length = false := by
  rw [lower_is h]; rfl
theorem asked_all : (alph.all fun c => askOk c) = true := by decide +kernel
/-- the dict's entries at the signs -/
def b3L : List (Int × Str) := [(223, "ss"), (64259, "ffi"), (119808, "a")]
/-- the entries whose keys are among the signs: both rise -/
def meet : List (Int × Str) → List Nat → List (Int × Str)
  | [], _ => []
  | e :: es, cs => match cs.dropWhile (fun c => decide (((c : Nat) : Int) < e.1)) with
    | [] => []
    | c :: r => if ((c : Nat) : Int) == e.1 then e :: meet es (c :: r) else meet es (c :: r)
theorem drop_keeps {p : Nat → Bool} : ∀ {l : List Nat} {c : Nat}, c ∈ l → p c = false → c ∈ l.dropWhile p
  | x :: l, c, h, hp => by
    rw [List.dropWhile_cons]
    cases q : p x with
    | false => rw [if_neg (by decide)]; exact h
    | true =>
      rw [if_pos rfl]
      rcases List.mem_cons.mp h with rfl | m
      · rw [hp] at q; cases q
      · exact drop_keeps m hp
theorem meet_sub : ∀ (es : List (Int × Str)) (cs : List Nat), ∀ e ∈ meet es cs, e ∈ es
  | [], _, e, h => by cases h
  | d :: es, cs, e, h => by
    unfold meet at h
    split at h
    · cases h
    · split at h
      · rcases List.mem_cons.mp h with rfl | m
        · exact List.mem_cons_self
        · exact List.mem_cons_of_mem _ (meet_sub es _ e m)
      · exact List.mem_cons_of_mem _ (meet_sub es _ e h)
theorem getL_none {es : List (Int × Str)} {k : Int} (h : ∀ e ∈ es, e.1 ≠ k) : getL es k = none := by
  unfold getL
  rw [List.find?_eq_none.mpr fun e he => by rw [beq_iff_eq]; exact h e he]; rfl
theorem getL_cons (e : Int × Str) (es : List (Int × Str)) (k : Int) : getL (e :: es) k = if e.1 == k then some e.2 else getL es k := by
  unfold getL
  rw [List.find?_cons]
  cases e.1 == k <;> rfl
theorem meet_at {c : Nat} : ∀ {es : List (Int × Str)} {cs : List Nat}, Rises es → cs.Pairwise (· < ·) → c ∈ cs → getL es c = getL (meet es cs) c
  | [], _, _, _, _ => rfl
  | e :: es, cs, he, hc, hm => by
    unfold Rises at he
    rw [List.map_cons, List.pairwise_cons] at he
    by_cases q : ((c : Nat) : Int) < e.1
    · have key : ∀ d ∈ e :: es, d.1 ≠ ((c : Nat) : Int) := fun d hd => by
        rcases List.mem_cons.mp hd with rfl | m
        · omega
        · have := he.1 d.1 (List.mem_map.mpr ⟨d, m, rfl⟩); omega
      rw [getL_none key, getL_none fun d hd => key d (meet_sub _ _ d hd)]
    · have hk : c ∈ cs.dropWhile (fun c => decide (((c : Nat) : Int) < e.1)) := drop_keeps hm (decide_eq_false q)
      have hp : (cs.dropWhile (fun c => decide (((c : Nat) : Int) < e.1))).Pairwise (· < ·) := hc.sublist (List.dropWhile_sublist _)
      cases h0 : cs.dropWhile (fun c => decide (((c : Nat) : Int) < e.1)) with
      | nil => rw [h0] at hk; cases hk
      | cons d r =>
        rw [h0] at hk hp
        have ih := meet_at (c := c) (es := es) he.2 hp hk
        have hm' : meet (e :: es) cs = if ((d : Nat) : Int) == e.1 then e :: meet es (d :: r) else meet es (d :: r) := by
          rw [meet, h0]
        rw [hm', getL_cons]
        by_cases z : e.1 = (c : Int)
        · rw [if_pos (beq_iff_eq.mpr z)]
          have hd : d = c := by
            rcases List.mem_cons.mp hk with e' | m
            · exact e'.symm
            · have h1 := (List.pairwise_cons.mp hp).1 c m
              have h3 : ¬ (((d : Nat) : Int) < e.1) := by
                have := List.head?_dropWhile_not (fun c => decide (((c : Nat) : Int) < e.1)) cs
                rw [h0] at this
                simpa using this
              omega
          rw [hd, if_pos (beq_iff_eq.mpr z.symm), getL_cons, if_pos (beq_iff_eq.mpr z)]
        · rw [if_neg (by rw [beq_iff_eq]; exact z), ih]
          split
          · rw [getL_cons, if_neg (by rw [beq_iff_eq]; exact z)]
          · rfl
def risesN : List Nat → Bool
  | a :: b :: r => Nat.blt a b && risesN (b :: r)
  | _ => true
theorem risesN_of : ∀ {l : List Nat}, risesN l = true → l.Pairwise (· < ·)
  | [], _ => List.Pairwise.nil
  | [_], _ => List.pairwise_singleton _ _
  | a :: b :: r, h => by
    have h' : (Nat.blt a b && risesN (b :: r)) = true := h
    rw [Bool.and_eq_true] at h'
    have h1 : a < b := Nat.blt_eq.mp h'.1
    have ih := risesN_of h'.2
    rw [List.pairwise_cons]
    refine ⟨fun c hc => ?_, ih⟩
    rcases List.mem_cons.mp hc with rfl | m
    · exact h1
    · exact Nat.lt_trans h1 ((List.pairwise_cons.mp ih).1 c m)
theorem alph_rises : alph.Pairwise (· < ·) := risesN_of (by decide +kernel)
theorem b3_meet : meet (dictL (stmt 6)) alph = b3L := by decide +kernel
def fnPosN : Stmt → Pos
  | .Assign [.Name _ p] _ _ => p
  | _ => ⟨0, 0, 0, 0⟩
def fnPosA : Stmt → Pos
  | .Assign _ _ p => p
  | _ => ⟨0, 0, 0, 0⟩
def dictK : Stmt → List (Option Expr)
  | .Assign _ (.Dict ks _ _) _ => ks
  | _ => []
def dictV : Stmt → List Expr
  | .Assign _ (.Dict _ vs _) _ => vs
  | _ => []
def dictP : Stmt → Pos
  | .Assign _ (.Dict _ _ p) _ => p
  | _ => ⟨0, 0, 0, 0⟩
theorem b3_rises : Rises (dictL (stmt 6)) := rises_of (by
  have := dict6
  have h : stmt 6 = .Assign [.Name "b3_exceptions" (fnPosN (stmt 6))] (.Dict (dictK (stmt 6)) (dictV (stmt 6)) (dictP (stmt 6))) (fnPosA (stmt 6)) := by rfl
  rw [h] at this ⊢
  simp only [dictOk, dictL, Bool.and_eq_true] at this ⊢
  exact this.1.1.2)
theorem b3_at {c : Nat} (h : c ∈ alph) : getL (dictL (stmt 6)) c = getL b3L c := by
  rw [meet_at b3_rises alph_rises h, b3_meet]
end Mine
-- Kb
namespace Mine
open PySem PySem.Calls PyProof.Rows PySem.W
open PySem.Builtin.Str
set_option maxRecDepth 100000
theorem has_one (x : Str) (c : Nat) : isIn (chS c) x = decide (c ∈ x.cps.toList) := StrLaws.found_one x c
theorem strike_none {x z : Str} {c : Nat} (h : c ∉ x.cps.toList) : strike x (chS c) (chS c) z = x := by
  have e := StrLaws.found_one x c
  rw [decide_eq_false h] at e
  unfold strike
  rw [if_pos (by simpa using e)]
/-- a struck text's length: n more signs for each of the k that were struck -/
theorem strike_some {x z : Str} {c : Nat} (h : c ∈ x.cps.toList) : ∃ k, 1 ≤ k ∧ k ≤ x.length ∧ (strike x (chS c) (chS c) z).length = x.length - k + k * z.length := by
  have e := StrLaws.found_one x c
  rw [decide_eq_true h] at e
  have h1 : (occurrences x (chS c) 0 x.length 1).isEmpty = false := by simpa using e
  have h2 : occurrences x (chS c) 0 x.length (x.length + 1) ≠ [] := by
    rcases StrLaws.occ_head x (chS c) 1 (by decide) with ⟨a, b⟩ | ⟨i, r, a, b, _⟩
    · rw [a] at h1; cases h1
    · rcases StrLaws.occ_head x (chS c) (x.length + 1) (by omega) with ⟨a', b'⟩ | ⟨i', r', a', _⟩
      · exact absurd b (b' i)
      · rw [a']; exact List.cons_ne_nil _ _
  have h3 : (occurrences x (chS c) 0 x.length (x.length + 1)).isEmpty = false := by
    cases q : occurrences x (chS c) 0 x.length (x.length + 1) with
    | nil => exact absurd q h2
    | cons _ _ => rfl
  have hl : (chS c).length = 1 := rfl
  unfold strike
  rw [if_neg (by rw [h1]; decide)]
  unfold Txt.replace
  rw [h3, hl, if_neg (show ¬ (false || ((1 : Nat) == 0 && z.length == 0)) = true from by rw [show ((1 : Nat) == 0) = false from rfl]; simp)]
  have g := congrArg Str.length (StrLaws.glued_between_self x (chS c) (x.length + 1))
  rw [hl] at g
  rw [size_glued, length_partsBetween, Nat.add_sub_cancel] at g
  rw [size_glued, length_partsBetween, Nat.add_sub_cancel]
  have hk : 1 ≤ (occurrences x (chS c) 0 x.length (x.length + 1)).length := by
    cases q : occurrences x (chS c) 0 x.length (x.length + 1) with
    | nil => exact absurd q h2
    | cons _ _ => simp
  rw [hl, Nat.mul_one] at g
  exact ⟨_, hk, by omega, by omega⟩
theorem strike_len (x z : Str) (c : Nat) (hz : 1 ≤ z.length) : x.length ≤ (strike x (chS c) (chS c) z).length ∧ (strike x (chS c) (chS c) z).length ≤ x.length * z.length := by
  by_cases h : c ∈ x.cps.toList
  · obtain ⟨k, h1, h2, h3⟩ := strike_some (z := z) h
    rw [h3]
    have e1 : k ≤ k * z.length := Nat.le_mul_of_pos_right _ hz
    obtain ⟨m, hm⟩ := Nat.exists_eq_add_of_le h2
    refine ⟨by omega, ?_⟩
    rw [hm, Nat.add_mul]
    have e2 : m ≤ m * z.length := Nat.le_mul_of_pos_right _ hz
    omega
  · rw [strike_none h]
    exact ⟨Nat.le_refl _, Nat.le_mul_of_pos_right _ hz⟩
theorem strike_more {x z : Str} {c : Nat} (h : c ∈ x.cps.toList) (hz : 2 ≤ z.length) : x.length < (strike x (chS c) (chS c) z).length := by
  obtain ⟨k, h1, h2, h3⟩ := strike_some (z := z) h
  rw [h3]
  have : k * 2 ≤ k * z.length := Nat.mul_le_mul_left _ hz
  omega
abbrev escM (es : List (Nat × Str)) : List (Str × Str) := es.map fun e => (chS e.1, e.2)
theorem escape_len : ∀ (es : List (Nat × Str)) (x : Str), (∀ e ∈ es, 2 ≤ e.2.length) → x.length ≤ (escape (escM es) x).length
  | [], x, _ => Nat.le_refl _
  | e :: es, x, h => by
    have h1 := h e List.mem_cons_self
    exact Nat.le_trans (strike_len x e.2 e.1 (by omega)).1 (escape_len es _ fun e he => h e (List.mem_cons_of_mem _ he))
theorem escape_same : ∀ (es : List (Nat × Str)) (x : Str), (∀ e ∈ es, e.1 ∉ x.cps.toList) → escape (escM es) x = x
  | [], x, _ => rfl
  | e :: es, x, h => by
    show escape (escM es) (strike x (chS e.1) (chS e.1) e.2) = x
    rw [strike_none (h e List.mem_cons_self)]
    exact escape_same es x fun e he => h e (List.mem_cons_of_mem _ he)
theorem escape_more : ∀ (es : List (Nat × Str)) (x : Str), (∀ e ∈ es, 2 ≤ e.2.length) → (∃ e ∈ es, e.1 ∈ x.cps.toList) → x.length < (escape (escM es) x).length
  | [], x, _, ⟨_, h, _⟩ => by cases h
  | e :: es, x, h, ⟨d, hd, hx⟩ => by
    have h1 := h e List.mem_cons_self
    have h2 : ∀ e ∈ es, 2 ≤ e.2.length := fun e he => h e (List.mem_cons_of_mem _ he)
    show x.length < (escape (escM es) (strike x (chS e.1) (chS e.1) e.2)).length
    by_cases q : e.1 ∈ x.cps.toList
    · exact Nat.lt_of_lt_of_le (strike_more q h1) (escape_len es _ h2)
    · rw [strike_none q]
      rcases List.mem_cons.mp hd with rfl | m
      · exact absurd hx q
      · exact escape_more es x h2 ⟨d, m, hx⟩
theorem escape_ne (es : List (Nat × Str)) (x : Str) (h : ∀ e ∈ es, 2 ≤ e.2.length) : (escape (escM es) x != x) = x.cps.toList.any fun c => (es.map (·.1)).contains c := by
  by_cases q : ∃ e ∈ es, e.1 ∈ x.cps.toList
  · have h1 := escape_more es x h q
    have h2 : (escape (escM es) x != x) = true := by
      rw [bne_iff_ne]
      intro e; rw [e] at h1; exact Nat.lt_irrefl _ h1
    rw [h2]
    obtain ⟨e, he, hx⟩ := q
    symm
    rw [List.any_eq_true]
    exact ⟨e.1, hx, List.contains_iff_mem.mpr (List.mem_map.mpr ⟨e, he, rfl⟩)⟩
  · rw [escape_same es x fun e he hx => q ⟨e, he, hx⟩]
    rw [bne_self_eq_false]
    symm
    rw [List.any_eq_false]
    intro c hc hk
    obtain ⟨e, he, rfl⟩ := List.mem_map.mp (List.contains_iff_mem.mp hk)
    exact q ⟨e, he, hc⟩
def escFits : List (Nat × Str) → Nat → Bool
  | [], _ => true
  | e :: es, n => decide (n ≤ 1048576) && (decide (1 ≤ e.2.length) && escFits es (n * e.2.length))
theorem escOk_of : ∀ (es : List (Nat × Str)) (n : Nat) (x : Str), escFits es n = true → x.length ≤ n → EscOk (escM es) x
  | [], _, _, _, _ => trivial
  | e :: es, n, x, h, hx => by
    have h' : (decide (n ≤ 1048576) && (decide (1 ≤ e.2.length) && escFits es (n * e.2.length))) = true := h
    rw [Bool.and_eq_true, Bool.and_eq_true, decide_eq_true_eq, decide_eq_true_eq] at h'
    exact ⟨Nat.le_trans hx h'.1, escOk_of es _ _ h'.2.2 (Nat.le_trans (strike_len x e.2 e.1 h'.2.1).2 (Nat.mul_le_mul_right _ hx))⟩
def escK : List (List (Nat × Str)) :=
  [[(38, "&amp;"), (60, "&lt;"), (62, "&gt;")], [(38, "&amp;"), (60, "&lt;"), (62, "&gt;"), (34, "&quot;"), (13, "&#13;"), (10, "&#10;"), (9, "&#09;")], [(38, "&amp;"), (62, "&gt;"), (34, "&quot;")],
   [(38, "&amp;"), (60, "&lt;"), (62, "&gt;"), (13, "&#xD;")], [(38, "&amp;"), (60, "&lt;"), (34, "&quot;"), (9, "&#x9;"), (10, "&#xA;"), (13, "&#xD;")]]
theorem escs_eq : escs = escK.map escM := by rfl
theorem escK_fits : (escK.all fun es => escFits es 12) = true := by decide +kernel
theorem escK_long : (escK.all fun es => es.all fun e => decide (2 ≤ e.2.length)) = true := by decide +kernel
end Mine
-- Kc
namespace Mine
open PySem PySem.Calls PyProof.Rows PySem.W
set_option maxRecDepth 100000
/-- a row's bit of a sign -/
def rbit (wri : Str) (c : Nat) : Nat := if isIn (chS c) wri then 1 else if tableOf c == 0 then 4 else if decide (tableOf c < 6) then 8 else if letterOf c then 2 else 0
/-- what the judges but the first find in a sign -/
def fbit (b3 : Int → Option Str) (c : Nat) : Nat := ((if b3Of b3 c != chS c then 2 else 0) ||| (if inL setL_b1 c then 4 else 0)) ||| (if ((askedL c).drop 1).any (· == true) then 8 else 0)
def wbit (wri : Str) (c : Nat) : Nat := if wri.cps.toList.contains c then 1 else 0
theorem or16 : ∀ a : Nat, a < 16 → ∀ b : Nat, b < 16 → Builtin.bitOr (a : Int) (b : Int) = ((a ||| b : Nat) : Int) := by decide +kernel
theorem lt_or {a b : Nat} (h : a < 16) (k : b < 16) : a ||| b < 16 := Nat.or_lt_two_pow (n := 4) h k
/-- the union -/
def orL (l : List Nat) : Nat := l.foldl (· ||| ·) 0
theorem foldl_or : ∀ (l : List Nat) (a : Nat), l.foldl (· ||| ·) a = a ||| orL l
  | [], a => by show a = a ||| 0; rw [Nat.or_zero]
  | b :: l, a => by
    unfold orL
    rw [List.foldl_cons, List.foldl_cons, foldl_or l, foldl_or l, Nat.zero_or, Nat.or_assoc]
theorem orL_cons (a : Nat) (l : List Nat) : orL (a :: l) = a ||| orL l := by
  unfold orL
  rw [List.foldl_cons, foldl_or, Nat.zero_or]; rfl
theorem orL_app : ∀ (l m : List Nat), orL (l ++ m) = orL l ||| orL m
  | [], m => by show orL m = 0 ||| orL m; rw [Nat.zero_or]
  | a :: l, m => by rw [List.cons_append, orL_cons, orL_cons, orL_app l m, Nat.or_assoc]
theorem orL_lt : ∀ {l : List Nat}, (∀ a ∈ l, a < 16) → orL l < 16
  | [], _ => by decide
  | a :: l, h => by rw [orL_cons]; exact lt_or (h a List.mem_cons_self) (orL_lt fun b hb => h b (List.mem_cons_of_mem _ hb))
theorem orL_map_or (f g : Nat → Nat) : ∀ l : List Nat, orL (l.map fun c => f c ||| g c) = orL (l.map f) ||| orL (l.map g)
  | [] => by show 0 = 0 ||| 0; rfl
  | a :: l => by
    rw [List.map_cons, List.map_cons, List.map_cons, orL_cons, orL_cons, orL_cons, orL_map_or f g l]
    rw [Nat.or_assoc, Nat.or_assoc]
    congr 1
    rw [← Nat.or_assoc, ← Nat.or_assoc, Nat.or_comm (g a)]
theorem rbit_lt (wri : Str) (c : Nat) : rbit wri c < 16 := by
  unfold rbit
  split
  · decide
  split
  · decide
  split
  · decide
  split <;> decide
theorem fbit_lt (b3 : Int → Option Str) (c : Nat) : fbit b3 c < 16 := by
  unfold fbit
  refine lt_or (lt_or ?_ ?_) ?_ <;> split <;> decide
theorem wbit_lt (wri : Str) (c : Nat) : wbit wri c < 16 := by
  unfold wbit
  split <;> decide
theorem rowStep_is (wri : Str) (r : Nat) (hr : r < 16) (c : Nat) : rowStep wri (r : Int) c = ((r ||| rbit wri c : Nat) : Int) := by
  unfold rowStep rbit
  split
  · exact or16 r hr 1 (by decide)
  split
  · exact or16 r hr 4 (by decide)
  split
  · exact or16 r hr 8 (by decide)
  split
  · exact or16 r hr 2 (by decide)
  · rw [Nat.or_zero]
theorem row_fold (wri : Str) : ∀ (cs : List Nat) (r : Nat), r < 16 → cs.foldl (rowStep wri) (r : Int) = ((r ||| orL (cs.map (rbit wri)) : Nat) : Int)
  | [], r, _ => by show (r : Int) = ((r ||| 0 : Nat) : Int); rw [Nat.or_zero]
  | c :: cs, r, hr => by
    rw [List.foldl_cons, rowStep_is wri r hr, row_fold wri cs _ (lt_or hr (rbit_lt wri c)), List.map_cons, orL_cons, Nat.or_assoc]
def rowN (wri : Str) (x : Str) : Nat := orL (x.cps.toList.map (rbit wri))
theorem row_is (wri x : Str) : rowOf wri x = ((rowN wri x : Nat) : Int) := by
  have h := row_fold wri x.cps.toList 0 (by decide)
  rw [Nat.zero_or] at h
  exact h
theorem findStep_is (b3 : Int → Option Str) (f : Nat) (hf : f < 16) (c : Nat) : findStep b3 (f : Int) c = ((f ||| fbit b3 c : Nat) : Int) := by
  have s1 : find1 b3 (f : Int) c = ((f ||| (if b3Of b3 c != chS c then 2 else 0) : Nat) : Int) := by
    unfold find1
    split
    · exact or16 f hf 2 (by decide)
    · rw [Nat.or_zero]
  have s2 : ∀ g < 16, find2 ((g : Nat) : Int) c = ((g ||| (if inL setL_b1 c then 4 else 0) : Nat) : Int) := fun g hg => by
    unfold find2
    split
    · exact or16 g hg 4 (by decide)
    · rw [Nat.or_zero]
  have s3 : ∀ g < 16, find3 ((g : Nat) : Int) c = ((g ||| (if ((askedL c).drop 1).any (· == true) then 8 else 0) : Nat) : Int) := fun g hg => by
    unfold find3
    split
    · exact or16 g hg 8 (by decide)
    · rw [Nat.or_zero]
  have l1 : (if b3Of b3 c != chS c then 2 else 0) < 16 := by split <;> decide
  have l2 : (if inL setL_b1 c then 4 else 0) < 16 := by split <;> decide
  unfold findStep fbit
  rw [s1, s2 _ (lt_or hf l1), s3 _ (lt_or (lt_or hf l1) l2), Nat.or_assoc, Nat.or_assoc, Nat.or_assoc]
theorem find_fold (b3 : Int → Option Str) : ∀ (cs : List Nat) (f : Nat), f < 16 → cs.foldl (findStep b3) (f : Int) = ((f ||| orL (cs.map (fbit b3)) : Nat) : Int)
  | [], f, _ => by show (f : Int) = ((f ||| 0 : Nat) : Int); rw [Nat.or_zero]
  | c :: cs, f, hf => by
    rw [List.foldl_cons, findStep_is b3 f hf, find_fold b3 cs _ (lt_or hf (fbit_lt b3 c)), List.map_cons, orL_cons, Nat.or_assoc]
theorem wbits (wri : Str) : ∀ l : List Nat, orL (l.map (wbit wri)) = if l.any (fun c => wri.cps.toList.contains c) then 1 else 0
  | [] => rfl
  | c :: l => by
    rw [List.map_cons, orL_cons, wbits wri l, List.any_cons]
    unfold wbit
    cases wri.cps.toList.contains c <;> cases l.any (fun c => wri.cps.toList.contains c) <;> rfl
/-- sign by sign the two readings agree -/
def restOf (c : Nat) : Nat := if tableOf c == 0 then 4 else if decide (tableOf c < 6) then 8 else if letterOf c then 2 else 0
def foundOf (c : Nat) : Nat := ((if (match getL b3L c with | some x => x | none => chS (lowOf c)) != chS c then 2 else 0) ||| (if inL setL_b1 c then 4 else 0)) ||| (if ((askedL c).drop 1).any (· == true) then 8 else 0)
theorem rest_agree : (alph.all fun c => restOf c == foundOf c) = true := by decide +kernel
theorem keys_plain : (wrL.all fun wri => wri.cps.toList.all fun c => foundOf c == 0) = true := by decide +kernel
theorem fbit_b3 {c : Nat} (h : c ∈ alph) : fbit (getL (dictL (stmt 6))) c = foundOf c := by
  unfold fbit foundOf b3Of
  rw [b3_at h, lower_is h]
  first | done | rfl
theorem rbit_is {wri : Str} (hw : wri ∈ wrL) {c : Nat} (h : c ∈ alph) : rbit wri c = wbit wri c ||| foundOf c := by
  have h1 : restOf c = foundOf c := beq_iff_eq.mp (List.all_eq_true.mp rest_agree c h)
  have hr : rbit wri c = if isIn (chS c) wri then 1 else restOf c := rfl
  rw [hr, has_one]
  unfold wbit
  by_cases q : c ∈ wri.cps.toList
  · have h2 : foundOf c = 0 := beq_iff_eq.mp (List.all_eq_true.mp (List.all_eq_true.mp keys_plain wri hw) c q)
    rw [if_pos (decide_eq_true q), if_pos (List.contains_iff_mem.mpr q), h2]; rfl
  · rw [if_neg (by rw [decide_eq_false q]; decide), if_neg (by rw [List.contains_iff_mem]; exact q), Nat.zero_or, h1]
theorem keys_agree : ((escK.zip wrL).all fun q => alph.all fun c => (q.1.map (·.1)).contains c == q.2.cps.toList.contains c) = true := by decide +kernel
theorem any_congr {p q : Nat → Bool} : ∀ {l : List Nat}, (∀ c ∈ l, p c = q c) → l.any p = l.any q
  | [], _ => rfl
  | c :: l, h => by rw [List.any_cons, List.any_cons, h c List.mem_cons_self, any_congr fun d hd => h d (List.mem_cons_of_mem _ hd)]
/-- the judges find just what the row tells -/
theorem find_is_row {es : List (Nat × Str)} {wri : Str} (hm : (es, wri) ∈ escK.zip wrL) {x : Str} (hx : Alph x) : findOf (getL (dictL (stmt 6))) (escape (escM es)) x = rowOf wri x := by
  have he : es ∈ escK := (List.of_mem_zip hm).1
  have hw : wri ∈ wrL := (List.of_mem_zip hm).2
  have hl : ∀ e ∈ es, 2 ≤ e.2.length := fun e h => of_decide_eq_true (List.all_eq_true.mp (List.all_eq_true.mp escK_long es he) e h)
  have hk := List.all_eq_true.mp keys_agree (es, wri) hm
  rw [row_is]
  unfold findOf rowN
  rw [escape_ne es x hl]
  have e1 : (x.cps.toList.any fun c => (es.map (·.1)).contains c) = x.cps.toList.any fun c => wri.cps.toList.contains c := any_congr fun c hc => by
    have := List.all_eq_true.mp hk c (hx c hc)
    simpa using this
  rw [e1]
  have e2 : (if x.cps.toList.any (fun c => wri.cps.toList.contains c) = true then (1 : Int) else 0) = ((orL (x.cps.toList.map (wbit wri)) : Nat) : Int) := by
    rw [wbits]
    split <;> rfl
  rw [e2, find_fold _ _ _ (orL_lt fun a ha => by obtain ⟨c, _, rfl⟩ := List.mem_map.mp ha; exact wbit_lt wri c), ← orL_map_or]
  congr 2
  refine List.map_congr_left fun c hc => ?_
  show wbit wri c ||| fbit (getL (dictL (stmt 6))) c = rbit wri c
  rw [fbit_b3 (hx c hc), rbit_is hw (hx c hc)]
end Mine
-- Kd
namespace Mine
open PySem PySem.Calls PyProof.Rows PySem.W
set_option maxRecDepth 100000
/-- the names, by their signs -/
def wordL' : List Str := [⟨#[79, 80, 84, 73, 77, 73, 90, 69, 68]⟩, ⟨#[78, 69, 87, 76, 79, 67, 65, 76, 83]⟩, ⟨#[86, 65, 82, 65, 82, 71, 83]⟩, ⟨#[86, 65, 82, 75, 69, 89, 87, 79, 82, 68, 83]⟩, ⟨#[78, 69, 83, 84, 69, 68]⟩, ⟨#[71, 69, 78, 69, 82, 65, 84, 79, 82]⟩, ⟨#[78, 79, 70, 82, 69, 69]⟩, ⟨#[67, 79, 82, 79, 85, 84, 73, 78, 69]⟩, ⟨#[73, 84, 69, 82, 65, 66, 76, 69, 95, 67, 79, 82, 79, 85, 84, 73, 78, 69]⟩, ⟨#[65, 83, 89, 78, 67, 95, 71, 69, 78, 69, 82, 65, 84, 79, 82]⟩, ⟨#[48, 120, 52, 48, 48]⟩, ⟨#[48, 120, 56, 48, 48]⟩]
def flagsL : List (Int × Str) := [(1, ⟨#[79, 80, 84, 73, 77, 73, 90, 69, 68]⟩), (2, ⟨#[78, 69, 87, 76, 79, 67, 65, 76, 83]⟩), (4, ⟨#[86, 65, 82, 65, 82, 71, 83]⟩), (8, ⟨#[86, 65, 82, 75, 69, 89, 87, 79, 82, 68, 83]⟩), (16, ⟨#[78, 69, 83, 84, 69, 68]⟩), (32, ⟨#[71, 69, 78, 69, 82, 65, 84, 79, 82]⟩), (64, ⟨#[78, 79, 70, 82, 69, 69]⟩), (128, ⟨#[67, 79, 82, 79, 85, 84, 73, 78, 69]⟩), (256, ⟨#[73, 84, 69, 82, 65, 66, 76, 69, 95, 67, 79, 82, 79, 85, 84, 73, 78, 69]⟩), (512, ⟨#[65, 83, 89, 78, 67, 95, 71, 69, 78, 69, 82, 65, 84, 79, 82]⟩)]
abbrev commaS : Str := ⟨#[44, 32]⟩
theorem words_are : wordL = wordL' := by decide +kernel
theorem comma_is : (", " : Str) = commaS := by decide +kernel
theorem flags_are : dictL (stmt 1) = flagsL := by decide +kernel
def namesOf' (f : Int) : List Str := ((List.range 12).filter (bitAt f)).map fun i => wordL'.getD i ⟨#[]⟩
theorem names_are (f : Int) : namesOf f = namesOf' f := by
  unfold namesOf namesOf'
  rw [words_are]; rfl
def wordsOf' (f : Int) : Str := if f == 0 then ⟨#[48, 120, 48]⟩ else Txt.join commaS (namesOf' f)
theorem words_of_are (f : Int) : wordsOf f = wordsOf' f := by
  unfold wordsOf wordsOf'
  rw [names_are, comma_is, show ("0x0" : Str) = ⟨#[48, 120, 48]⟩ from by decide +kernel]
def numB (f : Int) : Bool :=
  let l := flagsGo (getL flagsL) (List.range 32) f []
  let n := namesOf' f
  flagsOk (List.range 32) f && JoinOk commaS l && JoinOk commaS n && (if f == 0 then l == [⟨#[48, 120, 48]⟩] else l == n)
theorem nums_0 : ((List.range 16).all fun n => numB ((n : Int) * 1)) = true := by decide +kernel
theorem nums_1 : ((List.range 16).all fun n => numB ((n : Int) * 2)) = true := by decide +kernel
theorem nums_2 : ((List.range 16).all fun n => numB ((n : Int) * 4)) = true := by decide +kernel
theorem nums_3 : ((List.range 16).all fun n => numB ((n : Int) * 8)) = true := by decide +kernel
theorem nums_4 : ((List.range 16).all fun n => numB ((n : Int) * 16)) = true := by decide +kernel
theorem nums_5 : ((List.range 16).all fun n => numB ((n : Int) * 32)) = true := by decide +kernel
theorem nums_6 : ((List.range 16).all fun n => numB ((n : Int) * 64)) = true := by decide +kernel
theorem nums_7 : ((List.range 16).all fun n => numB ((n : Int) * 128)) = true := by decide +kernel
theorem nums_8 : ((List.range 16).all fun n => numB ((n : Int) * 256)) = true := by decide +kernel
theorem nums_ok {n s : Nat} (hn : n < 16) (hs : s < 9) : numB ((n : Int) * 2 ^ s) = true := by
  have key : ((List.range 16).all fun n => numB ((n : Int) * 2 ^ s)) = true := by
    match s, hs with
    | 0, _ => exact nums_0
    | 1, _ => exact nums_1
    | 2, _ => exact nums_2
    | 3, _ => exact nums_3
    | 4, _ => exact nums_4
    | 5, _ => exact nums_5
    | 6, _ => exact nums_6
    | 7, _ => exact nums_7
    | 8, _ => exact nums_8
  exact List.all_eq_true.mp key n (List.mem_range.mpr hn)
theorem num_says {f : Int} (h : numB f = true) : NumOk (getL flagsL) f ∧ prettyOf (getL flagsL) f = wordsOf f := by
  have h' : (flagsOk (List.range 32) f && JoinOk commaS (flagsGo (getL flagsL) (List.range 32) f []) && JoinOk commaS (namesOf' f) && (if f == 0 then flagsGo (getL flagsL) (List.range 32) f [] == [⟨#[48, 120, 48]⟩] else flagsGo (getL flagsL) (List.range 32) f [] == namesOf' f)) = true := h
  rw [Bool.and_eq_true, Bool.and_eq_true, Bool.and_eq_true] at h'
  obtain ⟨⟨⟨h1, h2⟩, h3⟩, h4⟩ := h'
  unfold NumOk
  rw [comma_is, names_are, words_of_are]
  refine ⟨⟨h1, h2, h3⟩, ?_⟩
  unfold prettyOf wordsOf'
  rw [comma_is]
  split at h4
  · rename_i q
    rw [if_pos q, beq_iff_eq.mp h4]; rfl
  · rename_i q
    rw [if_neg q, beq_iff_eq.mp h4]
theorem apart_0 : ((List.range 16).all fun n => (List.range n).all fun m => wordsOf' ((m : Int) * 1) != wordsOf' ((n : Int) * 1)) = true := by decide +kernel
theorem apart_1 : ((List.range 16).all fun n => (List.range n).all fun m => wordsOf' ((m : Int) * 2) != wordsOf' ((n : Int) * 2)) = true := by decide +kernel
theorem apart_2 : ((List.range 16).all fun n => (List.range n).all fun m => wordsOf' ((m : Int) * 4) != wordsOf' ((n : Int) * 4)) = true := by decide +kernel
theorem apart_3 : ((List.range 16).all fun n => (List.range n).all fun m => wordsOf' ((m : Int) * 8) != wordsOf' ((n : Int) * 8)) = true := by decide +kernel
theorem apart_4 : ((List.range 16).all fun n => (List.range n).all fun m => wordsOf' ((m : Int) * 16) != wordsOf' ((n : Int) * 16)) = true := by decide +kernel
theorem apart_5 : ((List.range 16).all fun n => (List.range n).all fun m => wordsOf' ((m : Int) * 32) != wordsOf' ((n : Int) * 32)) = true := by decide +kernel
theorem apart_6 : ((List.range 16).all fun n => (List.range n).all fun m => wordsOf' ((m : Int) * 64) != wordsOf' ((n : Int) * 64)) = true := by decide +kernel
theorem apart_7 : ((List.range 16).all fun n => (List.range n).all fun m => wordsOf' ((m : Int) * 128) != wordsOf' ((n : Int) * 128)) = true := by decide +kernel
theorem apart_8 : ((List.range 16).all fun n => (List.range n).all fun m => wordsOf' ((m : Int) * 256) != wordsOf' ((n : Int) * 256)) = true := by decide +kernel
theorem words_apart {n m s : Nat} (hs : s < 9) (hn : n < 16) (hm : m < n) : wordsOf ((m : Int) * 2 ^ s) ≠ wordsOf ((n : Int) * 2 ^ s) := by
  have key : ((List.range 16).all fun n => (List.range n).all fun m => wordsOf' ((m : Int) * 2 ^ s) != wordsOf' ((n : Int) * 2 ^ s)) = true := by
    match s, hs with
    | 0, _ => exact apart_0
    | 1, _ => exact apart_1
    | 2, _ => exact apart_2
    | 3, _ => exact apart_3
    | 4, _ => exact apart_4
    | 5, _ => exact apart_5
    | 6, _ => exact apart_6
    | 7, _ => exact apart_7
    | 8, _ => exact apart_8
  have := List.all_eq_true.mp (List.all_eq_true.mp key n (List.mem_range.mpr hn)) m (List.mem_range.mpr hm)
  rw [words_of_are, words_of_are]
  simpa using this
end Mine
-- Ke
namespace Mine
open PySem PySem.Calls PyProof.Rows PySem.W
set_option maxRecDepth 100000
/-! rows and columns have equally many unions -/
def addN (num : Nat) (acc : List Nat) (o : Nat) : List Nat := if acc.any (· == (o ||| num)) then acc else acc ++ [o ||| num]
def stepN (us : List Nat) (num : Nat) : List Nat := us.foldl (addN num) us
def unionsN (nums : List Nat) : List Nat := nums.foldl stepN [0]
theorem nodup_one {α : Type} (a : α) : [a].Nodup := List.pairwise_singleton _ _
theorem mem_addN {num : Nat} {acc : List Nat} {o x : Nat} : x ∈ addN num acc o ↔ x ∈ acc ∨ x = o ||| num := by
  unfold addN
  split
  · rename_i h
    obtain ⟨y, hy, e⟩ := List.any_eq_true.mp h
    rw [beq_iff_eq] at e
    subst e
    exact ⟨.inl, fun q => q.elim id fun e => by rw [e]; exact hy⟩
  · rw [List.mem_append, List.mem_singleton]
theorem nodup_addN {num : Nat} {acc : List Nat} {o : Nat} (h : acc.Nodup) : (addN num acc o).Nodup := by
  unfold addN
  split
  · exact h
  · rename_i q
    rw [List.nodup_append]
    refine ⟨h, nodup_one _, fun a ha b hb e => ?_⟩
    rw [List.mem_singleton.mp hb] at e
    subst e
    exact q (List.any_eq_true.mpr ⟨_, ha, beq_self_eq_true _⟩)
theorem mem_foldN {num : Nat} : ∀ {os acc : List Nat} {x : Nat}, x ∈ os.foldl (addN num) acc ↔ x ∈ acc ∨ ∃ o ∈ os, x = o ||| num
  | [], acc, x => ⟨.inl, fun q => q.elim id fun ⟨_, h, _⟩ => by cases h⟩
  | o :: os, acc, x => by
    rw [List.foldl_cons, mem_foldN, mem_addN]
    constructor
    · rintro ((h | h) | ⟨p, hp, e⟩)
      · exact .inl h
      · exact .inr ⟨o, List.mem_cons_self, h⟩
      · exact .inr ⟨p, List.mem_cons_of_mem _ hp, e⟩
    · rintro (h | ⟨p, hp, e⟩)
      · exact .inl (.inl h)
      · rcases List.mem_cons.mp hp with rfl | m
        · exact .inl (.inr e)
        · exact .inr ⟨p, m, e⟩
theorem nodup_foldN {num : Nat} : ∀ {os acc : List Nat}, acc.Nodup → (os.foldl (addN num) acc).Nodup
  | [], _, h => h
  | o :: os, acc, h => nodup_foldN (os := os) (acc := addN num acc o) (nodup_addN h)
theorem mem_stepN {us : List Nat} {num x : Nat} : x ∈ stepN us num ↔ x ∈ us ∨ ∃ o ∈ us, x = o ||| num := mem_foldN
theorem mem_unionsFrom : ∀ {ns us : List Nat} {x : Nat}, x ∈ ns.foldl stepN us ↔ ∃ o ∈ us, ∃ S, S.Sublist ns ∧ x = o ||| orL S
  | [], us, x => by
    constructor
    · intro h; exact ⟨x, h, [], List.Sublist.slnil, (Nat.or_zero x).symm⟩
    · rintro ⟨o, ho, S, hS, e⟩
      rw [List.sublist_nil.mp hS] at e
      rw [e]
      show o ||| 0 ∈ us
      rw [Nat.or_zero]; exact ho
  | n :: ns, us, x => by
    rw [List.foldl_cons, mem_unionsFrom]
    constructor
    · rintro ⟨o, ho, S, hS, e⟩
      rcases mem_stepN.mp ho with h | ⟨p, hp, e'⟩
      · exact ⟨o, h, S, hS.cons n, e⟩
      · refine ⟨p, hp, n :: S, hS.cons₂ n, ?_⟩
        rw [e, e', orL_cons, Nat.or_assoc]
    · rintro ⟨o, ho, S, hS, e⟩
      cases hS with
      | cons _ h => exact ⟨o, mem_stepN.mpr (.inl ho), S, h, e⟩
      | cons_cons _ h =>
        refine ⟨o ||| n, mem_stepN.mpr (.inr ⟨o, ho, rfl⟩), _, h, ?_⟩
        rw [e, orL_cons, Nat.or_assoc]
theorem mem_unions {nums : List Nat} {x : Nat} : x ∈ unionsN nums ↔ ∃ S, S.Sublist nums ∧ x = orL S := by
  unfold unionsN
  rw [mem_unionsFrom]
  constructor
  · rintro ⟨o, ho, S, hS, e⟩
    rw [List.mem_singleton.mp ho, Nat.zero_or] at e
    exact ⟨S, hS, e⟩
  · rintro ⟨S, hS, e⟩
    exact ⟨0, List.mem_singleton.mpr rfl, S, hS, by rw [Nat.zero_or]; exact e⟩
theorem nodup_unionsFrom : ∀ {ns us : List Nat}, us.Nodup → (ns.foldl stepN us).Nodup
  | [], _, h => h
  | n :: ns, us, h => nodup_unionsFrom (ns := ns) (us := stepN us n) (nodup_foldN h)
theorem nodup_unions (nums : List Nat) : (unionsN nums).Nodup := nodup_unionsFrom (nodup_one _)
theorem orL_le {v : Nat} : ∀ {S : List Nat}, (∀ n ∈ S, n ||| v = v) → orL S ||| v = v
  | [], _ => Nat.zero_or v
  | n :: S, h => by
    rw [orL_cons, Nat.or_assoc, orL_le fun m hm => h m (List.mem_cons_of_mem _ hm)]
    exact h n List.mem_cons_self
theorem le_orL {n : Nat} : ∀ {S : List Nat}, n ∈ S → n ||| orL S = orL S
  | m :: S, h => by
    rw [orL_cons]
    rcases List.mem_cons.mp h with rfl | q
    · rw [← Nat.or_assoc, Nat.or_self]
    · rw [← Nat.or_assoc, Nat.or_comm n m, Nat.or_assoc, le_orL q]
theorem sumBits_inj {a b : Nat → Bool} (h : sumBits a = sumBits b) : ∀ j < 4, a j = b j := by
  rw [sumBits_eq, sumBits_eq] at h
  have key : ∀ a0 a1 a2 a3 b0 b1 b2 b3 : Bool, ((if a0 then (1 : Int) else 0) + ((if a1 then 2 else 0) + ((if a2 then 4 else 0) + (if a3 then 8 else 0)))) = ((if b0 then 1 else 0) + ((if b1 then 2 else 0) + ((if b2 then 4 else 0) + (if b3 then 8 else 0)))) → a0 = b0 ∧ a1 = b1 ∧ a2 = b2 ∧ a3 = b3 := by decide
  obtain ⟨h0, h1, h2, h3⟩ := key _ _ _ _ _ _ _ _ h
  intro j hj
  match j, hj with
  | 0, _ => exact h0
  | 1, _ => exact h1
  | 2, _ => exact h2
  | 3, _ => exact h3
theorem sumBits_congr {a b : Nat → Bool} (h : ∀ j < 4, a j = b j) : sumBits a = sumBits b := by
  rw [sumBits_eq, sumBits_eq, h 0 (by decide), h 1 (by decide), h 2 (by decide), h 3 (by decide)]
/-- those that lie in v -/
def inside (nums : List Nat) (v : Nat) : Int := sumBits fun j => (nums.getD j 0 ||| v) == v
theorem getD_mem {nums : List Nat} {j : Nat} (h : j < nums.length) : nums.getD j 0 ∈ nums := by
  rw [List.getD_eq_getElem?_getD, List.getElem?_eq_getElem h]; exact List.getElem_mem h
theorem inside_union {nums : List Nat} (hl : nums.length = 4) (v : Nat) : ∃ u ∈ unionsN nums, inside nums u = inside nums v := by
  refine ⟨orL (nums.filter fun n => (n ||| v) == v), mem_unions.mpr ⟨_, List.filter_sublist, rfl⟩, sumBits_congr fun j hj => ?_⟩
  have hm : nums.getD j 0 ∈ nums := getD_mem (by omega)
  have hu : orL (nums.filter fun n => (n ||| v) == v) ||| v = v := orL_le fun n hn => beq_iff_eq.mp (List.mem_filter.mp hn).2
  rw [Bool.eq_iff_iff, beq_iff_eq, beq_iff_eq]
  constructor
  · intro h
    rw [← hu, ← Nat.or_assoc, h]
  · intro h
    exact le_orL (List.mem_filter.mpr ⟨hm, beq_iff_eq.mpr h⟩)
theorem mem_getD {nums : List Nat} {n : Nat} (h : n ∈ nums) : ∃ j < nums.length, nums.getD j 0 = n := by
  obtain ⟨j, hj, e⟩ := List.getElem_of_mem h
  exact ⟨j, hj, by rw [List.getD_eq_getElem?_getD, List.getElem?_eq_getElem hj]; exact e⟩
theorem inside_le {nums : List Nat} (hl : nums.length = 4) {u v : Nat} (hu : u ∈ unionsN nums) (h : inside nums u = inside nums v) : u ||| v = v := by
  obtain ⟨S, hS, rfl⟩ := mem_unions.mp hu
  refine orL_le fun n hn => ?_
  obtain ⟨j, hj, rfl⟩ := mem_getD (hS.subset hn)
  have := sumBits_inj h j (by omega)
  have q : ((nums.getD j 0 ||| orL S) == orL S) = true := beq_iff_eq.mpr (le_orL hn)
  rw [q] at this
  exact beq_iff_eq.mp this.symm
theorem inside_inj {nums : List Nat} (hl : nums.length = 4) {u v : Nat} (hu : u ∈ unionsN nums) (hv : v ∈ unionsN nums) (h : inside nums u = inside nums v) : u = v := by
  have h1 := inside_le hl hu h
  have h2 := inside_le hl hv h.symm
  rw [Nat.or_comm] at h2
  exact h2.symm.trans h1
theorem mem_addO {acc : List Str} {o x : Str} : x ∈ addO acc o ↔ x ∈ acc ∨ x = o := by
  unfold addO
  split
  · rename_i h
    obtain ⟨y, hy, e⟩ := List.any_eq_true.mp h
    rw [beq_iff_eq] at e
    subst e
    exact ⟨.inl, fun q => q.elim id fun e => by rw [e]; exact hy⟩
  · rw [List.mem_append, List.mem_singleton]
theorem mem_onceFrom : ∀ {os acc : List Str} {x : Str}, x ∈ os.foldl addO acc ↔ x ∈ acc ∨ x ∈ os
  | [], acc, x => ⟨.inl, fun q => q.elim id fun h => by cases h⟩
  | o :: os, acc, x => by
    rw [List.foldl_cons, mem_onceFrom, mem_addO, List.mem_cons, or_assoc]
theorem nodup_addO {acc : List Str} {o : Str} (h : acc.Nodup) : (addO acc o).Nodup := by
  unfold addO
  split
  · exact h
  · rename_i q
    rw [List.nodup_append]
    refine ⟨h, nodup_one _, fun a ha b hb e => ?_⟩
    rw [List.mem_singleton.mp hb] at e
    subst e
    exact q (List.any_eq_true.mpr ⟨_, ha, beq_self_eq_true _⟩)
theorem nodup_onceFrom : ∀ {os acc : List Str}, acc.Nodup → (os.foldl addO acc).Nodup
  | [], _, h => h
  | o :: os, acc, h => nodup_onceFrom (os := os) (acc := addO acc o) (nodup_addO h)
theorem perm_of_same {α : Type} [DecidableEq α] : ∀ {l m : List α}, l.Nodup → m.Nodup → (∀ x, x ∈ l ↔ x ∈ m) → l.Perm m
  | [], m, _, _, h => by
    cases m with
    | nil => exact List.Perm.nil
    | cons a m => exact absurd ((h a).mpr List.mem_cons_self) List.not_mem_nil
  | a :: l, m, hl, hm, h => by
    rw [List.nodup_cons] at hl
    have ha : a ∈ m := (h a).mp List.mem_cons_self
    refine (List.Perm.cons a (perm_of_same hl.2 (hm.erase a) fun x => ?_)).trans (List.perm_cons_erase ha).symm
    rw [hm.mem_erase_iff]
    constructor
    · intro hx
      refine ⟨fun e => ?_, (h x).mp (List.mem_cons_of_mem _ hx)⟩
      subst e; exact hl.1 hx
    · rintro ⟨hn, hx⟩
      rcases List.mem_cons.mp ((h x).mpr hx) with e | q
      · exact absurd e hn
      · exact q
/-- each union tells one of the words, each another one, and none is left over -/
theorem galois {nums : List Nat} (hl : nums.length = 4) (hn : ∀ n ∈ nums, n < 16) (G : Int → Str) (inj : ∀ a b : Int, 0 ≤ a → a ≤ 15 → 0 ≤ b → b ≤ 15 → G a = G b → a = b) :
    sortC (onceOf ((List.range 16).map fun c => G (inside nums (15 - c)))) = sortC ((unionsN nums).map fun u => G (inside nums u)) := by
  have hU : ∀ u ∈ unionsN nums, u < 16 := fun u hu => by
    obtain ⟨S, hS, rfl⟩ := mem_unions.mp hu
    exact orL_lt fun a ha => hn a (hS.subset ha)
  have hr : ∀ v, 0 ≤ inside nums v ∧ inside nums v ≤ 15 := fun v => sumBits_small _
  refine sortC_perm (perm_of_same (nodup_onceFrom List.nodup_nil) ?_ fun x => ?_)
  · refine List.Pairwise.map _ ?_ (List.pairwise_iff_forall_sublist.mpr fun {a b} hab => ?_) (R := fun a b => a ∈ unionsN nums ∧ b ∈ unionsN nums ∧ a ≠ b)
    · rintro a b ⟨ha, hb, ne⟩ e
      exact ne (inside_inj hl ha hb (inj _ _ (hr a).1 (hr a).2 (hr b).1 (hr b).2 e))
    · refine ⟨hab.subset List.mem_cons_self, hab.subset (List.mem_cons_of_mem _ List.mem_cons_self), ?_⟩
      exact List.pairwise_iff_forall_sublist.mp (nodup_unions nums) hab
  · unfold onceOf
    rw [mem_onceFrom, List.mem_map, List.mem_map]
    constructor
    · rintro (h | ⟨c, _, rfl⟩)
      · cases h
      · obtain ⟨u, hu, e⟩ := inside_union hl (15 - c)
        exact ⟨u, hu, by rw [e]⟩
    · rintro ⟨u, hu, rfl⟩
      have := hU u hu
      exact .inr ⟨15 - u, List.mem_range.mpr (by omega), by rw [show 15 - (15 - u) = u by omega]⟩
end Mine
-- Kf
namespace Mine
open PySem PySem.Calls PyProof.Rows PySem.W
set_option maxRecDepth 100000
abbrev castL (l : List Nat) : List Int := l.map fun n => ((n : Nat) : Int)
theorem addU_cast {num o : Nat} (hn : num < 16) (ho : o < 16) (acc : List Nat) : addU (num : Int) (castL acc) (o : Int) = castL (addN num acc o) := by
  unfold addU addN
  rw [or16 o ho num hn]
  have e : (castL acc).any (· == ((o ||| num : Nat) : Int)) = acc.any (· == (o ||| num)) := by
    unfold castL
    rw [List.any_map]
    congr 1
    funext n
    show (((n : Nat) : Int) == ((o ||| num : Nat) : Int)) = (n == (o ||| num))
    rw [Bool.eq_iff_iff, beq_iff_eq, beq_iff_eq]
    exact Int.ofNat_inj
  rw [e]
  split
  · rfl
  · unfold castL; rw [List.map_append]; rfl
theorem foldU_cast {num : Nat} (hn : num < 16) : ∀ (os acc : List Nat), (∀ o ∈ os, o < 16) → (castL os).foldl (addU (num : Int)) (castL acc) = castL (os.foldl (addN num) acc)
  | [], _, _ => rfl
  | o :: os, acc, h => by
    show (castL os).foldl (addU (num : Int)) (addU (num : Int) (castL acc) (o : Int)) = _
    rw [addU_cast hn (h o List.mem_cons_self), foldU_cast hn os _ fun p hp => h p (List.mem_cons_of_mem _ hp)]
    rfl
theorem unionsFrom_cast : ∀ (ns us : List Nat), (∀ n ∈ ns, n < 16) → (∀ u ∈ us, u < 16) → (castL ns).foldl uStep (castL us) = castL (ns.foldl stepN us)
  | [], _, _, _ => rfl
  | n :: ns, us, hn, hu => by
    have h1 := hn n List.mem_cons_self
    show (castL ns).foldl uStep ((castL us).foldl (addU (n : Int)) (castL us)) = _
    rw [foldU_cast h1 us us hu]
    exact unionsFrom_cast ns (stepN us n) (fun m hm => hn m (List.mem_cons_of_mem _ hm)) fun u h => by
      rcases mem_stepN.mp h with q | ⟨o, ho, rfl⟩
      · exact hu u q
      · exact lt_or (hu o ho) h1
theorem unions_cast {ns : List Nat} (h : ∀ n ∈ ns, n < 16) : unionsOf (castL ns) = castL (unionsN ns) := unionsFrom_cast ns [0] h fun u hu => by rw [List.mem_singleton.mp hu]; decide
theorem foldN_len (num : Nat) : ∀ (os acc : List Nat), (os.foldl (addN num) acc).length ≤ acc.length + os.length
  | [], _ => Nat.le_refl _
  | o :: os, acc => by
    have h1 := foldN_len num os (addN num acc o)
    have h2 : (addN num acc o).length ≤ acc.length + 1 := by
      unfold addN; split
      · omega
      · rw [List.length_append]; exact Nat.le_refl _
    rw [List.foldl_cons, List.length_cons]
    omega
theorem unionsFrom_len : ∀ (ns us : List Nat), (ns.foldl stepN us).length ≤ us.length * 2 ^ ns.length
  | [], us => by show us.length ≤ us.length * 1; omega
  | n :: ns, us => by
    have h1 := unionsFrom_len ns (stepN us n)
    have h2 : (stepN us n).length ≤ us.length * 2 := by have := foldN_len n us us; unfold stepN; omega
    rw [List.foldl_cons, List.length_cons, Nat.pow_succ, Nat.mul_comm (2 ^ ns.length), ← Nat.mul_assoc]
    exact Nat.le_trans h1 (Nat.mul_le_mul_right _ h2)
theorem unions_len {ns : List Nat} (h : ns.length = 4) : (unionsN ns).length ≤ 16 := by
  have := unionsFrom_len ns [0]
  rw [h] at this
  exact this
theorem bits_of : ∀ r : Nat, r < 16 → sumBits (bitAt (r : Int)) = (r : Int) := by decide +kernel
theorem bits_or : ∀ a : Nat, a < 16 → ∀ b : Nat, b < 16 → ∀ j : Nat, j < 4 → bitAt ((a ||| b : Nat) : Int) j = (bitAt (a : Int) j || bitAt (b : Int) j) := by decide +kernel
theorem out_of : ∀ a : Nat, a < 16 → ∀ c : Nat, c < 16 → (Builtin.bitAnd (a : Int) (c : Int) != 0) = !((a ||| (15 - c)) == 15 - c) := by decide +kernel
theorem not_of : ∀ a : Nat, a < 16 → ∀ u : Nat, u < 16 → (Builtin.bitAnd (a : Int) (Builtin.bitNot (u : Int)) == 0) = ((a ||| u) == u) := by decide +kernel
theorem meets_of : ∀ c : Nat, c < 16 → ∀ b0 b1 b2 b3 : Bool, (Builtin.bitAnd ((if b0 then (1 : Int) else 0) + ((if b1 then 2 else 0) + ((if b2 then 4 else 0) + (if b3 then 8 else 0)))) (c : Int) != 0) = ((b0 && bitAt (c : Int) 0) || ((b1 && bitAt (c : Int) 1) || ((b2 && bitAt (c : Int) 2) || (b3 && bitAt (c : Int) 3)))) := by decide +kernel
theorem sumBits_not (b : Nat → Bool) : 15 - sumBits b = sumBits fun j => !b j := by
  rw [sumBits_eq, sumBits_eq]
  cases b 0 <;> cases b 1 <;> cases b 2 <;> cases b 3 <;> rfl
/-- the columns of the rows -/
def colsOf (R : List Nat) : List Nat := (List.range 4).map fun j => (sumBits fun i => bitAt ((R.getD i 0 : Nat) : Int) j).toNat
theorem colsOf_len (R : List Nat) : (colsOf R).length = 4 := by unfold colsOf; rw [List.length_map]; rfl
theorem colsOf_lt (R : List Nat) : ∀ n ∈ colsOf R, n < 16 := fun n hn => by
  obtain ⟨j, _, rfl⟩ := List.mem_map.mp hn
  have := sumBits_small fun i => bitAt ((R.getD i 0 : Nat) : Int) j
  omega
theorem range_getD {f : Nat → Nat} {j : Nat} (h : j < 4) : ((List.range 4).map f).getD j 0 = f j := by
  rw [List.getD_eq_getElem?_getD, List.getElem?_map, List.getElem?_range h]; rfl
theorem colsOf_at (R : List Nat) {j : Nat} (h : j < 4) : (((colsOf R).getD j 0 : Nat) : Int) = sumBits fun i => bitAt ((R.getD i 0 : Nat) : Int) j := by
  unfold colsOf
  rw [range_getD h, Int.toNat_of_nonneg (sumBits_small _).1]
theorem getD_cast (l : List Nat) (j : Nat) : (castL l).getD j 0 = ((l.getD j 0 : Nat) : Int) := by
  unfold castL
  rw [List.getD_eq_getElem?_getD, List.getD_eq_getElem?_getD, List.getElem?_map]
  cases l[j]? <;> rfl
theorem getD_lt {R : List Nat} (h : ∀ n ∈ R, n < 16) (j : Nat) : R.getD j 0 < 16 := by
  rw [List.getD_eq_getElem?_getD]
  cases e : R[j]? with
  | none => decide
  | some n => exact h n (List.mem_of_getElem? e)
/-- the union of the rows that a choice picks -/
def pick (R : List Nat) (c : Nat) : Nat := orL (((List.range 4).filter (bitAt (c : Int))).map fun i => R.getD i 0)
theorem pick_is (R : List Nat) (h : ∀ n ∈ R, n < 16) (c : Nat) (hc : c < 16) : ((pick R c : Nat) : Int) = sumBits fun j => Builtin.bitAnd (((colsOf R).getD j 0 : Nat) : Int) (c : Int) != 0 := by
  have hp : pick R c < 16 := orL_lt fun a ha => by obtain ⟨i, _, rfl⟩ := List.mem_map.mp ha; exact getD_lt h i
  rw [← bits_of _ hp]
  refine sumBits_congr fun j hj => ?_
  rw [colsOf_at R hj, sumBits_eq, meets_of c hc]
  have bor : ∀ {l : List Nat}, (∀ a ∈ l, a < 16) → bitAt ((orL l : Nat) : Int) j = l.any fun a => bitAt (a : Int) j := by
    intro l
    induction l with
    | nil => intro _; show bitAt ((0 : Nat) : Int) j = false; exact (by decide +kernel : ∀ j : Nat, j < 4 → bitAt ((0 : Nat) : Int) j = false) j hj
    | cons a l ih =>
      intro hl
      have h1 := hl a List.mem_cons_self
      have h2 : ∀ b ∈ l, b < 16 := fun b hb => hl b (List.mem_cons_of_mem _ hb)
      rw [orL_cons, bits_or a h1 _ (orL_lt h2) j hj, ih h2, List.any_cons]
  unfold pick
  rw [bor fun a ha => by obtain ⟨i, _, rfl⟩ := List.mem_map.mp ha; exact getD_lt h i]
  rw [List.any_map, List.any_filter, show List.range 4 = [0, 1, 2, 3] from rfl]
  simp only [List.any_cons, List.any_nil, Bool.or_false, Function.comp]
  rw [Bool.and_comm (bitAt (c : Int) 0), Bool.and_comm (bitAt (c : Int) 1), Bool.and_comm (bitAt (c : Int) 2), Bool.and_comm (bitAt (c : Int) 3)]
theorem quiet_is (R : List Nat) (h : ∀ n ∈ R, n < 16) (c : Nat) (hc : c < 16) : 15 - ((pick R c : Nat) : Int) = inside (colsOf R) (15 - c) := by
  rw [pick_is R h c hc, sumBits_not]
  refine sumBits_congr fun j hj => ?_
  rw [out_of _ (getD_lt (colsOf_lt R) j) c hc, Bool.not_not]
theorem hit_is (R : List Nat) (h : ∀ n ∈ R, n < 16) (c : Nat) (hc : c < 16) : (sumBits fun i => Builtin.bitAnd ((R.getD i 0 : Nat) : Int) (c : Int) != 0) = 15 - inside R (15 - c) := by
  unfold inside
  rw [sumBits_not]
  refine sumBits_congr fun j hj => ?_
  rw [out_of _ (getD_lt h j) c hc]
theorem told_is (R : List Nat) (h : ∀ n ∈ R, n < 16) (u : Nat) (hu : u < 16) : (sumBits fun j => Builtin.bitAnd ((R.getD j 0 : Nat) : Int) (Builtin.bitNot (u : Int)) == 0) = inside R u :=
  sumBits_congr fun j hj => not_of _ (getD_lt h j) u hu
theorem back_is (R : List Nat) (h : ∀ n ∈ R, n < 16) (u : Nat) (hu : u < 16) : (sumBits fun j => Builtin.bitAnd ((R.getD j 0 : Nat) : Int) (Builtin.bitNot (u : Int)) != 0) = 15 - inside R u := by
  rw [← told_is R h u hu, sumBits_not]
  rfl
end Mine
-- Kg
namespace Mine
open PySem PySem.Calls PyProof.Rows PySem.W
set_option maxRecDepth 100000
theorem join_cps : ∀ xs : List Str, (Txt.join "" xs).cps.toList = xs.flatMap fun x => x.cps.toList := by
  intro xs
  show (Builtin.Str.glued "" xs).cps.toList = _
  rw [StrLaws.glued_eq_join]
  induction xs with
  | nil => rfl
  | cons x r ih =>
    rw [List.flatMap_cons]
    cases r with
    | nil => show x.cps.toList = _; rw [List.flatMap_nil, List.append_nil]
    | cons y r =>
      rw [← ih]
      show (x ++ "" ++ Str.join "" (y :: r)).cps.toList = _
      rw [cps_app, cps_app]
      show x.cps.toList ++ [] ++ _ = _
      rw [List.append_nil]
theorem join_alph {xs : List Str} (h : ∀ x ∈ xs, Alph x) : Alph (Txt.join "" xs) := fun c hc => by
  rw [join_cps] at hc
  obtain ⟨x, hx, q⟩ := List.mem_flatMap.mp hc
  exact h x hx c q
theorem flat_len : ∀ {xs : List Str}, (∀ x ∈ xs, x.length ≤ 3) → (xs.flatMap fun x => x.cps.toList).length ≤ 3 * xs.length
  | [], _ => Nat.le_refl _
  | x :: xs, h => by
    have h1 := h x List.mem_cons_self
    have h2 := flat_len (xs := xs) fun y hy => h y (List.mem_cons_of_mem _ hy)
    rw [List.flatMap_cons, List.length_append, List.length_cons]
    rw [len_cps] at h1
    omega
theorem join_len {xs : List Str} (h : ∀ x ∈ xs, x.length ≤ 3) (hl : xs.length ≤ 4) : (Txt.join "" xs).length ≤ 12 := by
  rw [len_cps, join_cps]
  have := flat_len h
  omega
theorem row_join (wri : Str) : ∀ xs : List Str, rowN wri (Txt.join "" xs) = orL (xs.map (rowN wri)) := by
  intro xs
  unfold rowN
  rw [join_cps]
  induction xs with
  | nil => rfl
  | cons x r ih =>
    rw [List.flatMap_cons, List.map_append, orL_app, ih, List.map_cons, orL_cons]
theorem join_ok {xs : List Str} (h : ∀ x ∈ xs, x.length ≤ 3) (hl : xs.length ≤ 4) : JoinOk "" xs = true := by
  refine joinOk_of_weight ?_ (by decide)
  have key : ∀ {ys : List Str}, (∀ x ∈ ys, x.length ≤ 3) → (ys.map (·.length)).sum ≤ 3 * ys.length := by
    intro ys
    induction ys with
    | nil => intro _; exact Nat.le_refl _
    | cons y ys ih =>
      intro h
      have h1 := h y List.mem_cons_self
      have h2 := ih fun z hz => h z (List.mem_cons_of_mem _ hz)
      rw [List.map_cons, List.sum_cons, List.length_cons]
      omega
  have := key h
  omega
/-- the cells -/
structure CellsIn (cs : List Int) (b : Int) : Prop where
  len : cs.length = 4
  rng : ∀ c ∈ cs, 0 ≤ c ∧ c ≤ b
theorem cell_step {cs : List Int} {b : Int} (h : CellsIn cs b) (q : Int × Nat) : CellsIn (cellStep cs q) (b + 1000000000) := by
  have h1 : 0 ≤ q.1.fmod 1000000000 := Int.fmod_nonneg_of_pos _ (by decide)
  have h2 : q.1.fmod 1000000000 < 1000000000 := Int.fmod_lt_of_pos _ (by decide)
  have hg : 0 ≤ cs.getD (q.2 % 4) 0 ∧ cs.getD (q.2 % 4) 0 ≤ b := by
    refine h.rng _ ?_
    have : q.2 % 4 < cs.length := by rw [h.len]; exact Nat.mod_lt _ (by decide)
    rw [List.getD_eq_getElem?_getD, List.getElem?_eq_getElem this]
    exact List.getElem_mem this
  refine ⟨by unfold cellStep; rw [List.length_set]; exact h.len, fun c hc => ?_⟩
  unfold cellStep at hc
  rcases List.mem_or_eq_of_mem_set hc with m | e
  · have := h.rng c m; omega
  · omega
theorem cells_fold : ∀ (l : List (Int × Nat)) {cs : List Int} {b : Int}, CellsIn cs b → CellsIn (l.foldl cellStep cs) (b + 1000000000 * l.length)
  | [], cs, b, h => by rw [List.length_nil]; simpa using h
  | q :: l, cs, b, h => by
    have := cells_fold l (cell_step h q)
    rw [List.foldl_cons, List.length_cons]
    have e : b + 1000000000 * ((l.length + 1 : Nat) : Int) = b + 1000000000 + 1000000000 * (l.length : Int) := by omega
    rw [e]; exact this
theorem cells_in (ns : List Int) : CellsIn (cellsOf ns) 20000098701 := by
  have h0 : CellsIn [649, 36301, 98701, 4129] 98701 := ⟨rfl, by decide⟩
  have h := cells_fold ((ns.take 20).zipIdx) h0
  have hl : ((ns.take 20).zipIdx).length ≤ 20 := by rw [List.length_zipIdx, List.length_take]; omega
  refine ⟨h.len, fun c hc => ?_⟩
  have := h.rng c hc
  omega
theorem sum_range : ∀ {l : List Int} {b : Int}, 0 ≤ b → (∀ c ∈ l, 0 ≤ c ∧ c ≤ b) → 0 ≤ l.sum ∧ l.sum ≤ b * l.length
  | [], b, _, _ => by simp
  | c :: l, b, hb, h => by
    have h1 := h c List.mem_cons_self
    have h2 := sum_range hb fun d hd => h d (List.mem_cons_of_mem _ hd)
    rw [List.sum_cons, List.length_cons, Int.natCast_add, Int.mul_add]
    omega
section
variable {cs : List Int}
theorem zip_way (cs : List Int) : ∃ es, csD cs = escM es ∧ (es, wriD cs) ∈ escK.zip wrL ∧ escFits es 12 = true := by
  have hw := way_range cs
  unfold csD wriD
  generalize hk : (wayD cs).toNat = k
  have hk5 : k < 5 := by omega
  have key : ∀ k : Nat, k < 5 → (escs.getD k [] = escM (escK.getD k [])) ∧ escK.getD k [] ∈ escK := by
    intro k hk
    have h1 : k < escK.length := hk
    rw [escs_eq, List.getD_eq_getElem?_getD, List.getD_eq_getElem?_getD, List.getElem?_map, List.getElem?_eq_getElem h1]
    exact ⟨rfl, List.getElem_mem h1⟩
  obtain ⟨e1, e2⟩ := key k hk5
  refine ⟨escK.getD k [], e1, ?_, List.all_eq_true.mp escK_fits _ e2⟩
  have h1 : k < escK.length := hk5
  have h2 : k < wrL.length := hk5
  have h3 : k < (escK.zip wrL).length := by rw [List.length_zip]; exact Nat.lt_min.mpr ⟨h1, h2⟩
  have := List.getElem_mem h3
  rw [List.getElem_zip] at this
  rw [List.getD_eq_getElem?_getD, List.getElem?_eq_getElem h1, List.getD_eq_getElem?_getD, List.getElem?_eq_getElem h2]
  exact this
def rowsN (cs : List Int) : List Nat := (textsD cs).map (rowN (wriD cs))
theorem rowN_lt (wri x : Str) : rowN wri x < 16 := orL_lt fun a ha => by obtain ⟨c, _, rfl⟩ := List.mem_map.mp ha; exact rbit_lt wri c
theorem rowsN_lt (cs : List Int) : ∀ n ∈ rowsN cs, n < 16 := fun n hn => by
  obtain ⟨x, _, rfl⟩ := List.mem_map.mp hn
  exact rowN_lt _ x
theorem rows_cast (cs : List Int) : rowsD cs = castL (rowsN cs) := by
  unfold rowsD rowsN castL
  rw [List.map_map]
  exact List.map_congr_left fun x _ => row_is _ x
theorem cols_cast (cs : List Int) : colsD cs = castL (colsOf (rowsN cs)) := by
  unfold colsD colsOf castL
  rw [List.map_map]
  refine List.map_congr_left fun j _ => ?_
  show (sumBits fun i => bitAt ((rowsD cs).getD i 0) j) = (((sumBits fun i => bitAt (((rowsN cs).getD i 0 : Nat) : Int) j).toNat : Nat) : Int)
  rw [Int.toNat_of_nonneg (sumBits_small _).1]
  refine sumBits_congr fun i _ => ?_
  rw [rows_cast, ← getD_cast]
theorem texts_alph (cs : List Int) : ∀ t ∈ textsD cs, Alph t ∧ t.length ≤ 3 := fun t ht => by
  obtain ⟨c, _, rfl⟩ := List.mem_map.mp ht
  exact text_is c
theorem getD_text (cs : List Int) (i : Nat) : Alph ((textsD cs).getD i "") ∧ ((textsD cs).getD i "").length ≤ 3 := by
  rw [List.getD_eq_getElem?_getD]
  cases e : (textsD cs)[i]? with
  | none =>
    show Alph "" ∧ ("" : Str).length ≤ 3
    exact ⟨(fun c hc => nomatch hc), by decide⟩
  | some t => exact texts_alph cs t (List.mem_of_getElem? e)
theorem picks_alph (cs : List Int) (c : Nat) : ∀ t ∈ picksD cs c, Alph t ∧ t.length ≤ 3 := fun t ht => by
  obtain ⟨i, _, rfl⟩ := List.mem_map.mp ht
  exact getD_text cs i
theorem picks_len (cs : List Int) (c : Nat) : (picksD cs c).length ≤ 4 := by
  unfold picksD
  rw [List.length_map]
  exact Nat.le_trans (List.length_filter_le _ _) (by decide)
theorem joined_alph (cs : List Int) (c : Nat) : Alph (joinedD cs c) := join_alph fun x hx => (picks_alph cs c x hx).1
theorem joined_len (cs : List Int) (c : Nat) : (joinedD cs c).length ≤ 12 := join_len (fun x hx => (picks_alph cs c x hx).2) (picks_len cs c)
theorem text_ok (cs : List Int) {x : Str} (h : Alph x) (hl : x.length ≤ 12) : TextOk cs x := by
  obtain ⟨es, e1, _, e3⟩ := zip_way cs
  refine ⟨by rw [e1]; exact escOk_of es 12 x e3 hl, fun c hc => lower_short (h c hc)⟩
theorem find_row (cs : List Int) {x : Str} (h : Alph x) : findOf (getL (dictL (stmt 6))) (escape (csD cs)) x = ((rowN (wriD cs) x : Nat) : Int) := by
  obtain ⟨es, e1, e2, _⟩ := zip_way cs
  rw [e1, ← row_is]
  exact find_is_row e2 h
end
end Mine
-- Kh
namespace Mine
open PySem PySem.Calls PyProof.Rows PySem.W
set_option maxRecDepth 100000
abbrev fF : Int → Option Str := getL (dictL (stmt 1))
abbrev bF : Int → Option Str := getL (dictL (stmt 6))
section
variable {cs : List Int}
theorem shift_nat (cs : List Int) : ∃ s : Nat, s < 9 ∧ (shiftD cs).toNat = s := by
  have := shift_range cs
  exact ⟨_, by omega, rfl⟩
theorem num_all {s : Nat} (hs : s < 9) {t : Int} (h0 : 0 ≤ t) (h1 : t ≤ 15) : NumOk fF (t * 2 ^ s) ∧ prettyOf fF (t * 2 ^ s) = wordsOf (t * 2 ^ s) := by
  have h := nums_ok (n := t.toNat) (s := s) (by omega) hs
  rw [Int.toNat_of_nonneg h0] at h
  unfold fF
  rw [flags_are]
  exact num_says h
theorem word_inj {s : Nat} (hs : s < 9) (a b : Int) (a0 : 0 ≤ a) (a1 : a ≤ 15) (b0 : 0 ≤ b) (b1 : b ≤ 15) (e : wordsOf (a * 2 ^ s) = wordsOf (b * 2 ^ s)) : a = b := by
  have ea : a = ((a.toNat : Nat) : Int) := (Int.toNat_of_nonneg a0).symm
  have eb : b = ((b.toNat : Nat) : Int) := (Int.toNat_of_nonneg b0).symm
  rw [ea, eb] at e
  rcases Nat.lt_trichotomy a.toNat b.toNat with h | h | h
  · exact absurd e (words_apart hs (by omega) h)
  · omega
  · exact absurd e.symm (words_apart hs (by omega) h)
theorem found_is (cs : List Int) (c : Nat) : foundD bF cs c = ((pick (rowsN cs) c : Nat) : Int) := by
  unfold foundD
  rw [find_row cs (joined_alph cs c)]
  unfold joinedD
  rw [row_join]
  unfold picksD pick
  rw [List.map_map]
  congr 2
  refine List.map_congr_left fun i hi => ?_
  show rowN (wriD cs) ((textsD cs).getD i "") = (rowsN cs).getD i 0
  unfold rowsN
  rw [List.getD_eq_getElem?_getD, List.getD_eq_getElem?_getD, List.getElem?_map]
  cases (textsD cs)[i]? <;> rfl
theorem alone_cast (cs : List Int) : aloneD bF cs = castL (rowsN cs) := by
  unfold aloneD rowsN castL
  rw [List.map_map]
  exact List.map_congr_left fun x hx => find_row cs (texts_alph cs x hx).1
theorem found_range (cs : List Int) (c : Nat) : 0 ≤ foundD bF cs c ∧ foundD bF cs c ≤ 15 := by
  rw [found_is]
  have : pick (rowsN cs) c < 16 := orL_lt fun a ha => by obtain ⟨i, _, rfl⟩ := List.mem_map.mp ha; exact getD_lt (rowsN_lt cs) i
  omega
theorem law_ok (h : CellsIn cs 20000098701) : LawOk fF bF cs := by
  obtain ⟨s, hs, es⟩ := shift_nat cs
  have num : ∀ t : Int, 0 ≤ t → t ≤ 15 → NumOk fF (shD cs t) := fun t a b => by unfold shD; rw [es]; exact (num_all hs a b).1
  have lt : (textsD cs).length = 4 := by unfold textsD; rw [List.length_map]; exact h.len
  refine ⟨h.len, fun c hc => (h.rng c hc).1, fun j hj => ?_, fun t ht => text_ok cs (texts_alph cs t ht).1 (Nat.le_trans (texts_alph cs t ht).2 (by decide)), fun c _ => text_ok cs (joined_alph cs c) (joined_len cs c),
    fun c _ => join_ok (fun x hx => (picks_alph cs c x hx).2) (picks_len cs c), join_ok (fun x hx => (texts_alph cs x hx).2) (by omega), fun c _ => by have := found_range cs c; omega,
    fun c _ => num _ (found_range cs c).1 (found_range cs c).2, fun c _ => num _ (sumBits_small _).1 (sumBits_small _).2, fun c _ => num _ (by have := found_range cs c; omega) (by have := found_range cs c; omega),
    fun c _ => num _ (sumBits_small _).1 (sumBits_small _).2, fun u => num _ (sumBits_small _).1 (sumBits_small _).2, fun u => num _ (sumBits_small _).1 (sumBits_small _).2, ?_⟩
  · have hg : cs.getD j 0 ∈ cs := by
      rw [List.getD_eq_getElem?_getD, List.getElem?_eq_getElem hj]; exact List.getElem_mem hj
    have h1 := h.rng _ hg
    have h2 := sum_range (l := cs.take (j + 1)) (b := 20000098701) (by decide) fun c hc => h.rng c (List.mem_of_mem_take hc)
    have h3 : (cs.take (j + 1)).length ≤ 4 := by rw [List.length_take, h.len]; omega
    unfold InLong
    omega
  · rw [cols_cast, rows_cast, unions_cast (colsOf_lt _), unions_cast (rowsN_lt cs)]
    unfold castL
    rw [List.length_map, List.length_map]
    have h1 := unions_len (colsOf_len (rowsN cs))
    have h2 := unions_len (ns := rowsN cs) (by unfold rowsN; rw [List.length_map]; exact lt)
    omega
theorem unions_lt {R : List Nat} (h : ∀ n ∈ R, n < 16) : ∀ u ∈ unionsN R, u < 16 := fun u hu => by
  obtain ⟨S, hS, rfl⟩ := mem_unions.mp hu
  exact orL_lt fun a ha => h a (hS.subset ha)
theorem law_true (h : CellsIn cs 20000098701) : lawOf fF bF cs = true := by
  obtain ⟨s, hs, es⟩ := shift_nat cs
  have sh : ∀ t : Int, shD cs t = t * 2 ^ s := fun t => by unfold shD; rw [es]
  have lr : (rowsN cs).length = 4 := by unfold rowsN textsD; rw [List.length_map, List.length_map]; exact h.len
  have hr := rowsN_lt cs
  have e1 : sortC (onceOf (quietL fF bF cs)) = sortC (toldL cs) := by
    have hq : quietL fF bF cs = (List.range 16).map fun c => wordsOf (inside (colsOf (rowsN cs)) (15 - c) * 2 ^ s) := List.map_congr_left fun c hc => by
      unfold quietW
      have hc := List.mem_range.mp hc
      rw [sh, (num_all hs (by have := found_range cs c; omega) (by have := found_range cs c; omega)).2, found_is, quiet_is _ hr c hc]
    have ht : toldL cs = (unionsN (colsOf (rowsN cs))).map fun u => wordsOf (inside (colsOf (rowsN cs)) u * 2 ^ s) := by
      unfold toldL
      rw [cols_cast, unions_cast (colsOf_lt _)]
      unfold castL
      rw [List.map_map]
      refine List.map_congr_left fun u hu => ?_
      show wordsOf (shD cs (toldB cs (u : Int))) = _
      rw [sh]
      unfold toldB
      rw [← told_is _ (colsOf_lt _) u (unions_lt (colsOf_lt _) u hu), cols_cast]
      simp only [getD_cast]
    rw [hq, ht]
    exact galois (colsOf_len _) (colsOf_lt _) (fun t => wordsOf (t * 2 ^ s)) (word_inj hs)
  have e2 : sortC (onceOf (hitL fF bF cs)) = sortC (backL cs) := by
    have hq : hitL fF bF cs = (List.range 16).map fun c => wordsOf ((15 - inside (rowsN cs) (15 - c)) * 2 ^ s) := List.map_congr_left fun c hc => by
      unfold hitW
      have hc := List.mem_range.mp hc
      unfold hitB
      rw [sh, (num_all hs (sumBits_small _).1 (sumBits_small _).2).2]
      rw [← hit_is _ hr c hc, alone_cast]
      simp only [getD_cast]
    have ht : backL cs = (unionsN (rowsN cs)).map fun u => wordsOf ((15 - inside (rowsN cs) u) * 2 ^ s) := by
      unfold backL
      rw [rows_cast, unions_cast hr]
      unfold castL
      rw [List.map_map]
      refine List.map_congr_left fun u hu => ?_
      show wordsOf (shD cs (backB cs (u : Int))) = _
      rw [sh]
      unfold backB
      rw [← back_is _ hr u (unions_lt hr u hu), rows_cast]
      simp only [getD_cast]
    rw [hq, ht]
    exact galois lr hr (fun t => wordsOf ((15 - t) * 2 ^ s)) fun a b a0 a1 b0 b1 e => by
      have := word_inj hs (15 - a) (15 - b) (by omega) (by omega) (by omega) (by omega) e
      omega
  have e3 : (List.range 16).map (shownW fF bF cs) = (List.range 16).map (plainW cs) := List.map_congr_left fun c hc => by
    have hc := List.mem_range.mp hc
    unfold shownW plainW
    rw [sh, sh, (num_all hs (found_range cs c).1 (found_range cs c).2).2, found_is, pick_is _ hr c hc]
    unfold plainB
    rw [cols_cast]
    simp only [getD_cast]
  have e4 : (Txt.join "" (textsD cs)).cps.toList.all askOk = true := List.all_eq_true.mpr fun c hc => List.all_eq_true.mp asked_all c (join_alph (fun x hx => (texts_alph cs x hx).1) c hc)
  unfold lawOf
  rw [e1, e2, e3, e4, beq_self_eq_true, beq_self_eq_true, beq_self_eq_true]
  rfl
end
theorem plain_law (ns : List Int) : LawOk fF bF (cellsOf ns) ∧ lawOf fF bF (cellsOf ns) = true := ⟨law_ok (cells_in ns), law_true (cells_in ns)⟩
end Mine
open PySem PySem.W PyProof.Rows
set_option maxRecDepth 100000 in
theorem PySem.Challenge.cw_wa0046_01_holds : PySem.Challenge.rw_wa0046_01.Holds := by
  exact Mine.holds_of fun ns _ => Mine.plain_law ns
