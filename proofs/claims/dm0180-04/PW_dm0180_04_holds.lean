import PyProof.Rows.All
import Wide.All
import OpenK.AllK
import Wide.FinOn
import PySem.Challenge.RW_dm0180_04
open PySem PySem.W PyProof.Rows PySem.Calls
set_option Elab.async false
set_option maxRecDepth 100000
set_option maxHeartbeats 4000000
set_option linter.unusedVariables false
namespace Mine

/-- values without tokens and addresses; `ref k`: the k-th thing of the store -/
inductive V where
  | none | bool (b : Bool) | int (n : Int) | str (x : Str) | bytes (b : Array UInt8) | ref (k : Nat) | fix (v : Value)
inductive O where
  | list (vs : List V) | tuple (vs : List V) | cell (v : Option V) | range (a b c : Int) | junk
structure St where
  m : List (Str × V)
  os : List O
inductive F where
  | next | brk | cont | ret (v : V)

def VR (ad : List Addr) : V → Value → Prop
  | .none, w => w = .none
  | .bool b, w => w = .bool b
  | .int n, w => ∃ t, w = .int n t
  | .str x, w => ∃ t, w = .str x t
  | .bytes b, w => ∃ t, w = .bytes b t
  | .ref k, w => ∃ a, ad[k]? = some a ∧ w = .ref a
  | .fix v, w => w = v
inductive VRs (ad : List Addr) : List V → List Value → Prop
  | nil : VRs ad [] []
  | cons {v w vs ws} : VR ad v w → VRs ad vs ws → VRs ad (v :: vs) (w :: ws)
abbrev tupOf (its : Array Value) (n : Nat) : Obj := { cls := .type "tuple", data := .seq its n }
def OR (ad : List Addr) : O → Obj → Prop
  | .list vs, o => ∃ ws n, o = listOf ws.toArray n ∧ VRs ad vs ws
  | .tuple vs, o => ∃ ws n, o = tupOf ws.toArray n ∧ VRs ad vs ws
  | .cell (some v), o => ∃ w, o.data = .cell (some w) ∧ VR ad v w
  | .cell .none, o => ∃ w, o.data = .cell w
  | .range a b c, o => ∃ t u v, o = { cls := .type "range", dict := none, data := .fields #[.int a t, .int b u, .int c v], slots := #[] }
  | .junk, _ => True
inductive ORs (ad : List Addr) : List O → List (Addr × Obj) → Prop
  | nil : ORs ad [] []
  | cons {o p os ps} : OR ad o p.2 → ORs ad os ps → ORs ad (o :: os) (p :: ps)
def MR (ad : List Addr) (l : List (Str × V)) (m : Str → Option Value) : Prop := ∀ x v, l.lookup x = some v → ∃ w, m x = some w ∧ VR ad v w

/-- a frame at work: its program, world, surroundings, environment, the heap below it; `kp`: objects that must stay as they are;
`cl`: the places of its cells in the store; the rest: what the top says -/
structure Cx where
  prog : Program
  w : World
  A : Around
  env : Env
  h₀ : Heap
  kp : List (Addr × Obj)
  cl : List (Str × Nat)
  p : Program
  loose : List Str
  mean : ExcName → Option Value
  mg : Str → Option Value
  mb : Str → Option Value
abbrev Cx.M (C : Cx) : Model := model C.prog C.w
abbrev Cx.kept (C : Cx) (kp : List (Addr × Obj)) : Cx := { C with kp := kp }
structure SR (C : Cx) (ad : List Addr) (st : St) (h : Heap) : Prop where
  ex : ∃ m news, Fr C.h₀ C.env.locals h m ∧ News C.h₀ C.env.locals h (news ++ C.kp) ∧ news.map (·.1) = ad ∧ (ad ++ C.kp.map (·.1)).Nodup ∧ ORs ad st.os news ∧ MR ad st.m m
  cells : ∀ x k, C.cl.lookup x = some k → ∃ c, C.env.cells.lookup x = some c ∧ ad[k]? = some c
def Same (s s' : Shared) : Prop := ∃ h tk, s' = { s with heap := h, toks := tk }
theorem Same.rfl' (s : Shared) : Same s s := ⟨s.heap, s.toks, rfl⟩
theorem Same.trans {a b c : Shared} (h : Same a b) (h' : Same b c) : Same a c := by
  obtain ⟨h1, t1, rfl⟩ := h
  obtain ⟨h2, t2, rfl⟩ := h'
  exact ⟨h2, t2, rfl⟩
theorem Same.mk' (s : Shared) (h : Heap) (tk : Nat) : Same s { s with heap := h, toks := tk } := ⟨h, tk, rfl⟩
theorem Same.tk (s : Shared) (tk : Nat) : Same s { s with toks := tk } := ⟨s.heap, tk, rfl⟩
theorem Same.hp (s : Shared) (h : Heap) : Same s { s with heap := h } := ⟨h, s.toks, rfl⟩

abbrev No : Value → Shared → Prop := fun _ _ => False
/-- at a concrete state: the tree ends, in something the abstract post tells -/
structure At (C : Cx) (ad : List Addr) (s : Shared) {α β : Type} (rel : List Addr → β → α → Prop) (t : Sem α) (Q : β → St → Prop) : Prop where
  run : ∀ K : α → Shared → Prop, (∀ b st' s' ad' a, Q b st' → Same s s' → ad <+: ad' → SR C ad' st' s'.heap → rel ad' b a → K a s') → wpAny C.M C.A t K No s
structure Tr (C : Cx) {α β : Type} (rel : List Addr → β → α → Prop) (t : Sem α) (st : St) (Q : β → St → Prop) : Prop where
  go : ∀ s ad, SR C ad st s.heap → At C ad s rel t Q
def FR (ad : List Addr) : F → Flow → Prop
  | .next, f => f = .next
  | .brk, f => f = .brk
  | .cont, f => f = .cont
  | .ret v, f => ∃ w, f = .ret w ∧ VR ad v w
def BR (_ : List Addr) (b : Bool) (c : Bool) : Prop := c = b
def UR (_ : List Addr) (_ : Unit) (_ : Unit) : Prop := True

theorem VR.mono {ad ad' : List Addr} {v : V} {w : Value} (h : VR ad v w) (p : ad <+: ad') : VR ad' v w := by
  cases v with
  | ref k =>
    obtain ⟨a, ha, e⟩ := h
    refine ⟨a, ?_, e⟩
    obtain ⟨r, rfl⟩ := p
    rw [List.getElem?_append_left (List.getElem?_eq_some_iff.mp ha).1]
    exact ha
  | _ => exact h
theorem VRs.mono {ad ad' : List Addr} {vs : List V} {ws : List Value} (h : VRs ad vs ws) (p : ad <+: ad') : VRs ad' vs ws := by
  induction h with
  | nil => exact .nil
  | cons a _ ih => exact .cons (a.mono p) ih
theorem VRs.length {ad : List Addr} {vs : List V} {ws : List Value} (h : VRs ad vs ws) : ws.length = vs.length := by
  induction h with
  | nil => rfl
  | cons _ _ ih => simp [ih]
theorem VRs.append {ad : List Addr} {vs vs' : List V} {ws ws' : List Value} (h : VRs ad vs ws) (h' : VRs ad vs' ws') : VRs ad (vs ++ vs') (ws ++ ws') := by
  induction h with
  | nil => exact h'
  | cons a _ ih => exact .cons a ih
theorem VRs.get {ad : List Addr} {vs : List V} {ws : List Value} (h : VRs ad vs ws) {i : Nat} {v : V} (e : vs[i]? = some v) : ∃ w, ws[i]? = some w ∧ VR ad v w := by
  induction h generalizing i with
  | nil => cases e
  | cons a _ ih =>
    cases i with
    | zero => cases e; exact ⟨_, rfl, a⟩
    | succ i => exact ih e
theorem VRs.set {ad : List Addr} {vs : List V} {ws : List Value} (h : VRs ad vs ws) (i : Nat) {v : V} {w : Value} (hv : VR ad v w) : VRs ad (vs.set i v) (ws.set i w) := by
  induction h generalizing i with
  | nil => exact .nil
  | cons a h ih =>
    cases i with
    | zero => exact .cons hv h
    | succ i => exact .cons a (ih i)
theorem VRs.take {ad : List Addr} {vs : List V} {ws : List Value} (h : VRs ad vs ws) (i : Nat) : VRs ad (vs.take i) (ws.take i) := by
  induction h generalizing i with
  | nil => simp; exact .nil
  | cons a _ ih =>
    cases i with
    | zero => exact .nil
    | succ i => exact .cons a (ih i)
theorem VRs.drop {ad : List Addr} {vs : List V} {ws : List Value} (h : VRs ad vs ws) (i : Nat) : VRs ad (vs.drop i) (ws.drop i) := by
  induction h generalizing i with
  | nil => simp; exact .nil
  | cons a h ih =>
    cases i with
    | zero => exact .cons a h
    | succ i => exact ih i
theorem VRs.reverse {ad : List Addr} {vs : List V} {ws : List Value} (h : VRs ad vs ws) : VRs ad vs.reverse ws.reverse := by
  induction h with
  | nil => exact .nil
  | cons a _ ih => rw [List.reverse_cons, List.reverse_cons]; exact ih.append (.cons a .nil)
theorem OR.mono {ad ad' : List Addr} {o : O} {p : Obj} (h : OR ad o p) (x : ad <+: ad') : OR ad' o p := by
  match o, h with
  | .list _, ⟨ws, n, e, hv⟩ => exact ⟨ws, n, e, hv.mono x⟩
  | .tuple _, ⟨ws, n, e, hv⟩ => exact ⟨ws, n, e, hv.mono x⟩
  | .cell (some _), ⟨w, e, hv⟩ => exact ⟨w, e, hv.mono x⟩
  | .cell .none, h => exact h
  | .range _ _ _, h => exact h
  | .junk, _ => exact trivial
theorem ORs.mono {ad ad' : List Addr} {os : List O} {ps : List (Addr × Obj)} (h : ORs ad os ps) (x : ad <+: ad') : ORs ad' os ps := by
  induction h with
  | nil => exact .nil
  | cons a _ ih => exact .cons (a.mono x) ih
theorem ORs.length {ad : List Addr} {os : List O} {ps : List (Addr × Obj)} (h : ORs ad os ps) : ps.length = os.length := by
  induction h with
  | nil => rfl
  | cons _ _ ih => simp [ih]
theorem ORs.append {ad : List Addr} {os os' : List O} {ps ps' : List (Addr × Obj)} (h : ORs ad os ps) (h' : ORs ad os' ps') : ORs ad (os ++ os') (ps ++ ps') := by
  induction h with
  | nil => exact h'
  | cons a _ ih => exact .cons a ih
theorem ORs.get {ad : List Addr} {os : List O} {ps : List (Addr × Obj)} (h : ORs ad os ps) {i : Nat} {o : O} (e : os[i]? = some o) : ∃ p, ps[i]? = some p ∧ OR ad o p.2 := by
  induction h generalizing i with
  | nil => cases e
  | cons a _ ih =>
    cases i with
    | zero => cases e; exact ⟨_, rfl, a⟩
    | succ i => exact ih e
theorem ORs.set {ad : List Addr} {os : List O} {ps : List (Addr × Obj)} (h : ORs ad os ps) (i : Nat) {o : O} {a : Addr} {p : Obj} (hp : OR ad o p) : ORs ad (os.set i o) (ps.set i (a, p)) := by
  induction h generalizing i with
  | nil => exact .nil
  | cons b h ih =>
    cases i with
    | zero => exact .cons hp h
    | succ i => exact .cons b (ih i)
theorem ORs.take {ad : List Addr} {os : List O} {ps : List (Addr × Obj)} (h : ORs ad os ps) (i : Nat) : ORs ad (os.take i) (ps.take i) := by
  induction h generalizing i with
  | nil => simp; exact .nil
  | cons a _ ih =>
    cases i with
    | zero => exact .nil
    | succ i => exact .cons a (ih i)
theorem MR.mono {ad ad' : List Addr} {l : List (Str × V)} {m : Str → Option Value} (h : MR ad l m) (x : ad <+: ad') : MR ad' l m := fun y v e => by
  obtain ⟨w, a, b⟩ := h y v e
  exact ⟨w, a, b.mono x⟩
theorem MR.store {ad : List Addr} {l : List (Str × V)} {m : Str → Option Value} (h : MR ad l m) {x : Str} {v : V} {w : Value} (hv : VR ad v w) : MR ad ((x, v) :: l) (fun y => if y = x then some w else m y) := fun y u e => by
  rw [List.lookup_cons] at e
  by_cases hy : y = x
  · subst hy
    simp at e
    subst e
    exact ⟨w, by simp, hv⟩
  · have : (y == x) = false := by simpa using hy
    rw [this] at e
    obtain ⟨w', a, b⟩ := h y u e
    exact ⟨w', by simp [hy, a], b⟩

section
variable {C : Cx} {ad : List Addr} {st : St} {h : Heap}
/-- what is known of the locals may be less -/
def Sub (l l' : List (Str × V)) : Prop := ∀ x v, l.lookup x = some v → l'.lookup x = some v
theorem SR.weak (hs : SR C ad st h) {l : List (Str × V)} (e : Sub l st.m) : SR C ad ⟨l, st.os⟩ h := by
  obtain ⟨⟨m, news, a, b, c, d, o, r⟩, hc⟩ := hs
  exact ⟨⟨m, news, a, b, c, d, o, fun x v q => r x v (e x v q)⟩, hc⟩
end
/-- the store cut to its first n things; the locals must speak of these alone -/
def V.below (n : Nat) : V → Prop
  | .ref k => k < n
  | _ => True
def O.below (n : Nat) : O → Prop
  | .list vs => ∀ v ∈ vs, v.below n
  | .tuple vs => ∀ v ∈ vs, v.below n
  | .cell (some v) => v.below n
  | _ => True
theorem VR.cut {ad : List Addr} {n : Nat} {v : V} {w : Value} (h : VR ad v w) (b : v.below n) : VR (ad.take n) v w := by
  cases v with
  | ref k =>
    obtain ⟨a, ha, e⟩ := h
    refine ⟨a, ?_, e⟩
    rw [List.getElem?_take, if_pos (show k < n from b)]
    exact ha
  | _ => exact h
theorem VRs.cut {ad : List Addr} {n : Nat} {vs : List V} {ws : List Value} (h : VRs ad vs ws) (b : ∀ v ∈ vs, v.below n) : VRs (ad.take n) vs ws := by
  induction h with
  | nil => exact .nil
  | cons a _ ih => exact .cons (a.cut (b _ (.head _))) (ih fun v hv => b v (.tail _ hv))
theorem OR.cut {ad : List Addr} {n : Nat} {o : O} {p : Obj} (h : OR ad o p) (b : o.below n) : OR (ad.take n) o p := by
  match o, h, b with
  | .list _, ⟨ws, k, e, hv⟩, b => exact ⟨ws, k, e, hv.cut b⟩
  | .tuple _, ⟨ws, k, e, hv⟩, b => exact ⟨ws, k, e, hv.cut b⟩
  | .cell (some _), ⟨w, e, hv⟩, b => exact ⟨w, e, hv.cut b⟩
  | .cell .none, h, _ => exact h
  | .range _ _ _, h, _ => exact h
  | .junk, _, _ => exact trivial
theorem ORs.cut {ad : List Addr} {n : Nat} {os : List O} {ps : List (Addr × Obj)} (h : ORs ad os ps) (b : ∀ o ∈ os, o.below n) : ORs (ad.take n) os ps := by
  induction h with
  | nil => exact .nil
  | cons a _ ih => exact .cons (a.cut (b _ (.head _))) (ih fun v hv => b v (.tail _ hv))
/-- less is known: fewer locals; the store as it is, or cut -/
structure Cut (C : Cx) (st st' : St) : Prop where
  os : st'.os = st.os.take st'.os.length
  lb : ∀ x v, st'.m.lookup x = some v → v.below st'.os.length
  ob : ∀ o ∈ st'.os, o.below st'.os.length
  cb : ∀ x k, C.cl.lookup x = some k → k < st'.os.length
def Wk (C : Cx) (st st' : St) : Prop := Sub st'.m st.m ∧ (st'.os = st.os ∨ Cut C st st')
theorem SR.wk {C : Cx} {ad : List Addr} {st st' : St} {h : Heap} (hs : SR C ad st h) (k : Wk C st st') : ∃ ad', SR C ad' st' h ∧ ∀ ad₀, ad₀ <+: ad → ad₀.length ≤ st'.os.length → ad₀ <+: ad' := by
  obtain ⟨sub, ho | k⟩ := k
  · have := hs.weak sub
    rw [← ho] at this
    exact ⟨ad, this, fun _ p _ => p⟩
  · refine ⟨ad.take st'.os.length, ?_, fun ad₀ p hn => ?_⟩
    · obtain ⟨⟨m, news, a, b, c, d, o, r⟩, hc⟩ := hs
      refine ⟨⟨m, news.take st'.os.length, a, fun p hp => b p ?_, by rw [List.map_take, c], ?_, ?_, fun x v q => ?_⟩, fun x i q => ?_⟩
      · rcases List.mem_append.mp hp with hp | hp
        · exact List.mem_append_left _ (List.mem_of_mem_take hp)
        · exact List.mem_append_right _ hp
      · exact d.sublist ((List.take_sublist _ _).append (List.Sublist.refl _))
      · have := (o.take st'.os.length).cut (n := st'.os.length) (by rw [← k.os]; exact k.ob)
        rw [← k.os] at this
        exact this
      · obtain ⟨w, q1, q2⟩ := r x v (sub x v q)
        exact ⟨w, q1, q2.cut (k.lb x v q)⟩
      · obtain ⟨c', q1, q2⟩ := hc x i q
        exact ⟨c', q1, by rw [List.getElem?_take, if_pos (k.cb x i q)]; exact q2⟩
    · obtain ⟨r, rfl⟩ := p
      rw [List.take_append]
      exact ⟨r.take (st'.os.length - ad₀.length), by rw [List.take_of_length_le hn]⟩
theorem SR.len {C : Cx} {ad : List Addr} {st : St} {h : Heap} (hs : SR C ad st h) : ad.length = st.os.length := by
  obtain ⟨⟨m, news, _, _, c, _, o, _⟩, _⟩ := hs
  rw [← c, List.length_map, o.length]
theorem Sub.nil {l : List (Str × V)} : Sub [] l := fun _ _ h => nomatch h
theorem Sub.cons {x : Str} {v : V} {l l' : List (Str × V)} (hx : l'.lookup x = some v) (h : Sub l l') : Sub ((x, v) :: l) l' := fun y u e => by
  rw [List.lookup_cons] at e
  by_cases hy : y = x
  · subst hy
    simp at e
    rw [hx, e]
  · have : (y == x) = false := by simpa using hy
    rw [this] at e
    exact h y u e
theorem Sub.refl (l : List (Str × V)) : Sub l l := fun _ _ h => h
def V.belowB (n : Nat) : V → Bool
  | .ref k => decide (k < n)
  | _ => true
theorem V.below_of {n : Nat} {v : V} (h : v.belowB n = true) : v.below n := by
  cases v with
  | ref k => exact (of_decide_eq_true h : k < n)
  | _ => trivial
theorem below_of_all {n : Nat} {l : List (Str × V)} (h : (l.all fun p => p.2.belowB n) = true) : ∀ x v, l.lookup x = some v → v.below n := fun x v e => by
  have hm : (x, v) ∈ l := by
    induction l with
    | nil => cases e
    | cons q r ih =>
      obtain ⟨y, u⟩ := q
      rw [List.lookup_cons] at e
      cases hxy : x == y with
      | true =>
        rw [hxy] at e
        cases e
        rw [eq_of_beq hxy]
        exact .head _
      | false =>
        rw [hxy] at e
        rw [List.all_cons, Bool.and_eq_true] at h
        exact .tail _ (ih h.2 e)
  exact V.below_of (List.all_eq_true.mp h _ hm)

theorem vs_below {n : Nat} {vs : List V} (h : (vs.all (·.belowB n)) = true) : ∀ v ∈ vs, v.below n := fun v hv => V.below_of (List.all_eq_true.mp h v hv)
theorem ob_nil {n : Nat} : ∀ o ∈ ([] : List O), o.below n := fun _ h => nomatch h
theorem ob_cons {n : Nat} {o : O} {os : List O} (h : o.below n) (r : ∀ o ∈ os, o.below n) : ∀ p ∈ o :: os, p.below n := fun p hp => by
  rcases List.mem_cons.mp hp with rfl | hp
  · exact h
  · exact r p hp
theorem ints_below {n : Nat} (ns : List Int) : ∀ v ∈ ns.map V.int, v.below n := fun v hv => by
  obtain ⟨i, _, rfl⟩ := List.mem_map.mp hv
  trivial
section
variable {C : Cx} {α β : Type} {rel : List Addr → β → α → Prop} {t : Sem α} {st : St} {Q Q' : β → St → Prop} {s : Shared} {ad : List Addr}
theorem At.mono (h : At C ad s rel t Q) (hq : ∀ b st', Q b st' → Q' b st') : At C ad s rel t Q' := .mk fun K hK => h.run K fun b st' s' ad' a q => hK b st' s' ad' a (hq _ _ q)
theorem Tr.mono (h : Tr C rel t st Q) (hq : ∀ b st', Q b st' → Q' b st') : Tr C rel t st Q' := .mk fun s ad hs => (h.go s ad hs).mono hq
theorem Tr.weak {l : List (Str × V)} (h : Tr C rel t ⟨l, st.os⟩ Q) (e : Sub l st.m) : Tr C rel t st Q := .mk fun s ad hs => h.go s ad (hs.weak e)
/-- a step that moves only the tokens -/
theorem At.tick {a : α} {b : β} (hs : SR C ad st s.heap) (hq : Q b st) (hr : rel ad b a) (h : ∀ K : α → Shared → Prop, (∀ tk, K a { s with toks := tk }) → wpAny C.M C.A t K No s) : At C ad s rel t Q :=
  .mk fun K hK => h K fun tk => hK b st _ ad a hq (Same.tk s tk) (List.prefix_refl _) hs hr
theorem At.stay {a : α} {b : β} (hs : SR C ad st s.heap) (hq : Q b st) (hr : rel ad b a) (h : ∀ K : α → Shared → Prop, K a s → wpAny C.M C.A t K No s) : At C ad s rel t Q :=
  .mk fun K hK => h K (hK b st s ad a hq (Same.rfl' s) (List.prefix_refl _) hs hr)
end
end Mine
namespace Mine

structure Gd (C : Cx) (sc : Scope) (lv : Nat) : Prop where
  scope : C.env.scope = sc
  kind : sc.kind = .function
  glob : C.env.globals = mainGlobals
  blt : C.env.builtins = builtinsNs
  top : Top C.p C.loose C.mean C.mg C.mb C.h₀
  depth : C.A.depth + lv < 500
  bel : ∃ A₀ base outer, Below A₀ base outer C.h₀ ∧ C.A.frames = some (C.env :: outer) ∧ C.env.frame = some C.env.locals
theorem Gd.kept {C : Cx} {sc : Scope} {lv : Nat} (G : Gd C sc lv) (kp : List (Addr × Obj)) : Gd (C.kept kp) sc lv := ⟨G.scope, G.kind, G.glob, G.blt, G.top, G.depth, G.bel⟩

/-- a name of the built-in ones, not bound by the text -/
def Blt (C : Cx) (x : Str) (v : Value) : Prop := C.mg x = none ∧ bootBuiltins x = some v ∧ x ≠ "__name__"
structure EV (C : Cx) (e : Expr) (st : St) (Q : V → St → Prop) : Prop where
  go : ∀ s ad, SR C ad st s.heap → At C ad s VR (eval e C.env) Q
structure BV (C : Cx) (e : Expr) (st : St) (Q : Bool → St → Prop) : Prop where
  go : ∀ s ad, SR C ad st s.heap → At C ad s BR (isTrue e C.env (eval e C.env)) Q
structure SV (C : Cx) (ss : List Stmt) (st : St) (Q : F → St → Prop) : Prop where
  go : ∀ s ad, SR C ad st s.heap → At C ad s FR (execs ss C.env) Q
structure XV (C : Cx) (x : Stmt) (st : St) (Q : F → St → Prop) : Prop where
  go : ∀ s ad, SR C ad st s.heap → At C ad s FR (exec x C.env) Q
structure AT (C : Cx) (op : BoolOp) (es : List Expr) (st : St) (Q : Bool → St → Prop) : Prop where
  go : ∀ s ad, SR C ad st s.heap → At C ad s BR (allTrue op es C.env) Q
structure BO (C : Cx) (op : Operator) (a b : V) (st : St) (Q : V → St → Prop) : Prop where
  go : ∀ s ad va vb, SR C ad st s.heap → VR ad a va → VR ad b vb → At C ad s VR (binaryOp op va vb) Q
structure IO (C : Cx) (op : Operator) (a b : V) (st : St) (Q : V → St → Prop) : Prop where
  go : ∀ s ad va vb, SR C ad st s.heap → VR ad a va → VR ad b vb → At C ad s VR (inplaceOp op va vb) Q
structure CO (C : Cx) (op : CmpOp) (a b : V) (st : St) (Q : V → St → Prop) : Prop where
  go : ∀ s ad va vb, SR C ad st s.heap → VR ad a va → VR ad b vb → At C ad s VR (compareOp op va vb) Q
structure UO (C : Cx) (op : UnaryOp) (a : V) (st : St) (Q : V → St → Prop) : Prop where
  go : ∀ s ad va, SR C ad st s.heap → VR ad a va → At C ad s VR (unaryOp op va) Q
structure TT (C : Cx) (a : V) (st : St) (Q : Bool → St → Prop) : Prop where
  go : ∀ s ad va, SR C ad st s.heap → VR ad a va → At C ad s BR (truthy va) Q
structure CL (C : Cx) (f : Value) (vs : List V) (st : St) (Q : V → St → Prop) : Prop where
  go : ∀ s ad ws, SR C ad st s.heap → VRs ad vs ws → At C ad s VR (call f ws) Q
structure AV (C : Cx) (pos : Pos) (es : List Expr) (st : St) (Q : List V → St → Prop) : Prop where
  go : ∀ s ad, SR C ad st s.heap → At C ad s VRs (spliced (backTo pos (starEach es C.env))) Q
def Nx (C : Cx) (rest : List Stmt) (Q : F → St → Prop) : F → St → Prop
  | .next, st => SV C rest st Q
  | f, st => Q f st
abbrev St.set (st : St) (x : Str) (v : V) : St := ⟨(x, v) :: st.m, st.os⟩

section
variable {C : Cx} {st : St} {l : List (Str × V)}
theorem EV.mono {e : Expr} {Q Q' : V → St → Prop} (h : EV C e st Q) (hq : ∀ b st', Q b st' → Q' b st') : EV C e st Q' := .mk fun s ad hs => (h.go s ad hs).mono hq
theorem AV.mono {pos : Pos} {es : List Expr} {Q Q' : List V → St → Prop} (h : AV C pos es st Q) (hq : ∀ b st', Q b st' → Q' b st') : AV C pos es st Q' := .mk fun s ad hs => (h.go s ad hs).mono hq
theorem SV.mono {ss : List Stmt} {Q Q' : F → St → Prop} (h : SV C ss st Q) (hq : ∀ b st', Q b st' → Q' b st') : SV C ss st Q' := .mk fun s ad hs => (h.go s ad hs).mono hq
theorem XV.mono {x : Stmt} {Q Q' : F → St → Prop} (h : XV C x st Q) (hq : ∀ b st', Q b st' → Q' b st') : XV C x st Q' := .mk fun s ad hs => (h.go s ad hs).mono hq
theorem EV.weak {e : Expr} {Q : V → St → Prop} (h : EV C e ⟨l, st.os⟩ Q) (x : Sub l st.m) : EV C e st Q := .mk fun s ad hs => h.go s ad (hs.weak x)
theorem SV.weak {ss : List Stmt} {Q : F → St → Prop} (h : SV C ss ⟨l, st.os⟩ Q) (x : Sub l st.m) : SV C ss st Q := .mk fun s ad hs => h.go s ad (hs.weak x)
theorem XV.weak {x : Stmt} {Q : F → St → Prop} (h : XV C x ⟨l, st.os⟩ Q) (e : Sub l st.m) : XV C x st Q := .mk fun s ad hs => h.go s ad (hs.weak e)
end
section
variable {C : Cx} {sc : Scope} {lv : Nat} {st : St} {Q : V → St → Prop} {pos : Pos}
theorem ev_int {n : Int} {k : Nat} (h : Q (.int n) st) : EV C (.Constant (.int n) k pos) st Q := .mk fun s ad hs =>
  At.tick (a := .int n s.toks) hs h ⟨_, rfl⟩ fun _ hK => wpAny_Constant_int (hK _)
theorem ev_str {x : Str} {k : Nat} (h : Q (.str x) st) : EV C (.Constant (.str x) k pos) st Q := .mk fun s ad hs =>
  At.tick (a := .str x s.toks) hs h ⟨_, rfl⟩ fun _ hK => Constant_str (hK _)
theorem ev_bytes {x : List UInt8} {k : Nat} (h : Q (.bytes x.toArray) st) : EV C (.Constant (.bytes x) k pos) st Q := .mk fun s ad hs =>
  At.tick (a := .bytes x.toArray s.toks) hs h ⟨_, rfl⟩ fun _ hK => (fun _ _ _ => hK _)
theorem ev_bool {b : Bool} {k : Nat} (h : Q (.bool b) st) : EV C (.Constant (.bool b) k pos) st Q := .mk fun s ad hs =>
  At.stay (a := .bool b) hs h rfl fun _ hK => (fun _ _ _ => hK)
theorem ev_none {k : Nat} (h : Q .none st) : EV C (.Constant .none k pos) st Q := .mk fun s ad hs =>
  At.stay (a := .none) hs h rfl fun _ hK => (fun _ _ _ => hK)
theorem load_local {x : Str} {v : V} (G : Gd C sc lv) (hv : st.m.lookup x = some v) (hl : sc.names.lookup x = some .local) (h : Q v st) : Tr C VR (loadName C.env x) st Q := .mk fun s ad hs => by
  obtain ⟨m, news, F, N, c, d, o, r⟩ := hs.ex
  obtain ⟨w, hw, hr⟩ := r x v hv
  refine At.stay (a := w) hs h hr fun K hK => ?_
  exact wpAny_loadName_local (by rw [G.scope]; exact G.kind) (by rw [Env.kindOf, G.scope]; exact hl) F.ns hw hK
theorem ev_local {x : Str} {v : V} (G : Gd C sc lv) (h : Q v st) (hv : st.m.lookup x = some v := by rfl) (hl : sc.names.lookup x = some .local := by rfl) (hd : (x == ("__debug__" : Str)) = false := by rfl) : EV C (.Name x pos) st Q := .mk fun s ad hs => At.mk fun K hK =>
  wpAny_Name (((load_local G hv hl h).go s ad hs).run K hK) hd
theorem ev_cell {x : Str} {k : Nat} {v : V} (G : Gd C sc lv) (h : Q v st) (hk : C.cl.lookup x = some k := by rfl) (hv : st.os[k]? = some (.cell (some v)) := by rfl) (hl : sc.names.lookup x = some .cell := by rfl) (hd : (x == ("__debug__" : Str)) = false := by rfl) : EV C (.Name x pos) st Q := .mk fun s ad hs => At.mk fun K hK => by
  obtain ⟨m, news, F, N, c, d, o, r⟩ := hs.ex
  obtain ⟨a, ha, hc⟩ := hs.cells x k hk
  obtain ⟨p, hp, w, hw, hr⟩ := o.get hv
  have hpa : p.1 = a := by
    have : (news.map (·.1))[k]? = some p.1 := by rw [List.getElem?_map, hp]; rfl
    rw [c, hc] at this
    exact (Option.some.inj this).symm
  have hg := (N p (List.mem_append_left _ (List.mem_of_getElem? hp))).1
  rw [hpa] at hg
  exact wpAny_Name (wpAny_loadName_cell (by rw [G.scope]; exact G.kind) (by rw [Env.kindOf, G.scope]; exact hl) ha ⟨_, hg, hw⟩ (hK v st s ad w h (Same.rfl' s) (List.prefix_refl _) hs hr)) hd
theorem ev_free {x : Str} {k : Nat} {v : V} (G : Gd C sc lv) (h : Q v st) (hk : C.cl.lookup x = some k := by rfl) (hv : st.os[k]? = some (.cell (some v)) := by rfl) (hl : sc.names.lookup x = some .free := by rfl) (hd : (x == ("__debug__" : Str)) = false := by rfl) (hn : (x == ("__classdict__" : Str)) = false := by rfl) : EV C (.Name x pos) st Q := .mk fun s ad hs => At.mk fun K hK => by
  obtain ⟨m, news, F, N, c, d, o, r⟩ := hs.ex
  obtain ⟨a, ha, hc⟩ := hs.cells x k hk
  obtain ⟨p, hp, w, hw, hr⟩ := o.get hv
  have hpa : p.1 = a := by
    have : (news.map (·.1))[k]? = some p.1 := by rw [List.getElem?_map, hp]; rfl
    rw [c, hc] at this
    exact (Option.some.inj this).symm
  have hg := (N p (List.mem_append_left _ (List.mem_of_getElem? hp))).1
  rw [hpa] at hg
  exact wpAny_Name (wpAny_loadName_free (by rw [G.scope]; exact G.kind) (by rw [Env.kindOf, G.scope]; exact hl) ha ⟨_, hg, hw⟩ (hK v st s ad w h (Same.rfl' s) (List.prefix_refl _) hs hr) hn) hd
theorem ev_global {x : Str} {v : Value} (G : Gd C sc lv) (hv : C.mg x = some v) (h : Q (.fix v) st) (hl : sc.names.lookup x = some .globalImplicit := by rfl) (hd : (x == ("__debug__" : Str)) = false := by rfl) : EV C (.Name x pos) st Q := .mk fun s ad hs => by
  obtain ⟨m, news, F, N, c, d, o, r⟩ := hs.ex
  refine At.stay (a := v) hs h rfl fun K hK => ?_
  exact Name_function_global (by rw [G.scope]; exact G.kind) (by rw [Env.kindOf, G.scope]; exact hl) (loadGlobal_global (by rw [G.glob]; exact G.top.g.keeps F.keep) hv hK) hd
theorem ev_builtin {x : Str} {v : Value} (G : Gd C sc lv) (hb : Blt C x v) (h : Q (.fix v) st) (hl : sc.names.lookup x = some .globalImplicit := by rfl) (hd : (x == ("__debug__" : Str)) = false := by rfl) : EV C (.Name x pos) st Q := .mk fun s ad hs => by
  obtain ⟨hm, hv, hn⟩ := hb
  obtain ⟨m, news, F, N, c, d, o, r⟩ := hs.ex
  refine At.stay (a := v) hs h rfl fun K hK => ?_
  exact Name_function_global (by rw [G.scope]; exact G.kind) (by rw [Env.kindOf, G.scope]; exact hl) (loadGlobal_builtin (by rw [G.glob]; exact G.top.g.keeps F.keep) hm (by rw [G.blt]; exact G.top.b.keeps F.keep) ((G.top.builtins x hn).trans hv) hK) hd
theorem ev_binop {l r : Expr} {op : Operator} (h : EV C l st (fun a st1 => EV C r st1 (fun b st2 => BO C op a b st2 Q))) : EV C (.BinOp l op r pos) st Q := .mk fun s ad hs => At.mk fun K hK =>
  wpAny_BinOp ((h.go s ad hs).run _ fun _ st1 s1 ad1 va q1 e1 p1 hs1 r1 => (q1.go s1 ad1 hs1).run _ fun _ st2 s2 ad2 vb q2 e2 p2 hs2 r2 => (q2.go s2 ad2 va vb hs2 (r1.mono p2) r2).run K fun v st3 s3 ad3 w q3 e3 p3 hs3 r3 =>
    hK v st3 s3 ad3 w q3 (e1.trans (e2.trans e3)) (p1.trans (p2.trans p3)) hs3 r3)
theorem ev_unop {x : Expr} {op : UnaryOp} (h : EV C x st (fun a st1 => UO C op a st1 Q)) : EV C (.UnaryOp op x pos) st Q := .mk fun s ad hs => At.mk fun K hK =>
  wpAny_UnaryOp ((h.go s ad hs).run _ fun _ st1 s1 ad1 va q1 e1 p1 hs1 r1 => (q1.go s1 ad1 va hs1 r1).run K fun v st3 s3 ad3 w q3 e3 p3 hs3 r3 => hK v st3 s3 ad3 w q3 (e1.trans e3) (p1.trans p3) hs3 r3)
theorem ev_cmp {l r : Expr} {op : CmpOp} (h : EV C l st (fun a st1 => EV C r st1 (fun b st2 => CO C op a b st2 Q))) (hm : behindInMarks op r = false := by rfl) : EV C (.Compare l [op] [r] pos) st Q := .mk fun s ad hs => At.mk fun K hK =>
  wpAny_Compare1 ((h.go s ad hs).run _ fun _ st1 s1 ad1 va q1 e1 p1 hs1 r1 => (q1.go s1 ad1 hs1).run _ fun _ st2 s2 ad2 vb q2 e2 p2 hs2 r2 => (q2.go s2 ad2 va vb hs2 (r1.mono p2) r2).run K fun v st3 s3 ad3 w q3 e3 p3 hs3 r3 =>
    hK v st3 s3 ad3 w q3 (e1.trans (e2.trans e3)) (p1.trans (p2.trans p3)) hs3 r3) hm
theorem ev_ifexp {t b o : Expr} (h : BV C t st (fun c st1 => (c = true → EV C b st1 Q) ∧ (c = false → EV C o st1 Q))) : EV C (.IfExp t b o pos) st Q := .mk fun s ad hs => At.mk fun K hK =>
  wpAny_IfExp ((h.go s ad hs).run _ fun c st1 s1 ad1 c' q1 e1 p1 hs1 r1 => by
    cases r1
    cases c with
    | true => exact ((q1.1 rfl).go s1 ad1 hs1).run K fun v st3 s3 ad3 w q3 e3 p3 hs3 r3 => hK v st3 s3 ad3 w q3 (e1.trans e3) (p1.trans p3) hs3 r3
    | false => exact ((q1.2 rfl).go s1 ad1 hs1).run K fun v st3 s3 ad3 w q3 e3 p3 hs3 r3 => hK v st3 s3 ad3 w q3 (e1.trans e3) (p1.trans p3) hs3 r3)
theorem ev_and {e₁ e₂ : Expr} {rest : List Expr} (h : EV C e₁ st (fun v st1 => TT C v st1 (fun c st2 => (c = true → EV C (.BoolOp .And (e₂ :: rest) pos) st2 Q) ∧ (c = false → Q v st2)))) : EV C (.BoolOp .And (e₁ :: e₂ :: rest) pos) st Q := .mk fun s ad hs => At.mk fun K hK =>
  BoolOp_and ((h.go s ad hs).run _ fun v st1 s1 ad1 va q1 e1 p1 hs1 r1 => (q1.go s1 ad1 va hs1 r1).run _ fun c st2 s2 ad2 c' q2 e2 p2 hs2 r2 => by
    cases r2
    cases c with
    | true => exact ((q2.1 rfl).go s2 ad2 hs2).run K fun v st3 s3 ad3 w q3 e3 p3 hs3 r3 => hK v st3 s3 ad3 w q3 (e1.trans (e2.trans e3)) (p1.trans (p2.trans p3)) hs3 r3
    | false => exact hK v st2 s2 ad2 va (q2.2 rfl) (e1.trans e2) (p1.trans p2) hs2 (r1.mono p2))
theorem ev_one {e : Expr} {op : BoolOp} (h : EV C e st Q) : EV C (.BoolOp op [e] pos) st Q := .mk fun s ad hs => At.mk fun K hK => BoolOp_one ((h.go s ad hs).run K hK)
end

section
variable {C : Cx} {sc : Scope} {lv : Nat} {st : St} {Q : Bool → St → Prop} {pos : Pos}
theorem bv_cmp {l r : Expr} {op : CmpOp} (h : EV C l st (fun a st1 => EV C r st1 (fun b st2 => CO C op a b st2 (fun c st3 => TT C c st3 Q)))) (hm : behindInMarks op r = false := by rfl) : BV C (.Compare l [op] [r] pos) st Q := .mk fun s ad hs => At.mk fun K hK =>
  wpAny_isTrue_Compare1 ((h.go s ad hs).run _ fun _ st1 s1 ad1 va q1 e1 p1 hs1 r1 => (q1.go s1 ad1 hs1).run _ fun _ st2 s2 ad2 vb q2 e2 p2 hs2 r2 => (q2.go s2 ad2 va vb hs2 (r1.mono p2) r2).run _ fun v st3 s3 ad3 w q3 e3 p3 hs3 r3 =>
    (q3.go s3 ad3 w hs3 r3).run K fun b st4 s4 ad4 b' q4 e4 p4 hs4 r4 => hK b st4 s4 ad4 b' q4 (e1.trans (e2.trans (e3.trans e4))) (p1.trans (p2.trans (p3.trans p4))) hs4 r4) hm
theorem bv_not {x : Expr} (h : BV C x st (fun b st1 => Q (!b) st1)) : BV C (.UnaryOp .Not x pos) st Q := .mk fun s ad hs => At.mk fun K hK =>
  wpAny_isTrue_Not ((h.go s ad hs).run _ fun b st1 s1 ad1 b' q1 e1 p1 hs1 r1 => hK (!b) st1 s1 ad1 _ q1 e1 p1 hs1 (by cases r1; rfl))
theorem bv_or {op : BoolOp} {es : List Expr} (h : AT C op es st Q) : BV C (.BoolOp op es pos) st Q := .mk fun s ad hs => At.mk fun K hK => wpAny_isTrue_BoolOp ((h.go s ad hs).run K hK)
theorem or_nil (h : Q false st) : AT C .Or [] st Q := .mk fun s ad hs => At.stay (a := false) hs h rfl fun _ hK => wpAny_allTrue_Or_nil hK
theorem and_nil (h : Q true st) : AT C .And [] st Q := .mk fun s ad hs => At.stay (a := true) hs h rfl fun _ hK => wpAny_allTrue_And_nil hK
theorem or_cons {x : Expr} {rest : List Expr} (h : BV C x st (fun b st1 => (b = true → Q true st1) ∧ (b = false → AT C .Or rest st1 Q))) : AT C .Or (x :: rest) st Q := .mk fun s ad hs => At.mk fun K hK =>
  wpAny_allTrue_Or_cons ((h.go s ad hs).run _ fun b st1 s1 ad1 b' q1 e1 p1 hs1 r1 => by
    cases r1
    cases b with
    | true => exact hK true st1 s1 ad1 _ (q1.1 rfl) e1 p1 hs1 rfl
    | false => exact ((q1.2 rfl).go s1 ad1 hs1).run K fun b st4 s4 ad4 b' q4 e4 p4 hs4 r4 => hK b st4 s4 ad4 b' q4 (e1.trans e4) (p1.trans p4) hs4 r4)
theorem and_cons {x : Expr} {rest : List Expr} (h : BV C x st (fun b st1 => (b = true → AT C .And rest st1 Q) ∧ (b = false → Q false st1))) : AT C .And (x :: rest) st Q := .mk fun s ad hs => At.mk fun K hK =>
  wpAny_allTrue_And_cons ((h.go s ad hs).run _ fun b st1 s1 ad1 b' q1 e1 p1 hs1 r1 => by
    cases r1
    cases b with
    | false => exact hK false st1 s1 ad1 _ (q1.2 rfl) e1 p1 hs1 rfl
    | true => exact ((q1.1 rfl).go s1 ad1 hs1).run K fun b st4 s4 ad4 b' q4 e4 p4 hs4 r4 => hK b st4 s4 ad4 b' q4 (e1.trans e4) (p1.trans p4) hs4 r4)
theorem bv_val {e : Expr} (h : EV C e st (fun v st1 => TT C v st1 Q)) (he : isTrue e C.env (eval e C.env) = (do let v ← eval e C.env; standAt e.pos; holding [v] (truthy v)) := by rfl) : BV C e st Q := .mk fun s ad hs => At.mk fun K hK =>
  isTrue_plain ((h.go s ad hs).run _ fun v st1 s1 ad1 va q1 e1 p1 hs1 r1 => (q1.go s1 ad1 va hs1 r1).run K fun b st4 s4 ad4 b' q4 e4 p4 hs4 r4 => hK b st4 s4 ad4 b' q4 (e1.trans e4) (p1.trans p4) hs4 r4) he
theorem tt_bool {b : Bool} (h : Q b st) : TT C (.bool b) st Q := .mk fun s ad va hs r => by
  cases r
  exact At.stay (a := b) hs h rfl fun _ hK => wpAny_truthy_bool hK
end

section
variable {C : Cx} {sc : Scope} {lv : Nat} {st : St} {Q : V → St → Prop} {x y : Int}
theorem bo_add (h : Q (.int (x + y)) st) : BO C .Add (.int x) (.int y) st Q := .mk fun s ad va vb hs ⟨t, e⟩ ⟨u, f⟩ => by
  subst e f; exact At.tick (a := .int _ s.toks) hs h ⟨_, rfl⟩ fun _ hK => P.add_int (hK _)
theorem bo_sub (h : Q (.int (x - y)) st) : BO C .Sub (.int x) (.int y) st Q := .mk fun s ad va vb hs ⟨t, e⟩ ⟨u, f⟩ => by
  subst e f; exact At.tick (a := .int _ s.toks) hs h ⟨_, rfl⟩ fun _ hK => P.sub_int (hK _)
theorem bo_mul (hm : IntMulOk x y) (h : Q (.int (x * y)) st) : BO C .Mult (.int x) (.int y) st Q := .mk fun s ad va vb hs ⟨t, e⟩ ⟨u, f⟩ => by
  subst e f; exact At.tick (a := .int _ s.toks) hs h ⟨_, rfl⟩ fun _ hK => P.mul_int (hK _) hm
theorem bo_mod (hy : 0 < y) (h : Q (.int (x % y)) st) : BO C .Mod (.int x) (.int y) st Q := .mk fun s ad va vb hs ⟨t, e⟩ ⟨u, f⟩ => by
  subst e f
  refine At.tick (a := .int _ s.toks) hs h ⟨_, rfl⟩ fun K hK => mod_int' (by omega) ?_
  rw [Int.fmod_eq_emod_of_nonneg x (Int.le_of_lt hy)]
  exact hK _
theorem bo_div (hy : 0 < y) (hp : y.natAbs.log2 < 9000) (h : Q (.int (x / y)) st) : BO C .FloorDiv (.int x) (.int y) st Q := .mk fun s ad va vb hs ⟨t, e⟩ ⟨u, f⟩ => by
  subst e f
  refine At.tick (a := .int _ s.toks) hs h ⟨_, rfl⟩ fun K hK => floordiv_int (by omega) ?_ (.inl (PyProof.noPylong_of_log2 hp))
  rw [Int.fdiv_eq_ediv_of_nonneg x (Int.le_of_lt hy)]
  exact hK _
theorem bo_pow (hn : 0 ≤ y) (hsz : (Builtin.Int.intBits x : Int) * y ≤ 2 ^ 27) (h : Q (.int (x ^ y.toNat)) st) : BO C .Pow (.int x) (.int y) st Q := .mk fun s ad va vb hs ⟨t, e⟩ ⟨u, f⟩ => by
  subst e f; exact At.tick (a := .int _ s.toks) hs h ⟨_, rfl⟩ fun _ hK => pow_int hn hsz (hK _)
theorem bo_and (h : Q (.int (Builtin.bitAnd x y)) st) : BO C .BitAnd (.int x) (.int y) st Q := .mk fun s ad va vb hs ⟨t, e⟩ ⟨u, f⟩ => by
  subst e f; exact At.tick (a := .int _ s.toks) hs h ⟨_, rfl⟩ fun _ hK => and_int (hK _)
theorem bo_or (h : Q (.int (Builtin.bitOr x y)) st) : BO C .BitOr (.int x) (.int y) st Q := .mk fun s ad va vb hs ⟨t, e⟩ ⟨u, f⟩ => by
  subst e f; exact At.tick (a := .int _ s.toks) hs h ⟨_, rfl⟩ fun _ hK => or_int (hK _)
theorem bo_xor (h : Q (.int (Builtin.bitXor x y)) st) : BO C .BitXor (.int x) (.int y) st Q := .mk fun s ad va vb hs ⟨t, e⟩ ⟨u, f⟩ => by
  subst e f; exact At.tick (a := .int _ s.toks) hs h ⟨_, rfl⟩ fun _ hK => xor_int (hK _)
theorem uo_inv (h : Q (.int (Builtin.bitNot x)) st) : UO C .Invert (.int x) st Q := .mk fun s ad va hs ⟨t, e⟩ => by
  subst e; exact At.tick (a := .int _ s.toks) hs h ⟨_, rfl⟩ fun _ hK => invert_int (hK _)
theorem uo_neg (h : Q (.int (-x)) st) : UO C .USub (.int x) st Q := .mk fun s ad va hs ⟨t, e⟩ => by
  subst e; exact At.tick (a := .int _ s.toks) hs h ⟨_, rfl⟩ fun _ hK => P.neg_int (hK _)
theorem io_add (h : Q (.int (x + y)) st) : IO C .Add (.int x) (.int y) st Q := .mk fun s ad va vb hs ⟨t, e⟩ ⟨u, f⟩ => by
  subst e f; exact At.tick (a := .int _ s.toks) hs h ⟨_, rfl⟩ fun _ hK => P.iadd_int (hK _)
theorem io_sub (h : Q (.int (x - y)) st) : IO C .Sub (.int x) (.int y) st Q := .mk fun s ad va vb hs ⟨t, e⟩ ⟨u, f⟩ => by
  subst e f; exact At.tick (a := .int _ s.toks) hs h ⟨_, rfl⟩ fun _ hK => P.isub_int (hK _)
theorem io_mul (hm : IntMulOk x y) (h : Q (.int (x * y)) st) : IO C .Mult (.int x) (.int y) st Q := .mk fun s ad va vb hs ⟨t, e⟩ ⟨u, f⟩ => by
  subst e f; exact At.tick (a := .int _ s.toks) hs h ⟨_, rfl⟩ fun _ hK => P.imul_int (hK _) hm
theorem io_div (hy : 0 < y) (hp : y.natAbs.log2 < 9000) (h : Q (.int (x / y)) st) : IO C .FloorDiv (.int x) (.int y) st Q := .mk fun s ad va vb hs ⟨t, e⟩ ⟨u, f⟩ => by
  subst e f
  refine At.tick (a := .int _ s.toks) hs h ⟨_, rfl⟩ fun K hK => ifloordiv_int (by omega) ?_ (.inl (PyProof.noPylong_of_log2 hp))
  rw [Int.fdiv_eq_ediv_of_nonneg x (Int.le_of_lt hy)]
  exact hK _
theorem co_lt (h : Q (.bool (decide (x < y))) st) : CO C .Lt (.int x) (.int y) st Q := .mk fun s ad va vb hs ⟨t, e⟩ ⟨u, f⟩ => by
  subst e f; exact At.stay (a := .bool _) hs h rfl fun _ hK => P.lt_int hK
theorem co_le (h : Q (.bool (decide (x ≤ y))) st) : CO C .LtE (.int x) (.int y) st Q := .mk fun s ad va vb hs ⟨t, e⟩ ⟨u, f⟩ => by
  subst e f; exact At.stay (a := .bool _) hs h rfl fun _ hK => P.le_int hK
theorem co_gt (h : Q (.bool (decide (x > y))) st) : CO C .Gt (.int x) (.int y) st Q := .mk fun s ad va vb hs ⟨t, e⟩ ⟨u, f⟩ => by
  subst e f; exact At.stay (a := .bool _) hs h rfl fun _ hK => P.gt_int hK
theorem co_ge (h : Q (.bool (decide (x ≥ y))) st) : CO C .GtE (.int x) (.int y) st Q := .mk fun s ad va vb hs ⟨t, e⟩ ⟨u, f⟩ => by
  subst e f; exact At.stay (a := .bool _) hs h rfl fun _ hK => P.ge_int hK
theorem co_eq (h : Q (.bool (x == y)) st) : CO C .Eq (.int x) (.int y) st Q := .mk fun s ad va vb hs ⟨t, e⟩ ⟨u, f⟩ => by
  subst e f; exact At.stay (a := .bool _) hs h rfl fun _ hK => P.eq_int hK
theorem co_ne (h : Q (.bool (x != y)) st) : CO C .NotEq (.int x) (.int y) st Q := .mk fun s ad va vb hs ⟨t, e⟩ ⟨u, f⟩ => by
  subst e f; exact At.stay (a := .bool _) hs h rfl fun _ hK => P.ne_int hK
end

/-! statements -/
section
variable {C : Cx} {sc : Scope} {lv : Nat} {st : St} {Q : F → St → Prop} {pos : Pos}
theorem sv_nil (h : Q .next st) : SV C [] st Q := .mk fun s ad hs => At.stay (a := .next) hs h rfl fun _ hK => wpAny_execs_nil hK
theorem sv_cons {x : Stmt} {rest : List Stmt} (h : XV C x st (Nx C rest Q)) : SV C (x :: rest) st Q := .mk fun s ad hs => At.mk fun K hK =>
  wpAny_execs_cons ((h.go s ad hs).run _ fun f st1 s1 ad1 f' q1 e1 p1 hs1 r1 => by
    cases f with
    | next =>
      cases r1
      exact (q1.go s1 ad1 hs1).run K fun f st4 s4 ad4 f' q4 e4 p4 hs4 r4 => hK f st4 s4 ad4 f' q4 (e1.trans e4) (p1.trans p4) hs4 r4
    | brk => cases r1; exact hK .brk st1 s1 ad1 .brk q1 e1 p1 hs1 rfl
    | cont => cases r1; exact hK .cont st1 s1 ad1 .cont q1 e1 p1 hs1 rfl
    | ret v =>
      obtain ⟨w, rfl, hw⟩ := r1
      exact hK (.ret v) st1 s1 ad1 (.ret w) q1 e1 p1 hs1 ⟨w, rfl, hw⟩)
theorem xv_if {t : Expr} {body orelse : List Stmt} (h : BV C t st (fun b st1 => (b = true → SV C body st1 Q) ∧ (b = false → SV C orelse st1 Q))) : XV C (.If t body orelse pos) st Q := .mk fun s ad hs => At.mk fun K hK =>
  wpAny_If ((h.go s ad hs).run _ fun b st1 s1 ad1 b' q1 e1 p1 hs1 r1 => by
    cases r1
    cases b with
    | true => exact ((q1.1 rfl).go s1 ad1 hs1).run K fun f st4 s4 ad4 f' q4 e4 p4 hs4 r4 => hK f st4 s4 ad4 f' q4 (e1.trans e4) (p1.trans p4) hs4 r4
    | false => exact ((q1.2 rfl).go s1 ad1 hs1).run K fun f st4 s4 ad4 f' q4 e4 p4 hs4 r4 => hK f st4 s4 ad4 f' q4 (e1.trans e4) (p1.trans p4) hs4 r4)
theorem xv_ret {e : Expr} (h : EV C e st (fun v st1 => Q (.ret v) st1)) : XV C (.Return (some e) pos) st Q := .mk fun s ad hs => At.mk fun K hK =>
  wpAny_Return_some ((h.go s ad hs).run _ fun v st1 s1 ad1 w q1 e1 p1 hs1 r1 => hK (.ret v) st1 s1 ad1 _ q1 e1 p1 hs1 ⟨w, rfl, r1⟩)
/-- a name of the frame stored -/
theorem SR.store {ad : List Addr} {s : Shared} {x : Str} {v : V} {w : Value} (hs : SR C ad st s.heap) (hv : VR ad v w) (G : Gd C sc lv) (hl : sc.names.lookup x = some .local) {E : Value → Shared → Prop} {K : Unit → Shared → Prop}
    (h : ∀ s', Same s s' → SR C ad (st.set x v) s'.heap → K () s') : wpAny C.M C.A (storeName C.env x w) K E s := by
  obtain ⟨⟨m, news, F, N, c, d, o, r⟩, hc⟩ := hs
  refine wpAny_storeName_local (by rw [Env.kindOf, G.scope]; exact hl) F.ns (fun h' hn hsb => h _ (Same.mk' s h' _) ?_) (by rw [G.scope, G.kind]; rfl)
  exact ⟨⟨_, news, F.set hn hsb, N.set hsb, c, d, o, r.store hv⟩, hc⟩
theorem xv_assign {x : Str} {px : Pos} {value : Expr} (G : Gd C sc lv) (h : EV C value st (fun v st1 => Q .next (st1.set x v))) (hl : sc.names.lookup x = some .local := by rfl)
    (hsw : swapsWith value (some (.Name x px)) pos.line C.env = pure false := by rfl) : XV C (.Assign [.Name x px] value pos) st Q := .mk fun s ad hs => At.mk fun K hK =>
  wpAny_Assign_Name ((h.go s ad hs).run _ fun v st1 s1 ad1 w q1 e1 p1 hs1 r1 => hs1.store r1 G hl fun s' e' hs' => hK .next _ s' ad1 .next q1 (e1.trans e') p1 hs' rfl) hsw
theorem xv_aug {x : Str} {px : Pos} {op : Operator} {value : Expr} {v : V} (G : Gd C sc lv) (h : EV C value st (fun b st1 => IO C op v b st1 (fun r st2 => Q .next (st2.set x r)))) (hv : st.m.lookup x = some v := by rfl) (hl : sc.names.lookup x = some .local := by rfl) :
    XV C (.AugAssign (.Name x px) op value pos) st Q := .mk fun s ad hs => At.mk fun K hK =>
  wpAny_AugAssign_Name (((load_local (Q := fun u st1 => u = v ∧ st1 = st) G hv hl ⟨rfl, rfl⟩).go s ad hs).run _ fun u st0 s0 ad0 w0 q0 e0 p0 hs0 r0 => by
    obtain ⟨rfl, rfl⟩ := q0
    exact (h.go s0 ad0 hs0).run _ fun b st1 s1 ad1 w1 q1 e1 p1 hs1 r1 => (q1.go s1 ad1 w0 w1 hs1 (r0.mono p1) r1).run _ fun r st2 s2 ad2 w2 q2 e2 p2 hs2 r2 => hs2.store r2 G hl fun s' e' hs' =>
      hK .next _ s' ad2 .next q2 (e0.trans (e1.trans (e2.trans e'))) (p0.trans (p1.trans p2)) hs' rfl)
/-- what a turn of a while loop leaves -/
def Turn (C : Cx) (n k : Nat) (I : Nat → St → Prop) (Q : F → St → Prop) : F → St → Prop
  | .brk, st => Q .next st
  | .ret v, st => Q (.ret v) st
  | _, st => ∃ i st', i < n ∧ Wk C st st' ∧ k ≤ st'.os.length ∧ I i st'
theorem xv_while {t : Expr} {body : List Stmt} (I : Nat → St → Prop) (n : Nat) (h0 : I n st)
    (turn : ∀ n st', I n st' → BV C t st' (fun b st1 => (b = true → SV C body st1 (Turn C n st.os.length I Q)) ∧ (b = false → Q .next st1))) : XV C (.While t body [] pos) st Q := .mk fun s ad hs => At.mk fun K hK => by
  refine wpAny_While (codeAny_whileLoop (fun n s' => ∃ st' ad', I n st' ∧ Same s s' ∧ ad <+: ad' ∧ SR C ad' st' s'.heap) ?_ n ⟨st, ad, h0, Same.rfl' s, List.prefix_refl _, hs⟩)
  rintro n s' ⟨st', ad', hI, e', p', hs'⟩
  refine wpAny_mono (Q := _) (((turn n st' hI).go s' ad' hs').run _ fun b st1 s1 ad1 b' q1 e1 p1 hs1 r1 => ?_) (fun _ _ x => x) fun _ _ x => x.elim
  cases r1
  cases b with
  | false => exact wpAny_execs_nil (hK .next st1 s1 ad1 .next (q1.2 rfl) (e'.trans e1) (p'.trans p1) hs1 rfl)
  | true =>
    refine wpAny_mono (Q := _) (((q1.1 rfl).go s1 ad1 hs1).run _ fun f st2 s2 ad2 f' q2 e2 p2 hs2 r2 => ?_) (fun _ _ x => x) fun _ _ x => x.elim
    have more : (∃ i st', i < n ∧ Wk C st2 st' ∧ st.os.length ≤ st'.os.length ∧ I i st') → ∃ m, m < n ∧ ∃ st' ad', I m st' ∧ Same s s2 ∧ ad <+: ad' ∧ SR C ad' st' s2.heap := by
      rintro ⟨i, st3, hi, wk, hl, hI3⟩
      obtain ⟨ad3, hs3, px⟩ := hs2.wk wk
      exact ⟨i, hi, st3, ad3, hI3, e'.trans (e1.trans e2), px _ (p'.trans (p1.trans p2)) (by rw [hs.len]; exact hl), hs3⟩
    cases f with
    | next => cases r2; exact more q2
    | cont => cases r2; exact more q2
    | brk => cases r2; exact hK .next st2 s2 ad2 .next q2 (e'.trans (e1.trans e2)) (p'.trans (p1.trans p2)) hs2 rfl
    | ret v =>
      obtain ⟨w, rfl, hw⟩ := r2
      exact hK (.ret v) st2 s2 ad2 _ q2 (e'.trans (e1.trans e2)) (p'.trans (p1.trans p2)) hs2 ⟨w, rfl, hw⟩
end

/-! calls -/
section
variable {C : Cx} {sc : Scope} {lv : Nat} {st : St} {pos : Pos}
theorem av_nil {Q : List V → St → Prop} (h : Q [] st) : AV C pos [] st Q := .mk fun s ad hs => At.stay (a := []) hs h .nil fun _ hK => spliced_nil hK
theorem av_cons {e : Expr} {rest : List Expr} {Q : List V → St → Prop} (h : EV C e st (fun v st1 => AV C pos rest st1 (fun vs st2 => Q (v :: vs) st2)))
    (hst : starEach (e :: rest) C.env = (false, eval e C.env) :: starEach rest C.env := by rfl) : AV C pos (e :: rest) st Q := .mk fun s ad hs => At.mk fun K hK => by
  show wpAny _ _ (spliced (backTo pos (starEach (e :: rest) C.env))) _ _ _
  rw [hst]
  exact spliced_cons ((h.go s ad hs).run _ fun v st1 s1 ad1 w q1 e1 p1 hs1 r1 => (q1.go s1 ad1 hs1).run _ fun vs st2 s2 ad2 ws q2 e2 p2 hs2 r2 => hK (v :: vs) st2 s2 ad2 _ q2 (e1.trans e2) (p1.trans p2) hs2 (.cons (r1.mono p2) r2))
theorem plain_backTo {es : List Expr} {env : Env} (h : (starEach es env).any (·.1) = false) : (backTo pos (starEach es env)).any (·.1) = false := by
  simp only [backTo, List.any_map]
  exact h
/-- a call of a built-in function or type by its name, one argument at least -/
theorem ev_callB {x : Str} {px : Pos} {id : String} {e : Expr} {rest : List Expr} {Q : V → St → Prop} (hf : EV C (.Name x px) st (fun f st1 => f = .fix (.builtin id) ∧ AV C pos (e :: rest) st1 (fun vs st2 => CL C (.builtin id) vs st2 Q)))
    (hst : starEach (e :: rest) C.env = (false, eval e C.env) :: starEach rest C.env := by rfl) (hp : (starEach (e :: rest) C.env).any (·.1) = false := by rfl) : EV C (.Call (.Name x px) (e :: rest) [] pos) st Q := .mk fun s ad hs => At.mk fun K hK => by
  refine wpAny_Call_Name_kw ((hf.go s ad hs).run _ fun f st1 s1 ad1 w q1 e1 p1 hs1 r1 => ?_)
  obtain ⟨rfl, q1⟩ := q1
  cases r1
  refine callWith_builtin (plain_backTo hp) ?_
  have := q1.go s1 ad1 hs1
  revert this
  show At C ad1 s1 VRs (spliced (backTo pos (starEach (e :: rest) C.env))) _ → _
  rw [hst]
  intro q1
  exact evalArgs_plain (q1.run _ fun vs st2 s2 ad2 ws q2 e2 p2 hs2 r2 => (q2.go s2 ad2 ws hs2 r2).run K fun v st3 s3 ad3 w q3 e3 p3 hs3 r3 => hK v st3 s3 ad3 w q3 (e1.trans (e2.trans e3)) (p1.trans (p2.trans p3)) hs3 r3)
theorem ev_callT {x : Str} {px : Pos} {T : String} {e : Expr} {rest : List Expr} {Q : V → St → Prop} (hf : EV C (.Name x px) st (fun f st1 => f = .fix (.type T) ∧ AV C pos (e :: rest) st1 (fun vs st2 => CL C (.type T) vs st2 Q)))
    (hst : starEach (e :: rest) C.env = (false, eval e C.env) :: starEach rest C.env := by rfl) (hp : (starEach (e :: rest) C.env).any (·.1) = false := by rfl) : EV C (.Call (.Name x px) (e :: rest) [] pos) st Q := .mk fun s ad hs => At.mk fun K hK => by
  refine wpAny_Call_Name_kw ((hf.go s ad hs).run _ fun f st1 s1 ad1 w q1 e1 p1 hs1 r1 => ?_)
  obtain ⟨rfl, q1⟩ := q1
  cases r1
  refine PyProof.Rows.callWith_type (plain_backTo hp) ?_
  have := q1.go s1 ad1 hs1
  revert this
  show At C ad1 s1 VRs (spliced (backTo pos (starEach (e :: rest) C.env))) _ → _
  rw [hst]
  intro q1
  exact evalArgs_plain (q1.run _ fun vs st2 s2 ad2 ws q2 e2 p2 hs2 r2 => (q2.go s2 ad2 ws hs2 r2).run K fun v st3 s3 ad3 w q3 e3 p3 hs3 r3 => hK v st3 s3 ad3 w q3 (e1.trans (e2.trans e3)) (p1.trans (p2.trans p3)) hs3 r3)
end
end Mine
namespace Mine

/-- the context of a called def -/
structure Callee (C C' : Cx) (fsc : Scope) (lv : Nat) : Prop where
  gd : Gd C' fsc lv
  hand : C'.A.handled = C.A.handled
  p : C'.p = C.p
  mg : C'.mg = C.mg
  cl : C'.cl = []
  loose : C'.loose = C.loose

theorem Callee.blt {C C' : Cx} {fsc : Scope} {lv : Nat} (h : Callee C C' fsc lv) {x : Str} {v : Value} (b : Blt C x v) : Blt C' x v := ⟨by rw [h.mg]; exact b.1, b.2⟩
theorem VRs.zip {ad : List Addr} : ∀ {names : List Str} {vs : List V} {ws : List Value}, VRs ad vs ws → ∀ x v, (names.zip vs).reverse.lookup x = some v → ∃ w, (names.zip ws).reverse.lookup x = some w ∧ VR ad v w := by
  have key : ∀ {names : List Str} {vs : List V} {ws : List Value}, VRs ad vs ws → ∀ (l : List (Str × V)) (l' : List (Str × Value)), (∀ x v, l.lookup x = some v → ∃ w, l'.lookup x = some w ∧ VR ad v w) → (∀ x, l.lookup x = none → l'.lookup x = none) →
      ∀ x v, ((names.zip vs).reverse ++ l).lookup x = some v → ∃ w, ((names.zip ws).reverse ++ l').lookup x = some w ∧ VR ad v w := by
    intro names
    induction names with
    | nil => intro vs ws h l l' hl _ x v e; exact hl x v e
    | cons n ns ih =>
      intro vs ws h l l' hl hn x v e
      cases h with
      | nil => exact hl x v e
      | cons a h =>
        rename_i v0 w0 vs ws
        simp only [List.zip_cons_cons, List.reverse_cons, List.append_assoc, List.singleton_append] at e ⊢
        refine ih h ((n, v0) :: l) ((n, w0) :: l') (fun y u q => ?_) (fun y q => ?_) x v e
        · rw [List.lookup_cons] at q ⊢
          cases hy : y == n with
          | true => rw [hy] at q; cases q; exact ⟨w0, rfl, a⟩
          | false => rw [hy] at q; exact hl y u q
        · rw [List.lookup_cons] at q ⊢
          cases hy : y == n with
          | true => rw [hy] at q; cases q
          | false => rw [hy] at q; exact hn y q
  intro names vs ws h x v e
  have := key (names := names) h [] [] (fun _ _ q => nomatch q) (fun _ _ => rfl) x v (by simpa using e)
  simpa using this

def retv : F → V
  | .ret v => v
  | _ => .none

def fval : Flow → Value
  | .ret v => v
  | _ => .none
theorem os_new (os : List O) (o : O) : (os ++ [o])[os.length]? = some o := by simp
theorem retv_rel {ad : List Addr} {f : F} {f' : Flow} (r : FR ad f f') : VR ad (retv f) (fval f') := by
  cases f with
  | ret v => obtain ⟨w, rfl, hw⟩ := r; exact hw
  | next => cases r; rfl
  | brk => cases r; rfl
  | cont => cases r; rfl

section
variable {C : Cx} {sc : Scope} {lv : Nat} {st : St} {pos : Pos}
theorem call_fn {x : Str} {params : Arguments} {body : List Stmt} {fsc : Scope} {a : Addr} {o : Obj} {pm cd doc : Value} {vs : List V} {Q : V → St → Prop} (names : List Str) (G : Gd C sc (lv + 1))
    (ho : C.h₀.get? a = some o) (hd : o.data = .func (docDef x params body fsc pm cd doc)) (hcd : C.h₀.CodeRec cd x)
    (hb : ∀ ws : List Value, ws.length = names.length → bindArgs (docDef x params body fsc pm cd doc) ⟨ws, []⟩ = pure (names.zip ws)) (hvs : vs.length = names.length)
    (hl : ∀ n ∈ names, fsc.names.lookup n = some .local) (hcell : ∀ x ∈ fsc.names, x.2 ≠ .cell) (hco : fsc.isCoroutine = false) (hgen : fsc.isGenerator = false) (hk : fsc.kind = .function)
    (h : ∀ C', Callee C C' fsc lv → SV C' body ⟨(names.zip vs).reverse, st.os⟩ (fun f st2 => Q (retv f) ⟨st.m, st2.os⟩)) : CL C (.ref a) vs st Q := .mk fun s ad ws hs hr => At.mk fun K hK => by
  obtain ⟨A₀, base, outer, B, hA, hf⟩ := G.bel
  obtain ⟨⟨m, news, F, N, c, d, o', r⟩, hcl⟩ := hs
  refine wpAny_call ?_
  have hlen : ws.length = names.length := by rw [hr.length, hvs]
  refine callX_plain (cl := []) (binds := names.zip ws) B F N G.top.nolimit hA hf (by rw [G.scope]; exact G.kind) (F.keep _ _ ho) (hd.trans rfl) (hcd.keeps F.keep) (by have := G.depth; show C.A.depth < 1000; omega)
    (BindsTo.of_eq (hb ws hlen)) (fun y hy => ?_) (fun g L' h₁ FG F' N' B' stay hlt => ?_) hcell hco hgen hk
  · exact hl _ (List.of_mem_zip hy).1
  · let C' : Cx := { C with A := C.A.deeper (envX x fsc L' a cd []), env := envX x fsc L' a cd [], h₀ := g, cl := [] }
    have hc : Callee C C' fsc lv := ⟨⟨rfl, hk, rfl, rfl, G.top.keeps stay, by have := G.depth; show C.A.depth + 1 + lv < 500; omega, ⟨C.A, base, C.env :: outer, B', Around.frames_deeper B'.stack, rfl⟩⟩, rfl, rfl, rfl, rfl, rfl⟩
    refine wpAny_mono (Q := _) (((h C' hc).go { s with heap := h₁, toks := s.toks + (names.zip ws).length } ad ⟨⟨_, news, F', N', c, d, o', VRs.zip hr⟩, fun _ _ q => nomatch q⟩).run _ fun f st2 s2 ad2 f' q2 e2 p2 hs2 r2 => ?_) (fun _ _ x => x) fun _ _ x => x.elim
    obtain ⟨⟨m2, news2, F2, N2, c2, d2, o2, r2'⟩, _⟩ := hs2
    refine leaveK_ F2 N2 fun FF NN => ?_
    exact hK _ _ s2 ad2 _ q2 ((Same.mk' s h₁ _).trans e2) p2 ⟨⟨m, news2, FF, NN, c2, d2, o2, r.mono p2⟩, fun y k q => by
      obtain ⟨cc, q1, q3⟩ := hcl y k q
      obtain ⟨rr, rfl⟩ := p2
      exact ⟨cc, q1, by rw [List.getElem?_append_left (List.getElem?_eq_some_iff.mp q3).1]; exact q3⟩⟩ (by have := retv_rel r2; cases f' <;> exact this)

theorem VR.bel {ad : List Addr} {v : V} {w : Value} (h : VR ad v w) : v.below ad.length := by
  cases v with
  | ref k => obtain ⟨a, ha, _⟩ := h; exact (List.getElem?_eq_some_iff.mp ha).1
  | _ => trivial
theorem VRs.bel {ad : List Addr} {vs : List V} {ws : List Value} (h : VRs ad vs ws) : ∀ v ∈ vs, v.below ad.length := by
  induction h with
  | nil => exact fun _ h => nomatch h
  | cons a _ ih =>
    intro v hv
    rcases List.mem_cons.mp hv with rfl | hv
    · exact a.bel
    · exact ih v hv
theorem OR.bel {ad : List Addr} {o : O} {p : Obj} (h : OR ad o p) : o.below ad.length := by
  match o, h with
  | .list _, ⟨ws, n, e, hv⟩ => exact hv.bel
  | .tuple _, ⟨ws, n, e, hv⟩ => exact hv.bel
  | .cell (some _), ⟨w, e, hv⟩ => exact hv.bel
  | .cell .none, h => exact trivial
  | .range _ _ _, h => exact trivial
  | .junk, _ => exact trivial
theorem ORs.bel {ad : List Addr} {os : List O} {ps : List (Addr × Obj)} (h : ORs ad os ps) : ∀ o ∈ os, o.below ad.length := by
  induction h with
  | nil => exact fun _ h => nomatch h
  | cons a _ ih =>
    intro v hv
    rcases List.mem_cons.mp hv with rfl | hv
    · exact a.bel
    · exact ih v hv
/-- behind a step that left the store as it was, but for new things: these are dropped -/
theorem SR.back {ad ad2 : List Addr} {s s2 : Shared} {junk : List O} (hs : SR C ad st s.heap) (hs2 : SR C ad2 ⟨st.m, st.os ++ junk⟩ s2.heap) (p : ad <+: ad2) : SR C ad st s2.heap := by
  have hl := hs.len
  have hl2 := hs2.len
  obtain ⟨⟨m, news, _, _, c, _, o, r⟩, hc⟩ := hs
  have e : ad2.take st.os.length = ad := by
    obtain ⟨q, rfl⟩ := p
    rw [← hl]
    simp
  obtain ⟨⟨m2, news2, F2, N2, c2, d2, o2, r2⟩, hc2⟩ := hs2
  refine ⟨⟨m2, news2.take st.os.length, F2, fun p hp => N2 p ?_, by rw [List.map_take, c2, e], ?_, ?_, fun x v q => ?_⟩, hc⟩
  · rcases List.mem_append.mp hp with hp | hp
    · exact List.mem_append_left _ (List.mem_of_mem_take hp)
    · exact List.mem_append_right _ hp
  · rw [← e]
    exact d2.sublist ((List.take_sublist _ _).append (List.Sublist.refl _))
  · have t := o2.take st.os.length
    rw [show (⟨st.m, st.os ++ junk⟩ : St).os.take st.os.length = st.os by simp] at t
    have := t.cut (n := st.os.length) (by rw [← hl]; exact o.bel)
    rw [e] at this
    exact this
  · obtain ⟨w, q1, q2⟩ := r2 x v q
    obtain ⟨w', q3, q4⟩ := r x v q
    refine ⟨w, q1, ?_⟩
    rw [← e]
    exact q2.cut (by rw [← hl]; exact q4.bel)
/-- a call of a def of the text -/
theorem ev_call {x : Str} {px : Pos} {e : Expr} {rest : List Expr} {params : Arguments} {body : List Stmt} {fsc : Scope} {fpos : Pos} {Q : V → St → Prop} (names : List Str) (G : Gd C sc (lv + 1))
    (hd : (⟨x, params, body, fsc, fpos⟩ : DefRec) ∈ recsOf C.p)
    (h : AV C pos (e :: rest) st (fun vs st1 => vs.length = names.length ∧ ∀ C', Callee C C' fsc lv → SV C' body ⟨(names.zip vs).reverse, st1.os⟩ (fun f st2 => Q (retv f) ⟨st1.m, st2.os⟩)))
    (hb : ∀ pm cd doc (ws : List Value), ws.length = names.length → bindArgs (docDef x params body fsc pm cd doc) ⟨ws, []⟩ = pure (names.zip ws))
    (hl : ∀ n ∈ names, fsc.names.lookup n = some .local) (hcell : ∀ x ∈ fsc.names, x.2 ≠ .cell) (hco : fsc.isCoroutine = false := by rfl) (hgen : fsc.isGenerator = false := by rfl) (hk : fsc.kind = .function := by rfl)
    (hg : sc.names.lookup x = some .globalImplicit := by rfl) (hdb : (x == ("__debug__" : Str)) = false := by rfl)
    (hst : starEach (e :: rest) C.env = (false, eval e C.env) :: starEach rest C.env := by rfl) : EV C (.Call (.Name x px) (e :: rest) [] pos) st Q := .mk fun s ad hs => At.mk fun K hK => by
  obtain ⟨a, o, pm, cd, doc, hmg, ho, hdt, hcd⟩ := G.top.fn _ hd
  refine wpAny_Call_Name_kw (((ev_global (Q := fun f st1 => f = .fix (.ref a) ∧ st1 = st) G hmg ⟨rfl, rfl⟩ hg hdb).go s ad hs).run _ fun f st1 s1 ad1 w q1 e1 p1 hs1 r1 => ?_)
  obtain ⟨rfl, rfl⟩ := q1
  cases r1
  have h1 := h.go s1 ad1 hs1
  revert h1
  refine fun h1 => callWith_function (o := o) (fd := docDef x params body fsc pm cd doc) ?_
  revert h1
  show At C ad1 s1 VRs (spliced (backTo pos (starEach (e :: rest) C.env))) _ → wpAny _ _ (evalArgs _ _ (backTo pos (starEach (e :: rest) C.env)) _) _ _ _
  rw [hst]
  intro h1
  refine evalArgs_plain (h1.run _ fun vs st2 s2 ad2 ws q2 e2 p2 hs2 r2 => ⟨⟨?_, hdt⟩, ?_⟩)
  · obtain ⟨⟨m, news, F, _⟩, _⟩ := hs2
    exact F.keep _ _ ho
  · exact ((call_fn names G ho hdt hcd (hb pm cd doc) q2.1 hl hcell hco hgen hk q2.2).go s2 ad2 ws hs2 r2).run K fun v st3 s3 ad3 w q3 e3 p3 hs3 r3 => hK v st3 s3 ad3 w q3 (e1.trans (e2.trans e3)) (p1.trans (p2.trans p3)) hs3 r3
end

section
variable {C : Cx} {sc : Scope} {lv : Nat} {st : St} {pos : Pos}
/-- things that a step made and that are needed no more -/
theorem ev_drop {e : Expr} {Q : V → St → Prop} (h : EV C e st (fun v st' => ∃ junk, st' = ⟨st.m, st.os ++ junk⟩ ∧ v.below st.os.length ∧ Q v st)) : EV C e st Q := .mk fun s ad hs => At.mk fun K hK =>
  (h.go s ad hs).run K fun v st' s' ad' w q e1 p hs' r => by
    obtain ⟨junk, rfl, hb, hq⟩ := q
    have hl := hs.len
    refine hK v st s' ad w hq e1 (List.prefix_refl _) (hs.back hs' p) ?_
    obtain ⟨q, rfl⟩ := p
    have := r.cut hb
    rw [show (ad ++ q).take st.os.length = ad by rw [← hl]; simp] at this
    exact this
end
/-! some built-ins -/
section
variable {C : Cx} {sc : Scope} {lv : Nat} {st : St} {pos : Pos} {Q : V → St → Prop}
/-- the heap has grown, all that stood stands -/
theorem SR.grown {ad : List Addr} {h h' : Heap} (hs : SR C ad st h) (hk : ∀ b o, h.get? b = some o → h'.get? b = some o) : SR C ad st h' := by
  obtain ⟨⟨m, news, F, N, c, d, o, r⟩, hc⟩ := hs
  exact ⟨⟨m, news, F.keeps hk, fun p hp => ⟨hk _ _ (N p hp).1, (N p hp).2⟩, c, d, o, r⟩, hc⟩
theorem cl_min {x y : Int} (hh : C.A.handled = none) (h : Q (.int (if y < x then y else x)) st) : CL C (.builtin "min") [.int x, .int y] st Q := .mk fun s ad ws hs hr => At.mk fun K hK => by
  cases hr with | cons a hr => cases hr with | cons b hr => cases hr with | nil =>
  obtain ⟨t, rfl⟩ := a
  obtain ⟨u, rfl⟩ := b
  refine min_two_ints hh fun h' tk hk => ?_
  refine hK _ st _ ad _ h (Same.mk' s h' tk) (List.prefix_refl _) (hs.grown hk) ?_
  by_cases c : y < x
  · rw [if_pos c, if_pos c]; exact ⟨_, rfl⟩
  · rw [if_neg c, if_neg c]; exact ⟨_, rfl⟩
theorem cl_abs {x : Int} (h : Q (.int (if x < 0 then -x else x)) st) : CL C (.builtin "abs") [.int x] st Q := .mk fun s ad ws hs hr => At.mk fun K hK => by
  cases hr with | cons a hr => cases hr with | nil =>
  obtain ⟨t, rfl⟩ := a
  exact call_abs_int fun u tk => hK _ st _ ad _ h (Same.tk s tk) (List.prefix_refl _) hs ⟨_, rfl⟩
end
end Mine
namespace Mine
section
variable {C : Cx} {sc : Scope} {lv : Nat} {st : St} {pos : Pos} {Q : V → St → Prop} {ad : List Addr}
/-- a new object behind the store -/
theorem sr_alloc {m : Str → Option Value} {news : List (Addr × Obj)} {h h' : Heap} {o : O} {ob : Obj} (N : News C.h₀ C.env.locals h (news ++ C.kp)) (c : news.map (·.1) = ad) (d : (ad ++ C.kp.map (·.1)).Nodup) (o' : ORs ad st.os news) (r : MR ad st.m m)
    (hc : ∀ x k, C.cl.lookup x = some k → ∃ c, C.env.cells.lookup x = some c ∧ ad[k]? = some c)
    (F' : Fr C.h₀ C.env.locals h' m) (N' : News C.h₀ C.env.locals h' ((h.objs.size, ob) :: (news ++ C.kp))) (hob : OR (ad ++ [h.objs.size]) o ob) : SR C (ad ++ [h.objs.size]) ⟨st.m, st.os ++ [o]⟩ h' := by
  have px : ad <+: ad ++ [h.objs.size] := List.prefix_append _ _
  have hlt : ∀ a ∈ ad ++ C.kp.map (·.1), a < h.objs.size := by
    intro a ha
    rw [← c, ← List.map_append] at ha
    obtain ⟨p, hp, rfl⟩ := List.mem_map.mp ha
    exact Heap.lt_size (N p hp).1
  refine ⟨⟨m, news ++ [(h.objs.size, ob)], F', fun p hp => N' p ?_, by rw [List.map_append, c]; rfl, ?_, (o'.mono px).append (.cons hob .nil), r.mono px⟩, fun x k q => ?_⟩
  · simp only [List.append_assoc, List.mem_append, List.mem_cons, List.not_mem_nil, or_false] at hp ⊢
    rcases hp with hp | hp | hp
    · exact .inr (.inl hp)
    · exact .inl hp
    · exact .inr (.inr hp)
  · rw [List.append_assoc, List.singleton_append]
    refine (List.nodup_append.mpr ?_)
    have d' := List.nodup_append.mp d
    refine ⟨d'.1, List.nodup_cons.mpr ⟨fun hm => Nat.lt_irrefl _ (hlt _ (List.mem_append_right _ hm)), d'.2.1⟩, fun a ha b hb => ?_⟩
    rcases List.mem_cons.mp hb with rfl | hb
    · exact Nat.ne_of_lt (hlt _ (List.mem_append_left _ ha))
    · exact d'.2.2 a ha b hb
  · obtain ⟨cc, q1, q2⟩ := hc x k q
    exact ⟨cc, q1, by rw [List.getElem?_append_left (List.getElem?_eq_some_iff.mp q2).1]; exact q2⟩
abbrev St.add (st : St) (o : O) : St := ⟨st.m, st.os ++ [o]⟩
theorem ref_new (ad : List Addr) (a : Addr) (n : Nat) (h : ad.length = n) : VR (ad ++ [a]) (.ref n) (.ref a) := ⟨a, by subst h; simp, rfl⟩
theorem ev_list {es : List Expr} (h : AV C pos es st (fun vs st1 => vs.length ≤ 1000000 ∧ Q (.ref st1.os.length) (st1.add (.list vs)))) : EV C (.List es pos) st Q := .mk fun s ad hs => At.mk fun K hK =>
  List_ ((h.go s ad hs).run _ fun vs st1 s1 ad1 ws q1 e1 p1 hs1 r1 => by
    have hl := hs1.len
    obtain ⟨⟨m, news, F, N, c, d, o, r⟩, hc⟩ := hs1
    refine newList_N F N (fun h' F' N' => ?_) (by rw [r1.length, sizeLine_eq]; omega)
    exact hK _ _ _ _ _ q1.2 (e1.trans (Same.hp s1 h')) (p1.trans (List.prefix_append _ _)) (sr_alloc N c d o r hc F' N' ⟨ws, 0, rfl, r1.mono (List.prefix_append _ _)⟩) (ref_new _ _ _ hl))
theorem ev_tuple {es : List Expr} {k : Nat} (h : AV C pos es st (fun vs st1 => vs.length ≤ 1000000 ∧ Q (.ref st1.os.length) (st1.add (.tuple vs)))) : EV C (.Tuple es k pos) st Q := .mk fun s ad hs => At.mk fun K hK =>
  Tuple_ ((h.go s ad hs).run _ fun vs st1 s1 ad1 ws q1 e1 p1 hs1 r1 => by
    have hl := hs1.len
    obtain ⟨⟨m, news, F, N, c, d, o, r⟩, hc⟩ := hs1
    refine newTuple_N F N (fun h' F' N' => ?_) (by rw [r1.length, sizeLine_eq]; omega)
    exact hK _ _ _ _ _ q1.2 (e1.trans (Same.hp s1 h')) (p1.trans (List.prefix_append _ _)) (sr_alloc N c d o r hc F' N' ⟨ws, 0, rfl, r1.mono (List.prefix_append _ _)⟩) (ref_new _ _ _ hl))
/-- what the store says of the heap -/
theorem SR.at {h : Heap} (hs : SR C ad st h) {k : Nat} {o : O} (e : st.os[k]? = some o) : ∃ a ob, ad[k]? = some a ∧ h.get? a = some ob ∧ OR ad o ob ∧ a ≠ C.env.locals ∧ C.h₀.get? a = none := by
  obtain ⟨⟨m, news, F, N, c, d, o', r⟩, hc⟩ := hs
  obtain ⟨p, hp, hr⟩ := o'.get e
  have := N p (List.mem_append_left _ (List.mem_of_getElem? hp))
  exact ⟨p.1, p.2, by rw [← c, List.getElem?_map, hp]; rfl, this.1, hr, this.2.1, this.2.2⟩
theorem SR.list {h : Heap} (hs : SR C ad st h) {k : Nat} {vs : List V} (e : st.os[k]? = some (.list vs)) : ∃ a ws, ad[k]? = some a ∧ h.IsList a ws.toArray ∧ VRs ad vs ws := by
  obtain ⟨a, ob, h1, h2, ⟨ws, n, rfl, hv⟩, _⟩ := hs.at e
  exact ⟨a, ws, h1, ⟨_, h2, rfl, n, rfl⟩, hv⟩
theorem SR.tuple {h : Heap} (hs : SR C ad st h) {k : Nat} {vs : List V} (e : st.os[k]? = some (.tuple vs)) : ∃ a ws, ad[k]? = some a ∧ h.IsTuple a ws.toArray ∧ VRs ad vs ws := by
  obtain ⟨a, ob, h1, h2, ⟨ws, n, rfl, hv⟩, _⟩ := hs.at e
  exact ⟨a, ws, h1, ⟨_, h2, rfl, n, rfl⟩, hv⟩
theorem VR.ref {k : Nat} {w : Value} {a : Addr} (h : VR ad (.ref k) w) (e : ad[k]? = some a) : w = .ref a := by
  obtain ⟨b, hb, rfl⟩ := h
  rw [e] at hb
  cases hb
  rfl
theorem ints_rel {ws : List Value} {ns : List Int} (h : IntsAre ws ns) : VRs ad (ns.map V.int) ws := by
  induction h with
  | nil => exact .nil
  | cons n t _ ih => exact .cons ⟨t, rfl⟩ ih
/-- two lists joined: both of the store -/
theorem bo_addL {j k : Nat} {vs us : List V} (hj : st.os[j]? = some (.list vs)) (hk : st.os[k]? = some (.list us)) (hsz : vs.length + us.length ≤ 1000000) (h : Q (.ref st.os.length) (st.add (.list (vs ++ us)))) : BO C .Add (.ref j) (.ref k) st Q := .mk fun s ad va vb hs ra rb => At.mk fun K hK => by
  obtain ⟨a, ws, ha, hla, hva⟩ := hs.list hj
  obtain ⟨b, xs, hb, hlb, hvb⟩ := hs.list hk
  cases ra.ref ha
  cases rb.ref hb
  have hl := hs.len
  obtain ⟨⟨m, news, F, N, c, d, o, r⟩, hc⟩ := hs
  refine add_lists F N hla hlb (fun h' F' N' => ?_) (by rw [hva.length, hvb.length, sizeLine_eq]; omega)
  exact hK _ _ _ _ _ h (Same.hp s h') (List.prefix_append _ _) (sr_alloc N c d o r hc F' N' ⟨ws ++ xs, 0, rfl, (hva.append hvb).mono (List.prefix_append _ _)⟩) (ref_new _ _ _ hl)
/-- a list of the store and the script -/
theorem bo_addS {j : Nat} {vs : List V} {b : Addr} {xs : List Value} {ns : List Int} (hj : st.os[j]? = some (.list vs)) (hb : C.h₀.IsList b xs.toArray) (hi : IntsAre xs ns) (hsz : vs.length + ns.length ≤ 1000000) (h : Q (.ref st.os.length) (st.add (.list (vs ++ ns.map V.int)))) : BO C .Add (.ref j) (.fix (.ref b)) st Q := .mk fun s ad va vb hs ra rb => At.mk fun K hK => by
  obtain ⟨a, ws, ha, hla, hva⟩ := hs.list hj
  cases ra.ref ha
  cases rb
  have hl := hs.len
  obtain ⟨⟨m, news, F, N, c, d, o, r⟩, hc⟩ := hs
  have hvb : VRs ad (ns.map V.int) xs := ints_rel hi
  obtain ⟨ob, h1, h2, n, h3⟩ := hb
  have hlb : s.heap.IsList b xs.toArray := ⟨ob, F.keep _ _ h1, h2, n, h3⟩
  refine add_lists F N hla hlb (fun h' F' N' => ?_) (by rw [hva.length, hi.length, sizeLine_eq]; omega)
  exact hK _ _ _ _ _ h (Same.hp s h') (List.prefix_append _ _) (sr_alloc N c d o r hc F' N' ⟨ws ++ xs, 0, rfl, (hva.append hvb).mono (List.prefix_append _ _)⟩) (ref_new _ _ _ hl)
end

/-! iterators -/
/-- an iterator I, at `kp`'s head while it runs: `inv i ks` says that ks are its objects ahead of item i -/
structure AIter (C : Cx) (ad₀ : List Addr) (I : Addr) (items : List V) (dep : St → Prop) (inv : Nat → List (Addr × Obj) → Prop) : Prop where
  next : ∀ i v ks kp st s ad, items[i]? = some v → inv i ks → dep st → ad₀ <+: ad → SR (C.kept (ks ++ kp)) ad st s.heap → ∀ K : Option Value → Shared → Prop,
    (∀ w s' ks', Same s s' → inv (i + 1) ks' → SR (C.kept (ks' ++ kp)) ad st s'.heap → VR ad v w → K (some w) s') → wpAny C.M C.A (pyNext (.ref I)) K No s
  done : ∀ ks kp st s ad, inv items.length ks → dep st → ad₀ <+: ad → SR (C.kept (ks ++ kp)) ad st s.heap → ∀ K : Option Value → Shared → Prop,
    (∀ s', Same s s' → SR (C.kept kp) ad st s'.heap → K none s') → wpAny C.M C.A (pyNext (.ref I)) K No s
def IterOf (C : Cx) (v : V) (st : St) (items : List V) (dep : St → Prop) : Prop :=
  ∀ s ad w, SR C ad st s.heap → VR ad v w → ∀ K : Value → Shared → Prop, (∀ I inv ks s', AIter C ad I items dep inv → inv 0 ks → Same s s' → SR (C.kept (ks ++ C.kp)) ad st s'.heap → K (.ref I) s') → wpAny C.M C.A (pyIter w) K No s
/-- what a turn of a for loop leaves -/
def ForT (C : Cx) (k : Nat) (I : St → Prop) (Q : F → St → Prop) : F → St → Prop
  | .brk, st => Q .next st
  | .ret v, st => Q (.ret v) st
  | _, st => ∃ st', Wk C st st' ∧ k ≤ st'.os.length ∧ I st'
/-- a target that takes an item -/
structure AS (C : Cx) (t : Expr) (v : V) (st : St) (Q : St → Prop) : Prop where
  go : ∀ s ad w, SR C ad st s.heap → VR ad v w → At C ad s UR (assign t C.env w) (fun _ st' => Q st')

section
variable {C : Cx} {sc : Scope} {lv : Nat} {st : St} {pos : Pos} {ad : List Addr}
theorem SR.drop {h : Heap} {ks kp : List (Addr × Obj)} (hs : SR (C.kept (ks ++ kp)) ad st h) : SR (C.kept kp) ad st h := by
  obtain ⟨⟨m, news, F, N, c, d, o, r⟩, hc⟩ := hs
  refine ⟨⟨m, news, F, fun p hp => N p ?_, c, ?_, o, r⟩, hc⟩
  · rcases List.mem_append.mp hp with hp | hp
    · exact List.mem_append_left _ hp
    · exact List.mem_append_right _ (List.mem_append_right _ hp)
  · exact d.sublist (List.Sublist.append (List.Sublist.refl _) (List.Sublist.map _ (List.sublist_append_right _ _)))
/-- the first kept object turned, all else as it was -/
theorem SR.touch {h h' : Heap} {I : Addr} {ob ob' : Obj} {kp : List (Addr × Obj)} (hs : SR (C.kept ((I, ob) :: kp)) ad st h) (hk : ∀ b o, b ≠ I → h.get? b = some o → h'.get? b = some o) (hI : h'.get? I = some ob') : SR (C.kept ((I, ob') :: kp)) ad st h' := by
  obtain ⟨⟨m, news, F, N, c, d, o, r⟩, hc⟩ := hs
  have hN := N (I, ob) (List.mem_append_right _ (.head _))
  have d' := List.nodup_append.mp d
  have hne : ∀ p ∈ news ++ kp, p.1 ≠ I := by
    intro p hp e
    rcases List.mem_append.mp hp with hp | hp
    · exact d'.2.2 p.1 (by rw [← c]; exact List.mem_map_of_mem hp) I (.head _) e
    · have := (List.nodup_cons.mp d'.2.1).1
      exact this (List.mem_map.mpr ⟨p, hp, e⟩)
  refine ⟨⟨m, news, ⟨F.ns.at' fun o e => hk _ o (Ne.symm hN.2.1) e, fun b o e => hk b o (fun q => by rw [q, hN.2.2] at e; cases e) (F.keep b o e), F.above⟩, fun p hp => ?_, c, d, o, r⟩, hc⟩
  rcases List.mem_append.mp hp with hp | hp
  · have := N p (List.mem_append_left _ hp)
    exact ⟨hk _ _ (hne p (List.mem_append_left _ hp)) this.1, this.2⟩
  · rcases List.mem_cons.mp hp with rfl | hp
    · exact ⟨hI, hN.2⟩
    · have := N p (List.mem_append_right _ (.tail _ hp))
      exact ⟨hk _ _ (hne p (List.mem_append_right _ hp)) this.1, this.2⟩
/-- ... or gone -/
theorem SR.gone {h h' : Heap} {I : Addr} {ob : Obj} {kp : List (Addr × Obj)} (hs : SR (C.kept ((I, ob) :: kp)) ad st h) (hk : ∀ b o, b ≠ I → h.get? b = some o → h'.get? b = some o) : SR (C.kept kp) ad st h' := by
  obtain ⟨⟨m, news, F, N, c, d, o, r⟩, hc⟩ := hs
  have hN := N (I, ob) (List.mem_append_right _ (.head _))
  have d' := List.nodup_append.mp d
  have hne : ∀ p ∈ news ++ kp, p.1 ≠ I := by
    intro p hp e
    rcases List.mem_append.mp hp with hp | hp
    · exact d'.2.2 p.1 (by rw [← c]; exact List.mem_map_of_mem hp) I (.head _) e
    · have := (List.nodup_cons.mp d'.2.1).1
      exact this (List.mem_map.mpr ⟨p, hp, e⟩)
  refine ⟨⟨m, news, ⟨F.ns.at' fun o e => hk _ o (Ne.symm hN.2.1) e, fun b o e => hk b o (fun q => by rw [q, hN.2.2] at e; cases e) (F.keep b o e), F.above⟩, fun p hp => ?_, c, ?_, o, r⟩, hc⟩
  · have : p ∈ news ++ (I, ob) :: kp := by
      rcases List.mem_append.mp hp with hp | hp
      · exact List.mem_append_left _ hp
      · exact List.mem_append_right _ (.tail _ hp)
    exact ⟨hk _ _ (hne p hp) (N p this).1, (N p this).2⟩
  · exact d.sublist (List.Sublist.append (List.Sublist.refl _) (List.sublist_cons_self _ _))
/-- a new kept object -/
theorem SR.keep {h : Heap} (hs : SR C ad st h) (ob : Obj) (hfree : ob.isFreed = false := by rfl) : SR (C.kept ((h.objs.size, ob) :: C.kp)) ad st (h.push ob) := by
  obtain ⟨⟨m, news, F, N, c, d, o, r⟩, hc⟩ := hs
  have hlt : ∀ a ∈ ad ++ C.kp.map (·.1), a < h.objs.size := by
    intro a ha
    rw [← c, ← List.map_append] at ha
    obtain ⟨p, hp, rfl⟩ := List.mem_map.mp ha
    exact Heap.lt_size (N p hp).1
  have N' := N.push F ob hfree
  refine ⟨⟨m, news, F.push ob, fun p hp => N' p ?_, c, ?_, o, r⟩, hc⟩
  · rcases List.mem_append.mp hp with hp | hp
    · exact .tail _ (List.mem_append_left _ hp)
    · rcases List.mem_cons.mp hp with rfl | hp
      · exact .head _
      · exact .tail _ (List.mem_append_right _ hp)
  · have d' := List.nodup_append.mp d
    refine (List.nodup_append.mpr ⟨d'.1, List.nodup_cons.mpr ⟨fun hm => Nat.lt_irrefl _ (hlt _ (List.mem_append_right _ hm)), d'.2.1⟩, fun a ha b hb => ?_⟩)
    rcases List.mem_cons.mp hb with rfl | hb
    · exact Nat.ne_of_lt (hlt _ (List.mem_append_left _ ha))
    · exact d'.2.2 a ha b hb
theorem get_prefix {α : Type} {a b : List α} {k : Nat} {x : α} (p : a <+: b) (e : a[k]? = some x) : b[k]? = some x := by
  obtain ⟨r, rfl⟩ := p
  rw [List.getElem?_append_left (List.getElem?_eq_some_iff.mp e).1]
  exact e
theorem wpNo {α : Type} {M : Model} {A : Around} {t : Sem α} {Q : α → Shared → Prop} {E : Value → Shared → Prop} {s : Shared} (h : wpAny M A t Q No s) : wpAny M A t Q E s := wpAny_mono h (fun _ _ x => x) fun _ _ x => x.elim

/-- over a list of the store -/
theorem iter_list {k : Nat} {vs : List V} (hh : C.A.handled = none) (hk : st.os[k]? = some (.list vs)) : IterOf C (.ref k) st vs (fun st' => st'.os[k]? = some (.list vs)) := fun s ad w hs rw' K hK => by
  obtain ⟨a, ws, ha, hla, hva⟩ := hs.list hk
  cases rw'.ref ha
  refine wpAny_pyIter_list hla (hK s.heap.objs.size (fun i ks => ∃ ob, ks = [(s.heap.objs.size, ob)] ∧ ob.cls = .type "list_iterator" ∧ ob.data = .fields #[.ref a, .int i 0]) _ _ ⟨?_, ?_⟩ ⟨_, rfl, rfl, rfl⟩ (Same.hp s _) (hs.keep _))
  · rintro i v ks kp st' s' ad' hv ⟨ob, rfl, hc, hd⟩ hdep px hs' K' hK'
    obtain ⟨a', ws', ha', hla', hva'⟩ := SR.list hs' hdep
    rw [get_prefix px ha] at ha'
    cases ha'
    obtain ⟨w, hw, hvw⟩ := hva'.get hv
    have hI : s'.heap.get? s.heap.objs.size = some ob := by
      obtain ⟨⟨m, news, F, N, _⟩, _⟩ := hs'
      exact (N _ (List.mem_append_right _ (.head _))).1
    refine wpAny_pyNext_list_item ⟨ob, hI, hc, hd⟩ hla' (by simpa using hw) fun h' hit hsb => ?_
    obtain ⟨ob', h1, h2, h3⟩ := hit
    exact hK' w _ [(_, ob')] (Same.hp s' h') ⟨ob', rfl, h2, h3⟩ (SR.touch hs' (fun b o hb e => hsb.extBut b o hb e) h1) hvw
  · rintro ks kp st' s' ad' ⟨ob, rfl, hc, hd⟩ hdep px hs' K' hK'
    obtain ⟨a', ws', ha', hla', hva'⟩ := SR.list hs' hdep
    rw [get_prefix px ha] at ha'
    cases ha'
    have hI : s'.heap.get? s.heap.objs.size = some ob := by
      obtain ⟨⟨m, news, F, N, _⟩, _⟩ := hs'
      exact (N _ (List.mem_append_right _ (.head _))).1
    refine wpAny_pyNext_list_end hh ⟨ob, hI, hc, hd⟩ hla' (by simp [hva'.length]) fun h' he => ?_
    exact hK' _ (Same.hp s' h') (SR.gone hs' fun b o hb e => he b o hb e)
theorem iter_tuple {k : Nat} {vs : List V} (hh : C.A.handled = none) (hk : st.os[k]? = some (.tuple vs)) : IterOf C (.ref k) st vs (fun st' => st'.os[k]? = some (.tuple vs)) := fun s ad w hs rw' K hK => by
  obtain ⟨a, ws, ha, hla, hva⟩ := hs.tuple hk
  cases rw'.ref ha
  refine wpAny_pyIter_tuple hla (hK s.heap.objs.size (fun i ks => ∃ ob, ks = [(s.heap.objs.size, ob)] ∧ ob.cls = .type "tuple_iterator" ∧ ob.data = .fields #[.ref a, .int i 0]) _ _ ⟨?_, ?_⟩ ⟨_, rfl, rfl, rfl⟩ (Same.hp s _) (hs.keep _))
  · rintro i v ks kp st' s' ad' hv ⟨ob, rfl, hc, hd⟩ hdep px hs' K' hK'
    obtain ⟨a', ws', ha', hla', hva'⟩ := SR.tuple hs' hdep
    rw [get_prefix px ha] at ha'
    cases ha'
    obtain ⟨w, hw, hvw⟩ := hva'.get hv
    have hI : s'.heap.get? s.heap.objs.size = some ob := by
      obtain ⟨⟨m, news, F, N, _⟩, _⟩ := hs'
      exact (N _ (List.mem_append_right _ (.head _))).1
    refine wpAny_pyNext_tuple_item ⟨ob, hI, hc, hd⟩ hla' (by simpa using hw) fun h' hit hsb => ?_
    obtain ⟨ob', h1, h2, h3⟩ := hit
    exact hK' w _ [(_, ob')] (Same.hp s' h') ⟨ob', rfl, h2, h3⟩ (SR.touch hs' (fun b o hb e => hsb.extBut b o hb e) h1) hvw
  · rintro ks kp st' s' ad' ⟨ob, rfl, hc, hd⟩ hdep px hs' K' hK'
    obtain ⟨a', ws', ha', hla', hva'⟩ := SR.tuple hs' hdep
    rw [get_prefix px ha] at ha'
    cases ha'
    have hI : s'.heap.get? s.heap.objs.size = some ob := by
      obtain ⟨⟨m, news, F, N, _⟩, _⟩ := hs'
      exact (N _ (List.mem_append_right _ (.head _))).1
    refine wpAny_pyNext_tuple_end hh ⟨ob, hI, hc, hd⟩ hla' (by simp [hva'.length]) fun h' he => ?_
    exact hK' _ (Same.hp s' h') (SR.gone hs' fun b o hb e => he b o hb e)
/-- over a range of the store -/
theorem iter_range {k : Nat} {a b c : Int} {n : Nat} (hh : C.A.handled = none) (hk : st.os[k]? = some (.range a b c)) (hsm : Builtin.Range.small a b c = true) (hn : Builtin.Range.rangeSize a b c = (n : Int)) :
    IterOf C (.ref k) st ((List.range n).map fun (i : Nat) => V.int (a + (i : Int) * c)) (fun _ => True) := fun s ad w hs rw' K hK => by
  obtain ⟨r, ob, hr, ho, ⟨t, u, v, rfl⟩, _⟩ := hs.at hk
  cases rw'.ref hr
  refine wpAny_pyIter_range ho hsm (hK s.heap.objs.size (fun i ks => ∃ ob h₁, ks = [(s.heap.objs.size, ob)] ∧ h₁.get? s.heap.objs.size = some ob ∧ IsRangeIter h₁ s.heap.objs.size (a + (i : Nat) * c) ((n : Int) - (i : Nat)) c) [(s.heap.objs.size, { cls := .type "range_iterator", data := .fields #[rawInt a, rawInt (Builtin.Range.rangeSize a b c), rawInt c] })] _ ⟨?_, ?_⟩ ?_ (Same.hp s _) (hs.keep { cls := .type "range_iterator", data := .fields #[rawInt a, rawInt (Builtin.Range.rangeSize a b c), rawInt c] }))
  · rintro i v ks kp st' s' ad' hv ⟨ob, h₁, rfl, hc, hd⟩ hdep px hs' K' hK'
    have hI : s'.heap.get? s.heap.objs.size = some ob := by
      obtain ⟨⟨m, news, F, N, _⟩, _⟩ := hs'
      exact (N _ (List.mem_append_right _ (.head _))).1
    have hi : i < n := by
      have := (List.getElem?_eq_some_iff.mp hv).1
      simpa using this
    have hv' : v = .int (a + i * c) := by
      rw [List.getElem?_map, List.getElem?_range hi] at hv
      exact (Option.some.inj hv).symm
    subst hv'
    have W := Walks.range (prog := C.prog) (w := C.w) (A := C.A) hh s.heap.objs.size a c n
    refine W.item i s' _ _ hi (W.frame i h₁ s'.heap hd fun b hb o e => by
      rw [List.mem_singleton.mp hb] at e ⊢
      rw [hc] at e
      cases e
      exact hI) fun w h' tk hP hst hk => ?_
    obtain ⟨t', rfl⟩ := hP
    exact hK' _ _ [(_, _)] (Same.mk' s' h' tk) ⟨_, h', rfl, hst, hst⟩ (SR.touch hs' (fun b o hb e => hk b o (fun q => hb (List.mem_singleton.mp q)) e) hst) ⟨t', rfl⟩
  · rintro ks kp st' s' ad' ⟨ob, h₁, rfl, hc, hd⟩ hdep px hs' K' hK'
    have hI : s'.heap.get? s.heap.objs.size = some ob := by
      obtain ⟨⟨m, news, F, N, _⟩, _⟩ := hs'
      exact (N _ (List.mem_append_right _ (.head _))).1
    have W := Walks.range (prog := C.prog) (w := C.w) (A := C.A) hh s.heap.objs.size a c n
    rw [List.length_map, List.length_range] at hd
    refine W.done s' _ _ (W.frame n h₁ s'.heap hd fun b hb o e => by
      rw [List.mem_singleton.mp hb] at e ⊢
      rw [hc] at e
      cases e
      exact hI) fun h' tk hk => ?_
    exact hK' _ (Same.mk' s' h' tk) (SR.gone hs' fun b o hb e => hk b o (fun q => hb (List.mem_singleton.mp q)) e)
  · refine ⟨_, s.heap.push _, rfl, Heap.get?_push_size _ rfl, ?_⟩
    show IsRangeIter _ _ _ _ _
    rw [hn]
    simpa using Heap.get?_push_size _ rfl
/-- the loop -/
theorem xv_for {t iter : Expr} {body : List Stmt} {Q : F → St → Prop}
    (h : EV C iter st (fun v st1 => ∃ (items : List V) (dep : St → Prop) (I : Nat → St → Prop), IterOf C v st1 items dep ∧ (∃ l₀, Sub l₀ st1.m ∧ I 0 ⟨l₀, st1.os⟩) ∧ (∀ i st', I i st' → dep st') ∧
      (∀ i v st' kp, items[i]? = some v → I i st' → AS (C.kept kp) t v st' (fun st2 => SV (C.kept kp) body st2 (ForT C st1.os.length (I (i + 1)) Q))) ∧ (∀ st', I items.length st' → Q .next st')))
    (hs : ∀ x, foldedSetIterable iter C.env x = pure x := by intro _; rfl) (ht : ∀ it v, letOwnedTupleGo t it v = pure () := by intro _ _; rfl) : XV C (.For t iter body [] pos) st Q := .mk fun s ad hs₀ => At.mk fun K hK => by
  refine wpAny_For ((h.go s ad hs₀).run _ fun v st1 s1 ad1 w q1 e1 p1 hs1 r1 => ?_) hs
  obtain ⟨items, dep, I, hit, ⟨l₀, hsub, hI0⟩, hdep, turn, done⟩ := q1
  refine hit s1 ad1 w hs1 r1 _ fun It inv ks s2 ai hinv e2 hs2 => ?_
  refine codeAny_forLoop (fun n s' => ∃ i st' ad' ks', n + i = items.length + 1 ∧ i ≤ items.length ∧ I i st' ∧ inv i ks' ∧ Same s s' ∧ ad1 <+: ad' ∧ SR (C.kept (ks' ++ C.kp)) ad' st' s'.heap) ?_ (items.length + 1) ⟨0, _, ad1, ks, rfl, Nat.zero_le _, hI0, hinv, e1.trans e2, List.prefix_refl _, hs2.weak hsub⟩ (ht _)
  rintro n s' ⟨i, st', ad', ks', hni, hile, hI, hinv', e', p', hs'⟩
  by_cases hi : i < items.length
  · refine wpNo (ai.next i items[i] ks' C.kp st' s' ad' (by simp [hi]) hinv' (hdep _ _ hI) p' hs' _ fun w s3 ks3 e3 hinv3 hs3 r3 => ?_)
    refine wpNo (((turn i _ st' (ks3 ++ C.kp) (by simp [hi]) hI).go s3 ad' w hs3 r3).run _ fun _ st4 s4 ad4 _ q4 e4 p4 hs4 _ => ?_)
    refine wpNo ((q4.go s4 ad4 hs4).run _ fun f st5 s5 ad5 f' q5 e5 p5 hs5 r5 => ?_)
    have more : (∃ st', Wk C st5 st' ∧ st1.os.length ≤ st'.os.length ∧ I (i + 1) st') → ∃ m, m < n ∧ ∃ i st' ad' ks', m + i = items.length + 1 ∧ i ≤ items.length ∧ I i st' ∧ inv i ks' ∧ Same s s5 ∧ ad1 <+: ad' ∧ SR (C.kept (ks' ++ C.kp)) ad' st' s5.heap := by
      rintro ⟨st6, wk, hl, hI6⟩
      have wk' : Wk (C.kept (ks3 ++ C.kp)) st5 st6 := ⟨wk.1, wk.2.imp id fun k => ⟨k.os, k.lb, k.ob, k.cb⟩⟩
      obtain ⟨ad6, hs6, px⟩ := hs5.wk wk'
      exact ⟨n - 1, by omega, i + 1, st6, ad6, ks3, by omega, by omega, hI6, hinv3, e'.trans (e3.trans (e4.trans e5)), px _ (p'.trans (p4.trans p5)) (by rw [hs1.len]; exact hl), hs6⟩
    cases f with
    | next => cases r5; exact more q5
    | cont => cases r5; exact more q5
    | brk => cases r5; exact hK .next st5 s5 ad5 .next q5 (e'.trans (e3.trans (e4.trans e5))) (p1.trans (p'.trans (p4.trans p5))) hs5.drop rfl
    | ret v =>
      obtain ⟨w, rfl, hw⟩ := r5
      exact hK (.ret v) st5 s5 ad5 _ q5 (e'.trans (e3.trans (e4.trans e5))) (p1.trans (p'.trans (p4.trans p5))) hs5.drop ⟨w, rfl, hw⟩
  · obtain rfl : i = items.length := by omega
    · refine wpNo (ai.done ks' C.kp st' s' ad' hinv' (hdep _ _ hI) p' hs' _ fun s3 e3 hs3 => ?_)
      exact wpAny_execs_nil (hK .next st' s3 ad' .next (done st' hI) (e'.trans e3) (p1.trans p') hs3 rfl)
theorem as_name {x : Str} {px : Pos} {v : V} {Q : St → Prop} (G : Gd C sc lv) (h : Q (st.set x v)) (hl : sc.names.lookup x = some .local := by rfl) : AS C (.Name x px) v st Q := .mk fun s ad w hs r => At.mk fun K hK =>
  wpAny_assign_Name (hs.store r G hl fun s' e' hs' => hK () _ s' ad () h e' (List.prefix_refl _) hs' trivial)
end
end Mine
namespace Mine
/-- the type of a value, where it is plain -/
def TyIs (st : St) : V → String → Prop
  | .none, T => T = "NoneType"
  | .bool _, T => T = "bool"
  | .int _, T => T = "int"
  | .str _, T => T = "str"
  | .bytes _, T => T = "bytes"
  | .ref k, T => (∃ vs, st.os[k]? = some (.list vs) ∧ T = "list") ∨ (∃ vs, st.os[k]? = some (.tuple vs) ∧ T = "tuple")
  | .fix _, _ => False
section
variable {C : Cx} {sc : Scope} {lv : Nat} {st : St} {pos : Pos} {Q : V → St → Prop} {ad : List Addr}
theorem TyIs.is {s : Shared} {v : V} {w : Value} {T : String} (h : TyIs st v T) (hs : SR C ad st s.heap) (r : VR ad v w) : s.TypeIs w T ∧ ∀ a, w = .ref a → ∃ ob, s.heap.get? a = some ob ∧ ob.dict = none := by
  cases v with
  | none => cases h; cases r; exact ⟨rfl, fun _ e => nomatch e⟩
  | bool b => cases h; cases r; exact ⟨rfl, fun _ e => nomatch e⟩
  | int n => cases h; obtain ⟨t, rfl⟩ := r; exact ⟨rfl, fun _ e => nomatch e⟩
  | str x => cases h; obtain ⟨t, rfl⟩ := r; exact ⟨rfl, fun _ e => nomatch e⟩
  | bytes b => cases h; obtain ⟨t, rfl⟩ := r; exact ⟨rfl, fun _ e => nomatch e⟩
  | fix v => exact h.elim
  | ref k =>
    rcases h with ⟨vs, hk, rfl⟩ | ⟨vs, hk, rfl⟩
    · obtain ⟨a, ob, h1, h2, ⟨ws, n, rfl, hv⟩, _⟩ := hs.at hk
      cases r.ref h1
      exact ⟨⟨_, h2, rfl⟩, fun b e => by cases e; exact ⟨_, h2, rfl⟩⟩
    · obtain ⟨a, ob, h1, h2, ⟨ws, n, rfl, hv⟩, _⟩ := hs.at hk
      cases r.ref h1
      exact ⟨⟨_, h2, rfl⟩, fun b e => by cases e; exact ⟨_, h2, rfl⟩⟩
/-- a method of a built-in type, no argument -/
theorem ev_meth0 {o : Expr} {name : Str} {apos : Pos} {T id : String} (pa : PlainAttrs T) (slot : Slot T name id) (hty : typeOf (.builtin id) = pure (.type "method_descriptor"))
    (h : EV C o st (fun ov st1 => TyIs st1 ov T ∧ CL C (.builtin id) [ov] st1 Q)) (hline : (apos.endLine == pos.line) = true := by rfl) (hbase : attributeBase o name C.env (eval o C.env) = eval o C.env := by rfl) :
    EV C (.Call (.Attribute o name apos) [] [] pos) st Q := .mk fun s ad hs => At.mk fun K hK =>
  wpAny_Call_method hbase rfl hline pa slot hty ((h.go s ad hs).run _ fun v st1 s1 ad1 w q1 e1 p1 hs1 r1 => by
    obtain ⟨h1, h2⟩ := q1.1.is hs1 r1
    refine ⟨h1, h2, callWith_builtin rfl (PySem.evalArgs_none ?_)⟩
    exact (q1.2.go s1 ad1 [w] hs1 (.cons r1 .nil)).run K fun v st3 s3 ad3 w q3 e3 p3 hs3 r3 => hK v st3 s3 ad3 w q3 (e1.trans e3) (p1.trans p3) hs3 r3)
/-- ... one argument or more -/
theorem ev_meth {o e : Expr} {rest : List Expr} {name : Str} {apos : Pos} {T id : String} (pa : PlainAttrs T) (slot : Slot T name id) (hty : typeOf (.builtin id) = pure (.type "method_descriptor"))
    (h : EV C o st (fun ov st1 => TyIs st1 ov T ∧ AV C pos (e :: rest) st1 (fun vs st2 => CL C (.builtin id) (ov :: vs) st2 Q))) (hline : (apos.endLine == pos.line) = true := by rfl) (hbase : attributeBase o name C.env (eval o C.env) = eval o C.env := by rfl)
    (hst : starEach (e :: rest) C.env = (false, eval e C.env) :: starEach rest C.env := by rfl) (hp : (starEach (e :: rest) C.env).any (·.1) = false := by rfl)
    (hfew : ((backTo pos (starEach (e :: rest) C.env)).all (fun x => !x.1) && (backToKw pos (keywordEach [] C.env)).all (fun x => x.1.isSome)
      && decide ((e :: rest).length + ([] : List Keyword).length + (if ([] : List Keyword).isEmpty then 0 else 1) < 30)) = true := by rfl) :
    EV C (.Call (.Attribute o name apos) (e :: rest) [] pos) st Q := .mk fun s ad hs => At.mk fun K hK =>
  wpAny_Call_method hbase hfew hline pa slot hty ((h.go s ad hs).run _ fun v st1 s1 ad1 w q1 e1 p1 hs1 r1 => by
    obtain ⟨h1, h2⟩ := q1.1.is hs1 r1
    refine ⟨h1, h2, callWith_builtin (plain_backTo hp) ?_⟩
    have := q1.2.go s1 ad1 hs1
    revert this
    show At C ad1 s1 VRs (spliced (backTo pos (starEach (e :: rest) C.env))) _ → _
    rw [hst]
    intro q1
    exact evalArgs_plain (q1.run _ fun vs st2 s2 ad2 ws q2 e2 p2 hs2 r2 => (q2.go s2 ad2 (w :: ws) hs2 (.cons (r1.mono p2) r2)).run K fun v st3 s3 ad3 w q3 e3 p3 hs3 r3 => hK v st3 s3 ad3 w q3 (e1.trans (e2.trans e3)) (p1.trans (p2.trans p3)) hs3 r3))
theorem cl_bits {x : Int} (h : Q (.int ((Builtin.Int.intBits x : Nat) : Int)) st) : CL C (.builtin "int.bit_length") [.int x] st Q := .mk fun s ad ws hs hr => by
  cases hr with | cons a hr => cases hr with | nil =>
  obtain ⟨t, rfl⟩ := a
  refine At.tick (a := .int _ s.toks) hs h ⟨_, rfl⟩ fun K hK => ?_
  exact call_gives F.slot_int_bit_length (typeIs_int s x t) F.entry_int_bit_length (F.args_int_bit_length_1 _) (AutoIntG2.int_bit_length_int_0 x t) (hK _)
theorem cl_type {v : V} {T : String} (ht : TyIs st v T) (hT : (Value.type T == Value.type "builtin_function_or_method") = false) (h : Q (.fix (.type T)) st) : CL C (.type "type") [v] st Q := .mk fun s ad ws hs hr => by
  cases hr with | cons a hr => cases hr with | nil =>
  exact At.stay (a := .type T) hs h rfl fun K hK => call_type_of (ht.is hs a).1 hT hK
theorem co_isnot {a b : Value} (hp : plainIs a b = true) (h : Q (.bool (!(a == b))) st) : CO C .IsNot (.fix a) (.fix b) st Q := .mk fun s ad va vb hs ra rb => by
  cases ra; cases rb
  exact At.stay (a := .bool _) hs h rfl fun K hK => wpAny_isNot_plain hp hK
theorem co_is {a b : Value} (hp : plainIs a b = true) (h : Q (.bool (a == b)) st) : CO C .Is (.fix a) (.fix b) st Q := .mk fun s ad va vb hs ra rb => by
  cases ra; cases rb
  exact At.stay (a := .bool _) hs h rfl fun K hK => wpAny_is_plain hp hK
theorem cl_range1 {n : Int} (h : Q (.ref st.os.length) (st.add (.range 0 n 1))) : CL C (.type "range") [.int n] st Q := .mk fun s ad ws hs hr => At.mk fun K hK => by
  cases hr with | cons a hr => cases hr with | nil =>
  obtain ⟨t, rfl⟩ := a
  have hl := hs.len
  obtain ⟨⟨m, news, F, N, c, d, o, r⟩, hc⟩ := hs
  refine call_range_1 ?_
  exact hK _ _ _ _ _ h (Same.mk' s _ _) (List.prefix_append _ _) (sr_alloc N c d o r hc (F.push _) (N.push F _) ⟨_, _, _, rfl⟩) (ref_new _ _ _ hl)
theorem cl_range2 {a b : Int} (h : Q (.ref st.os.length) (st.add (.range a b 1))) : CL C (.type "range") [.int a, .int b] st Q := .mk fun s ad ws hs hr => At.mk fun K hK => by
  cases hr with | cons a hr => cases hr with | cons b hr => cases hr with | nil =>
  obtain ⟨t, rfl⟩ := a
  obtain ⟨u, rfl⟩ := b
  have hl := hs.len
  obtain ⟨⟨m, news, F, N, c, d, o, r⟩, hc⟩ := hs
  refine call_range_2 ?_
  exact hK _ _ _ _ _ h (Same.mk' s _ _) (List.prefix_append _ _) (sr_alloc N c d o r hc (F.push _) (N.push F _) ⟨_, _, _, rfl⟩) (ref_new _ _ _ hl)
theorem cl_range3 {a b c : Int} (hc0 : c ≠ 0) (hp : c.natAbs.log2 < 9000) (h : Q (.ref st.os.length) (st.add (.range a b c))) : CL C (.type "range") [.int a, .int b, .int c] st Q := .mk fun s ad ws hs hr => At.mk fun K hK => by
  cases hr with | cons a hr => cases hr with | cons b hr => cases hr with | cons c' hr => cases hr with | nil =>
  obtain ⟨t, rfl⟩ := a
  obtain ⟨u, rfl⟩ := b
  obtain ⟨v, rfl⟩ := c'
  have hl := hs.len
  obtain ⟨⟨m, news, F, N, c', d, o, r⟩, hc⟩ := hs
  refine call_range_3 hc0 ?_ (.inl (PyProof.noPylong_of_log2 hp))
  exact hK _ _ _ _ _ h (Same.mk' s _ _) (List.prefix_append _ _) (sr_alloc N c' d o r hc (F.push _) (N.push F _) ⟨_, _, _, rfl⟩) (ref_new _ _ _ hl)
end
end Mine
namespace Mine
/-- the i-th statement of a program, a def -/
def drec (p : Program) (i : Nat) : DefRec := match p.main.body[i]? with
  | some (.FunctionDef n a b _ _ _ sc _ _ pos) => ⟨n, a, b, sc, pos⟩
  | _ => ⟨Str.empty, ⟨[], [], none, [], [], none, []⟩, [], ⟨.module, [], false, false, []⟩, ⟨0, 0, 0, 0⟩⟩
/-- what the law's call must show: from the frame as the head leaves it -/
theorem enter {body : List Stmt} {E : Value → Shared → Prop} {K : Flow → Shared → Prop} {s : Shared} {m : Str → Option Value} {x : Str} {l : Addr} (C : Cx)
    (hkp : C.kp = []) (hcl : C.cl = []) (F : Fr C.h₀ C.env.locals s.heap m) (hm : m x = some (.ref l))
    (h : SV C body ⟨[(x, .fix (.ref l))], []⟩ (fun f _ => f = .ret (.bool true)))
    (hK : ∀ h' tk m', Fr C.h₀ C.env.locals h' m' → K (.ret (.bool true)) { s with heap := h', toks := tk }) : wpAny C.M C.A (execs body C.env) K E s := by
  refine wpNo ((h.go s [] ⟨⟨m, [], F, by rw [hkp]; exact News.nil, rfl, by rw [hkp]; exact List.nodup_nil, .nil, fun y v e => ?_⟩, by rw [hcl]; exact fun _ _ e => nomatch e⟩).run K fun f st' s' ad' f' q e p hs' r => ?_)
  · rw [List.lookup_cons] at e
    cases hy : y == x with
    | true =>
      rw [hy] at e
      cases e
      rw [eq_of_beq hy]
      exact ⟨_, hm, rfl⟩
    | false => rw [hy] at e; cases e
  · subst q
    obtain ⟨w, rfl, hw⟩ := r
    cases hw
    obtain ⟨h', tk, rfl⟩ := e
    obtain ⟨⟨m', news, F', _⟩, _⟩ := hs'
    exact hK h' tk m' F'
abbrev mkCx (prog : Program) (w : World) (A : Around) (env : Env) (h₀ : Heap) (p : Program) (loose : List Str) (mean : ExcName → Option Value) (mg mb : Str → Option Value) : Cx := ⟨prog, w, A, env, h₀, [], [], p, loose, mean, mg, mb⟩
theorem enterT {prog : Program} {w : World} {A : Around} {env : Env} {h₀ : Heap} {p : Program} {loose : List Str} {mean : ExcName → Option Value} {mg mb : Str → Option Value} {body : List Stmt} {E : Value → Shared → Prop} {K : Flow → Shared → Prop} {s : Shared} {m : Str → Option Value} {x : Str} {l : Addr}
    (T : Top p loose mean mg mb h₀) (F : Fr h₀ env.locals s.heap m) (hm : m x = some (.ref l))
    (h : SV (mkCx prog w A env h₀ p loose mean mg mb) body ⟨[(x, .fix (.ref l))], []⟩ (fun f _ => f = .ret (.bool true)))
    (hK : ∀ h' tk m', Fr h₀ env.locals h' m' → K (.ret (.bool true)) { s with heap := h', toks := tk }) : wpAny (model prog w) A (execs body env) K E s :=
  enter (mkCx prog w A env h₀ p loose mean mg mb) rfl rfl F hm h hK
theorem blt_of {prog : Program} {w : World} {A : Around} {env : Env} {h₀ : Heap} {p : Program} {loose : List Str} {mean : ExcName → Option Value} {mg mb : Str → Option Value} {x : Str} {v : Value} (T : Top p loose mean mg mb h₀)
    (hv : bootBuiltins x = some v) (hn : x ≠ "__name__") (h1 : x ∉ startupNames) (h2 : x ∉ loose) (h3 : x ∉ (recsOf p).map (·.name)) (h4 : x ∉ (litsOf p).map (·.1)) (h5 : x ∉ (clssOf p loose).map (·.name)) : Blt (mkCx prog w A env h₀ p loose mean mg mb) x v :=
  ⟨T.free x h1 h2 h3 h4 h5, hv, hn⟩
/-- _count_righthand_zero_bits -/
def crz (n b : Int) : Int := if n = 0 then b else if ((Builtin.Int.intBits (Builtin.bitAnd (Builtin.bitNot n) (n - 1)) : Nat) : Int) < b then ((Builtin.Int.intBits (Builtin.bitAnd (Builtin.bitNot n) (n - 1)) : Nat) : Int) else b
end Mine
namespace Mine
open PySem.Builtin.Int (intBits)
theorem two_pos (t : Nat) : (0 : Int) < 2 ^ t := Int.pow_pos (by decide)
theorem odd_part : ∀ (k : Nat) (n : Int), n.natAbs ≤ k → n ≠ 0 → ∃ (t : Nat) (a : Int), n = 2 ^ t * (2 * a + 1)
  | 0, n, h, h0 => absurd (Int.natAbs_eq_zero.mp (Nat.le_zero.mp h)) h0
  | k + 1, n, h, h0 => by
    by_cases hn : n % 2 = 1
    · exact ⟨0, n / 2, by omega⟩
    · obtain ⟨t, a, e⟩ := odd_part k (n / 2) (by omega) (by omega)
      refine ⟨t + 1, a, ?_⟩
      rw [Int.pow_succ, Int.mul_comm ((2 : Int) ^ t) 2, Int.mul_assoc, ← e]
      omega
theorem and_not (a : Int) : Builtin.bitAnd (-a - 1) a = 0 := by
  unfold Builtin.bitAnd
  by_cases h : 0 ≤ a
  · have h1 : decide (0 ≤ -a - 1) = false := decide_eq_false (by omega)
    have h2 : decide (0 ≤ a) = true := decide_eq_true h
    rw [h1, h2]
    show a - ((a.toNat &&& (Builtin.bitNot (-a - 1)).toNat : Nat) : Int) = 0
    have : Builtin.bitNot (-a - 1) = a := by unfold Builtin.bitNot; omega
    rw [this, Nat.and_self]
    omega
  · have h1 : decide (0 ≤ -a - 1) = true := decide_eq_true (by omega)
    have h2 : decide (0 ≤ a) = false := decide_eq_false h
    rw [h1, h2]
    show (-a - 1) - (((-a - 1).toNat &&& (Builtin.bitNot a).toNat : Nat) : Int) = 0
    have : Builtin.bitNot a = -a - 1 := rfl
    rw [this, Nat.and_self]
    omega
theorem low_mask (a : Int) : ∀ t : Nat, Builtin.bitAnd (Builtin.bitNot (2 ^ t * (2 * a + 1))) (2 ^ t * (2 * a + 1) - 1) = 2 ^ t - 1
  | 0 => by
    show Builtin.bitAnd (-(2 ^ 0 * (2 * a + 1)) - 1) _ = _
    rw [kbt_halves, Int.pow_zero, Int.one_mul]
    have h1 : (-(2 * a + 1) - 1) / 2 = -a - 1 := by omega
    have h2 : (2 * a + 1 - 1) / 2 = a := by omega
    rw [h1, h2, and_not, if_neg (by omega)]
    rfl
  | t + 1 => by
    have ih := low_mask a t
    show Builtin.bitAnd (-(2 ^ (t + 1) * (2 * a + 1)) - 1) _ = _
    have e : (2 : Int) ^ (t + 1) * (2 * a + 1) = 2 * (2 ^ t * (2 * a + 1)) := by rw [Int.pow_succ, Int.mul_comm ((2 : Int) ^ t) 2, Int.mul_assoc]
    have e2 : (2 : Int) ^ (t + 1) = 2 * 2 ^ t := by rw [Int.pow_succ, Int.mul_comm]
    have ih' : Builtin.bitAnd (-(2 ^ t * (2 * a + 1)) - 1) (2 ^ t * (2 * a + 1) - 1) = 2 ^ t - 1 := ih
    rw [e]
    generalize (2 : Int) ^ t * (2 * a + 1) = m at ih' ⊢
    rw [kbt_halves, e2]
    have h1 : (-(2 * m) - 1) / 2 = -m - 1 := by omega
    have h2 : (2 * m - 1) / 2 = m - 1 := by omega
    rw [h1, h2, ih', if_pos (by omega)]
    omega
theorem bits_mask (t : Nat) : intBits ((2 : Int) ^ t - 1) = t := by
  have hp : (1 : Nat) ≤ 2 ^ t := Nat.one_le_two_pow
  have e : ((2 : Int) ^ t - 1).natAbs = 2 ^ t - 1 := by
    have : ((2 : Int) ^ t) = ((2 ^ t : Nat) : Int) := by rw [Int.natCast_pow]; rfl
    rw [this]; omega
  have h1 : intBits ((2 : Int) ^ t - 1) ≤ t := intBits_le_iff.mpr (by rw [e]; omega)
  cases t with
  | zero => omega
  | succ t =>
    have h2 : ¬ intBits ((2 : Int) ^ (t + 1) - 1) ≤ t := fun h => by
      have := intBits_le_iff.mp h
      rw [e, Nat.pow_succ] at this
      have := Nat.one_le_two_pow (n := t)
      omega
    omega
theorem not_dvd_succ {t : Nat} {a : Int} : ¬ (2 : Int) ^ (t + 1) ∣ 2 ^ t * (2 * a + 1) := by
  rintro ⟨c, hc⟩
  rw [Int.pow_succ, Int.mul_assoc] at hc
  have := Int.eq_of_mul_eq_mul_left (Int.ne_of_gt (two_pos t)) hc
  omega
theorem pow_dvd_pow {i j : Nat} (h : i ≤ j) : (2 : Int) ^ i ∣ 2 ^ j := ⟨2 ^ (j - i), by rw [← Int.pow_add]; congr 1; omega⟩
theorem crz_spec (n b : Int) (hb : 0 ≤ b) : ∃ t : Nat, crz n b = t ∧ (t : Int) ≤ b ∧ (2 : Int) ^ t ∣ n ∧ ((t : Int) < b → ¬ (2 : Int) ^ (t + 1) ∣ n) := by
  by_cases h0 : n = 0
  · refine ⟨b.toNat, ?_, by omega, by rw [h0]; exact Int.dvd_zero _, by omega⟩
    unfold crz
    rw [if_pos h0]
    omega
  · obtain ⟨t, a, e⟩ := odd_part _ n (Nat.le_refl _) h0
    have hL : intBits (Builtin.bitAnd (Builtin.bitNot n) (n - 1)) = t := by rw [e, low_mask, bits_mask]
    unfold crz
    rw [if_neg h0, hL]
    by_cases hc : (t : Int) < b
    · rw [if_pos hc]
      exact ⟨t, rfl, by omega, ⟨2 * a + 1, e⟩, fun _ => by rw [e]; exact not_dvd_succ⟩
    · rw [if_neg hc]
      refine ⟨b.toNat, by omega, by omega, Int.dvd_trans (pow_dvd_pow (by omega)) ⟨2 * a + 1, e⟩, by omega⟩
theorem crz_eq {n b : Int} {t : Nat} (h1 : (t : Int) ≤ b) (h2 : (2 : Int) ^ t ∣ n) (h3 : (t : Int) < b → ¬ (2 : Int) ^ (t + 1) ∣ n) : crz n b = t := by
  obtain ⟨u, e, u1, u2, u3⟩ := crz_spec n b (by omega)
  rw [e]
  by_cases hlt : u < t
  · exact absurd (Int.dvd_trans (pow_dvd_pow hlt) h2) (u3 (by omega))
  · by_cases hgt : t < u
    · exact absurd (Int.dvd_trans (pow_dvd_pow hgt) u2) (h3 (by omega))
    · omega
theorem crz_neg (n b : Int) (hb : 0 ≤ b) : crz (-n) b = crz n b := by
  obtain ⟨t, e, h1, h2, h3⟩ := crz_spec n b hb
  rw [e]
  exact crz_eq h1 (Int.dvd_neg.mpr h2) fun h h' => h3 h (Int.dvd_neg.mp h')
theorem mem_ints {L : List Int} {i : Nat} {v : V} (h : (L.map V.int)[i]? = some v) : ∃ x, x ∈ L ∧ v = .int x := by
  have := List.mem_of_getElem? h
  obtain ⟨x, hx, rfl⟩ := List.mem_map.mp this
  exact ⟨x, hx, rfl⟩
theorem log2_pow {j : Nat} (h : j < 9000) : ((2 : Int) ^ j).natAbs.log2 < 9000 := by
  have e : ((2 : Int) ^ j).natAbs = 2 ^ j := by rw [Int.natAbs_pow]; rfl
  rw [e, Nat.log2_two_pow]
  exact h
theorem bits_pow_le (j : Nat) : intBits ((2 : Int) ^ j) ≤ j + 1 := intBits_le_iff.mpr (by
  have e : ((2 : Int) ^ j).natAbs = 2 ^ j := by rw [Int.natAbs_pow]; rfl
  rw [e, Nat.pow_succ]
  have := Nat.one_le_two_pow (n := j)
  omega)
theorem mulok_small {a b : Int} (h : b.natAbs < 2 ^ 64) : IntMulOk a b := IntMulOk.of_right (intBits_le_iff.mpr h)
end Mine
namespace Mine
abbrev scEnv (sc : Scope) : Env := { scope := sc, locals := 0, globals := 0, cells := [] }
theorem swapped_scope {ts : List Expr} {v : Expr} {env : Env} {sc : Scope} (h : env.scope = sc) : swappedStores ts v env = swappedStores ts v (scEnv sc) := by
  subst h; rfl
theorem swaps_scope {v : Expr} {t : Option Expr} {n : Nat} {env : Env} {sc : Scope} (h : env.scope = sc) : swapsWith v t n env = swapsWith v t n (scEnv sc) := by
  subst h; rfl
/-- items to targets, one by one -/
structure AO (C : Cx) (ts : List (Value → Sem Unit)) (vs : List V) (st : St) (Q : St → Prop) : Prop where
  go : ∀ s ad ws, SR C ad st s.heap → VRs ad vs ws → At C ad s UR (assignInOrder ts ws) (fun _ st' => Q st')
section
variable {C : Cx} {sc : Scope} {lv : Nat} {st : St} {pos : Pos}
theorem ao_nil {Q : St → Prop} (h : Q st) : AO C [] [] st Q := .mk fun s ad ws hs r => by
  cases r
  exact At.stay (a := ()) (b := ()) hs h trivial fun K hK => assignInOrder_nil hK
theorem ao_cons {t : Expr} {ts : List (Value → Sem Unit)} {v : V} {vs : List V} {Q : St → Prop} (h : AS C t v st (fun st1 => AO C ts vs st1 Q)) : AO C (assign t C.env :: ts) (v :: vs) st Q := .mk fun s ad ws hs r => At.mk fun K hK => by
  cases r with | cons a r =>
  refine assignInOrder_cons ((h.go s ad _ hs a).run _ fun _ st1 s1 ad1 _ q1 e1 p1 hs1 _ => ?_)
  exact (q1.go s1 ad1 _ hs1 (r.mono p1)).run K fun _ st2 s2 ad2 _ q2 e2 p2 hs2 _ => hK () st2 s2 ad2 () q2 (e1.trans e2) (p1.trans p2) hs2 trivial
theorem SR.ext {ad : List Addr} {h h' : Heap} (hs : SR C ad st h) (he : Heap.ExtBut h.objs.size h h') : SR C ad st h' := hs.grown fun b o e => he b o (Nat.ne_of_lt (Heap.lt_size e)) e
theorem as_tuple {es : List Expr} {n k : Nat} {tp : Pos} {vs : List V} {Q : St → Prop} (hh : C.A.handled = none) (hk : st.os[k]? = some (.tuple vs)) (h : AO C ((assignEach es C.env).map (·.2)) vs st Q)
    (hn : (assignEach es C.env).length = vs.length) (hstar : (assignEach es C.env).findIdx? (·.1) = none := by rfl) : AS C (.Tuple es n tp) (.ref k) st Q := .mk fun s ad w hs r => At.mk fun K hK => by
  obtain ⟨a, ws, ha, hla, hva⟩ := hs.tuple hk
  cases r.ref ha
  refine assign_Tuple_tuple hh hla (by rw [hn, List.size_toArray, hva.length]) hstar fun h' he => ?_
  exact (h.go { s with heap := h' } ad ws (hs.ext he) hva).run K fun _ st2 s2 ad2 _ q2 e2 p2 hs2 _ => hK () st2 s2 ad2 () q2 ((Same.hp s h').trans e2) p2 hs2 trivial
/-- a tuple of names, not swapped -/
theorem xv_assignT {es : List Expr} {k : Nat} {tp : Pos} {value : Expr} {Q : F → St → Prop} (G : Gd C sc lv) (h : EV C value st (fun v st1 => AS C (.Tuple es k tp) v st1 (fun st2 => Q .next st2)))
    (hw : swappedStores [.Tuple es k tp] value (scEnv sc) = pure none := by rfl) (hs : swapsWithSole [.Tuple es k tp] value pos.line C.env = pure false := by rfl) : XV C (.Assign [.Tuple es k tp] value pos) st Q := .mk fun s ad hs₀ => At.mk fun K hK =>
  Assign_Tuple ((h.go s ad hs₀).run _ fun v st1 s1 ad1 w q1 e1 p1 hs1 r1 => (q1.go s1 ad1 w hs1 r1).run _ fun _ st2 s2 ad2 _ q2 e2 p2 hs2 _ => hK .next st2 s2 ad2 .next q2 (e1.trans e2) (p1.trans p2) hs2 rfl) hs (by rw [swapped_scope G.scope]; exact hw)
/-- stores, the last name first -/
theorem store_names (G : Gd C sc lv) : ∀ (names : List Str) (vs : List V) (ws : List Value) (st : St) (s : Shared) (ad : List Addr) {K : Unit → Shared → Prop}, names.length = vs.length → (∀ n ∈ names, sc.names.lookup n = some .local) → SR C ad st s.heap → VRs ad vs ws →
    (∀ s', Same s s' → SR C ad ⟨(names.zip vs).reverse ++ st.m, st.os⟩ s'.heap → K () s') → wpAny C.M C.A (assignInOrder (names.map fun n => bindName C.env n) ws) K No s
  | [], vs, ws, st, s, ad, K, hl, hn, hs, r, h => assignInOrder_nil (h s (Same.rfl' s) (by simpa using hs))
  | n :: ns, v :: vs, w :: ws, st, s, ad, K, hl, hn, hs, r, h => by
    cases r with | cons a r =>
    refine assignInOrder_cons (wpAny_bindName (hs.store a G (hn n (.head _)) fun s1 e1 hs1 => ?_))
    refine store_names G ns vs ws _ s1 ad (by simpa using hl) (fun m hm => hn m (.tail _ hm)) hs1 r fun s2 e2 hs2 => h s2 (e1.trans e2) ?_
    simpa using hs2
  | n :: ns, v :: vs, [], st, s, ad, K, hl, hn, hs, r, h => nomatch r
theorem xv_assignS {es : List Expr} {k : Nat} {tp : Pos} {value : Expr} {Q : F → St → Prop} (names : List Str) (G : Gd C sc lv) (hh : C.A.handled = none)
    (h : EV C value st (fun v st1 => ∃ j vs, v = .ref j ∧ st1.os[j]? = some (.tuple vs) ∧ vs.length = names.length ∧ Q .next ⟨(names.reverse.zip vs.reverse).reverse ++ st1.m, st1.os⟩))
    (hl : ∀ n ∈ names, sc.names.lookup n = some .local)
    (hw : swappedStores [.Tuple es k tp] value (scEnv sc) = pure (some names) := by rfl) (hs : swapsWithSole [.Tuple es k tp] value pos.line C.env = pure false := by rfl) : XV C (.Assign [.Tuple es k tp] value pos) st Q := .mk fun s ad hs₀ => At.mk fun K hK =>
  Assign_Tuple_swapped (names := names) ((h.go s ad hs₀).run _ fun v st1 s1 ad1 w q1 e1 p1 hs1 r1 => by
    obtain ⟨j, vs, rfl, hj, hlen, q1⟩ := q1
    obtain ⟨a, ws, ha, hla, hva⟩ := hs1.tuple hj
    cases r1.ref ha
    have hsz : names.length = ws.toArray.size := by rw [List.size_toArray, hva.length, hlen]
    rw [hsz]
    refine wpAny_unpackItems_tuple hh hla fun h' he => ?_
    have e : (names.reverse.map fun n => bindName C.env n) = (names.reverse.map fun n => bindName C.env n) := rfl
    refine store_names G names.reverse vs.reverse _ st1 { s1 with heap := h' } ad1 (by simp [hlen]) (fun n hn => hl n (List.mem_reverse.mp hn)) (hs1.ext he) hva.reverse fun s2 e2 hs2 => ?_
    exact hK .next _ s2 ad1 .next q1 (e1.trans ((Same.hp s1 h').trans e2)) p1 hs2 rfl) hs (by rw [swapped_scope G.scope]; exact hw)
end
end Mine
namespace Mine
abbrev pw := PySem.Challenge.pw_dm0180_04
open PySem.Builtin.Int (intBits)
local macro_rules | `(tactic| walk_at "go") => `(tactic| repeat (first | refine sv_cons ?_ | refine ev_local (by assumption) ?_ | refine ev_int ?_ | refine ev_binop ?_ | refine xv_assign (by assumption) ?_ | refine xv_aug (by assumption) ?_ | refine xv_if ?_ | refine xv_ret ?_ | refine bv_cmp ?_ | refine bv_not ?_ | refine bv_or ?_ | refine or_cons ?_ | refine or_nil ?_ | refine and_cons ?_ | refine and_nil ?_ | refine tt_bool ?_ | refine ev_unop ?_ | refine ev_bool ?_ | refine ev_str ?_ | refine ev_none ?_ | refine av_cons ?_ | refine av_nil ?_ | refine bo_add ?_ | refine bo_sub ?_ | refine bo_and ?_ | refine bo_or ?_ | refine bo_xor ?_ | refine uo_inv ?_ | refine uo_neg ?_ | refine io_add ?_ | refine io_sub ?_ | refine co_lt ?_ | refine co_le ?_ | refine co_gt ?_ | refine co_ge ?_ | refine co_eq ?_ | refine co_ne ?_ | refine ev_cmp ?_ | refine ev_ifexp ?_ | refine bo_mod (by decide) ?_ | refine bo_div (by decide) (by decide +kernel) ?_ | refine sv_nil ?_))
local macro_rules | `(tactic| walk_at "go1") => `(tactic| repeat (first | refine sv_cons ?_ | refine ev_local (by assumption) ?_ | refine ev_int ?_ | refine ev_binop ?_ | refine xv_assign (by assumption) ?_ | refine xv_aug (by assumption) ?_ | refine xv_ret ?_ | refine bv_cmp ?_ | refine bv_not ?_ | refine bv_or ?_ | refine or_cons ?_ | refine or_nil ?_ | refine and_cons ?_ | refine and_nil ?_ | refine tt_bool ?_ | refine ev_unop ?_ | refine ev_bool ?_ | refine ev_str ?_ | refine ev_none ?_ | refine av_cons ?_ | refine av_nil ?_ | refine bo_add ?_ | refine bo_sub ?_ | refine bo_and ?_ | refine bo_or ?_ | refine bo_xor ?_ | refine uo_inv ?_ | refine uo_neg ?_ | refine io_add ?_ | refine io_sub ?_ | refine co_lt ?_ | refine co_le ?_ | refine co_gt ?_ | refine co_ge ?_ | refine co_eq ?_ | refine co_ne ?_ | refine ev_cmp ?_ | refine ev_ifexp ?_ | refine bo_mod (by decide) ?_ | refine bo_div (by decide) (by decide +kernel) ?_ | refine sv_nil ?_))
local macro_rules | `(tactic| walk_at "wk") => `(tactic| (refine ⟨?_, ?_⟩; (· repeat (first | exact Sub.nil | refine Sub.cons rfl ?_)); (· first | exact Or.inl rfl | (refine Or.inr ⟨rfl, below_of_all rfl, ?_, ?_⟩; (· repeat (first | exact ob_nil | refine ob_cons (by first | trivial | exact ints_below _ | exact vs_below rfl) ?_)); (· intro x k h; simp_all)))))
local macro_rules | `(tactic| walk_at "sub") => `(tactic| repeat (first | exact Sub.nil | refine Sub.cons rfl ?_))
section
variable {C : Cx} {sc : Scope} {lv : Nat} {st : St} {pos px : Pos} {Q : V → St → Prop} {e1 e2 e3 : Expr}
theorem ev_crz (G : Gd C sc (lv + 1)) (hh : C.A.handled = none) (hd : drec pw 1 ∈ recsOf C.p) (hmin : Blt C "min" (.builtin "min"))
    (h : AV C pos [e1, e2] st (fun vs st1 => ∃ n b, vs = [.int n, .int b] ∧ Q (.int (crz n b)) st1))
    (hg : sc.names.lookup (Str.ofString "_count_righthand_zero_bits") = some .globalImplicit := by rfl)
    (hst : starEach [e1, e2] C.env = (false, eval e1 C.env) :: starEach [e2] C.env := by rfl) :
    EV C (.Call (.Name "_count_righthand_zero_bits" px) [e1, e2] [] pos) st Q := by
  refine ev_call (x := "_count_righthand_zero_bits") ["number", "bits"] G hd (AV.mono h ?_) (fun pm cd doc ws hl => ?_) (by decide +kernel) (by decide +kernel) rfl rfl rfl hg rfl hst
  · rintro vs st1 ⟨n, b, rfl, hq⟩
    refine ⟨rfl, fun C' hc => ?_⟩
    have G' := hc.gd
    have hm := hc.blt hmin
    have hh' : C'.A.handled = none := hc.hand.trans hh
    refine sv_cons (xv_if (bv_cmp (ev_local G' (ev_int (co_eq (tt_bool ⟨fun h => ?_, fun h => ?_⟩))))))
    · refine sv_cons (xv_ret (ev_local G' ?_))
      have : crz n b = b := by unfold crz; rw [if_pos (by simpa using h)]
      rw [this] at hq
      exact hq
    · refine sv_nil (sv_cons (xv_ret (ev_callB (ev_builtin G' hm ⟨rfl, ?_⟩))))
      refine av_cons (ev_local G' (av_cons (ev_meth0 F.plainAttrs_int F.slot_int_bit_length F.type_int_bit_length ?_)))
      walk_at "go"
      refine ⟨rfl, cl_bits (av_nil (cl_min hh' ?_))⟩
      have : crz n b = if ((Builtin.Int.intBits (Builtin.bitAnd (Builtin.bitNot n) (n - 1)) : Nat) : Int) < b then ((Builtin.Int.intBits (Builtin.bitAnd (Builtin.bitNot n) (n - 1)) : Nat) : Int) else b := by unfold crz; rw [if_neg (by simpa using h)]
      rw [this] at hq
      exact hq
  · match ws, hl with
    | [a, b], _ => rfl
end
/-! the plain law: lifting the exponent -/
def Val (n : Int) (t : Nat) : Prop := (2 : Int) ^ t ∣ n ∧ ¬ (2 : Int) ^ (t + 1) ∣ n
theorem val_form {n : Int} {t : Nat} (h : Val n t) : ∃ u, n = 2 ^ t * u ∧ u % 2 = 1 := by
  obtain ⟨u, rfl⟩ := h.1
  refine ⟨u, rfl, ?_⟩
  by_cases hu : u % 2 = 1
  · exact hu
  · exact absurd ⟨u / 2, by rw [Int.pow_succ, Int.mul_assoc]; congr 1; omega⟩ h.2
theorem val_of {u : Int} (t : Nat) (hu : u % 2 = 1) : Val (2 ^ t * u) t := ⟨⟨u, rfl⟩, by
  have : u = 2 * (u / 2) + 1 := by omega
  rw [this]
  exact not_dvd_succ⟩
theorem val_mul {x y : Int} {a b : Nat} (hx : Val x a) (hy : Val y b) : Val (x * y) (a + b) := by
  obtain ⟨u, rfl, hu⟩ := val_form hx
  obtain ⟨v, rfl, hv⟩ := val_form hy
  have e : (2 : Int) ^ a * u * (2 ^ b * v) = 2 ^ (a + b) * (u * v) := by
    rw [Int.pow_add]
    simp only [Int.mul_assoc, Int.mul_left_comm u]
  rw [e]
  exact val_of _ (by rw [Int.mul_emod, hu, hv]; rfl)
theorem val_odd {u : Int} (hu : u % 2 = 1) : Val u 0 := by simpa using val_of 0 hu
theorem val_ex {n : Int} (h : n ≠ 0) : ∃ t, Val n t := by
  obtain ⟨t, a, e⟩ := odd_part _ n (Nat.le_refl _) h
  rw [e]
  exact ⟨t, val_of t (by omega)⟩
theorem val_uniq {n : Int} {a b : Nat} (ha : Val n a) (hb : Val n b) : a = b := by
  by_cases h : a < b
  · exact absurd (Int.dvd_trans (pow_dvd_pow h) hb.1) ha.2
  · by_cases h' : b < a
    · exact absurd (Int.dvd_trans (pow_dvd_pow h') ha.1) hb.2
    · omega
theorem odd_pow {x : Int} (h : x % 2 = 1) : ∀ n : Nat, (x ^ n) % 2 = 1
  | 0 => by rw [Int.pow_zero]; rfl
  | n + 1 => by rw [Int.pow_succ, Int.mul_emod, odd_pow h n, h]; rfl
theorem sq_pow {x : Int} (h : x % 2 = 1) : ∀ n : Nat, (x ^ (2 * n)) % 4 = 1
  | 0 => by rw [Nat.mul_zero, Int.pow_zero]; rfl
  | n + 1 => by
    have e : x ^ (2 * (n + 1)) = x ^ (2 * n) * (x * x) := by
      rw [show 2 * (n + 1) = 2 * n + 1 + 1 by omega, Int.pow_succ, Int.pow_succ, Int.mul_assoc]
    have hs : (x * x) % 4 = 1 := by
      rw [Int.mul_emod]
      have : x % 4 = 1 ∨ x % 4 = 3 := by omega
      rcases this with h | h <;> rw [h] <;> rfl
    rw [e, Int.mul_emod, sq_pow h n, hs]; rfl
def geo (x y : Int) : Nat → Int
  | 0 => 0
  | n + 1 => x ^ n + y * geo x y n
theorem geo_eq (x y : Int) : ∀ n : Nat, x ^ n - y ^ n = (x - y) * geo x y n
  | 0 => by simp [geo]
  | n + 1 => by
    have ih := geo_eq x y n
    rw [geo, Int.mul_add, ← Int.mul_assoc, Int.mul_comm (x - y) y, Int.mul_assoc, ← ih, Int.pow_succ, Int.pow_succ, Int.sub_mul, Int.mul_sub, Int.mul_comm (x ^ n) x, Int.mul_comm (y ^ n) y]
    omega
theorem geo_mod {x y : Int} (hx : x % 2 = 1) (hy : y % 2 = 1) : ∀ n : Nat, geo x y n % 2 = (n : Int) % 2
  | 0 => rfl
  | n + 1 => by
    have ih := geo_mod hx hy n
    have h1 := odd_pow hx n
    have h2 : (y * geo x y n) % 2 = (n : Int) % 2 := by rw [Int.mul_emod, hy, Int.one_mul, Int.emod_emod, ih]
    rw [geo]
    omega
theorem lte_odd {x y : Int} (hx : x % 2 = 1) (hy : y % 2 = 1) {n a : Nat} (hn : n % 2 = 1) (ha : Val (x - y) a) : Val (x ^ n - y ^ n) a := by
  rw [geo_eq]
  exact val_mul ha (val_odd (by rw [geo_mod hx hy]; omega))
theorem neg_pow_odd (y : Int) : ∀ j : Nat, (-y) ^ (2 * j + 1) = -(y ^ (2 * j + 1))
  | 0 => by rw [Nat.mul_zero, Nat.zero_add, Int.pow_succ, Int.pow_succ, Int.pow_zero, Int.pow_zero]; omega
  | j + 1 => by
    have ih := neg_pow_odd y j
    rw [show 2 * (j + 1) + 1 = 2 * j + 1 + 1 + 1 by omega, Int.pow_succ, Int.pow_succ, ih, Int.pow_succ y (2 * j + 1 + 1), Int.pow_succ y (2 * j + 1)]
    rw [Int.neg_mul_neg, Int.mul_neg]
theorem val_double {n : Int} {c : Nat} (h : Val n c) : Val (2 * n) (c + 1) := by
  obtain ⟨u, rfl, hu⟩ := val_form h
  have : (2 : Int) * (2 ^ c * u) = 2 ^ (c + 1) * u := by rw [Int.pow_succ, Int.mul_comm ((2 : Int) ^ c) 2, Int.mul_assoc]
  rw [this]
  exact val_of _ hu
theorem lte_even {x y : Int} (hx : x % 2 = 1) (hy : y % 2 = 1) : ∀ (k j : Nat), j ≤ k → 0 < j → ∀ {a b c : Nat}, Val (x - y) a → Val (x + y) b → Val ((2 * j : Nat) : Int) c → Val (x ^ (2 * j) - y ^ (2 * j)) (a + b + c - 1)
  | 0, j, h, h0, _, _, _, _, _, _ => by omega
  | k + 1, j, h, h0, a, b, c, ha, hb, hc => by
    have e : x ^ (2 * j) - y ^ (2 * j) = (x ^ j - y ^ j) * (x ^ j + y ^ j) := by
      rw [show 2 * j = j + j by omega, Int.pow_add, Int.pow_add, Int.sub_mul, Int.mul_add, Int.mul_add, Int.mul_comm (y ^ j) (x ^ j)]
      omega
    obtain ⟨c', hc'⟩ := val_ex (n := (j : Int)) (by omega)
    have hcc : c = c' + 1 := val_uniq hc (by have := val_double hc'; rwa [show (2 : Int) * (j : Int) = ((2 * j : Nat) : Int) by omega] at this)
    rw [e]
    by_cases hj : j % 2 = 1
    · have hc0 : c' = 0 := val_uniq hc' (val_odd (by omega))
      have h1 := lte_odd hx hy hj ha
      have h2 : Val (x ^ j + y ^ j) b := by
        have := lte_odd hx (y := -y) (by omega) hj (a := b) (by rw [Int.sub_neg]; exact hb)
        obtain ⟨i, rfl⟩ : ∃ i, j = 2 * i + 1 := ⟨j / 2, by omega⟩
        rw [neg_pow_odd, Int.sub_neg] at this
        exact this
      have := val_mul h1 h2
      rw [show a + b + c - 1 = a + b by omega]
      exact this
    · obtain ⟨i, rfl⟩ : ∃ i, j = 2 * i := ⟨j / 2, by omega⟩
      have h1 := lte_even hx hy k i (by omega) (by omega) ha hb hc'
      have h2 : Val (x ^ (2 * i) + y ^ (2 * i)) 1 := by
        have p := sq_pow hx i
        have q := sq_pow hy i
        have : x ^ (2 * i) + y ^ (2 * i) = 2 ^ 1 * ((x ^ (2 * i) + y ^ (2 * i)) / 2) := by omega
        rw [this]
        exact val_of 1 (by omega)
      have := val_mul h1 h2
      have hc1 : 1 ≤ c' := by
        by_cases h0 : c' = 0
        · subst h0
          exact absurd (⟨(i : Int), by omega⟩ : (2 : Int) ^ (0 + 1) ∣ ((2 * i : Nat) : Int)) hc'.2
        · omega
      rw [show a + b + c - 1 = a + b + c' - 1 + 1 by omega]
      exact this
theorem crz_val {n b : Int} {t : Nat} (h : Val n t) (hb : 0 ≤ b) : crz n b = if (t : Int) < b then (t : Int) else b := by
  by_cases hc : (t : Int) < b
  · rw [if_pos hc]
    exact crz_eq (by omega) h.1 fun _ => h.2
  · rw [if_neg hc]
    have : b = (b.toNat : Int) := by omega
    rw [this]
    exact crz_eq (by omega) (Int.dvd_trans (pow_dvd_pow (by omega)) h.1) (by omega)
theorem crz_zero (b : Int) : crz 0 b = b := by unfold crz; rw [if_pos rfl]
theorem crz_ge_one {n b : Int} (hn : n % 2 = 0) (hb : 1 ≤ b) : 1 ≤ crz n b := by
  obtain ⟨t, e, h1, h2, h3⟩ := crz_spec n b (by omega)
  rw [e]
  by_cases h0 : t = 0
  · subst h0
    exact absurd ⟨n / 2, by omega⟩ (h3 (by omega))
  · omega
theorem crz_le {n b : Int} (hb : 0 ≤ b) : crz n b ≤ b := by
  obtain ⟨t, e, h1, h2, h3⟩ := crz_spec n b hb
  omega
theorem law_odd {x y b : Int} {n : Nat} (hx : x % 2 = 1) (hy : y % 2 = 1) (hn : n % 2 = 1) (hb : 1 ≤ b) : crz (x ^ n - y ^ n) b = crz (x - y) b := by
  by_cases h : x = y
  · subst h
    rw [Int.sub_self, Int.sub_self]
  · obtain ⟨a, ha⟩ := val_ex (n := x - y) (by omega)
    rw [crz_val ha (by omega), crz_val (lte_odd hx hy hn ha) (by omega)]
theorem law_even {x y b : Int} {j : Nat} (hx : x % 2 = 1) (hy : y % 2 = 1) (hj : 0 < j) (hb : 1 ≤ b) :
    crz (x ^ (2 * j) - y ^ (2 * j)) b = if crz (x - y) b + crz (x + y) b + crz ((2 * j : Nat) : Int) b - 1 < b then crz (x - y) b + crz (x + y) b + crz ((2 * j : Nat) : Int) b - 1 else b := by
  have g1 := crz_ge_one (n := x - y) (b := b) (by omega) hb
  have g2 := crz_ge_one (n := x + y) (b := b) (by omega) hb
  have g3 := crz_ge_one (n := ((2 * j : Nat) : Int)) (b := b) (by omega) hb
  by_cases h : x = y
  · subst h
    have e : crz (x - x) b = b := by rw [Int.sub_self]; exact crz_zero b
    rw [if_neg (by omega), Int.sub_self]
    exact crz_zero b
  · by_cases h' : x = -y
    · subst h'
      have e : crz (-y + y) b = b := by rw [Int.add_left_neg]; exact crz_zero b
      have e2 : (-y) ^ (2 * j) = y ^ (2 * j) := by
        have key : ∀ k : Nat, (-y) ^ (2 * k) = y ^ (2 * k) := by
          intro k
          induction k with
          | zero => rw [Nat.mul_zero, Int.pow_zero, Int.pow_zero]
          | succ k ih => rw [show 2 * (k + 1) = 2 * k + 1 + 1 by omega, Int.pow_succ, Int.pow_succ, ih, Int.pow_succ y (2 * k + 1), Int.pow_succ y (2 * k), Int.mul_assoc, Int.mul_assoc, Int.neg_mul_neg]
        exact key j
      rw [if_neg (by omega), e2, Int.sub_self]
      exact crz_zero b
    · obtain ⟨a, ha⟩ := val_ex (n := x - y) (by omega)
      obtain ⟨a2, ha2⟩ := val_ex (n := x + y) (by omega)
      obtain ⟨c, hc⟩ := val_ex (n := ((2 * j : Nat) : Int)) (by omega)
      have hv := lte_even hx hy j j (Nat.le_refl _) hj ha ha2 hc
      rw [crz_val hv (by omega)]
      rw [crz_val ha (by omega)] at g1 ⊢
      rw [crz_val ha2 (by omega)] at g2 ⊢
      rw [crz_val hc (by omega)] at g3 ⊢
      split <;> split <;> split <;> split <;> split <;> omega

section
variable {C : Cx} {sc : Scope} {lv : Nat} {st : St} {pos px : Pos} {Q : V → St → Prop} {e1 e2 e3 : Expr}
theorem ev_twos (G : Gd C sc (lv + 1)) (hd : drec pw 3 ∈ recsOf C.p)
    (h : AV C pos [e1, e2] st (fun vs st1 => ∃ (n b : Int), vs = [.int n, .int b] ∧ 0 ≤ b ∧ b ≤ 60 ∧ Q (.int (crz n b)) st1))
    (hg : sc.names.lookup (Str.ofString "_law_twos") = some .globalImplicit := by rfl)
    (hst : starEach [e1, e2] C.env = (false, eval e1 C.env) :: starEach [e2] C.env := by rfl) :
    EV C (.Call (.Name "_law_twos" px) [e1, e2] [] pos) st Q := by
  refine ev_call (x := "_law_twos") ["number", "most"] G hd (AV.mono h ?_) (fun pm cd doc ws hl => ?_) (by decide +kernel) (by decide +kernel) rfl rfl rfl hg rfl hst
  · rintro vs st1 ⟨n, b, rfl, hb0, hb, hq⟩
    refine ⟨rfl, fun C' hc => ?_⟩
    have G' := hc.gd
    walk_at "go"
    refine XV.weak (l := [("twos", .int 0), ("most", .int b), ("number", .int n)]) ?_ (by walk_at "sub")
    refine xv_while (fun k st' => ∃ t : Nat, k = (b - t).toNat ∧ (t : Int) ≤ b ∧ (2 : Int) ^ t ∣ n ∧ st' = ⟨[("twos", .int t), ("most", .int b), ("number", .int n)], st1.os⟩) _ ⟨0, rfl, by omega, ⟨n, by simp⟩, rfl⟩ ?_
    rintro k _ ⟨t, rfl, ht, hdv, rfl⟩
    walk_at "go"
    refine ⟨fun hlt => ?_, fun hge => ?_⟩
    · have hlt' : (t : Int) < b := of_decide_eq_true hlt
      walk_at "go"
      have e : ((t : Int) + 1).toNat = t + 1 := by omega
      refine bo_pow (by omega) (by show (2 : Int) * _ ≤ _; omega) ?_
      rw [e]
      refine bo_mod (two_pos _) ?_
      walk_at "go"
      refine ⟨fun h0 => ?_, fun h0 => ?_⟩
      · have hd1 : (2 : Int) ^ (t + 1) ∣ n := Int.dvd_of_emod_eq_zero (eq_of_beq h0)
        walk_at "go"
        refine ⟨fun _ => ?_, fun h => absurd h (by decide)⟩
        walk_at "go"
        refine ⟨_, _, ?_, ?_, ?_, t + 1, rfl, by omega, hd1, rfl⟩
        · omega
        · walk_at "wk"
        · exact Nat.le_refl _
      · have hd1 : ¬ (2 : Int) ^ (t + 1) ∣ n := fun hd => by rw [Int.emod_eq_zero_of_dvd hd] at h0; exact absurd h0 (by decide)
        refine ⟨fun h => absurd h (by decide), fun _ => ?_⟩
        walk_at "go"
        rw [crz_eq ht hdv fun _ => hd1] at hq
        exact hq
    · have hge' : ¬ (t : Int) < b := of_decide_eq_false hge
      refine ⟨fun h => absurd h (by decide), fun _ => ?_⟩
      walk_at "go"
      rw [crz_eq ht hdv fun h => absurd h hge'] at hq
      exact hq
  · match ws, hl with
    | [a, b], _ => rfl
end
theorem mod2_ten : (10 : Int) ^ (30 : Int).toNat = 1000000000000000000000000000000 := by decide +kernel
theorem law_main {C : Cx} (G : Gd C (drec pw 4).scope 3) (hh : C.A.handled = none) (hcl : C.cl = []) (hd1 : drec pw 1 ∈ recsOf C.p) (hd3 : drec pw 3 ∈ recsOf C.p)
    (hmin : Blt C "min" (.builtin "min")) (habs : Blt C "abs" (.builtin "abs")) (htype : Blt C "type" (.type "type")) (hint : Blt C "int" (.type "int"))
    {l : Addr} {xs : List Value} {ns : List Int} (hl : C.h₀.IsList l xs.toArray) (hi : IntsAre xs ns) (hlen : ns.length ≤ 63) :
    SV C (drec pw 4).body ⟨[("script", .fix (.ref l))], []⟩ (fun f _ => f = .ret (.bool true)) := by
  conv at G => enter [2]; whnf
  conv => enter [2]; whnf
  walk_at "go"
  refine xv_for (ev_binop (ev_list ?_))
  walk_at "go"
  refine ⟨by decide, ?_⟩
  walk_at "go"
  refine bo_addS rfl hl hi (by simp; omega) ?_
  refine ⟨([30063, 62690, 28975, -28975] ++ ns).map V.int, _, fun _ st' => ∃ o : Int, o % 2 = 1 ∧ o.natAbs < 2 ^ 110 ∧ st' = ⟨[("other", .int o)], [.list [.int 30063, .int 62690, .int 28975, .int (-28975)], .list (([30063, 62690, 28975, -28975] ++ ns).map V.int)]⟩, iter_list hh (by simp), ⟨[("other", .int 1)], by walk_at "sub", 1, rfl, by decide, by simp⟩, ?_, ?_, ?_⟩
  · rintro i st' ⟨o, ho, hob, rfl⟩
    rfl
  · rintro i v st' kp hv ⟨o, ho, hob, rfl⟩
    have G' := G.kept kp
    obtain ⟨x, hx, rfl⟩ := mem_ints hv
    refine as_name G' ?_
    walk_at "go"
    refine ev_callB (ev_builtin G' habs ⟨rfl, ?_⟩)
    walk_at "go"
    refine cl_abs ?_
    walk_at "go"
    refine bo_pow (by decide) (by decide +kernel) ?_
    rw [mod2_ten]
    walk_at "go"
    refine bo_mul (IntMulOk.of_left (by decide)) ?_
    have hw : ∃ w : Int, 0 ≤ w ∧ w < 1000000000000000000000000000000 ∧ (if x < 0 then -x else x) / 1920 % 1000000000000000000000000000000 = w := ⟨_, by omega, by omega, rfl⟩
    obtain ⟨w, hw0, hw1, hw⟩ := hw
    rw [hw]
    walk_at "go1"
    refine XV.mono (Q := fun f st' => f = .next ∧ ∃ odd : Int, odd % 2 = 1 ∧ odd.natAbs < 2 ^ 110 ∧ Sub [("odd", .int odd), ("x", .int x), ("other", .int o)] st'.m ∧ st'.os = [.list [.int 30063, .int 62690, .int 28975, .int (-28975)], .list (([30063, 62690, 28975, -28975] ++ ns).map V.int)]) (xv_if ?_) ?_
    · walk_at "go"
      refine ⟨fun h => ?_, fun h => ?_⟩
      · walk_at "go"
        exact ⟨rfl, -(2 * w + 1), by omega, by omega, by walk_at "sub", rfl⟩
      · walk_at "go"
        exact ⟨rfl, 2 * w + 1, by omega, by omega, by walk_at "sub", rfl⟩
    · rintro f ⟨m', os'⟩ ⟨rfl, odd, ho1, hob1, hsub, rfl⟩
      refine SV.weak ?_ hsub
      obtain ⟨n, hn, hn32⟩ : ∃ n : Nat, x % 32 + 1 = n ∧ 1 ≤ n ∧ n ≤ 32 := ⟨(x % 32 + 1).toNat, by omega, by omega, by omega⟩
      obtain ⟨b, hb, hb1, hb60⟩ : ∃ b : Int, x / 32 % 60 + 1 = b ∧ 1 ≤ b ∧ b ≤ 60 := ⟨_, rfl, by omega, by omega⟩
      walk_at "go1"
      rw [hn, hb]
      refine ev_twos G' hd3 ?_
      walk_at "go1"
      refine ⟨_, _, rfl, by omega, by omega, ?_⟩
      walk_at "go1"
      refine XV.mono (Q := fun f st' => f = .next ∧ Sub [("due", .int (crz (odd ^ n - o ^ n) b)), ("bound", .int b), ("power", .int n), ("odd", .int odd), ("x", .int x), ("other", .int o)] st'.m ∧ st'.os = [.list [.int 30063, .int 62690, .int 28975, .int (-28975)], .list (([30063, 62690, 28975, -28975] ++ ns).map V.int)]) (xv_if ?_) ?_
      · walk_at "go"
        refine ⟨fun h => ?_, fun h => ?_⟩
        · obtain ⟨j, rfl⟩ : ∃ j, n = 2 * j := ⟨n / 2, by have := eq_of_beq h; omega⟩
          walk_at "go"
          refine ev_callB (ev_builtin G' hmin ⟨rfl, ?_⟩)
          walk_at "go"
          refine ev_twos G' hd3 ?_
          walk_at "go"
          refine ⟨_, _, rfl, by omega, by omega, ?_⟩
          walk_at "go"
          refine ev_twos G' hd3 ?_
          walk_at "go"
          refine ⟨_, _, rfl, by omega, by omega, ?_⟩
          walk_at "go"
          refine cl_min hh ?_
          rw [← law_even ho1 ho (by omega) hb1]
          walk_at "go"
          exact ⟨rfl, by walk_at "sub", rfl⟩
        · have hodd : n % 2 = 1 := by
            by_cases h2 : ((n : Int) % 2 == 0) = true
            · rw [h2] at h; cases h
            · have : (n : Int) % 2 ≠ 0 := fun e => h2 (by rw [e]; rfl)
              omega
          rw [← law_odd ho1 ho hodd hb1]
          walk_at "go"
          exact ⟨rfl, by walk_at "sub", rfl⟩
      · rintro f ⟨m', os'⟩ ⟨rfl, hsub, rfl⟩
        refine SV.weak ?_ hsub
        walk_at "go"
        refine ev_crz G' hh hd1 hmin ?_
        walk_at "go"
        have e1 : ((n : Int)).toNat = n := by omega
        have hbits : ∀ z : Int, z.natAbs < 2 ^ 110 → (intBits z : Int) * (n : Int) ≤ 2 ^ 27 := fun z hz => by
          have hz' : intBits z ≤ 110 := intBits_le_iff.mpr hz
          have : (intBits z : Int) * (n : Int) ≤ 110 * 32 := Int.mul_le_mul (by omega) (by omega) (by omega) (by omega)
          omega
        refine bo_pow (by omega) (hbits _ hob1) ?_
        walk_at "go"
        refine bo_pow (by omega) (hbits _ hob) ?_
        walk_at "go"
        rw [e1]
        refine ⟨_, _, rfl, ?_⟩
        walk_at "go"
        refine ev_callT (ev_builtin G' htype ⟨rfl, ?_⟩)
        walk_at "go"
        refine cl_type rfl rfl (ev_builtin G' hint (co_isnot rfl ?_))
        walk_at "go"
        refine ⟨fun h => absurd h (by decide), fun h => ?_⟩
        walk_at "go"
        refine ⟨fun h => absurd h (by simp), fun h => ?_⟩
        walk_at "go"
        refine ⟨fun h => absurd h (by decide), fun _ => ?_⟩
        walk_at "go"
        refine ⟨_, ?_, ?_, odd, ho1, hob1, rfl⟩
        · walk_at "wk"
        · simp
  · rintro st' ⟨o, ho, hob, rfl⟩
    walk_at "go"
    rfl
end Mine
set_option maxHeartbeats 8000000 in
theorem PySem.Challenge.cw_dm0180_04_holds : PySem.Challenge.rw_dm0180_04.Holds := by
  open_k0
  rename Top _ _ _ _ _ _ => T
  rename Fr _ _ _ _ => F
  rename Heap.IsList _ _ _ => hL
  rename IntsAre _ _ => hI
  rename Below _ _ _ _ => K0
  rename (¬ (_ < _)) => hlen
  refine Mine.enterT (x := "script") T F rfl ?_ ?_
  · refine Mine.law_main ⟨rfl, rfl, rfl, rfl, T, (by show callerA.depth + 1 + 3 < 500; decide), ⟨_, _, _, K0, rfl, rfl⟩⟩ rfl rfl (List.mem_of_getElem? (i := 0) (by kernel_rfl)) (List.mem_of_getElem? (i := 1) (by kernel_rfl)) ?_ ?_ ?_ ?_ hL hI (by omega)
    all_goals exact Mine.blt_of T (by kernel_rfl) (by decide) (by decide +kernel) (by decide +kernel) (by decide +kernel) (by decide +kernel) (by decide +kernel)
  · intro h' tk m' F'
    dsimp only

    kc_close
namespace Mine
end Mine
