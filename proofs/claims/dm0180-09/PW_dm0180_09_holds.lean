import PyProof.Rows.All
import Wide.All
import OpenK.AllK
import Wide.FinOn
import PySem.Challenge.RW_dm0180_09
open PySem PySem.W PyProof.Rows PySem.Calls
set_option Elab.async false
set_option maxRecDepth 100000
set_option maxHeartbeats 4000000
set_option linter.unusedVariables false
namespace Mine

/-- values without tokens and addresses; `ref k`: the k-th thing of the store -/
inductive V where
  | none | bool (b : Bool) | int (n : Int) | str (x : Str) | bytes (b : Array UInt8) | ref (k : Nat) | fix (v : Value)
inductive O where
  | list (vs : List V) | tuple (vs : List V) | cell (v : Option V) | range (a b c : Int) | words (x : Str) | exc (k : Nat) | junk
structure St where
  m : List (Str × V)
  os : List O
inductive F where
  | next | brk | cont | ret (v : V)

def VR (ad : List Addr) : V → Value → Prop
  | .none, w => w = .none
  | .bool b, w => w = .bool b
  | .int n, w => ∃ t, w = .int n t
  | .str x, w => ∃ t, w = .str x t
  | .bytes b, w => ∃ t, w = .bytes b t
  | .ref k, w => ∃ a, ad[k]? = some a ∧ w = .ref a
  | .fix v, w => w = v
inductive VRs (ad : List Addr) : List V → List Value → Prop
  | nil : VRs ad [] []
  | cons {v w vs ws} : VR ad v w → VRs ad vs ws → VRs ad (v :: vs) (w :: ws)
abbrev tupOf (its : Array Value) (n : Nat) : Obj := { cls := .type "tuple", data := .seq its n }
def OR (ad : List Addr) : O → Obj → Prop
  | .list vs, o => ∃ ws n, o = listOf ws.toArray n ∧ VRs ad vs ws
  | .tuple vs, o => ∃ ws n, o = tupOf ws.toArray n ∧ VRs ad vs ws
  | .cell (some v), o => ∃ w, o.data = .cell (some w) ∧ VR ad v w
  | .cell .none, o => ∃ w, o.data = .cell w
  | .range a b c, o => ∃ t u v, o = { cls := .type "range", dict := none, data := .fields #[.int a t, .int b u, .int c v], slots := #[] }
  | .words x, o => o.cls = .type "tuple" ∧ ∃ n t, o.data = .seq #[.str x t] n
  | .exc k, o => o.cls = .type "ValueError" ∧ ∃ vs t, o.data = .fields vs ∧ vs[0]? = some (.ref t) ∧ ad[k]? = some t
  | .junk, _ => True
inductive ORs (ad : List Addr) : List O → List (Addr × Obj) → Prop
  | nil : ORs ad [] []
  | cons {o p os ps} : OR ad o p.2 → ORs ad os ps → ORs ad (o :: os) (p :: ps)
def MR (ad : List Addr) (l : List (Str × V)) (m : Str → Option Value) : Prop := ∀ x v, l.lookup x = some v → ∃ w, m x = some w ∧ VR ad v w

/-- a frame at work: its program, world, surroundings, environment, the heap below it; `kp`: objects that must stay as they are;
`cl`: the places of its cells in the store; the rest: what the top says -/
structure Cx where
  prog : Program
  w : World
  A : Around
  env : Env
  h₀ : Heap
  kp : List (Addr × Obj)
  cl : List (Str × Nat)
  p : Program
  loose : List Str
  mean : ExcName → Option Value
  mg : Str → Option Value
  mb : Str → Option Value
  base : Heap
  of : List Addr
abbrev Cx.M (C : Cx) : Model := model C.prog C.w
abbrev Cx.kept (C : Cx) (kp : List (Addr × Obj)) : Cx := { C with kp := kp }
/-- g is h₀, but for the slots of the frames `of` -/
structure Sim (h₀ : Heap) (of : List Addr) (g : Heap) : Prop where
  size : g.objs.size = h₀.objs.size
  non : ∀ b, h₀.get? b = none → g.get? b = none
  same : ∀ b o, h₀.get? b = some o → b ∉ of → g.get? b = some o
  slot : ∀ b o, h₀.get? b = some o → ∃ sl, g.get? b = some { o with slots := sl }
theorem Sim.refl (h₀ : Heap) (of : List Addr) : Sim h₀ of h₀ := ⟨rfl, fun _ e => e, fun _ _ e _ => e, fun _ o e => ⟨o.slots, e⟩⟩
theorem Sim.fresh {h₀ g : Heap} {of : List Addr} (k : Sim h₀ of g) {b : Addr} (e : g.get? b = none) : h₀.get? b = none := by
  cases q : h₀.get? b with
  | none => rfl
  | some o => obtain ⟨sl, h⟩ := k.slot b o q; rw [e] at h; cases h
/-- a heap between h₀ and h -/
theorem Sim.make {h₀ h : Heap} {of : List Addr} (h1 : ∀ b o, h₀.get? b = some o → b ∉ of → h.get? b = some o) (h2 : ∀ b o, h₀.get? b = some o → ∃ sl, h.get? b = some { o with slots := sl }) : ∃ g, Sim h₀ of g ∧ g.StaysIn h := by
  have key : ∀ l : List Addr, ∃ g : Heap, g.objs.size = h₀.objs.size ∧ (∀ b, h₀.get? b = none → g.get? b = none) ∧ (∀ b o, h₀.get? b = some o → b ∉ l → g.get? b = some o) ∧ (∀ b o, h₀.get? b = some o → ∃ sl, g.get? b = some { o with slots := sl }) ∧ (∀ b, b ∈ l → ∀ o, h₀.get? b = some o → ∃ sl, g.get? b = some { o with slots := sl } ∧ h.get? b = some { o with slots := sl }) := by
    intro l
    induction l with
    | nil => exact ⟨h₀, rfl, fun _ e => e, fun _ _ e _ => e, fun _ o e => ⟨o.slots, e⟩, fun _ hb => nomatch hb⟩
    | cons a l ih =>
      obtain ⟨g, k1, k2, k3, k4, k5⟩ := ih
      cases ha : h₀.get? a with
      | none =>
        refine ⟨g, k1, k2, fun b o e n => k3 b o e fun q => n (.tail _ q), k4, fun b hb o e => ?_⟩
        rcases List.mem_cons.mp hb with rfl | hb
        · rw [ha] at e; cases e
        · exact k5 b hb o e
      | some oa =>
        obtain ⟨sl, hsl⟩ := h2 a oa ha
        obtain ⟨sg, hsg⟩ := k4 a oa ha
        obtain ⟨x1, x2, x3⟩ := Heap.SlotsOnly.update hsg fun _ => sl
        have hself : (g.update a fun o => { o with slots := sl }).get? a = some { oa with slots := sl } := by
          refine (Heap.get?_update_self (o := { oa with slots := sg }) (fun o => { o with slots := sl }) hsg ?_)
          have hx := (Heap.get?_some_iff.mp hsl).2
          obtain ⟨c, d, dt, s0⟩ := oa
          cases dt <;> first | rfl | exact hx
        refine ⟨g.update a fun o => { o with slots := sl }, by rw [x1, k1], fun b e => ?_, fun b o e n => ?_, fun b o e => ?_, fun b hb o e => ?_⟩
        · have hne : b ∉ [a] := fun q => by rw [List.mem_singleton.mp q, ha] at e; cases e
          rw [x2 b hne]; exact k2 b e
        · rw [x2 b fun q => n (by rw [List.mem_singleton.mp q]; exact .head _)]
          exact k3 b o e fun q => n (.tail _ q)
        · obtain ⟨s1, e1⟩ := k4 b o e
          obtain ⟨s2, e2⟩ := x3 b _ e1
          exact ⟨s2, e2⟩
        · by_cases hba : b = a
          · subst hba
            rw [ha] at e
            cases e
            exact ⟨sl, hself, hsl⟩
          · rcases List.mem_cons.mp hb with q | hb
            · exact absurd q hba
            · obtain ⟨s1, e1, e2⟩ := k5 b hb o e
              exact ⟨s1, (x2 b fun q => hba (List.mem_singleton.mp q)).trans e1, e2⟩
  obtain ⟨g, k1, k2, k3, k4, k5⟩ := key of
  refine ⟨g, ⟨k1, k2, k3, k4⟩, fun b o e => ?_⟩
  cases q : h₀.get? b with
  | none => rw [k2 b q] at e; cases e
  | some o₀ =>
    by_cases hb : b ∈ of
    · obtain ⟨sl, e1, e2⟩ := k5 b hb o₀ q
      rw [e1] at e; cases e
      exact e2
    · rw [k3 b o₀ q hb] at e; cases e
      exact h1 b _ q hb
structure SR (C : Cx) (ad : List Addr) (st : St) (h : Heap) : Prop where
  ex : ∃ gg, Sim C.h₀ C.of gg ∧ ∃ m news, Fr gg C.env.locals h m ∧ News gg C.env.locals h (news ++ C.kp) ∧ news.map (·.1) = ad ∧ (ad ++ C.kp.map (·.1)).Nodup ∧ ORs ad st.os news ∧ MR ad st.m m
  cells : ∀ x k, C.cl.lookup x = some k → ∃ c, C.env.cells.lookup x = some c ∧ ad[k]? = some c
def Same (s s' : Shared) : Prop := ∃ h tk, s' = { s with heap := h, toks := tk }
theorem Same.rfl' (s : Shared) : Same s s := ⟨s.heap, s.toks, rfl⟩
theorem Same.trans {a b c : Shared} (h : Same a b) (h' : Same b c) : Same a c := by
  obtain ⟨h1, t1, rfl⟩ := h
  obtain ⟨h2, t2, rfl⟩ := h'
  exact ⟨h2, t2, rfl⟩
theorem Same.mk' (s : Shared) (h : Heap) (tk : Nat) : Same s { s with heap := h, toks := tk } := ⟨h, tk, rfl⟩
theorem Same.tk (s : Shared) (tk : Nat) : Same s { s with toks := tk } := ⟨s.heap, tk, rfl⟩
theorem Same.hp (s : Shared) (h : Heap) : Same s { s with heap := h } := ⟨h, s.toks, rfl⟩

abbrev No : Value → Shared → Prop := fun _ _ => False
/-- at a concrete state: the tree ends, in something the abstract post tells -/
structure At (C : Cx) (ad : List Addr) (s : Shared) {α β : Type} (rel : List Addr → β → α → Prop) (t : Sem α) (Q : β → St → Prop) : Prop where
  run : ∀ K : α → Shared → Prop, (∀ b st' s' ad' a, Q b st' → Same s s' → ad <+: ad' → SR C ad' st' s'.heap → rel ad' b a → K a s') → wpAny C.M C.A t K No s
structure Tr (C : Cx) {α β : Type} (rel : List Addr → β → α → Prop) (t : Sem α) (st : St) (Q : β → St → Prop) : Prop where
  go : ∀ s ad, SR C ad st s.heap → At C ad s rel t Q
def FR (ad : List Addr) : F → Flow → Prop
  | .next, f => f = .next
  | .brk, f => f = .brk
  | .cont, f => f = .cont
  | .ret v, f => ∃ w, f = .ret w ∧ VR ad v w
def BR (_ : List Addr) (b : Bool) (c : Bool) : Prop := c = b
def UR (_ : List Addr) (_ : Unit) (_ : Unit) : Prop := True

theorem VR.mono {ad ad' : List Addr} {v : V} {w : Value} (h : VR ad v w) (p : ad <+: ad') : VR ad' v w := by
  cases v with
  | ref k =>
    obtain ⟨a, ha, e⟩ := h
    refine ⟨a, ?_, e⟩
    obtain ⟨r, rfl⟩ := p
    rw [List.getElem?_append_left (List.getElem?_eq_some_iff.mp ha).1]
    exact ha
  | _ => exact h
theorem VRs.mono {ad ad' : List Addr} {vs : List V} {ws : List Value} (h : VRs ad vs ws) (p : ad <+: ad') : VRs ad' vs ws := by
  induction h with
  | nil => exact .nil
  | cons a _ ih => exact .cons (a.mono p) ih
theorem VRs.length {ad : List Addr} {vs : List V} {ws : List Value} (h : VRs ad vs ws) : ws.length = vs.length := by
  induction h with
  | nil => rfl
  | cons _ _ ih => simp [ih]
theorem VRs.append {ad : List Addr} {vs vs' : List V} {ws ws' : List Value} (h : VRs ad vs ws) (h' : VRs ad vs' ws') : VRs ad (vs ++ vs') (ws ++ ws') := by
  induction h with
  | nil => exact h'
  | cons a _ ih => exact .cons a ih
theorem VRs.get {ad : List Addr} {vs : List V} {ws : List Value} (h : VRs ad vs ws) {i : Nat} {v : V} (e : vs[i]? = some v) : ∃ w, ws[i]? = some w ∧ VR ad v w := by
  induction h generalizing i with
  | nil => cases e
  | cons a _ ih =>
    cases i with
    | zero => cases e; exact ⟨_, rfl, a⟩
    | succ i => exact ih e
theorem VRs.set {ad : List Addr} {vs : List V} {ws : List Value} (h : VRs ad vs ws) (i : Nat) {v : V} {w : Value} (hv : VR ad v w) : VRs ad (vs.set i v) (ws.set i w) := by
  induction h generalizing i with
  | nil => exact .nil
  | cons a h ih =>
    cases i with
    | zero => exact .cons hv h
    | succ i => exact .cons a (ih i)
theorem VRs.take {ad : List Addr} {vs : List V} {ws : List Value} (h : VRs ad vs ws) (i : Nat) : VRs ad (vs.take i) (ws.take i) := by
  induction h generalizing i with
  | nil => simp; exact .nil
  | cons a _ ih =>
    cases i with
    | zero => exact .nil
    | succ i => exact .cons a (ih i)
theorem VRs.drop {ad : List Addr} {vs : List V} {ws : List Value} (h : VRs ad vs ws) (i : Nat) : VRs ad (vs.drop i) (ws.drop i) := by
  induction h generalizing i with
  | nil => simp; exact .nil
  | cons a h ih =>
    cases i with
    | zero => exact .cons a h
    | succ i => exact ih i
theorem VRs.reverse {ad : List Addr} {vs : List V} {ws : List Value} (h : VRs ad vs ws) : VRs ad vs.reverse ws.reverse := by
  induction h with
  | nil => exact .nil
  | cons a _ ih => rw [List.reverse_cons, List.reverse_cons]; exact ih.append (.cons a .nil)
theorem OR.mono {ad ad' : List Addr} {o : O} {p : Obj} (h : OR ad o p) (x : ad <+: ad') : OR ad' o p := by
  match o, h with
  | .list _, ⟨ws, n, e, hv⟩ => exact ⟨ws, n, e, hv.mono x⟩
  | .tuple _, ⟨ws, n, e, hv⟩ => exact ⟨ws, n, e, hv.mono x⟩
  | .cell (some _), ⟨w, e, hv⟩ => exact ⟨w, e, hv.mono x⟩
  | .cell .none, h => exact h
  | .range _ _ _, h => exact h
  | .words _, h => exact h
  | .exc k, ⟨h1, vs, t, h2, h3, h4⟩ =>
    refine ⟨h1, vs, t, h2, h3, ?_⟩
    obtain ⟨r, rfl⟩ := x
    rw [List.getElem?_append_left (List.getElem?_eq_some_iff.mp h4).1]
    exact h4
  | .junk, _ => exact trivial
theorem ORs.mono {ad ad' : List Addr} {os : List O} {ps : List (Addr × Obj)} (h : ORs ad os ps) (x : ad <+: ad') : ORs ad' os ps := by
  induction h with
  | nil => exact .nil
  | cons a _ ih => exact .cons (a.mono x) ih
theorem ORs.length {ad : List Addr} {os : List O} {ps : List (Addr × Obj)} (h : ORs ad os ps) : ps.length = os.length := by
  induction h with
  | nil => rfl
  | cons _ _ ih => simp [ih]
theorem ORs.append {ad : List Addr} {os os' : List O} {ps ps' : List (Addr × Obj)} (h : ORs ad os ps) (h' : ORs ad os' ps') : ORs ad (os ++ os') (ps ++ ps') := by
  induction h with
  | nil => exact h'
  | cons a _ ih => exact .cons a ih
theorem ORs.get {ad : List Addr} {os : List O} {ps : List (Addr × Obj)} (h : ORs ad os ps) {i : Nat} {o : O} (e : os[i]? = some o) : ∃ p, ps[i]? = some p ∧ OR ad o p.2 := by
  induction h generalizing i with
  | nil => cases e
  | cons a _ ih =>
    cases i with
    | zero => cases e; exact ⟨_, rfl, a⟩
    | succ i => exact ih e
theorem ORs.set {ad : List Addr} {os : List O} {ps : List (Addr × Obj)} (h : ORs ad os ps) (i : Nat) {o : O} {a : Addr} {p : Obj} (hp : OR ad o p) : ORs ad (os.set i o) (ps.set i (a, p)) := by
  induction h generalizing i with
  | nil => exact .nil
  | cons b h ih =>
    cases i with
    | zero => exact .cons hp h
    | succ i => exact .cons b (ih i)
theorem ORs.take {ad : List Addr} {os : List O} {ps : List (Addr × Obj)} (h : ORs ad os ps) (i : Nat) : ORs ad (os.take i) (ps.take i) := by
  induction h generalizing i with
  | nil => simp; exact .nil
  | cons a _ ih =>
    cases i with
    | zero => exact .nil
    | succ i => exact .cons a (ih i)
theorem MR.mono {ad ad' : List Addr} {l : List (Str × V)} {m : Str → Option Value} (h : MR ad l m) (x : ad <+: ad') : MR ad' l m := fun y v e => by
  obtain ⟨w, a, b⟩ := h y v e
  exact ⟨w, a, b.mono x⟩
theorem MR.store {ad : List Addr} {l : List (Str × V)} {m : Str → Option Value} (h : MR ad l m) {x : Str} {v : V} {w : Value} (hv : VR ad v w) : MR ad ((x, v) :: l) (fun y => if y = x then some w else m y) := fun y u e => by
  rw [List.lookup_cons] at e
  by_cases hy : y = x
  · subst hy
    simp at e
    subst e
    exact ⟨w, by simp, hv⟩
  · have : (y == x) = false := by simpa using hy
    rw [this] at e
    obtain ⟨w', a, b⟩ := h y u e
    exact ⟨w', by simp [hy, a], b⟩

section
variable {C : Cx} {ad : List Addr} {st : St} {h : Heap}
/-- what is known of the locals may be less -/
def Sub (l l' : List (Str × V)) : Prop := ∀ x v, l.lookup x = some v → l'.lookup x = some v
theorem SR.weak (hs : SR C ad st h) {l : List (Str × V)} (e : Sub l st.m) : SR C ad ⟨l, st.os⟩ h := by
  obtain ⟨⟨gg, hgg, m, news, a, b, c, d, o, r⟩, hc⟩ := hs
  exact ⟨⟨gg, hgg, m, news, a, b, c, d, o, fun x v q => r x v (e x v q)⟩, hc⟩
end
/-- the store cut to its first n things; the locals must speak of these alone -/
def V.below (n : Nat) : V → Prop
  | .ref k => k < n
  | _ => True
def O.below (n : Nat) : O → Prop
  | .list vs => ∀ v ∈ vs, v.below n
  | .tuple vs => ∀ v ∈ vs, v.below n
  | .cell (some v) => v.below n
  | .exc k => k < n
  | _ => True
theorem VR.cut {ad : List Addr} {n : Nat} {v : V} {w : Value} (h : VR ad v w) (b : v.below n) : VR (ad.take n) v w := by
  cases v with
  | ref k =>
    obtain ⟨a, ha, e⟩ := h
    refine ⟨a, ?_, e⟩
    rw [List.getElem?_take, if_pos (show k < n from b)]
    exact ha
  | _ => exact h
theorem VRs.cut {ad : List Addr} {n : Nat} {vs : List V} {ws : List Value} (h : VRs ad vs ws) (b : ∀ v ∈ vs, v.below n) : VRs (ad.take n) vs ws := by
  induction h with
  | nil => exact .nil
  | cons a _ ih => exact .cons (a.cut (b _ (.head _))) (ih fun v hv => b v (.tail _ hv))
theorem OR.cut {ad : List Addr} {n : Nat} {o : O} {p : Obj} (h : OR ad o p) (b : o.below n) : OR (ad.take n) o p := by
  match o, h, b with
  | .list _, ⟨ws, k, e, hv⟩, b => exact ⟨ws, k, e, hv.cut b⟩
  | .tuple _, ⟨ws, k, e, hv⟩, b => exact ⟨ws, k, e, hv.cut b⟩
  | .cell (some _), ⟨w, e, hv⟩, b => exact ⟨w, e, hv.cut b⟩
  | .cell .none, h, _ => exact h
  | .range _ _ _, h, _ => exact h
  | .words _, h, _ => exact h
  | .exc k, ⟨h1, vs, t, h2, h3, h4⟩, b =>
    refine ⟨h1, vs, t, h2, h3, ?_⟩
    rw [List.getElem?_take, if_pos (show k < n from b)]
    exact h4
  | .junk, _, _ => exact trivial
theorem ORs.cut {ad : List Addr} {n : Nat} {os : List O} {ps : List (Addr × Obj)} (h : ORs ad os ps) (b : ∀ o ∈ os, o.below n) : ORs (ad.take n) os ps := by
  induction h with
  | nil => exact .nil
  | cons a _ ih => exact .cons (a.cut (b _ (.head _))) (ih fun v hv => b v (.tail _ hv))
/-- less is known: fewer locals; the store as it is, or cut -/
structure Cut (C : Cx) (st st' : St) : Prop where
  os : st'.os = st.os.take st'.os.length
  lb : ∀ x v, st'.m.lookup x = some v → v.below st'.os.length
  ob : ∀ o ∈ st'.os, o.below st'.os.length
  cb : ∀ x k, C.cl.lookup x = some k → k < st'.os.length
def Wk (C : Cx) (st st' : St) : Prop := Sub st'.m st.m ∧ (st'.os = st.os ∨ Cut C st st')
theorem SR.wk {C : Cx} {ad : List Addr} {st st' : St} {h : Heap} (hs : SR C ad st h) (k : Wk C st st') : ∃ ad', SR C ad' st' h ∧ ∀ ad₀, ad₀ <+: ad → ad₀.length ≤ st'.os.length → ad₀ <+: ad' := by
  obtain ⟨sub, ho | k⟩ := k
  · have := hs.weak sub
    rw [← ho] at this
    exact ⟨ad, this, fun _ p _ => p⟩
  · refine ⟨ad.take st'.os.length, ?_, fun ad₀ p hn => ?_⟩
    · obtain ⟨⟨gg, hgg, m, news, a, b, c, d, o, r⟩, hc⟩ := hs
      refine ⟨⟨gg, hgg, m, news.take st'.os.length, a, fun p hp => b p ?_, by rw [List.map_take, c], ?_, ?_, fun x v q => ?_⟩, fun x i q => ?_⟩
      · rcases List.mem_append.mp hp with hp | hp
        · exact List.mem_append_left _ (List.mem_of_mem_take hp)
        · exact List.mem_append_right _ hp
      · exact d.sublist ((List.take_sublist _ _).append (List.Sublist.refl _))
      · have := (o.take st'.os.length).cut (n := st'.os.length) (by rw [← k.os]; exact k.ob)
        rw [← k.os] at this
        exact this
      · obtain ⟨w, q1, q2⟩ := r x v (sub x v q)
        exact ⟨w, q1, q2.cut (k.lb x v q)⟩
      · obtain ⟨c', q1, q2⟩ := hc x i q
        exact ⟨c', q1, by rw [List.getElem?_take, if_pos (k.cb x i q)]; exact q2⟩
    · obtain ⟨r, rfl⟩ := p
      rw [List.take_append]
      exact ⟨r.take (st'.os.length - ad₀.length), by rw [List.take_of_length_le hn]⟩
theorem SR.len {C : Cx} {ad : List Addr} {st : St} {h : Heap} (hs : SR C ad st h) : ad.length = st.os.length := by
  obtain ⟨⟨gg, hgg, m, news, _, _, c, _, o, _⟩, _⟩ := hs
  rw [← c, List.length_map, o.length]
theorem Sub.nil {l : List (Str × V)} : Sub [] l := fun _ _ h => nomatch h
theorem Sub.cons {x : Str} {v : V} {l l' : List (Str × V)} (hx : l'.lookup x = some v) (h : Sub l l') : Sub ((x, v) :: l) l' := fun y u e => by
  rw [List.lookup_cons] at e
  by_cases hy : y = x
  · subst hy
    simp at e
    rw [hx, e]
  · have : (y == x) = false := by simpa using hy
    rw [this] at e
    exact h y u e
theorem Sub.refl (l : List (Str × V)) : Sub l l := fun _ _ h => h
def V.belowB (n : Nat) : V → Bool
  | .ref k => decide (k < n)
  | _ => true
theorem V.below_of {n : Nat} {v : V} (h : v.belowB n = true) : v.below n := by
  cases v with
  | ref k => exact (of_decide_eq_true h : k < n)
  | _ => trivial
theorem below_of_all {n : Nat} {l : List (Str × V)} (h : (l.all fun p => p.2.belowB n) = true) : ∀ x v, l.lookup x = some v → v.below n := fun x v e => by
  have hm : (x, v) ∈ l := by
    induction l with
    | nil => cases e
    | cons q r ih =>
      obtain ⟨y, u⟩ := q
      rw [List.lookup_cons] at e
      cases hxy : x == y with
      | true =>
        rw [hxy] at e
        cases e
        rw [eq_of_beq hxy]
        exact .head _
      | false =>
        rw [hxy] at e
        rw [List.all_cons, Bool.and_eq_true] at h
        exact .tail _ (ih h.2 e)
  exact V.below_of (List.all_eq_true.mp h _ hm)

theorem vs_below {n : Nat} {vs : List V} (h : (vs.all (·.belowB n)) = true) : ∀ v ∈ vs, v.below n := fun v hv => V.below_of (List.all_eq_true.mp h v hv)
theorem ob_nil {n : Nat} : ∀ o ∈ ([] : List O), o.below n := fun _ h => nomatch h
theorem ob_cons {n : Nat} {o : O} {os : List O} (h : o.below n) (r : ∀ o ∈ os, o.below n) : ∀ p ∈ o :: os, p.below n := fun p hp => by
  rcases List.mem_cons.mp hp with rfl | hp
  · exact h
  · exact r p hp
theorem ints_below {n : Nat} (ns : List Int) : ∀ v ∈ ns.map V.int, v.below n := fun v hv => by
  obtain ⟨i, _, rfl⟩ := List.mem_map.mp hv
  trivial
section
variable {C : Cx} {α β : Type} {rel : List Addr → β → α → Prop} {t : Sem α} {st : St} {Q Q' : β → St → Prop} {s : Shared} {ad : List Addr}
theorem At.mono (h : At C ad s rel t Q) (hq : ∀ b st', Q b st' → Q' b st') : At C ad s rel t Q' := .mk fun K hK => h.run K fun b st' s' ad' a q => hK b st' s' ad' a (hq _ _ q)
theorem Tr.mono (h : Tr C rel t st Q) (hq : ∀ b st', Q b st' → Q' b st') : Tr C rel t st Q' := .mk fun s ad hs => (h.go s ad hs).mono hq
theorem Tr.weak {l : List (Str × V)} (h : Tr C rel t ⟨l, st.os⟩ Q) (e : Sub l st.m) : Tr C rel t st Q := .mk fun s ad hs => h.go s ad (hs.weak e)
/-- a step that moves only the tokens -/
theorem At.tick {a : α} {b : β} (hs : SR C ad st s.heap) (hq : Q b st) (hr : rel ad b a) (h : ∀ K : α → Shared → Prop, (∀ tk, K a { s with toks := tk }) → wpAny C.M C.A t K No s) : At C ad s rel t Q :=
  .mk fun K hK => h K fun tk => hK b st _ ad a hq (Same.tk s tk) (List.prefix_refl _) hs hr
theorem At.stay {a : α} {b : β} (hs : SR C ad st s.heap) (hq : Q b st) (hr : rel ad b a) (h : ∀ K : α → Shared → Prop, K a s → wpAny C.M C.A t K No s) : At C ad s rel t Q :=
  .mk fun K hK => h K (hK b st s ad a hq (Same.rfl' s) (List.prefix_refl _) hs hr)
end
end Mine
namespace Mine
structure Gd (C : Cx) (sc : Scope) (lv : Nat) : Prop where
  scope : C.env.scope = sc
  kind : sc.kind = .function
  glob : C.env.globals = mainGlobals
  blt : C.env.builtins = builtinsNs
  top : Top C.p C.loose C.mean C.mg C.mb C.base
  st : C.base.StaysIn C.h₀ ∧ ∀ b ∈ C.of, C.base.get? b = none ∧ ∃ o, C.h₀.get? b = some o ∧ (∀ vs, o.data ≠ .fields vs) ∧ ∀ vs n, o.data ≠ .seq vs n
  depth : C.A.depth + lv < 500
  units : C.A.units + 3 * lv < 5000
  bel : 0 < lv → ∃ A₀ outer, Below A₀ C.base outer C.h₀ ∧ (∀ b ∈ outer.filterMap (·.frame), b ∈ C.of) ∧ ((C.A.frames = some (C.env :: outer) ∧ C.env.frame = some C.env.locals) ∨ A₀ = C.A)
theorem Gd.stays {C : Cx} {sc : Scope} {lv : Nat} (G : Gd C sc lv) {g : Heap} (k : Sim C.h₀ C.of g) : C.base.StaysIn g := fun b o e => k.same b o (G.st.1 b o e) fun q => by rw [(G.st.2 b q).1] at e; cases e
theorem Gd.keep {C : Cx} {sc : Scope} {lv : Nat} (G : Gd C sc lv) {g h : Heap} {m : Str → Option Value} (k : Sim C.h₀ C.of g) (F : Fr g C.env.locals h m) : C.base.StaysIn h := fun b o e => F.keep b o (G.stays k b o e)
theorem Gd.kept {C : Cx} {sc : Scope} {lv : Nat} (G : Gd C sc lv) (kp : List (Addr × Obj)) : Gd (C.kept kp) sc lv := ⟨G.scope, G.kind, G.glob, G.blt, G.top, G.st, G.depth, G.units, G.bel⟩

/-- a name of the built-in ones, not bound by the text -/
def Blt (C : Cx) (x : Str) (v : Value) : Prop := C.mg x = none ∧ bootBuiltins x = some v ∧ x ≠ "__name__"
structure EV (C : Cx) (e : Expr) (st : St) (Q : V → St → Prop) : Prop where
  go : ∀ s ad, SR C ad st s.heap → At C ad s VR (eval e C.env) Q
structure BV (C : Cx) (e : Expr) (st : St) (Q : Bool → St → Prop) : Prop where
  go : ∀ s ad, SR C ad st s.heap → At C ad s BR (isTrue e C.env (eval e C.env)) Q
structure SV (C : Cx) (ss : List Stmt) (st : St) (Q : F → St → Prop) : Prop where
  go : ∀ s ad, SR C ad st s.heap → At C ad s FR (execs ss C.env) Q
structure XV (C : Cx) (x : Stmt) (st : St) (Q : F → St → Prop) : Prop where
  go : ∀ s ad, SR C ad st s.heap → At C ad s FR (exec x C.env) Q
structure AT (C : Cx) (op : BoolOp) (es : List Expr) (st : St) (Q : Bool → St → Prop) : Prop where
  go : ∀ s ad, SR C ad st s.heap → At C ad s BR (allTrue op es C.env) Q
structure BO (C : Cx) (op : Operator) (a b : V) (st : St) (Q : V → St → Prop) : Prop where
  go : ∀ s ad va vb, SR C ad st s.heap → VR ad a va → VR ad b vb → At C ad s VR (binaryOp op va vb) Q
structure IO (C : Cx) (op : Operator) (a b : V) (st : St) (Q : V → St → Prop) : Prop where
  go : ∀ s ad va vb, SR C ad st s.heap → VR ad a va → VR ad b vb → At C ad s VR (inplaceOp op va vb) Q
structure CO (C : Cx) (op : CmpOp) (a b : V) (st : St) (Q : V → St → Prop) : Prop where
  go : ∀ s ad va vb, SR C ad st s.heap → VR ad a va → VR ad b vb → At C ad s VR (compareOp op va vb) Q
structure UO (C : Cx) (op : UnaryOp) (a : V) (st : St) (Q : V → St → Prop) : Prop where
  go : ∀ s ad va, SR C ad st s.heap → VR ad a va → At C ad s VR (unaryOp op va) Q
structure TT (C : Cx) (a : V) (st : St) (Q : Bool → St → Prop) : Prop where
  go : ∀ s ad va, SR C ad st s.heap → VR ad a va → At C ad s BR (truthy va) Q
structure CL (C : Cx) (f : Value) (vs : List V) (st : St) (Q : V → St → Prop) : Prop where
  go : ∀ s ad ws, SR C ad st s.heap → VRs ad vs ws → At C ad s VR (call f ws) Q
structure AV (C : Cx) (pos : Pos) (es : List Expr) (st : St) (Q : List V → St → Prop) : Prop where
  go : ∀ s ad, SR C ad st s.heap → At C ad s VRs (spliced (backTo pos (starEach es C.env))) Q
def Nx (C : Cx) (rest : List Stmt) (Q : F → St → Prop) : F → St → Prop
  | .next, st => SV C rest st Q
  | f, st => Q f st
abbrev St.set (st : St) (x : Str) (v : V) : St := ⟨(x, v) :: st.m, st.os⟩

section
variable {C : Cx} {st : St} {l : List (Str × V)}
theorem EV.mono {e : Expr} {Q Q' : V → St → Prop} (h : EV C e st Q) (hq : ∀ b st', Q b st' → Q' b st') : EV C e st Q' := .mk fun s ad hs => (h.go s ad hs).mono hq
theorem AV.mono {pos : Pos} {es : List Expr} {Q Q' : List V → St → Prop} (h : AV C pos es st Q) (hq : ∀ b st', Q b st' → Q' b st') : AV C pos es st Q' := .mk fun s ad hs => (h.go s ad hs).mono hq
theorem SV.mono {ss : List Stmt} {Q Q' : F → St → Prop} (h : SV C ss st Q) (hq : ∀ b st', Q b st' → Q' b st') : SV C ss st Q' := .mk fun s ad hs => (h.go s ad hs).mono hq
theorem XV.mono {x : Stmt} {Q Q' : F → St → Prop} (h : XV C x st Q) (hq : ∀ b st', Q b st' → Q' b st') : XV C x st Q' := .mk fun s ad hs => (h.go s ad hs).mono hq
theorem EV.weak {e : Expr} {Q : V → St → Prop} (h : EV C e ⟨l, st.os⟩ Q) (x : Sub l st.m) : EV C e st Q := .mk fun s ad hs => h.go s ad (hs.weak x)
theorem SV.weak {ss : List Stmt} {Q : F → St → Prop} (h : SV C ss ⟨l, st.os⟩ Q) (x : Sub l st.m) : SV C ss st Q := .mk fun s ad hs => h.go s ad (hs.weak x)
theorem XV.weak {x : Stmt} {Q : F → St → Prop} (h : XV C x ⟨l, st.os⟩ Q) (e : Sub l st.m) : XV C x st Q := .mk fun s ad hs => h.go s ad (hs.weak e)
end
section
variable {C : Cx} {sc : Scope} {lv : Nat} {st : St} {Q : V → St → Prop} {pos : Pos}
theorem ev_int {n : Int} {k : Nat} (h : Q (.int n) st) : EV C (.Constant (.int n) k pos) st Q := .mk fun s ad hs =>
  At.tick (a := .int n s.toks) hs h ⟨_, rfl⟩ fun _ hK => wpAny_Constant_int (hK _)
theorem ev_str {x : Str} {k : Nat} (h : Q (.str x) st) : EV C (.Constant (.str x) k pos) st Q := .mk fun s ad hs =>
  At.tick (a := .str x s.toks) hs h ⟨_, rfl⟩ fun _ hK => Constant_str (hK _)
theorem ev_bytes {x : List UInt8} {k : Nat} (h : Q (.bytes x.toArray) st) : EV C (.Constant (.bytes x) k pos) st Q := .mk fun s ad hs =>
  At.tick (a := .bytes x.toArray s.toks) hs h ⟨_, rfl⟩ fun _ hK => (fun _ _ _ => hK _)
theorem ev_bool {b : Bool} {k : Nat} (h : Q (.bool b) st) : EV C (.Constant (.bool b) k pos) st Q := .mk fun s ad hs =>
  At.stay (a := .bool b) hs h rfl fun _ hK => (fun _ _ _ => hK)
theorem ev_none {k : Nat} (h : Q .none st) : EV C (.Constant .none k pos) st Q := .mk fun s ad hs =>
  At.stay (a := .none) hs h rfl fun _ hK => (fun _ _ _ => hK)
theorem load_local {x : Str} {v : V} (G : Gd C sc lv) (hv : st.m.lookup x = some v) (hl : sc.names.lookup x = some .local) (h : Q v st) : Tr C VR (loadName C.env x) st Q := .mk fun s ad hs => by
  obtain ⟨gg, hgg, m, news, F, N, c, d, o, r⟩ := hs.ex
  obtain ⟨w, hw, hr⟩ := r x v hv
  refine At.stay (a := w) hs h hr fun K hK => ?_
  exact wpAny_loadName_local (by rw [G.scope]; exact G.kind) (by rw [Env.kindOf, G.scope]; exact hl) F.ns hw hK
theorem ev_local {x : Str} {v : V} (G : Gd C sc lv) (h : Q v st) (hv : st.m.lookup x = some v := by rfl) (hl : sc.names.lookup x = some .local := by rfl) (hd : (x == ("__debug__" : Str)) = false := by rfl) : EV C (.Name x pos) st Q := .mk fun s ad hs => At.mk fun K hK =>
  wpAny_Name (((load_local G hv hl h).go s ad hs).run K hK) hd
theorem ev_cell {x : Str} {k : Nat} {v : V} (G : Gd C sc lv) (h : Q v st) (hk : C.cl.lookup x = some k := by rfl) (hv : st.os[k]? = some (.cell (some v)) := by rfl) (hl : sc.names.lookup x = some .cell := by rfl) (hd : (x == ("__debug__" : Str)) = false := by rfl) : EV C (.Name x pos) st Q := .mk fun s ad hs => At.mk fun K hK => by
  obtain ⟨gg, hgg, m, news, F, N, c, d, o, r⟩ := hs.ex
  obtain ⟨a, ha, hc⟩ := hs.cells x k hk
  obtain ⟨p, hp, w, hw, hr⟩ := o.get hv
  have hpa : p.1 = a := by
    have : (news.map (·.1))[k]? = some p.1 := by rw [List.getElem?_map, hp]; rfl
    rw [c, hc] at this
    exact (Option.some.inj this).symm
  have hg := (N p (List.mem_append_left _ (List.mem_of_getElem? hp))).1
  rw [hpa] at hg
  exact wpAny_Name (wpAny_loadName_cell (by rw [G.scope]; exact G.kind) (by rw [Env.kindOf, G.scope]; exact hl) ha ⟨_, hg, hw⟩ (hK v st s ad w h (Same.rfl' s) (List.prefix_refl _) hs hr)) hd
theorem ev_free {x : Str} {k : Nat} {v : V} (G : Gd C sc lv) (h : Q v st) (hk : C.cl.lookup x = some k := by rfl) (hv : st.os[k]? = some (.cell (some v)) := by rfl) (hl : sc.names.lookup x = some .free := by rfl) (hd : (x == ("__debug__" : Str)) = false := by rfl) (hn : (x == ("__classdict__" : Str)) = false := by rfl) : EV C (.Name x pos) st Q := .mk fun s ad hs => At.mk fun K hK => by
  obtain ⟨gg, hgg, m, news, F, N, c, d, o, r⟩ := hs.ex
  obtain ⟨a, ha, hc⟩ := hs.cells x k hk
  obtain ⟨p, hp, w, hw, hr⟩ := o.get hv
  have hpa : p.1 = a := by
    have : (news.map (·.1))[k]? = some p.1 := by rw [List.getElem?_map, hp]; rfl
    rw [c, hc] at this
    exact (Option.some.inj this).symm
  have hg := (N p (List.mem_append_left _ (List.mem_of_getElem? hp))).1
  rw [hpa] at hg
  exact wpAny_Name (wpAny_loadName_free (by rw [G.scope]; exact G.kind) (by rw [Env.kindOf, G.scope]; exact hl) ha ⟨_, hg, hw⟩ (hK v st s ad w h (Same.rfl' s) (List.prefix_refl _) hs hr) hn) hd
theorem ev_global {x : Str} {v : Value} (G : Gd C sc lv) (hv : C.mg x = some v) (h : Q (.fix v) st) (hl : sc.names.lookup x = some .globalImplicit := by rfl) (hd : (x == ("__debug__" : Str)) = false := by rfl) : EV C (.Name x pos) st Q := .mk fun s ad hs => by
  obtain ⟨gg, hgg, m, news, F, N, c, d, o, r⟩ := hs.ex
  refine At.stay (a := v) hs h rfl fun K hK => ?_
  exact Name_function_global (by rw [G.scope]; exact G.kind) (by rw [Env.kindOf, G.scope]; exact hl) (loadGlobal_global (by rw [G.glob]; exact G.top.g.keeps (G.keep hgg F)) hv hK) hd
theorem ev_builtin {x : Str} {v : Value} (G : Gd C sc lv) (hb : Blt C x v) (h : Q (.fix v) st) (hl : sc.names.lookup x = some .globalImplicit := by rfl) (hd : (x == ("__debug__" : Str)) = false := by rfl) : EV C (.Name x pos) st Q := .mk fun s ad hs => by
  obtain ⟨hm, hv, hn⟩ := hb
  obtain ⟨gg, hgg, m, news, F, N, c, d, o, r⟩ := hs.ex
  refine At.stay (a := v) hs h rfl fun K hK => ?_
  exact Name_function_global (by rw [G.scope]; exact G.kind) (by rw [Env.kindOf, G.scope]; exact hl) (loadGlobal_builtin (by rw [G.glob]; exact G.top.g.keeps (G.keep hgg F)) hm (by rw [G.blt]; exact G.top.b.keeps (G.keep hgg F)) ((G.top.builtins x hn).trans hv) hK) hd
theorem ev_binop {l r : Expr} {op : Operator} (h : EV C l st (fun a st1 => EV C r st1 (fun b st2 => BO C op a b st2 Q))) : EV C (.BinOp l op r pos) st Q := .mk fun s ad hs => At.mk fun K hK =>
  wpAny_BinOp ((h.go s ad hs).run _ fun _ st1 s1 ad1 va q1 e1 p1 hs1 r1 => (q1.go s1 ad1 hs1).run _ fun _ st2 s2 ad2 vb q2 e2 p2 hs2 r2 => (q2.go s2 ad2 va vb hs2 (r1.mono p2) r2).run K fun v st3 s3 ad3 w q3 e3 p3 hs3 r3 =>
    hK v st3 s3 ad3 w q3 (e1.trans (e2.trans e3)) (p1.trans (p2.trans p3)) hs3 r3)
theorem ev_unop {x : Expr} {op : UnaryOp} (h : EV C x st (fun a st1 => UO C op a st1 Q)) : EV C (.UnaryOp op x pos) st Q := .mk fun s ad hs => At.mk fun K hK =>
  wpAny_UnaryOp ((h.go s ad hs).run _ fun _ st1 s1 ad1 va q1 e1 p1 hs1 r1 => (q1.go s1 ad1 va hs1 r1).run K fun v st3 s3 ad3 w q3 e3 p3 hs3 r3 => hK v st3 s3 ad3 w q3 (e1.trans e3) (p1.trans p3) hs3 r3)
theorem ev_cmp {l r : Expr} {op : CmpOp} (h : EV C l st (fun a st1 => EV C r st1 (fun b st2 => CO C op a b st2 Q))) (hm : behindInMarks op r = false := by rfl) : EV C (.Compare l [op] [r] pos) st Q := .mk fun s ad hs => At.mk fun K hK =>
  wpAny_Compare1 ((h.go s ad hs).run _ fun _ st1 s1 ad1 va q1 e1 p1 hs1 r1 => (q1.go s1 ad1 hs1).run _ fun _ st2 s2 ad2 vb q2 e2 p2 hs2 r2 => (q2.go s2 ad2 va vb hs2 (r1.mono p2) r2).run K fun v st3 s3 ad3 w q3 e3 p3 hs3 r3 =>
    hK v st3 s3 ad3 w q3 (e1.trans (e2.trans e3)) (p1.trans (p2.trans p3)) hs3 r3) hm
theorem ev_ifexp {t b o : Expr} (h : BV C t st (fun c st1 => (c = true → EV C b st1 Q) ∧ (c = false → EV C o st1 Q))) : EV C (.IfExp t b o pos) st Q := .mk fun s ad hs => At.mk fun K hK =>
  wpAny_IfExp ((h.go s ad hs).run _ fun c st1 s1 ad1 c' q1 e1 p1 hs1 r1 => by
    cases r1
    cases c with
    | true => exact ((q1.1 rfl).go s1 ad1 hs1).run K fun v st3 s3 ad3 w q3 e3 p3 hs3 r3 => hK v st3 s3 ad3 w q3 (e1.trans e3) (p1.trans p3) hs3 r3
    | false => exact ((q1.2 rfl).go s1 ad1 hs1).run K fun v st3 s3 ad3 w q3 e3 p3 hs3 r3 => hK v st3 s3 ad3 w q3 (e1.trans e3) (p1.trans p3) hs3 r3)
theorem ev_and {e₁ e₂ : Expr} {rest : List Expr} (h : EV C e₁ st (fun v st1 => TT C v st1 (fun c st2 => (c = true → EV C (.BoolOp .And (e₂ :: rest) pos) st2 Q) ∧ (c = false → Q v st2)))) : EV C (.BoolOp .And (e₁ :: e₂ :: rest) pos) st Q := .mk fun s ad hs => At.mk fun K hK =>
  BoolOp_and ((h.go s ad hs).run _ fun v st1 s1 ad1 va q1 e1 p1 hs1 r1 => (q1.go s1 ad1 va hs1 r1).run _ fun c st2 s2 ad2 c' q2 e2 p2 hs2 r2 => by
    cases r2
    cases c with
    | true => exact ((q2.1 rfl).go s2 ad2 hs2).run K fun v st3 s3 ad3 w q3 e3 p3 hs3 r3 => hK v st3 s3 ad3 w q3 (e1.trans (e2.trans e3)) (p1.trans (p2.trans p3)) hs3 r3
    | false => exact hK v st2 s2 ad2 va (q2.2 rfl) (e1.trans e2) (p1.trans p2) hs2 (r1.mono p2))
theorem ev_one {e : Expr} {op : BoolOp} (h : EV C e st Q) : EV C (.BoolOp op [e] pos) st Q := .mk fun s ad hs => At.mk fun K hK => BoolOp_one ((h.go s ad hs).run K hK)
end

section
variable {C : Cx} {sc : Scope} {lv : Nat} {st : St} {Q : Bool → St → Prop} {pos : Pos}
theorem bv_cmp {l r : Expr} {op : CmpOp} (h : EV C l st (fun a st1 => EV C r st1 (fun b st2 => CO C op a b st2 (fun c st3 => TT C c st3 Q)))) (hm : behindInMarks op r = false := by rfl) : BV C (.Compare l [op] [r] pos) st Q := .mk fun s ad hs => At.mk fun K hK =>
  wpAny_isTrue_Compare1 ((h.go s ad hs).run _ fun _ st1 s1 ad1 va q1 e1 p1 hs1 r1 => (q1.go s1 ad1 hs1).run _ fun _ st2 s2 ad2 vb q2 e2 p2 hs2 r2 => (q2.go s2 ad2 va vb hs2 (r1.mono p2) r2).run _ fun v st3 s3 ad3 w q3 e3 p3 hs3 r3 =>
    (q3.go s3 ad3 w hs3 r3).run K fun b st4 s4 ad4 b' q4 e4 p4 hs4 r4 => hK b st4 s4 ad4 b' q4 (e1.trans (e2.trans (e3.trans e4))) (p1.trans (p2.trans (p3.trans p4))) hs4 r4) hm
theorem bv_not {x : Expr} (h : BV C x st (fun b st1 => Q (!b) st1)) : BV C (.UnaryOp .Not x pos) st Q := .mk fun s ad hs => At.mk fun K hK =>
  wpAny_isTrue_Not ((h.go s ad hs).run _ fun b st1 s1 ad1 b' q1 e1 p1 hs1 r1 => hK (!b) st1 s1 ad1 _ q1 e1 p1 hs1 (by cases r1; rfl))
theorem bv_or {op : BoolOp} {es : List Expr} (h : AT C op es st Q) : BV C (.BoolOp op es pos) st Q := .mk fun s ad hs => At.mk fun K hK => wpAny_isTrue_BoolOp ((h.go s ad hs).run K hK)
theorem or_nil (h : Q false st) : AT C .Or [] st Q := .mk fun s ad hs => At.stay (a := false) hs h rfl fun _ hK => wpAny_allTrue_Or_nil hK
theorem and_nil (h : Q true st) : AT C .And [] st Q := .mk fun s ad hs => At.stay (a := true) hs h rfl fun _ hK => wpAny_allTrue_And_nil hK
theorem or_cons {x : Expr} {rest : List Expr} (h : BV C x st (fun b st1 => (b = true → Q true st1) ∧ (b = false → AT C .Or rest st1 Q))) : AT C .Or (x :: rest) st Q := .mk fun s ad hs => At.mk fun K hK =>
  wpAny_allTrue_Or_cons ((h.go s ad hs).run _ fun b st1 s1 ad1 b' q1 e1 p1 hs1 r1 => by
    cases r1
    cases b with
    | true => exact hK true st1 s1 ad1 _ (q1.1 rfl) e1 p1 hs1 rfl
    | false => exact ((q1.2 rfl).go s1 ad1 hs1).run K fun b st4 s4 ad4 b' q4 e4 p4 hs4 r4 => hK b st4 s4 ad4 b' q4 (e1.trans e4) (p1.trans p4) hs4 r4)
theorem and_cons {x : Expr} {rest : List Expr} (h : BV C x st (fun b st1 => (b = true → AT C .And rest st1 Q) ∧ (b = false → Q false st1))) : AT C .And (x :: rest) st Q := .mk fun s ad hs => At.mk fun K hK =>
  wpAny_allTrue_And_cons ((h.go s ad hs).run _ fun b st1 s1 ad1 b' q1 e1 p1 hs1 r1 => by
    cases r1
    cases b with
    | false => exact hK false st1 s1 ad1 _ (q1.2 rfl) e1 p1 hs1 rfl
    | true => exact ((q1.1 rfl).go s1 ad1 hs1).run K fun b st4 s4 ad4 b' q4 e4 p4 hs4 r4 => hK b st4 s4 ad4 b' q4 (e1.trans e4) (p1.trans p4) hs4 r4)
theorem bv_val {e : Expr} (h : EV C e st (fun v st1 => TT C v st1 Q)) (he : isTrue e C.env (eval e C.env) = (do let v ← eval e C.env; standAt e.pos; holding [v] (truthy v)) := by rfl) : BV C e st Q := .mk fun s ad hs => At.mk fun K hK =>
  isTrue_plain ((h.go s ad hs).run _ fun v st1 s1 ad1 va q1 e1 p1 hs1 r1 => (q1.go s1 ad1 va hs1 r1).run K fun b st4 s4 ad4 b' q4 e4 p4 hs4 r4 => hK b st4 s4 ad4 b' q4 (e1.trans e4) (p1.trans p4) hs4 r4) he
theorem tt_bool {b : Bool} (h : Q b st) : TT C (.bool b) st Q := .mk fun s ad va hs r => by
  cases r
  exact At.stay (a := b) hs h rfl fun _ hK => wpAny_truthy_bool hK
end

section
variable {C : Cx} {sc : Scope} {lv : Nat} {st : St} {Q : V → St → Prop} {x y : Int}
theorem bo_add (h : Q (.int (x + y)) st) : BO C .Add (.int x) (.int y) st Q := .mk fun s ad va vb hs ⟨t, e⟩ ⟨u, f⟩ => by
  subst e f; exact At.tick (a := .int _ s.toks) hs h ⟨_, rfl⟩ fun _ hK => P.add_int (hK _)
theorem bo_sub (h : Q (.int (x - y)) st) : BO C .Sub (.int x) (.int y) st Q := .mk fun s ad va vb hs ⟨t, e⟩ ⟨u, f⟩ => by
  subst e f; exact At.tick (a := .int _ s.toks) hs h ⟨_, rfl⟩ fun _ hK => P.sub_int (hK _)
theorem bo_mul (hm : IntMulOk x y) (h : Q (.int (x * y)) st) : BO C .Mult (.int x) (.int y) st Q := .mk fun s ad va vb hs ⟨t, e⟩ ⟨u, f⟩ => by
  subst e f; exact At.tick (a := .int _ s.toks) hs h ⟨_, rfl⟩ fun _ hK => P.mul_int (hK _) hm
theorem bo_mod (hy : 0 < y) (h : Q (.int (x % y)) st) : BO C .Mod (.int x) (.int y) st Q := .mk fun s ad va vb hs ⟨t, e⟩ ⟨u, f⟩ => by
  subst e f
  refine At.tick (a := .int _ s.toks) hs h ⟨_, rfl⟩ fun K hK => mod_int' (by omega) ?_
  rw [Int.fmod_eq_emod_of_nonneg x (Int.le_of_lt hy)]
  exact hK _
theorem bo_div (hy : 0 < y) (hp : y.natAbs.log2 < 9000) (h : Q (.int (x / y)) st) : BO C .FloorDiv (.int x) (.int y) st Q := .mk fun s ad va vb hs ⟨t, e⟩ ⟨u, f⟩ => by
  subst e f
  refine At.tick (a := .int _ s.toks) hs h ⟨_, rfl⟩ fun K hK => floordiv_int (by omega) ?_ (.inl (PyProof.noPylong_of_log2 hp))
  rw [Int.fdiv_eq_ediv_of_nonneg x (Int.le_of_lt hy)]
  exact hK _
theorem bo_pow (hn : 0 ≤ y) (hsz : (Builtin.Int.intBits x : Int) * y ≤ 2 ^ 27) (h : Q (.int (x ^ y.toNat)) st) : BO C .Pow (.int x) (.int y) st Q := .mk fun s ad va vb hs ⟨t, e⟩ ⟨u, f⟩ => by
  subst e f; exact At.tick (a := .int _ s.toks) hs h ⟨_, rfl⟩ fun _ hK => pow_int hn hsz (hK _)
theorem bo_and (h : Q (.int (Builtin.bitAnd x y)) st) : BO C .BitAnd (.int x) (.int y) st Q := .mk fun s ad va vb hs ⟨t, e⟩ ⟨u, f⟩ => by
  subst e f; exact At.tick (a := .int _ s.toks) hs h ⟨_, rfl⟩ fun _ hK => and_int (hK _)
theorem bo_or (h : Q (.int (Builtin.bitOr x y)) st) : BO C .BitOr (.int x) (.int y) st Q := .mk fun s ad va vb hs ⟨t, e⟩ ⟨u, f⟩ => by
  subst e f; exact At.tick (a := .int _ s.toks) hs h ⟨_, rfl⟩ fun _ hK => or_int (hK _)
theorem bo_xor (h : Q (.int (Builtin.bitXor x y)) st) : BO C .BitXor (.int x) (.int y) st Q := .mk fun s ad va vb hs ⟨t, e⟩ ⟨u, f⟩ => by
  subst e f; exact At.tick (a := .int _ s.toks) hs h ⟨_, rfl⟩ fun _ hK => xor_int (hK _)
theorem uo_inv (h : Q (.int (Builtin.bitNot x)) st) : UO C .Invert (.int x) st Q := .mk fun s ad va hs ⟨t, e⟩ => by
  subst e; exact At.tick (a := .int _ s.toks) hs h ⟨_, rfl⟩ fun _ hK => invert_int (hK _)
theorem uo_neg (h : Q (.int (-x)) st) : UO C .USub (.int x) st Q := .mk fun s ad va hs ⟨t, e⟩ => by
  subst e; exact At.tick (a := .int _ s.toks) hs h ⟨_, rfl⟩ fun _ hK => P.neg_int (hK _)
theorem io_add (h : Q (.int (x + y)) st) : IO C .Add (.int x) (.int y) st Q := .mk fun s ad va vb hs ⟨t, e⟩ ⟨u, f⟩ => by
  subst e f; exact At.tick (a := .int _ s.toks) hs h ⟨_, rfl⟩ fun _ hK => P.iadd_int (hK _)
theorem io_sub (h : Q (.int (x - y)) st) : IO C .Sub (.int x) (.int y) st Q := .mk fun s ad va vb hs ⟨t, e⟩ ⟨u, f⟩ => by
  subst e f; exact At.tick (a := .int _ s.toks) hs h ⟨_, rfl⟩ fun _ hK => P.isub_int (hK _)
theorem io_mul (hm : IntMulOk x y) (h : Q (.int (x * y)) st) : IO C .Mult (.int x) (.int y) st Q := .mk fun s ad va vb hs ⟨t, e⟩ ⟨u, f⟩ => by
  subst e f; exact At.tick (a := .int _ s.toks) hs h ⟨_, rfl⟩ fun _ hK => P.imul_int (hK _) hm
theorem io_div (hy : 0 < y) (hp : y.natAbs.log2 < 9000) (h : Q (.int (x / y)) st) : IO C .FloorDiv (.int x) (.int y) st Q := .mk fun s ad va vb hs ⟨t, e⟩ ⟨u, f⟩ => by
  subst e f
  refine At.tick (a := .int _ s.toks) hs h ⟨_, rfl⟩ fun K hK => ifloordiv_int (by omega) ?_ (.inl (PyProof.noPylong_of_log2 hp))
  rw [Int.fdiv_eq_ediv_of_nonneg x (Int.le_of_lt hy)]
  exact hK _
theorem co_lt (h : Q (.bool (decide (x < y))) st) : CO C .Lt (.int x) (.int y) st Q := .mk fun s ad va vb hs ⟨t, e⟩ ⟨u, f⟩ => by
  subst e f; exact At.stay (a := .bool _) hs h rfl fun _ hK => P.lt_int hK
theorem co_le (h : Q (.bool (decide (x ≤ y))) st) : CO C .LtE (.int x) (.int y) st Q := .mk fun s ad va vb hs ⟨t, e⟩ ⟨u, f⟩ => by
  subst e f; exact At.stay (a := .bool _) hs h rfl fun _ hK => P.le_int hK
theorem co_gt (h : Q (.bool (decide (x > y))) st) : CO C .Gt (.int x) (.int y) st Q := .mk fun s ad va vb hs ⟨t, e⟩ ⟨u, f⟩ => by
  subst e f; exact At.stay (a := .bool _) hs h rfl fun _ hK => P.gt_int hK
theorem co_ge (h : Q (.bool (decide (x ≥ y))) st) : CO C .GtE (.int x) (.int y) st Q := .mk fun s ad va vb hs ⟨t, e⟩ ⟨u, f⟩ => by
  subst e f; exact At.stay (a := .bool _) hs h rfl fun _ hK => P.ge_int hK
theorem co_eq (h : Q (.bool (x == y)) st) : CO C .Eq (.int x) (.int y) st Q := .mk fun s ad va vb hs ⟨t, e⟩ ⟨u, f⟩ => by
  subst e f; exact At.stay (a := .bool _) hs h rfl fun _ hK => P.eq_int hK
theorem co_ne (h : Q (.bool (x != y)) st) : CO C .NotEq (.int x) (.int y) st Q := .mk fun s ad va vb hs ⟨t, e⟩ ⟨u, f⟩ => by
  subst e f; exact At.stay (a := .bool _) hs h rfl fun _ hK => P.ne_int hK
end

/-! statements -/
section
variable {C : Cx} {sc : Scope} {lv : Nat} {st : St} {Q : F → St → Prop} {pos : Pos}
theorem sv_nil (h : Q .next st) : SV C [] st Q := .mk fun s ad hs => At.stay (a := .next) hs h rfl fun _ hK => wpAny_execs_nil hK
theorem sv_cons {x : Stmt} {rest : List Stmt} (h : XV C x st (Nx C rest Q)) : SV C (x :: rest) st Q := .mk fun s ad hs => At.mk fun K hK =>
  wpAny_execs_cons ((h.go s ad hs).run _ fun f st1 s1 ad1 f' q1 e1 p1 hs1 r1 => by
    cases f with
    | next =>
      cases r1
      exact (q1.go s1 ad1 hs1).run K fun f st4 s4 ad4 f' q4 e4 p4 hs4 r4 => hK f st4 s4 ad4 f' q4 (e1.trans e4) (p1.trans p4) hs4 r4
    | brk => cases r1; exact hK .brk st1 s1 ad1 .brk q1 e1 p1 hs1 rfl
    | cont => cases r1; exact hK .cont st1 s1 ad1 .cont q1 e1 p1 hs1 rfl
    | ret v =>
      obtain ⟨w, rfl, hw⟩ := r1
      exact hK (.ret v) st1 s1 ad1 (.ret w) q1 e1 p1 hs1 ⟨w, rfl, hw⟩)
theorem xv_if {t : Expr} {body orelse : List Stmt} (h : BV C t st (fun b st1 => (b = true → SV C body st1 Q) ∧ (b = false → SV C orelse st1 Q))) : XV C (.If t body orelse pos) st Q := .mk fun s ad hs => At.mk fun K hK =>
  wpAny_If ((h.go s ad hs).run _ fun b st1 s1 ad1 b' q1 e1 p1 hs1 r1 => by
    cases r1
    cases b with
    | true => exact ((q1.1 rfl).go s1 ad1 hs1).run K fun f st4 s4 ad4 f' q4 e4 p4 hs4 r4 => hK f st4 s4 ad4 f' q4 (e1.trans e4) (p1.trans p4) hs4 r4
    | false => exact ((q1.2 rfl).go s1 ad1 hs1).run K fun f st4 s4 ad4 f' q4 e4 p4 hs4 r4 => hK f st4 s4 ad4 f' q4 (e1.trans e4) (p1.trans p4) hs4 r4)
theorem xv_ret {e : Expr} (h : EV C e st (fun v st1 => Q (.ret v) st1)) : XV C (.Return (some e) pos) st Q := .mk fun s ad hs => At.mk fun K hK =>
  wpAny_Return_some ((h.go s ad hs).run _ fun v st1 s1 ad1 w q1 e1 p1 hs1 r1 => hK (.ret v) st1 s1 ad1 _ q1 e1 p1 hs1 ⟨w, rfl, r1⟩)
/-- a name of the frame stored -/
theorem SR.store {ad : List Addr} {s : Shared} {x : Str} {v : V} {w : Value} (hs : SR C ad st s.heap) (hv : VR ad v w) (G : Gd C sc lv) (hl : sc.names.lookup x = some .local) {E : Value → Shared → Prop} {K : Unit → Shared → Prop}
    (h : ∀ s', Same s s' → SR C ad (st.set x v) s'.heap → K () s') : wpAny C.M C.A (storeName C.env x w) K E s := by
  obtain ⟨⟨gg, hgg, m, news, F, N, c, d, o, r⟩, hc⟩ := hs
  refine wpAny_storeName_local (by rw [Env.kindOf, G.scope]; exact hl) F.ns (fun h' hn hsb => h _ (Same.mk' s h' _) ?_) (by rw [G.scope, G.kind]; rfl)
  exact ⟨⟨gg, hgg, _, news, F.set hn hsb, N.set hsb, c, d, o, r.store hv⟩, hc⟩
theorem xv_assign {x : Str} {px : Pos} {value : Expr} (G : Gd C sc lv) (h : EV C value st (fun v st1 => Q .next (st1.set x v))) (hl : sc.names.lookup x = some .local := by rfl)
    (hsw : swapsWith value (some (.Name x px)) pos.line C.env = pure false := by rfl) : XV C (.Assign [.Name x px] value pos) st Q := .mk fun s ad hs => At.mk fun K hK =>
  wpAny_Assign_Name ((h.go s ad hs).run _ fun v st1 s1 ad1 w q1 e1 p1 hs1 r1 => hs1.store r1 G hl fun s' e' hs' => hK .next _ s' ad1 .next q1 (e1.trans e') p1 hs' rfl) hsw
theorem xv_aug {x : Str} {px : Pos} {op : Operator} {value : Expr} {v : V} (G : Gd C sc lv) (h : EV C value st (fun b st1 => IO C op v b st1 (fun r st2 => Q .next (st2.set x r)))) (hv : st.m.lookup x = some v := by rfl) (hl : sc.names.lookup x = some .local := by rfl) :
    XV C (.AugAssign (.Name x px) op value pos) st Q := .mk fun s ad hs => At.mk fun K hK =>
  wpAny_AugAssign_Name (((load_local (Q := fun u st1 => u = v ∧ st1 = st) G hv hl ⟨rfl, rfl⟩).go s ad hs).run _ fun u st0 s0 ad0 w0 q0 e0 p0 hs0 r0 => by
    obtain ⟨rfl, rfl⟩ := q0
    exact (h.go s0 ad0 hs0).run _ fun b st1 s1 ad1 w1 q1 e1 p1 hs1 r1 => (q1.go s1 ad1 w0 w1 hs1 (r0.mono p1) r1).run _ fun r st2 s2 ad2 w2 q2 e2 p2 hs2 r2 => hs2.store r2 G hl fun s' e' hs' =>
      hK .next _ s' ad2 .next q2 (e0.trans (e1.trans (e2.trans e'))) (p0.trans (p1.trans p2)) hs' rfl)
/-- what a turn of a while loop leaves -/
def Turn (C : Cx) (n k : Nat) (I : Nat → St → Prop) (Q : F → St → Prop) : F → St → Prop
  | .brk, st => Q .next st
  | .ret v, st => Q (.ret v) st
  | _, st => ∃ i st', i < n ∧ Wk C st st' ∧ k ≤ st'.os.length ∧ I i st'
theorem xv_while {t : Expr} {body : List Stmt} (I : Nat → St → Prop) (n : Nat) (h0 : I n st)
    (turn : ∀ n st', I n st' → BV C t st' (fun b st1 => (b = true → SV C body st1 (Turn C n st.os.length I Q)) ∧ (b = false → Q .next st1))) : XV C (.While t body [] pos) st Q := .mk fun s ad hs => At.mk fun K hK => by
  refine wpAny_While (codeAny_whileLoop (fun n s' => ∃ st' ad', I n st' ∧ Same s s' ∧ ad <+: ad' ∧ SR C ad' st' s'.heap) ?_ n ⟨st, ad, h0, Same.rfl' s, List.prefix_refl _, hs⟩)
  rintro n s' ⟨st', ad', hI, e', p', hs'⟩
  refine wpAny_mono (Q := _) (((turn n st' hI).go s' ad' hs').run _ fun b st1 s1 ad1 b' q1 e1 p1 hs1 r1 => ?_) (fun _ _ x => x) fun _ _ x => x.elim
  cases r1
  cases b with
  | false => exact wpAny_execs_nil (hK .next st1 s1 ad1 .next (q1.2 rfl) (e'.trans e1) (p'.trans p1) hs1 rfl)
  | true =>
    refine wpAny_mono (Q := _) (((q1.1 rfl).go s1 ad1 hs1).run _ fun f st2 s2 ad2 f' q2 e2 p2 hs2 r2 => ?_) (fun _ _ x => x) fun _ _ x => x.elim
    have more : (∃ i st', i < n ∧ Wk C st2 st' ∧ st.os.length ≤ st'.os.length ∧ I i st') → ∃ m, m < n ∧ ∃ st' ad', I m st' ∧ Same s s2 ∧ ad <+: ad' ∧ SR C ad' st' s2.heap := by
      rintro ⟨i, st3, hi, wk, hl, hI3⟩
      obtain ⟨ad3, hs3, px⟩ := hs2.wk wk
      exact ⟨i, hi, st3, ad3, hI3, e'.trans (e1.trans e2), px _ (p'.trans (p1.trans p2)) (by rw [hs.len]; exact hl), hs3⟩
    cases f with
    | next => cases r2; exact more q2
    | cont => cases r2; exact more q2
    | brk => cases r2; exact hK .next st2 s2 ad2 .next q2 (e'.trans (e1.trans e2)) (p'.trans (p1.trans p2)) hs2 rfl
    | ret v =>
      obtain ⟨w, rfl, hw⟩ := r2
      exact hK (.ret v) st2 s2 ad2 _ q2 (e'.trans (e1.trans e2)) (p'.trans (p1.trans p2)) hs2 ⟨w, rfl, hw⟩
end

/-! calls -/
section
variable {C : Cx} {sc : Scope} {lv : Nat} {st : St} {pos : Pos}
theorem av_nil {Q : List V → St → Prop} (h : Q [] st) : AV C pos [] st Q := .mk fun s ad hs => At.stay (a := []) hs h .nil fun _ hK => spliced_nil hK
theorem av_cons {e : Expr} {rest : List Expr} {Q : List V → St → Prop} (h : EV C e st (fun v st1 => AV C pos rest st1 (fun vs st2 => Q (v :: vs) st2)))
    (hst : starEach (e :: rest) C.env = (false, eval e C.env) :: starEach rest C.env := by rfl) : AV C pos (e :: rest) st Q := .mk fun s ad hs => At.mk fun K hK => by
  show wpAny _ _ (spliced (backTo pos (starEach (e :: rest) C.env))) _ _ _
  rw [hst]
  exact spliced_cons ((h.go s ad hs).run _ fun v st1 s1 ad1 w q1 e1 p1 hs1 r1 => (q1.go s1 ad1 hs1).run _ fun vs st2 s2 ad2 ws q2 e2 p2 hs2 r2 => hK (v :: vs) st2 s2 ad2 _ q2 (e1.trans e2) (p1.trans p2) hs2 (.cons (r1.mono p2) r2))
theorem plain_backTo {es : List Expr} {env : Env} (h : (starEach es env).any (·.1) = false) : (backTo pos (starEach es env)).any (·.1) = false := by
  simp only [backTo, List.any_map]
  exact h
/-- a call of a built-in function or type by its name, one argument at least -/
theorem ev_callB {x : Str} {px : Pos} {id : String} {e : Expr} {rest : List Expr} {Q : V → St → Prop} (hf : EV C (.Name x px) st (fun f st1 => f = .fix (.builtin id) ∧ AV C pos (e :: rest) st1 (fun vs st2 => CL C (.builtin id) vs st2 Q)))
    (hst : starEach (e :: rest) C.env = (false, eval e C.env) :: starEach rest C.env := by rfl) (hp : (starEach (e :: rest) C.env).any (·.1) = false := by rfl) : EV C (.Call (.Name x px) (e :: rest) [] pos) st Q := .mk fun s ad hs => At.mk fun K hK => by
  refine wpAny_Call_Name_kw ((hf.go s ad hs).run _ fun f st1 s1 ad1 w q1 e1 p1 hs1 r1 => ?_)
  obtain ⟨rfl, q1⟩ := q1
  cases r1
  refine callWith_builtin (plain_backTo hp) ?_
  have := q1.go s1 ad1 hs1
  revert this
  show At C ad1 s1 VRs (spliced (backTo pos (starEach (e :: rest) C.env))) _ → _
  rw [hst]
  intro q1
  exact evalArgs_plain (q1.run _ fun vs st2 s2 ad2 ws q2 e2 p2 hs2 r2 => (q2.go s2 ad2 ws hs2 r2).run K fun v st3 s3 ad3 w q3 e3 p3 hs3 r3 => hK v st3 s3 ad3 w q3 (e1.trans (e2.trans e3)) (p1.trans (p2.trans p3)) hs3 r3)
theorem ev_callT {x : Str} {px : Pos} {T : String} {e : Expr} {rest : List Expr} {Q : V → St → Prop} (hf : EV C (.Name x px) st (fun f st1 => f = .fix (.type T) ∧ AV C pos (e :: rest) st1 (fun vs st2 => CL C (.type T) vs st2 Q)))
    (hst : starEach (e :: rest) C.env = (false, eval e C.env) :: starEach rest C.env := by rfl) (hp : (starEach (e :: rest) C.env).any (·.1) = false := by rfl) : EV C (.Call (.Name x px) (e :: rest) [] pos) st Q := .mk fun s ad hs => At.mk fun K hK => by
  refine wpAny_Call_Name_kw ((hf.go s ad hs).run _ fun f st1 s1 ad1 w q1 e1 p1 hs1 r1 => ?_)
  obtain ⟨rfl, q1⟩ := q1
  cases r1
  refine PyProof.Rows.callWith_type (plain_backTo hp) ?_
  have := q1.go s1 ad1 hs1
  revert this
  show At C ad1 s1 VRs (spliced (backTo pos (starEach (e :: rest) C.env))) _ → _
  rw [hst]
  intro q1
  exact evalArgs_plain (q1.run _ fun vs st2 s2 ad2 ws q2 e2 p2 hs2 r2 => (q2.go s2 ad2 ws hs2 r2).run K fun v st3 s3 ad3 w q3 e3 p3 hs3 r3 => hK v st3 s3 ad3 w q3 (e1.trans (e2.trans e3)) (p1.trans (p2.trans p3)) hs3 r3)
end
end Mine
namespace Mine
/-- a frame of its own -/
def Own (C : Cx) : Prop := (∃ outer, C.A.frames = some (C.env :: outer)) ∧ C.env.frame = some C.env.locals
/-- the context of a called def -/
structure Callee (C C' : Cx) (fsc : Scope) (lv : Nat) : Prop where
  gd : Gd C' fsc lv
  hand : C'.A.handled = C.A.handled
  p : C'.p = C.p
  mg : C'.mg = C.mg
  cl : C'.cl = []
  loose : C'.loose = C.loose
  own : Own C'

theorem Callee.blt {C C' : Cx} {fsc : Scope} {lv : Nat} (h : Callee C C' fsc lv) {x : Str} {v : Value} (b : Blt C x v) : Blt C' x v := ⟨by rw [h.mg]; exact b.1, b.2⟩
theorem VRs.zip {ad : List Addr} : ∀ {names : List Str} {vs : List V} {ws : List Value}, VRs ad vs ws → ∀ x v, (names.zip vs).reverse.lookup x = some v → ∃ w, (names.zip ws).reverse.lookup x = some w ∧ VR ad v w := by
  have key : ∀ {names : List Str} {vs : List V} {ws : List Value}, VRs ad vs ws → ∀ (l : List (Str × V)) (l' : List (Str × Value)), (∀ x v, l.lookup x = some v → ∃ w, l'.lookup x = some w ∧ VR ad v w) → (∀ x, l.lookup x = none → l'.lookup x = none) →
      ∀ x v, ((names.zip vs).reverse ++ l).lookup x = some v → ∃ w, ((names.zip ws).reverse ++ l').lookup x = some w ∧ VR ad v w := by
    intro names
    induction names with
    | nil => intro vs ws h l l' hl _ x v e; exact hl x v e
    | cons n ns ih =>
      intro vs ws h l l' hl hn x v e
      cases h with
      | nil => exact hl x v e
      | cons a h =>
        rename_i v0 w0 vs ws
        simp only [List.zip_cons_cons, List.reverse_cons, List.append_assoc, List.singleton_append] at e ⊢
        refine ih h ((n, v0) :: l) ((n, w0) :: l') (fun y u q => ?_) (fun y q => ?_) x v e
        · rw [List.lookup_cons] at q ⊢
          cases hy : y == n with
          | true => rw [hy] at q; cases q; exact ⟨w0, rfl, a⟩
          | false => rw [hy] at q; exact hl y u q
        · rw [List.lookup_cons] at q ⊢
          cases hy : y == n with
          | true => rw [hy] at q; cases q
          | false => rw [hy] at q; exact hn y q
  intro names vs ws h x v e
  have := key (names := names) h [] [] (fun _ _ q => nomatch q) (fun _ _ => rfl) x v (by simpa using e)
  simpa using this

def retv : F → V
  | .ret v => v
  | _ => .none

def fval : Flow → Value
  | .ret v => v
  | _ => .none
theorem os_new (os : List O) (o : O) : (os ++ [o])[os.length]? = some o := by simp
theorem retv_rel {ad : List Addr} {f : F} {f' : Flow} (r : FR ad f f') : VR ad (retv f) (fval f') := by
  cases f with
  | ret v => obtain ⟨w, rfl, hw⟩ := r; exact hw
  | next => cases r; rfl
  | brk => cases r; rfl
  | cont => cases r; rfl

section
variable {C : Cx} {sc : Scope} {lv : Nat} {st : St} {pos : Pos}
theorem ns_data {h : Heap} {L : Addr} {m : Str → Option Value} (hn : h.Ns L m) : ∃ o, h.get? L = some o ∧ (∀ vs, o.data ≠ .fields vs) ∧ ∀ vs n, o.data ≠ .seq vs n := by
  obtain ⟨o', es, ep, ho, hd, _⟩ := hn
  refine ⟨o', ho, ?_⟩
  rw [hd]
  exact ⟨fun _ q => (nomatch q), fun _ _ q => (nomatch q)⟩
theorem Gd.of_data {sc : Scope} {lv : Nat} (G : Gd C sc lv) {gg hid : Heap} {b : Addr} (hgg : Sim C.h₀ C.of gg) (st : gg.StaysIn hid) (hb : b ∈ C.of) :
    ∃ o, hid.get? b = some o ∧ (∀ vs, o.data ≠ .fields vs) ∧ ∀ vs n, o.data ≠ .seq vs n := by
  obtain ⟨_, o₀, h0, h2⟩ := G.st.2 b hb
  obtain ⟨sl, h1⟩ := hgg.slot _ _ h0
  exact ⟨_, st _ _ h1, h2⟩
theorem ground {g h : Heap} {L : Addr} {m : Str → Option Value} {news : List (Addr × Obj)} (F : Fr g L h m) (N : News g L h news) : g.StaysIn (hideAll h (news.map (·.1))) ∧ (hideAll h (news.map (·.1))).Ns L m := by
  have nm : ∀ b o, g.get? b = some o → b ∉ news.map (·.1) := fun b o e q => by
    obtain ⟨p, hp, rfl⟩ := List.mem_map.mp q
    rw [(N p hp).2.2] at e; cases e
  have nL : L ∉ news.map (·.1) := fun q => by
    obtain ⟨p, hp, e⟩ := List.mem_map.mp q
    exact (N p hp).2.1 e
  obtain ⟨oL, es, ep, hL, hLd, hLk, hLf⟩ := F.ns
  exact ⟨fun b o e => hideAll_get _ (F.keep b o e) (nm b o e), oL, es, ep, hideAll_get _ hL nL, hLd, hLk, hLf⟩
/-- the frames as a callee sees them -/
theorem Gd.inner {sc : Scope} {lv : Nat} (G : Gd C sc lv) (hlv : 0 < lv) {gg h : Heap} {m : Str → Option Value} {news : List (Addr × Obj)} (hgg : Sim C.h₀ C.of gg) (F : Fr gg C.env.locals h m) (N : News gg C.env.locals h news) :
    ∃ fs, Below C.A C.base fs (hideAll h (news.map (·.1))) ∧ ∀ b ∈ fs.filterMap (·.frame), b ∈ C.env.locals :: C.of := by
  obtain ⟨A₀, outer, B, hof, hor⟩ := G.bel hlv
  have B' : Below A₀ C.base outer gg := ⟨B.stack, G.stays hgg, B.frames.of_keeps fun b o e _ => by obtain ⟨sl, h⟩ := hgg.slot b o e; exact ⟨_, h, rfl⟩⟩
  rcases hor with ⟨hA, hf⟩ | rfl
  · obtain ⟨_, BG, _, _⟩ := groundX (s := { heap := h }) (R := fun _ _ => True) B' F N hA hf (by rw [G.scope]; exact G.kind)
    refine ⟨_, BG, fun b hb => ?_⟩
    rw [List.filterMap_cons, hf] at hb
    rcases List.mem_cons.mp hb with rfl | hb
    · exact .head _
    · exact .tail _ (hof b hb)
  · have st := (ground F N).1
    exact ⟨outer, ⟨B'.stack, fun b o e => st b o (B'.stays b o e), B'.frames.of_keeps fun b o e _ => ⟨o, st b o e, rfl⟩⟩, fun b hb => .tail _ (hof b hb)⟩
theorem Sim.below {h₀ g base : Heap} {outer : List Env} {A₀ : Around} {of : List Addr} (k : Sim h₀ of g) (B : Below A₀ base outer h₀) (hst : base.StaysIn g) : Below A₀ base outer g :=
  ⟨B.stack, hst, B.frames.of_keeps fun b o e _ => by obtain ⟨sl, h⟩ := k.slot b o e; exact ⟨_, h, rfl⟩⟩
/-- back from an inner frame -/
theorem back_frame {gc hid g₂ h h₂ : Heap} {m : Str → Option Value} {news₂ : List (Addr × Obj)} (hgc : Sim C.h₀ C.of gc) (F : Fr gc C.env.locals h m) (hst : gc.StaysIn hid) (hns : hid.Ns C.env.locals m)
    (hg₂ : Sim hid (C.env.locals :: C.of) g₂) (hk : g₂.StaysIn h₂) (N : ∀ p ∈ news₂, h₂.get? p.1 = some p.2 ∧ g₂.get? p.1 = none) :
    ∃ g', Sim C.h₀ C.of g' ∧ Fr g' C.env.locals h₂ m ∧ News g' C.env.locals h₂ news₂ := by
  have up2 : ∀ b o, C.h₀.get? b = some o → ∃ sl, g₂.get? b = some { o with slots := sl } := fun b o e => by
    obtain ⟨s1, e1⟩ := hgc.slot b o e
    obtain ⟨s2, e2⟩ := hg₂.slot b _ (hst b _ e1)
    exact ⟨s2, e2⟩
  obtain ⟨g', hg', hk'⟩ := Sim.make (h₀ := C.h₀) (h := h₂) (of := C.of) (fun b o e n => by
    have e1 := hgc.same b o e n
    refine hk b o (hg₂.same b o (hst b o e1) fun q => ?_)
    rcases List.mem_cons.mp q with q | q
    · exact absurd (Nat.lt_of_lt_of_le (Heap.lt_size e1) F.above) (by rw [q]; exact Nat.lt_irrefl _)
    · exact n q) (fun b o e => by obtain ⟨sl, q⟩ := up2 b o e; exact ⟨sl, hk b _ q⟩)
  obtain ⟨o, es, ep, ho, hd, r⟩ := hns
  obtain ⟨sL, hL⟩ := hg₂.slot _ o ho
  refine ⟨g', hg', ⟨⟨_, es, ep, hk _ _ hL, hd, r⟩, hk', by rw [hg'.size, ← hgc.size]; exact F.above⟩, fun p hp => ⟨(N p hp).1, fun q => ?_, hg'.non _ ?_⟩⟩
  · have := (N p hp).2; rw [q, hL] at this; cases this
  · cases q : C.h₀.get? p.1 with
    | none => rfl
    | some o' => obtain ⟨sl, e⟩ := up2 _ o' q; have := (N p hp).2; rw [e] at this; cases this
theorem call_fn {x : Str} {params : Arguments} {body : List Stmt} {fsc : Scope} {a : Addr} {o : Obj} {pm cd doc : Value} {vs : List V} {Q : V → St → Prop} (names : List Str) (G : Gd C sc (lv + 1))
    (ho : C.base.get? a = some o) (hd : o.data = .func (docDef x params body fsc pm cd doc)) (hcd : C.base.CodeRec cd x)
    (hb : ∀ ws : List Value, ws.length = names.length → bindArgs (docDef x params body fsc pm cd doc) ⟨ws, []⟩ = pure (names.zip ws)) (hvs : vs.length = names.length)
    (hl : ∀ n ∈ names, fsc.names.lookup n = some .local) (hcell : ∀ x ∈ fsc.names, x.2 ≠ .cell) (hco : fsc.isCoroutine = false) (hgen : fsc.isGenerator = false) (hk : fsc.kind = .function)
    (h : ∀ C', Callee C C' fsc lv → SV C' body ⟨(names.zip vs).reverse, st.os⟩ (fun f st2 => Q (retv f) ⟨st.m, st2.os⟩)) : CL C (.ref a) vs st Q := .mk fun s ad ws hs hr => At.mk fun K hK => by
  obtain ⟨⟨gg, hgg, m, news, F, N, c, d, o', r⟩, hcl⟩ := hs
  obtain ⟨fs, BG, hfs⟩ := G.inner (Nat.succ_pos _) hgg F N
  obtain ⟨stay, nsG⟩ := ground F N
  refine wpAny_call ?_
  have hlen : ws.length = names.length := by rw [hr.length, hvs]
  have hkb := G.keep hgg F
  refine codeAny_call_def (fd := docDef x params body fsc pm cd doc) (body := body) (binds := names.zip ws) (by have := G.depth; show C.A.depth < 1000; omega) (hkb _ _ ho) hd (G.top.nolimit.keeps hkb) (hcd.keeps hkb) rfl
    (BindsTo.of_eq (hb ws hlen)) hcell (fun y hy => hl _ (List.of_mem_zip hy).1) (fun h₁ hns hk₁ => ?_) hco hgen hk
  let env' : Env := callEnv (docDef x params body fsc pm cd doc) s.heap.objs.size a
  let C' : Cx := { C with A := C.A.deeper env', env := env', h₀ := hideAll s.heap ((news ++ C.kp).map (·.1)), cl := [], of := C.env.locals :: C.of }
  have hbL : C.base.get? C.env.locals = none := by
    cases q : C.base.get? C.env.locals with
    | none => rfl
    | some ob => exact absurd (Nat.lt_of_lt_of_le (Heap.lt_size (G.stays hgg _ _ q)) F.above) (Nat.lt_irrefl _)
  have hc : Callee C C' fsc lv := ⟨⟨rfl, hk, rfl, rfl, G.top, ⟨fun b o e => stay b o (G.stays hgg b o e), fun b hb => by
      rcases List.mem_cons.mp hb with rfl | hb
      · exact ⟨hbL, ns_data nsG⟩
      · exact ⟨(G.st.2 b hb).1, G.of_data hgg stay hb⟩⟩, by have := G.depth; show C.A.depth + 1 + lv < 500; omega, by have := G.units; show C.A.units + 3 + 3 * lv < 5000; omega, fun _ => ⟨C.A, fs, BG, hfs, .inl ⟨Around.frames_deeper BG.stack, rfl⟩⟩⟩, rfl, rfl, rfl, rfl, rfl, ⟨fs, Around.frames_deeper BG.stack⟩, rfl⟩
  refine wpAny_mono (Q := _) (((h C' hc).go { s with heap := h₁, toks := s.toks + (names.zip ws).length } ad ⟨⟨_, Sim.refl _ _, _, news, ⟨hns, fun b o e => hk₁ b o (of_hideAll _ e), Nat.le_of_eq (hideAll_size _ _)⟩,
    (fun p hp => ⟨hk₁ _ _ (N p hp).1, Nat.ne_of_lt (Heap.lt_size (N p hp).1), hideAll_none _ (List.mem_map_of_mem hp)⟩), c, d, o', VRs.zip hr⟩, fun _ _ q => nomatch q⟩).run _ fun f st2 s2 ad2 f' q2 e2 p2 hs2 r2 => ?_) (fun _ _ x => x) fun _ _ x => x.elim
  obtain ⟨⟨gg2, hgg2, m2, news2, F2, N2, c2, d2, o2, r2'⟩, _⟩ := hs2
  obtain ⟨g', hg', F', N'⟩ := back_frame hgg F stay nsG hgg2 F2.keep (news₂ := news2 ++ C.kp) fun p hp => ⟨(N2 p hp).1, (N2 p hp).2.2⟩
  exact hK _ _ s2 ad2 _ q2 ((Same.mk' s h₁ _).trans e2) p2 ⟨⟨g', hg', m, news2, F', N', c2, d2, o2, r.mono p2⟩, fun y k q => by
    obtain ⟨cc, q1, q3⟩ := hcl y k q
    obtain ⟨rr, rfl⟩ := p2
    exact ⟨cc, q1, by rw [List.getElem?_append_left (List.getElem?_eq_some_iff.mp q3).1]; exact q3⟩⟩ (by have := retv_rel r2; cases f' <;> exact this)

theorem VR.bel {ad : List Addr} {v : V} {w : Value} (h : VR ad v w) : v.below ad.length := by
  cases v with
  | ref k => obtain ⟨a, ha, _⟩ := h; exact (List.getElem?_eq_some_iff.mp ha).1
  | _ => trivial
theorem VRs.bel {ad : List Addr} {vs : List V} {ws : List Value} (h : VRs ad vs ws) : ∀ v ∈ vs, v.below ad.length := by
  induction h with
  | nil => exact fun _ h => nomatch h
  | cons a _ ih =>
    intro v hv
    rcases List.mem_cons.mp hv with rfl | hv
    · exact a.bel
    · exact ih v hv
theorem OR.bel {ad : List Addr} {o : O} {p : Obj} (h : OR ad o p) : o.below ad.length := by
  match o, h with
  | .list _, ⟨ws, n, e, hv⟩ => exact hv.bel
  | .tuple _, ⟨ws, n, e, hv⟩ => exact hv.bel
  | .cell (some _), ⟨w, e, hv⟩ => exact hv.bel
  | .cell .none, h => exact trivial
  | .range _ _ _, h => exact trivial
  | .words _, h => exact trivial
  | .exc k, ⟨h1, vs, t, h2, h3, h4⟩ => exact (List.getElem?_eq_some_iff.mp h4).1
  | .junk, _ => exact trivial
theorem ORs.bel {ad : List Addr} {os : List O} {ps : List (Addr × Obj)} (h : ORs ad os ps) : ∀ o ∈ os, o.below ad.length := by
  induction h with
  | nil => exact fun _ h => nomatch h
  | cons a _ ih =>
    intro v hv
    rcases List.mem_cons.mp hv with rfl | hv
    · exact a.bel
    · exact ih v hv
/-- behind a step that left the store as it was, but for new things: these are dropped -/
theorem SR.back {ad ad2 : List Addr} {s s2 : Shared} {junk : List O} (hs : SR C ad st s.heap) (hs2 : SR C ad2 ⟨st.m, st.os ++ junk⟩ s2.heap) (p : ad <+: ad2) : SR C ad st s2.heap := by
  have hl := hs.len
  have hl2 := hs2.len
  obtain ⟨⟨gg, hgg, m, news, _, _, c, _, o, r⟩, hc⟩ := hs
  have e : ad2.take st.os.length = ad := by
    obtain ⟨q, rfl⟩ := p
    rw [← hl]
    simp
  obtain ⟨⟨gg2, hgg2, m2, news2, F2, N2, c2, d2, o2, r2⟩, hc2⟩ := hs2
  refine ⟨⟨gg2, hgg2, m2, news2.take st.os.length, F2, fun p hp => N2 p ?_, by rw [List.map_take, c2, e], ?_, ?_, fun x v q => ?_⟩, hc⟩
  · rcases List.mem_append.mp hp with hp | hp
    · exact List.mem_append_left _ (List.mem_of_mem_take hp)
    · exact List.mem_append_right _ hp
  · rw [← e]
    exact d2.sublist ((List.take_sublist _ _).append (List.Sublist.refl _))
  · have t := o2.take st.os.length
    rw [show (⟨st.m, st.os ++ junk⟩ : St).os.take st.os.length = st.os by simp] at t
    have := t.cut (n := st.os.length) (by rw [← hl]; exact o.bel)
    rw [e] at this
    exact this
  · obtain ⟨w, q1, q2⟩ := r2 x v q
    obtain ⟨w', q3, q4⟩ := r x v q
    refine ⟨w, q1, ?_⟩
    rw [← e]
    exact q2.cut (by rw [← hl]; exact q4.bel)
/-- a call of a def of the text -/
theorem ev_call {x : Str} {px : Pos} {e : Expr} {rest : List Expr} {params : Arguments} {body : List Stmt} {fsc : Scope} {fpos : Pos} {Q : V → St → Prop} (names : List Str) (G : Gd C sc (lv + 1))
    (hd : (⟨x, params, body, fsc, fpos⟩ : DefRec) ∈ recsOf C.p)
    (h : AV C pos (e :: rest) st (fun vs st1 => vs.length = names.length ∧ ∀ C', Callee C C' fsc lv → SV C' body ⟨(names.zip vs).reverse, st1.os⟩ (fun f st2 => Q (retv f) ⟨st1.m, st2.os⟩)))
    (hb : ∀ pm cd doc (ws : List Value), ws.length = names.length → bindArgs (docDef x params body fsc pm cd doc) ⟨ws, []⟩ = pure (names.zip ws))
    (hl : ∀ n ∈ names, fsc.names.lookup n = some .local) (hcell : ∀ x ∈ fsc.names, x.2 ≠ .cell) (hco : fsc.isCoroutine = false := by rfl) (hgen : fsc.isGenerator = false := by rfl) (hk : fsc.kind = .function := by rfl)
    (hg : sc.names.lookup x = some .globalImplicit := by rfl) (hdb : (x == ("__debug__" : Str)) = false := by rfl)
    (hst : starEach (e :: rest) C.env = (false, eval e C.env) :: starEach rest C.env := by rfl) : EV C (.Call (.Name x px) (e :: rest) [] pos) st Q := .mk fun s ad hs => At.mk fun K hK => by
  obtain ⟨a, o, pm, cd, doc, hmg, ho, hdt, hcd⟩ := G.top.fn _ hd
  refine wpAny_Call_Name_kw (((ev_global (Q := fun f st1 => f = .fix (.ref a) ∧ st1 = st) G hmg ⟨rfl, rfl⟩ hg hdb).go s ad hs).run _ fun f st1 s1 ad1 w q1 e1 p1 hs1 r1 => ?_)
  obtain ⟨rfl, rfl⟩ := q1
  cases r1
  have h1 := h.go s1 ad1 hs1
  revert h1
  refine fun h1 => callWith_function (o := o) (fd := docDef x params body fsc pm cd doc) ?_
  revert h1
  show At C ad1 s1 VRs (spliced (backTo pos (starEach (e :: rest) C.env))) _ → wpAny _ _ (evalArgs _ _ (backTo pos (starEach (e :: rest) C.env)) _) _ _ _
  rw [hst]
  intro h1
  refine evalArgs_plain (h1.run _ fun vs st2 s2 ad2 ws q2 e2 p2 hs2 r2 => ⟨⟨?_, hdt⟩, ?_⟩)
  · obtain ⟨⟨gg, hgg, m, news, F, _⟩, _⟩ := hs2
    exact G.keep hgg F _ _ ho
  · exact ((call_fn names G ho hdt hcd (hb pm cd doc) q2.1 hl hcell hco hgen hk q2.2).go s2 ad2 ws hs2 r2).run K fun v st3 s3 ad3 w q3 e3 p3 hs3 r3 => hK v st3 s3 ad3 w q3 (e1.trans (e2.trans e3)) (p1.trans (p2.trans p3)) hs3 r3
end

section
variable {C : Cx} {sc : Scope} {lv : Nat} {st : St} {pos : Pos}
/-- things that a step made and that are needed no more -/
theorem ev_drop {e : Expr} {Q : V → St → Prop} (h : EV C e st (fun v st' => ∃ junk, st' = ⟨st.m, st.os ++ junk⟩ ∧ v.below st.os.length ∧ Q v st)) : EV C e st Q := .mk fun s ad hs => At.mk fun K hK =>
  (h.go s ad hs).run K fun v st' s' ad' w q e1 p hs' r => by
    obtain ⟨junk, rfl, hb, hq⟩ := q
    have hl := hs.len
    refine hK v st s' ad w hq e1 (List.prefix_refl _) (hs.back hs' p) ?_
    obtain ⟨q, rfl⟩ := p
    have := r.cut hb
    rw [show (ad ++ q).take st.os.length = ad by rw [← hl]; simp] at this
    exact this
end
/-! some built-ins -/
section
variable {C : Cx} {sc : Scope} {lv : Nat} {st : St} {pos : Pos} {Q : V → St → Prop}
/-- the heap has grown, all that stood stands -/
theorem SR.grown {ad : List Addr} {h h' : Heap} (hs : SR C ad st h) (hk : ∀ b o, h.get? b = some o → h'.get? b = some o) : SR C ad st h' := by
  obtain ⟨⟨gg, hgg, m, news, F, N, c, d, o, r⟩, hc⟩ := hs
  exact ⟨⟨gg, hgg, m, news, F.keeps hk, fun p hp => ⟨hk _ _ (N p hp).1, (N p hp).2⟩, c, d, o, r⟩, hc⟩
theorem cl_min {x y : Int} (hh : C.A.handled = none) (h : Q (.int (if y < x then y else x)) st) : CL C (.builtin "min") [.int x, .int y] st Q := .mk fun s ad ws hs hr => At.mk fun K hK => by
  cases hr with | cons a hr => cases hr with | cons b hr => cases hr with | nil =>
  obtain ⟨t, rfl⟩ := a
  obtain ⟨u, rfl⟩ := b
  refine min_two_ints hh fun h' tk hk => ?_
  refine hK _ st _ ad _ h (Same.mk' s h' tk) (List.prefix_refl _) (hs.grown hk) ?_
  by_cases c : y < x
  · rw [if_pos c, if_pos c]; exact ⟨_, rfl⟩
  · rw [if_neg c, if_neg c]; exact ⟨_, rfl⟩
theorem cl_abs {x : Int} (h : Q (.int (if x < 0 then -x else x)) st) : CL C (.builtin "abs") [.int x] st Q := .mk fun s ad ws hs hr => At.mk fun K hK => by
  cases hr with | cons a hr => cases hr with | nil =>
  obtain ⟨t, rfl⟩ := a
  exact call_abs_int fun u tk => hK _ st _ ad _ h (Same.tk s tk) (List.prefix_refl _) hs ⟨_, rfl⟩
end
end Mine
namespace Mine
section
variable {C : Cx} {sc : Scope} {lv : Nat} {st : St} {pos : Pos} {Q : V → St → Prop} {ad : List Addr}
/-- a new object behind the store -/
theorem sr_alloc {gg : Heap} {m : Str → Option Value} {news : List (Addr × Obj)} {h h' : Heap} {o : O} {ob : Obj} (hgg : Sim C.h₀ C.of gg) (N : News gg C.env.locals h (news ++ C.kp)) (c : news.map (·.1) = ad) (d : (ad ++ C.kp.map (·.1)).Nodup) (o' : ORs ad st.os news) (r : MR ad st.m m)
    (hc : ∀ x k, C.cl.lookup x = some k → ∃ c, C.env.cells.lookup x = some c ∧ ad[k]? = some c)
    (F' : Fr gg C.env.locals h' m) (N' : News gg C.env.locals h' ((h.objs.size, ob) :: (news ++ C.kp))) (hob : OR (ad ++ [h.objs.size]) o ob) : SR C (ad ++ [h.objs.size]) ⟨st.m, st.os ++ [o]⟩ h' := by
  have px : ad <+: ad ++ [h.objs.size] := List.prefix_append _ _
  have hlt : ∀ a ∈ ad ++ C.kp.map (·.1), a < h.objs.size := by
    intro a ha
    rw [← c, ← List.map_append] at ha
    obtain ⟨p, hp, rfl⟩ := List.mem_map.mp ha
    exact Heap.lt_size (N p hp).1
  refine ⟨⟨gg, hgg, m, news ++ [(h.objs.size, ob)], F', fun p hp => N' p ?_, by rw [List.map_append, c]; rfl, ?_, (o'.mono px).append (.cons hob .nil), r.mono px⟩, fun x k q => ?_⟩
  · simp only [List.append_assoc, List.mem_append, List.mem_cons, List.not_mem_nil, or_false] at hp ⊢
    rcases hp with hp | hp | hp
    · exact .inr (.inl hp)
    · exact .inl hp
    · exact .inr (.inr hp)
  · rw [List.append_assoc, List.singleton_append]
    refine (List.nodup_append.mpr ?_)
    have d' := List.nodup_append.mp d
    refine ⟨d'.1, List.nodup_cons.mpr ⟨fun hm => Nat.lt_irrefl _ (hlt _ (List.mem_append_right _ hm)), d'.2.1⟩, fun a ha b hb => ?_⟩
    rcases List.mem_cons.mp hb with rfl | hb
    · exact Nat.ne_of_lt (hlt _ (List.mem_append_left _ ha))
    · exact d'.2.2 a ha b hb
  · obtain ⟨cc, q1, q2⟩ := hc x k q
    exact ⟨cc, q1, by rw [List.getElem?_append_left (List.getElem?_eq_some_iff.mp q2).1]; exact q2⟩
abbrev St.add (st : St) (o : O) : St := ⟨st.m, st.os ++ [o]⟩
theorem ref_new (ad : List Addr) (a : Addr) (n : Nat) (h : ad.length = n) : VR (ad ++ [a]) (.ref n) (.ref a) := ⟨a, by subst h; simp, rfl⟩
theorem ev_list {es : List Expr} (h : AV C pos es st (fun vs st1 => vs.length ≤ 1000000 ∧ Q (.ref st1.os.length) (st1.add (.list vs)))) : EV C (.List es pos) st Q := .mk fun s ad hs => At.mk fun K hK =>
  List_ ((h.go s ad hs).run _ fun vs st1 s1 ad1 ws q1 e1 p1 hs1 r1 => by
    have hl := hs1.len
    obtain ⟨⟨gg, hgg, m, news, F, N, c, d, o, r⟩, hc⟩ := hs1
    refine newList_N F N (fun h' F' N' => ?_) (by rw [r1.length, sizeLine_eq]; omega)
    exact hK _ _ _ _ _ q1.2 (e1.trans (Same.hp s1 h')) (p1.trans (List.prefix_append _ _)) (sr_alloc hgg N c d o r hc F' N' ⟨ws, 0, rfl, r1.mono (List.prefix_append _ _)⟩) (ref_new _ _ _ hl))
theorem ev_tuple {es : List Expr} {k : Nat} (h : AV C pos es st (fun vs st1 => vs.length ≤ 1000000 ∧ Q (.ref st1.os.length) (st1.add (.tuple vs)))) : EV C (.Tuple es k pos) st Q := .mk fun s ad hs => At.mk fun K hK =>
  Tuple_ ((h.go s ad hs).run _ fun vs st1 s1 ad1 ws q1 e1 p1 hs1 r1 => by
    have hl := hs1.len
    obtain ⟨⟨gg, hgg, m, news, F, N, c, d, o, r⟩, hc⟩ := hs1
    refine newTuple_N F N (fun h' F' N' => ?_) (by rw [r1.length, sizeLine_eq]; omega)
    exact hK _ _ _ _ _ q1.2 (e1.trans (Same.hp s1 h')) (p1.trans (List.prefix_append _ _)) (sr_alloc hgg N c d o r hc F' N' ⟨ws, 0, rfl, r1.mono (List.prefix_append _ _)⟩) (ref_new _ _ _ hl))
/-- what the store says of the heap -/
theorem SR.at {h : Heap} (hs : SR C ad st h) {k : Nat} {o : O} (e : st.os[k]? = some o) : ∃ a ob, ad[k]? = some a ∧ h.get? a = some ob ∧ OR ad o ob ∧ a ≠ C.env.locals ∧ C.h₀.get? a = none := by
  obtain ⟨⟨gg, hgg, m, news, F, N, c, d, o', r⟩, hc⟩ := hs
  obtain ⟨p, hp, hr⟩ := o'.get e
  have := N p (List.mem_append_left _ (List.mem_of_getElem? hp))
  exact ⟨p.1, p.2, by rw [← c, List.getElem?_map, hp]; rfl, this.1, hr, this.2.1, hgg.fresh this.2.2⟩
theorem SR.list {h : Heap} (hs : SR C ad st h) {k : Nat} {vs : List V} (e : st.os[k]? = some (.list vs)) : ∃ a ws, ad[k]? = some a ∧ h.IsList a ws.toArray ∧ VRs ad vs ws := by
  obtain ⟨a, ob, h1, h2, ⟨ws, n, rfl, hv⟩, _⟩ := hs.at e
  exact ⟨a, ws, h1, ⟨_, h2, rfl, n, rfl⟩, hv⟩
theorem SR.tuple {h : Heap} (hs : SR C ad st h) {k : Nat} {vs : List V} (e : st.os[k]? = some (.tuple vs)) : ∃ a ws, ad[k]? = some a ∧ h.IsTuple a ws.toArray ∧ VRs ad vs ws := by
  obtain ⟨a, ob, h1, h2, ⟨ws, n, rfl, hv⟩, _⟩ := hs.at e
  exact ⟨a, ws, h1, ⟨_, h2, rfl, n, rfl⟩, hv⟩
theorem VR.ref {k : Nat} {w : Value} {a : Addr} (h : VR ad (.ref k) w) (e : ad[k]? = some a) : w = .ref a := by
  obtain ⟨b, hb, rfl⟩ := h
  rw [e] at hb
  cases hb
  rfl
theorem ints_rel {ws : List Value} {ns : List Int} (h : IntsAre ws ns) : VRs ad (ns.map V.int) ws := by
  induction h with
  | nil => exact .nil
  | cons n t _ ih => exact .cons ⟨t, rfl⟩ ih
/-- two lists joined: both of the store -/
theorem bo_addL {j k : Nat} {vs us : List V} (hj : st.os[j]? = some (.list vs)) (hk : st.os[k]? = some (.list us)) (hsz : vs.length + us.length ≤ 1000000) (h : Q (.ref st.os.length) (st.add (.list (vs ++ us)))) : BO C .Add (.ref j) (.ref k) st Q := .mk fun s ad va vb hs ra rb => At.mk fun K hK => by
  obtain ⟨a, ws, ha, hla, hva⟩ := hs.list hj
  obtain ⟨b, xs, hb, hlb, hvb⟩ := hs.list hk
  cases ra.ref ha
  cases rb.ref hb
  have hl := hs.len
  obtain ⟨⟨gg, hgg, m, news, F, N, c, d, o, r⟩, hc⟩ := hs
  refine add_lists F N hla hlb (fun h' F' N' => ?_) (by rw [hva.length, hvb.length, sizeLine_eq]; omega)
  exact hK _ _ _ _ _ h (Same.hp s h') (List.prefix_append _ _) (sr_alloc hgg N c d o r hc F' N' ⟨ws ++ xs, 0, rfl, (hva.append hvb).mono (List.prefix_append _ _)⟩) (ref_new _ _ _ hl)
/-- a list of the store and the script -/
theorem bo_addS {j : Nat} {vs : List V} {b : Addr} {xs : List Value} {ns : List Int} (hj : st.os[j]? = some (.list vs)) (hb : C.h₀.IsList b xs.toArray) (hi : IntsAre xs ns) (hsz : vs.length + ns.length ≤ 1000000) (h : Q (.ref st.os.length) (st.add (.list (vs ++ ns.map V.int)))) : BO C .Add (.ref j) (.fix (.ref b)) st Q := .mk fun s ad va vb hs ra rb => At.mk fun K hK => by
  obtain ⟨a, ws, ha, hla, hva⟩ := hs.list hj
  cases ra.ref ha
  cases rb
  have hl := hs.len
  obtain ⟨⟨gg, hgg, m, news, F, N, c, d, o, r⟩, hc⟩ := hs
  have hvb : VRs ad (ns.map V.int) xs := ints_rel hi
  obtain ⟨ob, h1, h2, n, h3⟩ := hb
  obtain ⟨sl, h1⟩ := hgg.slot _ _ h1
  have hlb : s.heap.IsList b xs.toArray := ⟨_, F.keep _ _ h1, h2, n, h3⟩
  refine add_lists F N hla hlb (fun h' F' N' => ?_) (by rw [hva.length, hi.length, sizeLine_eq]; omega)
  exact hK _ _ _ _ _ h (Same.hp s h') (List.prefix_append _ _) (sr_alloc hgg N c d o r hc F' N' ⟨ws ++ xs, 0, rfl, (hva.append hvb).mono (List.prefix_append _ _)⟩) (ref_new _ _ _ hl)
end

/-! iterators -/
/-- the same machine, another frame -/
def Like (C C₂ : Cx) : Prop := C₂.prog = C.prog ∧ C₂.w = C.w ∧ C₂.A = C.A
/-- an iterator I, at `kp`'s head while it runs: `inv i ks` says that ks are its objects ahead of item i -/
structure AIter (C : Cx) (ad₀ : List Addr) (I : Addr) (items : List V) (dep : St → Prop) (inv : Nat → List (Addr × Obj) → Prop) : Prop where
  next : ∀ (C₂ : Cx), Like C C₂ → ∀ i v ks kp st s ad, items[i]? = some v → inv i ks → dep st → ad₀ <+: ad → SR (C₂.kept (ks ++ kp)) ad st s.heap → ∀ K : Option Value → Shared → Prop,
    (∀ w s' ks', Same s s' → inv (i + 1) ks' → SR (C₂.kept (ks' ++ kp)) ad st s'.heap → VR ad v w → K (some w) s') → wpAny C₂.M C₂.A (pyNext (.ref I)) K No s
  done : ∀ (C₂ : Cx), Like C C₂ → ∀ ks kp st s ad, inv items.length ks → dep st → ad₀ <+: ad → SR (C₂.kept (ks ++ kp)) ad st s.heap → ∀ K : Option Value → Shared → Prop,
    (∀ s', Same s s' → SR (C₂.kept kp) ad st s'.heap → K none s') → wpAny C₂.M C₂.A (pyNext (.ref I)) K No s
  self : ∀ (C₂ : Cx), ∀ i ks kp st s ad, inv i ks → SR (C₂.kept (ks ++ kp)) ad st s.heap → ∀ K : Value → Shared → Prop, K (.ref I) s → wpAny C₂.M C₂.A (pyIter (.ref I)) K No s
  own : ∀ (C₂ : Cx), ∀ i ks kp st s ad w t, inv i ks → SR (C₂.kept (ks ++ kp)) ad st s.heap → ∀ K : Unit → Shared → Prop, K () s → wpAny C₂.M C₂.A (letOwnedTupleGo t (.ref I) w) K No s
def IterOf (C : Cx) (v : V) (st : St) (items : List V) (dep : St → Prop) : Prop :=
  ∀ s ad w, SR C ad st s.heap → VR ad v w → ∀ K : Value → Shared → Prop, (∀ I inv ks s', AIter C ad I items dep inv → inv 0 ks → Same s s' → SR (C.kept (ks ++ C.kp)) ad st s'.heap → K (.ref I) s') → wpAny C.M C.A (pyIter w) K No s
/-- what a turn of a for loop leaves -/
def ForT (C : Cx) (k : Nat) (I : St → Prop) (Q : F → St → Prop) : F → St → Prop
  | .brk, st => Q .next st
  | .ret v, st => Q (.ret v) st
  | _, st => ∃ st', Wk C st st' ∧ k ≤ st'.os.length ∧ I st'
/-- a target that takes an item -/
structure AS (C : Cx) (t : Expr) (v : V) (st : St) (Q : St → Prop) : Prop where
  go : ∀ s ad w, SR C ad st s.heap → VR ad v w → At C ad s UR (assign t C.env w) (fun _ st' => Q st')

section
variable {C : Cx} {sc : Scope} {lv : Nat} {st : St} {pos : Pos} {ad : List Addr}
theorem SR.drop {h : Heap} {ks kp : List (Addr × Obj)} (hs : SR (C.kept (ks ++ kp)) ad st h) : SR (C.kept kp) ad st h := by
  obtain ⟨⟨gg, hgg, m, news, F, N, c, d, o, r⟩, hc⟩ := hs
  refine ⟨⟨gg, hgg, m, news, F, fun p hp => N p ?_, c, ?_, o, r⟩, hc⟩
  · rcases List.mem_append.mp hp with hp | hp
    · exact List.mem_append_left _ hp
    · exact List.mem_append_right _ (List.mem_append_right _ hp)
  · exact d.sublist (List.Sublist.append (List.Sublist.refl _) (List.Sublist.map _ (List.sublist_append_right _ _)))
/-- the first kept object turned, all else as it was -/
theorem SR.touch {h h' : Heap} {I : Addr} {ob ob' : Obj} {kp : List (Addr × Obj)} (hs : SR (C.kept ((I, ob) :: kp)) ad st h) (hk : ∀ b o, b ≠ I → h.get? b = some o → h'.get? b = some o) (hI : h'.get? I = some ob') : SR (C.kept ((I, ob') :: kp)) ad st h' := by
  obtain ⟨⟨gg, hgg, m, news, F, N, c, d, o, r⟩, hc⟩ := hs
  have hN := N (I, ob) (List.mem_append_right _ (.head _))
  have d' := List.nodup_append.mp d
  have hne : ∀ p ∈ news ++ kp, p.1 ≠ I := by
    intro p hp e
    rcases List.mem_append.mp hp with hp | hp
    · exact d'.2.2 p.1 (by rw [← c]; exact List.mem_map_of_mem hp) I (.head _) e
    · have := (List.nodup_cons.mp d'.2.1).1
      exact this (List.mem_map.mpr ⟨p, hp, e⟩)
  refine ⟨⟨gg, hgg, m, news, ⟨F.ns.at' fun o e => hk _ o (Ne.symm hN.2.1) e, fun b o e => hk b o (fun q => by rw [q, hN.2.2] at e; cases e) (F.keep b o e), F.above⟩, fun p hp => ?_, c, d, o, r⟩, hc⟩
  rcases List.mem_append.mp hp with hp | hp
  · have := N p (List.mem_append_left _ hp)
    exact ⟨hk _ _ (hne p (List.mem_append_left _ hp)) this.1, this.2⟩
  · rcases List.mem_cons.mp hp with rfl | hp
    · exact ⟨hI, hN.2⟩
    · have := N p (List.mem_append_right _ (.tail _ hp))
      exact ⟨hk _ _ (hne p (List.mem_append_right _ hp)) this.1, this.2⟩
/-- ... or gone -/
theorem SR.gone {h h' : Heap} {I : Addr} {ob : Obj} {kp : List (Addr × Obj)} (hs : SR (C.kept ((I, ob) :: kp)) ad st h) (hk : ∀ b o, b ≠ I → h.get? b = some o → h'.get? b = some o) : SR (C.kept kp) ad st h' := by
  obtain ⟨⟨gg, hgg, m, news, F, N, c, d, o, r⟩, hc⟩ := hs
  have hN := N (I, ob) (List.mem_append_right _ (.head _))
  have d' := List.nodup_append.mp d
  have hne : ∀ p ∈ news ++ kp, p.1 ≠ I := by
    intro p hp e
    rcases List.mem_append.mp hp with hp | hp
    · exact d'.2.2 p.1 (by rw [← c]; exact List.mem_map_of_mem hp) I (.head _) e
    · have := (List.nodup_cons.mp d'.2.1).1
      exact this (List.mem_map.mpr ⟨p, hp, e⟩)
  refine ⟨⟨gg, hgg, m, news, ⟨F.ns.at' fun o e => hk _ o (Ne.symm hN.2.1) e, fun b o e => hk b o (fun q => by rw [q, hN.2.2] at e; cases e) (F.keep b o e), F.above⟩, fun p hp => ?_, c, ?_, o, r⟩, hc⟩
  · have : p ∈ news ++ (I, ob) :: kp := by
      rcases List.mem_append.mp hp with hp | hp
      · exact List.mem_append_left _ hp
      · exact List.mem_append_right _ (.tail _ hp)
    exact ⟨hk _ _ (hne p hp) (N p this).1, (N p this).2⟩
  · exact d.sublist (List.Sublist.append (List.Sublist.refl _) (List.sublist_cons_self _ _))
/-- a new kept object -/
theorem SR.keep {h : Heap} (hs : SR C ad st h) (ob : Obj) (hfree : ob.isFreed = false := by rfl) : SR (C.kept ((h.objs.size, ob) :: C.kp)) ad st (h.push ob) := by
  obtain ⟨⟨gg, hgg, m, news, F, N, c, d, o, r⟩, hc⟩ := hs
  have hlt : ∀ a ∈ ad ++ C.kp.map (·.1), a < h.objs.size := by
    intro a ha
    rw [← c, ← List.map_append] at ha
    obtain ⟨p, hp, rfl⟩ := List.mem_map.mp ha
    exact Heap.lt_size (N p hp).1
  have N' := N.push F ob hfree
  refine ⟨⟨gg, hgg, m, news, F.push ob, fun p hp => N' p ?_, c, ?_, o, r⟩, hc⟩
  · rcases List.mem_append.mp hp with hp | hp
    · exact .tail _ (List.mem_append_left _ hp)
    · rcases List.mem_cons.mp hp with rfl | hp
      · exact .head _
      · exact .tail _ (List.mem_append_right _ hp)
  · have d' := List.nodup_append.mp d
    refine (List.nodup_append.mpr ⟨d'.1, List.nodup_cons.mpr ⟨fun hm => Nat.lt_irrefl _ (hlt _ (List.mem_append_right _ hm)), d'.2.1⟩, fun a ha b hb => ?_⟩)
    rcases List.mem_cons.mp hb with rfl | hb
    · exact Nat.ne_of_lt (hlt _ (List.mem_append_left _ ha))
    · exact d'.2.2 a ha b hb
theorem get_prefix {α : Type} {a b : List α} {k : Nat} {x : α} (p : a <+: b) (e : a[k]? = some x) : b[k]? = some x := by
  obtain ⟨r, rfl⟩ := p
  rw [List.getElem?_append_left (List.getElem?_eq_some_iff.mp e).1]
  exact e
theorem wpNo {α : Type} {M : Model} {A : Around} {t : Sem α} {Q : α → Shared → Prop} {E : Value → Shared → Prop} {s : Shared} (h : wpAny M A t Q No s) : wpAny M A t Q E s := wpAny_mono h (fun _ _ x => x) fun _ _ x => x.elim

theorem own_plain {M : Model} {A : Around} {E : Value → Shared → Prop} {s : Shared} {t : Expr} {I : Addr} {w : Value} {ob : Obj} {n : String} {Q : Unit → Shared → Prop} (ho : s.heap.get? I = some ob) (hc : ob.cls = .type n)
    (hn : ["enumerate", "zip", "dict_itemiterator", "dict_reverseitemiterator", "odict_iterator", "itertools.zip_longest", "itertools.pairwise"].contains n = false) (hQ : Q () s) : wpAny M A (letOwnedTupleGo t (.ref I) w) Q E s := by
  have key : ∀ T : Addr, wpAny M A (load I >>= fun o => (match o.cls, o.data with
      | .type n, .fields vs => if ["enumerate", "zip", "dict_itemiterator", "dict_reverseitemiterator", "odict_iterator", "itertools.zip_longest", "itertools.pairwise"].contains n && vs[0]? == some (rawInt T) then do
          rule "for.unpacks-the-owned-tuple"
          updateField I 0 .none
        else pure ()
      | _, _ => pure () : Sem Unit)) Q E s := fun T => by
    refine wpAny_bind (wpAny_load ho ?_)
    rw [hc]
    split
    · rename_i n' vs e1 e2
      cases e1
      rw [hn, Bool.false_and, if_neg (by decide)]
      exact wpAny_pure hQ
    · exact wpAny_pure hQ
  cases t with
  | Tuple es k p => cases w with
    | ref T => exact key T
    | _ => exact wpAny_pure hQ
  | List es p => cases w with
    | ref T => exact key T
    | _ => exact wpAny_pure hQ
  | _ => exact wpAny_pure hQ
theorem SR.kpGet {h : Heap} {p : Addr × Obj} (hs : SR C ad st h) (hp : p ∈ C.kp) : h.get? p.1 = some p.2 := by
  obtain ⟨⟨gg, hgg, m, news, F, N, _⟩, _⟩ := hs
  exact (N p (List.mem_append_right _ hp)).1
/-- over a list of the store -/
theorem iter_list {k : Nat} {vs : List V} (hh : C.A.handled = none) (hk : st.os[k]? = some (.list vs)) : IterOf C (.ref k) st vs (fun st' => st'.os[k]? = some (.list vs)) := fun s ad w hs rw' K hK => by
  obtain ⟨a, ws, ha, hla, hva⟩ := hs.list hk
  cases rw'.ref ha
  refine wpAny_pyIter_list hla (hK s.heap.objs.size (fun i ks => ∃ ob, ks = [(s.heap.objs.size, ob)] ∧ ob.cls = .type "list_iterator" ∧ ob.data = .fields #[.ref a, .int i 0]) _ _ ⟨?_, ?_, ?_, ?_⟩ ⟨_, rfl, rfl, rfl⟩ (Same.hp s _) (hs.keep _))
  · rintro C₂ ⟨hp2, hw2, hA2⟩ i v ks kp st' s' ad' hv ⟨ob, rfl, hc, hd⟩ hdep px hs' K' hK'
    obtain ⟨a', ws', ha', hla', hva'⟩ := SR.list hs' hdep
    rw [get_prefix px ha] at ha'
    cases ha'
    obtain ⟨w, hw, hvw⟩ := hva'.get hv
    have hI : s'.heap.get? s.heap.objs.size = some ob := by
      obtain ⟨⟨gg, hgg, m, news, F, N, _⟩, _⟩ := hs'
      exact (N _ (List.mem_append_right _ (.head _))).1
    refine wpAny_pyNext_list_item ⟨ob, hI, hc, hd⟩ hla' (by simpa using hw) fun h' hit hsb => ?_
    obtain ⟨ob', h1, h2, h3⟩ := hit
    exact hK' w _ [(_, ob')] (Same.hp s' h') ⟨ob', rfl, h2, h3⟩ (SR.touch hs' (fun b o hb e => hsb.extBut b o hb e) h1) hvw
  · rintro C₂ ⟨hp2, hw2, hA2⟩ ks kp st' s' ad' ⟨ob, rfl, hc, hd⟩ hdep px hs' K' hK'
    obtain ⟨a', ws', ha', hla', hva'⟩ := SR.list hs' hdep
    rw [get_prefix px ha] at ha'
    cases ha'
    have hI : s'.heap.get? s.heap.objs.size = some ob := by
      obtain ⟨⟨gg, hgg, m, news, F, N, _⟩, _⟩ := hs'
      exact (N _ (List.mem_append_right _ (.head _))).1
    refine wpAny_pyNext_list_end (by rw [hA2]; exact hh) ⟨ob, hI, hc, hd⟩ hla' (by simp [hva'.length]) fun h' he => ?_
    exact hK' _ (Same.hp s' h') (SR.gone hs' fun b o hb e => he b o hb e)
  · rintro C₂ i ks kp st' s' ad' ⟨ob, rfl, hc, hd⟩ hs' K' hK'
    have hI : s'.heap.get? s.heap.objs.size = some ob := by
      obtain ⟨⟨gg, hgg, m, news, F, N, _⟩, _⟩ := hs'
      exact (N _ (List.mem_append_right _ (.head _))).1
    exact wpAny_pyIter_listiter ⟨ob, hI, hc, hd⟩ hK'
  · rintro C₂ i ks kp st' s' ad' w t ⟨ob, rfl, hc, hd⟩ hs' K' hK'
    exact own_plain (hs'.kpGet (p := (s.heap.objs.size, ob)) (.head _)) hc (by decide) hK'
theorem iter_tuple {k : Nat} {vs : List V} (hh : C.A.handled = none) (hk : st.os[k]? = some (.tuple vs)) : IterOf C (.ref k) st vs (fun st' => st'.os[k]? = some (.tuple vs)) := fun s ad w hs rw' K hK => by
  obtain ⟨a, ws, ha, hla, hva⟩ := hs.tuple hk
  cases rw'.ref ha
  refine wpAny_pyIter_tuple hla (hK s.heap.objs.size (fun i ks => ∃ ob, ks = [(s.heap.objs.size, ob)] ∧ ob.cls = .type "tuple_iterator" ∧ ob.data = .fields #[.ref a, .int i 0]) _ _ ⟨?_, ?_, ?_, ?_⟩ ⟨_, rfl, rfl, rfl⟩ (Same.hp s _) (hs.keep _))
  · rintro C₂ ⟨hp2, hw2, hA2⟩ i v ks kp st' s' ad' hv ⟨ob, rfl, hc, hd⟩ hdep px hs' K' hK'
    obtain ⟨a', ws', ha', hla', hva'⟩ := SR.tuple hs' hdep
    rw [get_prefix px ha] at ha'
    cases ha'
    obtain ⟨w, hw, hvw⟩ := hva'.get hv
    have hI : s'.heap.get? s.heap.objs.size = some ob := by
      obtain ⟨⟨gg, hgg, m, news, F, N, _⟩, _⟩ := hs'
      exact (N _ (List.mem_append_right _ (.head _))).1
    refine wpAny_pyNext_tuple_item ⟨ob, hI, hc, hd⟩ hla' (by simpa using hw) fun h' hit hsb => ?_
    obtain ⟨ob', h1, h2, h3⟩ := hit
    exact hK' w _ [(_, ob')] (Same.hp s' h') ⟨ob', rfl, h2, h3⟩ (SR.touch hs' (fun b o hb e => hsb.extBut b o hb e) h1) hvw
  · rintro C₂ ⟨hp2, hw2, hA2⟩ ks kp st' s' ad' ⟨ob, rfl, hc, hd⟩ hdep px hs' K' hK'
    obtain ⟨a', ws', ha', hla', hva'⟩ := SR.tuple hs' hdep
    rw [get_prefix px ha] at ha'
    cases ha'
    have hI : s'.heap.get? s.heap.objs.size = some ob := by
      obtain ⟨⟨gg, hgg, m, news, F, N, _⟩, _⟩ := hs'
      exact (N _ (List.mem_append_right _ (.head _))).1
    refine wpAny_pyNext_tuple_end (by rw [hA2]; exact hh) ⟨ob, hI, hc, hd⟩ hla' (by simp [hva'.length]) fun h' he => ?_
    exact hK' _ (Same.hp s' h') (SR.gone hs' fun b o hb e => he b o hb e)
  · rintro C₂ i ks kp st' s' ad' ⟨ob, rfl, hc, hd⟩ hs' K' hK'
    have hI : s'.heap.get? s.heap.objs.size = some ob := by
      obtain ⟨⟨gg, hgg, m, news, F, N, _⟩, _⟩ := hs'
      exact (N _ (List.mem_append_right _ (.head _))).1
    exact wpAny_pyIter_tupleiter ⟨ob, hI, hc, hd⟩ hK'
  · rintro C₂ i ks kp st' s' ad' w t ⟨ob, rfl, hc, hd⟩ hs' K' hK'
    exact own_plain (hs'.kpGet (p := (s.heap.objs.size, ob)) (.head _)) hc (by decide) hK'
/-- over a range of the store -/
theorem iter_range {k : Nat} {a b c : Int} {n : Nat} (hh : C.A.handled = none) (hk : st.os[k]? = some (.range a b c)) (hsm : Builtin.Range.small a b c = true) (hn : Builtin.Range.rangeSize a b c = (n : Int)) :
    IterOf C (.ref k) st ((List.range n).map fun (i : Nat) => V.int (a + (i : Int) * c)) (fun _ => True) := fun s ad w hs rw' K hK => by
  obtain ⟨r, ob, hr, ho, ⟨t, u, v, rfl⟩, _⟩ := hs.at hk
  cases rw'.ref hr
  refine wpAny_pyIter_range ho hsm (hK s.heap.objs.size (fun i ks => ∃ ob h₁, ks = [(s.heap.objs.size, ob)] ∧ h₁.get? s.heap.objs.size = some ob ∧ IsRangeIter h₁ s.heap.objs.size (a + (i : Nat) * c) ((n : Int) - (i : Nat)) c) [(s.heap.objs.size, { cls := .type "range_iterator", data := .fields #[rawInt a, rawInt (Builtin.Range.rangeSize a b c), rawInt c] })] _ ⟨?_, ?_, ?_, ?_⟩ ?_ (Same.hp s _) (hs.keep { cls := .type "range_iterator", data := .fields #[rawInt a, rawInt (Builtin.Range.rangeSize a b c), rawInt c] }))
  · rintro C₂ ⟨hp2, hw2, hA2⟩ i v ks kp st' s' ad' hv ⟨ob, h₁, rfl, hc, hd⟩ hdep px hs' K' hK'
    have hI : s'.heap.get? s.heap.objs.size = some ob := by
      obtain ⟨⟨gg, hgg, m, news, F, N, _⟩, _⟩ := hs'
      exact (N _ (List.mem_append_right _ (.head _))).1
    have hi : i < n := by
      have := (List.getElem?_eq_some_iff.mp hv).1
      simpa using this
    have hv' : v = .int (a + i * c) := by
      rw [List.getElem?_map, List.getElem?_range hi] at hv
      exact (Option.some.inj hv).symm
    subst hv'
    have W := Walks.range (prog := C₂.prog) (w := C₂.w) (A := C₂.A) (by rw [hA2]; exact hh) s.heap.objs.size a c n
    refine W.item i s' _ _ hi (W.frame i h₁ s'.heap hd fun b hb o e => by
      rw [List.mem_singleton.mp hb] at e ⊢
      rw [hc] at e
      cases e
      exact hI) fun w h' tk hP hst hk => ?_
    obtain ⟨t', rfl⟩ := hP
    exact hK' _ _ [(_, _)] (Same.mk' s' h' tk) ⟨_, h', rfl, hst, hst⟩ (SR.touch hs' (fun b o hb e => hk b o (fun q => hb (List.mem_singleton.mp q)) e) hst) ⟨t', rfl⟩
  · rintro C₂ ⟨hp2, hw2, hA2⟩ ks kp st' s' ad' ⟨ob, h₁, rfl, hc, hd⟩ hdep px hs' K' hK'
    have hI : s'.heap.get? s.heap.objs.size = some ob := by
      obtain ⟨⟨gg, hgg, m, news, F, N, _⟩, _⟩ := hs'
      exact (N _ (List.mem_append_right _ (.head _))).1
    have W := Walks.range (prog := C₂.prog) (w := C₂.w) (A := C₂.A) (by rw [hA2]; exact hh) s.heap.objs.size a c n
    rw [List.length_map, List.length_range] at hd
    refine W.done s' _ _ (W.frame n h₁ s'.heap hd fun b hb o e => by
      rw [List.mem_singleton.mp hb] at e ⊢
      rw [hc] at e
      cases e
      exact hI) fun h' tk hk => ?_
    exact hK' _ (Same.mk' s' h' tk) (SR.gone hs' fun b o hb e => hk b o (fun q => hb (List.mem_singleton.mp q)) e)
  · rintro C₂ i ks kp st' s' ad' ⟨ob, h₁, rfl, hc, hd⟩ hs' K' hK'
    have hI : s'.heap.get? s.heap.objs.size = some ob := by
      obtain ⟨⟨gg, hgg, m, news, F, N, _⟩, _⟩ := hs'
      exact (N _ (List.mem_append_right _ (.head _))).1
    have e : IsRangeIter s'.heap s.heap.objs.size (a + (i : Nat) * c) ((n : Int) - (i : Nat)) c := by
      exact hI.trans (hc.symm.trans hd)
    exact wpAny_pyIter_rangeiter e hK'
  · rintro C₂ i ks kp st' s' ad' w t ⟨ob, h₁, rfl, hc, hd⟩ hs' K' hK'
    have e : IsRangeIter s'.heap s.heap.objs.size (a + (i : Nat) * c) ((n : Int) - (i : Nat)) c := (hs'.kpGet (p := (s.heap.objs.size, ob)) (.head _)).trans (hc.symm.trans hd)
    exact own_plain e rfl (by decide) hK'
  · refine ⟨_, s.heap.push _, rfl, Heap.get?_push_size _ rfl, ?_⟩
    show IsRangeIter _ _ _ _ _
    rw [hn]
    simpa using Heap.get?_push_size _ rfl
/-- the loop -/
theorem xv_for {t iter : Expr} {body : List Stmt} {Q : F → St → Prop}
    (h : EV C iter st (fun v st1 => ∃ (items : List V) (dep : St → Prop) (I : Nat → St → Prop), IterOf C v st1 items dep ∧ (∃ l₀, Sub l₀ st1.m ∧ I 0 ⟨l₀, st1.os⟩) ∧ (∀ i st', I i st' → dep st') ∧
      (∀ i v st' kp, items[i]? = some v → I i st' → AS (C.kept kp) t v st' (fun st2 => SV (C.kept kp) body st2 (ForT C st1.os.length (I (i + 1)) Q))) ∧ (∀ st', I items.length st' → Q .next st')))
    (hs : ∀ x, foldedSetIterable iter C.env x = pure x := by intro _; rfl) : XV C (.For t iter body [] pos) st Q := .mk fun s ad hs₀ => At.mk fun K hK => by
  refine wpAny_For ((h.go s ad hs₀).run _ fun v st1 s1 ad1 w q1 e1 p1 hs1 r1 => ?_) hs
  obtain ⟨items, dep, I, hit, ⟨l₀, hsub, hI0⟩, hdep, turn, done⟩ := q1
  refine hit s1 ad1 w hs1 r1 _ fun It inv ks s2 ai hinv e2 hs2 => ?_
  refine codeAny_forLoop_any (fun n s' => ∃ i st' ad' ks', n + i = items.length + 1 ∧ i ≤ items.length ∧ I i st' ∧ inv i ks' ∧ Same s s' ∧ ad1 <+: ad' ∧ SR (C.kept (ks' ++ C.kp)) ad' st' s'.heap) ?_ (items.length + 1) ⟨0, _, ad1, ks, rfl, Nat.zero_le _, hI0, hinv, e1.trans e2, List.prefix_refl _, hs2.weak hsub⟩
  rintro n s' ⟨i, st', ad', ks', hni, hile, hI, hinv', e', p', hs'⟩
  by_cases hi : i < items.length
  · refine wpNo (ai.next C ⟨rfl, rfl, rfl⟩ i items[i] ks' C.kp st' s' ad' (by simp [hi]) hinv' (hdep _ _ hI) p' hs' _ fun w s3 ks3 e3 hinv3 hs3 r3 => ?_)
    refine wpNo (ai.own C (i + 1) ks3 C.kp st' s3 ad' w t hinv3 hs3 _ ?_)
    refine wpNo (((turn i _ st' (ks3 ++ C.kp) (by simp [hi]) hI).go s3 ad' w hs3 r3).run _ fun _ st4 s4 ad4 _ q4 e4 p4 hs4 _ => ?_)
    refine wpNo ((q4.go s4 ad4 hs4).run _ fun f st5 s5 ad5 f' q5 e5 p5 hs5 r5 => ?_)
    have more : (∃ st', Wk C st5 st' ∧ st1.os.length ≤ st'.os.length ∧ I (i + 1) st') → ∃ m, m < n ∧ ∃ i st' ad' ks', m + i = items.length + 1 ∧ i ≤ items.length ∧ I i st' ∧ inv i ks' ∧ Same s s5 ∧ ad1 <+: ad' ∧ SR (C.kept (ks' ++ C.kp)) ad' st' s5.heap := by
      rintro ⟨st6, wk, hl, hI6⟩
      have wk' : Wk (C.kept (ks3 ++ C.kp)) st5 st6 := ⟨wk.1, wk.2.imp id fun k => ⟨k.os, k.lb, k.ob, k.cb⟩⟩
      obtain ⟨ad6, hs6, px⟩ := hs5.wk wk'
      exact ⟨n - 1, by omega, i + 1, st6, ad6, ks3, by omega, by omega, hI6, hinv3, e'.trans (e3.trans (e4.trans e5)), px _ (p'.trans (p4.trans p5)) (by rw [hs1.len]; exact hl), hs6⟩
    cases f with
    | next => cases r5; exact more q5
    | cont => cases r5; exact more q5
    | brk => cases r5; exact hK .next st5 s5 ad5 .next q5 (e'.trans (e3.trans (e4.trans e5))) (p1.trans (p'.trans (p4.trans p5))) hs5.drop rfl
    | ret v =>
      obtain ⟨w, rfl, hw⟩ := r5
      exact hK (.ret v) st5 s5 ad5 _ q5 (e'.trans (e3.trans (e4.trans e5))) (p1.trans (p'.trans (p4.trans p5))) hs5.drop ⟨w, rfl, hw⟩
  · obtain rfl : i = items.length := by omega
    · refine wpNo (ai.done C ⟨rfl, rfl, rfl⟩ ks' C.kp st' s' ad' hinv' (hdep _ _ hI) p' hs' _ fun s3 e3 hs3 => ?_)
      exact wpAny_execs_nil (hK .next st' s3 ad' .next (done st' hI) (e'.trans e3) (p1.trans p') hs3 rfl)
theorem as_name {x : Str} {px : Pos} {v : V} {Q : St → Prop} (G : Gd C sc lv) (h : Q (st.set x v)) (hl : sc.names.lookup x = some .local := by rfl) : AS C (.Name x px) v st Q := .mk fun s ad w hs r => At.mk fun K hK =>
  wpAny_assign_Name (hs.store r G hl fun s' e' hs' => hK () _ s' ad () h e' (List.prefix_refl _) hs' trivial)
end
end Mine
namespace Mine
/-- the type of a value, where it is plain -/
def TyIs (st : St) : V → String → Prop
  | .none, T => T = "NoneType"
  | .bool _, T => T = "bool"
  | .int _, T => T = "int"
  | .str _, T => T = "str"
  | .bytes _, T => T = "bytes"
  | .ref k, T => (∃ vs, st.os[k]? = some (.list vs) ∧ T = "list") ∨ (∃ vs, st.os[k]? = some (.tuple vs) ∧ T = "tuple")
  | .fix _, _ => False
section
variable {C : Cx} {sc : Scope} {lv : Nat} {st : St} {pos : Pos} {Q : V → St → Prop} {ad : List Addr}
theorem TyIs.is {s : Shared} {v : V} {w : Value} {T : String} (h : TyIs st v T) (hs : SR C ad st s.heap) (r : VR ad v w) : s.TypeIs w T ∧ ∀ a, w = .ref a → ∃ ob, s.heap.get? a = some ob ∧ ob.dict = none := by
  cases v with
  | none => cases h; cases r; exact ⟨rfl, fun _ e => nomatch e⟩
  | bool b => cases h; cases r; exact ⟨rfl, fun _ e => nomatch e⟩
  | int n => cases h; obtain ⟨t, rfl⟩ := r; exact ⟨rfl, fun _ e => nomatch e⟩
  | str x => cases h; obtain ⟨t, rfl⟩ := r; exact ⟨rfl, fun _ e => nomatch e⟩
  | bytes b => cases h; obtain ⟨t, rfl⟩ := r; exact ⟨rfl, fun _ e => nomatch e⟩
  | fix v => exact h.elim
  | ref k =>
    rcases h with ⟨vs, hk, rfl⟩ | ⟨vs, hk, rfl⟩
    · obtain ⟨a, ob, h1, h2, ⟨ws, n, rfl, hv⟩, _⟩ := hs.at hk
      cases r.ref h1
      exact ⟨⟨_, h2, rfl⟩, fun b e => by cases e; exact ⟨_, h2, rfl⟩⟩
    · obtain ⟨a, ob, h1, h2, ⟨ws, n, rfl, hv⟩, _⟩ := hs.at hk
      cases r.ref h1
      exact ⟨⟨_, h2, rfl⟩, fun b e => by cases e; exact ⟨_, h2, rfl⟩⟩
/-- a method of a built-in type, no argument -/
theorem ev_meth0 {o : Expr} {name : Str} {apos : Pos} {T id : String} (pa : PlainAttrs T) (slot : Slot T name id) (hty : typeOf (.builtin id) = pure (.type "method_descriptor"))
    (h : EV C o st (fun ov st1 => TyIs st1 ov T ∧ CL C (.builtin id) [ov] st1 Q)) (hline : (apos.endLine == pos.line) = true := by rfl) (hbase : attributeBase o name C.env (eval o C.env) = eval o C.env := by rfl) :
    EV C (.Call (.Attribute o name apos) [] [] pos) st Q := .mk fun s ad hs => At.mk fun K hK =>
  wpAny_Call_method hbase rfl hline pa slot hty ((h.go s ad hs).run _ fun v st1 s1 ad1 w q1 e1 p1 hs1 r1 => by
    obtain ⟨h1, h2⟩ := q1.1.is hs1 r1
    refine ⟨h1, h2, callWith_builtin rfl (PySem.evalArgs_none ?_)⟩
    exact (q1.2.go s1 ad1 [w] hs1 (.cons r1 .nil)).run K fun v st3 s3 ad3 w q3 e3 p3 hs3 r3 => hK v st3 s3 ad3 w q3 (e1.trans e3) (p1.trans p3) hs3 r3)
/-- ... one argument or more -/
theorem ev_meth {o e : Expr} {rest : List Expr} {name : Str} {apos : Pos} {T id : String} (pa : PlainAttrs T) (slot : Slot T name id) (hty : typeOf (.builtin id) = pure (.type "method_descriptor"))
    (h : EV C o st (fun ov st1 => TyIs st1 ov T ∧ AV C pos (e :: rest) st1 (fun vs st2 => CL C (.builtin id) (ov :: vs) st2 Q))) (hline : (apos.endLine == pos.line) = true := by rfl) (hbase : attributeBase o name C.env (eval o C.env) = eval o C.env := by rfl)
    (hst : starEach (e :: rest) C.env = (false, eval e C.env) :: starEach rest C.env := by rfl) (hp : (starEach (e :: rest) C.env).any (·.1) = false := by rfl)
    (hfew : ((backTo pos (starEach (e :: rest) C.env)).all (fun x => !x.1) && (backToKw pos (keywordEach [] C.env)).all (fun x => x.1.isSome)
      && decide ((e :: rest).length + ([] : List Keyword).length + (if ([] : List Keyword).isEmpty then 0 else 1) < 30)) = true := by rfl) :
    EV C (.Call (.Attribute o name apos) (e :: rest) [] pos) st Q := .mk fun s ad hs => At.mk fun K hK =>
  wpAny_Call_method hbase hfew hline pa slot hty ((h.go s ad hs).run _ fun v st1 s1 ad1 w q1 e1 p1 hs1 r1 => by
    obtain ⟨h1, h2⟩ := q1.1.is hs1 r1
    refine ⟨h1, h2, callWith_builtin (plain_backTo hp) ?_⟩
    have := q1.2.go s1 ad1 hs1
    revert this
    show At C ad1 s1 VRs (spliced (backTo pos (starEach (e :: rest) C.env))) _ → _
    rw [hst]
    intro q1
    exact evalArgs_plain (q1.run _ fun vs st2 s2 ad2 ws q2 e2 p2 hs2 r2 => (q2.go s2 ad2 (w :: ws) hs2 (.cons (r1.mono p2) r2)).run K fun v st3 s3 ad3 w q3 e3 p3 hs3 r3 => hK v st3 s3 ad3 w q3 (e1.trans (e2.trans e3)) (p1.trans (p2.trans p3)) hs3 r3))
theorem cl_bits {x : Int} (h : Q (.int ((Builtin.Int.intBits x : Nat) : Int)) st) : CL C (.builtin "int.bit_length") [.int x] st Q := .mk fun s ad ws hs hr => by
  cases hr with | cons a hr => cases hr with | nil =>
  obtain ⟨t, rfl⟩ := a
  refine At.tick (a := .int _ s.toks) hs h ⟨_, rfl⟩ fun K hK => ?_
  exact call_gives F.slot_int_bit_length (typeIs_int s x t) F.entry_int_bit_length (F.args_int_bit_length_1 _) (AutoIntG2.int_bit_length_int_0 x t) (hK _)
theorem cl_type {v : V} {T : String} (ht : TyIs st v T) (hT : (Value.type T == Value.type "builtin_function_or_method") = false) (h : Q (.fix (.type T)) st) : CL C (.type "type") [v] st Q := .mk fun s ad ws hs hr => by
  cases hr with | cons a hr => cases hr with | nil =>
  exact At.stay (a := .type T) hs h rfl fun K hK => call_type_of (ht.is hs a).1 hT hK
theorem co_isnot {a b : Value} (hp : plainIs a b = true) (h : Q (.bool (!(a == b))) st) : CO C .IsNot (.fix a) (.fix b) st Q := .mk fun s ad va vb hs ra rb => by
  cases ra; cases rb
  exact At.stay (a := .bool _) hs h rfl fun K hK => wpAny_isNot_plain hp hK
theorem co_is {a b : Value} (hp : plainIs a b = true) (h : Q (.bool (a == b)) st) : CO C .Is (.fix a) (.fix b) st Q := .mk fun s ad va vb hs ra rb => by
  cases ra; cases rb
  exact At.stay (a := .bool _) hs h rfl fun K hK => wpAny_is_plain hp hK
theorem cl_range1 {n : Int} (h : Q (.ref st.os.length) (st.add (.range 0 n 1))) : CL C (.type "range") [.int n] st Q := .mk fun s ad ws hs hr => At.mk fun K hK => by
  cases hr with | cons a hr => cases hr with | nil =>
  obtain ⟨t, rfl⟩ := a
  have hl := hs.len
  obtain ⟨⟨gg, hgg, m, news, F, N, c, d, o, r⟩, hc⟩ := hs
  refine call_range_1 ?_
  exact hK _ _ _ _ _ h (Same.mk' s _ _) (List.prefix_append _ _) (sr_alloc hgg N c d o r hc (F.push _) (N.push F _) ⟨_, _, _, rfl⟩) (ref_new _ _ _ hl)
theorem cl_range2 {a b : Int} (h : Q (.ref st.os.length) (st.add (.range a b 1))) : CL C (.type "range") [.int a, .int b] st Q := .mk fun s ad ws hs hr => At.mk fun K hK => by
  cases hr with | cons a hr => cases hr with | cons b hr => cases hr with | nil =>
  obtain ⟨t, rfl⟩ := a
  obtain ⟨u, rfl⟩ := b
  have hl := hs.len
  obtain ⟨⟨gg, hgg, m, news, F, N, c, d, o, r⟩, hc⟩ := hs
  refine call_range_2 ?_
  exact hK _ _ _ _ _ h (Same.mk' s _ _) (List.prefix_append _ _) (sr_alloc hgg N c d o r hc (F.push _) (N.push F _) ⟨_, _, _, rfl⟩) (ref_new _ _ _ hl)
theorem cl_range3 {a b c : Int} (hc0 : c ≠ 0) (hp : c.natAbs.log2 < 9000) (h : Q (.ref st.os.length) (st.add (.range a b c))) : CL C (.type "range") [.int a, .int b, .int c] st Q := .mk fun s ad ws hs hr => At.mk fun K hK => by
  cases hr with | cons a hr => cases hr with | cons b hr => cases hr with | cons c' hr => cases hr with | nil =>
  obtain ⟨t, rfl⟩ := a
  obtain ⟨u, rfl⟩ := b
  obtain ⟨v, rfl⟩ := c'
  have hl := hs.len
  obtain ⟨⟨gg, hgg, m, news, F, N, c', d, o, r⟩, hc⟩ := hs
  refine call_range_3 hc0 ?_ (.inl (PyProof.noPylong_of_log2 hp))
  exact hK _ _ _ _ _ h (Same.mk' s _ _) (List.prefix_append _ _) (sr_alloc hgg N c' d o r hc (F.push _) (N.push F _) ⟨_, _, _, rfl⟩) (ref_new _ _ _ hl)
end
end Mine
namespace Mine
/-- the i-th statement of a program, a def -/
def drec (p : Program) (i : Nat) : DefRec := match p.main.body[i]? with
  | some (.FunctionDef n a b _ _ _ sc _ _ pos) => ⟨n, a, b, sc, pos⟩
  | _ => ⟨Str.empty, ⟨[], [], none, [], [], none, []⟩, [], ⟨.module, [], false, false, []⟩, ⟨0, 0, 0, 0⟩⟩
theorem Sim.frNil {h₀ g h : Heap} {L : Addr} {m : Str → Option Value} (k : Sim h₀ [] g) (F : Fr g L h m) : Fr h₀ L h m := ⟨F.ns, fun b o e => F.keep b o (k.same b o e (fun q => nomatch q)), by rw [← k.size]; exact F.above⟩
/-- what the law's call must show: from the frame as the head leaves it -/
theorem enter {body : List Stmt} {E : Value → Shared → Prop} {K : Flow → Shared → Prop} {s : Shared} {m : Str → Option Value} {x : Str} {l : Addr} (C : Cx)
    (hkp : C.kp = []) (hcl : C.cl = []) (hof : C.of = []) (F : Fr C.h₀ C.env.locals s.heap m) (hm : m x = some (.ref l))
    (h : SV C body ⟨[(x, .fix (.ref l))], []⟩ (fun f _ => f = .ret (.bool true)))
    (hK : ∀ h' tk m', Fr C.h₀ C.env.locals h' m' → K (.ret (.bool true)) { s with heap := h', toks := tk }) : wpAny C.M C.A (execs body C.env) K E s := by
  refine wpNo ((h.go s [] ⟨⟨_, Sim.refl _ _, m, [], F, by rw [hkp]; exact News.nil, rfl, by rw [hkp]; exact List.nodup_nil, .nil, fun y v e => ?_⟩, by rw [hcl]; exact fun _ _ e => nomatch e⟩).run K fun f st' s' ad' f' q e p hs' r => ?_)
  · rw [List.lookup_cons] at e
    cases hy : y == x with
    | true =>
      rw [hy] at e
      cases e
      rw [eq_of_beq hy]
      exact ⟨_, hm, rfl⟩
    | false => rw [hy] at e; cases e
  · subst q
    obtain ⟨w, rfl, hw⟩ := r
    cases hw
    obtain ⟨h', tk, rfl⟩ := e
    obtain ⟨⟨gg, hgg, m', news, F', _⟩, _⟩ := hs'
    rw [hof] at hgg
    exact hK h' tk m' (hgg.frNil F')
abbrev mkCx (prog : Program) (w : World) (A : Around) (env : Env) (h₀ : Heap) (p : Program) (loose : List Str) (mean : ExcName → Option Value) (mg mb : Str → Option Value) : Cx := ⟨prog, w, A, env, h₀, [], [], p, loose, mean, mg, mb, h₀, []⟩
theorem enterT {prog : Program} {w : World} {A : Around} {env : Env} {h₀ : Heap} {p : Program} {loose : List Str} {mean : ExcName → Option Value} {mg mb : Str → Option Value} {body : List Stmt} {E : Value → Shared → Prop} {K : Flow → Shared → Prop} {s : Shared} {m : Str → Option Value} {x : Str} {l : Addr}
    (T : Top p loose mean mg mb h₀) (F : Fr h₀ env.locals s.heap m) (hm : m x = some (.ref l))
    (h : SV (mkCx prog w A env h₀ p loose mean mg mb) body ⟨[(x, .fix (.ref l))], []⟩ (fun f _ => f = .ret (.bool true)))
    (hK : ∀ h' tk m', Fr h₀ env.locals h' m' → K (.ret (.bool true)) { s with heap := h', toks := tk }) : wpAny (model prog w) A (execs body env) K E s :=
  enter (mkCx prog w A env h₀ p loose mean mg mb) rfl rfl rfl F hm h hK
theorem blt_of {prog : Program} {w : World} {A : Around} {env : Env} {h₀ : Heap} {p : Program} {loose : List Str} {mean : ExcName → Option Value} {mg mb : Str → Option Value} {x : Str} {v : Value} (T : Top p loose mean mg mb h₀)
    (hv : bootBuiltins x = some v) (hn : x ≠ "__name__") (h1 : x ∉ startupNames) (h2 : x ∉ loose) (h3 : x ∉ (recsOf p).map (·.name)) (h4 : x ∉ (litsOf p).map (·.1)) (h5 : x ∉ (clssOf p loose).map (·.name)) : Blt (mkCx prog w A env h₀ p loose mean mg mb) x v :=
  ⟨T.free x h1 h2 h3 h4 h5, hv, hn⟩
/-- _count_righthand_zero_bits -/
def crz (n b : Int) : Int := if n = 0 then b else if ((Builtin.Int.intBits (Builtin.bitAnd (Builtin.bitNot n) (n - 1)) : Nat) : Int) < b then ((Builtin.Int.intBits (Builtin.bitAnd (Builtin.bitNot n) (n - 1)) : Nat) : Int) else b
end Mine
namespace Mine
open PySem.Builtin.Int (intBits)
theorem two_pos (t : Nat) : (0 : Int) < 2 ^ t := Int.pow_pos (by decide)
theorem odd_part : ∀ (k : Nat) (n : Int), n.natAbs ≤ k → n ≠ 0 → ∃ (t : Nat) (a : Int), n = 2 ^ t * (2 * a + 1)
  | 0, n, h, h0 => absurd (Int.natAbs_eq_zero.mp (Nat.le_zero.mp h)) h0
  | k + 1, n, h, h0 => by
    by_cases hn : n % 2 = 1
    · exact ⟨0, n / 2, by omega⟩
    · obtain ⟨t, a, e⟩ := odd_part k (n / 2) (by omega) (by omega)
      refine ⟨t + 1, a, ?_⟩
      rw [Int.pow_succ, Int.mul_comm ((2 : Int) ^ t) 2, Int.mul_assoc, ← e]
      omega
theorem and_not (a : Int) : Builtin.bitAnd (-a - 1) a = 0 := by
  unfold Builtin.bitAnd
  by_cases h : 0 ≤ a
  · have h1 : decide (0 ≤ -a - 1) = false := decide_eq_false (by omega)
    have h2 : decide (0 ≤ a) = true := decide_eq_true h
    rw [h1, h2]
    show a - ((a.toNat &&& (Builtin.bitNot (-a - 1)).toNat : Nat) : Int) = 0
    have : Builtin.bitNot (-a - 1) = a := by unfold Builtin.bitNot; omega
    rw [this, Nat.and_self]
    omega
  · have h1 : decide (0 ≤ -a - 1) = true := decide_eq_true (by omega)
    have h2 : decide (0 ≤ a) = false := decide_eq_false h
    rw [h1, h2]
    show (-a - 1) - (((-a - 1).toNat &&& (Builtin.bitNot a).toNat : Nat) : Int) = 0
    have : Builtin.bitNot a = -a - 1 := rfl
    rw [this, Nat.and_self]
    omega
theorem low_mask (a : Int) : ∀ t : Nat, Builtin.bitAnd (Builtin.bitNot (2 ^ t * (2 * a + 1))) (2 ^ t * (2 * a + 1) - 1) = 2 ^ t - 1
  | 0 => by
    show Builtin.bitAnd (-(2 ^ 0 * (2 * a + 1)) - 1) _ = _
    rw [kbt_halves, Int.pow_zero, Int.one_mul]
    have h1 : (-(2 * a + 1) - 1) / 2 = -a - 1 := by omega
    have h2 : (2 * a + 1 - 1) / 2 = a := by omega
    rw [h1, h2, and_not, if_neg (by omega)]
    rfl
  | t + 1 => by
    have ih := low_mask a t
    show Builtin.bitAnd (-(2 ^ (t + 1) * (2 * a + 1)) - 1) _ = _
    have e : (2 : Int) ^ (t + 1) * (2 * a + 1) = 2 * (2 ^ t * (2 * a + 1)) := by rw [Int.pow_succ, Int.mul_comm ((2 : Int) ^ t) 2, Int.mul_assoc]
    have e2 : (2 : Int) ^ (t + 1) = 2 * 2 ^ t := by rw [Int.pow_succ, Int.mul_comm]
    have ih' : Builtin.bitAnd (-(2 ^ t * (2 * a + 1)) - 1) (2 ^ t * (2 * a + 1) - 1) = 2 ^ t - 1 := ih
    rw [e]
    generalize (2 : Int) ^ t * (2 * a + 1) = m at ih' ⊢
    rw [kbt_halves, e2]
    have h1 : (-(2 * m) - 1) / 2 = -m - 1 := by omega
    have h2 : (2 * m - 1) / 2 = m - 1 := by omega
    rw [h1, h2, ih', if_pos (by omega)]
    omega
theorem bits_mask (t : Nat) : intBits ((2 : Int) ^ t - 1) = t := by
  have hp : (1 : Nat) ≤ 2 ^ t := Nat.one_le_two_pow
  have e : ((2 : Int) ^ t - 1).natAbs = 2 ^ t - 1 := by
    have : ((2 : Int) ^ t) = ((2 ^ t : Nat) : Int) := by rw [Int.natCast_pow]; rfl
    rw [this]; omega
  have h1 : intBits ((2 : Int) ^ t - 1) ≤ t := intBits_le_iff.mpr (by rw [e]; omega)
  cases t with
  | zero => omega
  | succ t =>
    have h2 : ¬ intBits ((2 : Int) ^ (t + 1) - 1) ≤ t := fun h => by
      have := intBits_le_iff.mp h
      rw [e, Nat.pow_succ] at this
      have := Nat.one_le_two_pow (n := t)
      omega
    omega
theorem not_dvd_succ {t : Nat} {a : Int} : ¬ (2 : Int) ^ (t + 1) ∣ 2 ^ t * (2 * a + 1) := by
  rintro ⟨c, hc⟩
  rw [Int.pow_succ, Int.mul_assoc] at hc
  have := Int.eq_of_mul_eq_mul_left (Int.ne_of_gt (two_pos t)) hc
  omega
theorem pow_dvd_pow {i j : Nat} (h : i ≤ j) : (2 : Int) ^ i ∣ 2 ^ j := ⟨2 ^ (j - i), by rw [← Int.pow_add]; congr 1; omega⟩
theorem crz_spec (n b : Int) (hb : 0 ≤ b) : ∃ t : Nat, crz n b = t ∧ (t : Int) ≤ b ∧ (2 : Int) ^ t ∣ n ∧ ((t : Int) < b → ¬ (2 : Int) ^ (t + 1) ∣ n) := by
  by_cases h0 : n = 0
  · refine ⟨b.toNat, ?_, by omega, by rw [h0]; exact Int.dvd_zero _, by omega⟩
    unfold crz
    rw [if_pos h0]
    omega
  · obtain ⟨t, a, e⟩ := odd_part _ n (Nat.le_refl _) h0
    have hL : intBits (Builtin.bitAnd (Builtin.bitNot n) (n - 1)) = t := by rw [e, low_mask, bits_mask]
    unfold crz
    rw [if_neg h0, hL]
    by_cases hc : (t : Int) < b
    · rw [if_pos hc]
      exact ⟨t, rfl, by omega, ⟨2 * a + 1, e⟩, fun _ => by rw [e]; exact not_dvd_succ⟩
    · rw [if_neg hc]
      refine ⟨b.toNat, by omega, by omega, Int.dvd_trans (pow_dvd_pow (by omega)) ⟨2 * a + 1, e⟩, by omega⟩
theorem crz_eq {n b : Int} {t : Nat} (h1 : (t : Int) ≤ b) (h2 : (2 : Int) ^ t ∣ n) (h3 : (t : Int) < b → ¬ (2 : Int) ^ (t + 1) ∣ n) : crz n b = t := by
  obtain ⟨u, e, u1, u2, u3⟩ := crz_spec n b (by omega)
  rw [e]
  by_cases hlt : u < t
  · exact absurd (Int.dvd_trans (pow_dvd_pow hlt) h2) (u3 (by omega))
  · by_cases hgt : t < u
    · exact absurd (Int.dvd_trans (pow_dvd_pow hgt) u2) (h3 (by omega))
    · omega
theorem crz_neg (n b : Int) (hb : 0 ≤ b) : crz (-n) b = crz n b := by
  obtain ⟨t, e, h1, h2, h3⟩ := crz_spec n b hb
  rw [e]
  exact crz_eq h1 (Int.dvd_neg.mpr h2) fun h h' => h3 h (Int.dvd_neg.mp h')
theorem mem_ints {L : List Int} {i : Nat} {v : V} (h : (L.map V.int)[i]? = some v) : ∃ x, x ∈ L ∧ v = .int x := by
  have := List.mem_of_getElem? h
  obtain ⟨x, hx, rfl⟩ := List.mem_map.mp this
  exact ⟨x, hx, rfl⟩
theorem log2_pow {j : Nat} (h : j < 9000) : ((2 : Int) ^ j).natAbs.log2 < 9000 := by
  have e : ((2 : Int) ^ j).natAbs = 2 ^ j := by rw [Int.natAbs_pow]; rfl
  rw [e, Nat.log2_two_pow]
  exact h
theorem bits_pow_le (j : Nat) : intBits ((2 : Int) ^ j) ≤ j + 1 := intBits_le_iff.mpr (by
  have e : ((2 : Int) ^ j).natAbs = 2 ^ j := by rw [Int.natAbs_pow]; rfl
  rw [e, Nat.pow_succ]
  have := Nat.one_le_two_pow (n := j)
  omega)
theorem mulok_small {a b : Int} (h : b.natAbs < 2 ^ 64) : IntMulOk a b := IntMulOk.of_right (intBits_le_iff.mpr h)
end Mine
namespace Mine
abbrev scEnv (sc : Scope) : Env := { scope := sc, locals := 0, globals := 0, cells := [] }
theorem swapped_scope {ts : List Expr} {v : Expr} {env : Env} {sc : Scope} (h : env.scope = sc) : swappedStores ts v env = swappedStores ts v (scEnv sc) := by
  subst h; rfl
theorem swaps_scope {v : Expr} {t : Option Expr} {n : Nat} {env : Env} {sc : Scope} (h : env.scope = sc) : swapsWith v t n env = swapsWith v t n (scEnv sc) := by
  subst h; rfl
/-- items to targets, one by one -/
structure AO (C : Cx) (ts : List (Value → Sem Unit)) (vs : List V) (st : St) (Q : St → Prop) : Prop where
  go : ∀ s ad ws, SR C ad st s.heap → VRs ad vs ws → At C ad s UR (assignInOrder ts ws) (fun _ st' => Q st')
section
variable {C : Cx} {sc : Scope} {lv : Nat} {st : St} {pos : Pos}
theorem ao_nil {Q : St → Prop} (h : Q st) : AO C [] [] st Q := .mk fun s ad ws hs r => by
  cases r
  exact At.stay (a := ()) (b := ()) hs h trivial fun K hK => assignInOrder_nil hK
theorem ao_cons {t : Expr} {ts : List (Value → Sem Unit)} {v : V} {vs : List V} {Q : St → Prop} (h : AS C t v st (fun st1 => AO C ts vs st1 Q)) : AO C (assign t C.env :: ts) (v :: vs) st Q := .mk fun s ad ws hs r => At.mk fun K hK => by
  cases r with | cons a r =>
  refine assignInOrder_cons ((h.go s ad _ hs a).run _ fun _ st1 s1 ad1 _ q1 e1 p1 hs1 _ => ?_)
  exact (q1.go s1 ad1 _ hs1 (r.mono p1)).run K fun _ st2 s2 ad2 _ q2 e2 p2 hs2 _ => hK () st2 s2 ad2 () q2 (e1.trans e2) (p1.trans p2) hs2 trivial
theorem SR.ext {ad : List Addr} {h h' : Heap} (hs : SR C ad st h) (he : Heap.ExtBut h.objs.size h h') : SR C ad st h' := hs.grown fun b o e => he b o (Nat.ne_of_lt (Heap.lt_size e)) e
theorem as_tuple {es : List Expr} {n k : Nat} {tp : Pos} {vs : List V} {Q : St → Prop} (hh : C.A.handled = none) (hk : st.os[k]? = some (.tuple vs)) (h : AO C ((assignEach es C.env).map (·.2)) vs st Q)
    (hn : (assignEach es C.env).length = vs.length) (hstar : (assignEach es C.env).findIdx? (·.1) = none := by rfl) : AS C (.Tuple es n tp) (.ref k) st Q := .mk fun s ad w hs r => At.mk fun K hK => by
  obtain ⟨a, ws, ha, hla, hva⟩ := hs.tuple hk
  cases r.ref ha
  refine assign_Tuple_tuple hh hla (by rw [hn, List.size_toArray, hva.length]) hstar fun h' he => ?_
  exact (h.go { s with heap := h' } ad ws (hs.ext he) hva).run K fun _ st2 s2 ad2 _ q2 e2 p2 hs2 _ => hK () st2 s2 ad2 () q2 ((Same.hp s h').trans e2) p2 hs2 trivial
/-- a tuple of names, not swapped -/
theorem xv_assignT {es : List Expr} {k : Nat} {tp : Pos} {value : Expr} {Q : F → St → Prop} (G : Gd C sc lv) (h : EV C value st (fun v st1 => AS C (.Tuple es k tp) v st1 (fun st2 => Q .next st2)))
    (hw : swappedStores [.Tuple es k tp] value (scEnv sc) = pure none := by rfl) (hs : swapsWithSole [.Tuple es k tp] value pos.line C.env = pure false := by rfl) : XV C (.Assign [.Tuple es k tp] value pos) st Q := .mk fun s ad hs₀ => At.mk fun K hK =>
  Assign_Tuple ((h.go s ad hs₀).run _ fun v st1 s1 ad1 w q1 e1 p1 hs1 r1 => (q1.go s1 ad1 w hs1 r1).run _ fun _ st2 s2 ad2 _ q2 e2 p2 hs2 _ => hK .next st2 s2 ad2 .next q2 (e1.trans e2) (p1.trans p2) hs2 rfl) hs (by rw [swapped_scope G.scope]; exact hw)
/-- stores, the last name first -/
theorem store_names (G : Gd C sc lv) : ∀ (names : List Str) (vs : List V) (ws : List Value) (st : St) (s : Shared) (ad : List Addr) {K : Unit → Shared → Prop}, names.length = vs.length → (∀ n ∈ names, sc.names.lookup n = some .local) → SR C ad st s.heap → VRs ad vs ws →
    (∀ s', Same s s' → SR C ad ⟨(names.zip vs).reverse ++ st.m, st.os⟩ s'.heap → K () s') → wpAny C.M C.A (assignInOrder (names.map fun n => bindName C.env n) ws) K No s
  | [], vs, ws, st, s, ad, K, hl, hn, hs, r, h => assignInOrder_nil (h s (Same.rfl' s) (by simpa using hs))
  | n :: ns, v :: vs, w :: ws, st, s, ad, K, hl, hn, hs, r, h => by
    cases r with | cons a r =>
    refine assignInOrder_cons (wpAny_bindName (hs.store a G (hn n (.head _)) fun s1 e1 hs1 => ?_))
    refine store_names G ns vs ws _ s1 ad (by simpa using hl) (fun m hm => hn m (.tail _ hm)) hs1 r fun s2 e2 hs2 => h s2 (e1.trans e2) ?_
    simpa using hs2
  | n :: ns, v :: vs, [], st, s, ad, K, hl, hn, hs, r, h => nomatch r
theorem xv_assignS {es : List Expr} {k : Nat} {tp : Pos} {value : Expr} {Q : F → St → Prop} (names : List Str) (G : Gd C sc lv) (hh : C.A.handled = none)
    (h : EV C value st (fun v st1 => ∃ j vs, v = .ref j ∧ st1.os[j]? = some (.tuple vs) ∧ vs.length = names.length ∧ Q .next ⟨(names.reverse.zip vs.reverse).reverse ++ st1.m, st1.os⟩))
    (hl : ∀ n ∈ names, sc.names.lookup n = some .local)
    (hw : swappedStores [.Tuple es k tp] value (scEnv sc) = pure (some names) := by rfl) (hs : swapsWithSole [.Tuple es k tp] value pos.line C.env = pure false := by rfl) : XV C (.Assign [.Tuple es k tp] value pos) st Q := .mk fun s ad hs₀ => At.mk fun K hK =>
  Assign_Tuple_swapped (names := names) ((h.go s ad hs₀).run _ fun v st1 s1 ad1 w q1 e1 p1 hs1 r1 => by
    obtain ⟨j, vs, rfl, hj, hlen, q1⟩ := q1
    obtain ⟨a, ws, ha, hla, hva⟩ := hs1.tuple hj
    cases r1.ref ha
    have hsz : names.length = ws.toArray.size := by rw [List.size_toArray, hva.length, hlen]
    rw [hsz]
    refine wpAny_unpackItems_tuple hh hla fun h' he => ?_
    have e : (names.reverse.map fun n => bindName C.env n) = (names.reverse.map fun n => bindName C.env n) := rfl
    refine store_names G names.reverse vs.reverse _ st1 { s1 with heap := h' } ad1 (by simp [hlen]) (fun n hn => hl n (List.mem_reverse.mp hn)) (hs1.ext he) hva.reverse fun s2 e2 hs2 => ?_
    exact hK .next _ s2 ad1 .next q1 (e1.trans ((Same.hp s1 h').trans e2)) p1 hs2 rfl) hs (by rw [swapped_scope G.scope]; exact hw)
end
end Mine
namespace Mine
/-- an item read -/
structure GI (C : Cx) (a b : V) (st : St) (Q : V → St → Prop) : Prop where
  go : ∀ s ad va vb, SR C ad st s.heap → VR ad a va → VR ad b vb → (∃ T id, s.TypeIs va T ∧ typeLookup (.type T) "__getitem__" = pure (some (.builtin id))) ∧ At C ad s VR (getItem va vb) Q
/-- an item stored -/
structure SI (C : Cx) (a b c : V) (st : St) (Q : St → Prop) : Prop where
  go : ∀ s ad va vb vc, SR C ad st s.heap → VR ad a va → VR ad b vb → VR ad c vc → At C ad s UR (setItem va vb vc) (fun _ st' => Q st')
section
variable {C : Cx} {sc : Scope} {lv : Nat} {st : St} {pos : Pos} {Q : V → St → Prop} {ad : List Addr}
/-- the k-th thing of the store turned -/
theorem SR.upd {h h' : Heap} {k : Nat} {a : Addr} {o : O} {ob' : Obj} (hs : SR C ad st h) (hk : ad[k]? = some a) (hsb : Heap.SameBut a h h') (hg : h'.get? a = some ob') (ho : OR ad o ob') : SR C ad ⟨st.m, st.os.set k o⟩ h' := by
  obtain ⟨⟨gg, hgg, m, news, F, N, c, d, o', r⟩, hc⟩ := hs
  have hkn : ∃ p, news[k]? = some p ∧ p.1 = a := by
    rw [← c, List.getElem?_map] at hk
    cases hp : news[k]? with
    | none => rw [hp] at hk; cases hk
    | some p => rw [hp] at hk; exact ⟨p, rfl, Option.some.inj hk⟩
  obtain ⟨p, hp, rfl⟩ := hkn
  have hlt := (List.getElem?_eq_some_iff.mp hp).1
  have hN := N p (List.mem_append_left _ (List.mem_of_getElem? hp))
  have d' := List.nodup_append.mp d
  have hmap : (news.set k (p.1, ob')).map (·.1) = ad := by
    rw [List.map_set, c]
    refine List.ext_getElem? fun i => ?_
    rw [List.getElem?_set]
    split
    · rename_i e
      subst e
      rw [if_pos (by rw [← c, List.length_map]; exact hlt), ← c, List.getElem?_map, hp]
      rfl
    · rfl
  refine ⟨⟨gg, hgg, m, news.set k (p.1, ob'), ⟨F.ns.at' fun o e => (hsb.2 _ (Ne.symm hN.2.1)).trans e, fun b o e => (hsb.2 b (fun q => by rw [q, hN.2.2] at e; cases e)).trans (F.keep b o e), F.above⟩, fun q hq => ?_, hmap, d, o'.set k ho, r⟩, hc⟩
  rcases List.mem_append.mp hq with hq | hq
  · obtain ⟨i, hi⟩ := List.mem_iff_getElem?.mp hq
    rw [List.getElem?_set] at hi
    split at hi
    · rename_i e
      subst e
      cases hi
      exact ⟨hg, hN.2⟩
    · rename_i ne
      have hq0 := N q (List.mem_append_left _ (List.mem_of_getElem? hi))
      have hne : q.1 ≠ p.1 := fun e => by
        have h1 : ad[i]? = some q.1 := by rw [← c, List.getElem?_map, hi]; rfl
        have h2 : ad[k]? = some p.1 := by rw [← c, List.getElem?_map, hp]; rfl
        have hil : i < ad.length := (List.getElem?_eq_some_iff.mp h1).1
        exact ne ((List.getElem?_inj hil d'.1).mp (h1.trans ((congrArg some e).trans h2.symm))).symm
      exact ⟨(hsb.2 _ hne).trans hq0.1, hq0.2⟩
  · have hq0 := N q (List.mem_append_right _ hq)
    have hne : q.1 ≠ p.1 := fun e => d'.2.2 p.1 (by rw [← c]; exact List.mem_map_of_mem (List.mem_of_getElem? hp)) q.1 (List.mem_map_of_mem hq) e.symm
    exact ⟨(hsb.2 _ hne).trans hq0.1, hq0.2⟩
theorem SR.listO {h : Heap} (hs : SR C ad st h) {k : Nat} {vs : List V} (e : st.os[k]? = some (.list vs)) : ∃ a ws n, ad[k]? = some a ∧ h.get? a = some (listOf ws.toArray n) ∧ VRs ad vs ws := by
  obtain ⟨a, ob, h1, h2, ⟨ws, n, rfl, hv⟩, _⟩ := hs.at e
  exact ⟨a, ws, n, h1, h2, hv⟩
theorem gi_list {k : Nat} {vs : List V} {i : Int} {v : V} (hk : st.os[k]? = some (.list vs)) (h0 : 0 ≤ i) (h1 : i < 2 ^ 63) (hx : vs[i.toNat]? = some v) (h : Q v st) : GI C (.ref k) (.int i) st Q := .mk fun s ad va vb hs ra ⟨t, e⟩ => by
  subst e
  obtain ⟨a, ws, ha, hl, hv⟩ := hs.list hk
  cases ra.ref ha
  obtain ⟨w, hw, hvw⟩ := hv.get hx
  exact ⟨⟨"list", _, hl.typeIs, slot_list_getitem.lookup⟩, At.stay (a := w) hs h hvw fun K hK => wpAny_getItem_list hl h0 h1 (by simpa using hw) hK⟩
theorem ev_sub {o i : Expr} (h : EV C o st (fun a st1 => EV C i st1 (fun b st2 => GI C a b st2 Q))) (hs : ∀ va vb, subscripted i false va vb = operate [va, vb] (getItem va vb) := by intro _ _; rfl) : EV C (.Subscript o i pos) st Q := .mk fun s ad hs₀ => At.mk fun K hK =>
  Subscript_ ((h.go s ad hs₀).run _ fun _ st1 s1 ad1 va q1 e1 p1 hs1 r1 => (q1.go s1 ad1 hs1).run _ fun _ st2 s2 ad2 vb q2 e2 p2 hs2 r2 => by
    obtain ⟨⟨T, id, hT, hl⟩, hq⟩ := q2.go s2 ad2 va vb hs2 (r1.mono p2) r2
    exact tail_any hT hl (hq.run K fun v st3 s3 ad3 w q3 e3 p3 hs3 r3 => hK v st3 s3 ad3 w q3 (e1.trans (e2.trans e3)) (p1.trans (p2.trans p3)) hs3 r3) (hs va vb))
theorem si_list {k : Nat} {vs : List V} {i : Int} {v : V} {Q : St → Prop} (hk : st.os[k]? = some (.list vs)) (h0 : 0 ≤ i) (h1 : i < 2 ^ 63) (hn : i < vs.length) (h : Q ⟨st.m, st.os.set k (.list (vs.set i.toNat v))⟩) : SI C (.ref k) (.int i) v st Q := .mk fun s ad va vb vc hs ra ⟨t, e⟩ rc => At.mk fun K hK => by
  subst e
  obtain ⟨a, ws, n, ha, hg, hv⟩ := hs.listO hk
  cases ra.ref ha
  refine ki_setAt hg h0 h1 (by rw [List.size_toArray, hv.length]; exact hn) (hK () _ _ ad () h (Same.hp s _) (List.prefix_refl _) ?_ trivial)
  refine hs.upd ha (Heap.SameBut.update ..) (Heap.get?_update_self _ hg rfl) ⟨ws.set i.toNat vc, n, ?_, hv.set _ rc⟩
  simp [Obj.mapSeq]
theorem xv_augS {o i value : Expr} {tpos : Pos} {op : Operator} {Q : F → St → Prop} (h : EV C o st (fun a st1 => EV C i st1 (fun b st2 => GI C a b st2 (fun old st3 => EV C value st3 (fun v st4 => IO C op old v st4 (fun new st5 => SI C a b new st5 (fun st6 => Q .next st6)))))))
    (ha : ∀ ov iv new, augStore i ov iv new = (do holding [new, ov, iv] (setItem ov iv new); release [new, ov, iv] []; pure .next) := by intro _ _ _; rfl) : XV C (.AugAssign (.Subscript o i tpos) op value pos) st Q := .mk fun s ad hs₀ => At.mk fun K hK =>
  wpAny_AugAssign_Subscript_any ((h.go s ad hs₀).run _ fun _ st1 s1 ad1 va q1 e1 p1 hs1 r1 => (q1.go s1 ad1 hs1).run _ fun _ st2 s2 ad2 vb q2 e2 p2 hs2 r2 =>
    (q2.go s2 ad2 va vb hs2 (r1.mono p2) r2).2.run _ fun _ st3 s3 ad3 vo q3 e3 p3 hs3 r3 => (q3.go s3 ad3 hs3).run _ fun _ st4 s4 ad4 vv q4 e4 p4 hs4 r4 => (q4.go s4 ad4 vo vv hs4 (r3.mono p4) r4).run _ fun _ st5 s5 ad5 vn q5 e5 p5 hs5 r5 =>
      (q5.go s5 ad5 va vb vn hs5 ((r1.mono p2).mono (p3.trans (p4.trans p5))) (r2.mono (p3.trans (p4.trans p5))) r5).run _ fun _ st6 s6 ad6 _ q6 e6 p6 hs6 _ =>
        hK .next st6 s6 ad6 .next q6 (e1.trans (e2.trans (e3.trans (e4.trans (e5.trans e6))))) (p1.trans (p2.trans (p3.trans (p4.trans (p5.trans p6))))) hs6 rfl) ha
theorem xv_assignI {o i value : Expr} {tpos : Pos} {Q : F → St → Prop} (h : EV C value st (fun v st1 => EV C o st1 (fun a st2 => EV C i st2 (fun b st3 => SI C a b v st3 (fun st4 => Q .next st4)))))
    (hsw : swapsWith value (some (.Subscript o i tpos)) pos.line C.env = pure false := by rfl) : XV C (.Assign [.Subscript o i tpos] value pos) st Q := .mk fun s ad hs₀ => At.mk fun K hK =>
  wpAny_Assign_Subscript ((h.go s ad hs₀).run _ fun _ st1 s1 ad1 vv q1 e1 p1 hs1 r1 => (q1.go s1 ad1 hs1).run _ fun _ st2 s2 ad2 va q2 e2 p2 hs2 r2 => (q2.go s2 ad2 hs2).run _ fun _ st3 s3 ad3 vb q3 e3 p3 hs3 r3 =>
    (q3.go s3 ad3 va vb vv hs3 (r2.mono p3) r3 (r1.mono (p2.trans p3))).run _ fun _ st4 s4 ad4 _ q4 e4 p4 hs4 _ => hK .next st4 s4 ad4 .next q4 (e1.trans (e2.trans (e3.trans e4))) (p1.trans (p2.trans (p3.trans p4))) hs4 rfl) hsw
theorem wpAny_release {M : Model} {A : Around} {E : Value → Shared → Prop} {s : Shared} {vs keep : List Value} {Q : Unit → Shared → Prop} (h : Q () s) : wpAny M A (release vs keep) Q E s := fun Γ p hΓ => by rw [Sem.wp_release]; exact h
theorem as_sub {o i : Expr} {tpos : Pos} {v : V} {Q : St → Prop} (h : EV C o st (fun a st2 => EV C i st2 (fun b st3 => SI C a b v st3 Q))) : AS C (.Subscript o i tpos) v st Q := .mk fun s ad w hs₀ r => At.mk fun K hK => by
  rw [assign_Subscript]
  refine wpAny_bind (wpAny_holding ((h.go s ad hs₀).run _ fun _ st2 s2 ad2 va q2 e2 p2 hs2 r2 => wpAny_bind (wpAny_holding ((q2.go s2 ad2 hs2).run _ fun _ st3 s3 ad3 vb q3 e3 p3 hs3 r3 => ?_))))
  refine wpAny_bind (wpAny_standAt (wpAny_bind (wpAny_holding ((q3.go s3 ad3 va vb w hs3 (r2.mono p3) r3 (r.mono (p2.trans p3))).run _ fun _ st4 s4 ad4 _ q4 e4 p4 hs4 _ => ?_))))
  exact wpAny_release (hK () st4 s4 ad4 () q4 (e2.trans (e3.trans e4)) (p2.trans (p3.trans p4)) hs4 trivial)
theorem xv_expr {e : Expr} {Q : F → St → Prop} (G : Gd C sc lv) (h : EV C e st (fun _ st1 => Q .next st1)) (hsw : swapsWith e none pos.line C.env = pure false := by rfl) : XV C (.Expr e pos) st Q := .mk fun s ad hs => At.mk fun K hK =>
  wpAny_Expr_any ((h.go s ad hs).run _ fun _ st1 s1 ad1 w q1 e1 p1 hs1 r1 => hK .next st1 s1 ad1 .next q1 e1 p1 hs1 rfl) (by unfold interactive; rw [G.scope, G.kind]; rfl) hsw
theorem cl_append {k : Nat} {vs : List V} {v : V} (hk : st.os[k]? = some (.list vs)) (hsz : vs.length ≤ 1000000) (h : Q .none ⟨st.m, st.os.set k (.list (vs ++ [v]))⟩) : CL C (.builtin "list.append") [.ref k, v] st Q := .mk fun s ad ws hs hr => At.mk fun K hK => by
  cases hr with | cons ra hr => cases hr with | cons rv hr => cases hr with | nil =>
  obtain ⟨a, ws, n, ha, hg, hv⟩ := hs.listO hk
  cases ra.ref ha
  refine wpAny_list_append_plain ⟨n, hg⟩ (fun h' hp hsb => ?_) (by rw [List.size_toArray, hv.length, sizeLine_eq]; omega)
  obtain ⟨n', hg'⟩ := hp
  refine hK .none _ _ ad _ h (Same.hp s h') (List.prefix_refl _) (hs.upd ha hsb hg' ⟨ws ++ [_], n', by simp, hv.append (.cons rv .nil)⟩) rfl
theorem cl_extend {k j : Nat} {vs us : List V} (hk : st.os[k]? = some (.list vs)) (hj : st.os[j]? = some (.list us)) (hsz : vs.length + us.length ≤ 1000000) (h : Q .none ⟨st.m, st.os.set k (.list (vs ++ us))⟩) : CL C (.builtin "list.extend") [.ref k, .ref j] st Q := .mk fun s ad ws hs hr => At.mk fun K hK => by
  cases hr with | cons ra hr => cases hr with | cons rv hr => cases hr with | nil =>
  obtain ⟨a, ws, n, ha, hg, hv⟩ := hs.listO hk
  obtain ⟨b, xs, n2, hb, hg2, hv2⟩ := hs.listO hj
  cases ra.ref ha
  cases rv.ref hb
  have hl1 : ws.toArray.size = vs.length := by rw [List.size_toArray, hv.length]
  have hl2 : xs.toArray.size = us.length := by rw [List.size_toArray, hv2.length]
  refine call_meets F.slot_list_extend ⟨_, hg, rfl⟩ F.entry_list_extend (F.args_list_extend_2 _ _) (AutoSeq1.list_extend_list_list_0 a ws.toArray n b xs.toArray n2 ?_ (by rw [hl1, sizeLine_eq]; omega) (by rw [hl1, hl2, sizeLine_eq]; omega)) ⟨hg, hg2, ?_⟩
  · intro e
    rw [hl1, hl2, Bool.and_eq_true] at e
    have := e.2
    unfold Builtin.List.listTooLong at this
    have := of_decide_eq_true this
    rw [sizeLine_eq] at this
    omega
  · refine hK .none _ _ ad _ h (Same.mk' s _ _) (List.prefix_refl _) (hs.upd ha (Heap.SameBut.update ..) (Heap.get?_update_self _ hg rfl) ?_) rfl
    exact ⟨ws ++ xs, _, by simp [Obj.mapSeq]; rfl, hv.append hv2⟩
theorem fold_one (w : Value) : ∀ (n : Nat) (acc : Array Value), List.foldl (fun x1 x2 => x1 ++ x2) acc (List.replicate n #[w]) = acc ++ (List.replicate n w).toArray
  | 0, acc => by simp
  | n + 1, acc => by rw [List.replicate_succ, List.foldl_cons, fold_one w n]; apply Array.toList_inj.mp; simp [List.replicate_succ]
theorem rep_rel {v : V} {w : Value} (h : VR ad v w) : ∀ n : Nat, VRs ad (List.replicate n v) (List.replicate n w)
  | 0 => .nil
  | n + 1 => .cons h (rep_rel h n)
/-- one item repeated -/
theorem bo_mulL {k : Nat} {v : V} {n : Int} (hk : st.os[k]? = some (.list [v])) (h0 : 0 ≤ n) (hsz : n ≤ 1000000) (h : Q (.ref st.os.length) (st.add (.list (List.replicate n.toNat v)))) : BO C .Mult (.ref k) (.int n) st Q := .mk fun s ad va vb hs ra ⟨t, e⟩ => At.mk fun K hK => by
  subst e
  obtain ⟨a, ws, n', ha, hg, hv⟩ := hs.listO hk
  cases ra.ref ha
  have hl := hs.len
  obtain ⟨⟨gg, hgg, m, news, F, N, c, d, o, r⟩, hc⟩ := hs
  match ws, hv with
  | [w], .cons rv .nil =>
    refine mul_list F N hg (by omega) (by omega) (by simp; omega) fun h' F' N' => ?_
    refine hK _ _ _ _ _ h (Same.hp s h') (List.prefix_append _ _) (sr_alloc hgg N c d o r hc F' N' ⟨List.replicate n.toNat w, 0, ?_, (rep_rel rv _).mono (List.prefix_append _ _)⟩) (ref_new _ _ _ hl)
    rw [if_neg (by simp), fold_one]
    simp
/-- a cell stored -/
theorem SR.storeC {s : Shared} {x : Str} {k : Nat} {v : V} {w : Value} {v₀ : Option V} (hs : SR C ad st s.heap) (hv : VR ad v w) (G : Gd C sc lv) (hk : C.cl.lookup x = some k) (ho : st.os[k]? = some (.cell v₀)) (hl : sc.names.lookup x = some .cell) {E : Value → Shared → Prop} {K : Unit → Shared → Prop}
    (h : ∀ s', Same s s' → SR C ad ⟨st.m, st.os.set k (.cell (some v))⟩ s'.heap → K () s') : wpAny C.M C.A (storeName C.env x w) K E s := by
  obtain ⟨c, hc, ha⟩ := hs.cells x k hk
  obtain ⟨a, ob, h1, h2, h3, _⟩ := hs.at ho
  rw [ha] at h1
  cases h1
  have hcell : ∃ w₀, ob.data = .cell w₀ := by
    cases v₀ with
    | none => exact h3
    | some v₀ => obtain ⟨w₀, e, _⟩ := h3; exact ⟨_, e⟩
  obtain ⟨w₀, hd⟩ := hcell
  refine wpAny_storeName_cell (by rw [G.scope]; exact G.kind) (by rw [Env.kindOf, G.scope]; exact hl) hc ⟨ob, h2, hd⟩ fun h' hv' hsb => ?_
  obtain ⟨ob', hg', hd'⟩ := hv'
  exact h _ (Same.hp s h') (hs.upd ha hsb hg' ⟨w, hd', hv⟩)
theorem xv_assignC {x : Str} {px : Pos} {value : Expr} {k : Nat} {Q : F → St → Prop} (G : Gd C sc lv) (hk : C.cl.lookup x = some k) (h : EV C value st (fun v st1 => ∃ v₀, st1.os[k]? = some (.cell v₀) ∧ Q .next ⟨st1.m, st1.os.set k (.cell (some v))⟩)) (hl : sc.names.lookup x = some .cell := by rfl)
    (hsw : swapsWith value (some (.Name x px)) pos.line (scEnv sc) = pure false := by rfl) : XV C (.Assign [.Name x px] value pos) st Q := .mk fun s ad hs => At.mk fun K hK =>
  wpAny_Assign_Name ((h.go s ad hs).run _ fun v st1 s1 ad1 w q1 e1 p1 hs1 r1 => by
    obtain ⟨v₀, ho, q1⟩ := q1
    exact hs1.storeC r1 G hk ho hl fun s' e' hs' => hK .next _ s' ad1 .next q1 (e1.trans e') p1 hs' rfl) (by rw [swaps_scope G.scope]; exact hsw)
theorem as_cell {x : Str} {px : Pos} {v : V} {k : Nat} {v₀ : Option V} {Q : St → Prop} (G : Gd C sc lv) (hk : C.cl.lookup x = some k) (ho : st.os[k]? = some (.cell v₀)) (h : Q ⟨st.m, st.os.set k (.cell (some v))⟩) (hl : sc.names.lookup x = some .cell := by rfl) : AS C (.Name x px) v st Q := .mk fun s ad w hs r => At.mk fun K hK =>
  wpAny_assign_Name (hs.storeC r G hk ho hl fun s' e' hs' => hK () _ s' ad () h e' (List.prefix_refl _) hs' trivial)
end
end Mine
namespace Mine
/-- the tests of a comprehension -/
structure IFV (C : Cx) (ifs : List Expr) (st : St) (Q : Bool → St → Prop) : Prop where
  go : ∀ s ad, SR C ad st s.heap → At C ad s BR (forIn ifs true fun c r => if r = true then do let ok ← isTrue c C.env (eval c C.env); pure (ForInStep.yield ok) else pure (ForInStep.yield r)) Q
/-- the context of a comprehension's element -/
structure CompCx (C C' : Cx) (csc : Scope) (fr : List (Str × Nat)) (lv : Nat) : Prop where
  gd : Gd C' csc lv
  hand : C'.A.handled = C.A.handled
  cl : C'.cl = fr
  p : C'.p = C.p
  mg : C'.mg = C.mg
theorem CompCx.blt {C C' : Cx} {csc : Scope} {fr : List (Str × Nat)} {lv : Nat} (h : CompCx C C' csc fr lv) {x : Str} {v : Value} (b : Blt C x v) : Blt C' x v := ⟨by rw [h.mg]; exact b.1, b.2⟩
theorem closureFor_eq {scope : Scope} {env : Env} (f : Str → Addr) (h : ∀ x ∈ scope.names, x.2 = .free → env.cells.lookup x.1 = some (f x.1)) :
    closureFor scope env = pure (((scope.names.filter (·.2 == .free)).map fun x => (x.1, f x.1)).reverse) := by
  have key : ∀ (names : List (Str × NameKind)) (cs : List (Str × Addr)), (∀ x ∈ names, x.2 = .free → env.cells.lookup x.1 = some (f x.1)) →
      (forIn names cs fun x r => (do if x.2 == .free then pure (ForInStep.yield ((x.1, ← cellOf env x.1) :: r)) else pure (ForInStep.yield r) : Sem _)) = pure ((((names.filter (·.2 == .free)).map fun x => (x.1, f x.1)).reverse) ++ cs) := by
    intro names
    induction names with
    | nil => intro cs _; rfl
    | cons x r ih =>
      intro cs hx
      rw [List.forIn_cons]
      by_cases hf : x.2 = .free
      · have e := hx x (.head _) hf
        have hc : cellOf env x.1 = pure (f x.1) := by unfold cellOf; rw [e]
        have hb : (x.2 == NameKind.free) = true := by rw [hf]; rfl
        rw [if_pos hb, hc]
        show (forIn r ((x.1, f x.1) :: cs) _ : Sem _) = _
        rw [ih _ fun y hy => hx y (.tail _ hy), List.filter_cons, if_pos hb]
        simp
      · have hb : (x.2 == NameKind.free) = false := by simpa using hf
        rw [hb]
        show (forIn r cs _ : Sem _) = _
        rw [ih _ fun y hy => hx y (.tail _ hy), List.filter_cons, hb]
        simp
  have := key scope.names [] h
  rw [List.append_nil] at this
  have e := congrArg (fun t : Sem (List (Str × Addr)) => t >>= fun cs => pure cs) this
  refine Eq.trans ?_ e
  unfold closureFor
  congr 1
theorem lookup_fun {f : Str → Addr} {x : Str} : ∀ {l : List Str}, x ∈ l → (l.map fun y => (y, f y)).lookup x = some (f x)
  | y :: l, h => by
    rw [List.map_cons, List.lookup_cons]
    cases hxy : x == y with
    | true => rw [eq_of_beq hxy]
    | false =>
      rcases List.mem_cons.mp h with rfl | h
      · simp at hxy
      · exact lookup_fun h
theorem relabel_scope {scope : Scope} {env : Env} {sc : Scope} (h : env.scope = sc) : relabel scope env = relabel scope (scEnv sc) := by subst h; rfl
section
variable {C : Cx} {sc : Scope} {lv : Nat} {st : St} {pos : Pos} {ad : List Addr}
theorem ifv_nil {Q : Bool → St → Prop} (h : Q true st) : IFV C [] st Q := .mk fun s ad hs => At.stay (a := true) hs h rfl fun K hK => wpAny_tests_nil hK
theorem ifv_one {c : Expr} {Q : Bool → St → Prop} (h : BV C c st Q) : IFV C [c] st Q := .mk fun s ad hs => At.mk fun K hK => wpAny_tests_one ((h.go s ad hs).run K hK)
/-- kept objects in another order -/
theorem SR.swap {h : Heap} {a b : List (Addr × Obj)} (hs : SR (C.kept (a ++ b)) ad st h) : SR (C.kept (b ++ a)) ad st h := by
  obtain ⟨⟨gg, hgg, m, news, F, N, c, d, o, r⟩, hc⟩ := hs
  refine ⟨⟨gg, hgg, m, news, F, fun p hp => N p ?_, c, ?_, o, r⟩, hc⟩
  · simp only [List.mem_append] at hp ⊢
    rcases hp with hp | hp | hp
    · exact .inl hp
    · exact .inr (.inr hp)
    · exact .inr (.inl hp)
  · have d' : (ad ++ (a ++ b).map (·.1)).Nodup := d
    show (ad ++ (b ++ a).map (·.1)).Nodup
    refine (List.Perm.nodup_iff ?_).mp d'
    rw [List.map_append, List.map_append]
    exact List.Perm.append_left _ List.perm_append_comm
/-- into the block of a comprehension: another namespace, all else below it -/
theorem SR.into {s : Shared} {h₁ : Heap} {m₁ : Str → Option Value} (hs : SR C ad st s.heap) (G : Gd C sc lv) (env' : Env) (fr : List (Str × Nat)) (hl : env'.locals = s.heap.objs.size) (hns : h₁.Ns s.heap.objs.size m₁) (hk : ∀ b o, s.heap.get? b = some o → h₁.get? b = some o)
    (hfr : ∀ x k, fr.lookup x = some k → ∃ c, env'.cells.lookup x = some c ∧ ad[k]? = some c) :
    ∃ g, (C.base.StaysIn g ∧ ∀ b ∈ C.env.locals :: C.of, C.base.get? b = none ∧ ∃ o, g.get? b = some o ∧ (∀ vs, o.data ≠ .fields vs) ∧ ∀ vs n, o.data ≠ .seq vs n) ∧ (∀ b, g.get? b = none → C.h₀.get? b = none) ∧ (0 < lv → ∃ fs, Below C.A C.base fs g ∧ ∀ b ∈ fs.filterMap (·.frame), b ∈ C.env.locals :: C.of) ∧
      SR { C with env := env', h₀ := g, cl := fr, of := C.env.locals :: C.of } ad ⟨[], st.os⟩ h₁ ∧
      ∀ (h₂ : Heap) (ad₂ : List Addr) (st₂ : St) (kp₂ : List (Addr × Obj)), ad <+: ad₂ → SR { C with env := env', h₀ := g, cl := fr, of := C.env.locals :: C.of, kp := kp₂ } ad₂ st₂ h₂ → SR (C.kept kp₂) ad₂ ⟨st.m, st₂.os⟩ h₂ := by
  obtain ⟨⟨gg, hgg, m, news, F, N, c, d, o, r⟩, hc⟩ := hs
  obtain ⟨stay, nsG⟩ := ground F N
  have hbL : C.base.get? C.env.locals = none := by
    cases q : C.base.get? C.env.locals with
    | none => rfl
    | some ob => exact absurd (Nat.lt_of_lt_of_le (Heap.lt_size (G.stays hgg _ _ q)) F.above) (Nat.lt_irrefl _)
  refine ⟨_, ⟨fun b o e => stay b o (G.stays hgg b o e), fun b hb => by
    rcases List.mem_cons.mp hb with rfl | hb
    · exact ⟨hbL, ns_data nsG⟩
    · exact ⟨(G.st.2 b hb).1, G.of_data hgg stay hb⟩⟩, fun b e => ?_, fun hlv => G.inner hlv hgg F N, ⟨⟨_, Sim.refl _ _, m₁, news, ⟨by show h₁.Ns env'.locals m₁; rw [hl]; exact hns, fun b o e => hk b o (of_hideAll _ e), by show _ ≤ env'.locals; rw [hl]; exact Nat.le_of_eq (hideAll_size _ _)⟩, fun p hp => ?_, c, d, o, fun _ _ e => nomatch e⟩, hfr⟩, ?_⟩
  · cases q : C.h₀.get? b with
    | none => rfl
    | some ob => obtain ⟨sl, q'⟩ := hgg.slot _ _ q; rw [stay _ _ q'] at e; cases e
  · exact ⟨hk _ _ (N p hp).1, by show p.1 ≠ env'.locals; rw [hl]; exact Nat.ne_of_lt (Heap.lt_size (N p hp).1), hideAll_none _ (List.mem_map_of_mem hp)⟩
  · rintro h₂ ad₂ st₂ kp₂ px ⟨⟨gg2, hgg2, m', news', F', N', c', d', o'', r'⟩, hc'⟩
    obtain ⟨g', hg', F2, N2⟩ := back_frame hgg F stay nsG hgg2 F'.keep (news₂ := news' ++ kp₂) fun p hp => ⟨(N' p hp).1, (N' p hp).2.2⟩
    refine ⟨⟨g', hg', m, news', F2, N2, c', d', o'', r.mono px⟩, fun x k q => ?_⟩
    obtain ⟨cc, q1, q2⟩ := hc x k q
    exact ⟨cc, q1, get_prefix px q2⟩
/-- another namespace's object turned: no concern of ours -/
theorem SR.other {h h' : Heap} {b : Addr} (hs : SR C ad st h) (hb : ∀ p, h.get? b = some p → C.h₀.get? b = none ∧ b ≠ C.env.locals ∧ b ∉ ad ++ C.kp.map (·.1)) (hk : Heap.SameBut b h h') : SR C ad st h' := by
  obtain ⟨⟨gg, hgg, m, news, F, N, c, d, o, r⟩, hc⟩ := hs
  have key : ∀ a ob, h.get? a = some ob → (C.h₀.get? a ≠ none ∨ a = C.env.locals ∨ a ∈ ad ++ C.kp.map (·.1)) → h'.get? a = some ob := fun a ob e hor => by
    by_cases hab : a = b
    · subst hab
      obtain ⟨h1, h2, h3⟩ := hb ob e
      rcases hor with h | h | h
      · exact absurd h1 h
      · exact absurd h h2
      · exact absurd h h3
    · exact (hk.2 a hab).trans e
  refine ⟨⟨gg, hgg, m, news, ⟨F.ns.at' fun o e => key _ o e (.inr (.inl rfl)), fun a ob e => key a ob (F.keep a ob e) (.inl fun q => by rw [hgg.non _ q] at e; cases e), F.above⟩, fun p hp => ⟨key _ _ (N p hp).1 (.inr (.inr ?_)), (N p hp).2⟩, c, d, o, r⟩, hc⟩
  rw [← c, ← List.map_append]
  exact List.mem_map_of_mem hp
end
end Mine
namespace Mine
section
variable {C : Cx} {sc : Scope} {lv : Nat} {st : St} {pos : Pos} {ad : List Addr}
theorem lookup_mem {x : Str} {k : Nat} : ∀ {fr : List (Str × Nat)}, fr.lookup x = some k → (x, k) ∈ fr
  | (y, u) :: r, e => by
    rw [List.lookup_cons] at e
    cases hxy : x == y with
    | true => rw [hxy] at e; cases e; rw [eq_of_beq hxy]; exact .head _
    | false => rw [hxy] at e; exact .tail _ (lookup_mem e)
/-- a kept object becomes one of the store -/
theorem SR.adopt {h : Heap} {D : Addr} {ob : Obj} {o : O} {kp : List (Addr × Obj)} (hs : SR (C.kept ((D, ob) :: kp)) ad st h) (ho : OR (ad ++ [D]) o ob) : SR (C.kept kp) (ad ++ [D]) (st.add o) h := by
  obtain ⟨⟨gg, hgg, m, news, F, N, c, d, o', r⟩, hc⟩ := hs
  have px : ad <+: ad ++ [D] := List.prefix_append _ _
  refine ⟨⟨gg, hgg, m, news ++ [(D, ob)], F, fun p hp => N p ?_, by rw [List.map_append, c]; rfl, ?_, (o'.mono px).append (.cons ho .nil), r.mono px⟩, fun x k q => ?_⟩
  · have hp' : p ∈ (news ++ [(D, ob)]) ++ kp := hp
    show p ∈ news ++ ((D, ob) :: kp)
    simpa using hp'
  · have d' : (ad ++ ((D, ob) :: kp).map (·.1)).Nodup := d
    show ((ad ++ [D]) ++ kp.map (·.1)).Nodup
    simpa using d'
  · obtain ⟨cc, q1, q2⟩ := hc x k q
    exact ⟨cc, q1, get_prefix px q2⟩
/-- kept objects in any order -/
theorem SR.perm {h : Heap} {a b : List (Addr × Obj)} (hs : SR (C.kept a) ad st h) (hp : a.Perm b) : SR (C.kept b) ad st h := by
  obtain ⟨⟨gg, hgg, m, news, F, N, c, d, o, r⟩, hc⟩ := hs
  refine ⟨⟨gg, hgg, m, news, F, fun p hq => N p ?_, c, ?_, o, r⟩, hc⟩
  · rcases List.mem_append.mp hq with hq | hq
    · exact List.mem_append_left _ hq
    · exact List.mem_append_right _ (hp.symm.subset hq)
  · have d' : (ad ++ a.map (·.1)).Nodup := d
    exact (List.Perm.nodup_iff (List.Perm.append_left _ (hp.map _))).mp d'
theorem SR.kpAt {h : Heap} {p : Addr × Obj} (hs : SR C ad st h) (hp : p ∈ C.kp) : h.get? p.1 = some p.2 := by
  obtain ⟨⟨gg, hgg, m, news, F, N, _⟩, _⟩ := hs
  exact (N p (List.mem_append_right _ hp)).1
/-- a list comprehension of one clause -/
theorem ev_comp {elt target iter : Expr} {ifs : List Expr} {scope : Scope} {clc fr : List (Str × Nat)} {Q : V → St → Prop} (G : Gd C sc lv) (hclc : C.cl = clc)
    (h : EV C iter st (fun v st1 => ∃ (items : List V) (dep : St → Prop) (I : Nat → List V → List O → Prop), IterOf C v st1 items dep ∧ items.length ≤ 1000000 ∧ I 0 [] st1.os ∧ (∀ i acc os, I i acc os → dep ⟨[], os⟩) ∧
      (∀ C' i v acc os, CompCx C C' (relabel scope (scEnv sc)) fr lv → items[i]? = some v → I i acc os → AS C' target v ⟨[], os⟩ (fun st2 => IFV C' ifs st2 (fun b st3 => if b = true then EV C' elt st3 (fun y st4 => I (i + 1) (acc ++ [y]) st4.os) else I (i + 1) acc st3.os))) ∧
      (∀ acc os, I items.length acc os → Q (.ref os.length) ⟨st1.m, os ++ [.list acc]⟩)))
    (hcell : ∀ x ∈ scope.names, x.2 ≠ .cell := by decide) (hkind : scope.kind = .function := by rfl) (hnames : ∀ x ∈ scope.names, x.2 = .local → scope.names.lookup x.1 = some .local := by decide)
    (hfree : ∀ x ∈ scope.names, x.2 = .free → (clc.lookup x.1).isSome = true := by decide) (hfr : ∀ p ∈ fr, (p.1, NameKind.free) ∈ scope.names ∧ clc.lookup p.1 = some p.2 := by decide)
    (hfs : ∀ x, foldedSetIterable iter C.env x = pure x := by intro _; rfl) (ht : ∀ it v, letOwnedTupleGo target it v = pure () := by intro _ _; rfl) : EV C (.ListComp elt [⟨target, iter, ifs, 0⟩] scope pos) st Q := .mk fun s ad hs₀ => At.mk fun K hK => by
  rw [eval_ListComp]
  have hclos := closureFor_eq (scope := scope) (env := C.env) (fun x => (C.env.cells.lookup x).getD 0) fun x hx hf => by
    obtain ⟨k, hk⟩ := Option.isSome_iff_exists.mp (hfree x hx hf)
    obtain ⟨c, hc, _⟩ := hs₀.cells x.1 k (by rw [hclc]; exact hk)
    rw [hc]; rfl
  refine wpAny_comprehension_free (use := none) rfl hfs hclos hkind hnames ?_
  refine (h.go s ad hs₀).run _ fun v st1 s1 ad1 w q1 e1 p1 hs1 r1 => ?_
  obtain ⟨items, dep, I, hit, hlen, hI0, hdep, turn, done⟩ := q1
  refine hit s1 ad1 w hs1 r1 _ fun It inv ks s2 ai hinv e2 hs2 => ?_
  refine wpAny_newObj_type ?_
  have hs3 := SR.keep hs2 { cls := .type "list", dict := none, data := .seq ([] : List Value).toArray }
  have hDg : (s2.heap.push { cls := .type "list", dict := none, data := .seq ([] : List Value).toArray }).get? s2.heap.objs.size = some (listOf ([] : List Value).toArray 0) := Heap.get?_push_size _ rfl
  refine wpAny_newFunctionEnv hcell (by intro y hy; simp at hy) (fun h₁ hns₁ hsb₁ => ?_) hkind
  dsimp only at hns₁ hsb₁ hs3 hDg ⊢
  generalize hD : s2.heap.objs.size = D at *
  generalize hH3 : s2.heap.push { cls := .type "list", dict := none, data := .seq ([] : List Value).toArray } = H3 at *
  have hLlt : C.env.locals < H3.objs.size := by
    obtain ⟨⟨gg, hgg, m, news, F, _⟩, _⟩ := hs3
    exact F.ns.lt
  have old : ∀ b o, H3.get? b = some o → h₁.get? b = some o := fun b o e => hsb₁.extBut b o (Nat.ne_of_lt (Heap.lt_size e)) (Heap.get?_push_of_some _ e)
  generalize hcl : ((scope.names.filter (·.2 == .free)).map fun x => (x.1, (C.env.cells.lookup x.1).getD 0)).reverse = cl at *
  have hfrk : ∀ x k, fr.lookup x = some k → ∃ c, cl.lookup x = some c ∧ ad1[k]? = some c := fun x k e => by
    have hm := lookup_mem e
    obtain ⟨hn, hk⟩ := hfr _ hm
    obtain ⟨c, hc, hcc⟩ := hs1.cells x k (by rw [hclc]; exact hk)
    refine ⟨c, ?_, hcc⟩
    have := lookup_fun (f := fun x => (C.env.cells.lookup x).getD 0) (x := x) (l := ((scope.names.filter (·.2 == .free)).map (·.1)).reverse) (by
      rw [List.mem_reverse]
      exact List.mem_map.mpr ⟨(x, .free), List.mem_filter.mpr ⟨hn, rfl⟩, rfl⟩)
    rw [← hcl, ← show ((C.env.cells.lookup x).getD 0) = c by rw [hc]; rfl, ← this]
    congr 1
    rw [List.map_reverse, List.map_map]
    rfl
  obtain ⟨g, stay, dom, fsk, hsC, back⟩ := SR.into (s := { s2 with heap := H3 }) hs3 (G.kept _) (compEnvC scope cl H3.objs.size C.env) fr rfl hns₁ old hfrk
  have hCC : ∀ kp, CompCx C { C with env := compEnvC scope cl H3.objs.size C.env, h₀ := g, cl := fr, of := C.env.locals :: C.of, kp := kp } (relabel scope (scEnv sc)) fr lv := fun kp =>
    ⟨⟨by show relabel scope C.env = _; exact relabel_scope G.scope, hkind, G.glob, G.blt, G.top, stay, G.depth, G.units, fun h => by obtain ⟨fs, B, hfs⟩ := fsk h; exact ⟨C.A, fs, B, hfs, .inr rfl⟩⟩, rfl, rfl, rfl, rfl⟩
  show codeAny C.M C.A (.compStart (.ListComp elt [⟨target, iter, ifs, 0⟩] scope pos) 0 (.ref It) (.ref D) (compEnvC scope cl H3.objs.size C.env)) _ _
  have loop : codeAny C.M C.A (.compLoop (.ListComp elt [⟨target, iter, ifs, 0⟩] scope pos) 0 (.ref It) (.ref D) (compEnvC scope cl H3.objs.size C.env)) (compPost C.M C.A No none K (.ref D) H3.objs.size) { s2 with heap := h₁, toks := s2.toks + ([] : List (Str × Value)).length } := by
    refine codeAny_compLoop_tests (fun n s' => ∃ i acc ws m os ad' ks', n + i = items.length + 1 ∧ i ≤ items.length ∧ acc.length ≤ i ∧ I i acc os ∧ inv i ks' ∧ Same s s' ∧ ad1 <+: ad' ∧ VRs ad' acc ws ∧
      SR { C with env := compEnvC scope cl H3.objs.size C.env, h₀ := g, cl := fr, of := C.env.locals :: C.of, kp := ks' ++ ((D, listOf ws.toArray m) :: C.kp) } ad' ⟨[], os⟩ s'.heap) ?_ (items.length + 1) ⟨0, [], [], 0, st1.os, ad1, ks, rfl, Nat.zero_le _, Nat.le_refl _, hI0, hinv, ?_, List.prefix_refl _, .nil, ?_⟩ (ht _)
    · rintro n s' ⟨i, acc, ws, m, os, ad', ks', hni, hile, hal, hI, hinv', e', p', hv, hs'⟩
      by_cases hi : i < items.length
      · refine wpNo (ai.next { C with env := compEnvC scope cl H3.objs.size C.env, h₀ := g, cl := fr, of := C.env.locals :: C.of } ⟨rfl, rfl, rfl⟩ i items[i] ks' _ _ s' ad' (by simp [hi]) hinv' (hdep _ _ _ hI) p' hs' _ fun w s3 ks3 e3 hinv3 hs3 r3 => ?_)
        refine wpNo (((turn _ i _ acc os (hCC _) (by simp [hi]) hI).go s3 ad' w hs3 r3).run _ fun _ st4 s4 ad4 _ q4 e4 p4 hs4 _ => ?_)
        refine wpNo ((q4.go s4 ad4 hs4).run _ fun b st5 s5 ad5 b' q5 e5 p5 hs5 r5 => ?_)
        cases r5
        cases b with
        | false =>
          rw [if_neg (by decide)] at q5 ⊢
          exact ⟨n - 1, by omega, i + 1, acc, ws, m, st5.os, ad5, ks3, by omega, by omega, by omega, q5, hinv3, e'.trans (e3.trans (e4.trans e5)), p'.trans (p4.trans p5), hv.mono (p4.trans p5), hs5.weak Sub.nil⟩
        | true =>
          rw [if_pos rfl] at q5 ⊢
          refine wpNo ((q5.go s5 ad5 hs5).run _ fun y st6 s6 ad6 yv q6 e6 p6 hs6 r6 => ?_)
          have hDg6 := hs6.kpAt (p := (D, listOf ws.toArray m)) (List.mem_append_right _ (.head _))
          refine wpAny_list_append_plain ⟨m, hDg6⟩ (fun h' hp hsb => ?_) (by rw [List.size_toArray, hv.length, sizeLine_eq]; omega)
          obtain ⟨m', hg'⟩ := hp
          have hs7 := SR.touch (C := { C with env := compEnvC scope cl H3.objs.size C.env, h₀ := g, cl := fr, of := C.env.locals :: C.of }) (SR.perm (C := { C with env := compEnvC scope cl H3.objs.size C.env, h₀ := g, cl := fr, of := C.env.locals :: C.of }) (hs6.weak Sub.nil) List.perm_middle) (fun b o hb e => hsb.extBut b o hb e) hg'
          exact ⟨n - 1, by omega, i + 1, acc ++ [y], ws ++ [yv], m', st6.os, ad6, ks3, by omega, by omega, by rw [List.length_append]; simp; omega, q6, hinv3, e'.trans (e3.trans (e4.trans (e5.trans (e6.trans (Same.hp s6 h'))))), p'.trans (p4.trans (p5.trans p6)), (hv.mono (p4.trans (p5.trans p6))).append (.cons r6 .nil), by
            have := SR.perm (C := { C with env := compEnvC scope cl H3.objs.size C.env, h₀ := g, cl := fr, of := C.env.locals :: C.of }) hs7 List.perm_middle.symm
            simpa using this⟩
      · obtain rfl : i = items.length := by omega
        refine wpNo (ai.done { C with env := compEnvC scope cl H3.objs.size C.env, h₀ := g, cl := fr, of := C.env.locals :: C.of } ⟨rfl, rfl, rfl⟩ ks' _ _ s' ad' hinv' (hdep _ _ _ hI) p' hs' _ fun s3 e3 hs3 => ?_)
        have hb := back _ _ _ _ p' hs3
        obtain ⟨⟨gg, hgg, mm, news, F, N, c, d, o, r⟩, hc⟩ := id hs3
        refine ⟨mm, F.ns, fun h' hsb => ?_⟩
        have hb' := SR.other (b := H3.objs.size) hb (fun q hq => ⟨?_, Nat.ne_of_gt hLlt, ?_⟩) hsb
        · have := SR.adopt hb' (o := .list acc) ⟨ws, m, rfl, hv.mono (List.prefix_append _ _)⟩
          exact hK _ _ _ _ _ (done acc os hI) (e'.trans (e3.trans (Same.hp s3 h'))) ((p1.trans p').trans (List.prefix_append _ _)) this (ref_new _ _ _ hb.len)
        · cases q0 : C.h₀.get? H3.objs.size with
          | none => rfl
          | some ob =>
            cases q1 : g.get? H3.objs.size with
            | none => have := dom _ q1; rw [q0] at this; cases this
            | some ob' => exact absurd (Heap.lt_size q1) (Nat.not_lt.mpr (by rw [← hgg.size]; exact F.above))
        · intro hm
          have hm' : H3.objs.size ∈ (news ++ (D, listOf ws.toArray m) :: C.kp).map (·.1) := by rw [List.map_append, c]; exact hm
          obtain ⟨p, hp, e⟩ := List.mem_map.mp hm'
          exact (N p hp).2.1 e
    · exact e1.trans (e2.trans (Same.mk' s2 _ _))
    · exact SR.perm (C := { C with env := compEnvC scope cl H3.objs.size C.env, h₀ := g, cl := fr, of := C.env.locals :: C.of }) hsC List.perm_middle.symm
  exact codeAny_compStart_list loop (wpNo (ai.self _ 0 ks _ _ { s2 with heap := h₁, toks := s2.toks + ([] : List (Str × Value)).length } ad1 hinv (SR.perm (C := { C with env := compEnvC scope cl H3.objs.size C.env, h₀ := g, cl := fr, of := C.env.locals :: C.of }) hsC List.perm_middle.symm) _ loop))
theorem cl_lenL {k : Nat} {vs : List V} {Q : V → St → Prop} (hk : st.os[k]? = some (.list vs)) (hsz : vs.length ≤ 1000000) (h : Q (.int (vs.length : Int)) st) : CL C (.builtin "len") [.ref k] st Q := .mk fun s ad ws hs hr => by
  cases hr with | cons ra hr => cases hr with | nil =>
  obtain ⟨a, ws, ha, hl, hv⟩ := hs.list hk
  cases ra.ref ha
  refine At.tick (a := .int _ (s.toks + 1)) hs h ⟨_, rfl⟩ fun K hK => call_len_list hl (by rw [List.size_toArray, hv.length]; omega) ?_
  rw [List.size_toArray, hv.length]
  exact hK _
theorem cells_or {ad : List Addr} : ∀ {news : List (Addr × Obj)}, (∀ p ∈ news, ∃ w, p.2.data = .cell w) → ORs ad (List.replicate news.length (.cell none)) news
  | [], _ => .nil
  | p :: _, hd => .cons (hd p (.head _)) (cells_or fun q hq => hd q (.tail _ hq))
/-- the law's frame, with cells -/
theorem enterC {body : List Stmt} {E : Value → Shared → Prop} {K : Flow → Shared → Prop} {s : Shared} {m : Str → Option Value} {x : Str} {l : Addr} {news : List (Addr × Obj)} (C : Cx)
    (hkp : C.kp = []) (hof : C.of = []) (F : Fr C.h₀ C.env.locals s.heap m) (hm : m x = some (.ref l)) (N : News C.h₀ C.env.locals s.heap news) (hnd : (news.map (·.1)).Nodup) (hd : ∀ p ∈ news, ∃ w, p.2.data = .cell w)
    (hc : ∀ x k, C.cl.lookup x = some k → ∃ c, C.env.cells.lookup x = some c ∧ (news.map (·.1))[k]? = some c)
    (h : SV C body ⟨[(x, .fix (.ref l))], List.replicate news.length (.cell none)⟩ (fun f _ => f = .ret (.bool true)))
    (hK : ∀ h' tk m', Fr C.h₀ C.env.locals h' m' → K (.ret (.bool true)) { s with heap := h', toks := tk }) : wpAny C.M C.A (execs body C.env) K E s := by
  refine wpNo ((h.go s (news.map (·.1)) ⟨⟨_, Sim.refl _ _, m, news, F, by rw [hkp, List.append_nil]; exact N, rfl, by rw [hkp]; simpa using hnd, ?_, fun y v e => ?_⟩, hc⟩).run K fun f st' s' ad' f' q e p hs' r => ?_)
  · exact cells_or hd
  · rw [List.lookup_cons] at e
    cases hy : y == x with
    | true =>
      rw [hy] at e
      cases e
      rw [eq_of_beq hy]
      exact ⟨_, hm, rfl⟩
    | false => rw [hy] at e; cases e
  · subst q
    obtain ⟨w, rfl, hw⟩ := r
    cases hw
    obtain ⟨h', tk, rfl⟩ := e
    obtain ⟨⟨gg, hgg, m', news, F', _⟩, _⟩ := hs'
    rw [hof] at hgg
    exact hK h' tk m' (hgg.frNil F')
abbrev mkCxC (prog : Program) (w : World) (A : Around) (env : Env) (h₀ : Heap) (cl : List (Str × Nat)) (p : Program) (loose : List Str) (mean : ExcName → Option Value) (mg mb : Str → Option Value) : Cx := ⟨prog, w, A, env, h₀, [], cl, p, loose, mean, mg, mb, h₀, []⟩
theorem enterCT {prog : Program} {w : World} {A : Around} {env : Env} {h₀ : Heap} {p : Program} {loose : List Str} {mean : ExcName → Option Value} {mg mb : Str → Option Value} {body : List Stmt} {E : Value → Shared → Prop} {K : Flow → Shared → Prop} {s : Shared} {m : Str → Option Value} {x : Str} {l : Addr} {news : List (Addr × Obj)} (cl : List (Str × Nat))
    (T : Top p loose mean mg mb h₀) (F : Fr h₀ env.locals s.heap m) (hm : m x = some (.ref l)) (N : News h₀ env.locals s.heap news) (hnd : (news.map (·.1)).Nodup) (hd : ∀ p ∈ news, ∃ w, p.2.data = .cell w)
    (hc : ∀ x k, cl.lookup x = some k → ∃ c, env.cells.lookup x = some c ∧ (news.map (·.1))[k]? = some c)
    (h : SV (mkCxC prog w A env h₀ cl p loose mean mg mb) body ⟨[(x, .fix (.ref l))], List.replicate news.length (.cell none)⟩ (fun f _ => f = .ret (.bool true)))
    (hK : ∀ h' tk m', Fr h₀ env.locals h' m' → K (.ret (.bool true)) { s with heap := h', toks := tk }) : wpAny (model prog w) A (execs body env) K E s :=
  enterC (mkCxC prog w A env h₀ cl p loose mean mg mb) rfl rfl F hm N hnd hd hc h hK
theorem bltC_of {prog : Program} {w : World} {A : Around} {env : Env} {h₀ : Heap} {cl : List (Str × Nat)} {p : Program} {loose : List Str} {mean : ExcName → Option Value} {mg mb : Str → Option Value} {x : Str} {v : Value} (T : Top p loose mean mg mb h₀)
    (hv : bootBuiltins x = some v) (hn : x ≠ "__name__") (h1 : x ∉ startupNames) (h2 : x ∉ loose) (h3 : x ∉ (recsOf p).map (·.name)) (h4 : x ∉ (litsOf p).map (·.1)) (h5 : x ∉ (clssOf p loose).map (·.name)) : Blt (mkCxC prog w A env h₀ cl p loose mean mg mb) x v :=
  ⟨T.free x h1 h2 h3 h4 h5, hv, hn⟩
end
end Mine
namespace Mine
open PySem.Builtin.Int (intBits)
/-- the k figures of base 256, the first one ahead -/
abbrev pk (k : Nat) (x : Int) : List Int := (KTBy.little k x).reverse
theorem pk_length (k : Nat) (x : Int) : (pk k x).length = k := by rw [List.length_reverse, KTBy.little_length]
theorem little_in : ∀ (k : Nat) (x : Int), KBa.In (KTBy.little k x)
  | 0, _ => fun _ h => nomatch h
  | k + 1, x => fun n h => by
    rcases List.mem_cons.mp h with rfl | h
    · omega
    · exact little_in k (x / 256) n h
theorem pk_in (k : Nat) (x : Int) : KBa.In (pk k x) := fun n h => little_in k x n (List.mem_reverse.mp h)
theorem byteArr_inj {ns ms : List Int} (h1 : KBa.In ns) (h2 : KBa.In ms) : (byteArr ns).toList = (byteArr ms).toList ↔ ns = ms := by
  constructor
  · intro e
    have := congrArg (List.map fun c : UInt8 => ((c.toNat : Nat) : Int)) e
    have a := KBa.ints_make h1
    have b := KBa.ints_make h2
    unfold KBw.bInts at a b
    rw [a, b] at this
    exact this
  · rintro rfl; rfl
theorem byteArr_beq {ns ms : List Int} (h1 : KBa.In ns) (h2 : KBa.In ms) : ((byteArr ns).toList == (byteArr ms).toList) = decide (ns = ms) := by
  rw [Bool.eq_iff_iff, beq_iff_eq, decide_eq_true_eq]
  exact byteArr_inj h1 h2
theorem args2 (a b : Value) : argsOk "int.to_bytes" ⟨[a, b], []⟩ := by unfold argsOk; kernel_rfl
/-- the order of two texts of bytes -/
def ordI : List Int → List Int → Ordering
  | [], [] => .eq
  | [], _ :: _ => .lt
  | _ :: _, [] => .gt
  | x :: xs, y :: ys => if x < y then .lt else if y < x then .gt else ordI xs ys
theorem byte_lt {x y : Int} (h1 : 0 ≤ x ∧ x < 256) (h2 : 0 ≤ y ∧ y < 256) : (x.toNat.toUInt8 < y.toNat.toUInt8) ↔ x < y := by
  rw [UInt8.lt_iff_toNat_lt]
  have a : (x.toNat.toUInt8).toNat = x.toNat := by show (UInt8.ofNat x.toNat).toNat = x.toNat; rw [UInt8.toNat_ofNat']; omega
  have b : (y.toNat.toUInt8).toNat = y.toNat := by show (UInt8.ofNat y.toNat).toNat = y.toNat; rw [UInt8.toNat_ofNat']; omega
  rw [a, b]
  omega
theorem order_ints : ∀ {ns ms : List Int}, KBa.In ns → KBa.In ms → Builtin.Bytes.order (byteArr ns).toList (byteArr ms).toList = ordI ns ms
  | [], [], _, _ => rfl
  | [], _ :: _, _, _ => rfl
  | _ :: _, [], _, _ => rfl
  | x :: xs, y :: ys, h1, h2 => by
    have ih := order_ints (ns := xs) (ms := ys) (fun n hn => h1 n (.tail _ hn)) (fun n hn => h2 n (.tail _ hn))
    show (if x.toNat.toUInt8 < y.toNat.toUInt8 then Ordering.lt else if x.toNat.toUInt8 > y.toNat.toUInt8 then Ordering.gt else Builtin.Bytes.order (byteArr xs).toList (byteArr ys).toList) = _
    rw [ih]
    unfold ordI
    have a := byte_lt (h1 x (.head _)) (h2 y (.head _))
    have b := byte_lt (h2 y (.head _)) (h1 x (.head _))
    by_cases c : x < y
    · rw [if_pos (a.mpr c), if_pos c]
    · rw [if_neg (fun q => c (a.mp q)), if_neg c]
      by_cases d : y < x
      · rw [if_pos (show x.toNat.toUInt8 > y.toNat.toUInt8 from b.mpr d), if_pos d]
      · rw [if_neg (fun q => d (b.mp q)), if_neg d]
        cases xs <;> cases ys <;> rfl
theorem slot_bytes_lt : Slot "bytes" (cmpInfo .Lt).2.1 "bytes.__lt__" :=
  .of (owner := "bytes") (n := "__lt__") (by rw [typeLookup_type, builtinLookup_eq_fast]; kernel_rfl) (by decide +kernel) (by decide +kernel) (by decide +kernel)
    (by first | exact .inl (by decide +kernel) | exact .inr (by decide +kernel)) (by rw [isSubtype_type]; kernel_rfl)
theorem entry_bytes_lt : entryFor table "bytes.__lt__" = some Builtin.«bytes.__lt__» := entryFor_of_fast (by kernel_rfl)
theorem args_bytes_lt (a b : Value) : argsOk "bytes.__lt__" ⟨[a, b], []⟩ := by unfold argsOk; kernel_rfl
theorem gives_bytes_lt (b c : Array UInt8) (t u : Tok) : Gives (Builtin.«bytes.__lt__» ⟨[.bytes b t, .bytes c u], []⟩) (.val (.bool (Builtin.Bytes.order b.toList c.toList == .lt))) := by
  refine .of_wp fun M A E s Q hq => ?_
  show wpAny M A (isInstance (.bytes c u) (.type "bytes") >>= fun r => _) _ E s
  refine wpAny_bind (wpAny_isInstance (typeIs_bytes s c u) F.sub_bytes_bytes ?_)
  exact wpAny_pure ⟨_, rfl, hq⟩
section
variable {C : Cx} {sc : Scope} {lv : Nat} {st : St} {pos : Pos} {Q : V → St → Prop} {ad : List Addr} {ns ms : List Int}
theorem cl_toBytes {x : Int} {k : Nat} (hk : k ≤ 16) (h0 : 0 ≤ x) (h1 : x < 256 ^ k) (h : Q (.bytes (byteArr (pk k x))) st) : CL C (.builtin "int.to_bytes") [.int x, .int (k : Int)] st Q := .mk fun s ad ws hs hr => At.mk fun K hK => by
  cases hr with | cons ra hr => cases hr with | cons rb hr => cases hr with | nil =>
  obtain ⟨t, rfl⟩ := ra
  obtain ⟨u, rfl⟩ := rb
  have hb : intBits x ≤ 8 * k := KTBy.bits_le rfl h0 h1
  refine wpAny_call_entry KTBy.slot (typeIs_int s x t) KTBy.entry ?_ (args2 _ _)
  show wpAny _ _ (Builtin.Int.intOfSelf (.int x t) >>= fun y => _) _ _ s
  refine wpAny_bind (wpAny_of_eq (a := x) rfl ?_)
  show wpAny _ _ (Builtin.Int.intBindNamed "to_bytes" ["length", "byteorder", "signed"] 0 2 [.int (k : Int) u] [] >>= fun l => _) _ _ s
  refine wpAny_bind (wpAny_of_eq (a := [some (.int (k : Int) u), none, none]) (by kernel_rfl) ?_)
  show wpAny _ _ (Builtin.Int.intIndex "int.to_bytes" (.int (k : Int) u) >>= fun n => _) _ _ s
  refine wpAny_bind (wpAny_of_eq (a := (k : Int)) rfl ?_)
  refine KTBy.if_not (by show (decide ((k : Int) < -(2 ^ 63 : Int)) || decide ((k : Int) ≥ 2 ^ 63)) = false; rw [decide_eq_false (show ¬ ((k : Int) < -(2 ^ 63 : Int)) by omega), decide_eq_false (show ¬ ((k : Int) ≥ 2 ^ 63) by omega)]; rfl) ?_
  refine wpAny_bind (wpAny_of_eq (a := PySem.Str.ofString "big") (by kernel_rfl) ?_)
  refine wpAny_bind (wpAny_of_eq (a := false) rfl ?_)
  refine wpAny_bind (wpAny_of_eq (a := false) (by kernel_rfl) ?_)
  refine wpAny_ite_false (decide_eq_false (show ¬ ((k : Int) < 0) by omega)) ?_
  refine wpAny_ite_false (decide_eq_false (show ¬ ((k : Int) > 2 ^ 63 - 1 - 33) by omega)) ?_
  refine wpAny_ite_false (decide_eq_false (show ¬ ((k : Int) > (sizeLine : Int)) by rw [sizeLine_eq]; omega)) ?_
  refine KTBy.if_not (by show (decide (x < 0) && !false) = false; rw [decide_eq_false (show ¬ x < 0 by omega)]; rfl) ?_
  refine KTBy.if_not (by show (_ && decide ((intBits x : Int) > 8 * (k : Int))) = false; rw [decide_eq_false (show ¬ ((intBits x : Int) > 8 * (k : Int)) by omega), Bool.and_false]) ?_
  refine wpAny_bind (wpAny_mkBytes (wpAny_pure ⟨_, rfl, hK _ _ _ ad _ h (Same.tk s _) (List.prefix_refl _) hs ⟨s.toks, ?_⟩⟩) (by show (List.reverse (KTBy.low x (Int.toNat (k : Int)))).length ≤ sizeLine; rw [List.length_reverse, KTBy.low_length, Int.toNat_natCast, sizeLine_eq]; omega))
  congr 1
  have e : (List.map (fun c : UInt8 => ((c.toNat : Nat) : Int)) (List.reverse (KTBy.low x k))) = pk k x := by rw [List.map_reverse, KTBy.low_ints h0 h1, ← KTBy.little_eq]
  rw [← e]
  show (List.reverse (KTBy.low x (Int.toNat (k : Int)))).toArray = _
  rw [Int.toNat_natCast]
  generalize (List.reverse (KTBy.low x k)) = l
  unfold byteArr
  congr 1
  rw [List.map_map]
  refine (List.map_id l).symm.trans (List.map_congr_left fun c _ => ?_)
  show c = (c.toNat : Int).toNat.toUInt8
  rw [Int.toNat_natCast]
  exact (UInt8.ofNat_toNat).symm
theorem cl_lenB (hsz : ns.length ≤ 1000000) (h : Q (.int (ns.length : Int)) st) : CL C (.builtin "len") [.bytes (byteArr ns)] st Q := .mk fun s ad ws hs hr => by
  cases hr with | cons ra hr => cases hr with | nil =>
  obtain ⟨t, rfl⟩ := ra
  refine At.tick (a := .int _ (s.toks + 1)) hs h ⟨_, rfl⟩ fun K hK => len_bytes (by rw [byteArr_size]; omega) ?_
  rw [byteArr_size]
  exact hK _
theorem bytes_item {i : Int} {v : Int} (hin : KBa.In ns) (hx : ns[i.toNat]? = some v) : ((((ns.map fun (n : Int) => n.toNat.toUInt8).getD i.toNat 0).toNat : Nat) : Int) = v := by
  have hv := hin v (List.mem_of_getElem? hx)
  rw [List.getD_eq_getElem?_getD, List.getElem?_map, hx]
  show (((v.toNat.toUInt8).toNat : Nat) : Int) = v
  have a : (v.toNat.toUInt8).toNat = v.toNat := by show (UInt8.ofNat v.toNat).toNat = v.toNat; rw [UInt8.toNat_ofNat']; omega
  rw [a]
  omega
theorem gi_bytes {i : Int} {v : Int} (hsz : ns.length ≤ 1000000) (hin : KBa.In ns) (h0 : 0 ≤ i) (hx : ns[i.toNat]? = some v) (h : Q (.int v) st) : GI C (.bytes (byteArr ns)) (.int i) st Q := .mk fun s ad va vb hs ⟨t, e⟩ ⟨u, f⟩ => by
  subst e f
  have hlt := (List.getElem?_eq_some_iff.mp hx).1
  refine ⟨⟨"bytes", _, typeIs_bytes _ _ _, FB.slot_bytes_getitem.lookup⟩, At.tick (a := .int v s.toks) hs h ⟨_, rfl⟩ fun K hK => ?_⟩
  have hK' := hK (s.toks + 1)
  rw [← bytes_item hin hx] at hK'
  exact getItem_bytes (l := ns.map fun (n : Int) => n.toNat.toUInt8) (by rw [List.length_map]; omega) h0 (by rw [List.length_map]; omega) hK'
theorem co_eqB (h1 : KBa.In ns) (h2 : KBa.In ms) (h : Q (.bool (decide (ns = ms))) st) : CO C .Eq (.bytes (byteArr ns)) (.bytes (byteArr ms)) st Q := .mk fun s ad va vb hs ⟨t, e⟩ ⟨u, f⟩ => by
  subst e f
  rw [← byteArr_beq h1 h2] at h
  exact At.stay (a := .bool _) hs h rfl fun _ hK => eq_bytes hK
theorem co_neB (h1 : KBa.In ns) (h2 : KBa.In ms) (h : Q (.bool (!decide (ns = ms))) st) : CO C .NotEq (.bytes (byteArr ns)) (.bytes (byteArr ms)) st Q := .mk fun s ad va vb hs ⟨t, e⟩ ⟨u, f⟩ => by
  subst e f
  rw [← byteArr_beq h1 h2] at h
  exact At.stay (a := .bool _) hs h rfl fun _ hK => ne_bytes hK
theorem co_ltB (h1 : KBa.In ns) (h2 : KBa.In ms) (h : Q (.bool (ordI ns ms == .lt)) st) : CO C .Lt (.bytes (byteArr ns)) (.bytes (byteArr ms)) st Q := .mk fun s ad va vb hs ⟨t, e⟩ ⟨u, f⟩ => by
  subst e f
  rw [← order_ints h1 h2] at h
  exact At.stay (a := .bool _) hs h rfl fun _ hK => compareOp_gives (op := .Lt) (typeIs_bytes s _ t) (typeIs_bytes s _ u) slot_bytes_lt entry_bytes_lt (args_bytes_lt _ _) (gives_bytes_lt _ _ t u) (fun e => nomatch e) hK
theorem VRs.ints {ad : List Addr} : ∀ {ns : List Int} {ws : List Value}, VRs ad (ns.map V.int) ws → IntsAre ws ns
  | [], _, .nil => .nil
  | n :: ns, _, .cons ⟨t, e⟩ r => by subst e; exact .cons n t r.ints
theorem cl_bytesL {k : Nat} (hh : C.A.handled = none) (hk : st.os[k]? = some (.list (ns.map V.int))) (hr : KBa.In ns) (hsz : ns.length ≤ 1000000) (h : Q (.bytes (byteArr ns)) st) : CL C (.type "bytes") [.ref k] st Q := .mk fun s ad ws hs hr' => At.mk fun K hK => by
  cases hr' with | cons ra hr' => cases hr' with | nil =>
  obtain ⟨a, ws, ha, hl, hv⟩ := hs.list hk
  cases ra.ref ha
  have hi := hv.ints
  refine call_bytes_ints hl hi hr (by rw [hi.length, sizeLine_eq]; omega) hh fun h' t' k' hkeep => ?_
  exact hK _ _ _ ad _ h (Same.mk' s h' k') (List.prefix_refl _) (hs.grown hkeep) ⟨_, rfl⟩
/-- a try whose body raises nothing -/
theorem xv_try {body : List Stmt} {h₀ : ExceptHandler} {hs : List ExceptHandler} {Q : F → St → Prop} (h : SV C body st Q) : XV C (.Try body (h₀ :: hs) [] [] pos) st Q := .mk fun s ad hs₀ => At.mk fun K hK =>
  wpAny_Try_except (wpNo ((h.go s ad hs₀).run _ fun f st1 s1 ad1 f' q1 e1 p1 hs1 r1 => by
    cases f with
    | next => cases r1; exact wpAny_execs_nil (hK .next st1 s1 ad1 .next q1 e1 p1 hs1 rfl)
    | brk => cases r1; exact hK .brk st1 s1 ad1 .brk q1 e1 p1 hs1 rfl
    | cont => cases r1; exact hK .cont st1 s1 ad1 .cont q1 e1 p1 hs1 rfl
    | ret v => obtain ⟨w, rfl, hw⟩ := r1; exact hK (.ret v) st1 s1 ad1 _ q1 e1 p1 hs1 ⟨w, rfl, hw⟩))
end
end Mine
namespace Mine
/-- an exception with its traceback: e holds vs, but for the traceback T, whose flight mark is fl -/
def Exc (h B : Heap) (e : Addr) (cls : Value) (vs : Array Value) (fl : Value) : Prop :=
  ∃ oe T oT ts, h.get? e = some oe ∧ oe.cls = cls ∧ oe.data = .fields (vs.setIfInBounds 1 (.ref T)) ∧ B.get? T = none ∧ T ≠ e ∧ h.get? T = some oT ∧ oT.data = .fields ts ∧ ts[3]? = some fl ∧ 1 < vs.size
theorem Exc.traced {h B : Heap} {e : Addr} {cls a0 fl : Value} {vs : Array Value} (x : Exc h B e cls vs fl) (h0 : vs[0]? = some a0) : h.TracedAtW B e cls a0 fl := by
  obtain ⟨oe, T, oT, ts, a1, a2, a3, a4, a5, a6, a7, a8, a9⟩ := x
  exact ⟨oe, _, T, oT, ts, a1, ⟨a2, by rw [Array.getElem?_setIfInBounds_ne (by decide)]; exact h0⟩, a3, by simp [a9], a4, a5, a6, a7, a8⟩
section
variable {M : Model} {A : Around} {E : Value → Shared → Prop} {s : Shared} {B : Heap} {env : Env} {outer : List Env} {L e : Addr}
/-- the first note of a frame -/
theorem note_first {oe : Obj} {vs : Array Value} {Q : Unit → Shared → Prop}
    (hfr : A.frames = some (env :: outer)) (hl : s.heap.FunFrames B (env :: outer)) (hf : env.frame = some L)
    (he : s.heap.get? e = some oe) (hkb : B.StaysIn s.heap) (hen : B.get? e = none) (hd : oe.data = .fields vs) (h1 : vs[1]? = some .none)
    (h : ∀ h', B.StaysIn h' → h'.FunFrames B (env :: outer) → s.heap.UpToSlots h' → (∀ b o, b ≠ e → b ∉ (env :: outer).filterMap (·.frame) → s.heap.get? b = some o → h'.get? b = some o) → Exc h' B e oe.cls vs (rawInt L) → Q () { s with heap := h' }) :
    wpAny M A (noteFrame (.ref e) env) Q E s := by
  have hsz : 1 < vs.size := (Array.getElem?_eq_some_iff.mp h1).1
  have hene : e ∉ (env :: outer).filterMap (·.frame) := fun hm => by
    obtain ⟨_, o, ho, hnf⟩ := hl.mem hm
    rw [he] at ho; cases ho; exact hnf vs hd
  unfold noteFrame
  simp only [hf]
  refine wpAny_bind (wpAny_field he hd h1 ?_)
  rw [if_neg (by decide)]
  refine wpAny_bind (wpAny_frameOf_fun hfr hl hf fun h₁ hs₁ => ?_)
  refine wpAny_bind (wpAny_entryPlaceOf fun pl hpl => ?_)
  unfold EntryCells.newEntry newFields
  refine wpAny_bind (wpAny_newObj_type ?_ (hpl.sizeOk5 _ _ _ _ _))
  generalize hTo : ({ cls := .type "traceback", dict := none, data := .fields ([Value.none, .ref L, .none, rawInt L, .none] ++ (if pl.isEmpty then List.replicate 6 Value.none else pl)).toArray } : Obj) = oT
  have he₁ : h₁.get? e = some oe := (hs₁.2.1 e hene).trans he
  have kb₁ : B.StaysIn h₁ := fun b o hbo => (hs₁.2.1 b fun hm => by rw [(hl.mem hm).1] at hbo; cases hbo).trans (hkb b o hbo)
  have he₂ := Heap.get?_push_of_some (h := h₁) oT he₁
  have hTe : h₁.objs.size ≠ e := Nat.ne_of_gt (Heap.lt_size he₁)
  have keep : ∀ b o, b ≠ e → h₁.get? b = some o → ((h₁.push oT).update e (Obj.mapFields (·.setIfInBounds 1 (Value.ref h₁.objs.size)))).get? b = some o := fun b o hbe hb => by
    rw [Heap.get?_update_other _ _ (Ne.symm hbe)]
    exact Heap.get?_push_of_some _ hb
  have noRec : ∀ b o, s.heap.get? b = some o → (∀ vs, o.data ≠ .fields vs) → b ≠ e := fun b o hb hnf q => by
    rw [q, he] at hb; cases hb; exact hnf vs hd
  refine wpAny_setField he₂ hd hsz (h _ ?_ ?_ ?_ ?_ ?_)
  · exact fun b o hbo => keep b o (fun q => by rw [q, hen] at hbo; cases hbo) (kb₁ b o hbo)
  · refine hl.of_keeps fun b o hb hnf => ?_
    obtain ⟨sl, hs⟩ := hs₁.2.2 b o hb
    exact ⟨_, keep b _ (noRec b o hb hnf) hs, rfl⟩
  · intro b o hb hnf
    obtain ⟨sl, hs⟩ := hs₁.2.2 b o hb
    exact ⟨sl, keep b _ (noRec b o hb hnf) hs⟩
  · exact fun b o hbe hbf hb => keep b o hbe ((hs₁.2.1 b hbf).trans hb)
  · have hd₃ := Obj.data_mapFields hd (·.setIfInBounds 1 (Value.ref h₁.objs.size))
    refine ⟨_, h₁.objs.size, oT, _, Heap.get?_update_self _ he₂ (Obj.isFreed_of_fields hd₃), Obj.cls_mapFields _ _, hd₃, kb₁.fresh, hTe, ?_, by rw [← hTo], ?_, hsz⟩
    · rw [Heap.get?_update_other _ _ (Ne.symm hTe)]
      exact Heap.get?_push_size h₁ (by rw [← hTo]; rfl)
    · simp
/-- a further frame's note -/
theorem note_next {cls : Value} {vs : Array Value} {Q : Unit → Shared → Prop}
    (hfr : A.frames = some (env :: outer)) (hl : s.heap.FunFrames B (env :: outer)) (hf : env.frame = some L) (hkb : B.StaysIn s.heap) (hen : B.get? e = none) (x : Exc s.heap B e cls vs .none)
    (h : ∀ h', B.StaysIn h' → h'.FunFrames B (env :: outer) → s.heap.UpToSlots h' → Exc h' B e cls vs (rawInt L) → Q () { s with heap := h' }) :
    wpAny M A (noteFrame (.ref e) env) Q E s := by
  obtain ⟨oe, T, oT, ts, he, hcls, hd, hnT, hTe, hT, hdT, h3, hsz0⟩ := x
  subst hcls
  have hsz : 1 < (vs.setIfInBounds 1 (.ref T)).size := by simpa using hsz0
  unfold noteFrame
  simp only [hf]
  refine wpAny_bind (wpAny_field he hd (x := .ref T) (by simp [hsz0]) ?_)
  rw [if_pos (show (Value.ref T != Value.none) = true from by simp)]
  refine wpAny_bind (wpAny_field hT hdT h3 ?_)
  rw [if_neg (show ¬ ((Value.none == rawInt L) = true) from by simp [rawInt])]
  refine wpAny_bind (wpAny_setField hT hdT (Array.getElem?_eq_some_iff.mp h3).1 ?_)
  have other : ∀ b, b ≠ T → (s.heap.update T (Obj.mapFields (·.setIfInBounds 3 Value.none))).get? b = s.heap.get? b := fun b hb => Heap.get?_update_other _ _ (Ne.symm hb)
  have noRecord : ∀ b o, s.heap.get? b = some o → (∀ vs, o.data ≠ .fields vs) → b ≠ T := fun b o hb hnf q => by
    rw [q, hT] at hb; cases hb; exact hnf ts hdT
  have hl1 : (s.heap.update T (Obj.mapFields (·.setIfInBounds 3 Value.none))).FunFrames B (env :: outer) := hl.of_keeps fun b o hb hnf => ⟨o, (other b (noRecord b o hb hnf)).trans hb, rfl⟩
  have he1 := (other e (Ne.symm hTe)).trans he
  have hk1 : B.StaysIn (s.heap.update T (Obj.mapFields (·.setIfInBounds 3 Value.none))) := fun b o hbo => (other b fun q => by rw [q, hnT] at hbo; cases hbo).trans (hkb b o hbo)
  have hu1 : s.heap.UpToSlots (s.heap.update T (Obj.mapFields (·.setIfInBounds 3 Value.none))) := fun b o hb hnf => ⟨o.slots, (other b (noRecord b o hb hnf)).trans hb⟩
  generalize s.heap.update T (Obj.mapFields (·.setIfInBounds 3 Value.none)) = H at hl1 he1 hk1 hu1
  have hene : e ∉ (env :: outer).filterMap (·.frame) := fun hm => by
    obtain ⟨_, o, ho, hnf⟩ := hl1.mem hm
    rw [he1] at ho; cases ho; exact hnf _ hd
  refine wpAny_bind (wpAny_frameOf_fun (s := { s with heap := H }) hfr hl1 hf fun h₁ hs₁ => ?_)
  refine wpAny_bind (wpAny_entryPlaceOf fun pl hpl => ?_)
  unfold EntryCells.newEntry newFields
  refine wpAny_bind (wpAny_newObj_type ?_ (hpl.sizeOk5 _ _ _ _ _))
  generalize hTo : ({ cls := .type "traceback", dict := none, data := .fields ([Value.ref T, .ref L, .none, rawInt L, .none] ++ (if pl.isEmpty then List.replicate 6 Value.none else pl)).toArray } : Obj) = oT'
  have he₁ : h₁.get? e = some oe := (hs₁.2.1 e hene).trans he1
  have kb₁ : B.StaysIn h₁ := fun b o hbo => (hs₁.2.1 b fun hm => by rw [(hl1.mem hm).1] at hbo; cases hbo).trans (hk1 b o hbo)
  have he₂ := Heap.get?_push_of_some (h := h₁) oT' he₁
  have hTe' : h₁.objs.size ≠ e := Nat.ne_of_gt (Heap.lt_size he₁)
  have keep : ∀ b o, b ≠ e → h₁.get? b = some o → ((h₁.push oT').update e (Obj.mapFields (·.setIfInBounds 1 (Value.ref h₁.objs.size)))).get? b = some o := fun b o hbe hb => by
    rw [Heap.get?_update_other _ _ (Ne.symm hbe)]
    exact Heap.get?_push_of_some _ hb
  have noRec : ∀ b o, H.get? b = some o → (∀ vs, o.data ≠ .fields vs) → b ≠ e := fun b o hb hnf q => by
    rw [q, he1] at hb; cases hb; exact hnf _ hd
  refine wpAny_setField he₂ hd hsz (h _ ?_ ?_ ?_ ?_)
  · exact fun b o hbo => keep b o (fun q => by rw [q, hen] at hbo; cases hbo) (kb₁ b o hbo)
  · refine hl1.of_keeps fun b o hb hnf => ?_
    obtain ⟨sl, hs⟩ := hs₁.2.2 b o hb
    exact ⟨_, keep b _ (noRec b o hb hnf) hs, rfl⟩
  · refine hu1.trans fun b o hb hnf => ?_
    obtain ⟨sl, hs⟩ := hs₁.2.2 b o hb
    exact ⟨sl, keep b _ (noRec b o hb hnf) hs⟩
  · have hd₃ := Obj.data_mapFields hd (·.setIfInBounds 1 (Value.ref h₁.objs.size))
    refine ⟨_, h₁.objs.size, oT', _, Heap.get?_update_self _ he₂ (Obj.isFreed_of_fields hd₃), Obj.cls_mapFields _ _, ?_, kb₁.fresh, hTe', ?_, by rw [← hTo], ?_, hsz0⟩
    · rw [hd₃]; simp
    · rw [Heap.get?_update_other _ _ (Ne.symm hTe')]
      exact Heap.get?_push_size h₁ (by rw [← hTo]; rfl)
    · simp
/-- a flight mark set -/
theorem flight_set {cls fl : Value} {vs : Array Value} {l : List Env} {fr : Option Addr} {Q : Unit → Shared → Prop} (hkb : B.StaysIn s.heap) (hl : s.heap.FunFrames B l) (x : Exc s.heap B e cls vs fl)
    (h : ∀ h', B.StaysIn h' → h'.FunFrames B l → s.heap.UpToSlots h' → (∀ b o, (∀ vs, o.data ≠ .fields vs) → s.heap.get? b = some o → h'.get? b = some o) → Exc h' B e cls vs (fr.elim .none fun f => rawInt f) → Q () { s with heap := h' }) :
    wpAny M A (setFlight (.ref e) fr) Q E s := by
  obtain ⟨oe, T, oT, ts, a1, a2, a3, a4, a5, a6, a7, a8, a9⟩ := x
  have hsz3 : 3 < ts.size := (Array.getElem?_eq_some_iff.mp a8).1
  unfold setFlight
  refine wpAny_bind (wpAny_field a1 a3 (x := .ref T) (by simp [a9]) ?_)
  rw [if_pos (show (Value.ref T != Value.none) = true from by simp)]
  have other : ∀ b, b ≠ T → (s.heap.update T (Obj.mapFields (·.setIfInBounds 3 (fr.elim Value.none fun f => rawInt f)))).get? b = s.heap.get? b := fun b hb => Heap.get?_update_other _ _ (Ne.symm hb)
  have noRec : ∀ b o, s.heap.get? b = some o → (∀ vs, o.data ≠ .fields vs) → b ≠ T := fun b o hb hnf q => by
    rw [q, a6] at hb; cases hb; exact hnf ts a7
  refine wpAny_setField a6 a7 hsz3 (h _ ?_ ?_ ?_ ?_ ?_)
  · exact fun b o hbo => (other b fun q => by rw [q, a4] at hbo; cases hbo).trans (hkb b o hbo)
  · exact hl.of_keeps fun b o hb hnf => ⟨o, (other b (noRec b o hb hnf)).trans hb, rfl⟩
  · exact fun b o hb hnf => ⟨o.slots, (other b (noRec b o hb hnf)).trans hb⟩
  · exact fun b o hnf hb => (other b (noRec b o hb hnf)).trans hb
  · exact ⟨oe, T, _, _, (other e (Ne.symm a5)).trans a1, a2, a3, a4, a5, Heap.get?_update_self _ a6 (Obj.isFreed_of_fields (Obj.data_mapFields a7 _)), Obj.data_mapFields a7 _, by simp [hsz3], a9⟩
theorem came_back {cls fl : Value} {vs : Array Value} {l : List Env} (hf : env.frame = some L) (hkb : B.StaysIn s.heap) (hl : s.heap.FunFrames B l) (x : Exc s.heap B e cls vs fl)
    (h : ∀ h', B.StaysIn h' → h'.FunFrames B l → s.heap.UpToSlots h' → Exc h' B e cls vs (rawInt L) → E (.ref e) { s with heap := h' }) : cameBackBy M A env E (.ref e) s := by
  have x' := x
  obtain ⟨oe, T, oT, ts, a1, a2, a3, a4, a5, a6, a7, a8, a9⟩ := x
  unfold cameBackBy
  refine wpAny_bind (wpAny_field a1 a3 (x := .ref T) (by simp [a9]) ?_)
  rw [if_neg (by simp), hf]
  exact flight_set hkb hl x' fun h' k1 k2 k3 _ k5 => h h' k1 k2 k3 k5
end
end Mine
namespace Mine
theorem entry_unchain : entryFor table "proto.unchain" = some Builtin.«proto.unchain» := entryFor_of_fast (by kernel_rfl)
section
variable {prog : Program} {w : World} {A : Around} {E : Value → Shared → Prop} {s : Shared} {env : Env}
theorem raiseNew_in {α : Type} {e e1 : Addr} {oe o1 : Obj} {vs v1 : Array Value} {Q : α → Shared → Prop} (hh : A.handled = some (.ref e1)) (hne : e1 ≠ e) (h1 : s.heap.get? e1 = some o1) (hd1 : o1.data = .fields v1) (h12 : v1[2]? = some .none)
    (he : s.heap.get? e = some oe) (hd : oe.data = .fields vs) (hsz : 2 < vs.size) (h : E (.ref e) { s with heap := s.heap.update e (Obj.mapFields (·.setIfInBounds 2 (.ref e1))) }) : wpAny (model prog w) A (raiseNew (.ref e) : Sem α) Q E s := by
  unfold raiseNew
  refine wpAny_bind (wpAny_handled ?_)
  rw [hh]
  show wpAny _ _ (if (Value.ref e1 != Value.ref e) = true then do
      let _ ← holding [Value.ref e] (runValue (.builtin "proto.unchain" ⟨[.ref e, .ref e1, .ref e1, .bool false], []⟩))
      let r ← updateField e 2 (.ref e1)
      throw (.ref e)
    else throw (.ref e)) _ _ _
  rw [if_pos (by simp [hne])]
  refine wpAny_bind (wpAny_holding (wpAny_runValue (codeAny_builtin entry_unchain ?_)))
  unfold Builtin.«proto.unchain»
  show wpAny _ _ (field (.ref e1) 2 >>= fun context => _) _ _ _
  refine wpAny_bind (wpAny_field h1 hd1 h12 ?_)
  rw [if_pos (by rfl)]
  refine wpAny_pure ?_
  exact wpAny_bind (wpAny_setField he hd hsz (wpAny_throw h))
theorem raiseStmt_in {cls : String} {e1 : Addr} (F : ExcRaiseFacts cls) {x : Sem Value} {Q : Flow → Shared → Prop} (hh : A.handled = some (.ref e1))
    (h : wpAny (model prog w) A x (fun v s₁ => ∃ e t, v = .ref e ∧ s₁.heap.get? e = some { cls := .type cls, data := .fields #[.ref t, .none, .none, .none, .bool false, .none] } ∧ e1 ≠ e ∧ (∃ o1 v1, s₁.heap.get? e1 = some o1 ∧ o1.data = .fields v1 ∧ v1[2]? = some .none) ∧
      E (.ref e) { s₁ with heap := s₁.heap.update e (Obj.mapFields (·.setIfInBounds 2 (.ref e1))) }) E s) :
    wpAny (model prog w) A (raiseStmt env (some x) none) Q E s := by
  unfold raiseStmt
  refine wpAny_bind (wpAny_mono h (fun v s₁ h₁ => ?_) fun _ _ x => x)
  obtain ⟨e, t, rfl, he, hne, ⟨o1, v1, k1, k2, k3⟩, hE⟩ := h₁
  obtain ⟨hp, g, d, tk, os⟩ := s₁
  have hsub := F.isExc
  have hmeta := F.plainMeta
  repeat (first | refine wpAny_loadPart he ?_ | wp_step)
  exact raiseNew_in hh hne k1 k2 k3 he rfl (by show 2 < 6; decide) hE
end
end Mine
namespace Mine
open PySem.Builtin.Int (intBits)
abbrev Cx.hand (C : Cx) (v : Value) : Cx := { C with A := C.A.mark (some v) }
theorem SR.hand {C : Cx} {ad : List Addr} {st : St} {h : Heap} (hs : SR C ad st h) (v : Value) : SR (C.hand v) ad st h := ⟨hs.ex, hs.cells⟩
theorem SR.unhand {C : Cx} {ad : List Addr} {st : St} {h : Heap} {v : Value} (hs : SR (C.hand v) ad st h) : SR C ad st h := ⟨hs.ex, hs.cells⟩
theorem Gd.hand {C : Cx} {sc : Scope} {lv : Nat} (G : Gd C sc lv) (v : Value) : Gd (C.hand v) sc lv := ⟨G.scope, G.kind, G.glob, G.blt, G.top, G.st, G.depth, G.units, fun h => by
  obtain ⟨A₀, outer, B, hof, hor⟩ := G.bel h
  rcases hor with hor | rfl
  · exact ⟨A₀, outer, B, hof, .inl hor⟩
  · exact ⟨C.A.mark (some v), outer, ⟨B.stack, B.stays, B.frames⟩, hof, .inr rfl⟩⟩
/-- an exception on its way through frame C -/
structure Fly (C : Cx) (ad : List Addr) (st : St) (w : Str) (e : Addr) (fl : Value) (h : Heap) : Prop where
  sr : SR C ad st h
  fly : ∃ (B : Heap) (t : Addr) (u : Tok) (fs : List Env) (B₀ : Heap) (c : Addr) (oc : Obj) (vc : Array Value), (B.StaysIn h ∧ B.get? e = none ∧ h.FunFrames B fs ∧ Exc h B e (.type "ValueError") #[.ref t, .none, .ref c, .none, .bool false, .none] fl) ∧ C.A.frames = some fs ∧ h.TupAt t [.str w u] ∧ B.get? t = none ∧
    (B₀.StaysIn B ∧ B₀.get? c = none ∧ B.get? c = some oc ∧ oc.data = .fields vc ∧ vc[2]? = some .none) ∧
    (∀ b o, C.h₀.get? b = some o → b ∉ C.of → B₀.get? b = some o) ∧ (∀ a ∈ ad ++ C.kp.map (·.1), ∀ o, h.get? a = some o → B₀.get? a = some o)
section
variable {C : Cx} {sc : Scope} {lv : Nat} {st : St} {ad : List Addr}
/-- frames' slots turned, all else of B as it was -/
theorem SR.land (G : Gd C sc lv) {B h h' : Heap} (hs : SR C ad st h) (h1 : ∀ b o, C.h₀.get? b = some o → b ∉ C.of → B.get? b = some o) (h2 : ∀ a ∈ ad ++ C.kp.map (·.1), ∀ o, h.get? a = some o → B.get? a = some o)
    (hk : B.StaysIn h') (hu : h.UpToSlots h') : SR C ad st h' := by
  obtain ⟨⟨gg, hgg, m, news, F, N, c, d, o, r⟩, hc⟩ := hs
  obtain ⟨g', hg', hk'⟩ := Sim.make (h₀ := C.h₀) (h := h') (of := C.of) (fun b o e n => hk b o (h1 b o e n)) (fun b o e => by
    by_cases hb : b ∈ C.of
    · obtain ⟨_, o', e', hn, _⟩ := G.st.2 b hb
      rw [e] at e'
      cases e'
      obtain ⟨s1, e1⟩ := hgg.slot b o e
      obtain ⟨s2, e2⟩ := hu b _ (F.keep b _ e1) hn
      exact ⟨s2, e2⟩
    · exact ⟨o.slots, hk b o (h1 b o e hb)⟩)
  refine ⟨⟨g', hg', m, news, ⟨hu.ns F.ns, hk', by rw [hg'.size, ← hgg.size]; exact F.above⟩, fun p hp => ⟨hk _ _ (h2 p.1 ?_ _ (N p hp).1), (N p hp).2.1, hg'.non _ (hgg.fresh (N p hp).2.2)⟩, c, d, o, r⟩, hc⟩
  rw [← c, ← List.map_append]
  exact List.mem_map_of_mem hp
/-- the ground below a raise in this frame -/
theorem Gd.ground (G : Gd C sc lv) (hlv : 0 < lv) (ow : Own C) {h : Heap} (hs : SR C ad st h) : ∃ B fs, C.A.frames = some (C.env :: fs) ∧ B.StaysIn h ∧ h.FunFrames B (C.env :: fs) ∧
    (∀ b o, C.h₀.get? b = some o → b ∉ C.of → B.get? b = some o) ∧ (∀ a ∈ ad ++ C.kp.map (·.1), ∀ o, h.get? a = some o → B.get? a = some o) := by
  obtain ⟨⟨gg, hgg, m, news, F, N, c, d, o, r⟩, hc⟩ := hs
  obtain ⟨A₀, outer, B, hof, hor⟩ := G.bel hlv
  obtain ⟨⟨fs, hfs⟩, hfr⟩ := ow
  have B' : Below A₀ C.base outer gg := ⟨B.stack, G.stays hgg, B.frames.of_keeps fun b o e _ => by obtain ⟨sl, h⟩ := hgg.slot b o e; exact ⟨_, h, rfl⟩⟩
  have hall : ∃ fs', C.A.frames = some (C.env :: fs') ∧ h.FunFrames C.base (C.env :: fs') ∧ (∀ b ∈ (C.env :: fs').filterMap (·.frame), b = C.env.locals ∨ b ∈ C.of) ∧ (∀ b ∈ (C.env :: fs').filterMap (·.frame), b ≠ C.env.locals → gg.get? b ≠ none) := by
    rcases hor with ⟨hA, hf⟩ | rfl
    · have P := pushX B' F hf (by rw [G.scope]; exact G.kind)
      refine ⟨outer, hA, P.frames, fun b hb => ?_, fun b hb hne => ?_⟩
      · rw [List.filterMap_cons, hf] at hb
        rcases List.mem_cons.mp hb with rfl | hb
        · exact .inl rfl
        · exact .inr (hof b hb)
      · rw [List.filterMap_cons, hf] at hb
        rcases List.mem_cons.mp hb with rfl | hb
        · exact absurd rfl hne
        · obtain ⟨o, ho, _⟩ := (B'.frames.mem hb).2
          rw [ho]; exact fun q => nomatch q
    · have e := B'.stack
      rw [hfs] at e
      cases e
      have P := B'.frames.of_keeps (h' := h) fun b o e _ => ⟨o, F.keep b o e, rfl⟩
      refine ⟨fs, hfs, P, fun b hb => .inr (hof b hb), fun b hb hne => ?_⟩
      obtain ⟨o, ho, _⟩ := (B'.frames.mem hb).2
      rw [ho]; exact fun q => nomatch q
  obtain ⟨fs', hA, P, hin, hgin⟩ := hall
  refine ⟨hideAll h ((C.env :: fs').filterMap (·.frame)), fs', hA, fun b o e => of_hideAll _ e, funFrames_hide P fun env he a ha => List.mem_filterMap.mpr ⟨env, he, ha⟩, fun b o e n => ?_, fun a ha o e => hideAll_get _ e fun q => ?_⟩
  · have e1 := hgg.same b o e n
    refine hideAll_get _ (F.keep b o e1) fun q => ?_
    rcases hin b q with rfl | q
    · exact absurd (Nat.lt_of_lt_of_le (Heap.lt_size e1) F.above) (Nat.lt_irrefl _)
    · exact n q
  · rw [← c, ← List.map_append] at ha
    obtain ⟨p, hp, rfl⟩ := List.mem_map.mp ha
    by_cases hL : p.1 = C.env.locals
    · exact (N p hp).2.1 hL
    · exact hgin _ q hL (N p hp).2.2
end
theorem toBytes_raise {prog : Program} {w : World} {A : Around} {E : Value → Shared → Prop} {s : Shared} {x : Int} {k : Nat} {t u : Tok} {Q : Value → Shared → Prop} (hh : A.handled = none) (hk : k ≤ 16) (hx : x < 0 ∨ 256 ^ k ≤ x)
    (h : ∀ h' tk e, Heap.NewExc s.heap h' e "OverflowError" → E (.ref e) { s with heap := h', toks := tk }) : wpAny (model prog w) A (call (.builtin "int.to_bytes") [.int x t, .int (k : Int) u]) Q E s := by
  refine wpAny_call_entry KTBy.slot (typeIs_int s x t) KTBy.entry ?_ (args2 _ _)
  show wpAny _ _ (Builtin.Int.intOfSelf (.int x t) >>= fun y => _) _ _ s
  refine wpAny_bind (wpAny_of_eq (a := x) rfl ?_)
  show wpAny _ _ (Builtin.Int.intBindNamed "to_bytes" ["length", "byteorder", "signed"] 0 2 [.int (k : Int) u] [] >>= fun l => _) _ _ s
  refine wpAny_bind (wpAny_of_eq (a := [some (.int (k : Int) u), none, none]) (by kernel_rfl) ?_)
  show wpAny _ _ (Builtin.Int.intIndex "int.to_bytes" (.int (k : Int) u) >>= fun n => _) _ _ s
  refine wpAny_bind (wpAny_of_eq (a := (k : Int)) rfl ?_)
  refine KTBy.if_not (by show (decide ((k : Int) < -(2 ^ 63 : Int)) || decide ((k : Int) ≥ 2 ^ 63)) = false; rw [decide_eq_false (show ¬ ((k : Int) < -(2 ^ 63 : Int)) by omega), decide_eq_false (show ¬ ((k : Int) ≥ 2 ^ 63) by omega)]; rfl) ?_
  refine wpAny_bind (wpAny_of_eq (a := PySem.Str.ofString "big") (by kernel_rfl) ?_)
  refine wpAny_bind (wpAny_of_eq (a := false) rfl ?_)
  refine wpAny_bind (wpAny_of_eq (a := false) (by kernel_rfl) ?_)
  refine wpAny_ite_false (decide_eq_false (show ¬ ((k : Int) < 0) by omega)) ?_
  refine wpAny_ite_false (decide_eq_false (show ¬ ((k : Int) > 2 ^ 63 - 1 - 33) by omega)) ?_
  refine wpAny_ite_false (decide_eq_false (show ¬ ((k : Int) > (sizeLine : Int)) by rw [sizeLine_eq]; omega)) ?_
  by_cases hn : x < 0
  · show wpAny _ _ (if (decide (x < 0) && !false) = true then _ else _) _ _ _
    rw [if_pos (by rw [decide_eq_true hn]; rfl)]
    exact wpAny_bind (wpAny_rule (wpAny_bind (wpAny_raiseErrorWords plainExc_OverflowError hh h)))
  · refine KTBy.if_not (by show (decide (x < 0) && !false) = false; rw [decide_eq_false hn]; rfl) ?_
    have hb : (256 : Int) ^ k ≤ x := by omega
    have hpos : (0 : Int) < 256 ^ k := Int.pow_pos (by decide)
    have hbits : 8 * k < intBits x := by
      rcases Nat.lt_or_ge (8 * k) (intBits x) with hlt | hge
      · exact hlt
      · exfalso
        have h1 : (x.natAbs) < 2 ^ (8 * k) := intBits_le_iff.mp hge
        have h3 : (256 : Nat) ^ k = 2 ^ (8 * k) := by rw [Nat.pow_mul]
        have h4 : ((256 ^ k : Nat) : Int) = (256 : Int) ^ k := by simp
        omega
    show wpAny _ _ (if (x != 0 && decide ((intBits x : Int) > 8 * (k : Int))) = true then _ else _) _ _ _
    rw [if_pos (by rw [decide_eq_true (show (intBits x : Int) > 8 * (k : Int) by omega), Bool.and_true]; exact bne_iff_ne.mpr (by omega))]
    exact wpAny_bind (wpAny_rule (wpAny_bind (wpAny_raiseErrorWords plainExc_OverflowError hh h)))
end Mine
namespace Mine
open PySem.Builtin.Int (intBits)
/-- a body that raises, noted by its own frame -/
structure SH (C : Cx) (ss : List Stmt) (st : St) (X : Str → St → Prop) : Prop where
  go : ∀ s ad, SR C ad st s.heap → ∀ (K : Flow → Shared → Prop) (E : Value → Shared → Prop), (∀ w st' s' ad' e, X w st' → Same s s' → ad <+: ad' → Fly C ad' st' w e (rawInt C.env.locals) s'.heap → E (.ref e) s') → wpAny C.M C.A (execs ss C.env) K E s
section
variable {C : Cx} {sc : Scope} {lv : Nat} {st : St} {ad : List Addr}
theorem ld_blt {x : Str} {v : Value} {pos : Pos} {s : Shared} {K : Value → Shared → Prop} {E : Value → Shared → Prop} (G : Gd C sc lv) (hb : Blt C x v) (hs : SR C ad st s.heap) (hl : sc.names.lookup x = some .globalImplicit) (hK : K v s) (hd : (x == ("__debug__" : Str)) = false := by decide) : wpAny C.M C.A (eval (.Name x pos) C.env) K E s := by
  obtain ⟨hm, hv, hn⟩ := hb
  obtain ⟨gg, hgg, m, news, F, N, c, d, o, r⟩ := hs.ex
  exact Name_function_global (by rw [G.scope]; exact G.kind) (by rw [Env.kindOf, G.scope]; exact hl) (loadGlobal_builtin (by rw [G.glob]; exact G.top.g.keeps (G.keep hgg F)) hm (by rw [G.blt]; exact G.top.b.keeps (G.keep hgg F)) ((G.top.builtins x hn).trans hv) hK) hd
theorem Exc.typeIs {s : Shared} {B : Heap} {e : Addr} {T : String} {vs : Array Value} {fl : Value} (x : Exc s.heap B e (.type T) vs fl) : s.TypeIs (.ref e) T := by
  obtain ⟨oe, T, oT, ts, a1, a2, _⟩ := x
  exact ⟨oe, a1, a2⟩
theorem fresh_in {B h : Heap} {e : Addr} (hB : B.StaysIn h) (n : h.get? e = none) : B.get? e = none := by
  cases q : B.get? e with
  | none => rfl
  | some o => have := hB _ _ q; rw [n] at this; cases this
theorem SR.here {h : Heap} (hs : SR C ad st h) : ∀ a ∈ ad ++ C.kp.map (·.1), ∃ o, h.get? a = some o := fun a ha => by
  obtain ⟨gg, hgg, m, news, F, N, c, d, o, r⟩ := hs.ex
  rw [← c, ← List.map_append] at ha
  obtain ⟨p, hp, rfl⟩ := List.mem_map.mp ha
  exact ⟨_, (N p hp).1⟩
theorem packed_refuse {p1 p2 p3 p4 p5 p6 p7 p8 p9 p10 p11 p12 : Pos} {n : Int} {k : Nat} {w : Str} {X : Str → St → Prop} (G : Gd C sc lv) (hlv : 0 < lv) (ow : Own C) (hh : C.A.handled = none)
    (hO : Blt C "OverflowError" (.type "OverflowError")) (hV : Blt C "ValueError" (.type "ValueError")) (hk : k ≤ 16) (hx : n < 0 ∨ 256 ^ k ≤ n) (ha : st.m.lookup (Str.ofString "address") = some (.int n)) (hX : X w st)
    (hl : sc.names.lookup (Str.ofString "address") = some .local) (g1 : sc.names.lookup (Str.ofString "OverflowError") = some .globalImplicit) (g2 : sc.names.lookup (Str.ofString "ValueError") = some .globalImplicit) (hline : (p2.endLine == p4.line) = true) :
    SH C [.Try [.Return (some (.Call (.Attribute (.Name "address" p1) "to_bytes" p2) [.Constant (.int (k : Int)) 0 p3] [] p4)) p5]
      [.ExceptHandler (some (.Name "OverflowError" p6)) none [.Raise (some (.Call (.Name "ValueError" p7) [.Constant (.str w) 0 p8] [] p9)) none p10] p11] [] [] p12] st X := .mk fun s ad hs K E hE => by
  refine wpAny_execs_cons (wpAny_Try_except (wpAny_execs_cons (wpAny_Return_some ?_)))
  refine wpAny_Call_method (T := "int") (id := "int.to_bytes") rfl rfl hline F.plainAttrs_int KTBy.slot F.type_int_to_bytes ?_
  refine wpNo (((ev_local (Q := fun v st1 => v = .int n ∧ st1 = st) G ⟨rfl, rfl⟩ ha hl (by decide)).go s ad hs).run _ fun v st1 s1 ad1 va q1 e1 pp1 hs1 r1 => ?_)
  obtain ⟨rfl, rfl⟩ := q1
  obtain ⟨t, rfl⟩ := r1
  refine ⟨typeIs_int _ _ _, fun a e => (nomatch e), callWith_builtin rfl ?_⟩
  have av := (av_cons (C := C) (pos := p4) (e := .Constant (.int (k : Int)) 0 p3) (rest := []) (Q := fun vs st' => vs = [.int (k : Int)] ∧ st' = st1) (ev_int (av_nil ⟨rfl, rfl⟩)) rfl).go s1 ad1 hs1
  refine evalArgs_plain (wpNo (av.run _ fun vs st2 s2 ad2 ws q2 e2 pp2 hs2 r2 => ?_))
  obtain ⟨rfl, rfl⟩ := q2
  cases r2 with | cons ra r2 => cases r2 with | nil =>
  obtain ⟨u, rfl⟩ := ra
  refine toBytes_raise hh hk hx fun H1 tk1 x1 N1 => ?_
  obtain ⟨B, fs, hA, hB, hF, hB1, hB2⟩ := G.ground hlv ow hs2
  have hfr := ow.2
  obtain ⟨ob1, tp1, g1e, g1c, g1d⟩ := N1.there
  have u1 : s2.heap.UpToSlots H1 := Heap.UpToSlots.of_keeps N1.keeps
  have k1 : B.StaysIn H1 := fun b o e => N1.keeps b o (hB b o e)
  have f1 : H1.FunFrames B (C.env :: fs) := hF.of_keeps fun b o e _ => ⟨o, N1.keeps b o e, rfl⟩
  have n1 : B.get? x1 = none := by
    cases q : B.get? x1 with
    | none => rfl
    | some o => have := hB _ _ q; rw [show s2.heap.get? x1 = none from N1.new] at this; cases this
  refine note_first hA f1 hfr g1e k1 n1 g1d rfl fun H2 k2 f2 u2 _ x2 => ?_
  refine flight_set k2 f2 x2 fun H3 k3 f3 u3 _ x3 => ?_
  have s3 : SR C ad2 st2 H3 := hs2.land G hB1 hB2 k3 (u1.trans (u2.trans u3))
  refine wpAny_handleBy_builtin (X := "OverflowError") (T := "OverflowError") (b := true) F.isExc_OverflowError F.notTuple_OverflowError (by rw [isSubtype_type]; kernel_rfl) ?_
  rw [g1c] at x3
  refine ld_blt (C := C.hand (.ref x1)) (s := { s2 with heap := H3, toks := tk1 }) (G.hand _) hO (s3.hand _) g1 ⟨rfl, x3.typeIs, ?_⟩
  rw [if_pos rfl]
  refine flight_set k3 f3 x3 fun H4 k4 f4 u4 _ x4 => ?_
  have s4 : SR C ad2 st2 H4 := hs2.land G hB1 hB2 k4 (u1.trans (u2.trans (u3.trans u4)))
  refine wpAny_execs_cons ?_
  rw [arm_exec_Raise]
  refine wpAny_bind (wpAny_standAt ?_)
  show wpAny _ _ (raiseStmt C.env (some (do let v ← eval (.Call (.Name "ValueError" p7) [.Constant (.str w) 0 p8] [] p9) C.env; standAt p10; pure v)) none) _ _ _
  refine raiseStmt_in F.excRaise_ValueError (show (C.A.mark (some (.ref x1))).handled = some (.ref x1) from rfl) (wpAny_bind (wpAny_Call_ofName ?_))
  refine ld_blt (C := C.hand (.ref x1)) (s := { s2 with heap := H4, toks := tk1 }) (G.hand _) hV (s4.hand _) g2 ?_
  refine callWith_excType rfl ?_
  refine evalArgs_plain (spliced_cons (Constant_str (k := 0) (pos := p8) (spliced_nil ?_)))
  refine wpAny_call_exc F.excCall_ValueError fun H5 x5 M5 => wpAny_bind (wpAny_standAt (wpAny_pure ?_))
  obtain ⟨t5, g5e, g5n, g5t⟩ := M5.there
  obtain ⟨o1, T1, oT1, ts1, a1, a2, a3, a4, a5, a6, a7, a8, a9⟩ := x4
  have hx1f : x1 ∉ (C.env :: fs).filterMap (·.frame) := fun hm => by
    obtain ⟨_, o, ho, hnf⟩ := f4.mem hm
    rw [a1] at ho; cases ho; exact hnf _ a3
  obtain ⟨B', hBB', kB4, fB4, hB'c⟩ : ∃ B' : Heap, B.StaysIn B' ∧ B'.StaysIn H4 ∧ H4.FunFrames B' (C.env :: fs) ∧ B'.get? x1 = some o1 := by
    refine ⟨hideAll H4 ((C.env :: fs).filterMap (·.frame)), fun b o e => hideAll_get _ (k4 b o e) fun q => ?_, fun b o e => of_hideAll _ e, funFrames_hide f4 fun env he a ha => List.mem_filterMap.mpr ⟨env, he, ha⟩, hideAll_get _ a1 hx1f⟩
    rw [(f4.mem q).1] at e; cases e
  have n5 : B'.get? x5 = none := fresh_in kB4 M5.new
  have nt5 : B'.get? t5 = none := fresh_in kB4 g5n
  have ht5 : t5 ≠ x5 := fun q => by rw [q, g5e] at g5t; exact nomatch congrArg Obj.data (Option.some.inj g5t)
  have hne : x1 ≠ x5 := fun q => by have := M5.new; rw [← q] at this; rw [show H4.get? x1 = some o1 from a1] at this; cases this
  refine ⟨x5, t5, rfl, g5e, hne, ⟨o1, _, M5.keeps _ _ a1, a3, by simp⟩, ?_⟩
  have o6 : ∀ b, b ≠ x5 → (H5.update x5 (Obj.mapFields (·.setIfInBounds 2 (.ref x1)))).get? b = H5.get? b := fun b hb => Heap.get?_update_other _ _ (Ne.symm hb)
  have g6e := Heap.get?_update_self (Obj.mapFields (·.setIfInBounds 2 (Value.ref x1))) g5e (Obj.isFreed_of_fields (Obj.data_mapFields rfl _))
  have k46 : ∀ b o, H4.get? b = some o → (H5.update x5 (Obj.mapFields (·.setIfInBounds 2 (.ref x1)))).get? b = some o := fun b o e => (o6 b fun q => by
    rw [q] at e
    rw [show H4.get? x5 = none from M5.new] at e
    cases e).trans (M5.keeps b o e)
  have g6t : (H5.update x5 (Obj.mapFields (·.setIfInBounds 2 (.ref x1)))).get? t5 = _ := (o6 t5 ht5).trans g5t
  generalize (H5.update x5 (Obj.mapFields (·.setIfInBounds 2 (.ref x1)))) = H6 at *
  have k6 : B'.StaysIn H6 := fun b o e => k46 b o (kB4 b o e)
  have f6 : H6.FunFrames B' (C.env :: fs) := fB4.of_keeps fun b o e _ => ⟨o, k46 b o e, rfl⟩
  unfold notedBy
  refine note_first (A := C.A.mark (some (.ref x1))) (vs := #[.ref t5, .none, .ref x1, .none, .bool false, .none]) hA f6 hfr g6e k6 n5 rfl rfl fun H7 k7 f7 u7 _ x7 => ?_
  refine came_back hfr k7 f7 x7 fun H8 k8 f8 u8 x8 => ?_
  have u48 : H4.UpToSlots H8 := (Heap.UpToSlots.of_keeps k46).trans (u7.trans u8)
  have kB8 : B.StaysIn H8 := fun b o e => k8 b o (hBB' b o e)
  have s8 : SR C ad2 st2 H8 := hs2.land G hB1 hB2 kB8 (u1.trans (u2.trans (u3.trans (u4.trans u48))))
  refine hE w st2 _ ad2 x5 hX (((e1.trans e2).trans (Same.mk' s2 H8 _))) (pp1.trans pp2) ⟨s8, B', t5, _, C.env :: fs, B, x1, o1, _, ⟨k8, n5, f8, x8⟩, hA, (Heap.TupAt.of_slots (Heap.TupAt.of_slots ⟨_, _, g6t, rfl, rfl⟩ u7) u8), nt5, ⟨hBB', n1, hB'c, a3, by simp⟩, hB1, fun a ha o e => ?_⟩
  obtain ⟨o', e'⟩ := hs2.here a ha
  have := hB2 a ha o' e'
  rw [kB8 _ _ this] at e
  cases e
  exact this
end
end Mine
namespace Mine
structure CX (C : Cx) (f : Value) (vs : List V) (st : St) (X : Str → St → Prop) : Prop where
  go : ∀ s ad ws, SR C ad st s.heap → VRs ad vs ws → ∀ (K : Value → Shared → Prop) (E : Value → Shared → Prop), (∀ w st' s' ad' e, X w st' → Same s s' → ad <+: ad' → Fly C ad' st' w e .none s'.heap → E (.ref e) s') → wpAny C.M C.A (call f ws) K E s
structure EX (C : Cx) (e : Expr) (st : St) (X : Str → St → Prop) : Prop where
  go : ∀ s ad, SR C ad st s.heap → ∀ (K : Value → Shared → Prop) (E : Value → Shared → Prop), (∀ w st' s' ad' e, X w st' → Same s s' → ad <+: ad' → Fly C ad' st' w e .none s'.heap → E (.ref e) s') → wpAny C.M C.A (eval e C.env) K E s
structure XX (C : Cx) (x : Stmt) (st : St) (X : Str → St → Prop) : Prop where
  go : ∀ s ad, SR C ad st s.heap → ∀ (K : Flow → Shared → Prop) (E : Value → Shared → Prop), (∀ w st' s' ad' e, X w st' → Same s s' → ad <+: ad' → Fly C ad' st' w e .none s'.heap → E (.ref e) s') → wpAny C.M C.A (exec x C.env) K E s
structure SX (C : Cx) (ss : List Stmt) (st : St) (X : Str → St → Prop) : Prop where
  go : ∀ s ad, SR C ad st s.heap → ∀ (K : Flow → Shared → Prop) (E : Value → Shared → Prop), (∀ w st' s' ad' e, X w st' → Same s s' → ad <+: ad' → Fly C ad' st' w e .none s'.heap → E (.ref e) s') → wpAny C.M C.A (execs ss C.env) K E s
section
variable {C : Cx} {sc : Scope} {lv : Nat} {st : St} {pos : Pos} {ad : List Addr} {X : Str → St → Prop}
theorem call_fx {x : Str} {params : Arguments} {body : List Stmt} {fsc : Scope} {a : Addr} {o : Obj} {pm cd doc : Value} {vs : List V} (names : List Str) (G : Gd C sc (lv + 1))
    (ho : C.base.get? a = some o) (hd : o.data = .func (docDef x params body fsc pm cd doc)) (hcd : C.base.CodeRec cd x)
    (hb : ∀ ws : List Value, ws.length = names.length → bindArgs (docDef x params body fsc pm cd doc) ⟨ws, []⟩ = pure (names.zip ws)) (hvs : vs.length = names.length)
    (hl : ∀ n ∈ names, fsc.names.lookup n = some .local) (hcell : ∀ x ∈ fsc.names, x.2 ≠ .cell) (hco : fsc.isCoroutine = false) (hgen : fsc.isGenerator = false) (hk : fsc.kind = .function)
    (h : ∀ C', Callee C C' fsc lv → SH C' body ⟨(names.zip vs).reverse, st.os⟩ (fun w st2 => X w ⟨st.m, st2.os⟩)) : CX C (.ref a) vs st X := .mk fun s ad ws hs hr K E hE => by
  obtain ⟨⟨gg, hgg, m, news, F, N, c, d, o', r⟩, hcl⟩ := hs
  obtain ⟨fs, BG, hfs⟩ := G.inner (Nat.succ_pos _) hgg F N
  obtain ⟨stay, nsG⟩ := ground F N
  refine wpAny_call ?_
  have hlen : ws.length = names.length := by rw [hr.length, hvs]
  have hkb := G.keep hgg F
  refine codeAny_call_def (fd := docDef x params body fsc pm cd doc) (body := body) (binds := names.zip ws) (by have := G.depth; show C.A.depth < 1000; omega) (hkb _ _ ho) hd (G.top.nolimit.keeps hkb) (hcd.keeps hkb) rfl
    (BindsTo.of_eq (hb ws hlen)) hcell (fun y hy => hl _ (List.of_mem_zip hy).1) (fun h₁ hns hk₁ => ?_) hco hgen hk
  let env' : Env := callEnv (docDef x params body fsc pm cd doc) s.heap.objs.size a
  let C' : Cx := { C with A := C.A.deeper env', env := env', h₀ := hideAll s.heap ((news ++ C.kp).map (·.1)), cl := [], of := C.env.locals :: C.of }
  have hbL : C.base.get? C.env.locals = none := by
    cases q : C.base.get? C.env.locals with
    | none => rfl
    | some ob => exact absurd (Nat.lt_of_lt_of_le (Heap.lt_size (G.stays hgg _ _ q)) F.above) (Nat.lt_irrefl _)
  have hc : Callee C C' fsc lv := ⟨⟨rfl, hk, rfl, rfl, G.top, ⟨fun b o e => stay b o (G.stays hgg b o e), fun b hb => by
      rcases List.mem_cons.mp hb with rfl | hb
      · exact ⟨hbL, ns_data nsG⟩
      · exact ⟨(G.st.2 b hb).1, G.of_data hgg stay hb⟩⟩, by have := G.depth; show C.A.depth + 1 + lv < 500; omega, by have := G.units; show C.A.units + 3 + 3 * lv < 5000; omega, fun _ => ⟨C.A, fs, BG, hfs, .inl ⟨Around.frames_deeper BG.stack, rfl⟩⟩⟩, rfl, rfl, rfl, rfl, rfl, ⟨fs, Around.frames_deeper BG.stack⟩, rfl⟩
  refine (h C' hc).go { s with heap := h₁, toks := s.toks + (names.zip ws).length } ad ⟨⟨_, Sim.refl _ _, _, news, ⟨hns, fun b o e => hk₁ b o (of_hideAll _ e), Nat.le_of_eq (hideAll_size _ _)⟩,
    (fun p hp => ⟨hk₁ _ _ (N p hp).1, Nat.ne_of_lt (Heap.lt_size (N p hp).1), hideAll_none _ (List.mem_map_of_mem hp)⟩), c, d, o', VRs.zip hr⟩, fun _ _ q => nomatch q⟩ _ _ fun w st2 s2 ad2 e hX e2 p2 fl => ?_
  obtain ⟨sr2, B, t, u, fs2, B₀, c0, oc, vc, ⟨kB, nB, fB, tB⟩, hA2, htup, nt, ⟨hBB, hc0, hcB, hcd0, hc2⟩, hB1, hB2⟩ := fl
  have hfs2 : C'.A.frames = some (env' :: fs) := Around.frames_deeper BG.stack
  rw [hfs2] at hA2
  cases hA2
  unfold leaving
  refine wpAny_bind (wpAny_noteFrame_againW (L := s.heap.objs.size) rfl (tB.traced rfl) ?_)
  refine flight_set kB fB tB fun h' k1 k2 u2 k4 k3 => ?_
  have k01 : B₀.StaysIn h' := fun b o e => k1 b o (hBB b o e)
  have sr' := sr2.land hc.gd hB1 hB2 k01 u2
  have here := sr2.here
  obtain ⟨⟨gg2, hgg2, m2, news2, F2, N2, c2, d2, o2, r2'⟩, _⟩ := sr'
  obtain ⟨g', hg', F', N'⟩ := back_frame hgg F stay nsG hgg2 F2.keep (news₂ := news2 ++ C.kp) fun p hp => ⟨(N2 p hp).1, (N2 p hp).2.2⟩
  refine hE w _ _ ad2 e hX ((Same.mk' s h₁ _).trans (e2.trans (Same.hp s2 h'))) p2 ⟨⟨⟨g', hg', m, news2, F', N', c2, d2, o2, r.mono p2⟩, fun y k q => ?_⟩, B, t, u, fs, B₀, c0, oc, vc, ⟨k1, nB, k2.2.2, k3⟩, BG.stack, htup.of_slots u2, nt, ⟨hBB, hc0, hcB, hcd0, hc2⟩, fun b ob eb n => ?_, fun a ha ob e => ?_⟩
  · obtain ⟨cc, q1, q3⟩ := hcl y k q
    exact ⟨cc, q1, get_prefix p2 q3⟩
  · have e1 := hgg.same b ob eb n
    refine hB1 b ob (stay b ob e1) fun q => ?_
    rcases List.mem_cons.mp q with q | q
    · exact absurd (Nat.lt_of_lt_of_le (Heap.lt_size e1) F.above) (by rw [q]; exact Nat.lt_irrefl _)
    · exact n q
  · obtain ⟨o'', e''⟩ := here a ha
    have q := hB2 a ha o'' e''
    rw [k01 _ _ q] at e
    cases e
    exact q
theorem ex_call {x : Str} {px : Pos} {e : Expr} {rest : List Expr} {params : Arguments} {body : List Stmt} {fsc : Scope} {fpos : Pos} (names : List Str) (G : Gd C sc (lv + 1))
    (hd : (⟨x, params, body, fsc, fpos⟩ : DefRec) ∈ recsOf C.p)
    (h : AV C pos (e :: rest) st (fun vs st1 => vs.length = names.length ∧ ∀ C', Callee C C' fsc lv → SH C' body ⟨(names.zip vs).reverse, st1.os⟩ (fun w st2 => X w ⟨st1.m, st2.os⟩)))
    (hb : ∀ pm cd doc (ws : List Value), ws.length = names.length → bindArgs (docDef x params body fsc pm cd doc) ⟨ws, []⟩ = pure (names.zip ws))
    (hl : ∀ n ∈ names, fsc.names.lookup n = some .local) (hcell : ∀ x ∈ fsc.names, x.2 ≠ .cell) (hco : fsc.isCoroutine = false := by rfl) (hgen : fsc.isGenerator = false := by rfl) (hk : fsc.kind = .function := by rfl)
    (hg : sc.names.lookup x = some .globalImplicit := by rfl) (hdb : (x == ("__debug__" : Str)) = false := by rfl)
    (hst : starEach (e :: rest) C.env = (false, eval e C.env) :: starEach rest C.env := by rfl) : EX C (.Call (.Name x px) (e :: rest) [] pos) st X := .mk fun s ad hs K E hE => by
  obtain ⟨a, o, pm, cd, doc, hmg, ho, hdt, hcd⟩ := G.top.fn _ hd
  refine wpAny_Call_Name_kw (wpNo (((ev_global (Q := fun f st1 => f = .fix (.ref a) ∧ st1 = st) G hmg ⟨rfl, rfl⟩ hg hdb).go s ad hs).run _ fun f st1 s1 ad1 w q1 e1 p1 hs1 r1 => ?_))
  obtain ⟨rfl, rfl⟩ := q1
  cases r1
  have h1 := h.go s1 ad1 hs1
  revert h1
  refine fun h1 => callWith_function (o := o) (fd := docDef x params body fsc pm cd doc) ?_
  revert h1
  show At C ad1 s1 VRs (spliced (backTo pos (starEach (e :: rest) C.env))) _ → wpAny _ _ (evalArgs _ _ (backTo pos (starEach (e :: rest) C.env)) _) _ _ _
  rw [hst]
  intro h1
  refine evalArgs_plain (wpNo (h1.run _ fun vs st2 s2 ad2 ws q2 e2 p2 hs2 r2 => ⟨⟨?_, hdt⟩, ?_⟩))
  · obtain ⟨⟨gg, hgg, m, news, F, _⟩, _⟩ := hs2
    exact G.keep hgg F _ _ ho
  · exact (call_fx names G ho hdt hcd (hb pm cd doc) q2.1 hl hcell hco hgen hk q2.2).go s2 ad2 ws hs2 r2 K E fun w st3 s3 ad3 x q3 e3 p3 fl => hE w st3 s3 ad3 x q3 (e1.trans (e2.trans e3)) (p1.trans (p2.trans p3)) fl
theorem ex_tuple {e : Expr} {rest : List Expr} {k : Nat} (h : EX C e st X) (hst : starEach (e :: rest) C.env = (false, eval e C.env) :: starEach rest C.env := by rfl) : EX C (.Tuple (e :: rest) k pos) st X := .mk fun s ad hs K E hE => by
  refine Tuple_ ?_
  show wpAny _ _ (spliced (backTo pos (starEach (e :: rest) C.env))) _ _ _
  rw [hst]
  exact spliced_cons (h.go s ad hs _ _ hE)
theorem xx_ret {e : Expr} (h : EX C e st X) : XX C (.Return (some e) pos) st X := .mk fun s ad hs K E hE => wpAny_Return_some (h.go s ad hs _ _ hE)
theorem xx_expr {e : Expr} (G : Gd C sc lv) (h : EX C e st X) (hsw : swapsWith e none pos.line C.env = pure false := by rfl) : XX C (.Expr e pos) st X := .mk fun s ad hs K E hE =>
  wpAny_Expr_any (h.go s ad hs _ _ hE) (by unfold interactive; rw [G.scope, G.kind]; rfl) hsw
theorem xx_assign {x : Str} {px : Pos} {value : Expr} (h : EX C value st X) (hsw : swapsWith value (some (.Name x px)) pos.line C.env = pure false := by rfl) : XX C (.Assign [.Name x px] value pos) st X := .mk fun s ad hs K E hE =>
  wpAny_Assign_Name (h.go s ad hs _ _ hE) hsw
theorem sx_cons {x : Stmt} {rest : List Stmt} (h : XX C x st X) : SX C (x :: rest) st X := .mk fun s ad hs K E hE => wpAny_execs_cons (h.go s ad hs _ _ hE)
/-- an object of the heap comes into the store -/
theorem SR.adoptO {h : Heap} {a : Addr} {ob : Obj} {o : O} (hs : SR C ad st h) (hg : h.get? a = some ob) (hL : a ≠ C.env.locals) (hf : C.h₀.get? a = none) (hna : a ∉ ad ++ C.kp.map (·.1)) (ho : OR (ad ++ [a]) o ob) : SR C (ad ++ [a]) (st.add o) h := by
  obtain ⟨⟨gg, hgg, m, news, F, N, c, d, o', r⟩, hc⟩ := hs
  have px : ad <+: ad ++ [a] := List.prefix_append _ _
  refine ⟨⟨gg, hgg, m, news ++ [(a, ob)], F, fun p hp => ?_, by rw [List.map_append, c]; rfl, ?_, (o'.mono px).append (.cons ho .nil), r.mono px⟩, fun x k q => ?_⟩
  · simp only [List.append_assoc, List.mem_append, List.mem_cons, List.not_mem_nil, or_false] at hp
    rcases hp with hp | rfl | hp
    · exact N p (List.mem_append_left _ hp)
    · exact ⟨hg, hL, hgg.non _ hf⟩
    · exact N p (List.mem_append_right _ hp)
  · have d' := List.nodup_append.mp d
    rw [List.append_assoc, List.singleton_append]
    refine List.nodup_append.mpr ⟨d'.1, List.nodup_cons.mpr ⟨fun q => hna (List.mem_append_right _ q), d'.2.1⟩, fun x hx y hy => ?_⟩
    rcases List.mem_cons.mp hy with rfl | hy
    · exact fun q => hna (List.mem_append_left _ (q ▸ hx))
    · exact d'.2.2 x hx y hy
  · obtain ⟨cc, q1, q2⟩ := hc x k q
    exact ⟨cc, q1, get_prefix px q2⟩
theorem SR.freshO (G : Gd C sc lv) {B h : Heap} {a : Addr} {ob : Obj} (hs : SR C ad st h) (hB1 : ∀ b o, C.h₀.get? b = some o → b ∉ C.of → B.get? b = some o) (nB : B.get? a = none) (hg : h.get? a = some ob)
    (hd : (∃ vs, ob.data = .fields vs) ∨ ∃ vs n, ob.data = .seq vs n) : C.h₀.get? a = none ∧ a ≠ C.env.locals := by
  obtain ⟨gg, hgg, m, news, F, N, c, d, o', r⟩ := hs.ex
  constructor
  · cases q : C.h₀.get? a with
    | none => rfl
    | some o =>
      by_cases ho : a ∈ C.of
      · obtain ⟨_, o₂, h2, h3, h4⟩ := G.st.2 a ho
        obtain ⟨sl, h5⟩ := hgg.slot _ _ h2
        rw [F.keep _ _ h5] at hg
        cases hg
        rcases hd with ⟨vs, hd⟩ | ⟨vs, n, hd⟩
        · exact absurd hd (h3 vs)
        · exact absurd hd (h4 vs n)
      · rw [hB1 a o q ho] at nB; cases nB
  · rintro rfl
    obtain ⟨o₂, h2, h3, h4⟩ := ns_data F.ns
    rw [h2] at hg
    cases hg
    rcases hd with ⟨vs, hd⟩ | ⟨vs, n, hd⟩
    · exact h3 vs hd
    · exact h4 vs n hd
/-- fewer locals, and none of that name -/
def SubN (n : Str) (l l' : List (Str × V)) : Prop := ∀ x v, l.lookup x = some v → x ≠ n ∧ l'.lookup x = some v
theorem SubN.nil {n : Str} {l : List (Str × V)} : SubN n [] l := fun _ _ h => nomatch h
theorem SubN.cons {n x : Str} {v : V} {l l' : List (Str × V)} (hx : l'.lookup x = some v) (hn : x ≠ n) (h : SubN n l l') : SubN n ((x, v) :: l) l' := fun y u e => by
  rw [List.lookup_cons] at e
  by_cases hy : y = x
  · subst hy
    simp at e
    rw [hx, e]
    exact ⟨hn, rfl⟩
  · have : (y == x) = false := by simpa using hy
    rw [this] at e
    exact h y u e
theorem xv_tryX {body : List Stmt} {n : Str} {np hpos : Pos} {b₀ : Stmt} {suite : List Stmt} {rest : List ExceptHandler} {Q : F → St → Prop} (G : Gd C sc lv) (ow : Own C) (hV : Blt C "ValueError" (.type "ValueError"))
    (h : SX C body st (fun w st1 => ∀ ev, SV (C.hand ev) (b₀ :: suite) ⟨(n, .ref (st1.os.length + 1)) :: st1.m, st1.os ++ [.words w, .exc st1.os.length]⟩ (fun f st2 => ∃ l, SubN n l st2.m ∧ Q f ⟨l, st2.os⟩)))
    (hln : sc.names.lookup n = some .local := by rfl) (hg : sc.names.lookup (Str.ofString "ValueError") = some .globalImplicit := by rfl) :
    XV C (.Try body (.ExceptHandler (some (.Name "ValueError" np)) (some n) (b₀ :: suite) hpos :: rest) [] [] pos) st Q := .mk fun s ad hs => At.mk fun K hK => by
  refine wpAny_Try_except (h.go s ad hs _ _ fun w st1 s1 ad1 e hq e1 p1 fl => ?_)
  obtain ⟨sr1, B, t, u, fs, B₀, c0, oc, vc, ⟨kB, nB, fB, tB⟩, hA, htup, nt, ⟨hBB, hc0, hcB, hcd0, hc2⟩, hB1, hB2⟩ := fl
  obtain ⟨⟨outer, hA'⟩, hfr⟩ := ow
  rw [hA'] at hA
  cases hA
  refine note_next hA' fB hfr kB nB tB fun h₂ kB2 fB2 u2 tB2 => ?_
  refine flight_set kB2 fB2 tB2 fun h₃ kB3 fB3 u3 _ tB3 => ?_
  have s3 : SR C ad1 st1 h₃ := sr1.land G hB1 hB2 (fun b o e => kB3 b o (hBB b o e)) (u2.trans u3)
  refine wpAny_handleBy_builtin_as (X := "ValueError") (T := "ValueError") (b := true) F.isExc_ValueError F.notTuple_ValueError (by rw [isSubtype_type]; kernel_rfl) ?_
  refine ld_blt (C := C.hand (.ref e)) (s := { s1 with heap := h₃ }) (G.hand _) hV (s3.hand _) hg ⟨rfl, tB3.typeIs (s := { s1 with heap := h₃ }), ?_⟩
  rw [if_pos rfl]
  refine flight_set kB3 fB3 tB3 fun h₄ kB4 fB4 u4 _ tB4 => ?_
  have s4 : SR C ad1 st1 h₄ := sr1.land G hB1 hB2 (fun b o e => kB4 b o (hBB b o e)) (u2.trans (u3.trans u4))
  have hlen := s4.len
  have nB₀ : B₀.get? e = none := by
    cases q : B₀.get? e with
    | none => rfl
    | some o => have := hBB _ _ q; rw [nB] at this; cases this
  have nt₀ : B₀.get? t = none := by
    cases q : B₀.get? t with
    | none => rfl
    | some o => have := hBB _ _ q; rw [nt] at this; cases this
  have hB2' : ∀ a ∈ ad1 ++ C.kp.map (·.1), B₀.get? a ≠ none := fun a ha q => by
    obtain ⟨o', e'⟩ := sr1.here a ha
    rw [hB2 a ha o' e'] at q; cases q
  obtain ⟨ot, nt', hot, hotc, hotd⟩ := (htup.of_slots u2).of_slots u3 |>.of_slots u4
  obtain ⟨oe, T, oT, ts, hoe, hoec, hoed, _⟩ := tB4
  have fT := s4.freshO G hB1 nt₀ hot (.inr ⟨_, _, hotd⟩)
  have fE := s4.freshO G hB1 nB₀ hoe (.inl ⟨_, hoed⟩)
  have hte : e ≠ t := fun q => by
    rw [q, hot] at hoe
    cases hoe
    rw [hotd] at hoed
    cases hoed
  have s5 := s4.adoptO hot fT.2 fT.1 (fun q => hB2' _ q nt₀) (o := .words w) ⟨hotc, nt', u, hotd⟩
  have s6 := s5.adoptO hoe fE.2 fE.1 (fun q => by
    rw [List.append_assoc, List.singleton_append] at q
    rcases List.mem_append.mp q with q | q
    · exact hB2' _ (List.mem_append_left _ q) nB₀
    · rcases List.mem_cons.mp q with q | q
      · exact hte q
      · exact hB2' _ (List.mem_append_right _ q) nB₀) (o := .exc st1.os.length) ⟨hoec, _, t, hoed, rfl, by rw [← hlen]; simp⟩
  have s6' : SR (C.hand (.ref e)) (ad1 ++ [t] ++ [e]) ⟨st1.m, st1.os ++ [.words w, .exc st1.os.length]⟩ h₄ := by
    have := s6.hand (.ref e)
    simpa [St.add] using this
  refine SR.store (C := C.hand (.ref e)) (s := { s1 with heap := h₄ }) (v := .ref (st1.os.length + 1)) s6' ⟨e, by rw [← hlen]; simp, rfl⟩ (G.hand _) hln fun s7 e7 hs7 => ?_
  refine wpNo (((hq (.ref e)).go s7 _ hs7).run _ fun f st8 s8 ad8 f' q8 e8 p8 hs8 r8 => ?_)
  obtain ⟨l, hsub, q8⟩ := q8
  obtain ⟨⟨gg, hgg, m, news, F, N, c, d, o, r⟩, hc⟩ := hs8.unhand
  refine wpAny_nameGoes_keeps (by rw [Env.kindOf, G.scope]; exact hln) F.ns (by rw [G.scope, G.kind]; rfl) fun h₉ v hn hsb => ?_
  refine hK f _ _ ad8 f' q8 (e1.trans ((Same.hp s1 h₄).trans (e7.trans (e8.trans (Same.mk' s8 h₉ _))))) (p1.trans (((List.prefix_append _ _).trans (List.prefix_append _ _)).trans p8)) ⟨⟨gg, hgg, _, news, F.set hn hsb, N.set hsb, c, d, o, fun x y q => ?_⟩, hc⟩ r8
  obtain ⟨hne, q'⟩ := hsub x y q
  obtain ⟨w', w1, w2⟩ := r x y q'
  exact ⟨w', by simp [hne, w1], w2⟩
theorem cl_strE {k j : Nat} {w : Str} {Q : V → St → Prop} (G : Gd C sc lv) (hk : st.os[k]? = some (.exc j)) (hj : st.os[j]? = some (.words w)) (h : Q (.str w) st) : CL C (.type "str") [.ref k] st Q := .mk fun s ad ws hs hr => by
  cases hr with | cons ra hr => cases hr with | nil =>
  obtain ⟨a, ob, h1, h2, ⟨hc, vs, t, h3, h4, h5⟩, _⟩ := hs.at hk
  obtain ⟨t', ot, h6, h7, ⟨hc', n, u, h8⟩, _⟩ := hs.at hj
  rw [h5] at h6
  cases h6
  cases ra.ref h1
  have hu := G.units
  exact At.stay (a := .str w u) hs h ⟨_, rfl⟩ fun K hK => P.str_of_exc_one F.excStr_ValueError (by rw [show cLine = 9900 from rfl]; omega) ⟨ob, vs, h2, hc, h3, h4⟩ ⟨ot, n, h7, hc', h8⟩ hK
theorem cl_typeE {k j : Nat} {Q : V → St → Prop} (hk : st.os[k]? = some (.exc j)) (h : Q (.fix (.type "ValueError")) st) : CL C (.type "type") [.ref k] st Q := .mk fun s ad ws hs hr => by
  cases hr with | cons ra hr => cases hr with | nil =>
  obtain ⟨a, ob, h1, h2, ⟨hc, vs, t, h3, h4, h5⟩, _⟩ := hs.at hk
  cases ra.ref h1
  exact At.stay (a := .type "ValueError") hs h rfl fun K hK => call_type_of ⟨ob, h2, hc⟩ (by decide) hK
end
end Mine
namespace Mine
/-- a list: of the store, or the script -/
def LV (C : Cx) (st : St) (v : V) (vs : List V) : Prop := (∃ k, v = .ref k ∧ st.os[k]? = some (.list vs)) ∨ ∃ l xs ns, v = .fix (.ref l) ∧ C.h₀.IsList l xs.toArray ∧ IntsAre xs ns ∧ vs = ns.map V.int
section
variable {C : Cx} {sc : Scope} {lv : Nat} {st : St} {pos : Pos} {Q : V → St → Prop} {ad : List Addr}
theorem LV.at {v : V} {vs : List V} {w : Value} {s : Shared} (h : LV C st v vs) (hs : SR C ad st s.heap) (r : VR ad v w) : ∃ a ws, w = .ref a ∧ s.heap.IsList a ws.toArray ∧ VRs ad vs ws := by
  rcases h with ⟨k, rfl, hk⟩ | ⟨l, xs, ns, rfl, hl, hi, rfl⟩
  · obtain ⟨a, ws, h1, h2, h3⟩ := hs.list hk
    exact ⟨a, ws, r.ref h1, h2, h3⟩
  · cases r
    obtain ⟨gg, hgg, m, news, F, N, c, d, o, r⟩ := hs.ex
    obtain ⟨ob, h1, h2, n, h3⟩ := hl
    obtain ⟨sl, h1⟩ := hgg.slot _ _ h1
    exact ⟨l, xs, rfl, ⟨_, F.keep _ _ h1, h2, n, h3⟩, ints_rel hi⟩
theorem LV.store {k : Nat} {vs : List V} (h : st.os[k]? = some (.list vs)) : LV C st (.ref k) vs := .inl ⟨k, rfl, h⟩
theorem LV.script {l : Addr} {xs : List Value} {ns : List Int} (hl : C.h₀.IsList l xs.toArray) (hi : IntsAre xs ns) : LV C st (.fix (.ref l)) (ns.map V.int) := .inr ⟨l, xs, ns, rfl, hl, hi, rfl⟩
/-- what a slice leaves -/
theorem slice_end {gg : Heap} {m : Str → Option Value} {news : List (Addr × Obj)} {h h' : Heap} {ad₀ : List Addr} {its : Array Value} {us : List V} {P : Prop} (hgg : Sim C.h₀ C.of gg) (F : Fr gg C.env.locals h m) (N : News gg C.env.locals h (news ++ C.kp)) (c : news.map (·.1) = ad) (d : (ad ++ C.kp.map (·.1)).Nodup) (o' : ORs ad st.os news) (r : MR ad st.m m)
    (hc : ∀ x k, C.cl.lookup x = some k → ∃ c, C.env.cells.lookup x = some c ∧ ad[k]? = some c) (hlen : ad.length = st.os.length) (p : ad₀ <+: ad)
    (F' : Fr gg C.env.locals h' m) (N' : News gg C.env.locals h' ((h.objs.size + 1, { cls := .type "list", data := .seq its }) :: (news ++ C.kp))) (hv : VRs ad us its.toList)
    (hK : VR (ad ++ [h.objs.size + 1]) (.ref st.os.length) (.ref (h.objs.size + 1)) → ad₀ <+: ad ++ [h.objs.size + 1] → SR C (ad ++ [h.objs.size + 1]) (st.add (.list us)) h' → P) : P := by
  have N2 : News gg C.env.locals (h.push { cls := .type "slice", data := .fields #[] }) (news ++ C.kp) := fun p hp => (N.push F { cls := .type "slice", data := .fields #[] }) p (.tail _ hp)
  have e : (h.push { cls := .type "slice", data := .fields #[] }).objs.size = h.objs.size + 1 := by simp
  rw [← e] at N' hK
  refine hK (ref_new _ _ _ hlen) (p.trans (List.prefix_append _ _)) (sr_alloc hgg N2 c d o' r hc F' N' ⟨its.toList, 0, by simp, hv.mono (List.prefix_append _ _)⟩)
theorem ev_upto {o : Expr} {c : Nat} {k : Nat} {p sp : Pos} (h : EV C o st (fun v st1 => ∃ vs, LV C st1 v vs ∧ vs.length ≤ 1000000 ∧ Q (.ref st1.os.length) (st1.add (.list (vs.take c)))))
    (hs : ∀ va vb, subscripted (.Slice none (some (.Constant (.int (c : Int)) k p)) none sp) false va vb = operate [vb, va] (getItem va vb) := by intro _ _; rfl) (ht : ∀ a r, letTemporaryGo o a r = pure () := by intro _ _; rfl) :
    EV C (.Subscript o (.Slice none (some (.Constant (.int (c : Int)) k p)) none sp) pos) st Q := .mk fun s ad hs₀ => At.mk fun K hK =>
  Subscript_ ((h.go s ad hs₀).run _ fun v st1 s1 ad1 w q1 e1 p1 hs1 r1 => by
    obtain ⟨vs, hv, hsz, q1⟩ := q1
    obtain ⟨a, ws, rfl, hl, hvw⟩ := hv.at hs1 r1
    rw [arm_eval_Slice]
    refine wpAny_bind (wpAny_of_eq (a := Value.none) rfl (wpAny_bind (wpAny_holding ?_)))
    show wpAny _ _ (eval (.Constant (.int (c : Int)) k p) C.env) _ _ _
    refine wpAny_Constant_int (wpAny_bind (wpAny_holding (wpAny_of_eq (a := Value.none) rfl ?_)))
    unfold newFields
    refine wpAny_newObj_type ?_
    have hlen := hs1.len
    obtain ⟨⟨gg, hgg, m, news, F, N, cc, d, o, r⟩, hc⟩ := hs1
    refine slice_list (s := { s1 with toks := s1.toks + 1 }) F N hl .none (.int _ _) (fun h' F' N' => ?_) (hs _ _) (ht _) (by rw [List.size_toArray, hvw.length, sizeLine_eq]; omega)
    exact slice_end hgg F N cc d o r hc hlen p1 F' N' (by rw [slicePick_upto']; simpa using hvw.take c) fun hx px hs' => hK _ _ _ _ _ q1 (e1.trans (Same.mk' s1 h' _)) px hs' hx)
theorem ev_from {o : Expr} {c : Nat} {k : Nat} {p sp : Pos} (h : EV C o st (fun v st1 => ∃ vs, LV C st1 v vs ∧ vs.length ≤ 1000000 ∧ Q (.ref st1.os.length) (st1.add (.list (vs.drop c)))))
    (hs : ∀ va vb, subscripted (.Slice (some (.Constant (.int (c : Int)) k p)) none none sp) false va vb = operate [vb, va] (getItem va vb) := by intro _ _; rfl) (ht : ∀ a r, letTemporaryGo o a r = pure () := by intro _ _; rfl) :
    EV C (.Subscript o (.Slice (some (.Constant (.int (c : Int)) k p)) none none sp) pos) st Q := .mk fun s ad hs₀ => At.mk fun K hK =>
  Subscript_ ((h.go s ad hs₀).run _ fun v st1 s1 ad1 w q1 e1 p1 hs1 r1 => by
    obtain ⟨vs, hv, hsz, q1⟩ := q1
    obtain ⟨a, ws, rfl, hl, hvw⟩ := hv.at hs1 r1
    rw [arm_eval_Slice]
    show wpAny _ _ (eval (.Constant (.int (c : Int)) k p) C.env >>= fun l => _) _ _ _
    refine wpAny_bind (wpAny_Constant_int (wpAny_bind (wpAny_holding (wpAny_of_eq (a := Value.none) rfl (wpAny_bind (wpAny_holding (wpAny_of_eq (a := Value.none) rfl ?_)))))))
    unfold newFields
    refine wpAny_newObj_type ?_
    have hlen := hs1.len
    obtain ⟨⟨gg, hgg, m, news, F, N, cc, d, o, r⟩, hc⟩ := hs1
    refine slice_list (s := { s1 with toks := s1.toks + 1 }) F N hl (.int _ _) .none (fun h' F' N' => ?_) (hs _ _) (ht _) (by rw [List.size_toArray, hvw.length, sizeLine_eq]; omega)
    exact slice_end hgg F N cc d o r hc hlen p1 F' N' (by rw [slicePick_from']; simpa using hvw.drop c) fun hx px hs' => hK _ _ _ _ _ q1 (e1.trans (Same.mk' s1 h' _)) px hs' hx)
theorem co_eqS {x y : Str} (h : Q (.bool (x == y)) st) : CO C .Eq (.str x) (.str y) st Q := .mk fun s ad va vb hs ⟨t, e⟩ ⟨u, f⟩ => by
  subst e f; exact At.stay (a := .bool _) hs h rfl fun _ hK => PyProof.Rows.eq_str hK
theorem co_neS {x y : Str} (h : Q (.bool (x != y)) st) : CO C .NotEq (.str x) (.str y) st Q := .mk fun s ad va vb hs ⟨t, e⟩ ⟨u, f⟩ => by
  subst e f; exact At.stay (a := .bool _) hs h rfl fun _ hK => PyProof.Rows.ne_str hK
theorem Gd.low {k : Nat} (G : Gd C sc lv) (h : k ≤ lv) : Gd C sc k := ⟨G.scope, G.kind, G.glob, G.blt, G.top, G.st, by have := G.depth; omega, by have := G.units; omega, fun q => G.bel (by omega)⟩
theorem Own.kept (ow : Own C) (kp : List (Addr × Obj)) : Own (C.kept kp) := ow
theorem Own.hand (ow : Own C) (v : Value) : Own (C.hand v) := ow
end
end Mine
namespace Mine
open PySem.SeqAt
theorem os_old {os : List O} {k : Nat} {o : O} {l : List O} (h : os[k]? = some o) : (os ++ l)[k]? = some o := get_prefix (List.prefix_append _ _) h
theorem pk_succ (k : Nat) (x : Int) : pk (k + 1) x = pk k (x / 256) ++ [x % 256] := by
  show (KTBy.little (k + 1) x).reverse = _
  rw [show KTBy.little (k + 1) x = x % 256 :: KTBy.little k (x / 256) from rfl, List.reverse_cons]
theorem pk_zero (x : Int) : pk 0 x = [] := rfl
theorem pk4 {a b c d n : Int} (hn : n = ((a * 256 + b) * 256 + c) * 256 + d) (ha : 0 ≤ a ∧ a < 256) (hb : 0 ≤ b ∧ b < 256) (hc : 0 ≤ c ∧ c < 256) (hd : 0 ≤ d ∧ d < 256) : pk 4 n = [a, b, c, d] := by
  have e1 : n % 256 = d := by omega
  have e2 : n / 256 = (a * 256 + b) * 256 + c := by omega
  have e3 : ((a * 256 + b) * 256 + c) % 256 = c := by omega
  have e4 : ((a * 256 + b) * 256 + c) / 256 = a * 256 + b := by omega
  have e5 : (a * 256 + b) % 256 = b := by omega
  have e6 : (a * 256 + b) / 256 = a := by omega
  have e7 : a % 256 = a := by omega
  rw [pk_succ, e1, e2, pk_succ, e3, e4, pk_succ, e5, e6, pk_succ, e7, pk_zero]
  rfl
theorem pk4_of (n : Int) (h0 : 0 ≤ n) (h1 : n < 256 ^ 4) : ∃ a b c d, n = ((a * 256 + b) * 256 + c) * 256 + d ∧ (0 ≤ a ∧ a < 256) ∧ (0 ≤ b ∧ b < 256) ∧ (0 ≤ c ∧ c < 256) ∧ (0 ≤ d ∧ d < 256) ∧ pk 4 n = [a, b, c, d] := by
  refine ⟨n / 256 / 256 / 256, n / 256 / 256 % 256, n / 256 % 256, n % 256, by omega, by omega, by omega, by omega, by omega, pk4 (by omega) (by omega) (by omega) (by omega) (by omega)⟩
def V.scalar : V → Prop
  | .none | .bool _ | .int _ | .str _ | .bytes _ => True
  | _ => False
section
variable {C : Cx} {sc : Scope} {lv : Nat} {st : St} {pos : Pos} {Q : V → St → Prop} {ad : List Addr}
theorem scalar_eq {v : V} {w1 w2 : Value} {A : Around} {s : Shared} (h : v.scalar) (r1 : VR ad v w1) (r2 : VR ad v w2) : EqAt A s w1 w2 true := by
  cases v with
  | none => cases r1; cases r2; exact EqAt.same _
  | bool b => cases r1; cases r2; exact EqAt.same _
  | int n => obtain ⟨t, rfl⟩ := r1; obtain ⟨u, rfl⟩ := r2; have := EqAt.int_int (A := A) (s := s) n t n u; rwa [beq_self_eq_true] at this
  | str x => obtain ⟨t, rfl⟩ := r1; obtain ⟨u, rfl⟩ := r2; have := EqAt.str_str (A := A) (s := s) x t x u; rwa [beq_self_eq_true] at this
  | bytes x => obtain ⟨t, rfl⟩ := r1; obtain ⟨u, rfl⟩ := r2; exact fun prog w E Q h => eqBool_bytes (by rw [decide_eq_true rfl]; exact h)
  | _ => exact h.elim
theorem scalars_eq {A : Around} {s : Shared} : ∀ {vs : List V} {ws us : List Value}, (∀ v ∈ vs, v.scalar) → VRs ad vs ws → VRs ad vs us → ∀ j (h1 : j < ws.length) (h2 : j < us.length), EqAt A s ws[j] us[j] true
  | [], _, _, _, .nil, .nil, j, h1, _ => absurd h1 (Nat.not_lt_zero _)
  | v :: vs, _, _, hs, .cons a r, .cons b q, 0, h1, h2 => scalar_eq (hs v (.head _)) a b
  | v :: vs, _, _, hs, .cons a r, .cons b q, j + 1, h1, h2 => scalars_eq (fun v hv => hs v (.tail _ hv)) r q j (Nat.lt_of_succ_lt_succ h1) (Nat.lt_of_succ_lt_succ h2)
theorem co_neTT {i j : Nat} {vs : List V} (G : Gd C sc lv) (hs : ∀ v ∈ vs, v.scalar) (hi : st.os[i]? = some (.tuple vs)) (hj : st.os[j]? = some (.tuple vs)) (h : Q (.bool false) st) : CO C .NotEq (.ref i) (.ref j) st Q := .mk fun s ad va vb hs₀ ra rb => by
  obtain ⟨a, ws, ha, hla, hva⟩ := hs₀.tuple hi
  obtain ⟨b, us, hb, hlb, hvb⟩ := hs₀.tuple hj
  cases ra.ref ha
  cases rb.ref hb
  have hu := G.units
  have hl : ws.length = us.length := by rw [hva.length, hvb.length]
  refine At.stay (a := .bool false) hs₀ h rfl fun K hK => ?_
  have := RcNeAt.tuples (A := C.A) (s := s) (e := fun _ => true) hla hlb (by rw [show cLine = 9900 from rfl]; omega) (fun j h1 h2 => by
    have := scalars_eq (A := C.A.in1) (s := s) hs hva hvb j (by simpa using h1) (by simpa using h2)
    simpa using this)
  refine this C.prog C.w _ _ ?_
  have e : ((List.range (min ws.toArray.size us.toArray.size)).all fun _ => true) = true := List.all_eq_true.mpr fun _ _ => rfl
  rw [e, show (ws.toArray.size == us.toArray.size) = true by simp [hl]]
  exact hK
theorem co_neLI {i j : Nat} {ns ms : List Int} (G : Gd C sc lv) (hi : st.os[i]? = some (.list (ns.map V.int))) (hj : st.os[j]? = some (.list (ms.map V.int))) (h : Q (.bool (!decide (ns = ms))) st) : CO C .NotEq (.ref i) (.ref j) st Q := .mk fun s ad va vb hs₀ ra rb => by
  obtain ⟨a, ws, ha, hla, hva⟩ := hs₀.list hi
  obtain ⟨b, us, hb, hlb, hvb⟩ := hs₀.list hj
  cases ra.ref ha
  cases rb.ref hb
  have hu := G.units
  exact At.stay (a := .bool _) hs₀ h rfl fun K hK => ne_intsK hla hva.ints hlb hvb.ints (by rw [show cLine = 9900 from rfl]; omega) hK
/-- a loop over a list of the store, turn by turn -/
def Chain (C : Cx) (t : Expr) (body : List Stmt) (k n : Nat) (items : List V) (Q : F → St → Prop) : List V → St → Prop
  | [], st => Q .next st
  | v :: vs, st => ∀ kp, AS (C.kept kp) t v st (fun st2 => SV (C.kept kp) body st2 (fun f st3 => match f with
    | .brk => Q .next st3
    | .ret v => Q (.ret v) st3
    | _ => st3.os[k]? = some (.list items) ∧ n ≤ st3.os.length ∧ Chain C t body k n items Q vs st3))
theorem Chain.eqn {C : Cx} {t : Expr} {body : List Stmt} {k n : Nat} {items : List V} {Q : F → St → Prop} {v : V} {vs : List V} {st : St} : Chain C t body k n items Q (v :: vs) st = ∀ kp, AS (C.kept kp) t v st (fun st2 => SV (C.kept kp) body st2 (fun f st3 => match f with
    | .brk => Q .next st3
    | .ret v => Q (.ret v) st3
    | _ => st3.os[k]? = some (.list items) ∧ n ≤ st3.os.length ∧ Chain C t body k n items Q vs st3)) := rfl
theorem Wk.refl (C : Cx) (st : St) : Wk C st st := ⟨Sub.refl _, .inl rfl⟩
theorem xv_forU {t iter : Expr} {body : List Stmt} {Q : F → St → Prop} (hh : C.A.handled = none)
    (h : EV C iter st (fun v st1 => ∃ k items, v = .ref k ∧ st1.os[k]? = some (.list items) ∧ Chain C t body k st1.os.length items Q items st1))
    (hs : ∀ x, foldedSetIterable iter C.env x = pure x := by intro _; rfl) : XV C (.For t iter body [] pos) st Q := by
  refine xv_for (EV.mono h ?_) hs
  rintro v st1 ⟨k, items, rfl, hk, hc⟩
  refine ⟨items, _, fun i st' => st'.os[k]? = some (.list items) ∧ st1.os.length ≤ st'.os.length ∧ Chain C t body k st1.os.length items Q (items.drop i) st', iter_list hh hk, ⟨_, Sub.refl _, hk, Nat.le_refl _, hc⟩, fun i st' h => h.1, ?_, ?_⟩
  · rintro i v st' kp hv ⟨h1, h2, h3⟩
    have hlt := (List.getElem?_eq_some_iff.mp hv).1
    rw [List.drop_eq_getElem_cons hlt, Chain.eqn] at h3
    have e : items[i] = v := (List.getElem?_eq_some_iff.mp hv).2
    rw [e] at h3
    refine .mk fun s ad w hs r => ((h3 kp).go s ad w hs r).mono fun _ st2 q => SV.mono q fun f st3 q => ?_
    cases f with
    | next => exact ⟨st3, Wk.refl _ _, q.2.1, q⟩
    | cont => exact ⟨st3, Wk.refl _ _, q.2.1, q⟩
    | brk => exact q
    | ret v => exact q
  · rintro st' ⟨h1, h2, h3⟩
    rw [List.drop_length] at h3
    exact h3
end
end Mine
namespace Mine
section
variable {C : Cx} {sc : Scope} {lv : Nat} {st : St} {pos : Pos} {Q : V → St → Prop} {ad : List Addr}
theorem co_neBool {a b : Bool} (h : Q (.bool (a != b)) st) : CO C .NotEq (.bool a) (.bool b) st Q := .mk fun s ad va vb hs ra rb => by
  cases ra; cases rb
  exact At.stay (a := .bool _) hs h rfl fun K hK => ne_bool hK
/-- a list comprehension of ints whose element leaves the store as it is -/
theorem ev_compI {elt target iter : Expr} {scope : Scope} {clc fr : List (Str × Nat)} (R : List Int) (G : Gd C sc lv) (hclc : C.cl = clc)
    (h : EV C iter st (fun v st1 => ∃ (items : List V) (dep : St → Prop), IterOf C v st1 items dep ∧ items.length ≤ 1000000 ∧ items.length = R.length ∧ dep ⟨[], st1.os⟩ ∧
      (∀ C' (i : Nat) v r, CompCx C C' (relabel scope (scEnv sc)) fr lv → items[i]? = some v → R[i]? = some r → AS C' target v ⟨[], st1.os⟩ (fun st2 => EV C' elt st2 (fun y st4 => y = .int r ∧ st4.os = st1.os))) ∧
      Q (.ref st1.os.length) ⟨st1.m, st1.os ++ [.list (R.map V.int)]⟩))
    (hcell : ∀ x ∈ scope.names, x.2 ≠ .cell := by decide) (hkind : scope.kind = .function := by rfl) (hnames : ∀ x ∈ scope.names, x.2 = .local → scope.names.lookup x.1 = some .local := by decide)
    (hfree : ∀ x ∈ scope.names, x.2 = .free → (clc.lookup x.1).isSome = true := by decide) (hfr : ∀ p ∈ fr, (p.1, NameKind.free) ∈ scope.names ∧ clc.lookup p.1 = some p.2 := by decide)
    (hfs : ∀ x, foldedSetIterable iter C.env x = pure x := by intro _; rfl) (ht : ∀ it v, letOwnedTupleGo target it v = pure () := by intro _ _; rfl) : EV C (.ListComp elt [⟨target, iter, [], 0⟩] scope pos) st Q := by
  refine ev_comp (fr := fr) G hclc (EV.mono h ?_) hcell hkind hnames hfree hfr hfs ht
  rintro v st1 ⟨items, dep, hit, hsz, hlen, hdep, helt, hq⟩
  refine ⟨items, dep, fun i acc os => acc = (R.take i).map V.int ∧ os = st1.os, hit, hsz, ⟨by simp, rfl⟩, ?_, ?_, ?_⟩
  · rintro i acc os ⟨_, rfl⟩; exact hdep
  · rintro C' i v acc os hc hv ⟨rfl, rfl⟩
    have hi : i < R.length := by rw [← hlen]; exact (List.getElem?_eq_some_iff.mp hv).1
    have hr : R[i]? = some R[i] := List.getElem?_eq_getElem hi
    refine .mk fun s ad w hs r => ((helt C' i v _ hc hv hr).go s ad w hs r).mono fun _ st2 q => ifv_nil ?_
    rw [if_pos rfl]
    refine EV.mono q ?_
    rintro y st4 ⟨rfl, h4⟩
    refine ⟨?_, h4⟩
    rw [List.take_succ_eq_append_getElem hi, List.map_append]
    rfl
  · rintro acc os ⟨rfl, rfl⟩
    rw [hlen, List.take_length]
    exact hq
end
/-! bits -/
theorem and_step (x y : Int) : ∀ k : Nat, Builtin.bitAnd x y = 2 ^ k * Builtin.bitAnd (x / 2 ^ k) (y / 2 ^ k) + Builtin.bitAnd (x % 2 ^ k) (y % 2 ^ k)
  | 0 => by
    have : Builtin.bitAnd (0 : Int) 0 = 0 := by decide
    simp [this, Int.emod_one]
  | k + 1 => by
    rw [kbt_halves x y, kbt_halves (x % 2 ^ (k + 1)) (y % 2 ^ (k + 1)), and_step (x / 2) (y / 2) k]
    have hd : ∀ z : Int, z / 2 ^ (k + 1) = z / 2 / 2 ^ k := fun z => by rw [Int.pow_succ, Int.mul_comm, Int.ediv_ediv_of_nonneg (by decide)]
    have hm : ∀ z : Int, z % 2 ^ (k + 1) / 2 = z / 2 % 2 ^ k ∧ z % 2 ^ (k + 1) % 2 = z % 2 := fun z => by
      have h0 : (2 : Int) ^ (k + 1) = 2 * 2 ^ k := by rw [Int.pow_succ, Int.mul_comm]
      have hp := two_pos k
      have e1 := Int.emod_add_mul_ediv z (2 ^ (k + 1))
      have e2 := Int.emod_add_mul_ediv (z / 2) (2 ^ k)
      have b1 := Int.emod_nonneg z (show (2 : Int) ^ (k + 1) ≠ 0 by omega)
      have c1 := Int.emod_nonneg (z / 2) (show (2 : Int) ^ k ≠ 0 by omega)
      rw [hd z, h0, Int.mul_assoc] at e1
      generalize 2 ^ k * (z / 2 / 2 ^ k) = m at e1 e2
      rw [h0] at b1 ⊢
      omega
    rw [hd x, hd y, (hm x).1, (hm y).1, (hm x).2, (hm y).2, Int.pow_succ, Int.mul_comm (2 ^ k) 2, Int.mul_add, ← Int.mul_assoc, Int.add_assoc]
theorem and_256 (x y : Int) : Builtin.bitAnd x y = 256 * Builtin.bitAnd (x / 256) (y / 256) + Builtin.bitAnd (x % 256) (y % 256) := and_step x y 8
theorem and_nat (x y : Int) (hx : 0 ≤ x) (hy : 0 ≤ y) : Builtin.bitAnd x y = ((x.toNat &&& y.toNat : Nat) : Int) := by
  unfold Builtin.bitAnd
  rw [decide_eq_true hx, decide_eq_true hy]
theorem or_lt : ∀ (k : Nat) (x y : Int), 0 ≤ x ∧ x < 2 ^ k → 0 ≤ y ∧ y < 2 ^ k → x + y - Builtin.bitAnd x y < 2 ^ k
  | 0, x, y, hx, hy => by
    have hx0 : x = 0 := by simp at hx; omega
    have hy0 : y = 0 := by simp at hy; omega
    subst hx0; subst hy0; decide
  | k + 1, x, y, hx, hy => by
    have h0 : (2 : Int) ^ (k + 1) = 2 * 2 ^ k := by rw [Int.pow_succ, Int.mul_comm]
    rw [h0] at hx hy ⊢
    have ih := or_lt k (x / 2) (y / 2) (by omega) (by omega)
    rw [kbt_halves x y]
    split <;> omega
theorem byte_bits {k : Nat} {x y : Int} (hx : 0 ≤ x ∧ x < 2 ^ k) (hy : 0 ≤ y ∧ y < 2 ^ k) : 0 ≤ Builtin.bitAnd x y ∧ Builtin.bitAnd x y ≤ x ∧ Builtin.bitAnd x y ≤ y ∧ x + y - Builtin.bitAnd x y < 2 ^ k := by
  have h1 := bitAnd_range x hy.1
  have h2 := bitAnd_range y hx.1
  rw [bitAnd_comm] at h2
  exact ⟨h1.1, h2.2, h1.2, or_lt k x y hx hy⟩
end Mine
namespace Mine
theorem in_pk4 {a b c d : Int} (ha : 0 ≤ a ∧ a < 256) (hb : 0 ≤ b ∧ b < 256) (hc : 0 ≤ c ∧ c < 256) (hd : 0 ≤ d ∧ d < 256) : KBa.In [a, b, c, d] := by
  intro n hn
  simp at hn
  rcases hn with rfl | rfl | rfl | rfl <;> assumption
def PairsOk (os : List O) (vs : List V) : Prop := ∀ v ∈ vs, ∃ j a b, v = .ref j ∧ os[j]? = some (.tuple [.int a, .int b]) ∧ (0 ≤ a ∧ a < 256 ^ 4) ∧ (0 ≤ b ∧ b < 256 ^ 4)
theorem PairsOk.pre {os os' : List O} {vs : List V} (h : PairsOk os vs) (p : os <+: os') : PairsOk os' vs := fun v hv => by
  obtain ⟨j, a, b, e, hj, r⟩ := h v hv
  exact ⟨j, a, b, e, get_prefix p hj, r⟩
theorem PairsOk.set {os : List O} {vs ws us : List V} {k : Nat} (h : PairsOk os vs) (hk : os[k]? = some (.list ws)) : PairsOk (os.set k (.list us)) vs := fun v hv => by
  obtain ⟨j, a, b, e, hj, r⟩ := h v hv
  refine ⟨j, a, b, e, ?_, r⟩
  rw [List.getElem?_set_ne (by rintro rfl; rw [hk] at hj; cases hj)]
  exact hj
theorem PairsOk.append {os : List O} {vs ws : List V} (h : PairsOk os vs) (h' : PairsOk os ws) : PairsOk os (vs ++ ws) := fun v hv => by
  rcases List.mem_append.mp hv with hv | hv
  · exact h v hv
  · exact h' v hv
theorem PairsOk.cons {os : List O} {vs : List V} {j : Nat} {a b : Int} (hj : os[j]? = some (.tuple [.int a, .int b])) (ha : 0 ≤ a ∧ a < 256 ^ 4) (hb : 0 ≤ b ∧ b < 256 ^ 4) (h : PairsOk os vs) : PairsOk os (.ref j :: vs) := fun v hv => by
  rcases List.mem_cons.mp hv with rfl | hv
  · exact ⟨j, a, b, rfl, hj, ha, hb⟩
  · exact h v hv
theorem PairsOk.nil {os : List O} : PairsOk os [] := fun _ h => nomatch h
theorem int_at {L : List Int} {i : Nat} {n : Int} (h : n = i) (hi : i < L.length) : (L.map V.int)[n.toNat]? = some (.int L[i]) := by
  subst h
  rw [Int.toNat_natCast, List.getElem?_map, List.getElem?_eq_getElem hi]
  rfl
theorem range_item {n i : Nat} {v : V} {a c : Int} (h : ((List.range n).map fun (i : Nat) => V.int (a + (i : Int) * c))[i]? = some v) : i < n ∧ v = .int (a + (i : Int) * c) := by
  have hi := (List.getElem?_eq_some_iff.mp h).1
  simp at hi
  rw [List.getElem?_map, List.getElem?_range hi] at h
  exact ⟨hi, (Option.some.inj h).symm⟩
theorem os_keep {os : List O} {k j : Nat} {o p q : O} (hj : os[j]? = some o) (hk : os[k]? = some p) (hne : j ≠ k) : (os.set k q)[j]? = some o := by
  rw [List.getElem?_set_ne (Ne.symm hne)]; exact hj
theorem os_put {os : List O} {k : Nat} {p q : O} (hk : os[k]? = some p) : (os.set k q)[k]? = some q := List.getElem?_set_self (List.getElem?_eq_some_iff.mp hk).1
theorem pre3 (os : List O) (x y z : O) : os <+: os ++ [x] ++ [y] ++ [z] := ⟨[x, y, z], by simp⟩
theorem pre4 (os : List O) (x y z w : O) : os <+: os ++ [x] ++ [y] ++ [z] ++ [w] := ⟨[x, y, z, w], by simp⟩
/-! digits -/
theorem and4 {a0 a1 a2 a3 b0 b1 b2 b3 : Int} (ha1 : 0 ≤ a1 ∧ a1 < 256) (ha2 : 0 ≤ a2 ∧ a2 < 256) (ha3 : 0 ≤ a3 ∧ a3 < 256) (hb1 : 0 ≤ b1 ∧ b1 < 256) (hb2 : 0 ≤ b2 ∧ b2 < 256) (hb3 : 0 ≤ b3 ∧ b3 < 256) :
    Builtin.bitAnd (((a0 * 256 + a1) * 256 + a2) * 256 + a3) (((b0 * 256 + b1) * 256 + b2) * 256 + b3) = ((Builtin.bitAnd a0 b0 * 256 + Builtin.bitAnd a1 b1) * 256 + Builtin.bitAnd a2 b2) * 256 + Builtin.bitAnd a3 b3 := by
  have q : ∀ x d : Int, 0 ≤ d ∧ d < 256 → (x * 256 + d) / 256 = x ∧ (x * 256 + d) % 256 = d := fun x d h => by omega
  rw [and_256, (q _ a3 ha3).1, (q _ a3 ha3).2, (q _ b3 hb3).1, (q _ b3 hb3).2, and_256, (q _ a2 ha2).1, (q _ a2 ha2).2, (q _ b2 hb2).1, (q _ b2 hb2).2, and_256, (q _ a1 ha1).1, (q _ a1 ha1).2, (q _ b1 hb1).1, (q _ b1 hb1).2]
  omega
theorem zip_at {f : Int → Int → Int} {A B : List Int} {i : Nat} {r : Int} (h : (List.zipWith f A B)[i]? = some r) : ∃ x y, A[i]? = some x ∧ B[i]? = some y ∧ f x y = r := by
  rw [List.getElem?_zipWith_eq_some] at h
  obtain ⟨x, y, h1, h2, h3⟩ := h
  exact ⟨x, y, h1, h2, h3⟩
theorem map_at {f : Int → Int} {A : List Int} {i : Nat} {r : Int} (h : (A.map f)[i]? = some r) : ∃ x, A[i]? = some x ∧ f x = r := by
  rw [List.getElem?_map, Option.map_eq_some_iff] at h
  exact h
end Mine
namespace Mine
theorem News.swap {g h : Heap} {L : Addr} {a b : Addr × Obj} (N : News g L h [a, b]) : News g L h [b, a] := fun p hp => N p (by
  rcases List.mem_cons.mp hp with rfl | hp
  · exact .tail _ (.head _)
  · rw [List.mem_singleton.mp hp]; exact .head _)
theorem mem_two {α : Type} {a b p : α} {P : α → Prop} (hp : p ∈ [a, b]) (h1 : P a) (h2 : P b) : P p := by
  rcases List.mem_cons.mp hp with rfl | hp
  · exact h1
  · rw [List.mem_singleton.mp hp]; exact h2
end Mine
namespace Mine
theorem slot_bytes_gt : Slot "bytes" (cmpInfo .Gt).2.1 "bytes.__gt__" :=
  .of (owner := "bytes") (n := "__gt__") (by rw [typeLookup_type, builtinLookup_eq_fast]; kernel_rfl) (by decide +kernel) (by decide +kernel) (by decide +kernel)
    (by first | exact .inl (by decide +kernel) | exact .inr (by decide +kernel)) (by rw [isSubtype_type]; kernel_rfl)
theorem entry_bytes_gt : entryFor table "bytes.__gt__" = some Builtin.«bytes.__gt__» := entryFor_of_fast (by kernel_rfl)
theorem args_bytes_gt (a b : Value) : argsOk "bytes.__gt__" ⟨[a, b], []⟩ := by unfold argsOk; kernel_rfl
theorem gives_bytes_gt (b c : Array UInt8) (t u : Tok) : Gives (Builtin.«bytes.__gt__» ⟨[.bytes b t, .bytes c u], []⟩) (.val (.bool (Builtin.Bytes.order b.toList c.toList == .gt))) := by
  refine .of_wp fun M A E s Q hq => ?_
  show wpAny M A (isInstance (.bytes c u) (.type "bytes") >>= fun r => _) _ E s
  refine wpAny_bind (wpAny_isInstance (typeIs_bytes s c u) F.sub_bytes_bytes ?_)
  exact wpAny_pure ⟨_, rfl, hq⟩
section
variable {C : Cx} {sc : Scope} {lv : Nat} {st : St} {pos : Pos} {Q : V → St → Prop} {ad : List Addr} {ns ms : List Int}
theorem co_gtB (h1 : KBa.In ns) (h2 : KBa.In ms) (h : Q (.bool (ordI ns ms == .gt)) st) : CO C .Gt (.bytes (byteArr ns)) (.bytes (byteArr ms)) st Q := .mk fun s ad va vb hs ⟨t, e⟩ ⟨u, f⟩ => by
  subst e f
  rw [← order_ints h1 h2] at h
  exact At.stay (a := .bool _) hs h rfl fun _ hK => compareOp_gives (op := .Gt) (typeIs_bytes s _ t) (typeIs_bytes s _ u) slot_bytes_gt entry_bytes_gt (args_bytes_gt _ _) (gives_bytes_gt _ _ t u) (fun e => nomatch e) hK
/-- a list unpacked -/
theorem as_list {es : List Expr} {n k : Nat} {tp : Pos} {vs : List V} {Q : St → Prop} (hh : C.A.handled = none) (hk : st.os[k]? = some (.list vs)) (h : AO C ((assignEach es C.env).map (·.2)) vs st Q)
    (hn : (assignEach es C.env).length = vs.length) (hstar : (assignEach es C.env).findIdx? (·.1) = none := by rfl) : AS C (.Tuple es n tp) (.ref k) st Q := .mk fun s ad w hs r => At.mk fun K hK => by
  obtain ⟨a, ws, ha, hla, hva⟩ := hs.list hk
  cases r.ref ha
  rw [assign_Tuple]
  refine wpAny_bind (wpAny_standAt ?_)
  unfold unpack
  rw [hn, hstar, ← hva.length, ← List.size_toArray]
  refine wpAny_bind (wpAny_holding (kun_itemsOf hh hla fun h' he => ?_))
  exact (h.go { s with heap := h' } ad ws (hs.ext he) hva).run K fun _ st2 s2 ad2 _ q2 e2 p2 hs2 _ => hK () st2 s2 ad2 () q2 ((Same.hp s h').trans e2) p2 hs2 trivial
/-- a loop over anything, turn by turn -/
def ChainG (C : Cx) (t : Expr) (body : List Stmt) (n : Nat) (dep : St → Prop) (Q : F → St → Prop) : List V → St → Prop
  | [], st => Q .next st
  | v :: vs, st => ∀ kp, AS (C.kept kp) t v st (fun st2 => SV (C.kept kp) body st2 (fun f st3 => match f with
    | .brk => Q .next st3
    | .ret v => Q (.ret v) st3
    | _ => dep st3 ∧ n ≤ st3.os.length ∧ ChainG C t body n dep Q vs st3))
theorem ChainG.eqn {C : Cx} {t : Expr} {body : List Stmt} {n : Nat} {dep : St → Prop} {Q : F → St → Prop} {v : V} {vs : List V} {st : St} : ChainG C t body n dep Q (v :: vs) st = ∀ kp, AS (C.kept kp) t v st (fun st2 => SV (C.kept kp) body st2 (fun f st3 => match f with
    | .brk => Q .next st3
    | .ret v => Q (.ret v) st3
    | _ => dep st3 ∧ n ≤ st3.os.length ∧ ChainG C t body n dep Q vs st3)) := rfl
theorem xv_forG {t iter : Expr} {body : List Stmt} {Q : F → St → Prop}
    (h : EV C iter st (fun v st1 => ∃ items dep, IterOf C v st1 items dep ∧ dep st1 ∧ ChainG C t body st1.os.length dep Q items st1))
    (hs : ∀ x, foldedSetIterable iter C.env x = pure x := by intro _; rfl) : XV C (.For t iter body [] pos) st Q := by
  refine xv_for (EV.mono h ?_) hs
  rintro v st1 ⟨items, dep, hit, hd, hc⟩
  refine ⟨items, dep, fun i st' => dep st' ∧ st1.os.length ≤ st'.os.length ∧ ChainG C t body st1.os.length dep Q (items.drop i) st', hit, ⟨_, Sub.refl _, hd, Nat.le_refl _, hc⟩, fun i st' h => h.1, ?_, ?_⟩
  · rintro i v st' kp hv ⟨h1, h2, h3⟩
    have hlt := (List.getElem?_eq_some_iff.mp hv).1
    rw [List.drop_eq_getElem_cons hlt, ChainG.eqn] at h3
    have e : items[i] = v := (List.getElem?_eq_some_iff.mp hv).2
    rw [e] at h3
    refine .mk fun s ad w hs r => ((h3 kp).go s ad w hs r).mono fun _ st2 q => SV.mono q fun f st3 q => ?_
    cases f with
    | next => exact ⟨st3, Wk.refl _ _, q.2.1, q⟩
    | cont => exact ⟨st3, Wk.refl _ _, q.2.1, q⟩
    | brk => exact q
    | ret v => exact q
  · rintro st' ⟨h1, h2, h3⟩
    rw [List.drop_length] at h3
    exact h3
end
/-! bits: the xor of two numbers and their difference have the same twos -/
theorem xor_step (x y : Int) (k : Nat) : Builtin.bitXor x y = 2 ^ k * Builtin.bitXor (x / 2 ^ k) (y / 2 ^ k) + Builtin.bitXor (x % 2 ^ k) (y % 2 ^ k) := by
  have h1 := and_step x y k
  have ex := Int.emod_add_mul_ediv x (2 ^ k)
  have ey := Int.emod_add_mul_ediv y (2 ^ k)
  rw [bitXor_and, bitXor_and, bitXor_and, h1]
  have e2 : (2 : Int) ^ k * (x / 2 ^ k + y / 2 ^ k - 2 * Builtin.bitAnd (x / 2 ^ k) (y / 2 ^ k)) = 2 ^ k * (x / 2 ^ k) + 2 ^ k * (y / 2 ^ k) - 2 * (2 ^ k * Builtin.bitAnd (x / 2 ^ k) (y / 2 ^ k)) := by
    rw [Int.mul_sub, Int.mul_add, Int.mul_left_comm]
  rw [e2]
  omega
theorem xor_dvd (x y : Int) (k : Nat) : (2 : Int) ^ k ∣ Builtin.bitXor x y ↔ (2 : Int) ^ k ∣ x - y := by
  have hp := two_pos k
  have hx : 0 ≤ x % 2 ^ k ∧ x % 2 ^ k < 2 ^ k := ⟨Int.emod_nonneg _ (by omega), Int.emod_lt_of_pos _ hp⟩
  have hy : 0 ≤ y % 2 ^ k ∧ y % 2 ^ k < 2 ^ k := ⟨Int.emod_nonneg _ (by omega), Int.emod_lt_of_pos _ hp⟩
  have hb := byte_bits hx hy
  have hxr : Builtin.bitXor x y % 2 ^ k = Builtin.bitXor (x % 2 ^ k) (y % 2 ^ k) := by
    refine (kbt_unique (q := Builtin.bitXor (x / 2 ^ k) (y / 2 ^ k)) hp ?_ ?_ ?_).2
    · rw [xor_step x y k]; omega
    · rw [bitXor_and]; omega
    · rw [bitXor_and]; omega
  rw [Int.dvd_iff_emod_eq_zero, Int.dvd_iff_emod_eq_zero, hxr, ← Int.emod_eq_emod_iff_emod_sub_eq_zero]
  constructor
  · intro h
    rw [bitXor_and] at h
    omega
  · intro h
    rw [h]
    exact bitXor_self _
end Mine
namespace Mine
theorem noPylong_quot {x y : Int} (hy : 0 < y) (h : x.natAbs < y.natAbs * 2 ^ 128) : Builtin.divisionGoesByPylong x y = false := by
  have hy0 : y.natAbs ≠ 0 := by omega
  have h1 : y.natAbs < 2 ^ (y.natAbs.log2 + 1) := (Nat.log2_lt hy0).mp (Nat.lt_succ_self _)
  have key : (if x == 0 then 0 else x.natAbs.log2 / 30 + 1) ≤ (if y == 0 then 0 else y.natAbs.log2 / 30 + 1) + 150 := by
    by_cases hx : (x == 0) = true
    · rw [if_pos hx]; exact Nat.zero_le _
    · rw [if_neg hx, if_neg (by simp; omega)]
      have hx0 : x.natAbs ≠ 0 := by simp at hx; omega
      have h2 : x.natAbs < 2 ^ (y.natAbs.log2 + 1 + 128) := by
        rw [Nat.pow_add]
        exact Nat.lt_trans h (Nat.mul_lt_mul_of_pos_right h1 (by decide))
      have := (Nat.log2_lt hx0).mpr h2
      omega
  unfold Builtin.divisionGoesByPylong
  simp only [Bool.and_eq_false_iff, decide_eq_false_iff_not]
  right
  exact Nat.not_lt.mpr key
section
variable {C : Cx} {sc : Scope} {lv : Nat} {st : St} {pos : Pos} {Q : V → St → Prop} {ad : List Addr} {x y : Int}
theorem cl_divmod (hy : 0 < y) (hp : Builtin.divisionGoesByPylong x y = false) (h : Q (.ref st.os.length) (st.add (.tuple [.int (x / y), .int (x % y)]))) : CL C (.builtin "divmod") [.int x, .int y] st Q := .mk fun s ad ws hs hr => At.mk fun K hK => by
  cases hr with | cons ra hr => cases hr with | cons rb hr => cases hr with | nil =>
  obtain ⟨t, rfl⟩ := ra
  obtain ⟨u, rfl⟩ := rb
  have hl := hs.len
  obtain ⟨⟨gg, hgg, m, news, F, N, c, d, o, r⟩, hc⟩ := hs
  refine divmod_N F N (by omega) (fun h' F' N' => ?_) (.inl hp)
  rw [Int.fdiv_eq_ediv_of_nonneg x (Int.le_of_lt hy), Int.fmod_eq_emod_of_nonneg x (Int.le_of_lt hy)] at N'
  exact hK _ _ _ _ _ h (Same.mk' s h' _) (List.prefix_append _ _) (sr_alloc hgg N c d o r hc F' N' ⟨[_, _], 0, rfl, .cons ⟨_, rfl⟩ (.cons ⟨_, rfl⟩ .nil)⟩) (ref_new _ _ _ hl)
theorem io_divP (hy : 0 < y) (hp : Builtin.divisionGoesByPylong x y = false) (h : Q (.int (x / y)) st) : IO C .FloorDiv (.int x) (.int y) st Q := .mk fun s ad va vb hs ⟨t, e⟩ ⟨u, f⟩ => by
  subst e f
  refine At.tick (a := .int _ s.toks) hs h ⟨_, rfl⟩ fun K hK => ifloordiv_int (by omega) ?_ (.inl hp)
  rw [Int.fdiv_eq_ediv_of_nonneg x (Int.le_of_lt hy)]
  exact hK _
end
/-! numbers of figures -/
def valR : List Int → Int
  | [] => 0
  | d :: r => d + 256 * valR r
def val (L : List Int) : Int := valR L.reverse
theorem valR_append (a b : List Int) : valR (a ++ b) = valR a + 256 ^ a.length * valR b := by
  induction a with
  | nil => simp [valR]
  | cons d r ih => rw [List.cons_append, valR, valR, ih, List.length_cons, Int.pow_succ, Int.mul_add, ← Int.mul_assoc, Int.mul_comm 256 (256 ^ r.length), Int.add_assoc]
theorem val_snoc (Q : List Int) (d : Int) : val (Q ++ [d]) = 256 * val Q + d := by
  unfold val
  rw [List.reverse_append]
  show d + 256 * valR Q.reverse = _
  omega
theorem val_cons (d : Int) (R : List Int) : val (d :: R) = d * 256 ^ R.length + val R := by
  unfold val
  rw [List.reverse_cons, valR_append, List.length_reverse]
  show _ + 256 ^ R.length * (d + 256 * 0) = _
  rw [Int.mul_comm]
  simp
  omega
theorem valR_little : ∀ (L : List Int), KBa.In L → KTBy.little L.length (valR L) = L
  | [], _ => rfl
  | d :: r, h => by
    have hd := h d (.head _)
    show (d + 256 * valR r) % 256 :: KTBy.little r.length ((d + 256 * valR r) / 256) = _
    rw [show (d + 256 * valR r) % 256 = d by omega, show (d + 256 * valR r) / 256 = valR r by omega, valR_little r fun n hn => h n (.tail _ hn)]
theorem In.rev {L : List Int} (h : KBa.In L) : KBa.In L.reverse := fun n hn => h n (List.mem_reverse.mp hn)
theorem pk_val {L : List Int} {k : Nat} (h : KBa.In L) (hk : L.length = k) : pk k (val L) = L := by
  subst hk
  have := valR_little L.reverse (In.rev h)
  rw [List.length_reverse] at this
  show (KTBy.little L.length (valR L.reverse)).reverse = L
  rw [this, List.reverse_reverse]
theorem valR_range : ∀ (L : List Int), KBa.In L → 0 ≤ valR L ∧ valR L < 256 ^ L.length
  | [], _ => by decide
  | d :: r, h => by
    have hd := h d (.head _)
    have ih := valR_range r fun n hn => h n (.tail _ hn)
    rw [valR, List.length_cons, Int.pow_succ]
    omega
theorem val_range {L : List Int} {k : Nat} (h : KBa.In L) (hk : L.length = k) : 0 ≤ val L ∧ val L < 256 ^ k := by
  have := valR_range L.reverse (In.rev h)
  rw [List.length_reverse, hk] at this
  exact this
theorem valR_of_little : ∀ (k : Nat) (x : Int), 0 ≤ x → x < 256 ^ k → valR (KTBy.little k x) = x
  | 0, x, h0, h1 => by
    have : x = 0 := by simp at h1; omega
    rw [this]; rfl
  | k + 1, x, h0, h1 => by
    rw [Int.pow_succ] at h1
    show x % 256 + 256 * valR (KTBy.little k (x / 256)) = x
    rw [valR_of_little k (x / 256) (by omega) (by omega)]
    omega
theorem val_pk {k : Nat} {x : Int} (h0 : 0 ≤ x) (h1 : x < 256 ^ k) : val (pk k x) = x := by
  unfold val
  rw [List.reverse_reverse, valR_of_little k x h0 h1]
theorem In.append {A B : List Int} (h : KBa.In A) (h' : KBa.In B) : KBa.In (A ++ B) := fun n hn => by
  rcases List.mem_append.mp hn with q | q
  · exact h n q
  · exact h' n q
theorem In.one {d : Int} (h : 0 ≤ d ∧ d < 256) : KBa.In [d] := fun n hn => by rw [List.mem_singleton.mp hn]; exact h
theorem In.left {A B : List Int} (h : KBa.In (A ++ B)) : KBa.In A := fun n hn => h n (List.mem_append_left _ hn)
theorem In.right {A B : List Int} (h : KBa.In (A ++ B)) : KBa.In B := fun n hn => h n (List.mem_append_right _ hn)
theorem bits_le_of_lt {x : Int} {k : Nat} (h : x.natAbs < 2 ^ k) : Builtin.Int.intBits x ≤ k := intBits_le_iff.mpr h
end Mine
namespace Mine
/-- a source of a zip: its items are drawn -/
structure Draw (ad₀ : List Addr) (I : Addr) (items : List V) (dep : St → Prop) (inv : Nat → Obj → Prop) : Prop where
  item : ∀ (C₂ : Cx) (A : Around) (E : Value → Shared → Prop) i v ob kp st s ad, items[i]? = some v → inv i ob → dep st → ad₀ <+: ad → SR (C₂.kept ((I, ob) :: kp)) ad st s.heap → ∀ K : Value → Shared → Prop,
    (∀ w s' ob', Same s s' → inv (i + 1) ob' → SR (C₂.kept ((I, ob') :: kp)) ad st s'.heap → VR ad v w → K w s') → wpAny C₂.M A (Builtin.SmallTypes.nextOf (.ref I)) K E s
  stop : ∀ (C₂ : Cx) (A : Around) (E : Value → Shared → Prop) ob kp st s ad, A.handled = none → inv items.length ob → dep st → ad₀ <+: ad → SR (C₂.kept ((I, ob) :: kp)) ad st s.heap → ∀ K : Value → Shared → Prop,
    (∀ e s', Same s s' → SR (C₂.kept kp) ad st s'.heap → (∃ o, s'.heap.get? e = some o ∧ o.cls = .type "StopIteration") → E (.ref e) s') → wpAny C₂.M A (Builtin.SmallTypes.nextOf (.ref I)) K E s
theorem SR.kpHd {C : Cx} {kp : List (Addr × Obj)} {ad : List Addr} {st : St} {h : Heap} {p : Addr × Obj} (hs : SR (C.kept (p :: kp)) ad st h) : h.get? p.1 = some p.2 := SR.kpGet (C := C.kept (p :: kp)) hs (.head _)
theorem draw_list {ad : List Addr} {k : Nat} {a : Addr} {vs : List V} (ha : ad[k]? = some a) (I : Addr) : Draw ad I vs (fun st' => st'.os[k]? = some (.list vs)) (fun i ob => ob.cls = .type "list_iterator" ∧ ob.data = .fields #[.ref a, .int i 0]) := by
  refine ⟨?_, ?_⟩
  · rintro C₂ A E i v ob kp st' s' ad' hv ⟨hc, hd⟩ hdep px hs' K hK
    obtain ⟨a', ws', ha', hla', hva'⟩ := SR.list hs' hdep
    rw [get_prefix px ha] at ha'
    cases ha'
    obtain ⟨w, hw, hvw⟩ := hva'.get hv
    refine wpAny_nextOf_list_item ⟨ob, hs'.kpHd, hc, hd⟩ hla' (by simpa using hw) fun h' hit hsb => ?_
    obtain ⟨ob', h1, h2, h3⟩ := hit
    exact hK w _ ob' (Same.hp s' h') ⟨h2, h3⟩ (SR.touch hs' (fun b o hb e => hsb.extBut b o hb e) h1) hvw
  · rintro C₂ A E ob kp st' s' ad' hh ⟨hc, hd⟩ hdep px hs' K hK
    obtain ⟨a', ws', ha', hla', hva'⟩ := SR.list hs' hdep
    rw [get_prefix px ha] at ha'
    cases ha'
    refine wpAny_nextOf_list_end hh ⟨ob, hs'.kpHd, hc, hd⟩ hla' (by simp [hva'.length]) fun h' e he ho => ?_
    exact hK e _ (Same.hp s' h') (SR.gone hs' fun b o hb e => he b o hb e) ho
/-! a source of bytes -/
section
variable {prog : Program} {w : World} {A : Around} {E : Value → Shared → Prop} {s : Shared} {b : Array UInt8} {t : Tok}
theorem nextB_item {it : Addr} {i : Nat} {c : UInt8} {ob : Obj} {Q : Value → Shared → Prop} (ho : s.heap.get? it = some ob) (hc : ob.cls = .type "bytes_iterator") (hd : ob.data = .fields #[.bytes b t, .int i 0]) (hx : b[i]? = some c)
    (hQ : ∀ h' ob', h'.get? it = some ob' → ob'.cls = .type "bytes_iterator" → ob'.data = .fields #[.bytes b t, .int (i + 1 : Nat) 0] → Heap.SameBut it s.heap h' → Q (.int (c.toNat : Int) s.toks) { s with heap := h', toks := s.toks + 1 }) :
    wpAny (model prog w) A (Builtin.SmallTypes.nextOf (.ref it)) Q E s := by
  have hT : s.TypeIs (.ref it) "bytes_iterator" := ⟨ob, ho, hc⟩
  unfold Builtin.SmallTypes.nextOf
  refine wpAny_bind (wpAny_callSpecial?_slot (name := PySem.Str.ofString "__next__") hT KBw.slot_next (wpAny_call_entry KBw.slot_next hT KBw.entry_next ?_ (KBw.args_next _)))
  show wpAny _ _ (field (.ref it) 0 >>= _) _ _ s
  refine wpAny_bind (wpAny_field ho hd (x := .bytes b t) rfl ?_)
  show wpAny _ _ (if (Value.bytes b t == Value.none) = true then _ else _) _ _ s
  rw [if_neg (show ¬ ((Value.bytes b t == Value.none) = true) from Bool.false_ne_true)]
  show wpAny _ _ (field (.ref it) 1 >>= _) _ _ s
  refine wpAny_bind (wpAny_field ho hd (x := .int i 0) rfl (wpAny_bind (wpAny_of_eq (a := b) rfl ?_)))
  simp only [Int.toNat_natCast, hx]
  refine wpAny_bind (wpAny_setField ho hd (by simp) (wpAny_bind (wpAny_mkInt (wpAny_pure ⟨_, rfl, wpAny_pure (hQ _ _ (Heap.get?_update_self _ ho (Obj.isFreed_of_fields (Obj.data_mapFields hd _))) ((Obj.cls_mapFields ..).trans hc) ?_ (Heap.SameBut.update ..))⟩))))
  rw [Obj.data_mapFields hd]; simp [rawInt]
theorem nextB_end {it : Addr} {i : Nat} {ob : Obj} {Q : Value → Shared → Prop} (hh : A.handled = none) (ho : s.heap.get? it = some ob) (hc : ob.cls = .type "bytes_iterator") (hd : ob.data = .fields #[.bytes b t, .int i 0]) (hx : b[i]? = none)
    (hE : ∀ h' e, Heap.ExtBut it s.heap h' → (∃ o, h'.get? e = some o ∧ o.cls = .type "StopIteration") → E (.ref e) { s with heap := h' }) : wpAny (model prog w) A (Builtin.SmallTypes.nextOf (.ref it)) Q E s := by
  have hT : s.TypeIs (.ref it) "bytes_iterator" := ⟨ob, ho, hc⟩
  unfold Builtin.SmallTypes.nextOf
  refine wpAny_bind (wpAny_callSpecial?_slot (name := PySem.Str.ofString "__next__") hT KBw.slot_next (wpAny_call_entry KBw.slot_next hT KBw.entry_next ?_ (KBw.args_next _)))
  show wpAny _ _ (field (.ref it) 0 >>= _) _ _ s
  refine wpAny_bind (wpAny_field ho hd (x := .bytes b t) rfl ?_)
  show wpAny _ _ (if (Value.bytes b t == Value.none) = true then _ else _) _ _ s
  rw [if_neg (show ¬ ((Value.bytes b t == Value.none) = true) from Bool.false_ne_true)]
  show wpAny _ _ (field (.ref it) 1 >>= _) _ _ s
  refine wpAny_bind (wpAny_field ho hd (x := .int i 0) rfl (wpAny_bind (wpAny_of_eq (a := b) rfl ?_)))
  simp only [Int.toNat_natCast, hx]
  refine wpAny_bind (wpAny_rule (wpAny_bind (wpAny_setField ho hd (by simp) ?_)))
  show wpAny _ _ (newExc (.type "StopIteration") [] >>= _) _ _ _
  refine wpAny_bind ?_
  simp only [newExc, newTuple]
  refine wpAny_bind (wpAny_newObj_type ?_ (by size_fits))
  refine wpAny_bind (m := firstArgMember _ _) (wpAny_of_eq (a := Value.none) (by first | rfl | (simp only [firstArgMember]; rfl)) ?_)
  refine wpAny_newObj_type ?_ (by size_fits)
  simp only [raiseNew]
  refine wpAny_bind (wpAny_handled ?_)
  rw [show A.in1.handled = none from hh]
  refine wpAny_bind (wpAny_pure (wpAny_throw ?_))
  exact hE _ _ (((Heap.SameBut.update ..).extBut.push _).push _) ⟨_, Heap.get?_push_size _ rfl, rfl⟩
end
theorem byte_at {ns : List Int} {i : Nat} {v : Int} (hin : KBa.In ns) (h : ns[i]? = some v) : ∃ c : UInt8, (byteArr ns)[i]? = some c ∧ (c.toNat : Int) = v := by
  refine ⟨v.toNat.toUInt8, ?_, ?_⟩
  · show (ns.map fun (n : Int) => n.toNat.toUInt8).toArray[i]? = _
    rw [List.getElem?_toArray, List.getElem?_map, h]; rfl
  · have := hin v (List.mem_of_getElem? h)
    have e : v.toNat.toUInt8.toNat = v.toNat % 256 := by simp
    rw [e]; omega
theorem draw_bytes {ad : List Addr} {ns : List Int} {t : Tok} (hin : KBa.In ns) (I : Addr) : Draw ad I (ns.map V.int) (fun _ => True) (fun i ob => ob.cls = .type "bytes_iterator" ∧ ob.data = .fields #[.bytes (byteArr ns) t, .int i 0]) := by
  refine ⟨?_, ?_⟩
  · rintro C₂ A E i v ob kp st' s' ad' hv ⟨hc, hd⟩ hdep px hs' K hK
    rw [List.getElem?_map] at hv
    cases hn : ns[i]? with
    | none => rw [hn] at hv; cases hv
    | some n =>
      rw [hn] at hv
      cases hv
      obtain ⟨c, hc1, hc2⟩ := byte_at hin hn
      refine nextB_item hs'.kpHd hc hd hc1 fun h' ob' g1 g2 g3 hsb => ?_
      exact hK _ _ ob' (Same.mk' s' h' _) ⟨g2, g3⟩ (SR.touch hs' (fun b o hb e => hsb.extBut b o hb e) g1) ⟨_, by rw [hc2]⟩
  · rintro C₂ A E ob kp st' s' ad' hh ⟨hc, hd⟩ hdep px hs' K hK
    refine nextB_end hh hs'.kpHd hc hd ?_ fun h' e he ho => hK e _ (Same.hp s' h') (SR.gone hs' fun b o hb e => he b o hb e) ho
    show (ns.map fun (n : Int) => n.toNat.toUInt8).toArray[_]? = _
    rw [List.getElem?_toArray, List.getElem?_eq_none (by simp)]
/-- something that zip takes -/
def SrcOf (C : Cx) (v : V) (st : St) (items : List V) (dep : St → Prop) : Prop := ∀ (s : Shared) ad w, SR C ad st s.heap → VR ad v w → ∃ (inv : Nat → Obj → Prop) (ob : Obj), ob.isFreed = false ∧ inv 0 ob ∧ (∀ I, Draw ad I items dep inv) ∧
  ∀ (A : Around) (E : Value → Shared → Prop) (s' : Shared) (K : Value → Shared → Prop), (∀ b o, s.heap.get? b = some o → s'.heap.get? b = some o) → K (.ref s'.heap.objs.size) { s' with heap := s'.heap.push ob } → wpAny C.M A (pyIter w) K E s'
section
variable {C : Cx} {sc : Scope} {lv : Nat} {st : St} {pos : Pos} {ad : List Addr}
theorem src_list {k : Nat} {vs : List V} (hk : st.os[k]? = some (.list vs)) : SrcOf C (.ref k) st vs (fun st' => st'.os[k]? = some (.list vs)) := fun s ad w hs r => by
  obtain ⟨a, ws, ha, hla, hva⟩ := hs.list hk
  cases r.ref ha
  exact ⟨_, { cls := .type "list_iterator", data := .fields #[.ref a, .int 0 0] }, rfl, ⟨rfl, rfl⟩, draw_list ha, fun A E s' K hk' h => wpAny_pyIter_list (hla.at fun o e => hk' a o e) h⟩
theorem src_bytes {ns : List Int} (hin : KBa.In ns) : SrcOf C (.bytes (byteArr ns)) st (ns.map V.int) (fun _ => True) := fun s ad w hs ⟨t, e⟩ => by
  subst e
  exact ⟨_, { cls := .type "bytes_iterator", data := .fields #[.bytes (byteArr ns) t, .int 0 0] }, rfl, ⟨rfl, rfl⟩, draw_bytes hin, fun A E s' K hk' h => KBw.pyIter_bytes h⟩
end
end Mine
namespace Mine
abbrev zob (f0 : Value) (TI TO : Addr) : Obj := { cls := .type "zip", dict := none, data := .fields #[f0, .bool false, .bool false, .ref TI, .ref TO], slots := #[] }
abbrev tob (vs : List Value) : Obj := { cls := .type "tuple", data := .seq vs.toArray }
section
variable {C : Cx} {st : St} {ad : List Addr}
theorem SR.toHead {h : Heap} {p : Addr × Obj} {l kp : List (Addr × Obj)} (hs : SR (C.kept (l ++ p :: kp)) ad st h) : SR (C.kept (p :: (l ++ kp))) ad st h := hs.perm List.perm_middle
theorem SR.fromHead {h : Heap} {p : Addr × Obj} {l kp : List (Addr × Obj)} (hs : SR (C.kept (p :: (l ++ kp))) ad st h) : SR (C.kept (l ++ p :: kp)) ad st h := hs.perm List.perm_middle.symm
theorem SR.touchAt {h h' : Heap} {I : Addr} {ob ob' : Obj} {l kp : List (Addr × Obj)} (hs : SR (C.kept (l ++ (I, ob) :: kp)) ad st h) (hk : ∀ b o, b ≠ I → h.get? b = some o → h'.get? b = some o) (hI : h'.get? I = some ob') : SR (C.kept (l ++ (I, ob') :: kp)) ad st h' :=
  (hs.toHead.touch hk hI).fromHead
/-- a new thing of the store -/
theorem SR.alloc {h : Heap} (hs : SR C ad st h) {o : O} {ob : Obj} (hf : ob.isFreed = false) (ho : ∀ b, OR (ad ++ [b]) o ob) : SR C (ad ++ [h.objs.size]) (st.add o) (h.push ob) := by
  obtain ⟨⟨gg, hgg, m, news, F, N, c, d, o', r⟩, hc⟩ := hs
  exact sr_alloc hgg N c d o' r hc (F.push _) (N.push F _ hf) (ho _)
end
theorem updTob {prog : Program} {w : World} {A : Around} {E : Value → Shared → Prop} {s : Shared} {T : Addr} {vs : List Value} {x : Value} {k : Nat} {Q : Unit → Shared → Prop} (hT : s.heap.get? T = some (tob vs))
    (h : ∀ h', h'.get? T = some { cls := .type "tuple", data := .seq (vs.toArray.setIfInBounds k x) } → Heap.SameBut T s.heap h' → Q () { s with heap := h' }) (hz : vs.length ≤ 100 := by simp) :
    wpAny (model prog w) A (updateSeq T (·.setIfInBounds k x)) Q E s := by
  refine wpAny_updateSeq hT rfl (h _ ?_ (Heap.SameBut.update ..)) (by rw [List.size_toArray, sizeLine_eq]; omega) (by rw [Array.size_setIfInBounds, List.size_toArray, sizeLine_eq]; omega)
  rw [Heap.get?_update_self _ hT rfl]
  simp [Obj.mapSeq]
theorem zip2_next {C₂ : Cx} {A : Around} {E : Value → Shared → Prop} {s : Shared} {ad ad₀ : List Addr} {st : St} {kp : List (Addr × Obj)} {z TI TO i1 i2 : Addr} {a1 a2 : Value} {o1 o2 : Obj} {items1 : List V} {dep1 : St → Prop} {inv1 : Nat → Obj → Prop} {items2 : List V} {dep2 : St → Prop} {inv2 : Nat → Obj → Prop} {i : Nat} {v1 v2 : V} {K : Option Value → Shared → Prop}
    (d1 : Draw ad₀ i1 items1 dep1 inv1) (d2 : Draw ad₀ i2 items2 dep2 inv2) (hv1 : items1[i]? = some v1) (hi1 : inv1 i o1) (hd1 : dep1 st) (hv2 : items2[i]? = some v2) (hi2 : inv2 i o2) (hd2 : dep2 st) (px : ad₀ <+: ad)
    (hs : SR (C₂.kept ((z, zob .none TI TO) :: (TI, tob [.ref i1, .ref i2]) :: (TO, tob [a1, a2]) :: (i1, o1) :: (i2, o2) :: kp)) ad st s.heap)
    (hK : ∀ (T : Addr) s' w1 w2 o1' o2', Same s s' → inv1 (i + 1) o1' → inv2 (i + 1) o2' → SR (C₂.kept ((z, zob (rawInt T) TI TO) :: (TI, tob [.ref i1, .ref i2]) :: (TO, tob [w1, w2]) :: (i1, o1') :: (i2, o2') :: kp)) (ad ++ [T]) (st.add (.tuple [v1, v2])) s'.heap → K (some (.ref T)) s') :
    wpAny C₂.M A (pyNext (.ref z)) K E s := by
  have hz := hs.kpHd
  have hT : s.TypeIs (.ref z) "zip" := ⟨_, hz, rfl⟩
  have hTI : s.heap.get? TI = some (tob [.ref i1, .ref i2]) := SR.kpAt (p := (TI, _)) hs (.tail _ (.head _))
  unfold pyNext
  refine wpAny_bind (wpAny_attempt (wpAny_callSpecial?_slot (name := Str.ofString "__next__") hT F.slot_zip_next (wpAny_call_entry F.slot_zip_next hT F.entry_zip_next ?_ (F.args_zip_next_1 _))))
  show wpAny _ _ (field (.ref z) 2 >>= _) _ _ _
  refine wpAny_bind (wpAny_field hz rfl (x := .bool false) rfl ?_)
  show wpAny _ _ (field (.ref z) 3 >>= _) _ _ _
  refine wpAny_bind (wpAny_field hz rfl (x := .ref TI) rfl (wpAny_bind (wpAny_seqItems hTI rfl ?_)))
  show wpAny _ _ (Builtin.SmallTypes.ownedTupleIsFree (.ref z) >>= _) _ _ _
  refine wpAny_bind ?_
  unfold Builtin.SmallTypes.ownedTupleIsFree
  refine wpAny_bind (wpAny_field hz rfl (x := .none) rfl (wpAny_pure ?_))
  simp only [if_true]
  refine wpAny_bind (wpAny_rule (wpAny_bind (wpAny_field hz rfl (x := .ref TO) rfl ?_)))
  refine wpAny_bind (wpAny_setField_rec hz (by simp) fun h₁ hz₁ hs₁ => ?_)
  replace hz₁ : h₁.get? z = some (zob .ellipsis TI TO) := hz₁
  have S1 := SR.touch hs (fun b o hb e => hs₁.extBut b o hb e) hz₁
  refine wpAny_bind ?_
  simp only [List.zipIdx_cons, List.zipIdx_nil, List.forIn_cons, List.forIn_nil]
  have E1 : Same s { s with heap := h₁ } := Same.hp s h₁

  refine wpAny_bind (wpAny_bind (wpAny_onRaise ?_))
  show wpAny _ _ (Builtin.SmallTypes.nextOf (.ref i1) >>= _) _ _ _
  refine wpAny_bind (d1.item C₂ _ _ i v1 o1 _ st { s with heap := h₁ } ad hv1 hi1 hd1 px (SR.toHead (l := [(z, zob .ellipsis TI TO), (TI, tob [.ref i1, .ref i2]), (TO, tob [a1, a2])]) S1) _ fun w1 s1 o1' e1 hi1' hs1 r1 => wpAny_pure ?_)
  have T1 := SR.fromHead (l := [(z, zob .ellipsis TI TO), (TI, tob [.ref i1, .ref i2]), (TO, tob [a1, a2])]) hs1
  have hTO1 : s1.heap.get? TO = some (tob [a1, a2]) := SR.kpAt (p := (TO, _)) T1 (.tail _ (.tail _ (.head _)))
  refine wpAny_bind (wpAny_seqItems hTO1 rfl (wpAny_bind (updTob hTO1 fun h1 g1 q1 => ?_)))
  replace g1 : h1.get? TO = some (tob [w1, a2]) := g1
  have S2 := SR.touchAt (l := [(z, zob .ellipsis TI TO), (TI, tob [.ref i1, .ref i2])]) T1 (fun b o hb e => q1.extBut b o hb e) g1
  have E2 : Same s { s1 with heap := h1 } := E1.trans (e1.trans (Same.hp s1 h1))
  refine wpAny_bind (wpAny_letGo (wpAny_pure ?_))

  refine wpAny_bind (wpAny_bind (wpAny_onRaise ?_))
  show wpAny _ _ (Builtin.SmallTypes.nextOf (.ref i2) >>= _) _ _ _
  refine wpAny_bind (d2.item C₂ _ _ i v2 o2 _ st { s1 with heap := h1 } ad hv2 hi2 hd2 px (SR.toHead (l := [(z, zob .ellipsis TI TO), (TI, tob [.ref i1, .ref i2]), (TO, tob [w1, a2]), (i1, o1')]) S2) _ fun w2 s2 o2' e2 hi2' hs2 r2 => wpAny_pure ?_)
  have T2 := SR.fromHead (l := [(z, zob .ellipsis TI TO), (TI, tob [.ref i1, .ref i2]), (TO, tob [w1, a2]), (i1, o1')]) hs2
  have hTO2 : s2.heap.get? TO = some (tob [w1, a2]) := SR.kpAt (p := (TO, _)) T2 (.tail _ (.tail _ (.head _)))
  refine wpAny_bind (wpAny_seqItems hTO2 rfl (wpAny_bind (updTob hTO2 fun h2 g2 q2 => ?_)))
  replace g2 : h2.get? TO = some (tob [w1, w2]) := g2
  have S3 := SR.touchAt (l := [(z, zob .ellipsis TI TO), (TI, tob [.ref i1, .ref i2])]) T2 (fun b o hb e => q2.extBut b o hb e) g2
  have E3 : Same s { s2 with heap := h2 } := E2.trans (e2.trans (Same.hp s2 h2))
  refine wpAny_bind (wpAny_letGo (wpAny_pure (wpAny_pure ?_)))

  have hTOn := SR.kpAt (p := (TO, _)) S3 (.tail _ (.tail _ (.head _)))
  refine wpAny_bind (wpAny_seqItems hTOn rfl ?_)
  have A1 := S3.alloc (o := .tuple [v1, v2]) (ob := tob [w1, w2]) rfl (fun b => ⟨_, 0, rfl, .cons (r1.mono (List.prefix_append _ _)) (.cons (r2.mono (List.prefix_append _ _)) (.nil))⟩)
  refine wpAny_bind (wpAny_newTuple ?_)
  show wpAny _ _ (Builtin.SmallTypes.ownedTupleHandOut (.ref z) (.ref h2.objs.size) >>= _) _ _ _
  refine wpAny_bind ?_
  unfold Builtin.SmallTypes.ownedTupleHandOut
  refine wpAny_bind (wpAny_setField_rec (SR.kpHd A1) (by simp) fun h₇ hz₇ hs₇ => ?_)
  replace hz₇ : h₇.get? z = some (zob (rawInt h2.objs.size) TI TO) := hz₇
  have A2 := SR.touch A1 (fun b o hb e => hs₇.extBut b o hb e) hz₇
  refine wpAny_setField_rec hz₇ (by simp) fun h₈ hz₈ hs₈ => ?_
  replace hz₈ : h₈.get? z = some (zob (rawInt h2.objs.size) TI TO) := hz₈
  have A3 := SR.touch A2 (fun b o hb e => hs₈.extBut b o hb e) hz₈
  refine wpAny_pure ⟨_, rfl, wpAny_pure ?_⟩
  exact hK h2.objs.size _ w1 w2 o1' o2' (E3.trans (Same.hp _ h₈)) hi1' hi2' A3
theorem zip2_done {C₂ : Cx} {A : Around} {E : Value → Shared → Prop} {s : Shared} {ad ad₀ : List Addr} {st : St} {kp : List (Addr × Obj)} {z TI TO i1 i2 : Addr} {a1 a2 : Value} {o1 o2 : Obj} {items1 : List V} {dep1 : St → Prop} {inv1 : Nat → Obj → Prop} {K : Option Value → Shared → Prop}
    (hh : A.handled = none) (d1 : Draw ad₀ i1 items1 dep1 inv1) (hi1 : inv1 items1.length o1) (hd1 : dep1 st) (px : ad₀ <+: ad)
    (hs : SR (C₂.kept ((z, zob .none TI TO) :: (TI, tob [.ref i1, .ref i2]) :: (TO, tob [a1, a2]) :: (i1, o1) :: (i2, o2) :: kp)) ad st s.heap)
    (hK : ∀ s', Same s s' → SR (C₂.kept kp) ad st s'.heap → K none s') :
    wpAny C₂.M A (pyNext (.ref z)) K E s := by
  have hz := hs.kpHd
  have hT : s.TypeIs (.ref z) "zip" := ⟨_, hz, rfl⟩
  have hTI : s.heap.get? TI = some (tob [.ref i1, .ref i2]) := SR.kpAt (p := (TI, _)) hs (.tail _ (.head _))
  unfold pyNext
  refine wpAny_bind (wpAny_attempt (wpAny_callSpecial?_slot (name := Str.ofString "__next__") hT F.slot_zip_next (wpAny_call_entry F.slot_zip_next hT F.entry_zip_next ?_ (F.args_zip_next_1 _))))
  show wpAny _ _ (field (.ref z) 2 >>= _) _ _ _
  refine wpAny_bind (wpAny_field hz rfl (x := .bool false) rfl ?_)
  show wpAny _ _ (field (.ref z) 3 >>= _) _ _ _
  refine wpAny_bind (wpAny_field hz rfl (x := .ref TI) rfl (wpAny_bind (wpAny_seqItems hTI rfl ?_)))
  show wpAny _ _ (Builtin.SmallTypes.ownedTupleIsFree (.ref z) >>= _) _ _ _
  refine wpAny_bind ?_
  unfold Builtin.SmallTypes.ownedTupleIsFree
  refine wpAny_bind (wpAny_field hz rfl (x := .none) rfl (wpAny_pure ?_))
  simp only [if_true]
  refine wpAny_bind (wpAny_rule (wpAny_bind (wpAny_field hz rfl (x := .ref TO) rfl ?_)))
  refine wpAny_bind (wpAny_setField_rec hz (by simp) fun h₁ hz₁ hs₁ => ?_)
  replace hz₁ : h₁.get? z = some (zob .ellipsis TI TO) := hz₁
  have S1 := SR.touch hs (fun b o hb e => hs₁.extBut b o hb e) hz₁
  refine wpAny_bind ?_
  simp only [List.zipIdx_cons, List.zipIdx_nil, List.forIn_cons, List.forIn_nil]
  have E1 : Same s { s with heap := h₁ } := Same.hp s h₁
  refine wpAny_bind (wpAny_bind (wpAny_onRaise ?_))
  show wpAny _ _ (Builtin.SmallTypes.nextOf (.ref i1) >>= _) _ _ _
  refine wpAny_bind (d1.stop C₂ A.in1 _ o1 _ st { s with heap := h₁ } ad hh hi1 hd1 px (SR.toHead (l := [(z, zob .ellipsis TI TO), (TI, tob [.ref i1, .ref i2]), (TO, tob [a1, a2])]) S1) _ fun e s1 e1 hs1 ho => ?_)
  obtain ⟨oe, ho1, ho2⟩ := ho
  have hz1 : s1.heap.get? z = some (zob .ellipsis TI TO) := SR.kpAt (p := (z, _)) hs1 (.head _)
  have hez : e ≠ z := fun x => by subst x; rw [hz1] at ho1; cases ho1; simp at ho2
  refine wpAny_setField_rec hz1 (by simp) fun h₃ hz₃ hs₃ => ?_
  have S3 := SR.gone hs1 (fun b o hb e => hs₃.extBut b o hb e)
  refine wpAny_bind (wpAny_isInstance (T := "StopIteration") (b := true) ⟨oe, hs₃.extBut _ _ hez ho1, ho2⟩ isSubtype_stop ?_)
  exact wpAny_pure (hK _ (E1.trans (e1.trans (Same.hp s1 h₃))) (SR.drop (ks := [(TI, tob [.ref i1, .ref i2]), (TO, tob [a1, a2]), (i2, o2)]) S3))
theorem zip3_next {C₂ : Cx} {A : Around} {E : Value → Shared → Prop} {s : Shared} {ad ad₀ : List Addr} {st : St} {kp : List (Addr × Obj)} {z TI TO i1 i2 i3 : Addr} {a1 a2 a3 : Value} {o1 o2 o3 : Obj} {items1 : List V} {dep1 : St → Prop} {inv1 : Nat → Obj → Prop} {items2 : List V} {dep2 : St → Prop} {inv2 : Nat → Obj → Prop} {items3 : List V} {dep3 : St → Prop} {inv3 : Nat → Obj → Prop} {i : Nat} {v1 v2 v3 : V} {K : Option Value → Shared → Prop}
    (d1 : Draw ad₀ i1 items1 dep1 inv1) (d2 : Draw ad₀ i2 items2 dep2 inv2) (d3 : Draw ad₀ i3 items3 dep3 inv3) (hv1 : items1[i]? = some v1) (hi1 : inv1 i o1) (hd1 : dep1 st) (hv2 : items2[i]? = some v2) (hi2 : inv2 i o2) (hd2 : dep2 st) (hv3 : items3[i]? = some v3) (hi3 : inv3 i o3) (hd3 : dep3 st) (px : ad₀ <+: ad)
    (hs : SR (C₂.kept ((z, zob .none TI TO) :: (TI, tob [.ref i1, .ref i2, .ref i3]) :: (TO, tob [a1, a2, a3]) :: (i1, o1) :: (i2, o2) :: (i3, o3) :: kp)) ad st s.heap)
    (hK : ∀ (T : Addr) s' w1 w2 w3 o1' o2' o3', Same s s' → inv1 (i + 1) o1' → inv2 (i + 1) o2' → inv3 (i + 1) o3' → SR (C₂.kept ((z, zob (rawInt T) TI TO) :: (TI, tob [.ref i1, .ref i2, .ref i3]) :: (TO, tob [w1, w2, w3]) :: (i1, o1') :: (i2, o2') :: (i3, o3') :: kp)) (ad ++ [T]) (st.add (.tuple [v1, v2, v3])) s'.heap → K (some (.ref T)) s') :
    wpAny C₂.M A (pyNext (.ref z)) K E s := by
  have hz := hs.kpHd
  have hT : s.TypeIs (.ref z) "zip" := ⟨_, hz, rfl⟩
  have hTI : s.heap.get? TI = some (tob [.ref i1, .ref i2, .ref i3]) := SR.kpAt (p := (TI, _)) hs (.tail _ (.head _))
  unfold pyNext
  refine wpAny_bind (wpAny_attempt (wpAny_callSpecial?_slot (name := Str.ofString "__next__") hT F.slot_zip_next (wpAny_call_entry F.slot_zip_next hT F.entry_zip_next ?_ (F.args_zip_next_1 _))))
  show wpAny _ _ (field (.ref z) 2 >>= _) _ _ _
  refine wpAny_bind (wpAny_field hz rfl (x := .bool false) rfl ?_)
  show wpAny _ _ (field (.ref z) 3 >>= _) _ _ _
  refine wpAny_bind (wpAny_field hz rfl (x := .ref TI) rfl (wpAny_bind (wpAny_seqItems hTI rfl ?_)))
  show wpAny _ _ (Builtin.SmallTypes.ownedTupleIsFree (.ref z) >>= _) _ _ _
  refine wpAny_bind ?_
  unfold Builtin.SmallTypes.ownedTupleIsFree
  refine wpAny_bind (wpAny_field hz rfl (x := .none) rfl (wpAny_pure ?_))
  simp only [if_true]
  refine wpAny_bind (wpAny_rule (wpAny_bind (wpAny_field hz rfl (x := .ref TO) rfl ?_)))
  refine wpAny_bind (wpAny_setField_rec hz (by simp) fun h₁ hz₁ hs₁ => ?_)
  replace hz₁ : h₁.get? z = some (zob .ellipsis TI TO) := hz₁
  have S1 := SR.touch hs (fun b o hb e => hs₁.extBut b o hb e) hz₁
  refine wpAny_bind ?_
  simp only [List.zipIdx_cons, List.zipIdx_nil, List.forIn_cons, List.forIn_nil]
  have E1 : Same s { s with heap := h₁ } := Same.hp s h₁

  refine wpAny_bind (wpAny_bind (wpAny_onRaise ?_))
  show wpAny _ _ (Builtin.SmallTypes.nextOf (.ref i1) >>= _) _ _ _
  refine wpAny_bind (d1.item C₂ _ _ i v1 o1 _ st { s with heap := h₁ } ad hv1 hi1 hd1 px (SR.toHead (l := [(z, zob .ellipsis TI TO), (TI, tob [.ref i1, .ref i2, .ref i3]), (TO, tob [a1, a2, a3])]) S1) _ fun w1 s1 o1' e1 hi1' hs1 r1 => wpAny_pure ?_)
  have T1 := SR.fromHead (l := [(z, zob .ellipsis TI TO), (TI, tob [.ref i1, .ref i2, .ref i3]), (TO, tob [a1, a2, a3])]) hs1
  have hTO1 : s1.heap.get? TO = some (tob [a1, a2, a3]) := SR.kpAt (p := (TO, _)) T1 (.tail _ (.tail _ (.head _)))
  refine wpAny_bind (wpAny_seqItems hTO1 rfl (wpAny_bind (updTob hTO1 fun h1 g1 q1 => ?_)))
  replace g1 : h1.get? TO = some (tob [w1, a2, a3]) := g1
  have S2 := SR.touchAt (l := [(z, zob .ellipsis TI TO), (TI, tob [.ref i1, .ref i2, .ref i3])]) T1 (fun b o hb e => q1.extBut b o hb e) g1
  have E2 : Same s { s1 with heap := h1 } := E1.trans (e1.trans (Same.hp s1 h1))
  refine wpAny_bind (wpAny_letGo (wpAny_pure ?_))

  refine wpAny_bind (wpAny_bind (wpAny_onRaise ?_))
  show wpAny _ _ (Builtin.SmallTypes.nextOf (.ref i2) >>= _) _ _ _
  refine wpAny_bind (d2.item C₂ _ _ i v2 o2 _ st { s1 with heap := h1 } ad hv2 hi2 hd2 px (SR.toHead (l := [(z, zob .ellipsis TI TO), (TI, tob [.ref i1, .ref i2, .ref i3]), (TO, tob [w1, a2, a3]), (i1, o1')]) S2) _ fun w2 s2 o2' e2 hi2' hs2 r2 => wpAny_pure ?_)
  have T2 := SR.fromHead (l := [(z, zob .ellipsis TI TO), (TI, tob [.ref i1, .ref i2, .ref i3]), (TO, tob [w1, a2, a3]), (i1, o1')]) hs2
  have hTO2 : s2.heap.get? TO = some (tob [w1, a2, a3]) := SR.kpAt (p := (TO, _)) T2 (.tail _ (.tail _ (.head _)))
  refine wpAny_bind (wpAny_seqItems hTO2 rfl (wpAny_bind (updTob hTO2 fun h2 g2 q2 => ?_)))
  replace g2 : h2.get? TO = some (tob [w1, w2, a3]) := g2
  have S3 := SR.touchAt (l := [(z, zob .ellipsis TI TO), (TI, tob [.ref i1, .ref i2, .ref i3])]) T2 (fun b o hb e => q2.extBut b o hb e) g2
  have E3 : Same s { s2 with heap := h2 } := E2.trans (e2.trans (Same.hp s2 h2))
  refine wpAny_bind (wpAny_letGo (wpAny_pure ?_))

  refine wpAny_bind (wpAny_bind (wpAny_onRaise ?_))
  show wpAny _ _ (Builtin.SmallTypes.nextOf (.ref i3) >>= _) _ _ _
  refine wpAny_bind (d3.item C₂ _ _ i v3 o3 _ st { s2 with heap := h2 } ad hv3 hi3 hd3 px (SR.toHead (l := [(z, zob .ellipsis TI TO), (TI, tob [.ref i1, .ref i2, .ref i3]), (TO, tob [w1, w2, a3]), (i1, o1'), (i2, o2')]) S3) _ fun w3 s3 o3' e3 hi3' hs3 r3 => wpAny_pure ?_)
  have T3 := SR.fromHead (l := [(z, zob .ellipsis TI TO), (TI, tob [.ref i1, .ref i2, .ref i3]), (TO, tob [w1, w2, a3]), (i1, o1'), (i2, o2')]) hs3
  have hTO3 : s3.heap.get? TO = some (tob [w1, w2, a3]) := SR.kpAt (p := (TO, _)) T3 (.tail _ (.tail _ (.head _)))
  refine wpAny_bind (wpAny_seqItems hTO3 rfl (wpAny_bind (updTob hTO3 fun h3 g3 q3 => ?_)))
  replace g3 : h3.get? TO = some (tob [w1, w2, w3]) := g3
  have S4 := SR.touchAt (l := [(z, zob .ellipsis TI TO), (TI, tob [.ref i1, .ref i2, .ref i3])]) T3 (fun b o hb e => q3.extBut b o hb e) g3
  have E4 : Same s { s3 with heap := h3 } := E3.trans (e3.trans (Same.hp s3 h3))
  refine wpAny_bind (wpAny_letGo (wpAny_pure (wpAny_pure ?_)))

  have hTOn := SR.kpAt (p := (TO, _)) S4 (.tail _ (.tail _ (.head _)))
  refine wpAny_bind (wpAny_seqItems hTOn rfl ?_)
  have A1 := S4.alloc (o := .tuple [v1, v2, v3]) (ob := tob [w1, w2, w3]) rfl (fun b => ⟨_, 0, rfl, .cons (r1.mono (List.prefix_append _ _)) (.cons (r2.mono (List.prefix_append _ _)) (.cons (r3.mono (List.prefix_append _ _)) (.nil)))⟩)
  refine wpAny_bind (wpAny_newTuple ?_)
  show wpAny _ _ (Builtin.SmallTypes.ownedTupleHandOut (.ref z) (.ref h3.objs.size) >>= _) _ _ _
  refine wpAny_bind ?_
  unfold Builtin.SmallTypes.ownedTupleHandOut
  refine wpAny_bind (wpAny_setField_rec (SR.kpHd A1) (by simp) fun h₇ hz₇ hs₇ => ?_)
  replace hz₇ : h₇.get? z = some (zob (rawInt h3.objs.size) TI TO) := hz₇
  have A2 := SR.touch A1 (fun b o hb e => hs₇.extBut b o hb e) hz₇
  refine wpAny_setField_rec hz₇ (by simp) fun h₈ hz₈ hs₈ => ?_
  replace hz₈ : h₈.get? z = some (zob (rawInt h3.objs.size) TI TO) := hz₈
  have A3 := SR.touch A2 (fun b o hb e => hs₈.extBut b o hb e) hz₈
  refine wpAny_pure ⟨_, rfl, wpAny_pure ?_⟩
  exact hK h3.objs.size _ w1 w2 w3 o1' o2' o3' (E4.trans (Same.hp _ h₈)) hi1' hi2' hi3' A3
theorem zip3_done {C₂ : Cx} {A : Around} {E : Value → Shared → Prop} {s : Shared} {ad ad₀ : List Addr} {st : St} {kp : List (Addr × Obj)} {z TI TO i1 i2 i3 : Addr} {a1 a2 a3 : Value} {o1 o2 o3 : Obj} {items1 : List V} {dep1 : St → Prop} {inv1 : Nat → Obj → Prop} {K : Option Value → Shared → Prop}
    (hh : A.handled = none) (d1 : Draw ad₀ i1 items1 dep1 inv1) (hi1 : inv1 items1.length o1) (hd1 : dep1 st) (px : ad₀ <+: ad)
    (hs : SR (C₂.kept ((z, zob .none TI TO) :: (TI, tob [.ref i1, .ref i2, .ref i3]) :: (TO, tob [a1, a2, a3]) :: (i1, o1) :: (i2, o2) :: (i3, o3) :: kp)) ad st s.heap)
    (hK : ∀ s', Same s s' → SR (C₂.kept kp) ad st s'.heap → K none s') :
    wpAny C₂.M A (pyNext (.ref z)) K E s := by
  have hz := hs.kpHd
  have hT : s.TypeIs (.ref z) "zip" := ⟨_, hz, rfl⟩
  have hTI : s.heap.get? TI = some (tob [.ref i1, .ref i2, .ref i3]) := SR.kpAt (p := (TI, _)) hs (.tail _ (.head _))
  unfold pyNext
  refine wpAny_bind (wpAny_attempt (wpAny_callSpecial?_slot (name := Str.ofString "__next__") hT F.slot_zip_next (wpAny_call_entry F.slot_zip_next hT F.entry_zip_next ?_ (F.args_zip_next_1 _))))
  show wpAny _ _ (field (.ref z) 2 >>= _) _ _ _
  refine wpAny_bind (wpAny_field hz rfl (x := .bool false) rfl ?_)
  show wpAny _ _ (field (.ref z) 3 >>= _) _ _ _
  refine wpAny_bind (wpAny_field hz rfl (x := .ref TI) rfl (wpAny_bind (wpAny_seqItems hTI rfl ?_)))
  show wpAny _ _ (Builtin.SmallTypes.ownedTupleIsFree (.ref z) >>= _) _ _ _
  refine wpAny_bind ?_
  unfold Builtin.SmallTypes.ownedTupleIsFree
  refine wpAny_bind (wpAny_field hz rfl (x := .none) rfl (wpAny_pure ?_))
  simp only [if_true]
  refine wpAny_bind (wpAny_rule (wpAny_bind (wpAny_field hz rfl (x := .ref TO) rfl ?_)))
  refine wpAny_bind (wpAny_setField_rec hz (by simp) fun h₁ hz₁ hs₁ => ?_)
  replace hz₁ : h₁.get? z = some (zob .ellipsis TI TO) := hz₁
  have S1 := SR.touch hs (fun b o hb e => hs₁.extBut b o hb e) hz₁
  refine wpAny_bind ?_
  simp only [List.zipIdx_cons, List.zipIdx_nil, List.forIn_cons, List.forIn_nil]
  have E1 : Same s { s with heap := h₁ } := Same.hp s h₁
  refine wpAny_bind (wpAny_bind (wpAny_onRaise ?_))
  show wpAny _ _ (Builtin.SmallTypes.nextOf (.ref i1) >>= _) _ _ _
  refine wpAny_bind (d1.stop C₂ A.in1 _ o1 _ st { s with heap := h₁ } ad hh hi1 hd1 px (SR.toHead (l := [(z, zob .ellipsis TI TO), (TI, tob [.ref i1, .ref i2, .ref i3]), (TO, tob [a1, a2, a3])]) S1) _ fun e s1 e1 hs1 ho => ?_)
  obtain ⟨oe, ho1, ho2⟩ := ho
  have hz1 : s1.heap.get? z = some (zob .ellipsis TI TO) := SR.kpAt (p := (z, _)) hs1 (.head _)
  have hez : e ≠ z := fun x => by subst x; rw [hz1] at ho1; cases ho1; simp at ho2
  refine wpAny_setField_rec hz1 (by simp) fun h₃ hz₃ hs₃ => ?_
  have S3 := SR.gone hs1 (fun b o hb e => hs₃.extBut b o hb e)
  refine wpAny_bind (wpAny_isInstance (T := "StopIteration") (b := true) ⟨oe, hs₃.extBut _ _ hez ho1, ho2⟩ isSubtype_stop ?_)
  exact wpAny_pure (hK _ (E1.trans (e1.trans (Same.hp s1 h₃))) (SR.drop (ks := [(TI, tob [.ref i1, .ref i2, .ref i3]), (TO, tob [a1, a2, a3]), (i2, o2), (i3, o3)]) S3))
end Mine
namespace Mine
/-- a value that makes an iterator object o -/
def Makes (prog : Program) (w : World) (h : Heap) (v : Value) (o : Obj) : Prop := ∀ (A : Around) (E : Value → Shared → Prop) (s' : Shared) (K : Value → Shared → Prop), (∀ b o, h.get? b = some o → s'.heap.get? b = some o) → K (.ref s'.heap.objs.size) { s' with heap := s'.heap.push o } → wpAny (model prog w) A (pyIter v) K E s'
abbrev zh2 (h : Heap) (o1 o2 : Obj) : Heap := (h.push o1).push o2
theorem meets_zip2 {prog : Program} {w : World} {w1 w2 : Value} {o1 o2 : Obj} : MeetsIn prog w (Builtin.«zip.__new__» ⟨[.type "zip", w1, w2], []⟩) (fun _ R s => Makes prog w s.heap w1 o1 ∧ Makes prog w s.heap w2 o2 ∧
      R (.ok (.ret (.ref ((((s.heap.push o1).push o2).push (tob [.ref s.heap.objs.size, .ref (s.heap.push o1).objs.size])).push (tob [.none, .none])).objs.size))) { s with heap := ((((s.heap.push o1).push o2).push (tob [.ref s.heap.objs.size, .ref (s.heap.push o1).objs.size])).push (tob [.none, .none])).push (zob .none ((s.heap.push o1).push o2).objs.size (((s.heap.push o1).push o2).push (tob [.ref s.heap.objs.size, .ref (s.heap.push o1).objs.size])).objs.size) }) :=
  .of_wp fun A R s h => by
    obtain ⟨hp, g, d, tk, os⟩ := s
    obtain ⟨hl1, hl2, h⟩ := h
    have hsub := sub_zip
    have hL1 : ∀ {E : Value → Shared → Prop} {K : Value → Shared → Prop}, K (.ref hp.objs.size) ⟨hp.push o1, g, d, tk, os⟩ → wpAny (model prog w) A.in1 (pyIter w1) K E ⟨hp, g, d, tk, os⟩ := fun q => hl1 _ _ _ _ (fun _ _ e => e) q
    have hL2 : ∀ {E : Value → Shared → Prop} {K : Value → Shared → Prop}, K (.ref (hp.push o1).objs.size) ⟨(hp.push o1).push o2, g, d, tk, os⟩ → wpAny (model prog w) A.in1 (pyIter w2) K E ⟨hp.push o1, g, d, tk, os⟩ := fun q => hl2 _ _ _ _ (fun _ _ e => Heap.get?_push_of_some _ e) q
    wp_walk using hL1, hL2
    exact ⟨_, rfl, h⟩
/-- an iterator that makes tuples: a new one each time -/
structure TIter (C : Cx) (ad₀ : List Addr) (I : Addr) (items : List (List V)) (dep : St → Prop) (inv : Nat → List (Addr × Obj) → Prop) (mid : Nat → Addr → List (Addr × Obj) → Prop) : Prop where
  next : ∀ (C₂ : Cx), Like C C₂ → ∀ i vs ks kp st s ad, items[i]? = some vs → inv i ks → dep st → ad₀ <+: ad → SR (C₂.kept (ks ++ kp)) ad st s.heap → ∀ K : Option Value → Shared → Prop,
    (∀ (T : Addr) s' ks', Same s s' → mid (i + 1) T ks' → SR (C₂.kept (ks' ++ kp)) (ad ++ [T]) (st.add (.tuple vs)) s'.heap → K (some (.ref T)) s') → wpAny C₂.M C₂.A (pyNext (.ref I)) K No s
  own : ∀ (C₂ : Cx) i (T : Addr) ks kp st s ad es n tp, mid i T ks → SR (C₂.kept (ks ++ kp)) ad st s.heap → ∀ K : Unit → Shared → Prop,
    (∀ s' ks', Same s s' → inv i ks' → SR (C₂.kept (ks' ++ kp)) ad st s'.heap → K () s') → wpAny C₂.M C₂.A (letOwnedTupleGo (.Tuple es n tp) (.ref I) (.ref T)) K No s
  done : ∀ (C₂ : Cx), Like C C₂ → ∀ ks kp st s ad, inv items.length ks → dep st → ad₀ <+: ad → SR (C₂.kept (ks ++ kp)) ad st s.heap → ∀ K : Option Value → Shared → Prop,
    (∀ s', Same s s' → SR (C₂.kept kp) ad st s'.heap → K none s') → wpAny C₂.M C₂.A (pyNext (.ref I)) K No s
  self : ∀ (C₂ : Cx), ∀ i ks kp st s ad, inv i ks → SR (C₂.kept (ks ++ kp)) ad st s.heap → ∀ K : Value → Shared → Prop, K (.ref I) s → wpAny C₂.M C₂.A (pyIter (.ref I)) K No s
/-- an expression that makes such an iterator -/
structure ZV (C : Cx) (e : Expr) (st : St) (Q : St → List (List V) → (St → Prop) → Prop) : Prop where
  go : ∀ s ad, SR C ad st s.heap → ∀ K : Value → Shared → Prop, (∀ st1 items dep I inv mid ks s' ad', Q st1 items dep → TIter C ad' I items dep inv mid → inv 0 ks → Same s s' → ad <+: ad' → SR (C.kept (ks ++ C.kp)) ad' st1 s'.heap → K (.ref I) s') → wpAny C.M C.A (eval e C.env) K No s
section
variable {C : Cx} {sc : Scope} {lv : Nat} {st : St} {pos px : Pos} {ad : List Addr}
theorem zw2 {l1 l2 : List V} {i : Nat} {vs : List V} (h : (List.zipWith (fun a b => [a, b]) l1 l2)[i]? = some vs) : ∃ v1 v2, vs = [v1, v2] ∧ l1[i]? = some v1 ∧ l2[i]? = some v2 := by
  rw [List.getElem?_zipWith] at h
  cases h1 : l1[i]? with
  | none => rw [h1] at h; cases h
  | some a =>
    cases h2 : l2[i]? with
    | none => rw [h1, h2] at h; cases h
    | some b => rw [h1, h2] at h; cases h; exact ⟨a, b, rfl, rfl, rfl⟩
theorem call_zip2 {v1 v2 : V} {w1 w2 : Value} {l1 l2 : List V} {dep1 dep2 : St → Prop} {s : Shared} {K : Value → Shared → Prop} (hh : C.A.handled = none) (hs : SR C ad st s.heap) (r1 : VR ad v1 w1) (r2 : VR ad v2 w2) (h1 : SrcOf C v1 st l1 dep1) (h2 : SrcOf C v2 st l2 dep2) (hl : l1.length = l2.length)
    (hK : ∀ I inv mid ks s', TIter C ad I (List.zipWith (fun a b => [a, b]) l1 l2) (fun st' => dep1 st' ∧ dep2 st') inv mid → inv 0 ks → Same s s' → SR (C.kept (ks ++ C.kp)) ad st s'.heap → K (.ref I) s') : wpAny C.M C.A (call (.type "zip") [w1, w2]) K No s := by
  obtain ⟨inv1, o1, f1, n1, d1, p1⟩ := h1 s ad w1 hs r1
  obtain ⟨inv2, o2, f2, n2, d2, p2⟩ := h2 s ad w2 hs r2
  refine callType_newIn F.called_zip (by decide) (F.typeCall_zip_2 _ _) (F.newCall_zip_2 _ _) (fun obj => F.args_object_init_3 obj _ _) F.entry_zip_new meets_zip2 ⟨p1, p2, ?_⟩
  have S1 := hs.keep o1 f1
  have S2 := SR.keep (C := C.kept _) S1 o2 f2
  have S3 := SR.keep (C := C.kept _) S2 (tob [.ref s.heap.objs.size, .ref (s.heap.push o1).objs.size])
  have S4 := SR.keep (C := C.kept _) S3 (tob [.none, .none])
  have S5 := SR.keep (C := C.kept _) S4 (zob .none ((s.heap.push o1).push o2).objs.size (((s.heap.push o1).push o2).push (tob [.ref s.heap.objs.size, .ref (s.heap.push o1).objs.size])).objs.size)
  have S6 := SR.perm S5 (.cons _ ((List.Perm.swap _ _ _).trans (.cons _ (.cons _ (List.Perm.swap _ _ _)))))
  refine ⟨⟨_, SR.kpHd S6, rfl⟩, ?_⟩
  generalize hz : (((s.heap.push o1).push o2).push (tob [.ref s.heap.objs.size, .ref (s.heap.push o1).objs.size])).objs.size = TO at S6 ⊢
  generalize hTI : ((s.heap.push o1).push o2).objs.size = TI at S6 ⊢
  generalize (s.heap.push o1).objs.size = i2 at S6 ⊢
  generalize s.heap.objs.size = i1 at S6 ⊢
  generalize ((((s.heap.push o1).push o2).push (tob [.ref i1, .ref i2])).push (tob [.none, .none])).objs.size = z at S6 ⊢
  refine hK z (fun i ks => ∃ a1 a2 o1 o2, ks = [(z, zob .none TI TO), (TI, tob [.ref i1, .ref i2]), (TO, tob [a1, a2]), (i1, o1), (i2, o2)] ∧ inv1 i o1 ∧ inv2 i o2)
    (fun i T ks => ∃ a1 a2 o1 o2, ks = [(z, zob (rawInt T) TI TO), (TI, tob [.ref i1, .ref i2]), (TO, tob [a1, a2]), (i1, o1), (i2, o2)] ∧ inv1 i o1 ∧ inv2 i o2) _ _ ⟨?_, ?_, ?_, ?_⟩ ⟨_, _, _, _, rfl, n1, n2⟩ (Same.hp s _) S6
  · rintro C₂ ⟨_, _, hA⟩ i vs ks kp st' s' ad' hv ⟨a1, a2, q1, q2, rfl, j1, j2⟩ ⟨t1, t2⟩ px hs' K' hK'
    obtain ⟨v1, v2, rfl, e1, e2⟩ := zw2 hv
    exact zip2_next (d1 i1) (d2 i2) e1 j1 t1 e2 j2 t2 px hs' fun T s2 u1 u2 q1' q2' es m1 m2 hs2 => hK' T s2 _ es ⟨u1, u2, q1', q2', rfl, m1, m2⟩ hs2
  · rintro C₂ i T ks kp st' s' ad' es n tp ⟨a1, a2, q1, q2, rfl, j1, j2⟩ hs' K' hK'
    refine wpAny_letOwnedTupleGo_zip (SR.kpHd hs') fun h' hz' hsb => hK' _ _ (Same.hp s' h') ⟨a1, a2, q1, q2, rfl, j1, j2⟩ (SR.touch hs' (fun b o hb e => hsb.extBut b o hb e) hz')
  · rintro C₂ ⟨_, _, hA⟩ ks kp st' s' ad' ⟨a1, a2, q1, q2, rfl, j1, j2⟩ ⟨t1, t2⟩ px hs' K' hK'
    refine zip2_done (by rw [hA]; exact hh) (d1 i1) ?_ t1 px hs' hK'
    rw [List.length_zipWith, ← hl, Nat.min_self] at j1
    exact j1
  · rintro C₂ i ks kp st' s' ad' ⟨a1, a2, q1, q2, rfl, j1, j2⟩ hs' K' hK'
    exact wpAny_pyIter_zip (SR.kpHd hs') hK'
end
end Mine
namespace Mine
section
variable {C : Cx} {sc : Scope} {lv : Nat} {st : St} {pos px : Pos} {ad : List Addr}
theorem zv_zip2 {e1 e2 : Expr} {Q : St → List (List V) → (St → Prop) → Prop} (G : Gd C sc lv) (hh : C.A.handled = none) (hz : Blt C "zip" (.type "zip"))
    (h : AV C pos [e1, e2] st (fun vs st1 => ∃ v1 v2 l1 l2 dep1 dep2, vs = [v1, v2] ∧ SrcOf C v1 st1 l1 dep1 ∧ SrcOf C v2 st1 l2 dep2 ∧ l1.length = l2.length ∧ Q st1 (List.zipWith (fun a b => [a, b]) l1 l2) (fun st' => dep1 st' ∧ dep2 st')))
    (hl : sc.names.lookup (Str.ofString "zip") = some .globalImplicit := by rfl)
    (hst : starEach [e1, e2] C.env = (false, eval e1 C.env) :: starEach [e2] C.env := by rfl) (hp : (starEach [e1, e2] C.env).any (·.1) = false := by rfl) : ZV C (.Call (.Name "zip" px) [e1, e2] [] pos) st Q := .mk fun s ad hs K hK => by
  refine wpAny_Call_Name_kw (((ev_builtin (pos := px) (Q := fun f st1 => f = .fix (.type "zip") ∧ st1 = st) G hz ⟨rfl, rfl⟩ hl).go s ad hs).run _ fun f st1 s1 ad1 w q1 e1' p1 hs1 r1 => ?_)
  obtain ⟨rfl, rfl⟩ := q1
  cases r1
  refine PyProof.Rows.callWith_type (plain_backTo hp) ?_
  have := h.go s1 ad1 hs1
  revert this
  show At C ad1 s1 VRs (spliced (backTo pos (starEach [e1, e2] C.env))) _ → _
  rw [hst]
  intro q1
  refine evalArgs_plain (q1.run _ fun vs st2 s2 ad2 ws q2 e2' p2 hs2 r2 => ?_)
  obtain ⟨v1, v2, l1, l2, dep1, dep2, rfl, h1, h2, hl1, hq⟩ := q2
  match ws, r2 with
  | [w1, w2], .cons r1 (.cons r2 .nil) =>
    exact call_zip2 hh hs2 r1 r2 h1 h2 hl1 fun I inv mid ks s' ti hi es hs' => hK _ _ _ I inv mid ks s' ad2 hq ti hi (e1'.trans (e2'.trans es)) (p1.trans p2) hs'
/-- a loop over tuples -/
theorem xv_forZ {es : List Expr} {n : Nat} {tp : Pos} {iter : Expr} {body : List Stmt} {Q : F → St → Prop}
    (h : ZV C iter st (fun st1 items dep => ∃ (I : Nat → St → Prop), (∃ l₀, Sub l₀ st1.m ∧ I 0 ⟨l₀, st1.os⟩) ∧ (∀ i st', I i st' → dep st') ∧
      (∀ i vs st' kp, items[i]? = some vs → I i st' → AS (C.kept kp) (.Tuple es n tp) (.ref st'.os.length) (st'.add (.tuple vs)) (fun st2 => SV (C.kept kp) body st2 (ForT C st1.os.length (I (i + 1)) Q))) ∧ (∀ st', I items.length st' → Q .next st')))
    (hs : ∀ x, foldedSetIterable iter C.env x = pure x := by intro _; rfl) : XV C (.For (.Tuple es n tp) iter body [] pos) st Q := .mk fun s ad hs₀ => At.mk fun K hK => by
  refine wpAny_For (h.go s ad hs₀ _ fun st1 items dep It inv mid ks s2 ad1 q1 ti hinv e2 p1 hs2 => ?_) hs
  obtain ⟨I, ⟨l₀, hsub, hI0⟩, hdep, turn, done⟩ := q1
  refine ti.self C 0 ks C.kp st1 s2 ad1 hinv hs2 _ ?_
  have hlen : ad1.length = st1.os.length := SR.len hs2
  refine codeAny_forLoop_any (fun n s' => ∃ i st' ad' ks', n + i = items.length + 1 ∧ i ≤ items.length ∧ I i st' ∧ inv i ks' ∧ Same s s' ∧ ad1 <+: ad' ∧ SR (C.kept (ks' ++ C.kp)) ad' st' s'.heap) ?_ (items.length + 1) ⟨0, _, ad1, ks, rfl, Nat.zero_le _, hI0, hinv, e2, List.prefix_refl _, hs2.weak hsub⟩
  rintro n s' ⟨i, st', ad', ks', hni, hile, hI, hinv', e', p', hs'⟩
  by_cases hi : i < items.length
  · refine wpNo (ti.next C ⟨rfl, rfl, rfl⟩ i items[i] ks' C.kp st' s' ad' (by simp [hi]) hinv' (hdep _ _ hI) p' hs' _ fun T s3 ks3 e3 hmid hs3 => ?_)
    refine wpNo (ti.own C (i + 1) T ks3 C.kp _ s3 _ _ _ _ hmid hs3 _ fun s3' ks3' e3' hinv3 hs3' => ?_)
    have hr : VR (ad' ++ [T]) (.ref st'.os.length) (.ref T) := ref_new _ _ _ (SR.len hs')
    refine wpNo (((turn i _ st' (ks3' ++ C.kp) (by simp [hi]) hI).go s3' _ _ hs3' hr).run _ fun _ st4 s4 ad4 _ q4 e4 p4 hs4 _ => ?_)
    refine wpNo ((q4.go s4 ad4 hs4).run _ fun f st5 s5 ad5 f' q5 e5 p5 hs5 r5 => ?_)
    have p4' : ad' <+: ad4 := (List.prefix_append _ _).trans p4
    have e35 : Same s s5 := e'.trans (e3.trans (e3'.trans (e4.trans e5)))
    have more : (∃ st', Wk C st5 st' ∧ st1.os.length ≤ st'.os.length ∧ I (i + 1) st') → ∃ m, m < n ∧ ∃ i st' ad' ks', m + i = items.length + 1 ∧ i ≤ items.length ∧ I i st' ∧ inv i ks' ∧ Same s s5 ∧ ad1 <+: ad' ∧ SR (C.kept (ks' ++ C.kp)) ad' st' s5.heap := by
      rintro ⟨st6, wk, hl, hI6⟩
      have wk' : Wk (C.kept (ks3' ++ C.kp)) st5 st6 := ⟨wk.1, wk.2.imp id fun k => ⟨k.os, k.lb, k.ob, k.cb⟩⟩
      obtain ⟨ad6, hs6, px⟩ := hs5.wk wk'
      exact ⟨n - 1, by omega, i + 1, st6, ad6, ks3', by omega, by omega, hI6, hinv3, e35, px _ (p'.trans (p4'.trans p5)) (by rw [hlen]; exact hl), hs6⟩
    cases f with
    | next => cases r5; exact more q5
    | cont => cases r5; exact more q5
    | brk => cases r5; exact hK .next st5 s5 ad5 .next q5 e35 (p1.trans (p'.trans (p4'.trans p5))) hs5.drop rfl
    | ret v =>
      obtain ⟨w, rfl, hw⟩ := r5
      exact hK (.ret v) st5 s5 ad5 _ q5 e35 (p1.trans (p'.trans (p4'.trans p5))) hs5.drop ⟨w, rfl, hw⟩
  · obtain rfl : i = items.length := by omega
    · refine wpNo (ti.done C ⟨rfl, rfl, rfl⟩ ks' C.kp st' s' ad' hinv' (hdep _ _ hI) p' hs' _ fun s3 e3 hs3 => ?_)
      exact wpAny_execs_nil (hK .next st' s3 ad' .next (done st' hI) (e'.trans e3) (p1.trans p') hs3 rfl)
end
end Mine
namespace Mine
section
variable {C : Cx} {sc : Scope} {lv : Nat} {st : St} {pos px : Pos} {ad : List Addr}
/-- a list comprehension over tuples -/
theorem ev_compZ {elt iter : Expr} {es : List Expr} {tn : Nat} {tp : Pos} {scope : Scope} {clc fr : List (Str × Nat)} {Q : V → St → Prop} (G : Gd C sc lv) (hclc : C.cl = clc)
    (h : ZV C iter st (fun st1 items dep => ∃ (I : Nat → List V → List O → Prop), items.length ≤ 1000000 ∧ I 0 [] st1.os ∧ (∀ i acc os, I i acc os → dep ⟨[], os⟩) ∧
      (∀ C' i vs acc os, CompCx C C' (relabel scope (scEnv sc)) fr lv → items[i]? = some vs → I i acc os → AS C' (.Tuple es tn tp) (.ref os.length) ⟨[], os ++ [.tuple vs]⟩ (fun st2 => EV C' elt st2 (fun y st4 => I (i + 1) (acc ++ [y]) st4.os))) ∧
      (∀ acc os, I items.length acc os → Q (.ref os.length) ⟨st1.m, os ++ [.list acc]⟩)))
    (hcell : ∀ x ∈ scope.names, x.2 ≠ .cell := by decide) (hkind : scope.kind = .function := by rfl) (hnames : ∀ x ∈ scope.names, x.2 = .local → scope.names.lookup x.1 = some .local := by decide)
    (hfree : ∀ x ∈ scope.names, x.2 = .free → (clc.lookup x.1).isSome = true := by decide) (hfr : ∀ p ∈ fr, (p.1, NameKind.free) ∈ scope.names ∧ clc.lookup p.1 = some p.2 := by decide)
    (hfs : ∀ x, foldedSetIterable iter C.env x = pure x := by intro _; rfl) : EV C (.ListComp elt [⟨.Tuple es tn tp, iter, [], 0⟩] scope pos) st Q := .mk fun s ad hs₀ => At.mk fun K hK => by
  rw [eval_ListComp]
  have hclos := closureFor_eq (scope := scope) (env := C.env) (fun x => (C.env.cells.lookup x).getD 0) fun x hx hf => by
    obtain ⟨k, hk⟩ := Option.isSome_iff_exists.mp (hfree x hx hf)
    obtain ⟨c, hc, _⟩ := hs₀.cells x.1 k (by rw [hclc]; exact hk)
    rw [hc]; rfl
  refine wpAny_comprehension_free (use := none) rfl hfs hclos hkind hnames ?_
  refine h.go s ad hs₀ _ fun st1 items dep It inv mid ks s2 ad1 q1 ti hinv e2 p1 hs2 => ?_
  obtain ⟨I, hlen, hI0, hdep, turn, done⟩ := q1
  refine ti.self C 0 ks C.kp st1 s2 ad1 hinv hs2 _ ?_
  refine wpAny_newObj_type ?_
  have hs3 := SR.keep hs2 { cls := .type "list", dict := none, data := .seq ([] : List Value).toArray }
  have hDg : (s2.heap.push { cls := .type "list", dict := none, data := .seq ([] : List Value).toArray }).get? s2.heap.objs.size = some (listOf ([] : List Value).toArray 0) := Heap.get?_push_size _ rfl
  refine wpAny_newFunctionEnv hcell (by intro y hy; simp at hy) (fun h₁ hns₁ hsb₁ => ?_) hkind
  dsimp only at hns₁ hsb₁ hs3 hDg ⊢
  have hcells1 : ∀ x k, C.cl.lookup x = some k → ∃ c, C.env.cells.lookup x = some c ∧ ad1[k]? = some c := hs2.cells
  generalize hD : s2.heap.objs.size = D at *
  generalize hH3 : s2.heap.push { cls := .type "list", dict := none, data := .seq ([] : List Value).toArray } = H3 at *
  have hLlt : C.env.locals < H3.objs.size := by
    obtain ⟨⟨gg, hgg, m, news, F, _⟩, _⟩ := hs3
    exact F.ns.lt
  have old : ∀ b o, H3.get? b = some o → h₁.get? b = some o := fun b o e => hsb₁.extBut b o (Nat.ne_of_lt (Heap.lt_size e)) (Heap.get?_push_of_some _ e)
  generalize hcl : ((scope.names.filter (·.2 == .free)).map fun x => (x.1, (C.env.cells.lookup x.1).getD 0)).reverse = cl at *
  have hfrk : ∀ x k, fr.lookup x = some k → ∃ c, cl.lookup x = some c ∧ ad1[k]? = some c := fun x k e => by
    have hm := lookup_mem e
    obtain ⟨hn, hk⟩ := hfr _ hm
    obtain ⟨c, hc, hcc⟩ := hcells1 x k (by rw [hclc]; exact hk)
    refine ⟨c, ?_, hcc⟩
    have := lookup_fun (f := fun x => (C.env.cells.lookup x).getD 0) (x := x) (l := ((scope.names.filter (·.2 == .free)).map (·.1)).reverse) (by
      rw [List.mem_reverse]
      exact List.mem_map.mpr ⟨(x, .free), List.mem_filter.mpr ⟨hn, rfl⟩, rfl⟩)
    rw [← hcl, ← show ((C.env.cells.lookup x).getD 0) = c by rw [hc]; rfl, ← this]
    congr 1
    rw [List.map_reverse, List.map_map]
    rfl
  obtain ⟨g, stay, dom, fsk, hsC, back⟩ := SR.into (s := { s2 with heap := H3 }) hs3 (G.kept _) (compEnvC scope cl H3.objs.size C.env) fr rfl hns₁ old hfrk
  have hCC : ∀ kp, CompCx C { C with env := compEnvC scope cl H3.objs.size C.env, h₀ := g, cl := fr, of := C.env.locals :: C.of, kp := kp } (relabel scope (scEnv sc)) fr lv := fun kp =>
    ⟨⟨by show relabel scope C.env = _; exact relabel_scope G.scope, hkind, G.glob, G.blt, G.top, stay, G.depth, G.units, fun h => by obtain ⟨fs, B, hfs⟩ := fsk h; exact ⟨C.A, fs, B, hfs, .inr rfl⟩⟩, rfl, rfl, rfl, rfl⟩
  show codeAny C.M C.A (.compStart (.ListComp elt [⟨.Tuple es tn tp, iter, [], 0⟩] scope pos) 0 (.ref It) (.ref D) (compEnvC scope cl H3.objs.size C.env)) _ _
  have loop : codeAny C.M C.A (.compLoop (.ListComp elt [⟨.Tuple es tn tp, iter, [], 0⟩] scope pos) 0 (.ref It) (.ref D) (compEnvC scope cl H3.objs.size C.env)) (compPost C.M C.A No none K (.ref D) H3.objs.size) { s2 with heap := h₁, toks := s2.toks + ([] : List (Str × Value)).length } := by
    refine LCp.codeAny_compLoop_pair (fun n s' => ∃ i acc ws m os ad' ks', n + i = items.length + 1 ∧ i ≤ items.length ∧ acc.length ≤ i ∧ I i acc os ∧ inv i ks' ∧ Same s s' ∧ ad1 <+: ad' ∧ VRs ad' acc ws ∧
      SR { C with env := compEnvC scope cl H3.objs.size C.env, h₀ := g, cl := fr, of := C.env.locals :: C.of, kp := ks' ++ ((D, listOf ws.toArray m) :: C.kp) } ad' ⟨[], os⟩ s'.heap) ?_ (items.length + 1) ⟨0, [], [], 0, st1.os, ad1, ks, rfl, Nat.zero_le _, Nat.le_refl _, hI0, hinv, ?_, List.prefix_refl _, .nil, ?_⟩
    · rintro n s' ⟨i, acc, ws, m, os, ad', ks', hni, hile, hal, hI, hinv', e', p', hv, hs'⟩
      by_cases hi : i < items.length
      · refine wpNo (ti.next { C with env := compEnvC scope cl H3.objs.size C.env, h₀ := g, cl := fr, of := C.env.locals :: C.of } ⟨rfl, rfl, rfl⟩ i items[i] ks' _ _ s' ad' (by simp [hi]) hinv' (hdep _ _ _ hI) p' hs' _ fun T s3 ks3 e3 hmid hs3 => ?_)
        refine wpNo (ti.own { C with env := compEnvC scope cl H3.objs.size C.env, h₀ := g, cl := fr, of := C.env.locals :: C.of } (i + 1) T ks3 _ _ s3 _ _ _ _ hmid hs3 _ fun s3' ks3' e3' hinv3 hs3' => ?_)
        have hr : VR (ad' ++ [T]) (.ref os.length) (.ref T) := ref_new _ _ _ (SR.len hs')
        refine wpNo (((turn _ i _ acc os (hCC _) (by simp [hi]) hI).go s3' _ _ hs3' hr).run _ fun _ st4 s4 ad4 _ q4 e4 p4 hs4 _ => ?_)
        refine wpNo ((q4.go s4 ad4 hs4).run _ fun y st6 s6 ad6 yv q6 e6 p6 hs6 r6 => ?_)
        have p4' : ad' <+: ad4 := (List.prefix_append _ _).trans p4
        have hDg6 := hs6.kpAt (p := (D, listOf ws.toArray m)) (List.mem_append_right _ (.head _))
        refine wpAny_list_append_plain ⟨m, hDg6⟩ (fun h' hp hsb => ?_) (by rw [List.size_toArray, hv.length, sizeLine_eq]; omega)
        obtain ⟨m', hg'⟩ := hp
        have hs7 := SR.touch (C := { C with env := compEnvC scope cl H3.objs.size C.env, h₀ := g, cl := fr, of := C.env.locals :: C.of }) (SR.perm (C := { C with env := compEnvC scope cl H3.objs.size C.env, h₀ := g, cl := fr, of := C.env.locals :: C.of }) (hs6.weak Sub.nil) List.perm_middle) (fun b o hb e => hsb.extBut b o hb e) hg'
        exact ⟨n - 1, by omega, i + 1, acc ++ [y], ws ++ [yv], m', st6.os, ad6, ks3', by omega, by omega, by rw [List.length_append]; simp; omega, q6, hinv3, e'.trans (e3.trans (e3'.trans (e4.trans (e6.trans (Same.hp s6 h'))))), p'.trans (p4'.trans p6), (hv.mono (p4'.trans p6)).append (.cons r6 .nil), by
          have := SR.perm (C := { C with env := compEnvC scope cl H3.objs.size C.env, h₀ := g, cl := fr, of := C.env.locals :: C.of }) hs7 List.perm_middle.symm
          simpa using this⟩
      · obtain rfl : i = items.length := by omega
        refine wpNo (ti.done { C with env := compEnvC scope cl H3.objs.size C.env, h₀ := g, cl := fr, of := C.env.locals :: C.of } ⟨rfl, rfl, rfl⟩ ks' _ _ s' ad' hinv' (hdep _ _ _ hI) p' hs' _ fun s3 e3 hs3 => ?_)
        have hb := back _ _ _ _ p' hs3
        obtain ⟨⟨gg, hgg, mm, news, F, N, c, d, o, r⟩, hc⟩ := id hs3
        refine ⟨mm, F.ns, fun h' hsb => ?_⟩
        have hb' := SR.other (b := H3.objs.size) hb (fun q hq => ⟨?_, Nat.ne_of_gt hLlt, ?_⟩) hsb
        · have := SR.adopt hb' (o := .list acc) ⟨ws, m, rfl, hv.mono (List.prefix_append _ _)⟩
          exact hK _ _ _ _ _ (done acc os hI) (e'.trans (e3.trans (Same.hp s3 h'))) ((p1.trans p').trans (List.prefix_append _ _)) this (ref_new _ _ _ hb.len)
        · cases q0 : C.h₀.get? H3.objs.size with
          | none => rfl
          | some ob =>
            cases q1 : g.get? H3.objs.size with
            | none => have := dom _ q1; rw [q0] at this; cases this
            | some ob' => exact absurd (Heap.lt_size q1) (Nat.not_lt.mpr (by rw [← hgg.size]; exact F.above))
        · intro hm
          have hm' : H3.objs.size ∈ (news ++ (D, listOf ws.toArray m) :: C.kp).map (·.1) := by rw [List.map_append, c]; exact hm
          obtain ⟨p, hp, e⟩ := List.mem_map.mp hm'
          exact (N p hp).2.1 e
    · exact e2.trans (Same.mk' s2 _ _)
    · exact SR.perm (C := { C with env := compEnvC scope cl H3.objs.size C.env, h₀ := g, cl := fr, of := C.env.locals :: C.of }) hsC List.perm_middle.symm
  exact codeAny_compStart_list loop (wpNo (ti.self _ 0 ks _ _ { s2 with heap := h₁, toks := s2.toks + ([] : List (Str × Value)).length } ad1 hinv (SR.perm (C := { C with env := compEnvC scope cl H3.objs.size C.env, h₀ := g, cl := fr, of := C.env.locals :: C.of }) hsC List.perm_middle.symm) _ loop))
end
end Mine
namespace Mine
section
variable {prog : Program} {w : World} {A : Around} {E : Value → Shared → Prop} {s : Shared}
theorem hint_bytes {b : Array UInt8} {t : Tok} {Q : Bool → Shared → Prop} (h : Q false s) : wpAny (model prog w) A (Builtin.List.listLengthHint (.bytes b t)) Q E s := by
  unfold Builtin.List.listLengthHint
  refine wpAny_bind (wpAny_specialOf (typeIs_bytes s b t) FB.slot_bytes_len.lookup ?_)
  generalize hid : ("bytes.__len__" : String) = id0
  wp_delta
  rw [show splitId id0 = some ("bytes", "__len__") from by subst hid; decide +kernel]
  subst hid
  refine wpAny_bind (wpAny_isInstance (T := "bytes") (b := true) (typeIs_bytes s b t) F.bm_sub ?_)
  refine wpAny_ite_split (fun hab => absurd hab (by decide)) (fun _ => ?_)
  refine wpAny_ite_split (fun _ => ?_) (fun hab => absurd (by decide +kernel) hab)
  refine wpAny_bind (wpAny_typeOf (typeIs_bytes s b t) ?_)
  exact wpAny_pure h
theorem call_list_bytes {b : Array UInt8} {t : Tok} {Q : Value → Shared → Prop} (hh : A.handled = none) (hn : b.size ≤ 1000000)
    (hQ : ∀ h' tk acc' c', (∀ a o, s.heap.get? a = some o → h'.get? a = some o) → h'.get? s.heap.objs.size = some { cls := .type "list", dict := none, data := .seq acc' c', slots := #[] } →
      ItemsOf (fun i v => ∃ c u, b[i]? = some c ∧ v = .int (c.toNat : Int) u) acc' b.size → Q (.ref s.heap.objs.size) { s with heap := h', toks := tk }) :
    wpAny (model prog w) A (call (.type "list") [.bytes b t]) Q E s := by
  refine callType_codes (Q₁ := fun obj s₁ => obj = .ref s.heap.objs.size ∧ s₁ = { s with heap := s.heap.push { cls := .type "list", data := .seq #[] } }) F.called_list (F.typeCall_list_1 _) F.entry_list_init (code_list_new _ ⟨rfl, rfl⟩) fun obj s₁ h₁ => ?_
  obtain ⟨rfl, rfl⟩ := h₁
  have hS : (s.heap.push { cls := .type "list", data := .seq #[] }).get? s.heap.objs.size = some { cls := .type "list", data := .seq #[] } := Heap.get?_push_size _ rfl
  refine ⟨⟨_, hS, rfl⟩, F.args_list_init_2 _ _, ?_⟩
  have hlt : s.heap.objs.size < (s.heap.push { cls := .type "list", data := .seq #[] }).objs.size := by rw [Heap.size_push]; exact Nat.lt_succ_self _
  have old : ∀ a o, s.heap.get? a = some o → a ≠ s.heap.objs.size ∧ (s.heap.push { cls := .type "list", data := .seq #[] }).get? a = some o := fun a o e => ⟨Nat.ne_of_lt (Heap.lt_size e), Heap.get?_push_of_some _ e⟩
  generalize s.heap.push { cls := .type "list", data := .seq #[] } = H at hS hlt old
  generalize s.heap.objs.size = S at hS hlt old hQ
  show wpAny _ _ (do let old ← Builtin.List.listItems (.ref S); Builtin.List.listUpdate (.ref S) (fun _ => #[]); letGo old.toList.reverse; Builtin.List.listExtendWith (.ref S) (.bytes b t) .none) _ _ _
  refine wpAny_bind ?_
  unfold Builtin.List.listItems
  refine wpAny_bind (wpAny_seqItems hS rfl (wpAny_pure ?_))
  show wpAny _ _ (updateSeq S (fun _ => #[]) >>= fun _ => letGo (#[] : Array Value).toList.reverse >>= fun _ => Builtin.List.listExtendWith (.ref S) (.bytes b t) .none) _ _ _
  refine wpAny_bind (wpAny_updateSeq hS rfl ?_)
  have hS₂ := Heap.get?_update_self (Obj.mapSeq (fun _ => (#[] : Array Value))) hS rfl
  have oth : ∀ a o, a ≠ S → H.get? a = some o → (H.update S (Obj.mapSeq (fun _ => (#[] : Array Value)))).get? a = some o := fun a o hb e => (Heap.get?_update_other _ _ (Ne.symm hb)).trans e
  have hsz : (H.update S (Obj.mapSeq (fun _ => (#[] : Array Value)))).objs.size = H.objs.size := (Heap.SameBut.update ..).1
  generalize H.update S (Obj.mapSeq (fun _ => (#[] : Array Value))) = H2 at hS₂ oth hsz
  refine wpAny_bind (wpAny_letGo ?_)
  unfold Builtin.List.listExtendWith
  refine wpAny_bind (wpAny_typeOf (typeIs_bytes _ b t) ?_)
  have h2 : (Value.type "bytes" == Value.type "list") = false := by decide
  have h3 : (Value.type "bytes" == Value.type "tuple") = false := by decide
  have h1 : Builtin.List.listSameRef (.ref S) (.bytes b t) = false := rfl
  simp only [h1, h2, h3, Bool.or_false, Bool.false_eq_true, if_false]
  refine wpAny_bind (KBw.pyIter_bytes (wpAny_bind (wpAny_holding (hint_bytes ?_))))
  refine wpAny_ite_split (fun hab => absurd hab (by decide +kernel)) (fun _ => wpAny_pure ⟨plainId_quiet F.plain_extend_loop _, ?_⟩)
  have hSI : S ≠ H2.objs.size := by rw [hsz]; exact Nat.ne_of_lt hlt
  refine codeAny_extend_loopS (KBw.walks (prog := prog) (w := w) (A := A.in1.in1) hh H2.objs.size b t).toS (by rw [sizeLine_eq]; omega) S (fun hm => hSI (List.mem_singleton.mp hm)) .none b.size 0 _ #[] _ rfl (Nat.zero_le _)
    ⟨_, Heap.get?_push_size _ rfl, rfl, rfl⟩ (Heap.get?_push_of_some _ hS₂) (ItemsOf.nil _) fun s' acc' c' hm hS' hacc => ?_
  rw [Moved.eq_with hm]
  refine ⟨rfl, hQ s'.heap s'.toks acc' c' (fun a o e => ?_) hS' hacc⟩
  obtain ⟨ha, e'⟩ := old a o e
  have hlt2 := Heap.lt_size (oth a o ha e')
  refine hm.heap a o (fun hmem => ?_) (Heap.get?_push_of_some _ (oth a o ha e'))
  rcases List.mem_cons.mp hmem with e'' | hmem
  · exact ha e''
  · exact absurd hlt2 (by rw [List.mem_singleton.mp hmem]; exact Nat.lt_irrefl _)
end
section
variable {C : Cx} {sc : Scope} {lv : Nat} {st : St} {pos px : Pos} {ad : List Addr} {Q : V → St → Prop}
/-- a new object at the heap's end comes into the store -/
theorem SR.adoptNew {h h' : Heap} {o : O} {ob : Obj} (hs : SR C ad st h) (hk : ∀ b o, h.get? b = some o → h'.get? b = some o) (hg : h'.get? h.objs.size = some ob) (ho : OR (ad ++ [h.objs.size]) o ob) : SR C (ad ++ [h.objs.size]) (st.add o) h' := by
  have hs' := hs.grown hk
  have hll : C.env.locals < h.objs.size := by
    obtain ⟨⟨gg, hgg, m, news, F, _⟩, _⟩ := hs
    exact F.ns.lt
  have hfr : C.h₀.get? h.objs.size = none := by
    cases q : C.h₀.get? h.objs.size with
    | none => rfl
    | some ob =>
      obtain ⟨⟨gg, hgg, m, news, F, _⟩, _⟩ := hs
      obtain ⟨sl, q'⟩ := hgg.slot _ _ q
      exact absurd (Heap.lt_size (F.keep _ _ q')) (Nat.lt_irrefl _)
  refine hs'.adoptO hg (Nat.ne_of_gt hll) hfr (fun hm => ?_) ho
  obtain ⟨⟨gg, hgg, m, news, F, N, c, _⟩, _⟩ := hs
  rw [← c, ← List.map_append] at hm
  obtain ⟨p, hp, e⟩ := List.mem_map.mp hm
  have := Heap.lt_size (N p hp).1
  rw [e] at this
  exact Nat.lt_irrefl _ this
theorem ints_from {P : Nat → Value → Prop} {ns : List Int} {acc : Array Value} (h : ItemsOf P acc ns.length) (hP : ∀ i v, P i v → ∃ (n : Int) (t : Tok), ns[i]? = some n ∧ v = Value.int n t) : VRs ad (ns.map V.int) acc.toList := by
  have key : ∀ (ns : List Int) (ws : List Value), ws.length = ns.length → (∀ (i : Nat) v, ws[i]? = some v → ∃ (n : Int) (t : Tok), ns[i]? = some n ∧ v = Value.int n t) → VRs ad (ns.map V.int) ws := by
    intro ns
    induction ns with
    | nil => intro ws hl _; rw [List.length_eq_zero_iff.mp hl]; exact .nil
    | cons n ns ih =>
      intro ws hl hw
      match ws, hl with
      | w :: ws, hl =>
        obtain ⟨n', t, e1, e2⟩ := hw 0 w rfl
        cases e1
        exact .cons ⟨t, e2⟩ (ih ws (by simpa using hl) fun i v q => hw (i + 1) v q)
  refine key ns acc.toList (by simp [h.1]) fun i v q => hP i v (h.2 i v (by simpa using q))
theorem cl_listB {ns : List Int} (hh : C.A.handled = none) (hin : KBa.In ns) (hsz : ns.length ≤ 1000000) (h : Q (.ref st.os.length) (st.add (.list (ns.map V.int)))) : CL C (.type "list") [.bytes (byteArr ns)] st Q := .mk fun s ad ws hs hr => At.mk fun K hK => by
  cases hr with | cons ra hr => cases hr with | nil =>
  obtain ⟨t, rfl⟩ := ra
  refine call_list_bytes hh (by rw [byteArr_size]; exact hsz) fun h' tk acc' c' hk hg hacc => ?_
  rw [byteArr_size] at hacc
  refine hK _ _ _ _ _ h (Same.mk' s h' tk) (List.prefix_append _ _) (SR.adoptNew hs hk hg ⟨acc'.toList, c', by simp, ints_from hacc fun i v q => ?_⟩) (ref_new _ _ _ hs.len)
  obtain ⟨c, u, e1, e2⟩ := q
  have hi : i < ns.length := by
    have := (Array.getElem?_eq_some_iff.mp e1).1
    rw [byteArr_size] at this
    exact this
  obtain ⟨c', e3, e4⟩ := byte_at hin (List.getElem?_eq_getElem hi)
  rw [e1] at e3
  cases e3
  exact ⟨ns[i], u, List.getElem?_eq_getElem hi, by rw [e2, e4]⟩
end
end Mine
namespace Mine
theorem int_no_bytes : typeLookup (.type "int") "__bytes__" = pure none := by rw [typeLookup_type, builtinLookup_eq_fast]; kernel_rfl
theorem int_index : typeLookup (.type "int") "__index__" = pure (some (.builtin "int.__index__")) := by rw [typeLookup_type, builtinLookup_eq_fast]; kernel_rfl
theorem meets_bytes16 (t : Tok) : Meets (Builtin.«bytes.__new__» ⟨[.type "bytes", .int 16 t], []⟩) (fun _ R s => R (.ok (.ret (.bytes (Array.replicate 16 0) s.toks))) { s with toks := s.toks + 1 }) :=
  .of_wp fun prog w A R s h => by
    have hT : s.TypeIs (.int 16 t) "int" := rfl
    unfold Builtin.«bytes.__new__»
    refine wpAny_bind (wpAny_of_eq (a := true) rfl ?_)
    refine bm_if_false rfl ?_
    refine wpAny_bind (wpAny_of_eq F.bm_sub ?_)
    refine bm_if_false rfl ?_
    refine wpAny_bind (wpAny_of_eq (F.bm_bind _) ?_)
    refine wpAny_bind (wpAny_of_eq (a := ()) rfl ?_)
    refine wpAny_bind (wpAny_of_eq (a := ()) rfl ?_)
    refine bm_if_false rfl ?_
    refine wpAny_bind (wpAny_specialOf hT int_no_bytes ?_)
    refine wpAny_bind (wpAny_bind (wpAny_of_eq (a := none) rfl (wpAny_pure ?_)))
    refine bm_if_false rfl ?_
    refine wpAny_bind (wpAny_specialOf hT int_index ?_)
    refine bm_if_false rfl ?_
    refine wpAny_bind (wpAny_attempt (wpAny_of_eq (a := (16 : Int)) rfl ?_))
    refine bm_if_false rfl ?_
    refine wpAny_ite_split (fun hab => absurd hab (by decide)) (fun _ => ?_)
    refine wpAny_ite_split (fun hab => absurd hab (by decide)) (fun _ => ?_)
    refine bm_if_false (by decide +kernel) ?_
    refine wpAny_bind (wpAny_rule ?_)
    refine wpAny_bind (wpAny_mkBytes ?_ (by rw [Array.size_replicate, sizeLine_eq]; decide))
    show wpAny _ _ (if (Value.type "bytes" == Value.type "bytes") = true then _ else _) _ _ _
    refine bm_if_true (by decide) ?_
    first
      | exact wpAny_pure ⟨_, rfl, h⟩
      | exact wpAny_bind (wpAny_pure (wpAny_pure ⟨_, rfl, h⟩))
section
variable {C : Cx} {sc : Scope} {lv : Nat} {st : St} {pos px : Pos} {ad : List Addr} {Q : V → St → Prop}
theorem cl_bytes16 (h : Q (.bytes (byteArr (List.replicate 16 0))) st) : CL C (.type "bytes") [.int 16] st Q := .mk fun s ad ws hs hr => by
  cases hr with | cons ra hr => cases hr with | nil =>
  obtain ⟨t, rfl⟩ := ra
  refine At.tick (a := .bytes (byteArr (List.replicate 16 0)) s.toks) hs h ⟨_, rfl⟩ fun K hK => ?_
  refine callType_new F.bm_called (by decide) (F.bm_typeCall _) (F.bm_newCall _) (fun obj => F.args_object_init_2 obj _) F.bm_entry (meets_bytes16 t) ⟨typeIs_bytes _ _ _, ?_⟩
  have e : (Array.replicate 16 0 : Array UInt8) = byteArr (List.replicate 16 0) := by decide
  rw [e]
  exact hK _
theorem ex_callT {x : Str} {T : String} {e : Expr} {rest : List Expr} {X : Str → St → Prop} (hf : EV C (.Name x px) st (fun f st1 => f = .fix (.type T) ∧ EX C e st1 X))
    (hst : starEach (e :: rest) C.env = (false, eval e C.env) :: starEach rest C.env := by rfl) (hp : (starEach (e :: rest) C.env).any (·.1) = false := by rfl) : EX C (.Call (.Name x px) (e :: rest) [] pos) st X := .mk fun s ad hs K E hE => by
  refine wpAny_Call_Name_kw (wpNo ((hf.go s ad hs).run _ fun f st1 s1 ad1 w q1 e1 p1 hs1 r1 => ?_))
  obtain ⟨rfl, q1⟩ := q1
  cases r1
  refine PyProof.Rows.callWith_type (plain_backTo hp) ?_
  have := q1.go s1 ad1 hs1
  show wpAny _ _ (evalArgs _ _ (backTo pos (starEach (e :: rest) C.env)) _) _ _ _
  rw [hst]
  exact evalArgs_plain (spliced_cons (this _ _ fun w st3 s3 ad3 x q3 e3 p3 fl => hE w st3 s3 ad3 x q3 (e1.trans e3) (p1.trans p3) fl))
end
end Mine
namespace Mine
section
variable {C : Cx} {sc : Scope} {lv : Nat} {st : St} {pos px : Pos} {ad : List Addr}
/-- a name stored, while another namespace stands -/
theorem SR.storeN {s : Shared} {x : Str} {v : V} {w : Value} {L : Addr} {mL : Str → Option Value} (hs : SR C ad st s.heap) (hv : VR ad v w) (G : Gd C sc lv) (hl : sc.names.lookup x = some .local) (hN : s.heap.Ns L mL) (hne : L ≠ C.env.locals) {E : Value → Shared → Prop} {K : Unit → Shared → Prop}
    (h : ∀ s', Same s s' → SR C ad (st.set x v) s'.heap → s'.heap.Ns L mL → s'.heap.objs.size = s.heap.objs.size → K () s') : wpAny C.M C.A (storeName C.env x w) K E s := by
  obtain ⟨⟨gg, hgg, m, news, F, N, c, d, o, r⟩, hc⟩ := hs
  refine wpAny_storeName_local (by rw [Env.kindOf, G.scope]; exact hl) F.ns (fun h' hn hsb => h _ (Same.mk' s h' _) ?_ (hN.sameBut hsb hne) hsb.1) (by rw [G.scope, G.kind]; rfl)
  exact ⟨⟨gg, hgg, _, news, F.set hn hsb, N.set hsb, c, d, o, r.store hv⟩, hc⟩
/-- a list comprehension over tuples, stored at once -/
theorem xv_assignZ {elt iter : Expr} {es : List Expr} {tn : Nat} {tp : Pos} {scope : Scope} {clc fr : List (Str × Nat)} {Q : F → St → Prop} {y : Str} {py spos : Pos} (G : Gd C sc lv) (hclc : C.cl = clc)
    (h : ZV C iter st (fun st1 items dep => ∃ (I : Nat → List V → List O → Prop), items.length ≤ 1000000 ∧ I 0 [] st1.os ∧ (∀ i acc os, I i acc os → dep ⟨[], os⟩) ∧
      (∀ C' i vs acc os, CompCx C C' (relabel scope (scEnv sc)) fr lv → items[i]? = some vs → I i acc os → AS C' (.Tuple es tn tp) (.ref os.length) ⟨[], os ++ [.tuple vs]⟩ (fun st2 => EV C' elt st2 (fun y st4 => I (i + 1) (acc ++ [y]) st4.os))) ∧
      (∀ acc os, I items.length acc os → Q .next ⟨(y, .ref os.length) :: st1.m, os ++ [.list acc]⟩)))
    (hy : sc.names.lookup y = some .local := by rfl) (hline : (py.line == pos.line) = true := by rfl) (hfn : scope.names.any (fun x => x.1 == y && (x.2 == .local || x.2 == .cell)) = false := by decide)
    (hcell : ∀ x ∈ scope.names, x.2 ≠ .cell := by decide) (hkind : scope.kind = .function := by rfl) (hnames : ∀ x ∈ scope.names, x.2 = .local → scope.names.lookup x.1 = some .local := by decide)
    (hfree : ∀ x ∈ scope.names, x.2 = .free → (clc.lookup x.1).isSome = true := by decide) (hfr : ∀ p ∈ fr, (p.1, NameKind.free) ∈ scope.names ∧ clc.lookup p.1 = some p.2 := by decide)
    (hfs : ∀ x, foldedSetIterable iter C.env x = pure x := by intro _; rfl) : XV C (.Assign [.Name y py] (.ListComp elt [⟨.Tuple es tn tp, iter, [], 0⟩] scope pos) spos) st Q := .mk fun s ad hs₀ => At.mk fun K hK => by
  have hbk : C.env.blockKind = .function := by unfold Env.blockKind; rw [G.scope, G.kind]; rfl
  have hsw : swapsWith (.ListComp elt [⟨.Tuple es tn tp, iter, [], 0⟩] scope pos) (some (.Name y py)) spos.line C.env = pure true := by
    show (pure (C.env.blockKind == .function && C.env.kindOf y == some .local && py.line == pos.line && !(scope.names.any fun x => x.1 == y && (x.2 == .local || x.2 == .cell))) : Sem Bool) = pure true
    rw [hbk, Env.kindOf, G.scope, hy, hline, hfn]
    rfl
  rw [exec_Assign_Name_used _ _ _ _ hsw]
  refine wpAny_bind (wpAny_standAt (wpAny_bind ?_))
  show wpAny _ C.A (do let _ ← comprehension (.ListComp elt [⟨.Tuple es tn tp, iter, [], 0⟩] scope pos) scope C.env _ (newList []) false (eval iter C.env) (some (assign (.Name y py) C.env))) _ _ s
  have hclos := closureFor_eq (scope := scope) (env := C.env) (fun x => (C.env.cells.lookup x).getD 0) fun x hx hf => by
    obtain ⟨k, hk⟩ := Option.isSome_iff_exists.mp (hfree x hx hf)
    obtain ⟨c, hc, _⟩ := hs₀.cells x.1 k (by rw [hclc]; exact hk)
    rw [hc]; rfl
  refine wpAny_bind (wpAny_mono (wpAny_comprehension_free (use := some (assign (.Name y py) C.env)) (Q := fun _ s' => K .next s') rfl hfs hclos hkind hnames ?_) (fun _ s' hq => wpAny_pure (wpAny_pure hq)) fun _ _ e => e)
  refine h.go s ad hs₀ _ fun st1 items dep It inv mid ks s2 ad1 q1 ti hinv e2 p1 hs2 => ?_
  obtain ⟨I, hlen, hI0, hdep, turn, done⟩ := q1
  refine ti.self C 0 ks C.kp st1 s2 ad1 hinv hs2 _ ?_
  refine wpAny_newObj_type ?_
  have hs3 := SR.keep hs2 { cls := .type "list", dict := none, data := .seq ([] : List Value).toArray }
  have hDg : (s2.heap.push { cls := .type "list", dict := none, data := .seq ([] : List Value).toArray }).get? s2.heap.objs.size = some (listOf ([] : List Value).toArray 0) := Heap.get?_push_size _ rfl
  refine wpAny_newFunctionEnv hcell (by intro y hy; simp at hy) (fun h₁ hns₁ hsb₁ => ?_) hkind
  dsimp only at hns₁ hsb₁ hs3 hDg ⊢
  have hcells1 : ∀ x k, C.cl.lookup x = some k → ∃ c, C.env.cells.lookup x = some c ∧ ad1[k]? = some c := hs2.cells
  generalize hD : s2.heap.objs.size = D at *
  generalize hH3 : s2.heap.push { cls := .type "list", dict := none, data := .seq ([] : List Value).toArray } = H3 at *
  have hLlt : C.env.locals < H3.objs.size := by
    obtain ⟨⟨gg, hgg, m, news, F, _⟩, _⟩ := hs3
    exact F.ns.lt
  have old : ∀ b o, H3.get? b = some o → h₁.get? b = some o := fun b o e => hsb₁.extBut b o (Nat.ne_of_lt (Heap.lt_size e)) (Heap.get?_push_of_some _ e)
  generalize hcl : ((scope.names.filter (·.2 == .free)).map fun x => (x.1, (C.env.cells.lookup x.1).getD 0)).reverse = cl at *
  have hfrk : ∀ x k, fr.lookup x = some k → ∃ c, cl.lookup x = some c ∧ ad1[k]? = some c := fun x k e => by
    have hm := lookup_mem e
    obtain ⟨hn, hk⟩ := hfr _ hm
    obtain ⟨c, hc, hcc⟩ := hcells1 x k (by rw [hclc]; exact hk)
    refine ⟨c, ?_, hcc⟩
    have := lookup_fun (f := fun x => (C.env.cells.lookup x).getD 0) (x := x) (l := ((scope.names.filter (·.2 == .free)).map (·.1)).reverse) (by
      rw [List.mem_reverse]
      exact List.mem_map.mpr ⟨(x, .free), List.mem_filter.mpr ⟨hn, rfl⟩, rfl⟩)
    rw [← hcl, ← show ((C.env.cells.lookup x).getD 0) = c by rw [hc]; rfl, ← this]
    congr 1
    rw [List.map_reverse, List.map_map]
    rfl
  obtain ⟨g, stay, dom, fsk, hsC, back⟩ := SR.into (s := { s2 with heap := H3 }) hs3 (G.kept _) (compEnvC scope cl H3.objs.size C.env) fr rfl hns₁ old hfrk
  have hCC : ∀ kp, CompCx C { C with env := compEnvC scope cl H3.objs.size C.env, h₀ := g, cl := fr, of := C.env.locals :: C.of, kp := kp } (relabel scope (scEnv sc)) fr lv := fun kp =>
    ⟨⟨by show relabel scope C.env = _; exact relabel_scope G.scope, hkind, G.glob, G.blt, G.top, stay, G.depth, G.units, fun h => by obtain ⟨fs, B, hfs⟩ := fsk h; exact ⟨C.A, fs, B, hfs, .inr rfl⟩⟩, rfl, rfl, rfl, rfl⟩
  show codeAny C.M C.A (.compStart (.ListComp elt [⟨.Tuple es tn tp, iter, [], 0⟩] scope pos) 0 (.ref It) (.ref D) (compEnvC scope cl H3.objs.size C.env)) _ _
  have loop : codeAny C.M C.A (.compLoop (.ListComp elt [⟨.Tuple es tn tp, iter, [], 0⟩] scope pos) 0 (.ref It) (.ref D) (compEnvC scope cl H3.objs.size C.env)) (compPost C.M C.A No (some (assign (.Name y py) C.env)) (fun _ s' => K .next s') (.ref D) H3.objs.size) { s2 with heap := h₁, toks := s2.toks + ([] : List (Str × Value)).length } := by
    refine LCp.codeAny_compLoop_pair (fun n s' => ∃ i acc ws m os ad' ks', n + i = items.length + 1 ∧ i ≤ items.length ∧ acc.length ≤ i ∧ I i acc os ∧ inv i ks' ∧ Same s s' ∧ ad1 <+: ad' ∧ VRs ad' acc ws ∧
      SR { C with env := compEnvC scope cl H3.objs.size C.env, h₀ := g, cl := fr, of := C.env.locals :: C.of, kp := ks' ++ ((D, listOf ws.toArray m) :: C.kp) } ad' ⟨[], os⟩ s'.heap) ?_ (items.length + 1) ⟨0, [], [], 0, st1.os, ad1, ks, rfl, Nat.zero_le _, Nat.le_refl _, hI0, hinv, ?_, List.prefix_refl _, .nil, ?_⟩
    · rintro n s' ⟨i, acc, ws, m, os, ad', ks', hni, hile, hal, hI, hinv', e', p', hv, hs'⟩
      by_cases hi : i < items.length
      · refine wpNo (ti.next { C with env := compEnvC scope cl H3.objs.size C.env, h₀ := g, cl := fr, of := C.env.locals :: C.of } ⟨rfl, rfl, rfl⟩ i items[i] ks' _ _ s' ad' (by simp [hi]) hinv' (hdep _ _ _ hI) p' hs' _ fun T s3 ks3 e3 hmid hs3 => ?_)
        refine wpNo (ti.own { C with env := compEnvC scope cl H3.objs.size C.env, h₀ := g, cl := fr, of := C.env.locals :: C.of } (i + 1) T ks3 _ _ s3 _ _ _ _ hmid hs3 _ fun s3' ks3' e3' hinv3 hs3' => ?_)
        have hr : VR (ad' ++ [T]) (.ref os.length) (.ref T) := ref_new _ _ _ (SR.len hs')
        refine wpNo (((turn _ i _ acc os (hCC _) (by simp [hi]) hI).go s3' _ _ hs3' hr).run _ fun _ st4 s4 ad4 _ q4 e4 p4 hs4 _ => ?_)
        refine wpNo ((q4.go s4 ad4 hs4).run _ fun y st6 s6 ad6 yv q6 e6 p6 hs6 r6 => ?_)
        have p4' : ad' <+: ad4 := (List.prefix_append _ _).trans p4
        have hDg6 := hs6.kpAt (p := (D, listOf ws.toArray m)) (List.mem_append_right _ (.head _))
        refine wpAny_list_append_plain ⟨m, hDg6⟩ (fun h' hp hsb => ?_) (by rw [List.size_toArray, hv.length, sizeLine_eq]; omega)
        obtain ⟨m', hg'⟩ := hp
        have hs7 := SR.touch (C := { C with env := compEnvC scope cl H3.objs.size C.env, h₀ := g, cl := fr, of := C.env.locals :: C.of }) (SR.perm (C := { C with env := compEnvC scope cl H3.objs.size C.env, h₀ := g, cl := fr, of := C.env.locals :: C.of }) (hs6.weak Sub.nil) List.perm_middle) (fun b o hb e => hsb.extBut b o hb e) hg'
        exact ⟨n - 1, by omega, i + 1, acc ++ [y], ws ++ [yv], m', st6.os, ad6, ks3', by omega, by omega, by rw [List.length_append]; simp; omega, q6, hinv3, e'.trans (e3.trans (e3'.trans (e4.trans (e6.trans (Same.hp s6 h'))))), p'.trans (p4'.trans p6), (hv.mono (p4'.trans p6)).append (.cons r6 .nil), by
          have := SR.perm (C := { C with env := compEnvC scope cl H3.objs.size C.env, h₀ := g, cl := fr, of := C.env.locals :: C.of }) hs7 List.perm_middle.symm
          simpa using this⟩
      · obtain rfl : i = items.length := by omega
        refine wpNo (ti.done { C with env := compEnvC scope cl H3.objs.size C.env, h₀ := g, cl := fr, of := C.env.locals :: C.of } ⟨rfl, rfl, rfl⟩ ks' _ _ s' ad' hinv' (hdep _ _ _ hI) p' hs' _ fun s3 e3 hs3 => ?_)
        have hb := back _ _ _ _ p' hs3
        obtain ⟨⟨gg, hgg, mm, news, F, N, c, d, o, r⟩, hc⟩ := id hs3
        have hb1 := SR.adopt hb (o := .list acc) ⟨ws, m, rfl, hv.mono (List.prefix_append _ _)⟩
        show wpAny _ _ (assign (.Name y py) C.env (.ref D)) _ _ _
        have hmem : H3.objs.size ∉ ad' ++ [D] ++ C.kp.map (·.1) := by
          intro hm
          have hm' : H3.objs.size ∈ (news ++ (D, listOf ws.toArray m) :: C.kp).map (·.1) := by
            rw [List.map_append, c]
            simpa using hm
          obtain ⟨p, hp, e⟩ := List.mem_map.mp hm'
          exact (N p hp).2.1 e
        refine wpAny_assign_Name (SR.storeN (C := C) hb1 (ref_new _ _ _ hb.len) G hy F.ns (Nat.ne_of_gt hLlt) fun s4 e4 hs4 hN4 hsz4 => ⟨mm, hN4, fun h' hsb => ?_⟩)
        have hb' := SR.other (b := H3.objs.size) hs4 (fun q hq => ⟨?_, Nat.ne_of_gt hLlt, hmem⟩) hsb
        · exact hK .next _ _ _ _ (done acc os hI) (e'.trans (e3.trans (e4.trans (Same.hp s4 h')))) ((p1.trans p').trans (List.prefix_append _ _)) hb' rfl
        · cases q0 : C.h₀.get? H3.objs.size with
          | none => rfl
          | some ob =>
            cases q1 : g.get? H3.objs.size with
            | none => have := dom _ q1; rw [q0] at this; cases this
            | some ob' => exact absurd (Heap.lt_size q1) (Nat.not_lt.mpr (by rw [← hgg.size]; exact F.above))
    · exact e2.trans (Same.mk' s2 _ _)
    · exact SR.perm (C := { C with env := compEnvC scope cl H3.objs.size C.env, h₀ := g, cl := fr, of := C.env.locals :: C.of }) hsC List.perm_middle.symm
  exact codeAny_compStart_list loop (wpNo (ti.self _ 0 ks _ _ { s2 with heap := h₁, toks := s2.toks + ([] : List (Str × Value)).length } ad1 hinv (SR.perm (C := { C with env := compEnvC scope cl H3.objs.size C.env, h₀ := g, cl := fr, of := C.env.locals :: C.of }) hsC List.perm_middle.symm) _ loop))
end
end Mine
namespace Mine
/-! a raise where an exception is handled that came of another -/
theorem plain_unchain : plainId "proto.unchain" = true := by decide +kernel
section
variable {prog : Program} {w : World} {A : Around} {E : Value → Shared → Prop} {s : Shared} {env : Env}
/-- e1 is handled, it came of c, and that of nothing -/
structure Chn (h : Heap) (e1 c : Addr) : Prop where
  one : ∃ o v, h.get? e1 = some o ∧ o.data = .fields v ∧ v[2]? = some (.ref c)
  two : ∃ o v, h.get? c = some o ∧ o.data = .fields v ∧ v[2]? = some .none
  ne : c ≠ e1
theorem raiseNew_in2 {α : Type} {e e1 c : Addr} {oe : Obj} {vs : Array Value} {Q : α → Shared → Prop} (hh : A.handled = some (.ref e1)) (ch : Chn s.heap e1 c) (hne : e1 ≠ e) (hce : c ≠ e)
    (he : s.heap.get? e = some oe) (hd : oe.data = .fields vs) (hsz : 2 < vs.size) (h : E (.ref e) { s with heap := s.heap.update e (Obj.mapFields (·.setIfInBounds 2 (.ref e1))) }) : wpAny (model prog w) A (raiseNew (.ref e) : Sem α) Q E s := by
  obtain ⟨o1, v1, h1, hd1, h12⟩ := ch.one
  obtain ⟨o2, v2, h2, hd2, h22⟩ := ch.two
  have hc := ch.ne
  unfold raiseNew
  refine wpAny_bind (wpAny_handled ?_)
  rw [hh]
  show wpAny _ _ (if (Value.ref e1 != Value.ref e) = true then do
      let _ ← holding [Value.ref e] (runValue (.builtin "proto.unchain" ⟨[.ref e, .ref e1, .ref e1, .bool false], []⟩))
      let r ← updateField e 2 (.ref e1)
      throw (.ref e)
    else throw (.ref e)) _ _ _
  rw [if_pos (by simp [hne])]
  refine wpAny_bind (wpAny_holding (wpAny_runValue (codeAny_builtin entry_unchain ?_)))
  unfold Builtin.«proto.unchain»
  show wpAny _ _ (field (.ref e1) 2 >>= fun context => _) _ _ _
  refine wpAny_bind (wpAny_field h1 hd1 h12 ?_)
  rw [if_neg (by simp), if_neg (by simpa using hce), if_neg (by simpa using hc)]
  refine wpAny_bind (wpAny_pure (wpAny_pure ⟨plainId_quiet plain_unchain _, codeAny_builtin entry_unchain ?_⟩))
  unfold Builtin.«proto.unchain»
  show wpAny _ _ (field (.ref c) 2 >>= fun context => _) _ _ _
  refine wpAny_bind (wpAny_field h2 hd2 h22 ?_)
  rw [if_pos (by rfl)]
  refine wpAny_pure ?_
  exact wpAny_bind (wpAny_setField he hd hsz (wpAny_throw h))
theorem Chn.keeps {h h' : Heap} {e1 c : Addr} (ch : Chn h e1 c) (k1 : ∀ o, h.get? e1 = some o → h'.get? e1 = some o) (k2 : ∀ o, h.get? c = some o → h'.get? c = some o) : Chn h' e1 c := by
  obtain ⟨o1, v1, h1, hd1, h12⟩ := ch.one
  obtain ⟨o2, v2, h2, hd2, h22⟩ := ch.two
  exact ⟨⟨o1, v1, k1 _ h1, hd1, h12⟩, ⟨o2, v2, k2 _ h2, hd2, h22⟩, ch.ne⟩
theorem tuple_end_in {it t : Addr} {i : Nat} {e1 c : Addr} {items} {Q : Option Value → Shared → Prop} (hh : A.handled = some (.ref e1)) (ch : Chn s.heap e1 c) (hi1 : e1 ≠ it) (hi2 : c ≠ it)
    (hit : IsTupIter s.heap it t i) (ht : IsTup s.heap t items) (hx : items[i]? = none)
    (hQ : ∀ h', Heap.ExtBut it s.heap h' → Q none { s with heap := h' }) : wpAny (model prog w) A (pyNext (.ref it)) Q E s := by
  obtain ⟨o, ho, hc, hd⟩ := id hit
  obtain ⟨ol, hol, _, nl, hdl⟩ := ht
  unfold pyNext
  refine wpAny_bind (wpAny_attempt (wpAny_callSpecial?_slot (name := Str.ofString "__next__") hit.typeIs slot_tupleiter_next (wpAny_call_entry slot_tupleiter_next hit.typeIs entry_tupleiter_next ?_ (args_tupleiter_next _))))
  show wpAny _ _ (field (.ref it) 0 >>= _) _ _ s
  refine wpAny_bind (wpAny_field ho hd (x := .ref t) rfl ?_)
  show wpAny _ _ (if (Value.ref t == Value.none) = true then _ else _) _ _ s
  rw [if_neg (show ¬ ((Value.ref t == Value.none) = true) from Bool.false_ne_true)]
  show wpAny _ _ (field (.ref it) 1 >>= _) _ _ s
  refine wpAny_bind (wpAny_field ho hd (x := .int i 0) rfl ?_)
  show wpAny _ _ (seqItems? (.ref t) >>= _) _ _ s
  refine wpAny_bind (wpAny_seqItems hol hdl ?_)
  simp only [Int.toNat_natCast, hx]
  refine wpAny_bind (wpAny_rule (wpAny_bind (wpAny_setField ho hd (by simp) ?_)))
  show wpAny _ _ (newExc (.type "StopIteration") [] >>= _) _ _ _
  refine wpAny_bind ?_
  simp only [newExc, newTuple]
  have hup : Heap.SameBut it s.heap (s.heap.update it (Obj.mapFields (·.setIfInBounds 0 Value.none))) := Heap.SameBut.update ..
  have chU : Chn (s.heap.update it (Obj.mapFields (·.setIfInBounds 0 Value.none))) e1 c := ch.keeps (fun o e => hup.extBut _ o hi1 e) fun o e => hup.extBut _ o hi2 e
  have exU := hup.extBut
  generalize s.heap.update it (Obj.mapFields (·.setIfInBounds 0 Value.none)) = H at chU exU
  refine wpAny_bind (wpAny_newObj_type ?_ (by size_fits))
  refine wpAny_bind (m := firstArgMember _ _) (wpAny_of_eq (a := Value.none) (by first | rfl | (simp only [firstArgMember]; rfl)) ?_)
  refine wpAny_newObj_type ?_ (by size_fits)
  have chP := chU.keeps (h' := (H.push { cls := .type "tuple", data := .seq #[] })) (fun o e => Heap.get?_push_of_some _ e) (fun o e => Heap.get?_push_of_some _ e)
  have exP := exU.push { cls := .type "tuple", data := .seq #[] }
  have l1 : e1 ≠ (H.push { cls := .type "tuple", data := .seq #[] }).objs.size := by obtain ⟨_, _, q, _⟩ := chP.one; exact Nat.ne_of_lt (Heap.lt_size q)
  have l2 : c ≠ (H.push { cls := .type "tuple", data := .seq #[] }).objs.size := by obtain ⟨_, _, q, _⟩ := chP.two; exact Nat.ne_of_lt (Heap.lt_size q)
  have hA1 : A.in1.handled = some (.ref e1) := hh
  refine raiseNew_in2 hA1 (chP.keeps (fun o e => Heap.get?_push_of_some _ e) (fun o e => Heap.get?_push_of_some _ e)) l1 l2 (Heap.get?_push_size _ rfl) rfl (by simp; omega) ?_
  refine wpAny_bind (wpAny_isInstance (T := "StopIteration") (b := true) ⟨_, Heap.get?_update_self _ (Heap.get?_push_size _ rfl) rfl, rfl⟩ isSubtype_stop ?_)
  refine wpAny_pure (hQ _ fun b o hb e => ?_)
  have e2 := exP b o hb e
  exact (Heap.get?_update_other _ _ (Ne.symm (Nat.ne_of_lt (Heap.lt_size e2)))).trans (Heap.get?_push_of_some _ e2)
theorem unpack_in {t e1 c : Addr} {items : Array Value} {Q : List Value → Shared → Prop} (hh : A.handled = some (.ref e1)) (ch : Chn s.heap e1 c) (ht : IsTup s.heap t items)
    (hQ : ∀ h', Heap.ExtBut s.heap.objs.size s.heap h' → Q items.toList { s with heap := h' }) : wpAny (model prog w) A (unpackItems (.ref t) items.size none) Q E s := by
  have hlt : t ≠ s.heap.objs.size := by obtain ⟨o, ho, _⟩ := ht; exact Nat.ne_of_lt (Heap.lt_size ho)
  have l1 : e1 ≠ s.heap.objs.size := by obtain ⟨_, _, q, _⟩ := ch.one; exact Nat.ne_of_lt (Heap.lt_size q)
  have l2 : c ≠ s.heap.objs.size := by obtain ⟨_, _, q, _⟩ := ch.two; exact Nat.ne_of_lt (Heap.lt_size q)
  unfold unpackItems
  refine wpAny_bind ?_
  · unfold notIterableAtAll
    refine wpAny_bind (wpAny_specialOf ht.typeIs slot_tuple_iter.lookup ?_)
    refine wpAny_pure ?_
    simp only [Bool.false_eq_true, if_false]
    refine wpAny_bind (wpAny_holding (PyProof.Rows.iter_tuple ht ?_))
    refine wpAny_bind (wpAny_holding (draw_tuple hlt items.size 0 _ _ ⟨_, Heap.get?_push_size _ rfl, rfl, rfl⟩ (ht.push _) (by omega) fun h₁ hit₁ hs₁ => ?_))
    have hall : List.take items.size (List.drop 0 items.toList) = items.toList := by
      rw [List.drop_zero]; exact List.take_of_length_le (by simp)
    rw [hall]
    rw [if_neg (by simp)]
    have ht₁ : IsTup h₁ t items := (ht.push _).extBut hs₁.extBut hlt
    have ch₁ : Chn h₁ e1 c := ch.keeps (fun o e => hs₁.extBut _ o l1 (Heap.get?_push_of_some _ e)) fun o e => hs₁.extBut _ o l2 (Heap.get?_push_of_some _ e)
    refine wpAny_bind (wpAny_holding (tuple_end_in hh ch₁ l1 l2 hit₁ ht₁ (by simp) fun h₂ he₂ => ?_))
    simp only [Option.isSome_none, Bool.false_eq_true, if_false]
    refine wpAny_pure (hQ h₂ fun b o hb e => he₂ b o hb (hs₁.extBut b o hb (Heap.get?_push_of_some _ e)))
end
/-- a frame that handles a ValueError e: it came of c; its words lie at t -/
structure Hd (C : Cx) (e c : Addr) : Prop where
  hand : C.A.handled = some (.ref e)
  one : ∃ o v, (e, o) ∈ C.kp ∧ o.cls = .type "ValueError" ∧ o.data = .fields v ∧ v[2]? = some (.ref c)
  two : ∃ o v, (c, o) ∈ C.kp ∧ o.data = .fields v ∧ v[2]? = some .none
  ne : c ≠ e
section
variable {C : Cx} {sc : Scope} {lv : Nat} {st : St} {pos px : Pos} {ad : List Addr}
theorem Hd.chn {e c : Addr} {h : Heap} (k : Hd C e c) (hs : SR C ad st h) : Chn h e c := by
  obtain ⟨o1, v1, h1, _, hd1, h12⟩ := k.one
  obtain ⟨o2, v2, h2, hd2, h22⟩ := k.two
  exact ⟨⟨o1, v1, hs.kpGet h1, hd1, h12⟩, ⟨o2, v2, hs.kpGet h2, hd2, h22⟩, k.ne⟩
theorem as_tupleH {es : List Expr} {n k : Nat} {tp : Pos} {vs : List V} {Q : St → Prop} {e c : Addr} (hd : Hd C e c) (hk : st.os[k]? = some (.tuple vs)) (h : AO C ((assignEach es C.env).map (·.2)) vs st Q)
    (hn : (assignEach es C.env).length = vs.length) (hstar : (assignEach es C.env).findIdx? (·.1) = none := by rfl) : AS C (.Tuple es n tp) (.ref k) st Q := .mk fun s ad w hs r => At.mk fun K hK => by
  obtain ⟨a, ws, ha, hla, hva⟩ := hs.tuple hk
  cases r.ref ha
  rw [assign_Tuple]
  refine wpAny_bind (wpAny_standAt ?_)
  unfold unpack
  rw [hn, hstar, ← hva.length, ← List.size_toArray]
  refine wpAny_bind (wpAny_holding (unpack_in hd.hand (hd.chn hs) hla fun h' he => ?_))
  exact (h.go { s with heap := h' } ad ws (hs.ext he) hva).run K fun _ st2 s2 ad2 _ q2 e2 p2 hs2 _ => hK () st2 s2 ad2 () q2 ((Same.hp s h').trans e2) p2 hs2 trivial
theorem cl_typeK {e c : Addr} {Q : V → St → Prop} (hd : Hd C e c) (h : Q (.fix (.type "ValueError")) st) : CL C (.type "type") [.fix (.ref e)] st Q := .mk fun s ad ws hs hr => by
  cases hr with | cons ra hr => cases hr with | nil =>
  cases ra
  obtain ⟨o1, v1, h1, hc, _⟩ := hd.one
  exact At.stay (a := .type "ValueError") hs h rfl fun K hK => call_type_of ⟨o1, hs.kpGet h1, hc⟩ (by decide) hK
/-- its words: the j-th thing of the store -/
def HdW (C : Cx) (e t : Addr) : Prop := ∃ o v, (e, o) ∈ C.kp ∧ o.cls = .type "ValueError" ∧ o.data = .fields v ∧ v[0]? = some (.ref t)
theorem cl_strK {e t : Addr} {ot : Obj} {w : Str} {Q : V → St → Prop} (G : Gd C sc lv) (hw : HdW C e t) (ht : (t, ot) ∈ C.kp) (hot : OR [] (.words w) ot) (h : Q (.str w) st) : CL C (.type "str") [.fix (.ref e)] st Q := .mk fun s ad ws hs hr => by
  cases hr with | cons ra hr => cases hr with | nil =>
  cases ra
  obtain ⟨o1, v1, h1, hc, h3, h4⟩ := hw
  obtain ⟨hc', n, u, h8⟩ := hot
  have hu := G.units
  exact At.stay (a := .str w u) hs h ⟨_, rfl⟩ fun K hK => P.str_of_exc_one F.excStr_ValueError (by rw [show cLine = 9900 from rfl]; omega) ⟨o1, v1, hs.kpGet h1, hc, h3, h4⟩ ⟨ot, n, hs.kpGet ht, hc', h8⟩ hK
/-- an object of the heap is kept -/
theorem SR.keepO {h : Heap} {a : Addr} {ob : Obj} {kp : List (Addr × Obj)} (hs : SR (C.kept kp) ad st h) (hg : h.get? a = some ob) (hL : a ≠ C.env.locals) (hf : C.h₀.get? a = none) (hna : a ∉ ad ++ kp.map (·.1)) : SR (C.kept ((a, ob) :: kp)) ad st h := by
  obtain ⟨⟨gg, hgg, m, news, F, N, c, d, o, r⟩, hc⟩ := hs
  refine ⟨⟨gg, hgg, m, news, F, fun p hp => ?_, c, ?_, o, r⟩, hc⟩
  · rcases List.mem_append.mp hp with hp | hp
    · exact N p (List.mem_append_left _ hp)
    · rcases List.mem_cons.mp hp with rfl | hp
      · exact ⟨hg, hL, hgg.non _ hf⟩
      · exact N p (List.mem_append_right _ hp)
  · have d' := List.nodup_append.mp d
    refine List.nodup_append.mpr ⟨d'.1, List.nodup_cons.mpr ⟨fun q => hna (List.mem_append_right _ q), d'.2.1⟩, fun x hx y hy => ?_⟩
    rcases List.mem_cons.mp hy with rfl | hy
    · exact fun q => hna (List.mem_append_left _ (q ▸ hx))
    · exact d'.2.2 x hx y hy
/-- try: a body that raises; in the handler the exception is kept as it is -/
theorem xv_tryK {body : List Stmt} {n : Str} {np hpos : Pos} {b₀ : Stmt} {suite : List Stmt} {rest : List ExceptHandler} {Q : F → St → Prop} (G : Gd C sc lv) (ow : Own C) (hV : Blt C "ValueError" (.type "ValueError"))
    (h : SX C body st (fun w st1 => ∀ e c t ot kp', Hd ((C.hand (.ref e)).kept kp') e c → HdW ((C.hand (.ref e)).kept kp') e t → (t, ot) ∈ kp' → OR [] (.words w) ot → SV ((C.hand (.ref e)).kept kp') (b₀ :: suite) ⟨(n, .fix (.ref e)) :: st1.m, st1.os⟩ (fun f st2 => ∃ l, SubN n l st2.m ∧ Q f ⟨l, st2.os⟩)))
    (hln : sc.names.lookup n = some .local := by rfl) (hg : sc.names.lookup (Str.ofString "ValueError") = some .globalImplicit := by rfl) :
    XV C (.Try body (.ExceptHandler (some (.Name "ValueError" np)) (some n) (b₀ :: suite) hpos :: rest) [] [] pos) st Q := .mk fun s ad hs => At.mk fun K hK => by
  refine wpAny_Try_except (h.go s ad hs _ _ fun w st1 s1 ad1 e hq e1 p1 fl => ?_)
  obtain ⟨sr1, B, t, u, fs, B₀, c0, oc, vc, ⟨kB, nB, fB, tB⟩, hA, htup, nt, ⟨hBB, hc0, hcB, hcd0, hc2⟩, hB1, hB2⟩ := fl
  obtain ⟨⟨outer, hA'⟩, hfr⟩ := ow
  rw [hA'] at hA
  cases hA
  refine note_next hA' fB hfr kB nB tB fun h₂ kB2 fB2 u2 tB2 => ?_
  refine flight_set kB2 fB2 tB2 fun h₃ kB3 fB3 u3 _ tB3 => ?_
  have s3 : SR C ad1 st1 h₃ := sr1.land G hB1 hB2 (fun b o e => kB3 b o (hBB b o e)) (u2.trans u3)
  refine wpAny_handleBy_builtin_as (X := "ValueError") (T := "ValueError") (b := true) F.isExc_ValueError F.notTuple_ValueError (by rw [isSubtype_type]; kernel_rfl) ?_
  refine ld_blt (C := C.hand (.ref e)) (s := { s1 with heap := h₃ }) (G.hand _) hV (s3.hand _) hg ⟨rfl, tB3.typeIs (s := { s1 with heap := h₃ }), ?_⟩
  rw [if_pos rfl]
  refine flight_set kB3 fB3 tB3 fun h₄ kB4 fB4 u4 _ tB4 => ?_
  have s4 : SR C ad1 st1 h₄ := sr1.land G hB1 hB2 (fun b o e => kB4 b o (hBB b o e)) (u2.trans (u3.trans u4))
  have nB₀ : B₀.get? e = none := by
    cases q : B₀.get? e with
    | none => rfl
    | some o => have := hBB _ _ q; rw [nB] at this; cases this
  have nt₀ : B₀.get? t = none := by
    cases q : B₀.get? t with
    | none => rfl
    | some o => have := hBB _ _ q; rw [nt] at this; cases this
  have hB2' : ∀ a ∈ ad1 ++ C.kp.map (·.1), B₀.get? a ≠ none := fun a ha q => by
    obtain ⟨o', e'⟩ := sr1.here a ha
    rw [hB2 a ha o' e'] at q; cases q
  obtain ⟨ot, nt', hot, hotc, hotd⟩ := (htup.of_slots u2).of_slots u3 |>.of_slots u4
  obtain ⟨oe, T, oT, ts, hoe, hoec, hoed, _⟩ := tB4
  have hoc := kB4 _ _ hcB
  have fT := s4.freshO G hB1 nt₀ hot (.inr ⟨_, _, hotd⟩)
  have fE := s4.freshO G hB1 nB₀ hoe (.inl ⟨_, hoed⟩)
  have fC := s4.freshO G hB1 hc0 hoc (.inl ⟨_, hcd0⟩)
  have hte : t ≠ e := fun q => by
    rw [← q, hot] at hoe
    cases hoe
    rw [hotd] at hoed
    cases hoed
  have hce : c0 ≠ e := fun q => by rw [q, nB] at hcB; cases hcB
  have htc : t ≠ c0 := fun q => by rw [← q, nt] at hcB; cases hcB
  have k1 := SR.keepO (kp := C.kp) s4 hoc fC.2 fC.1 (fun q => hB2' _ q hc0)
  have k2 := SR.keepO k1 hoe fE.2 fE.1 (fun q => by
    rcases List.mem_append.mp q with q | q
    · exact hB2' _ (List.mem_append_left _ q) nB₀
    · rcases List.mem_cons.mp q with q | q
      · exact hce q.symm
      · exact hB2' _ (List.mem_append_right _ q) nB₀)
  have k3 := SR.keepO k2 hot fT.2 fT.1 (fun q => by
    rcases List.mem_append.mp q with q | q
    · exact hB2' _ (List.mem_append_left _ q) nt₀
    · rcases List.mem_cons.mp q with q | q
      · exact hte q
      · rcases List.mem_cons.mp q with q | q
        · exact htc q
        · exact hB2' _ (List.mem_append_right _ q) nt₀)
  have k4 : SR ((C.hand (.ref e)).kept ((t, ot) :: (e, oe) :: (c0, oc) :: C.kp)) ad1 st1 h₄ := ⟨k3.ex, k3.cells⟩
  refine SR.store (C := (C.hand (.ref e)).kept ((t, ot) :: (e, oe) :: (c0, oc) :: C.kp)) (s := { s1 with heap := h₄ }) (v := .fix (.ref e)) k4 rfl ((G.hand _).kept _) hln fun s7 e7 hs7 => ?_
  have hHd : Hd ((C.hand (.ref e)).kept ((t, ot) :: (e, oe) :: (c0, oc) :: C.kp)) e c0 := ⟨rfl, ⟨oe, _, .tail _ (.head _), hoec, hoed, rfl⟩, ⟨oc, vc, .tail _ (.tail _ (.head _)), hcd0, hc2⟩, hce⟩
  refine wpNo (((hq e c0 t ot _ hHd ⟨oe, _, .tail _ (.head _), hoec, hoed, rfl⟩ (.head _) ⟨hotc, nt', u, hotd⟩).go s7 _ hs7).run _ fun f st8 s8 ad8 f' q8 e8 p8 hs8 r8 => ?_)
  obtain ⟨l, hsub, q8⟩ := q8
  have hs9 : SR C ad8 st8 s8.heap := by
    have := SR.drop (C := C.hand (.ref e)) (ks := [(t, ot), (e, oe), (c0, oc)]) (kp := C.kp) hs8
    exact ⟨this.ex, this.cells⟩
  obtain ⟨⟨gg, hgg, m, news, F, N, c, d, o, r⟩, hc⟩ := hs9
  refine wpAny_nameGoes_keeps (by rw [Env.kindOf, G.scope]; exact hln) F.ns (by rw [G.scope, G.kind]; rfl) fun h₉ v hn hsb => ?_
  refine hK f _ _ ad8 f' q8 (e1.trans ((Same.hp s1 h₄).trans (e7.trans (e8.trans (Same.mk' s8 h₉ _))))) (p1.trans p8) ⟨⟨gg, hgg, _, news, F.set hn hsb, N.set hsb, c, d, o, fun x y q => ?_⟩, hc⟩ r8
  obtain ⟨hne, q'⟩ := hsub x y q
  obtain ⟨w', w1, w2⟩ := r x y q'
  exact ⟨w', by simp [hne, w1], w2⟩
theorem xx_assignS {es : List Expr} {k : Nat} {tp : Pos} {value : Expr} {X : Str → St → Prop} (names : List Str) (G : Gd C sc lv) (h : EX C value st X)
    (hw : swappedStores [.Tuple es k tp] value (scEnv sc) = pure (some names) := by rfl) (hs : swapsWithSole [.Tuple es k tp] value pos.line C.env = pure false := by rfl) : XX C (.Assign [.Tuple es k tp] value pos) st X := .mk fun s ad hs₀ K E hE =>
  Assign_Tuple_swapped (names := names) (h.go s ad hs₀ _ _ hE) hs (by rw [swapped_scope G.scope]; exact hw)
theorem byteArr_append (A B : List Int) : byteArr A ++ byteArr B = byteArr (A ++ B) := by
  unfold byteArr
  rw [List.map_append]
  simp
theorem bo_addB {A B : List Int} {Q : V → St → Prop} (hsz : A.length + B.length ≤ 1000000) (h : Q (.bytes (byteArr (A ++ B))) st) : BO C .Add (.bytes (byteArr A)) (.bytes (byteArr B)) st Q := .mk fun s ad va vb hs ⟨t, e⟩ ⟨u, f⟩ => At.mk fun K hK => by
  subst e f
  refine KBy.add_bytes (by rw [byteArr_size, byteArr_size]; omega) fun t' k => ?_
  rw [byteArr_append]
  exact hK _ _ _ ad _ h (Same.tk s k) (List.prefix_refl _) hs ⟨_, rfl⟩
theorem ev_rev {o : Expr} {k1 : Nat} {p1 p2 sp : Pos} {Q : V → St → Prop} (h : EV C o st (fun v st1 => ∃ vs, LV C st1 v vs ∧ vs.length ≤ 1000000 ∧ Q (.ref st1.os.length) (st1.add (.list vs.reverse))))
    (hs : ∀ va vb, subscripted (.Slice none none (some (.UnaryOp .USub (.Constant (.int 1) k1 p1) p2)) sp) false va vb = operate [va, vb] (getItem va vb) := by intro _ _; rfl) (ht : ∀ a r, letTemporaryGo o a r = pure () := by intro _ _; rfl) :
    EV C (.Subscript o (.Slice none none (some (.UnaryOp .USub (.Constant (.int 1) k1 p1) p2)) sp) pos) st Q := .mk fun s ad hs₀ => At.mk fun K hK =>
  Subscript_ ((h.go s ad hs₀).run _ fun v st1 s1 ad1 w q1 e1 p1' hs1 r1 => by
    obtain ⟨vs, hv, hsz, q1⟩ := q1
    obtain ⟨a, ws, rfl, hl, hvw⟩ := hv.at hs1 r1
    rw [arm_eval_Slice]
    refine wpAny_bind (wpAny_of_eq (a := Value.none) rfl (wpAny_bind (wpAny_holding (wpAny_of_eq (a := Value.none) rfl (wpAny_bind (wpAny_holding ?_))))))
    show wpAny _ _ (eval (.UnaryOp .USub (.Constant (.int 1) k1 p1) p2) C.env) _ _ _
    refine ((ev_unop (C := C) (pos := p2) (Q := fun v st' => v = .int (-1) ∧ st' = st1) (ev_int (uo_neg ⟨rfl, rfl⟩))).go s1 ad1 hs1).run _ fun v2 st2 s2 ad2 w2 q2 e2 p2' hs2 r2 => ?_
    obtain ⟨rfl, rfl⟩ := q2
    obtain ⟨u, rfl⟩ := r2
    obtain ⟨a', ws', e', hl2, hvw2⟩ := hv.at hs2 (r1.mono p2')
    cases e'
    unfold newFields
    refine wpAny_newObj_type ?_
    have hlen := hs2.len
    obtain ⟨⟨gg, hgg, m, news, F, N, cc, d, o, r⟩, hc⟩ := hs2
    refine krv_lit (zs := ws'.reverse) F N hl2 (.int _ _) (by simp) (fun D h' F' N' hD => ?_) (hs _ _) (ht _) (by rw [List.size_toArray, hvw2.length, sizeLine_eq]; omega)
    have hs3 : SR C ad2 st2 h' := ⟨⟨gg, hgg, m, news, F', fun p hp => N' p (.tail _ hp), cc, d, o, r⟩, hc⟩
    have hd := N' _ (.head _)
    have hs4 := hs3.adoptO hd.1 hd.2.1 (hgg.fresh hd.2.2) (fun q => by
      rw [← cc, ← List.map_append] at q
      obtain ⟨p, hp, e⟩ := List.mem_map.mp q
      exact absurd (hD p hp) (by rw [e]; exact Nat.lt_irrefl _)) (o := .list vs.reverse) ⟨ws'.reverse, 0, rfl, (hvw2.reverse).mono (List.prefix_append _ _)⟩
    exact hK _ _ _ _ _ q1 (e1.trans (e2.trans (Same.hp s2 h'))) (p1'.trans (p2'.trans (List.prefix_append _ _))) hs4 (ref_new _ _ _ hlen))
theorem co_neLS {i j : Nat} {vs : List V} {Q : V → St → Prop} (G : Gd C sc lv) (hs : ∀ v ∈ vs, v.scalar) (hi : st.os[i]? = some (.list vs)) (hj : st.os[j]? = some (.list vs)) (h : Q (.bool false) st) : CO C .NotEq (.ref i) (.ref j) st Q := .mk fun s ad va vb hs₀ ra rb => by
  obtain ⟨a, ws, ha, hla, hva⟩ := hs₀.list hi
  obtain ⟨b, us, hb, hlb, hvb⟩ := hs₀.list hj
  cases ra.ref ha
  cases rb.ref hb
  have hu := G.units
  have hl : ws.length = us.length := by rw [hva.length, hvb.length]
  refine At.stay (a := .bool false) hs₀ h rfl fun K hK => ?_
  have := PySem.SeqAt.RcNeAt.lists (A := C.A) (s := s) (e := fun _ => true) hla hlb (by simp [hl]) (by rw [show cLine = 9900 from rfl]; omega) (fun j h1 h2 => by
    have := scalars_eq (A := C.A.in1) (s := s) hs hva hvb j (by simpa using h1) (by simpa using h2)
    simpa using this)
  refine this C.prog C.w _ _ ?_
  have e : ((List.range ws.toArray.size).all fun _ => true) = true := List.all_eq_true.mpr fun _ _ => rfl
  rw [e]
  exact hK
end
end Mine
namespace Mine
abbrev pw := PySem.Challenge.pw_dm0180_09
open PySem.Builtin.Int (intBits)
local macro_rules | `(tactic| walk_at "go") => `(tactic| repeat (first | refine sv_cons ?_ | refine ev_local (by assumption) ?_ | refine ev_int ?_ | refine ev_binop ?_ | refine xv_assign (by assumption) ?_ | refine xv_aug (by assumption) ?_ | refine xv_if ?_ | refine xv_ret ?_ | refine bv_cmp ?_ | refine bv_not ?_ | refine bv_or ?_ | refine or_cons ?_ | refine or_nil ?_ | refine and_cons ?_ | refine and_nil ?_ | refine tt_bool ?_ | refine ev_unop ?_ | refine ev_bool ?_ | refine ev_str ?_ | refine ev_none ?_ | refine av_cons ?_ | refine av_nil ?_ | refine bo_add ?_ | refine bo_sub ?_ | refine bo_and ?_ | refine bo_or ?_ | refine bo_xor ?_ | refine uo_inv ?_ | refine uo_neg ?_ | refine io_add ?_ | refine io_sub ?_ | refine co_lt ?_ | refine co_le ?_ | refine co_gt ?_ | refine co_ge ?_ | refine co_eq ?_ | refine co_ne ?_ | refine ev_cmp ?_ | refine ev_ifexp ?_ | refine bo_mod (by decide) ?_ | refine bo_div (by decide) (by decide +kernel) ?_ | refine sv_nil ?_))
local macro_rules | `(tactic| walk_at "go1") => `(tactic| repeat (first | refine sv_cons ?_ | refine ev_local (by assumption) ?_ | refine ev_int ?_ | refine ev_binop ?_ | refine xv_assign (by assumption) ?_ | refine xv_aug (by assumption) ?_ | refine xv_ret ?_ | refine bv_cmp ?_ | refine bv_not ?_ | refine bv_or ?_ | refine or_cons ?_ | refine or_nil ?_ | refine and_cons ?_ | refine and_nil ?_ | refine tt_bool ?_ | refine ev_unop ?_ | refine ev_bool ?_ | refine ev_str ?_ | refine ev_none ?_ | refine av_cons ?_ | refine av_nil ?_ | refine bo_add ?_ | refine bo_sub ?_ | refine bo_and ?_ | refine bo_or ?_ | refine bo_xor ?_ | refine uo_inv ?_ | refine uo_neg ?_ | refine io_add ?_ | refine io_sub ?_ | refine co_lt ?_ | refine co_le ?_ | refine co_gt ?_ | refine co_ge ?_ | refine co_eq ?_ | refine co_ne ?_ | refine ev_cmp ?_ | refine ev_ifexp ?_ | refine bo_mod (by decide) ?_ | refine bo_div (by decide) (by decide +kernel) ?_ | refine sv_nil ?_))
local macro_rules | `(tactic| walk_at "wk") => `(tactic| (refine ⟨?_, ?_⟩; (· repeat (first | exact Sub.nil | refine Sub.cons rfl ?_)); (· first | exact Or.inl rfl | (refine Or.inr ⟨rfl, below_of_all rfl, ?_, ?_⟩; (· repeat (first | exact ob_nil | refine ob_cons (by first | trivial | exact ints_below _ | exact vs_below rfl) ?_)); (· intro x k h; simp_all)))))
local macro_rules | `(tactic| walk_at "sub") => `(tactic| repeat (first | exact Sub.nil | refine Sub.cons rfl ?_))
section
variable {C : Cx} {sc : Scope} {lv : Nat} {st : St} {pos px : Pos} {Q : V → St → Prop} {X : Str → St → Prop} {e : Expr}
theorem ev_v4 (G : Gd C sc (lv + 1)) (hd : drec pw 1 ∈ recsOf C.p)
    (h : EV C e st (fun v st1 => ∃ n : Int, v = .int n ∧ 0 ≤ n ∧ n < 256 ^ 4 ∧ Q (.bytes (byteArr (pk 4 n))) st1))
    (hg : sc.names.lookup (Str.ofString "v4_int_to_packed") = some .globalImplicit := by rfl)
    (hst : starEach [e] C.env = (false, eval e C.env) :: starEach [] C.env := by rfl) :
    EV C (.Call (.Name "v4_int_to_packed" px) [e] [] pos) st Q := by
  refine ev_call (x := "v4_int_to_packed") ["address"] G hd (av_cons (EV.mono h ?_) hst) (fun pm cd doc ws hl => ?_) (by decide +kernel) (by decide +kernel) rfl rfl rfl hg rfl hst
  · rintro v st1 ⟨n, rfl, h0, h1, hq⟩
    refine av_nil ⟨rfl, fun C' hc => ?_⟩
    have G' := hc.gd
    refine sv_cons (xv_try (sv_cons (xv_ret (ev_meth F.plainAttrs_int KTBy.slot F.type_int_to_bytes (ev_local (v := .int n) G' ⟨rfl, ?_⟩)))))
    exact av_cons (ev_int (av_nil (cl_toBytes (k := 4) (by decide) h0 h1 hq)))
  · match ws, hl with
    | [a], _ => rfl
theorem ex_v4 (G : Gd C sc (lv + 2)) (hh : C.A.handled = none) (hd : drec pw 1 ∈ recsOf C.p) (hO : Blt C "OverflowError" (.type "OverflowError")) (hV : Blt C "ValueError" (.type "ValueError"))
    (h : EV C e st (fun v st1 => ∃ n : Int, v = .int n ∧ (n < 0 ∨ 256 ^ 4 ≤ n) ∧ X "Address negative or too large for IPv4" st1))
    (hg : sc.names.lookup (Str.ofString "v4_int_to_packed") = some .globalImplicit := by rfl)
    (hst : starEach [e] C.env = (false, eval e C.env) :: starEach [] C.env := by rfl) :
    EX C (.Call (.Name "v4_int_to_packed" px) [e] [] pos) st X := by
  refine ex_call (x := "v4_int_to_packed") ["address"] G hd (av_cons (EV.mono h ?_) hst) (fun pm cd doc ws hl => ?_) (by decide +kernel) (by decide +kernel) rfl rfl rfl hg rfl hst
  · rintro v st1 ⟨n, rfl, h0, hq⟩
    refine av_nil ⟨rfl, fun C' hc => ?_⟩
    exact packed_refuse (k := 4) hc.gd (Nat.succ_pos _) hc.own (hc.hand.trans hh) (hc.blt hO) (hc.blt hV) (by decide) h0 rfl hq rfl rfl rfl rfl
  · match ws, hl with
    | [a], _ => rfl
end
section
variable {C : Cx} {sc : Scope} {lv : Nat} {st : St} {pos px : Pos} {Q : V → St → Prop} {X : Str → St → Prop} {e : Expr}
theorem ev_v6 (G : Gd C sc (lv + 1)) (hd : drec pw 2 ∈ recsOf C.p)
    (h : EV C e st (fun v st1 => ∃ n : Int, v = .int n ∧ 0 ≤ n ∧ n < 256 ^ 16 ∧ Q (.bytes (byteArr (pk 16 n))) st1))
    (hg : sc.names.lookup (Str.ofString "v6_int_to_packed") = some .globalImplicit := by rfl)
    (hst : starEach [e] C.env = (false, eval e C.env) :: starEach [] C.env := by rfl) :
    EV C (.Call (.Name "v6_int_to_packed" px) [e] [] pos) st Q := by
  refine ev_call (x := "v6_int_to_packed") ["address"] G hd (av_cons (EV.mono h ?_) hst) (fun pm cd doc ws hl => ?_) (by decide +kernel) (by decide +kernel) rfl rfl rfl hg rfl hst
  · rintro v st1 ⟨n, rfl, h0, h1, hq⟩
    refine av_nil ⟨rfl, fun C' hc => ?_⟩
    have G' := hc.gd
    refine sv_cons (xv_try (sv_cons (xv_ret (ev_meth F.plainAttrs_int KTBy.slot F.type_int_to_bytes (ev_local (v := .int n) G' ⟨rfl, ?_⟩)))))
    exact av_cons (ev_int (av_nil (cl_toBytes (k := 16) (by decide) h0 h1 hq)))
  · match ws, hl with
    | [a], _ => rfl
theorem ex_v6 (G : Gd C sc (lv + 2)) (hh : C.A.handled = none) (hd : drec pw 2 ∈ recsOf C.p) (hO : Blt C "OverflowError" (.type "OverflowError")) (hV : Blt C "ValueError" (.type "ValueError"))
    (h : EV C e st (fun v st1 => ∃ n : Int, v = .int n ∧ (n < 0 ∨ 256 ^ 16 ≤ n) ∧ X "Address negative or too large for IPv6" st1))
    (hg : sc.names.lookup (Str.ofString "v6_int_to_packed") = some .globalImplicit := by rfl)
    (hst : starEach [e] C.env = (false, eval e C.env) :: starEach [] C.env := by rfl) :
    EX C (.Call (.Name "v6_int_to_packed" px) [e] [] pos) st X := by
  refine ex_call (x := "v6_int_to_packed") ["address"] G hd (av_cons (EV.mono h ?_) hst) (fun pm cd doc ws hl => ?_) (by decide +kernel) (by decide +kernel) rfl rfl rfl hg rfl hst
  · rintro v st1 ⟨n, rfl, h0, hq⟩
    refine av_nil ⟨rfl, fun C' hc => ?_⟩
    exact packed_refuse (k := 16) hc.gd (Nat.succ_pos _) hc.own (hc.hand.trans hh) (hc.blt hO) (hc.blt hV) (by decide) h0 rfl hq rfl rfl rfl rfl
  · match ws, hl with
    | [a], _ => rfl
end
/-! plain: accounts carried -/
theorem pk_add (k : Nat) : ∀ (j : Nat) (x : Int), pk (k + j) x = pk k (x / 256 ^ j) ++ pk j x
  | 0, x => by rw [Nat.add_zero, Int.pow_zero, Int.ediv_one, pk_zero, List.append_nil]
  | j + 1, x => by
    rw [← Nat.add_assoc, pk_succ, pk_add k j, pk_succ j, List.append_assoc, Int.ediv_ediv_of_nonneg (by decide), Int.pow_succ, Int.mul_comm 256]
theorem pk_mod : ∀ (j : Nat) (x a : Int), pk j (x + a * 256 ^ j) = pk j x
  | 0, x, a => by rw [pk_zero, pk_zero]
  | j + 1, x, a => by
    have e : x + a * 256 ^ (j + 1) = x + 256 * (a * 256 ^ j) := by rw [Int.pow_succ, ← Int.mul_assoc, Int.mul_comm 256]
    rw [pk_succ, pk_succ, e, Int.add_mul_ediv_left _ _ (by decide), Int.add_mul_emod_self_left, pk_mod j]
theorem little_get : ∀ (n i : Nat) (x : Int), i < n → (KTBy.little n x)[i]? = some (x / 256 ^ i % 256)
  | n + 1, 0, x, _ => by simp [KTBy.little]
  | n + 1, i + 1, x, h => by
    have := little_get n i (x / 256) (by omega)
    rw [Int.ediv_ediv_of_nonneg (by decide), ← Int.mul_comm (256 ^ i), ← Int.pow_succ] at this
    simpa [KTBy.little] using this
theorem pk_get {n i : Nat} {x : Int} (h : i < n) : (pk n x)[i]? = some (x / 256 ^ (n - 1 - i) % 256) := by
  rw [List.getElem?_reverse (by rw [KTBy.little_length]; exact h), KTBy.little_length]
  exact little_get n _ x (by omega)
/-- a row of accounts, the last one ahead -/
def tot : List Int → Int
  | [] => 0
  | a :: l => a + 4294967296 * tot l
theorem tot_snoc (a : Int) : ∀ l : List Int, tot (l ++ [a]) = tot l + a * 4294967296 ^ l.length
  | [] => by simp [tot]
  | b :: l => by
    rw [List.cons_append, tot, tot, tot_snoc a l, List.length_cons, Int.pow_succ, Int.mul_add, ← Int.mul_assoc a, Int.mul_comm (a * _)]
    omega
theorem b32 (n : Nat) : (4294967296 : Int) ^ n = 256 ^ (4 * n) := by
  rw [Int.pow_mul]
  congr 1
theorem acc_step (l : List Int) (a : Int) :
    pk 4 ((a + tot l / 4294967296 ^ l.length) % 4294967296) ++ pk (4 * l.length) (tot l) = pk (4 * (l.length + 1)) (tot (l ++ [a])) ∧
    (a + tot l / 4294967296 ^ l.length) / 4294967296 = tot (l ++ [a]) / 4294967296 ^ (l.length + 1) := by
  have hp : (0 : Int) < 4294967296 ^ l.length := Int.pow_pos (by decide)
  have e1 : a + tot l / 4294967296 ^ l.length = tot (l ++ [a]) / 4294967296 ^ l.length := by
    rw [tot_snoc, Int.add_mul_ediv_right _ _ (Int.ne_of_gt hp), Int.add_comm]
  rw [e1]
  generalize hT : tot (l ++ [a]) = T
  refine ⟨?_, ?_⟩
  · have e2 := pk_mod 4 (T / 4294967296 ^ l.length % 4294967296) (T / 4294967296 ^ l.length / 4294967296)
    have e3 := Int.emod_add_mul_ediv (T / 4294967296 ^ l.length) 4294967296
    rw [show (256 : Int) ^ 4 = 4294967296 by decide, Int.mul_comm _ 4294967296, e3] at e2
    rw [show 4 * (l.length + 1) = 4 + 4 * l.length by omega, pk_add, ← b32, ← e2]
    congr 1
    rw [← hT, tot_snoc, b32, pk_mod]
  · rw [Int.ediv_ediv_of_nonneg (Int.le_of_lt hp), ← Int.pow_succ]
theorem set4 {A : List Int} {i : Nat} {v : Int} (h : A.length = 4) : ∃ a0 a1 a2 a3, A.set i v = [a0, a1, a2, a3] := by
  have : (A.set i v).length = 4 := by rw [List.length_set, h]
  match A.set i v, this with
  | [a, b, c, d], _ => exact ⟨a, b, c, d, rfl⟩
structure Rd (S : List V) (ka : Nat) (A : List Int) (os : List O) : Prop where
  cell : ∃ c, os[0]? = some (.cell c)
  src : os[4]? = some (.list S)
  acc : os[ka]? = some (.list (A.map V.int))
  ne : ka ≠ 4 ∧ ka ≠ 0
  len : 5 ≤ os.length
  four : A.length = 4
theorem Rd.pre {S : List V} {ka : Nat} {A : List Int} {os os' : List O} (h : Rd S ka A os) (p : os <+: os') : Rd S ka A os' :=
  ⟨by obtain ⟨c, hc⟩ := h.cell; exact ⟨c, get_prefix p hc⟩, get_prefix p h.src, get_prefix p h.acc, h.ne, by have := h.len; have := p.length_le; omega, h.four⟩
theorem Rd.whole {S : List V} {ka : Nat} {A : List Int} {os : List O} (h : Rd S ka A os) (v : V) : Rd S ka A (os.set 0 (.cell (some v))) ∧ (os.set 0 (.cell (some v)))[0]? = some (.cell (some v)) := by
  obtain ⟨c, hc⟩ := h.cell
  exact ⟨⟨⟨_, os_put hc⟩, os_keep h.src hc (by decide), os_keep h.acc hc h.ne.2, h.ne, by have := h.len; simp; omega, h.four⟩, os_put hc⟩
theorem Rd.put {S : List V} {ka : Nat} {A A' : List Int} {os : List O} (h : Rd S ka A os) (h4 : A'.length = 4) : Rd S ka A' (os.set ka (.list (A'.map V.int))) := by
  obtain ⟨c, hc⟩ := h.cell
  exact ⟨⟨c, os_keep hc h.acc (Ne.symm h.ne.2)⟩, os_keep h.src h.acc (Ne.symm h.ne.1), os_put h.acc, h.ne, by have := h.len; simp; omega, h4⟩
set_option maxRecDepth 100000 in
theorem law_main {C : Cx} (G : Gd C (drec pw 4).scope 3) (hh : C.A.handled = none) (ow : Own C) (hcl : C.cl = [(("whole" : Str), 0)]) (hd1 : drec pw 1 ∈ recsOf C.p) (hd2 : drec pw 2 ∈ recsOf C.p)
    (hO : Blt C "OverflowError" (.type "OverflowError")) (hV : Blt C "ValueError" (.type "ValueError")) (hstr : Blt C "str" (.type "str")) (hbytes : Blt C "bytes" (.type "bytes")) (hrange : Blt C "range" (.type "range")) (htype : Blt C "type" (.type "type")) (hlist : Blt C "list" (.type "list")) (hdivmod : Blt C "divmod" (.builtin "divmod"))
    {l : Addr} {xs : List Value} {ns : List Int} (hl : C.h₀.IsList l xs.toArray) (hi : IntsAre xs ns) (hlen : ns.length ≤ 63) :
    SV C (drec pw 4).body ⟨[("script", .fix (.ref l))], [.cell none]⟩ (fun f _ => f = .ret (.bool true)) := by
  conv at G => enter [2]; whnf
  conv => enter [2]; whnf
  have hc0 : ∀ kp, (C.kept kp).cl.lookup ("whole" : Str) = some 0 := fun kp => by show C.cl.lookup _ = _; rw [hcl]; rfl
  refine sv_cons (xv_assign G (ev_list (av_cons (ev_int (av_cons (ev_int (av_cons (ev_int (av_cons (ev_int (av_nil ⟨by simp, ?_⟩)))))))))))
  refine sv_cons (xv_for (ev_binop (ev_list ?_)))
  repeat (first | refine ⟨by simp, ?_⟩ | refine av_cons ?_ | refine ev_int ?_ | refine av_nil ?_ | refine ev_unop ?_ | refine uo_neg ?_)
  refine ev_upto (c := 40) (ev_local G ⟨_, LV.script hl hi, by simp; omega, ?_⟩)
  rw [← List.map_take]
  have hL : (ns.take 40).length ≤ 40 := by simp; omega
  generalize ns.take 40 = L at hL
  refine bo_addL (vs := [.int 7, .int (-8), .int 17179869185, .int 1221679586]) (us := L.map V.int) rfl rfl (by simp; omega) ?_
  rw [show [V.int 7, .int (-8), .int 17179869185, .int 1221679586] ++ L.map V.int = ([7, -8, 17179869185, 1221679586] ++ L).map V.int by simp]
  refine ⟨([7, -8, 17179869185, 1221679586] ++ L).map V.int, _, fun i st' => ∃ ka A os, st' = ⟨[("accounts", .ref ka)], os⟩ ∧ Rd (([7, -8, 17179869185, 1221679586] ++ L).map V.int) ka A os, iter_list hh rfl, ⟨[("accounts", .ref 1)], by walk_at "sub", 1, [0, 4294967295, 4294967295, 4294967295], _, rfl, ⟨⟨_, rfl⟩, rfl, rfl, by decide, by simp, rfl⟩⟩, ?_, ?_, ?_⟩
  · rintro i st' ⟨ka, A, os, rfl, H⟩
    exact H.src
  · rintro i v st' kp hv ⟨ka, A, os, rfl, H⟩
    obtain ⟨x, hx, rfl⟩ := mem_ints hv
    have G' := G.kept kp
    have ow' : Own (C.kept kp) := ow
    generalize ([7, -8, 17179869185, 1221679586] ++ L).map V.int = S at H
    obtain ⟨q, hq, hq4⟩ : ∃ q : Nat, x % 4 = q ∧ q < 4 := ⟨(x % 4).toNat, by omega, by omega⟩
    obtain ⟨aq, hAq⟩ : ∃ aq, A[q]? = some aq := ⟨_, List.getElem?_eq_getElem (by rw [H.four]; exact hq4)⟩
    refine as_name G' (sv_cons (xv_augS (ev_local (v := .ref ka) G' (ev_binop (ev_local (v := .int x) G' (ev_int (bo_mod (by decide) ?_)))))))
    rw [hq]
    refine gi_list H.acc (by omega) (by omega) (by rw [Int.toNat_natCast, List.getElem?_map, hAq]; rfl) (ev_binop (ev_local (v := .int x) G' (ev_int (bo_div (by decide) (by decide +kernel) (io_add ?_)))))
    refine si_list H.acc (by omega) (by omega) (by rw [List.length_map, H.four]; omega) ?_
    rw [Int.toNat_natCast, ← List.map_set]
    obtain ⟨a0, a1, a2, a3, hA⟩ := set4 (A := A) (i := q) (v := aq + x / 4) H.four
    rw [hA]
    have H1 := H.put (A' := [a0, a1, a2, a3]) rfl
    have hl1 : (os.set ka (.list ([a0, a1, a2, a3].map V.int))).length = os.length := by simp
    dsimp only
    generalize os.set ka (.list ([a0, a1, a2, a3].map V.int)) = os1 at H1 hl1
    obtain ⟨c, hc⟩ := H1.cell
    refine sv_cons (xv_assignC G' (hc0 kp) (ev_int ⟨_, hc, ?_⟩))
    obtain ⟨H2, hw2⟩ := H1.whole (.int 0)
    have hl2 : (os1.set 0 (.cell (some (.int 0)))).length = os.length := by simp [hl1]
    dsimp only
    generalize os1.set 0 (.cell (some (.int 0))) = os2 at H2 hw2 hl2
    refine sv_cons (xv_for (ev_local (v := .ref ka) G' ?_))
    refine ⟨[a0, a1, a2, a3].map V.int, _, fun i st' => ∃ os3 w, st' = ⟨[("accounts", .ref ka)], os3⟩ ∧ Rd S ka [a0, a1, a2, a3] os3 ∧ os3[0]? = some (.cell (some (.int w))) ∧ os3.length = os.length ∧ w = tot ([a0, a1, a2, a3].take i).reverse, iter_list hh H2.acc, ⟨[("accounts", .ref ka)], by walk_at "sub", _, 0, rfl, H2, hw2, hl2, rfl⟩, ?_, ?_, ?_⟩
    · rintro i st' ⟨os3, w, rfl, H3, _⟩
      exact H3.acc
    · rintro i v st' kp2 hv ⟨os3, w, rfl, H3, hw3, hl3, rfl⟩
      have G2 := G'.kept kp2
      obtain ⟨a, ha, rfl⟩ : ∃ a, [a0, a1, a2, a3][i]? = some a ∧ v = .int a := by
        rw [List.getElem?_map] at hv
        cases e : [a0, a1, a2, a3][i]? with
        | none => rw [e] at hv; cases hv
        | some n => rw [e] at hv; exact ⟨n, rfl, (Option.some.inj hv).symm⟩
      refine as_name G2 (sv_cons (xv_assignC G2 (hc0 kp2) (ev_binop (ev_binop (ev_cell G2 (ev_int (bo_mul (mulok_small (by decide)) (ev_local (v := .int a) G2 (bo_add ⟨_, hw3, ?_⟩)))) (hc0 kp2) hw3)))))
      obtain ⟨H4, hw4⟩ := H3.whole (.int (tot ([a0, a1, a2, a3].take i).reverse * 4294967296 + a))
      refine sv_nil ⟨⟨[("accounts", .ref ka)], _⟩, ⟨by walk_at "sub", .inl rfl⟩, by simp; omega, _, _, rfl, H4, hw4, by simp [hl3], ?_⟩
      rw [List.take_add_one, ha]
      show _ = tot (_ ++ [a]).reverse
      rw [List.reverse_append, List.reverse_singleton, List.singleton_append, tot]
      omega
    · rintro st' ⟨os3, w, rfl, H3, hw3, hl3, hw⟩
      have hw : w = tot [a3, a2, a1, a0] := hw
      subst hw
      refine sv_cons (xv_assignS ["row", "left", "carry"] G' hh ?_ (by decide))
      refine ev_tuple (av_cons (ev_bytes (av_cons (ev_list (av_nil ⟨by simp, av_cons (ev_int (av_nil ⟨by simp, _, _, rfl, os_new _ _, rfl, ?_⟩))⟩)))))
      have hp4 : os3 <+: os3 ++ [O.list []] ++ [O.tuple [.bytes [].toArray, .ref os3.length, .int 0]] := ⟨[.list [], .tuple [.bytes [].toArray, .ref os3.length, .int 0]], by simp⟩
      have hlf : (os3 ++ [O.list []] ++ [O.tuple [.bytes [].toArray, .ref os3.length, .int 0]])[os3.length]? = some (.list []) := by simp
      show SV (C.kept kp) _ ⟨[("row", .bytes #[]), ("left", .ref os3.length), ("carry", .int 0), ("accounts", .ref ka)], os3 ++ [O.list []] ++ [O.tuple [.bytes [].toArray, .ref os3.length, .int 0]]⟩ _
      generalize os3 ++ [O.list []] ++ [O.tuple [.bytes [].toArray, .ref os3.length, .int 0]] = os4 at hp4 hlf
      have H4 := H3.pre hp4
      have hp4l := hp4.length_le
      refine sv_cons (xv_for (ev_rev (ev_local (v := .ref ka) G' ⟨_, LV.store H4.acc, by simp, ?_⟩)))
      rw [← List.map_reverse, show [a0, a1, a2, a3].reverse = [a3, a2, a1, a0] from rfl]
      generalize hR : [a3, a2, a1, a0] = R
      have hR4 : R.length = 4 := by rw [← hR]; rfl
      have hpR : os4 <+: os4 ++ [O.list (R.map V.int)] := List.prefix_append _ _
      refine ⟨R.map V.int, _, fun n st' => ∃ os5 kl Lf, st' = ⟨[("row", .bytes (byteArr (pk (4 * n) (tot (R.take n))))), ("left", .ref kl), ("carry", .int (tot (R.take n) / 4294967296 ^ n)), ("accounts", .ref ka)], os5⟩ ∧ os4 ++ [O.list (R.map V.int)] <+: os5 ∧ os5[kl]? = some (.list (Lf.map V.int)) ∧ Lf.length = n ∧ os3.length ≤ kl, iter_list hh (os_new _ _), ⟨[("row", .bytes #[]), ("left", .ref os3.length), ("carry", .int 0), ("accounts", .ref ka)], by walk_at "sub", _, os3.length, [], ?_, List.prefix_refl _, os_old hlf, rfl, Nat.le_refl _⟩, ?_, ?_, ?_⟩
      · rw [show tot (R.take 0) / 4294967296 ^ 0 = 0 by simp [tot]]
        rfl
      · rintro n st' ⟨os5, kl, Lf, rfl, p5, _⟩
        exact get_prefix p5 (os_new _ _)
      · rintro n v st' kp2 hv ⟨os5, kl, Lf, rfl, p5, hlf5, hLn, hkl⟩
        obtain ⟨a, ha, rfl⟩ : ∃ a, R[n]? = some a ∧ v = .int a := by
          rw [List.getElem?_map] at hv
          cases e : R[n]? with
          | none => rw [e] at hv; cases hv
          | some m => rw [e] at hv; exact ⟨m, rfl, (Option.some.inj hv).symm⟩
        have hn4 : n < 4 := by rw [← hR4]; exact (List.getElem?_eq_some_iff.mp ha).1
        have hTl : (R.take n).length = n := by rw [List.length_take]; omega
        have hTs : R.take (n + 1) = R.take n ++ [a] := by rw [List.take_add_one, ha]; rfl
        obtain ⟨st1, st2⟩ := acc_step (R.take n) a
        rw [hTl, ← hTs] at st1 st2
        have G2 := G'.kept kp2
        have ow2 : Own ((C.kept kp).kept kp2) := ow
        refine as_name G2 (sv_cons (xv_aug (v := .int a) G2 (ev_local (v := .int (tot (R.take n) / 4294967296 ^ n)) G2 (io_add ?_))))
        generalize a + tot (R.take n) / 4294967296 ^ n = amt at st1 st2
        refine sv_cons (XV.mono (Q := fun f st' => f = .next ∧ ∃ os6, Sub [("part", .bytes (byteArr (pk 4 (amt % 4294967296)))), ("carry", .int (amt / 4294967296)), ("amount", .int (amt % 4294967296)), ("row", .bytes (byteArr (pk (4 * n) (tot (R.take n))))), ("left", .ref kl), ("accounts", .ref ka)] st'.m ∧ st'.os = os6 ∧ os5 <+: os6) ?_ ?_)
        · by_cases hok : 0 ≤ amt ∧ amt < 256 ^ 4
          · refine xv_try (sv_cons (xv_assignS ["part", "carry"] G2 hh ?_ (by decide)))
            refine ev_tuple (av_cons (ev_v4 G2 hd1 (ev_local (v := .int amt) G2 ⟨amt, rfl, hok.1, hok.2, av_cons (ev_int (av_nil ⟨by simp, _, _, rfl, os_new _ _, rfl, ?_⟩))⟩)))
            have e1 : amt % 4294967296 = amt := by omega
            have e2 : amt / 4294967296 = 0 := by omega
            rw [e1, e2]
            exact sv_nil ⟨rfl, _, by walk_at "sub", rfl, List.prefix_append _ _⟩
          · refine xv_tryK G2 ow2 hV (sx_cons (xx_assignS ["part", "carry"] G2 (ex_tuple (ex_v4 G2 hh hd1 hO hV (ev_local (v := .int amt) G2 ⟨amt, rfl, by omega, fun e c t ot kp3 hHd hHw hot hot2 => ?_⟩)))))
            have Gh := (G2.hand (.ref e)).kept kp3
            refine sv_cons (xv_assignT Gh (ev_callB (ev_builtin Gh hdivmod ⟨rfl, av_cons (ev_local (v := .int amt) Gh (av_cons (ev_int (av_nil (cl_divmod (by decide) (PyProof.noPylong_of_log2 (by decide +kernel)) ?_)))))⟩)))
            refine as_tupleH hHd (os_new _ _) (ao_cons (as_name Gh (ao_cons (as_name Gh (ao_nil ?_))))) rfl
            refine sv_cons (xv_if (bv_or (or_cons (bv_cmp (ev_callT (ev_builtin Gh htype ⟨rfl, av_cons (ev_local (v := .fix (.ref e)) Gh (av_nil (cl_typeK hHd (ev_builtin Gh hV (co_isnot rfl (tt_bool ⟨fun h => absurd h (by decide), fun _ => ?_⟩))))))⟩))))))
            refine or_cons (bv_cmp (ev_callT (ev_builtin Gh hstr ⟨rfl, av_cons (ev_local (v := .fix (.ref e)) Gh (av_nil (cl_strK Gh hHw hot hot2 (ev_str (co_neS (tt_bool ⟨fun h => absurd h (by decide), fun _ => or_nil ⟨fun h => absurd h (by decide), fun _ => sv_nil ?_⟩⟩))))))⟩)))
            refine sv_cons (xv_assign Gh (ev_v4 Gh hd1 (ev_local (v := .int (amt % 4294967296)) Gh ⟨_, rfl, by omega, by omega, ?_⟩)))
            refine sv_nil ⟨[("part", .bytes (byteArr (pk 4 (amt % 4294967296)))), ("carry", .int (amt / 4294967296)), ("amount", .int (amt % 4294967296)), ("row", .bytes (byteArr (pk (4 * n) (tot (R.take n))))), ("left", .ref kl), ("accounts", .ref ka)], ?_, rfl, _, by walk_at "sub", rfl, List.prefix_append _ _⟩
            repeat (first | exact SubN.nil | refine SubN.cons rfl (by decide) ?_)
        · rintro f ⟨m6, os6⟩ ⟨rfl, _, hsub6, rfl, p6⟩
          dsimp only at hsub6 p6
          refine SV.weak ?_ hsub6
          refine sv_cons (xv_assignS ["row", "left"] G2 hh ?_ (by decide))
          refine ev_tuple (av_cons (ev_binop (ev_local (v := .bytes (byteArr (pk 4 (amt % 4294967296)))) G2 (ev_local (v := .bytes (byteArr (pk (4 * n) (tot (R.take n))))) G2 (bo_addB (by rw [pk_length, pk_length]; omega) ?_)))))
          rw [st1]
          have hlf6 := get_prefix p6 hlf5
          refine av_cons (ev_binop (ev_list (av_cons (ev_local (v := .int (amt % 4294967296)) G2 (av_nil ⟨by simp, ev_local (v := .ref kl) G2 (bo_addL (os_new _ _) (os_old hlf6) (by simp; omega) (av_nil ⟨by simp, _, _, rfl, os_new _ _, rfl, ?_⟩))⟩)))))
          rw [st2]
          refine sv_nil ⟨⟨[("row", .bytes (byteArr (pk (4 * (n + 1)) (tot (R.take (n + 1)))))), ("left", .ref (os6.length + 1)), ("carry", .int (tot (R.take (n + 1)) / 4294967296 ^ (n + 1))), ("accounts", .ref ka)], _⟩, ⟨?_, .inl rfl⟩, ?_, _, os6.length + 1, (amt % 4294967296) :: Lf, rfl, ?_, ?_, by simp [hLn], ?_⟩
          · refine Sub.cons rfl (Sub.cons ?_ (by walk_at "sub"))
            show some (V.ref (os6 ++ [O.list [V.int (amt % 4294967296)]]).length) = _
            simp
          · have h5 := p5.length_le
            have h6 := p6.length_le
            simp at h5 ⊢
            omega
          · exact p5.trans (p6.trans ((List.prefix_append _ _).trans ((List.prefix_append _ _).trans (List.prefix_append _ _))))
          · simp
          · have h5 := p5.length_le
            have h6 := p6.length_le
            simp at h5
            omega
      · rintro st' ⟨os5, kl, Lf, rfl, p5, hlf5, hLn, hkl⟩
        have hRl : (R.map V.int).length = 4 := by rw [List.length_map, hR4]
        rw [hRl] at hLn
        have hT4 : R.take (R.map V.int).length = R := by rw [hRl, List.take_of_length_le (by omega)]
        rw [hT4, hRl]
        rw [hR] at hw3
        have hw5 := get_prefix (hp4.trans (hpR.trans p5)) hw3
        have H5 := (H4.pre hpR).pre p5
        have hl5 := p5.length_le
        have hl5' : os3.length ≤ os5.length := by simp at hl5; omega
        generalize tot R = W at hw5
        show SV (C.kept kp) _ ⟨[("row", .bytes (byteArr (pk 16 W))), ("left", .ref kl), ("carry", .int (W / 4294967296 ^ 4)), ("accounts", .ref ka)], os5⟩ _
        refine sv_cons (xv_if (bv_or (or_cons (bv_cmp (ev_callT (ev_builtin G' htype ⟨rfl, av_cons (ev_local (v := .bytes (byteArr (pk 16 W))) G' (av_nil (cl_type (v := .bytes (byteArr (pk 16 W))) rfl rfl (ev_builtin G' hbytes (co_isnot rfl (tt_bool ⟨fun h => absurd h (by decide), fun _ => ?_⟩))))))⟩))))))
        refine or_cons (bv_cmp (ev_callT (ev_builtin G' hlist ⟨rfl, av_cons (ev_local (v := .bytes (byteArr (pk 16 W))) G' (av_nil (cl_listB hh (pk_in 16 W) (by rw [pk_length]; decide) ?_)))⟩)))
        refine ev_compI (fr := [(("whole" : Str), 0)]) (pk 16 W) G' hcl (ev_callT (ev_builtin G' hrange ⟨rfl, av_cons (ev_int (av_cons (ev_unop (ev_int (uo_neg (av_cons (ev_unop (ev_int (uo_neg (av_nil (cl_range3 (by decide) (by decide +kernel) ?_)))))))))))⟩))
        have hw6 : ((os5 ++ [O.list ((pk 16 W).map V.int)]) ++ [O.range 15 (-1) (-1)])[0]? = some (.cell (some (.int W))) := os_old (os_old hw5)
        refine ⟨_, _, iter_range (n := 16) (a := 15) (b := -1) (c := -1) hh (os_new _ _) (by decide +kernel) (by decide +kernel), by simp, by rw [pk_length]; simp, trivial, ?_, ?_⟩
        · intro C' j v r hcc hv hr
          obtain ⟨hj, rfl⟩ := range_item hv
          have Gc := hcc.gd
          have hcc0 : C'.cl.lookup ("whole" : Str) = some 0 := by rw [hcc.cl]; rfl
          rw [pk_get (by omega)] at hr
          have hr := Option.some.inj hr
          have e15 : ((15 : Int) + (j : Int) * -1).toNat = 16 - 1 - j := by omega
          have i256 : intBits 256 = 9 := by decide
          refine as_name Gc (ev_binop (ev_binop (ev_cell Gc (ev_binop (ev_int (ev_local (v := .int ((15 : Int) + (j : Int) * -1)) Gc (bo_pow (by omega) (by rw [i256]; omega) ?_)))) hcc0 hw6)))
          rw [e15]
          refine bo_div (Int.pow_pos (by decide)) ?_ (ev_int (bo_mod (by decide) ⟨by rw [hr], rfl⟩))
          rw [show (256 : Int) = 2 ^ 8 by decide, ← Int.pow_mul]
          exact log2_pow (by omega)
        · refine co_neLI (ns := pk 16 W) (ms := pk 16 W) G' (i := os5.length) (by simp) (os_new _ _) (tt_bool ⟨fun h => absurd h (by simp), fun _ => or_nil ⟨fun h => absurd h (by decide), fun _ => sv_nil ?_⟩⟩)
          have p6 : os5 <+: os5 ++ [O.list ((pk 16 W).map V.int)] ++ [O.range 15 (-1) (-1)] ++ [O.list ((pk 16 W).map V.int)] := pre3 _ _ _ _
          dsimp only
          generalize os5 ++ [O.list ((pk 16 W).map V.int)] ++ [O.range 15 (-1) (-1)] ++ [O.list ((pk 16 W).map V.int)] = os6 at p6
          have H6 := H5.pre p6
          have hw7 := get_prefix p6 hw5
          have hlf6 := get_prefix p6 hlf5
          have hl6 := p6.length_le
          have hB : (4294967296 : Int) ^ 4 = 256 ^ 16 := by decide
          rw [hB]
          have hk16 : (256 : Int) ^ 16 = 340282366920938463463374607431768211456 := by decide
          by_cases hcz : W / 256 ^ 16 = 0
          · have hW : 0 ≤ W ∧ W < 256 ^ 16 := by rw [hk16] at hcz ⊢; omega
            rw [hcz]
            refine sv_cons (xv_try (sv_cons (xv_assign G' (ev_v6 G' hd2 (ev_cell G' ⟨W, rfl, hW.1, hW.2, sv_nil ?_⟩ (hc0 kp) hw7)))))
            refine sv_cons (xv_assign G' (ev_local (v := .bytes (byteArr (pk 16 W))) G' ?_))
            refine sv_cons (xv_if (bv_cmp (ev_local (v := .int 0) G' (ev_int (co_ne (tt_bool ⟨fun h => absurd h (by decide), fun _ => sv_nil ?_⟩))))))
            refine sv_cons (xv_if (bv_or (or_cons (bv_cmp (ev_callT (ev_builtin G' htype ⟨rfl, av_cons (ev_local (v := .bytes (byteArr (pk 16 W))) G' (av_nil (cl_type (v := .bytes (byteArr (pk 16 W))) rfl rfl ?_)))⟩))))))
            refine ev_callT (ev_builtin G' htype ⟨rfl, av_cons (ev_local (v := .bytes (byteArr (pk 16 W))) G' (av_nil (cl_type (v := .bytes (byteArr (pk 16 W))) rfl rfl (co_isnot rfl (tt_bool ⟨fun h => absurd h (by decide), fun _ => ?_⟩)))))⟩)
            refine or_cons (bv_cmp (ev_local (v := .bytes (byteArr (pk 16 W))) G' (ev_local (v := .bytes (byteArr (pk 16 W))) G' (co_neB (pk_in 16 W) (pk_in 16 W) (tt_bool ⟨fun h => absurd h (by simp), fun _ => or_nil ⟨fun h => absurd h (by decide), fun _ => sv_nil ?_⟩⟩)))))
            refine sv_nil ⟨⟨[("accounts", .ref ka)], os6⟩, ⟨by walk_at "sub", .inl rfl⟩, ?_, ka, _, os6, rfl, H6⟩
            have := H6.len
            show 5 ≤ os6.length
            exact this
          · have hW : W < 0 ∨ 256 ^ 16 ≤ W := by rw [hk16] at hcz ⊢; omega
            generalize W / 256 ^ 16 = cy at hcz
            refine sv_cons (xv_tryX G' ow' hV (sx_cons (xx_assign (ex_v6 G' hh hd2 hO hV (ev_cell G' ⟨W, rfl, hW, fun ev => ?_⟩ (hc0 kp) hw7)))))
            have Gh := G'.hand ev
            refine sv_cons (xv_assign Gh (ev_list (av_cons (ev_cmp (ev_callT (ev_builtin Gh htype ⟨rfl, av_cons (ev_local (v := .ref (os6.length + 1)) Gh (av_nil (cl_typeE (j := os6.length) (by simp) (ev_builtin Gh hV (co_is rfl ?_)))))⟩))))))
            refine av_cons (ev_callT (ev_builtin Gh hstr ⟨rfl, av_cons (ev_local (v := .ref (os6.length + 1)) Gh (av_nil (cl_strE Gh (j := os6.length) (w := "Address negative or too large for IPv6") (by simp) (by simp) (av_nil ⟨by simp, ?_⟩))))⟩))
            rw [show (Value.type "ValueError" == Value.type "ValueError") = true from by decide]
            refine sv_nil ⟨[("told", .ref (os6.length + 2)), ("row", .bytes (byteArr (pk 16 W))), ("left", .ref kl), ("carry", .int cy), ("accounts", .ref ka)], ?_, ?_⟩
            · refine SubN.cons ?_ (by decide) ?_
              · show some (V.ref (os6 ++ [O.words _, O.exc _]).length) = _
                simp
              repeat (first | exact SubN.nil | refine SubN.cons rfl (by decide) ?_)
            have p7 : os6 <+: os6 ++ [O.words "Address negative or too large for IPv6", O.exc os6.length] ++ [O.list [.bool true, .str "Address negative or too large for IPv6"]] := ⟨[.words "Address negative or too large for IPv6", .exc os6.length, .list [.bool true, .str "Address negative or too large for IPv6"]], by simp⟩
            have ht7 : (os6 ++ [O.words "Address negative or too large for IPv6", O.exc os6.length] ++ [O.list [.bool true, .str "Address negative or too large for IPv6"]])[os6.length + 2]? = some (.list [.bool true, .str "Address negative or too large for IPv6"]) := by simp
            dsimp only
            generalize os6 ++ [O.words "Address negative or too large for IPv6", O.exc os6.length] ++ [O.list [.bool true, .str "Address negative or too large for IPv6"]] = os7 at p7 ht7
            have hl7 := p7.length_le
            refine sv_cons (xv_assign G' (ev_local (v := .bytes (byteArr (pk 16 W))) G' ?_))
            refine sv_cons (xv_if (bv_cmp (ev_local (v := .int cy) G' (ev_int (co_ne (tt_bool ⟨fun _ => ?_, fun h => absurd h (by simpa using hcz)⟩))))))
            refine sv_cons (xv_assignS ["due", "accounts"] G' hh ?_ (by decide))
            refine ev_tuple (av_cons (ev_list (av_cons (ev_bool (av_cons (ev_str (av_nil ⟨by simp, av_cons (ev_local (v := .ref kl) G' (av_nil ⟨by simp, _, _, rfl, os_new _ _, rfl, sv_nil ?_⟩))⟩)))))))
            have p8 : os7 <+: os7 ++ [O.list [.bool true, .str "Address negative or too large for IPv6"]] ++ [O.tuple [.ref os7.length, .ref kl]] := ⟨[.list [.bool true, .str "Address negative or too large for IPv6"], .tuple [.ref os7.length, .ref kl]], by simp⟩
            have hd8 : (os7 ++ [O.list [.bool true, .str "Address negative or too large for IPv6"]] ++ [O.tuple [.ref os7.length, .ref kl]])[os7.length]? = some (.list [.bool true, .str "Address negative or too large for IPv6"]) := by simp
            show SV (C.kept kp) _ ⟨("due", .ref os7.length) :: ("accounts", .ref kl) :: _, os7 ++ [O.list [.bool true, .str "Address negative or too large for IPv6"]] ++ [O.tuple [.ref os7.length, .ref kl]]⟩ _
            generalize os7 ++ [O.list [.bool true, .str "Address negative or too large for IPv6"]] ++ [O.tuple [.ref os7.length, .ref kl]] = os8 at p8 hd8
            have ht8 := get_prefix p8 ht7
            refine sv_cons (xv_if (bv_or (or_cons (bv_cmp (ev_callT (ev_builtin G' htype ⟨rfl, av_cons (ev_local (v := .ref (os6.length + 2)) G' (av_nil (cl_type (v := .ref (os6.length + 2)) (T := "list") (.inl ⟨_, ht8, rfl⟩) rfl ?_)))⟩))))))
            refine ev_callT (ev_builtin G' htype ⟨rfl, av_cons (ev_local (v := .ref os7.length) G' (av_nil (cl_type (v := .ref os7.length) (T := "list") (.inl ⟨_, hd8, rfl⟩) rfl (co_isnot rfl (tt_bool ⟨fun h => absurd h (by decide), fun _ => ?_⟩)))))⟩)
            refine or_cons (bv_cmp (ev_local (v := .ref (os6.length + 2)) G' (ev_local (v := .ref os7.length) G' (co_neLS G' ?_ ht8 hd8 (tt_bool ⟨fun h => absurd h (by decide), fun _ => or_nil ⟨fun h => absurd h (by decide), fun _ => sv_nil ?_⟩⟩)))))
            · intro v hv
              simp at hv
              rcases hv with rfl | rfl <;> trivial
            have H8 := (H6.pre p7).pre p8
            have hl8 := p8.length_le
            have h3len := H3.len
            refine sv_nil ⟨⟨[("accounts", .ref kl)], os8⟩, ⟨by walk_at "sub", .inl rfl⟩, ?_, kl, Lf, os8, rfl, ⟨H8.cell, H8.src, get_prefix (p7.trans p8) hlf6, ⟨by omega, by omega⟩, H8.len, hLn⟩⟩
            show 5 ≤ os8.length
            exact H8.len
  · intro st' _
    exact sv_cons (xv_ret (ev_bool rfl))
end Mine
set_option maxHeartbeats 8000000 in
theorem PySem.Challenge.cw_dm0180_09_holds : PySem.Challenge.rw_dm0180_09.Holds := by
  open_k0
  rename Top _ _ _ _ _ _ => T
  rename Fr _ _ _ _ => F
  rename News _ _ _ _ => N0
  rename (_ = Data.cell _) => hcell
  rename Heap.IsList _ _ _ => hL
  rename IntsAre _ _ => hI
  rename Below _ _ _ _ => K0
  rename (¬ (_ < _)) => hlen
  refine Mine.enterCT (x := "script") [("whole", 0)] T F rfl N0 (by simp) (fun p hp => by rw [List.mem_singleton.mp hp]; exact ⟨_, hcell⟩) (fun x k h => ?_) ?_ ?_
  · have := Mine.lookup_mem h
    rw [List.mem_singleton] at this
    cases this
    exact ⟨_, rfl, rfl⟩
  · refine Mine.law_main ⟨rfl, rfl, rfl, rfl, T, ⟨fun _ _ e => e, by intro b h; cases h⟩, (by show callerA.depth + 1 + 3 < 500; decide), (by show callerA.units + 3 + 9 < 5000; decide), fun _ => ⟨_, _, K0, (by intro b h; cases h), .inl ⟨rfl, rfl⟩⟩⟩ rfl ⟨⟨_, rfl⟩, rfl⟩ rfl (List.mem_of_getElem? (i := 0) (by kernel_rfl)) (List.mem_of_getElem? (i := 1) (by kernel_rfl)) ?_ ?_ ?_ ?_ ?_ ?_ ?_ ?_ hL hI (by omega)
    all_goals exact Mine.bltC_of T (by kernel_rfl) (by decide) (by decide +kernel) (by decide +kernel) (by decide +kernel) (by decide +kernel) (by decide +kernel)
  · intro h' tk m' F'
    dsimp only
    kc_close
namespace Mine
end Mine
