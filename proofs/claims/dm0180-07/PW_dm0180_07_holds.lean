import PyProof.Rows.All
import Wide.All
import OpenK.AllK
import Wide.FinOn
import PySem.Challenge.RW_dm0180_07
open PySem PySem.W PyProof.Rows PySem.Calls
set_option Elab.async false
set_option maxRecDepth 100000
set_option maxHeartbeats 4000000
set_option linter.unusedVariables false
namespace Mine

/-- values without tokens and addresses; `ref k`: the k-th thing of the store -/
inductive V where
  | none | bool (b : Bool) | int (n : Int) | str (x : Str) | bytes (b : Array UInt8) | ref (k : Nat) | fix (v : Value)
inductive O where
  | list (vs : List V) | tuple (vs : List V) | cell (v : Option V) | range (a b c : Int) | words (x : Str) | exc (k : Nat) | raw (k : Nat) (a : Addr) (ob : Obj) | junk
structure St where
  m : List (Str × V)
  os : List O
inductive F where
  | next | brk | cont | ret (v : V)

def VR (ad : List Addr) : V → Value → Prop
  | .none, w => w = .none
  | .bool b, w => w = .bool b
  | .int n, w => ∃ t, w = .int n t
  | .str x, w => ∃ t, w = .str x t
  | .bytes b, w => ∃ t, w = .bytes b t
  | .ref k, w => ∃ a, ad[k]? = some a ∧ w = .ref a
  | .fix v, w => w = v
inductive VRs (ad : List Addr) : List V → List Value → Prop
  | nil : VRs ad [] []
  | cons {v w vs ws} : VR ad v w → VRs ad vs ws → VRs ad (v :: vs) (w :: ws)
abbrev tupOf (its : Array Value) (n : Nat) : Obj := { cls := .type "tuple", data := .seq its n }
def OR (ad : List Addr) : O → Obj → Prop
  | .list vs, o => ∃ ws n, o = listOf ws.toArray n ∧ VRs ad vs ws
  | .tuple vs, o => ∃ ws n, o = tupOf ws.toArray n ∧ VRs ad vs ws
  | .cell (some v), o => ∃ w, o.data = .cell (some w) ∧ VR ad v w
  | .cell .none, o => ∃ w, o.data = .cell w
  | .range a b c, o => ∃ t u v, o = { cls := .type "range", dict := none, data := .fields #[.int a t, .int b u, .int c v], slots := #[] }
  | .words x, o => o.cls = .type "tuple" ∧ ∃ n t, o.data = .seq #[.str x t] n
  | .exc k, o => o.cls = .type "ValueError" ∧ ∃ vs t, o.data = .fields vs ∧ vs[0]? = some (.ref t) ∧ ad[k]? = some t
  | .raw k a ob, o => o = ob ∧ ad[k]? = some a
  | .junk, _ => True
inductive ORs (ad : List Addr) : List O → List (Addr × Obj) → Prop
  | nil : ORs ad [] []
  | cons {o p os ps} : OR ad o p.2 → ORs ad os ps → ORs ad (o :: os) (p :: ps)
def MR (ad : List Addr) (l : List (Str × V)) (m : Str → Option Value) : Prop := ∀ x v, l.lookup x = some v → ∃ w, m x = some w ∧ VR ad v w

/-- a frame at work: its program, world, surroundings, environment, the heap below it; `kp`: objects that must stay as they are;
`cl`: the places of its cells in the store; the rest: what the top says -/
structure Cx where
  prog : Program
  w : World
  A : Around
  env : Env
  h₀ : Heap
  kp : List (Addr × Obj)
  cl : List (Str × Nat)
  p : Program
  loose : List Str
  mean : ExcName → Option Value
  mg : Str → Option Value
  mb : Str → Option Value
  base : Heap
  of : List Addr
abbrev Cx.M (C : Cx) : Model := model C.prog C.w
abbrev Cx.kept (C : Cx) (kp : List (Addr × Obj)) : Cx := { C with kp := kp }
/-- g is h₀, but for the slots of the frames `of` -/
structure Sim (h₀ : Heap) (of : List Addr) (g : Heap) : Prop where
  size : g.objs.size = h₀.objs.size
  non : ∀ b, h₀.get? b = none → g.get? b = none
  same : ∀ b o, h₀.get? b = some o → b ∉ of → g.get? b = some o
  slot : ∀ b o, h₀.get? b = some o → ∃ sl, g.get? b = some { o with slots := sl }
theorem Sim.refl (h₀ : Heap) (of : List Addr) : Sim h₀ of h₀ := ⟨rfl, fun _ e => e, fun _ _ e _ => e, fun _ o e => ⟨o.slots, e⟩⟩
theorem Sim.fresh {h₀ g : Heap} {of : List Addr} (k : Sim h₀ of g) {b : Addr} (e : g.get? b = none) : h₀.get? b = none := by
  cases q : h₀.get? b with
  | none => rfl
  | some o => obtain ⟨sl, h⟩ := k.slot b o q; rw [e] at h; cases h
/-- a heap between h₀ and h -/
theorem Sim.make {h₀ h : Heap} {of : List Addr} (h1 : ∀ b o, h₀.get? b = some o → b ∉ of → h.get? b = some o) (h2 : ∀ b o, h₀.get? b = some o → ∃ sl, h.get? b = some { o with slots := sl }) : ∃ g, Sim h₀ of g ∧ g.StaysIn h := by
  have key : ∀ l : List Addr, ∃ g : Heap, g.objs.size = h₀.objs.size ∧ (∀ b, h₀.get? b = none → g.get? b = none) ∧ (∀ b o, h₀.get? b = some o → b ∉ l → g.get? b = some o) ∧ (∀ b o, h₀.get? b = some o → ∃ sl, g.get? b = some { o with slots := sl }) ∧ (∀ b, b ∈ l → ∀ o, h₀.get? b = some o → ∃ sl, g.get? b = some { o with slots := sl } ∧ h.get? b = some { o with slots := sl }) := by
    intro l
    induction l with
    | nil => exact ⟨h₀, rfl, fun _ e => e, fun _ _ e _ => e, fun _ o e => ⟨o.slots, e⟩, fun _ hb => nomatch hb⟩
    | cons a l ih =>
      obtain ⟨g, k1, k2, k3, k4, k5⟩ := ih
      cases ha : h₀.get? a with
      | none =>
        refine ⟨g, k1, k2, fun b o e n => k3 b o e fun q => n (.tail _ q), k4, fun b hb o e => ?_⟩
        rcases List.mem_cons.mp hb with rfl | hb
        · rw [ha] at e; cases e
        · exact k5 b hb o e
      | some oa =>
        obtain ⟨sl, hsl⟩ := h2 a oa ha
        obtain ⟨sg, hsg⟩ := k4 a oa ha
        obtain ⟨x1, x2, x3⟩ := Heap.SlotsOnly.update hsg fun _ => sl
        have hself : (g.update a fun o => { o with slots := sl }).get? a = some { oa with slots := sl } := by
          refine (Heap.get?_update_self (o := { oa with slots := sg }) (fun o => { o with slots := sl }) hsg ?_)
          have hx := (Heap.get?_some_iff.mp hsl).2
          obtain ⟨c, d, dt, s0⟩ := oa
          cases dt <;> first | rfl | exact hx
        refine ⟨g.update a fun o => { o with slots := sl }, by rw [x1, k1], fun b e => ?_, fun b o e n => ?_, fun b o e => ?_, fun b hb o e => ?_⟩
        · have hne : b ∉ [a] := fun q => by rw [List.mem_singleton.mp q, ha] at e; cases e
          rw [x2 b hne]; exact k2 b e
        · rw [x2 b fun q => n (by rw [List.mem_singleton.mp q]; exact .head _)]
          exact k3 b o e fun q => n (.tail _ q)
        · obtain ⟨s1, e1⟩ := k4 b o e
          obtain ⟨s2, e2⟩ := x3 b _ e1
          exact ⟨s2, e2⟩
        · by_cases hba : b = a
          · subst hba
            rw [ha] at e
            cases e
            exact ⟨sl, hself, hsl⟩
          · rcases List.mem_cons.mp hb with q | hb
            · exact absurd q hba
            · obtain ⟨s1, e1, e2⟩ := k5 b hb o e
              exact ⟨s1, (x2 b fun q => hba (List.mem_singleton.mp q)).trans e1, e2⟩
  obtain ⟨g, k1, k2, k3, k4, k5⟩ := key of
  refine ⟨g, ⟨k1, k2, k3, k4⟩, fun b o e => ?_⟩
  cases q : h₀.get? b with
  | none => rw [k2 b q] at e; cases e
  | some o₀ =>
    by_cases hb : b ∈ of
    · obtain ⟨sl, e1, e2⟩ := k5 b hb o₀ q
      rw [e1] at e; cases e
      exact e2
    · rw [k3 b o₀ q hb] at e; cases e
      exact h1 b _ q hb
structure SR (C : Cx) (ad : List Addr) (st : St) (h : Heap) : Prop where
  ex : ∃ gg, Sim C.h₀ C.of gg ∧ ∃ m news, Fr gg C.env.locals h m ∧ News gg C.env.locals h (news ++ C.kp) ∧ news.map (·.1) = ad ∧ (ad ++ C.kp.map (·.1)).Nodup ∧ ORs ad st.os news ∧ MR ad st.m m
  cells : ∀ x k, C.cl.lookup x = some k → ∃ c, C.env.cells.lookup x = some c ∧ ad[k]? = some c
def Same (s s' : Shared) : Prop := ∃ h tk, s' = { s with heap := h, toks := tk }
theorem Same.rfl' (s : Shared) : Same s s := ⟨s.heap, s.toks, rfl⟩
theorem Same.trans {a b c : Shared} (h : Same a b) (h' : Same b c) : Same a c := by
  obtain ⟨h1, t1, rfl⟩ := h
  obtain ⟨h2, t2, rfl⟩ := h'
  exact ⟨h2, t2, rfl⟩
theorem Same.mk' (s : Shared) (h : Heap) (tk : Nat) : Same s { s with heap := h, toks := tk } := ⟨h, tk, rfl⟩
theorem Same.tk (s : Shared) (tk : Nat) : Same s { s with toks := tk } := ⟨s.heap, tk, rfl⟩
theorem Same.hp (s : Shared) (h : Heap) : Same s { s with heap := h } := ⟨h, s.toks, rfl⟩

abbrev No : Value → Shared → Prop := fun _ _ => False
/-- at a concrete state: the tree ends, in something the abstract post tells -/
structure At (C : Cx) (ad : List Addr) (s : Shared) {α β : Type} (rel : List Addr → β → α → Prop) (t : Sem α) (Q : β → St → Prop) : Prop where
  run : ∀ K : α → Shared → Prop, (∀ b st' s' ad' a, Q b st' → Same s s' → ad <+: ad' → SR C ad' st' s'.heap → rel ad' b a → K a s') → wpAny C.M C.A t K No s
structure Tr (C : Cx) {α β : Type} (rel : List Addr → β → α → Prop) (t : Sem α) (st : St) (Q : β → St → Prop) : Prop where
  go : ∀ s ad, SR C ad st s.heap → At C ad s rel t Q
def FR (ad : List Addr) : F → Flow → Prop
  | .next, f => f = .next
  | .brk, f => f = .brk
  | .cont, f => f = .cont
  | .ret v, f => ∃ w, f = .ret w ∧ VR ad v w
def BR (_ : List Addr) (b : Bool) (c : Bool) : Prop := c = b
def UR (_ : List Addr) (_ : Unit) (_ : Unit) : Prop := True

theorem VR.mono {ad ad' : List Addr} {v : V} {w : Value} (h : VR ad v w) (p : ad <+: ad') : VR ad' v w := by
  cases v with
  | ref k =>
    obtain ⟨a, ha, e⟩ := h
    refine ⟨a, ?_, e⟩
    obtain ⟨r, rfl⟩ := p
    rw [List.getElem?_append_left (List.getElem?_eq_some_iff.mp ha).1]
    exact ha
  | _ => exact h
theorem VRs.mono {ad ad' : List Addr} {vs : List V} {ws : List Value} (h : VRs ad vs ws) (p : ad <+: ad') : VRs ad' vs ws := by
  induction h with
  | nil => exact .nil
  | cons a _ ih => exact .cons (a.mono p) ih
theorem VRs.length {ad : List Addr} {vs : List V} {ws : List Value} (h : VRs ad vs ws) : ws.length = vs.length := by
  induction h with
  | nil => rfl
  | cons _ _ ih => simp [ih]
theorem VRs.append {ad : List Addr} {vs vs' : List V} {ws ws' : List Value} (h : VRs ad vs ws) (h' : VRs ad vs' ws') : VRs ad (vs ++ vs') (ws ++ ws') := by
  induction h with
  | nil => exact h'
  | cons a _ ih => exact .cons a ih
theorem VRs.get {ad : List Addr} {vs : List V} {ws : List Value} (h : VRs ad vs ws) {i : Nat} {v : V} (e : vs[i]? = some v) : ∃ w, ws[i]? = some w ∧ VR ad v w := by
  induction h generalizing i with
  | nil => cases e
  | cons a _ ih =>
    cases i with
    | zero => cases e; exact ⟨_, rfl, a⟩
    | succ i => exact ih e
theorem OR.mono {ad ad' : List Addr} {o : O} {p : Obj} (h : OR ad o p) (x : ad <+: ad') : OR ad' o p := by
  match o, h with
  | .list _, ⟨ws, n, e, hv⟩ => exact ⟨ws, n, e, hv.mono x⟩
  | .tuple _, ⟨ws, n, e, hv⟩ => exact ⟨ws, n, e, hv.mono x⟩
  | .cell (some _), ⟨w, e, hv⟩ => exact ⟨w, e, hv.mono x⟩
  | .cell .none, h => exact h
  | .range _ _ _, h => exact h
  | .words _, h => exact h
  | .exc k, ⟨h1, vs, t, h2, h3, h4⟩ =>
    refine ⟨h1, vs, t, h2, h3, ?_⟩
    obtain ⟨r, rfl⟩ := x
    rw [List.getElem?_append_left (List.getElem?_eq_some_iff.mp h4).1]
    exact h4
  | .raw k a ob, ⟨h1, h2⟩ =>
    refine ⟨h1, ?_⟩
    obtain ⟨r, rfl⟩ := x
    rw [List.getElem?_append_left (List.getElem?_eq_some_iff.mp h2).1]
    exact h2
  | .junk, _ => exact trivial
theorem ORs.mono {ad ad' : List Addr} {os : List O} {ps : List (Addr × Obj)} (h : ORs ad os ps) (x : ad <+: ad') : ORs ad' os ps := by
  induction h with
  | nil => exact .nil
  | cons a _ ih => exact .cons (a.mono x) ih
theorem ORs.length {ad : List Addr} {os : List O} {ps : List (Addr × Obj)} (h : ORs ad os ps) : ps.length = os.length := by
  induction h with
  | nil => rfl
  | cons _ _ ih => simp [ih]
theorem ORs.append {ad : List Addr} {os os' : List O} {ps ps' : List (Addr × Obj)} (h : ORs ad os ps) (h' : ORs ad os' ps') : ORs ad (os ++ os') (ps ++ ps') := by
  induction h with
  | nil => exact h'
  | cons a _ ih => exact .cons a ih
theorem ORs.get {ad : List Addr} {os : List O} {ps : List (Addr × Obj)} (h : ORs ad os ps) {i : Nat} {o : O} (e : os[i]? = some o) : ∃ p, ps[i]? = some p ∧ OR ad o p.2 := by
  induction h generalizing i with
  | nil => cases e
  | cons a _ ih =>
    cases i with
    | zero => cases e; exact ⟨_, rfl, a⟩
    | succ i => exact ih e
theorem ORs.set {ad : List Addr} {os : List O} {ps : List (Addr × Obj)} (h : ORs ad os ps) (i : Nat) {o : O} {a : Addr} {p : Obj} (hp : OR ad o p) : ORs ad (os.set i o) (ps.set i (a, p)) := by
  induction h generalizing i with
  | nil => exact .nil
  | cons b h ih =>
    cases i with
    | zero => exact .cons hp h
    | succ i => exact .cons b (ih i)
theorem ORs.take {ad : List Addr} {os : List O} {ps : List (Addr × Obj)} (h : ORs ad os ps) (i : Nat) : ORs ad (os.take i) (ps.take i) := by
  induction h generalizing i with
  | nil => simp; exact .nil
  | cons a _ ih =>
    cases i with
    | zero => exact .nil
    | succ i => exact .cons a (ih i)
theorem MR.mono {ad ad' : List Addr} {l : List (Str × V)} {m : Str → Option Value} (h : MR ad l m) (x : ad <+: ad') : MR ad' l m := fun y v e => by
  obtain ⟨w, a, b⟩ := h y v e
  exact ⟨w, a, b.mono x⟩
theorem MR.store {ad : List Addr} {l : List (Str × V)} {m : Str → Option Value} (h : MR ad l m) {x : Str} {v : V} {w : Value} (hv : VR ad v w) : MR ad ((x, v) :: l) (fun y => if y = x then some w else m y) := fun y u e => by
  rw [List.lookup_cons] at e
  by_cases hy : y = x
  · subst hy
    simp at e
    subst e
    exact ⟨w, by simp, hv⟩
  · have : (y == x) = false := by simpa using hy
    rw [this] at e
    obtain ⟨w', a, b⟩ := h y u e
    exact ⟨w', by simp [hy, a], b⟩

section
variable {C : Cx} {ad : List Addr} {st : St} {h : Heap}
/-- what is known of the locals may be less -/
def Sub (l l' : List (Str × V)) : Prop := ∀ x v, l.lookup x = some v → l'.lookup x = some v
theorem SR.weak (hs : SR C ad st h) {l : List (Str × V)} (e : Sub l st.m) : SR C ad ⟨l, st.os⟩ h := by
  obtain ⟨⟨gg, hgg, m, news, a, b, c, d, o, r⟩, hc⟩ := hs
  exact ⟨⟨gg, hgg, m, news, a, b, c, d, o, fun x v q => r x v (e x v q)⟩, hc⟩
end
/-- the store cut to its first n things; the locals must speak of these alone -/
def V.below (n : Nat) : V → Prop
  | .ref k => k < n
  | _ => True
def O.below (n : Nat) : O → Prop
  | .list vs => ∀ v ∈ vs, v.below n
  | .tuple vs => ∀ v ∈ vs, v.below n
  | .cell (some v) => v.below n
  | .exc k => k < n
  | .raw k _ _ => k < n
  | _ => True
theorem VR.cut {ad : List Addr} {n : Nat} {v : V} {w : Value} (h : VR ad v w) (b : v.below n) : VR (ad.take n) v w := by
  cases v with
  | ref k =>
    obtain ⟨a, ha, e⟩ := h
    refine ⟨a, ?_, e⟩
    rw [List.getElem?_take, if_pos (show k < n from b)]
    exact ha
  | _ => exact h
theorem VRs.cut {ad : List Addr} {n : Nat} {vs : List V} {ws : List Value} (h : VRs ad vs ws) (b : ∀ v ∈ vs, v.below n) : VRs (ad.take n) vs ws := by
  induction h with
  | nil => exact .nil
  | cons a _ ih => exact .cons (a.cut (b _ (.head _))) (ih fun v hv => b v (.tail _ hv))
theorem OR.cut {ad : List Addr} {n : Nat} {o : O} {p : Obj} (h : OR ad o p) (b : o.below n) : OR (ad.take n) o p := by
  match o, h, b with
  | .list _, ⟨ws, k, e, hv⟩, b => exact ⟨ws, k, e, hv.cut b⟩
  | .tuple _, ⟨ws, k, e, hv⟩, b => exact ⟨ws, k, e, hv.cut b⟩
  | .cell (some _), ⟨w, e, hv⟩, b => exact ⟨w, e, hv.cut b⟩
  | .cell .none, h, _ => exact h
  | .range _ _ _, h, _ => exact h
  | .words _, h, _ => exact h
  | .exc k, ⟨h1, vs, t, h2, h3, h4⟩, b =>
    refine ⟨h1, vs, t, h2, h3, ?_⟩
    rw [List.getElem?_take, if_pos (show k < n from b)]
    exact h4
  | .raw k a ob, ⟨h1, h2⟩, b =>
    refine ⟨h1, ?_⟩
    rw [List.getElem?_take, if_pos (show k < n from b)]
    exact h2
  | .junk, _, _ => exact trivial
theorem ORs.cut {ad : List Addr} {n : Nat} {os : List O} {ps : List (Addr × Obj)} (h : ORs ad os ps) (b : ∀ o ∈ os, o.below n) : ORs (ad.take n) os ps := by
  induction h with
  | nil => exact .nil
  | cons a _ ih => exact .cons (a.cut (b _ (.head _))) (ih fun v hv => b v (.tail _ hv))
/-- less is known: fewer locals; the store as it is, or cut -/
structure Cut (C : Cx) (st st' : St) : Prop where
  os : st'.os = st.os.take st'.os.length
  lb : ∀ x v, st'.m.lookup x = some v → v.below st'.os.length
  ob : ∀ o ∈ st'.os, o.below st'.os.length
  cb : ∀ x k, C.cl.lookup x = some k → k < st'.os.length
def Wk (C : Cx) (st st' : St) : Prop := Sub st'.m st.m ∧ (st'.os = st.os ∨ Cut C st st')
theorem SR.wk {C : Cx} {ad : List Addr} {st st' : St} {h : Heap} (hs : SR C ad st h) (k : Wk C st st') : ∃ ad', SR C ad' st' h ∧ ∀ ad₀, ad₀ <+: ad → ad₀.length ≤ st'.os.length → ad₀ <+: ad' := by
  obtain ⟨sub, ho | k⟩ := k
  · have := hs.weak sub
    rw [← ho] at this
    exact ⟨ad, this, fun _ p _ => p⟩
  · refine ⟨ad.take st'.os.length, ?_, fun ad₀ p hn => ?_⟩
    · obtain ⟨⟨gg, hgg, m, news, a, b, c, d, o, r⟩, hc⟩ := hs
      refine ⟨⟨gg, hgg, m, news.take st'.os.length, a, fun p hp => b p ?_, by rw [List.map_take, c], ?_, ?_, fun x v q => ?_⟩, fun x i q => ?_⟩
      · rcases List.mem_append.mp hp with hp | hp
        · exact List.mem_append_left _ (List.mem_of_mem_take hp)
        · exact List.mem_append_right _ hp
      · exact d.sublist ((List.take_sublist _ _).append (List.Sublist.refl _))
      · have := (o.take st'.os.length).cut (n := st'.os.length) (by rw [← k.os]; exact k.ob)
        rw [← k.os] at this
        exact this
      · obtain ⟨w, q1, q2⟩ := r x v (sub x v q)
        exact ⟨w, q1, q2.cut (k.lb x v q)⟩
      · obtain ⟨c', q1, q2⟩ := hc x i q
        exact ⟨c', q1, by rw [List.getElem?_take, if_pos (k.cb x i q)]; exact q2⟩
    · obtain ⟨r, rfl⟩ := p
      rw [List.take_append]
      exact ⟨r.take (st'.os.length - ad₀.length), by rw [List.take_of_length_le hn]⟩
theorem SR.len {C : Cx} {ad : List Addr} {st : St} {h : Heap} (hs : SR C ad st h) : ad.length = st.os.length := by
  obtain ⟨⟨gg, hgg, m, news, _, _, c, _, o, _⟩, _⟩ := hs
  rw [← c, List.length_map, o.length]
theorem Sub.nil {l : List (Str × V)} : Sub [] l := fun _ _ h => nomatch h
theorem Sub.cons {x : Str} {v : V} {l l' : List (Str × V)} (hx : l'.lookup x = some v) (h : Sub l l') : Sub ((x, v) :: l) l' := fun y u e => by
  rw [List.lookup_cons] at e
  by_cases hy : y = x
  · subst hy
    simp at e
    rw [hx, e]
  · have : (y == x) = false := by simpa using hy
    rw [this] at e
    exact h y u e
section
variable {C : Cx} {α β : Type} {rel : List Addr → β → α → Prop} {t : Sem α} {st : St} {Q Q' : β → St → Prop} {s : Shared} {ad : List Addr}
theorem At.mono (h : At C ad s rel t Q) (hq : ∀ b st', Q b st' → Q' b st') : At C ad s rel t Q' := .mk fun K hK => h.run K fun b st' s' ad' a q => hK b st' s' ad' a (hq _ _ q)
/-- a step that moves only the tokens -/
theorem At.tick {a : α} {b : β} (hs : SR C ad st s.heap) (hq : Q b st) (hr : rel ad b a) (h : ∀ K : α → Shared → Prop, (∀ tk, K a { s with toks := tk }) → wpAny C.M C.A t K No s) : At C ad s rel t Q :=
  .mk fun K hK => h K fun tk => hK b st _ ad a hq (Same.tk s tk) (List.prefix_refl _) hs hr
theorem At.stay {a : α} {b : β} (hs : SR C ad st s.heap) (hq : Q b st) (hr : rel ad b a) (h : ∀ K : α → Shared → Prop, K a s → wpAny C.M C.A t K No s) : At C ad s rel t Q :=
  .mk fun K hK => h K (hK b st s ad a hq (Same.rfl' s) (List.prefix_refl _) hs hr)
end
end Mine
namespace Mine
/-- what the walk needs of the top -/
structure Tp (p : Program) (mg mb : Str → Option Value) (h : Heap) : Prop where
  g : h.Ns mainGlobals mg
  b : h.Ns builtinsNs mb
  nolimit : h.NoLimit
  fn : ∀ d ∈ recsOf p, ∃ a o pm code doc, mg d.name = some (.ref a) ∧ h.get? a = some o ∧ o.data = .func (docDef d.name d.params d.body d.scope pm code doc) ∧ h.CodeRec code d.name
  builtins : ∀ x : Str, x ≠ "__name__" → mb x = bootBuiltins x
  bmain : ∃ bm ob, mg "__builtins__" = some (.ref bm) ∧ bm ≠ builtinsNs ∧ h.get? bm = some ob ∧ ob.cls = .type "module" ∧ ob.dict = some builtinsNs ∧ ob.data = .plain
structure Gd (C : Cx) (sc : Scope) (lv : Nat) : Prop where
  scope : C.env.scope = sc
  kind : sc.kind = .function
  glob : C.env.globals = mainGlobals
  blt : C.env.builtins = builtinsNs
  top : Tp C.p C.mg C.mb C.base
  st : C.base.StaysIn C.h₀ ∧ ∀ b ∈ C.of, C.base.get? b = none ∧ ∃ o, C.h₀.get? b = some o ∧ (∀ vs, o.data ≠ .fields vs) ∧ ∀ vs n, o.data ≠ .seq vs n
  depth : C.A.depth + lv < 500
  units : C.A.units + 3 * lv < 5000
  bel : 0 < lv → ∃ A₀ outer, Below A₀ C.base outer C.h₀ ∧ (∀ b ∈ outer.filterMap (·.frame), b ∈ C.of) ∧ ((C.A.frames = some (C.env :: outer) ∧ C.env.frame = some C.env.locals) ∨ A₀ = C.A)
theorem Gd.stays {C : Cx} {sc : Scope} {lv : Nat} (G : Gd C sc lv) {g : Heap} (k : Sim C.h₀ C.of g) : C.base.StaysIn g := fun b o e => k.same b o (G.st.1 b o e) fun q => by rw [(G.st.2 b q).1] at e; cases e
theorem Gd.keep {C : Cx} {sc : Scope} {lv : Nat} (G : Gd C sc lv) {g h : Heap} {m : Str → Option Value} (k : Sim C.h₀ C.of g) (F : Fr g C.env.locals h m) : C.base.StaysIn h := fun b o e => F.keep b o (G.stays k b o e)
theorem Gd.kept {C : Cx} {sc : Scope} {lv : Nat} (G : Gd C sc lv) (kp : List (Addr × Obj)) : Gd (C.kept kp) sc lv := ⟨G.scope, G.kind, G.glob, G.blt, G.top, G.st, G.depth, G.units, G.bel⟩

/-- a name of the built-in ones, not bound by the text -/
def Blt (C : Cx) (x : Str) (v : Value) : Prop := C.mg x = none ∧ bootBuiltins x = some v ∧ x ≠ "__name__"
structure EV (C : Cx) (e : Expr) (st : St) (Q : V → St → Prop) : Prop where
  go : ∀ s ad, SR C ad st s.heap → At C ad s VR (eval e C.env) Q
structure BV (C : Cx) (e : Expr) (st : St) (Q : Bool → St → Prop) : Prop where
  go : ∀ s ad, SR C ad st s.heap → At C ad s BR (isTrue e C.env (eval e C.env)) Q
structure SV (C : Cx) (ss : List Stmt) (st : St) (Q : F → St → Prop) : Prop where
  go : ∀ s ad, SR C ad st s.heap → At C ad s FR (execs ss C.env) Q
structure XV (C : Cx) (x : Stmt) (st : St) (Q : F → St → Prop) : Prop where
  go : ∀ s ad, SR C ad st s.heap → At C ad s FR (exec x C.env) Q
structure AT (C : Cx) (op : BoolOp) (es : List Expr) (st : St) (Q : Bool → St → Prop) : Prop where
  go : ∀ s ad, SR C ad st s.heap → At C ad s BR (allTrue op es C.env) Q
structure BO (C : Cx) (op : Operator) (a b : V) (st : St) (Q : V → St → Prop) : Prop where
  go : ∀ s ad va vb, SR C ad st s.heap → VR ad a va → VR ad b vb → At C ad s VR (binaryOp op va vb) Q
structure CO (C : Cx) (op : CmpOp) (a b : V) (st : St) (Q : V → St → Prop) : Prop where
  go : ∀ s ad va vb, SR C ad st s.heap → VR ad a va → VR ad b vb → At C ad s VR (compareOp op va vb) Q
structure UO (C : Cx) (op : UnaryOp) (a : V) (st : St) (Q : V → St → Prop) : Prop where
  go : ∀ s ad va, SR C ad st s.heap → VR ad a va → At C ad s VR (unaryOp op va) Q
structure TT (C : Cx) (a : V) (st : St) (Q : Bool → St → Prop) : Prop where
  go : ∀ s ad va, SR C ad st s.heap → VR ad a va → At C ad s BR (truthy va) Q
structure CL (C : Cx) (f : Value) (vs : List V) (st : St) (Q : V → St → Prop) : Prop where
  go : ∀ s ad ws, SR C ad st s.heap → VRs ad vs ws → At C ad s VR (call f ws) Q
structure AV (C : Cx) (pos : Pos) (es : List Expr) (st : St) (Q : List V → St → Prop) : Prop where
  go : ∀ s ad, SR C ad st s.heap → At C ad s VRs (spliced (backTo pos (starEach es C.env))) Q
def Nx (C : Cx) (rest : List Stmt) (Q : F → St → Prop) : F → St → Prop
  | .next, st => SV C rest st Q
  | f, st => Q f st
abbrev St.set (st : St) (x : Str) (v : V) : St := ⟨(x, v) :: st.m, st.os⟩

section
variable {C : Cx} {st : St} {l : List (Str × V)}
theorem EV.mono {e : Expr} {Q Q' : V → St → Prop} (h : EV C e st Q) (hq : ∀ b st', Q b st' → Q' b st') : EV C e st Q' := .mk fun s ad hs => (h.go s ad hs).mono hq
end
section
variable {C : Cx} {sc : Scope} {lv : Nat} {st : St} {Q : V → St → Prop} {pos : Pos}
theorem ev_int {n : Int} {k : Nat} (h : Q (.int n) st) : EV C (.Constant (.int n) k pos) st Q := .mk fun s ad hs =>
  At.tick (a := .int n s.toks) hs h ⟨_, rfl⟩ fun _ hK => wpAny_Constant_int (hK _)
theorem ev_str {x : Str} {k : Nat} (h : Q (.str x) st) : EV C (.Constant (.str x) k pos) st Q := .mk fun s ad hs =>
  At.tick (a := .str x s.toks) hs h ⟨_, rfl⟩ fun _ hK => Constant_str (hK _)
theorem load_local {x : Str} {v : V} (G : Gd C sc lv) (hv : st.m.lookup x = some v) (hl : sc.names.lookup x = some .local) (h : Q v st) : Tr C VR (loadName C.env x) st Q := .mk fun s ad hs => by
  obtain ⟨gg, hgg, m, news, F, N, c, d, o, r⟩ := hs.ex
  obtain ⟨w, hw, hr⟩ := r x v hv
  refine At.stay (a := w) hs h hr fun K hK => ?_
  exact wpAny_loadName_local (by rw [G.scope]; exact G.kind) (by rw [Env.kindOf, G.scope]; exact hl) F.ns hw hK
theorem ev_local {x : Str} {v : V} (G : Gd C sc lv) (h : Q v st) (hv : st.m.lookup x = some v := by rfl) (hl : sc.names.lookup x = some .local := by rfl) (hd : (x == ("__debug__" : Str)) = false := by rfl) : EV C (.Name x pos) st Q := .mk fun s ad hs => At.mk fun K hK =>
  wpAny_Name (((load_local G hv hl h).go s ad hs).run K hK) hd
theorem ev_cell {x : Str} {k : Nat} {v : V} (G : Gd C sc lv) (h : Q v st) (hk : C.cl.lookup x = some k := by rfl) (hv : st.os[k]? = some (.cell (some v)) := by rfl) (hl : sc.names.lookup x = some .cell := by rfl) (hd : (x == ("__debug__" : Str)) = false := by rfl) : EV C (.Name x pos) st Q := .mk fun s ad hs => At.mk fun K hK => by
  obtain ⟨gg, hgg, m, news, F, N, c, d, o, r⟩ := hs.ex
  obtain ⟨a, ha, hc⟩ := hs.cells x k hk
  obtain ⟨p, hp, w, hw, hr⟩ := o.get hv
  have hpa : p.1 = a := by
    have : (news.map (·.1))[k]? = some p.1 := by rw [List.getElem?_map, hp]; rfl
    rw [c, hc] at this
    exact (Option.some.inj this).symm
  have hg := (N p (List.mem_append_left _ (List.mem_of_getElem? hp))).1
  rw [hpa] at hg
  exact wpAny_Name (wpAny_loadName_cell (by rw [G.scope]; exact G.kind) (by rw [Env.kindOf, G.scope]; exact hl) ha ⟨_, hg, hw⟩ (hK v st s ad w h (Same.rfl' s) (List.prefix_refl _) hs hr)) hd
theorem ev_free {x : Str} {k : Nat} {v : V} (G : Gd C sc lv) (h : Q v st) (hk : C.cl.lookup x = some k := by rfl) (hv : st.os[k]? = some (.cell (some v)) := by rfl) (hl : sc.names.lookup x = some .free := by rfl) (hd : (x == ("__debug__" : Str)) = false := by rfl) (hn : (x == ("__classdict__" : Str)) = false := by rfl) : EV C (.Name x pos) st Q := .mk fun s ad hs => At.mk fun K hK => by
  obtain ⟨gg, hgg, m, news, F, N, c, d, o, r⟩ := hs.ex
  obtain ⟨a, ha, hc⟩ := hs.cells x k hk
  obtain ⟨p, hp, w, hw, hr⟩ := o.get hv
  have hpa : p.1 = a := by
    have : (news.map (·.1))[k]? = some p.1 := by rw [List.getElem?_map, hp]; rfl
    rw [c, hc] at this
    exact (Option.some.inj this).symm
  have hg := (N p (List.mem_append_left _ (List.mem_of_getElem? hp))).1
  rw [hpa] at hg
  exact wpAny_Name (wpAny_loadName_free (by rw [G.scope]; exact G.kind) (by rw [Env.kindOf, G.scope]; exact hl) ha ⟨_, hg, hw⟩ (hK v st s ad w h (Same.rfl' s) (List.prefix_refl _) hs hr) hn) hd
theorem ev_global {x : Str} {v : Value} (G : Gd C sc lv) (hv : C.mg x = some v) (h : Q (.fix v) st) (hl : sc.names.lookup x = some .globalImplicit := by rfl) (hd : (x == ("__debug__" : Str)) = false := by rfl) : EV C (.Name x pos) st Q := .mk fun s ad hs => by
  obtain ⟨gg, hgg, m, news, F, N, c, d, o, r⟩ := hs.ex
  refine At.stay (a := v) hs h rfl fun K hK => ?_
  exact Name_function_global (by rw [G.scope]; exact G.kind) (by rw [Env.kindOf, G.scope]; exact hl) (loadGlobal_global (by rw [G.glob]; exact G.top.g.keeps (G.keep hgg F)) hv hK) hd
theorem ev_builtin {x : Str} {v : Value} (G : Gd C sc lv) (hb : Blt C x v) (h : Q (.fix v) st) (hl : sc.names.lookup x = some .globalImplicit := by rfl) (hd : (x == ("__debug__" : Str)) = false := by rfl) : EV C (.Name x pos) st Q := .mk fun s ad hs => by
  obtain ⟨hm, hv, hn⟩ := hb
  obtain ⟨gg, hgg, m, news, F, N, c, d, o, r⟩ := hs.ex
  refine At.stay (a := v) hs h rfl fun K hK => ?_
  exact Name_function_global (by rw [G.scope]; exact G.kind) (by rw [Env.kindOf, G.scope]; exact hl) (loadGlobal_builtin (by rw [G.glob]; exact G.top.g.keeps (G.keep hgg F)) hm (by rw [G.blt]; exact G.top.b.keeps (G.keep hgg F)) ((G.top.builtins x hn).trans hv) hK) hd
theorem ev_binop {l r : Expr} {op : Operator} (h : EV C l st (fun a st1 => EV C r st1 (fun b st2 => BO C op a b st2 Q))) : EV C (.BinOp l op r pos) st Q := .mk fun s ad hs => At.mk fun K hK =>
  wpAny_BinOp ((h.go s ad hs).run _ fun _ st1 s1 ad1 va q1 e1 p1 hs1 r1 => (q1.go s1 ad1 hs1).run _ fun _ st2 s2 ad2 vb q2 e2 p2 hs2 r2 => (q2.go s2 ad2 va vb hs2 (r1.mono p2) r2).run K fun v st3 s3 ad3 w q3 e3 p3 hs3 r3 =>
    hK v st3 s3 ad3 w q3 (e1.trans (e2.trans e3)) (p1.trans (p2.trans p3)) hs3 r3)
theorem ev_unop {x : Expr} {op : UnaryOp} (h : EV C x st (fun a st1 => UO C op a st1 Q)) : EV C (.UnaryOp op x pos) st Q := .mk fun s ad hs => At.mk fun K hK =>
  wpAny_UnaryOp ((h.go s ad hs).run _ fun _ st1 s1 ad1 va q1 e1 p1 hs1 r1 => (q1.go s1 ad1 va hs1 r1).run K fun v st3 s3 ad3 w q3 e3 p3 hs3 r3 => hK v st3 s3 ad3 w q3 (e1.trans e3) (p1.trans p3) hs3 r3)
theorem ev_cmp {l r : Expr} {op : CmpOp} (h : EV C l st (fun a st1 => EV C r st1 (fun b st2 => CO C op a b st2 Q))) (hm : behindInMarks op r = false := by rfl) : EV C (.Compare l [op] [r] pos) st Q := .mk fun s ad hs => At.mk fun K hK =>
  wpAny_Compare1 ((h.go s ad hs).run _ fun _ st1 s1 ad1 va q1 e1 p1 hs1 r1 => (q1.go s1 ad1 hs1).run _ fun _ st2 s2 ad2 vb q2 e2 p2 hs2 r2 => (q2.go s2 ad2 va vb hs2 (r1.mono p2) r2).run K fun v st3 s3 ad3 w q3 e3 p3 hs3 r3 =>
    hK v st3 s3 ad3 w q3 (e1.trans (e2.trans e3)) (p1.trans (p2.trans p3)) hs3 r3) hm
theorem ev_and {e₁ e₂ : Expr} {rest : List Expr} (h : EV C e₁ st (fun v st1 => TT C v st1 (fun c st2 => (c = true → EV C (.BoolOp .And (e₂ :: rest) pos) st2 Q) ∧ (c = false → Q v st2)))) : EV C (.BoolOp .And (e₁ :: e₂ :: rest) pos) st Q := .mk fun s ad hs => At.mk fun K hK =>
  BoolOp_and ((h.go s ad hs).run _ fun v st1 s1 ad1 va q1 e1 p1 hs1 r1 => (q1.go s1 ad1 va hs1 r1).run _ fun c st2 s2 ad2 c' q2 e2 p2 hs2 r2 => by
    cases r2
    cases c with
    | true => exact ((q2.1 rfl).go s2 ad2 hs2).run K fun v st3 s3 ad3 w q3 e3 p3 hs3 r3 => hK v st3 s3 ad3 w q3 (e1.trans (e2.trans e3)) (p1.trans (p2.trans p3)) hs3 r3
    | false => exact hK v st2 s2 ad2 va (q2.2 rfl) (e1.trans e2) (p1.trans p2) hs2 (r1.mono p2))
theorem ev_one {e : Expr} {op : BoolOp} (h : EV C e st Q) : EV C (.BoolOp op [e] pos) st Q := .mk fun s ad hs => At.mk fun K hK => BoolOp_one ((h.go s ad hs).run K hK)
end

section
variable {C : Cx} {sc : Scope} {lv : Nat} {st : St} {Q : Bool → St → Prop} {pos : Pos}
theorem bv_cmp {l r : Expr} {op : CmpOp} (h : EV C l st (fun a st1 => EV C r st1 (fun b st2 => CO C op a b st2 (fun c st3 => TT C c st3 Q)))) (hm : behindInMarks op r = false := by rfl) : BV C (.Compare l [op] [r] pos) st Q := .mk fun s ad hs => At.mk fun K hK =>
  wpAny_isTrue_Compare1 ((h.go s ad hs).run _ fun _ st1 s1 ad1 va q1 e1 p1 hs1 r1 => (q1.go s1 ad1 hs1).run _ fun _ st2 s2 ad2 vb q2 e2 p2 hs2 r2 => (q2.go s2 ad2 va vb hs2 (r1.mono p2) r2).run _ fun v st3 s3 ad3 w q3 e3 p3 hs3 r3 =>
    (q3.go s3 ad3 w hs3 r3).run K fun b st4 s4 ad4 b' q4 e4 p4 hs4 r4 => hK b st4 s4 ad4 b' q4 (e1.trans (e2.trans (e3.trans e4))) (p1.trans (p2.trans (p3.trans p4))) hs4 r4) hm
theorem bv_not {x : Expr} (h : BV C x st (fun b st1 => Q (!b) st1)) : BV C (.UnaryOp .Not x pos) st Q := .mk fun s ad hs => At.mk fun K hK =>
  wpAny_isTrue_Not ((h.go s ad hs).run _ fun b st1 s1 ad1 b' q1 e1 p1 hs1 r1 => hK (!b) st1 s1 ad1 _ q1 e1 p1 hs1 (by cases r1; rfl))
theorem bv_or {op : BoolOp} {es : List Expr} (h : AT C op es st Q) : BV C (.BoolOp op es pos) st Q := .mk fun s ad hs => At.mk fun K hK => wpAny_isTrue_BoolOp ((h.go s ad hs).run K hK)
theorem or_nil (h : Q false st) : AT C .Or [] st Q := .mk fun s ad hs => At.stay (a := false) hs h rfl fun _ hK => wpAny_allTrue_Or_nil hK
theorem or_cons {x : Expr} {rest : List Expr} (h : BV C x st (fun b st1 => (b = true → Q true st1) ∧ (b = false → AT C .Or rest st1 Q))) : AT C .Or (x :: rest) st Q := .mk fun s ad hs => At.mk fun K hK =>
  wpAny_allTrue_Or_cons ((h.go s ad hs).run _ fun b st1 s1 ad1 b' q1 e1 p1 hs1 r1 => by
    cases r1
    cases b with
    | true => exact hK true st1 s1 ad1 _ (q1.1 rfl) e1 p1 hs1 rfl
    | false => exact ((q1.2 rfl).go s1 ad1 hs1).run K fun b st4 s4 ad4 b' q4 e4 p4 hs4 r4 => hK b st4 s4 ad4 b' q4 (e1.trans e4) (p1.trans p4) hs4 r4)
theorem and_cons {x : Expr} {rest : List Expr} (h : BV C x st (fun b st1 => (b = true → AT C .And rest st1 Q) ∧ (b = false → Q false st1))) : AT C .And (x :: rest) st Q := .mk fun s ad hs => At.mk fun K hK =>
  wpAny_allTrue_And_cons ((h.go s ad hs).run _ fun b st1 s1 ad1 b' q1 e1 p1 hs1 r1 => by
    cases r1
    cases b with
    | false => exact hK false st1 s1 ad1 _ (q1.2 rfl) e1 p1 hs1 rfl
    | true => exact ((q1.1 rfl).go s1 ad1 hs1).run K fun b st4 s4 ad4 b' q4 e4 p4 hs4 r4 => hK b st4 s4 ad4 b' q4 (e1.trans e4) (p1.trans p4) hs4 r4)
theorem bv_val {e : Expr} (h : EV C e st (fun v st1 => TT C v st1 Q)) (he : isTrue e C.env (eval e C.env) = (do let v ← eval e C.env; standAt e.pos; holding [v] (truthy v)) := by rfl) : BV C e st Q := .mk fun s ad hs => At.mk fun K hK =>
  isTrue_plain ((h.go s ad hs).run _ fun v st1 s1 ad1 va q1 e1 p1 hs1 r1 => (q1.go s1 ad1 va hs1 r1).run K fun b st4 s4 ad4 b' q4 e4 p4 hs4 r4 => hK b st4 s4 ad4 b' q4 (e1.trans e4) (p1.trans p4) hs4 r4) he
theorem tt_bool {b : Bool} (h : Q b st) : TT C (.bool b) st Q := .mk fun s ad va hs r => by
  cases r
  exact At.stay (a := b) hs h rfl fun _ hK => wpAny_truthy_bool hK
end

section
variable {C : Cx} {sc : Scope} {lv : Nat} {st : St} {Q : V → St → Prop} {x y : Int}
theorem bo_mod (hy : 0 < y) (h : Q (.int (x % y)) st) : BO C .Mod (.int x) (.int y) st Q := .mk fun s ad va vb hs ⟨t, e⟩ ⟨u, f⟩ => by
  subst e f
  refine At.tick (a := .int _ s.toks) hs h ⟨_, rfl⟩ fun K hK => mod_int' (by omega) ?_
  rw [Int.fmod_eq_emod_of_nonneg x (Int.le_of_lt hy)]
  exact hK _
theorem bo_pow (hn : 0 ≤ y) (hsz : (Builtin.Int.intBits x : Int) * y ≤ 2 ^ 27) (h : Q (.int (x ^ y.toNat)) st) : BO C .Pow (.int x) (.int y) st Q := .mk fun s ad va vb hs ⟨t, e⟩ ⟨u, f⟩ => by
  subst e f; exact At.tick (a := .int _ s.toks) hs h ⟨_, rfl⟩ fun _ hK => pow_int hn hsz (hK _)
theorem uo_neg (h : Q (.int (-x)) st) : UO C .USub (.int x) st Q := .mk fun s ad va hs ⟨t, e⟩ => by
  subst e; exact At.tick (a := .int _ s.toks) hs h ⟨_, rfl⟩ fun _ hK => P.neg_int (hK _)
theorem co_ne (h : Q (.bool (x != y)) st) : CO C .NotEq (.int x) (.int y) st Q := .mk fun s ad va vb hs ⟨t, e⟩ ⟨u, f⟩ => by
  subst e f; exact At.stay (a := .bool _) hs h rfl fun _ hK => P.ne_int hK
end

/-! statements -/
section
variable {C : Cx} {sc : Scope} {lv : Nat} {st : St} {Q : F → St → Prop} {pos : Pos}
theorem sv_nil (h : Q .next st) : SV C [] st Q := .mk fun s ad hs => At.stay (a := .next) hs h rfl fun _ hK => wpAny_execs_nil hK
theorem sv_cons {x : Stmt} {rest : List Stmt} (h : XV C x st (Nx C rest Q)) : SV C (x :: rest) st Q := .mk fun s ad hs => At.mk fun K hK =>
  wpAny_execs_cons ((h.go s ad hs).run _ fun f st1 s1 ad1 f' q1 e1 p1 hs1 r1 => by
    cases f with
    | next =>
      cases r1
      exact (q1.go s1 ad1 hs1).run K fun f st4 s4 ad4 f' q4 e4 p4 hs4 r4 => hK f st4 s4 ad4 f' q4 (e1.trans e4) (p1.trans p4) hs4 r4
    | brk => cases r1; exact hK .brk st1 s1 ad1 .brk q1 e1 p1 hs1 rfl
    | cont => cases r1; exact hK .cont st1 s1 ad1 .cont q1 e1 p1 hs1 rfl
    | ret v =>
      obtain ⟨w, rfl, hw⟩ := r1
      exact hK (.ret v) st1 s1 ad1 (.ret w) q1 e1 p1 hs1 ⟨w, rfl, hw⟩)
theorem xv_if {t : Expr} {body orelse : List Stmt} (h : BV C t st (fun b st1 => (b = true → SV C body st1 Q) ∧ (b = false → SV C orelse st1 Q))) : XV C (.If t body orelse pos) st Q := .mk fun s ad hs => At.mk fun K hK =>
  wpAny_If ((h.go s ad hs).run _ fun b st1 s1 ad1 b' q1 e1 p1 hs1 r1 => by
    cases r1
    cases b with
    | true => exact ((q1.1 rfl).go s1 ad1 hs1).run K fun f st4 s4 ad4 f' q4 e4 p4 hs4 r4 => hK f st4 s4 ad4 f' q4 (e1.trans e4) (p1.trans p4) hs4 r4
    | false => exact ((q1.2 rfl).go s1 ad1 hs1).run K fun f st4 s4 ad4 f' q4 e4 p4 hs4 r4 => hK f st4 s4 ad4 f' q4 (e1.trans e4) (p1.trans p4) hs4 r4)
theorem xv_ret {e : Expr} (h : EV C e st (fun v st1 => Q (.ret v) st1)) : XV C (.Return (some e) pos) st Q := .mk fun s ad hs => At.mk fun K hK =>
  wpAny_Return_some ((h.go s ad hs).run _ fun v st1 s1 ad1 w q1 e1 p1 hs1 r1 => hK (.ret v) st1 s1 ad1 _ q1 e1 p1 hs1 ⟨w, rfl, r1⟩)
/-- a name of the frame stored -/
theorem SR.store {ad : List Addr} {s : Shared} {x : Str} {v : V} {w : Value} (hs : SR C ad st s.heap) (hv : VR ad v w) (G : Gd C sc lv) (hl : sc.names.lookup x = some .local) {E : Value → Shared → Prop} {K : Unit → Shared → Prop}
    (h : ∀ s', Same s s' → SR C ad (st.set x v) s'.heap → K () s') : wpAny C.M C.A (storeName C.env x w) K E s := by
  obtain ⟨⟨gg, hgg, m, news, F, N, c, d, o, r⟩, hc⟩ := hs
  refine wpAny_storeName_local (by rw [Env.kindOf, G.scope]; exact hl) F.ns (fun h' hn hsb => h _ (Same.mk' s h' _) ?_) (by rw [G.scope, G.kind]; rfl)
  exact ⟨⟨gg, hgg, _, news, F.set hn hsb, N.set hsb, c, d, o, r.store hv⟩, hc⟩
theorem xv_assign {x : Str} {px : Pos} {value : Expr} (G : Gd C sc lv) (h : EV C value st (fun v st1 => Q .next (st1.set x v))) (hl : sc.names.lookup x = some .local := by rfl)
    (hsw : swapsWith value (some (.Name x px)) pos.line C.env = pure false := by rfl) : XV C (.Assign [.Name x px] value pos) st Q := .mk fun s ad hs => At.mk fun K hK =>
  wpAny_Assign_Name ((h.go s ad hs).run _ fun v st1 s1 ad1 w q1 e1 p1 hs1 r1 => hs1.store r1 G hl fun s' e' hs' => hK .next _ s' ad1 .next q1 (e1.trans e') p1 hs' rfl) hsw
end

/-! calls -/
section
variable {C : Cx} {sc : Scope} {lv : Nat} {st : St} {pos : Pos}
theorem av_nil {Q : List V → St → Prop} (h : Q [] st) : AV C pos [] st Q := .mk fun s ad hs => At.stay (a := []) hs h .nil fun _ hK => spliced_nil hK
theorem av_cons {e : Expr} {rest : List Expr} {Q : List V → St → Prop} (h : EV C e st (fun v st1 => AV C pos rest st1 (fun vs st2 => Q (v :: vs) st2)))
    (hst : starEach (e :: rest) C.env = (false, eval e C.env) :: starEach rest C.env := by rfl) : AV C pos (e :: rest) st Q := .mk fun s ad hs => At.mk fun K hK => by
  show wpAny _ _ (spliced (backTo pos (starEach (e :: rest) C.env))) _ _ _
  rw [hst]
  exact spliced_cons ((h.go s ad hs).run _ fun v st1 s1 ad1 w q1 e1 p1 hs1 r1 => (q1.go s1 ad1 hs1).run _ fun vs st2 s2 ad2 ws q2 e2 p2 hs2 r2 => hK (v :: vs) st2 s2 ad2 _ q2 (e1.trans e2) (p1.trans p2) hs2 (.cons (r1.mono p2) r2))
theorem plain_backTo {es : List Expr} {env : Env} (h : (starEach es env).any (·.1) = false) : (backTo pos (starEach es env)).any (·.1) = false := by
  simp only [backTo, List.any_map]
  exact h
/-- a call of a built-in function or type by its name, one argument at least -/
theorem ev_callB {x : Str} {px : Pos} {id : String} {e : Expr} {rest : List Expr} {Q : V → St → Prop} (hf : EV C (.Name x px) st (fun f st1 => f = .fix (.builtin id) ∧ AV C pos (e :: rest) st1 (fun vs st2 => CL C (.builtin id) vs st2 Q)))
    (hst : starEach (e :: rest) C.env = (false, eval e C.env) :: starEach rest C.env := by rfl) (hp : (starEach (e :: rest) C.env).any (·.1) = false := by rfl) : EV C (.Call (.Name x px) (e :: rest) [] pos) st Q := .mk fun s ad hs => At.mk fun K hK => by
  refine wpAny_Call_Name_kw ((hf.go s ad hs).run _ fun f st1 s1 ad1 w q1 e1 p1 hs1 r1 => ?_)
  obtain ⟨rfl, q1⟩ := q1
  cases r1
  refine callWith_builtin (plain_backTo hp) ?_
  have := q1.go s1 ad1 hs1
  revert this
  show At C ad1 s1 VRs (spliced (backTo pos (starEach (e :: rest) C.env))) _ → _
  rw [hst]
  intro q1
  exact evalArgs_plain (q1.run _ fun vs st2 s2 ad2 ws q2 e2 p2 hs2 r2 => (q2.go s2 ad2 ws hs2 r2).run K fun v st3 s3 ad3 w q3 e3 p3 hs3 r3 => hK v st3 s3 ad3 w q3 (e1.trans (e2.trans e3)) (p1.trans (p2.trans p3)) hs3 r3)
theorem ev_callT {x : Str} {px : Pos} {T : String} {e : Expr} {rest : List Expr} {Q : V → St → Prop} (hf : EV C (.Name x px) st (fun f st1 => f = .fix (.type T) ∧ AV C pos (e :: rest) st1 (fun vs st2 => CL C (.type T) vs st2 Q)))
    (hst : starEach (e :: rest) C.env = (false, eval e C.env) :: starEach rest C.env := by rfl) (hp : (starEach (e :: rest) C.env).any (·.1) = false := by rfl) : EV C (.Call (.Name x px) (e :: rest) [] pos) st Q := .mk fun s ad hs => At.mk fun K hK => by
  refine wpAny_Call_Name_kw ((hf.go s ad hs).run _ fun f st1 s1 ad1 w q1 e1 p1 hs1 r1 => ?_)
  obtain ⟨rfl, q1⟩ := q1
  cases r1
  refine PyProof.Rows.callWith_type (plain_backTo hp) ?_
  have := q1.go s1 ad1 hs1
  revert this
  show At C ad1 s1 VRs (spliced (backTo pos (starEach (e :: rest) C.env))) _ → _
  rw [hst]
  intro q1
  exact evalArgs_plain (q1.run _ fun vs st2 s2 ad2 ws q2 e2 p2 hs2 r2 => (q2.go s2 ad2 ws hs2 r2).run K fun v st3 s3 ad3 w q3 e3 p3 hs3 r3 => hK v st3 s3 ad3 w q3 (e1.trans (e2.trans e3)) (p1.trans (p2.trans p3)) hs3 r3)
end
end Mine
namespace Mine
/-- a frame of its own -/
def Own (C : Cx) : Prop := (∃ outer, C.A.frames = some (C.env :: outer)) ∧ C.env.frame = some C.env.locals
/-- the context of a called def -/
structure Callee (C C' : Cx) (fsc : Scope) (lv : Nat) : Prop where
  gd : Gd C' fsc lv
  hand : C'.A.handled = C.A.handled
  p : C'.p = C.p
  mg : C'.mg = C.mg
  cl : C'.cl = []
  loose : C'.loose = C.loose
  own : Own C'

theorem Callee.blt {C C' : Cx} {fsc : Scope} {lv : Nat} (h : Callee C C' fsc lv) {x : Str} {v : Value} (b : Blt C x v) : Blt C' x v := ⟨by rw [h.mg]; exact b.1, b.2⟩
theorem VRs.zip {ad : List Addr} : ∀ {names : List Str} {vs : List V} {ws : List Value}, VRs ad vs ws → ∀ x v, (names.zip vs).reverse.lookup x = some v → ∃ w, (names.zip ws).reverse.lookup x = some w ∧ VR ad v w := by
  have key : ∀ {names : List Str} {vs : List V} {ws : List Value}, VRs ad vs ws → ∀ (l : List (Str × V)) (l' : List (Str × Value)), (∀ x v, l.lookup x = some v → ∃ w, l'.lookup x = some w ∧ VR ad v w) → (∀ x, l.lookup x = none → l'.lookup x = none) →
      ∀ x v, ((names.zip vs).reverse ++ l).lookup x = some v → ∃ w, ((names.zip ws).reverse ++ l').lookup x = some w ∧ VR ad v w := by
    intro names
    induction names with
    | nil => intro vs ws h l l' hl _ x v e; exact hl x v e
    | cons n ns ih =>
      intro vs ws h l l' hl hn x v e
      cases h with
      | nil => exact hl x v e
      | cons a h =>
        rename_i v0 w0 vs ws
        simp only [List.zip_cons_cons, List.reverse_cons, List.append_assoc, List.singleton_append] at e ⊢
        refine ih h ((n, v0) :: l) ((n, w0) :: l') (fun y u q => ?_) (fun y q => ?_) x v e
        · rw [List.lookup_cons] at q ⊢
          cases hy : y == n with
          | true => rw [hy] at q; cases q; exact ⟨w0, rfl, a⟩
          | false => rw [hy] at q; exact hl y u q
        · rw [List.lookup_cons] at q ⊢
          cases hy : y == n with
          | true => rw [hy] at q; cases q
          | false => rw [hy] at q; exact hn y q
  intro names vs ws h x v e
  have := key (names := names) h [] [] (fun _ _ q => nomatch q) (fun _ _ => rfl) x v (by simpa using e)
  simpa using this

def retv : F → V
  | .ret v => v
  | _ => .none

def fval : Flow → Value
  | .ret v => v
  | _ => .none
theorem os_new (os : List O) (o : O) : (os ++ [o])[os.length]? = some o := by simp
theorem retv_rel {ad : List Addr} {f : F} {f' : Flow} (r : FR ad f f') : VR ad (retv f) (fval f') := by
  cases f with
  | ret v => obtain ⟨w, rfl, hw⟩ := r; exact hw
  | next => cases r; rfl
  | brk => cases r; rfl
  | cont => cases r; rfl

section
variable {C : Cx} {sc : Scope} {lv : Nat} {st : St} {pos : Pos}
theorem ns_data {h : Heap} {L : Addr} {m : Str → Option Value} (hn : h.Ns L m) : ∃ o, h.get? L = some o ∧ (∀ vs, o.data ≠ .fields vs) ∧ ∀ vs n, o.data ≠ .seq vs n := by
  obtain ⟨o', es, ep, ho, hd, _⟩ := hn
  refine ⟨o', ho, ?_⟩
  rw [hd]
  exact ⟨fun _ q => (nomatch q), fun _ _ q => (nomatch q)⟩
theorem Gd.of_data {sc : Scope} {lv : Nat} (G : Gd C sc lv) {gg hid : Heap} {b : Addr} (hgg : Sim C.h₀ C.of gg) (st : gg.StaysIn hid) (hb : b ∈ C.of) :
    ∃ o, hid.get? b = some o ∧ (∀ vs, o.data ≠ .fields vs) ∧ ∀ vs n, o.data ≠ .seq vs n := by
  obtain ⟨_, o₀, h0, h2⟩ := G.st.2 b hb
  obtain ⟨sl, h1⟩ := hgg.slot _ _ h0
  exact ⟨_, st _ _ h1, h2⟩
theorem ground {g h : Heap} {L : Addr} {m : Str → Option Value} {news : List (Addr × Obj)} (F : Fr g L h m) (N : News g L h news) : g.StaysIn (hideAll h (news.map (·.1))) ∧ (hideAll h (news.map (·.1))).Ns L m := by
  have nm : ∀ b o, g.get? b = some o → b ∉ news.map (·.1) := fun b o e q => by
    obtain ⟨p, hp, rfl⟩ := List.mem_map.mp q
    rw [(N p hp).2.2] at e; cases e
  have nL : L ∉ news.map (·.1) := fun q => by
    obtain ⟨p, hp, e⟩ := List.mem_map.mp q
    exact (N p hp).2.1 e
  obtain ⟨oL, es, ep, hL, hLd, hLk, hLf⟩ := F.ns
  exact ⟨fun b o e => hideAll_get _ (F.keep b o e) (nm b o e), oL, es, ep, hideAll_get _ hL nL, hLd, hLk, hLf⟩
/-- the frames as a callee sees them -/
theorem Gd.inner {sc : Scope} {lv : Nat} (G : Gd C sc lv) (hlv : 0 < lv) {gg h : Heap} {m : Str → Option Value} {news : List (Addr × Obj)} (hgg : Sim C.h₀ C.of gg) (F : Fr gg C.env.locals h m) (N : News gg C.env.locals h news) :
    ∃ fs, Below C.A C.base fs (hideAll h (news.map (·.1))) ∧ ∀ b ∈ fs.filterMap (·.frame), b ∈ C.env.locals :: C.of := by
  obtain ⟨A₀, outer, B, hof, hor⟩ := G.bel hlv
  have B' : Below A₀ C.base outer gg := ⟨B.stack, G.stays hgg, B.frames.of_keeps fun b o e _ => by obtain ⟨sl, h⟩ := hgg.slot b o e; exact ⟨_, h, rfl⟩⟩
  rcases hor with ⟨hA, hf⟩ | rfl
  · obtain ⟨_, BG, _, _⟩ := groundX (s := { heap := h }) (R := fun _ _ => True) B' F N hA hf (by rw [G.scope]; exact G.kind)
    refine ⟨_, BG, fun b hb => ?_⟩
    rw [List.filterMap_cons, hf] at hb
    rcases List.mem_cons.mp hb with rfl | hb
    · exact .head _
    · exact .tail _ (hof b hb)
  · have st := (ground F N).1
    exact ⟨outer, ⟨B'.stack, fun b o e => st b o (B'.stays b o e), B'.frames.of_keeps fun b o e _ => ⟨o, st b o e, rfl⟩⟩, fun b hb => .tail _ (hof b hb)⟩
/-- back from an inner frame -/
theorem back_frame {gc hid g₂ h h₂ : Heap} {m : Str → Option Value} {news₂ : List (Addr × Obj)} (hgc : Sim C.h₀ C.of gc) (F : Fr gc C.env.locals h m) (hst : gc.StaysIn hid) (hns : hid.Ns C.env.locals m)
    (hg₂ : Sim hid (C.env.locals :: C.of) g₂) (hk : g₂.StaysIn h₂) (N : ∀ p ∈ news₂, h₂.get? p.1 = some p.2 ∧ g₂.get? p.1 = none) :
    ∃ g', Sim C.h₀ C.of g' ∧ Fr g' C.env.locals h₂ m ∧ News g' C.env.locals h₂ news₂ := by
  have up2 : ∀ b o, C.h₀.get? b = some o → ∃ sl, g₂.get? b = some { o with slots := sl } := fun b o e => by
    obtain ⟨s1, e1⟩ := hgc.slot b o e
    obtain ⟨s2, e2⟩ := hg₂.slot b _ (hst b _ e1)
    exact ⟨s2, e2⟩
  obtain ⟨g', hg', hk'⟩ := Sim.make (h₀ := C.h₀) (h := h₂) (of := C.of) (fun b o e n => by
    have e1 := hgc.same b o e n
    refine hk b o (hg₂.same b o (hst b o e1) fun q => ?_)
    rcases List.mem_cons.mp q with q | q
    · exact absurd (Nat.lt_of_lt_of_le (Heap.lt_size e1) F.above) (by rw [q]; exact Nat.lt_irrefl _)
    · exact n q) (fun b o e => by obtain ⟨sl, q⟩ := up2 b o e; exact ⟨sl, hk b _ q⟩)
  obtain ⟨o, es, ep, ho, hd, r⟩ := hns
  obtain ⟨sL, hL⟩ := hg₂.slot _ o ho
  refine ⟨g', hg', ⟨⟨_, es, ep, hk _ _ hL, hd, r⟩, hk', by rw [hg'.size, ← hgc.size]; exact F.above⟩, fun p hp => ⟨(N p hp).1, fun q => ?_, hg'.non _ ?_⟩⟩
  · have := (N p hp).2; rw [q, hL] at this; cases this
  · cases q : C.h₀.get? p.1 with
    | none => rfl
    | some o' => obtain ⟨sl, e⟩ := up2 _ o' q; have := (N p hp).2; rw [e] at this; cases this
theorem call_fn {x : Str} {params : Arguments} {body : List Stmt} {fsc : Scope} {a : Addr} {o : Obj} {pm cd doc : Value} {vs : List V} {Q : V → St → Prop} (names : List Str) (G : Gd C sc (lv + 1))
    (ho : C.base.get? a = some o) (hd : o.data = .func (docDef x params body fsc pm cd doc)) (hcd : C.base.CodeRec cd x)
    (hb : ∀ ws : List Value, ws.length = names.length → bindArgs (docDef x params body fsc pm cd doc) ⟨ws, []⟩ = pure (names.zip ws)) (hvs : vs.length = names.length)
    (hl : ∀ n ∈ names, fsc.names.lookup n = some .local) (hcell : ∀ x ∈ fsc.names, x.2 ≠ .cell) (hco : fsc.isCoroutine = false) (hgen : fsc.isGenerator = false) (hk : fsc.kind = .function)
    (h : ∀ C', Callee C C' fsc lv → SV C' body ⟨(names.zip vs).reverse, st.os⟩ (fun f st2 => Q (retv f) ⟨st.m, st2.os⟩)) : CL C (.ref a) vs st Q := .mk fun s ad ws hs hr => At.mk fun K hK => by
  obtain ⟨⟨gg, hgg, m, news, F, N, c, d, o', r⟩, hcl⟩ := hs
  obtain ⟨fs, BG, hfs⟩ := G.inner (Nat.succ_pos _) hgg F N
  obtain ⟨stay, nsG⟩ := ground F N
  refine wpAny_call ?_
  have hlen : ws.length = names.length := by rw [hr.length, hvs]
  have hkb := G.keep hgg F
  refine codeAny_call_def (fd := docDef x params body fsc pm cd doc) (body := body) (binds := names.zip ws) (by have := G.depth; show C.A.depth < 1000; omega) (hkb _ _ ho) hd (G.top.nolimit.keeps hkb) (hcd.keeps hkb) rfl
    (BindsTo.of_eq (hb ws hlen)) hcell (fun y hy => hl _ (List.of_mem_zip hy).1) (fun h₁ hns hk₁ => ?_) hco hgen hk
  let env' : Env := callEnv (docDef x params body fsc pm cd doc) s.heap.objs.size a
  let C' : Cx := { C with A := C.A.deeper env', env := env', h₀ := hideAll s.heap ((news ++ C.kp).map (·.1)), cl := [], of := C.env.locals :: C.of }
  have hbL : C.base.get? C.env.locals = none := by
    cases q : C.base.get? C.env.locals with
    | none => rfl
    | some ob => exact absurd (Nat.lt_of_lt_of_le (Heap.lt_size (G.stays hgg _ _ q)) F.above) (Nat.lt_irrefl _)
  have hc : Callee C C' fsc lv := ⟨⟨rfl, hk, rfl, rfl, G.top, ⟨fun b o e => stay b o (G.stays hgg b o e), fun b hb => by
      rcases List.mem_cons.mp hb with rfl | hb
      · exact ⟨hbL, ns_data nsG⟩
      · exact ⟨(G.st.2 b hb).1, G.of_data hgg stay hb⟩⟩, by have := G.depth; show C.A.depth + 1 + lv < 500; omega, by have := G.units; show C.A.units + 3 + 3 * lv < 5000; omega, fun _ => ⟨C.A, fs, BG, hfs, .inl ⟨Around.frames_deeper BG.stack, rfl⟩⟩⟩, rfl, rfl, rfl, rfl, rfl, ⟨fs, Around.frames_deeper BG.stack⟩, rfl⟩
  refine wpAny_mono (Q := _) (((h C' hc).go { s with heap := h₁, toks := s.toks + (names.zip ws).length } ad ⟨⟨_, Sim.refl _ _, _, news, ⟨hns, fun b o e => hk₁ b o (of_hideAll _ e), Nat.le_of_eq (hideAll_size _ _)⟩,
    (fun p hp => ⟨hk₁ _ _ (N p hp).1, Nat.ne_of_lt (Heap.lt_size (N p hp).1), hideAll_none _ (List.mem_map_of_mem hp)⟩), c, d, o', VRs.zip hr⟩, fun _ _ q => nomatch q⟩).run _ fun f st2 s2 ad2 f' q2 e2 p2 hs2 r2 => ?_) (fun _ _ x => x) fun _ _ x => x.elim
  obtain ⟨⟨gg2, hgg2, m2, news2, F2, N2, c2, d2, o2, r2'⟩, _⟩ := hs2
  obtain ⟨g', hg', F', N'⟩ := back_frame hgg F stay nsG hgg2 F2.keep (news₂ := news2 ++ C.kp) fun p hp => ⟨(N2 p hp).1, (N2 p hp).2.2⟩
  exact hK _ _ s2 ad2 _ q2 ((Same.mk' s h₁ _).trans e2) p2 ⟨⟨g', hg', m, news2, F', N', c2, d2, o2, r.mono p2⟩, fun y k q => by
    obtain ⟨cc, q1, q3⟩ := hcl y k q
    obtain ⟨rr, rfl⟩ := p2
    exact ⟨cc, q1, by rw [List.getElem?_append_left (List.getElem?_eq_some_iff.mp q3).1]; exact q3⟩⟩ (by have := retv_rel r2; cases f' <;> exact this)

/-- a call of a def of the text -/
theorem ev_call {x : Str} {px : Pos} {e : Expr} {rest : List Expr} {params : Arguments} {body : List Stmt} {fsc : Scope} {fpos : Pos} {Q : V → St → Prop} (names : List Str) (G : Gd C sc (lv + 1))
    (hd : (⟨x, params, body, fsc, fpos⟩ : DefRec) ∈ recsOf C.p)
    (h : AV C pos (e :: rest) st (fun vs st1 => vs.length = names.length ∧ ∀ C', Callee C C' fsc lv → SV C' body ⟨(names.zip vs).reverse, st1.os⟩ (fun f st2 => Q (retv f) ⟨st1.m, st2.os⟩)))
    (hb : ∀ pm cd doc (ws : List Value), ws.length = names.length → bindArgs (docDef x params body fsc pm cd doc) ⟨ws, []⟩ = pure (names.zip ws))
    (hl : ∀ n ∈ names, fsc.names.lookup n = some .local) (hcell : ∀ x ∈ fsc.names, x.2 ≠ .cell) (hco : fsc.isCoroutine = false := by rfl) (hgen : fsc.isGenerator = false := by rfl) (hk : fsc.kind = .function := by rfl)
    (hg : sc.names.lookup x = some .globalImplicit := by rfl) (hdb : (x == ("__debug__" : Str)) = false := by rfl)
    (hst : starEach (e :: rest) C.env = (false, eval e C.env) :: starEach rest C.env := by rfl) : EV C (.Call (.Name x px) (e :: rest) [] pos) st Q := .mk fun s ad hs => At.mk fun K hK => by
  obtain ⟨a, o, pm, cd, doc, hmg, ho, hdt, hcd⟩ := G.top.fn _ hd
  refine wpAny_Call_Name_kw (((ev_global (Q := fun f st1 => f = .fix (.ref a) ∧ st1 = st) G hmg ⟨rfl, rfl⟩ hg hdb).go s ad hs).run _ fun f st1 s1 ad1 w q1 e1 p1 hs1 r1 => ?_)
  obtain ⟨rfl, rfl⟩ := q1
  cases r1
  have h1 := h.go s1 ad1 hs1
  revert h1
  refine fun h1 => callWith_function (o := o) (fd := docDef x params body fsc pm cd doc) ?_
  revert h1
  show At C ad1 s1 VRs (spliced (backTo pos (starEach (e :: rest) C.env))) _ → wpAny _ _ (evalArgs _ _ (backTo pos (starEach (e :: rest) C.env)) _) _ _ _
  rw [hst]
  intro h1
  refine evalArgs_plain (h1.run _ fun vs st2 s2 ad2 ws q2 e2 p2 hs2 r2 => ⟨⟨?_, hdt⟩, ?_⟩)
  · obtain ⟨⟨gg, hgg, m, news, F, _⟩, _⟩ := hs2
    exact G.keep hgg F _ _ ho
  · exact ((call_fn names G ho hdt hcd (hb pm cd doc) q2.1 hl hcell hco hgen hk q2.2).go s2 ad2 ws hs2 r2).run K fun v st3 s3 ad3 w q3 e3 p3 hs3 r3 => hK v st3 s3 ad3 w q3 (e1.trans (e2.trans e3)) (p1.trans (p2.trans p3)) hs3 r3
end

/-! some built-ins -/
section
variable {C : Cx} {sc : Scope} {lv : Nat} {st : St} {pos : Pos} {Q : V → St → Prop}
/-- the heap has grown, all that stood stands -/
theorem SR.grown {ad : List Addr} {h h' : Heap} (hs : SR C ad st h) (hk : ∀ b o, h.get? b = some o → h'.get? b = some o) : SR C ad st h' := by
  obtain ⟨⟨gg, hgg, m, news, F, N, c, d, o, r⟩, hc⟩ := hs
  exact ⟨⟨gg, hgg, m, news, F.keeps hk, fun p hp => ⟨hk _ _ (N p hp).1, (N p hp).2⟩, c, d, o, r⟩, hc⟩
end
end Mine
namespace Mine
section
variable {C : Cx} {sc : Scope} {lv : Nat} {st : St} {pos : Pos} {Q : V → St → Prop} {ad : List Addr}
/-- a new object behind the store -/
theorem sr_alloc {gg : Heap} {m : Str → Option Value} {news : List (Addr × Obj)} {h h' : Heap} {o : O} {ob : Obj} (hgg : Sim C.h₀ C.of gg) (N : News gg C.env.locals h (news ++ C.kp)) (c : news.map (·.1) = ad) (d : (ad ++ C.kp.map (·.1)).Nodup) (o' : ORs ad st.os news) (r : MR ad st.m m)
    (hc : ∀ x k, C.cl.lookup x = some k → ∃ c, C.env.cells.lookup x = some c ∧ ad[k]? = some c)
    (F' : Fr gg C.env.locals h' m) (N' : News gg C.env.locals h' ((h.objs.size, ob) :: (news ++ C.kp))) (hob : OR (ad ++ [h.objs.size]) o ob) : SR C (ad ++ [h.objs.size]) ⟨st.m, st.os ++ [o]⟩ h' := by
  have px : ad <+: ad ++ [h.objs.size] := List.prefix_append _ _
  have hlt : ∀ a ∈ ad ++ C.kp.map (·.1), a < h.objs.size := by
    intro a ha
    rw [← c, ← List.map_append] at ha
    obtain ⟨p, hp, rfl⟩ := List.mem_map.mp ha
    exact Heap.lt_size (N p hp).1
  refine ⟨⟨gg, hgg, m, news ++ [(h.objs.size, ob)], F', fun p hp => N' p ?_, by rw [List.map_append, c]; rfl, ?_, (o'.mono px).append (.cons hob .nil), r.mono px⟩, fun x k q => ?_⟩
  · simp only [List.append_assoc, List.mem_append, List.mem_cons, List.not_mem_nil, or_false] at hp ⊢
    rcases hp with hp | hp | hp
    · exact .inr (.inl hp)
    · exact .inl hp
    · exact .inr (.inr hp)
  · rw [List.append_assoc, List.singleton_append]
    refine (List.nodup_append.mpr ?_)
    have d' := List.nodup_append.mp d
    refine ⟨d'.1, List.nodup_cons.mpr ⟨fun hm => Nat.lt_irrefl _ (hlt _ (List.mem_append_right _ hm)), d'.2.1⟩, fun a ha b hb => ?_⟩
    rcases List.mem_cons.mp hb with rfl | hb
    · exact Nat.ne_of_lt (hlt _ (List.mem_append_left _ ha))
    · exact d'.2.2 a ha b hb
  · obtain ⟨cc, q1, q2⟩ := hc x k q
    exact ⟨cc, q1, by rw [List.getElem?_append_left (List.getElem?_eq_some_iff.mp q2).1]; exact q2⟩
abbrev St.add (st : St) (o : O) : St := ⟨st.m, st.os ++ [o]⟩
theorem ref_new (ad : List Addr) (a : Addr) (n : Nat) (h : ad.length = n) : VR (ad ++ [a]) (.ref n) (.ref a) := ⟨a, by subst h; simp, rfl⟩
theorem ev_list {es : List Expr} (h : AV C pos es st (fun vs st1 => vs.length ≤ 1000000 ∧ Q (.ref st1.os.length) (st1.add (.list vs)))) : EV C (.List es pos) st Q := .mk fun s ad hs => At.mk fun K hK =>
  List_ ((h.go s ad hs).run _ fun vs st1 s1 ad1 ws q1 e1 p1 hs1 r1 => by
    have hl := hs1.len
    obtain ⟨⟨gg, hgg, m, news, F, N, c, d, o, r⟩, hc⟩ := hs1
    refine newList_N F N (fun h' F' N' => ?_) (by rw [r1.length, sizeLine_eq]; omega)
    exact hK _ _ _ _ _ q1.2 (e1.trans (Same.hp s1 h')) (p1.trans (List.prefix_append _ _)) (sr_alloc hgg N c d o r hc F' N' ⟨ws, 0, rfl, r1.mono (List.prefix_append _ _)⟩) (ref_new _ _ _ hl))
/-- what the store says of the heap -/
theorem SR.at {h : Heap} (hs : SR C ad st h) {k : Nat} {o : O} (e : st.os[k]? = some o) : ∃ a ob, ad[k]? = some a ∧ h.get? a = some ob ∧ OR ad o ob ∧ a ≠ C.env.locals ∧ C.h₀.get? a = none := by
  obtain ⟨⟨gg, hgg, m, news, F, N, c, d, o', r⟩, hc⟩ := hs
  obtain ⟨p, hp, hr⟩ := o'.get e
  have := N p (List.mem_append_left _ (List.mem_of_getElem? hp))
  exact ⟨p.1, p.2, by rw [← c, List.getElem?_map, hp]; rfl, this.1, hr, this.2.1, hgg.fresh this.2.2⟩
theorem SR.list {h : Heap} (hs : SR C ad st h) {k : Nat} {vs : List V} (e : st.os[k]? = some (.list vs)) : ∃ a ws, ad[k]? = some a ∧ h.IsList a ws.toArray ∧ VRs ad vs ws := by
  obtain ⟨a, ob, h1, h2, ⟨ws, n, rfl, hv⟩, _⟩ := hs.at e
  exact ⟨a, ws, h1, ⟨_, h2, rfl, n, rfl⟩, hv⟩
theorem SR.tuple {h : Heap} (hs : SR C ad st h) {k : Nat} {vs : List V} (e : st.os[k]? = some (.tuple vs)) : ∃ a ws, ad[k]? = some a ∧ h.IsTuple a ws.toArray ∧ VRs ad vs ws := by
  obtain ⟨a, ob, h1, h2, ⟨ws, n, rfl, hv⟩, _⟩ := hs.at e
  exact ⟨a, ws, h1, ⟨_, h2, rfl, n, rfl⟩, hv⟩
theorem VR.ref {k : Nat} {w : Value} {a : Addr} (h : VR ad (.ref k) w) (e : ad[k]? = some a) : w = .ref a := by
  obtain ⟨b, hb, rfl⟩ := h
  rw [e] at hb
  cases hb
  rfl
theorem ints_rel {ws : List Value} {ns : List Int} (h : IntsAre ws ns) : VRs ad (ns.map V.int) ws := by
  induction h with
  | nil => exact .nil
  | cons n t _ ih => exact .cons ⟨t, rfl⟩ ih
/-- a list of the store and the script -/
theorem bo_addS {j : Nat} {vs : List V} {b : Addr} {xs : List Value} {ns : List Int} (hj : st.os[j]? = some (.list vs)) (hb : C.h₀.IsList b xs.toArray) (hi : IntsAre xs ns) (hsz : vs.length + ns.length ≤ 1000000) (h : Q (.ref st.os.length) (st.add (.list (vs ++ ns.map V.int)))) : BO C .Add (.ref j) (.fix (.ref b)) st Q := .mk fun s ad va vb hs ra rb => At.mk fun K hK => by
  obtain ⟨a, ws, ha, hla, hva⟩ := hs.list hj
  cases ra.ref ha
  cases rb
  have hl := hs.len
  obtain ⟨⟨gg, hgg, m, news, F, N, c, d, o, r⟩, hc⟩ := hs
  have hvb : VRs ad (ns.map V.int) xs := ints_rel hi
  obtain ⟨ob, h1, h2, n, h3⟩ := hb
  obtain ⟨sl, h1⟩ := hgg.slot _ _ h1
  have hlb : s.heap.IsList b xs.toArray := ⟨_, F.keep _ _ h1, h2, n, h3⟩
  refine add_lists F N hla hlb (fun h' F' N' => ?_) (by rw [hva.length, hi.length, sizeLine_eq]; omega)
  exact hK _ _ _ _ _ h (Same.hp s h') (List.prefix_append _ _) (sr_alloc hgg N c d o r hc F' N' ⟨ws ++ xs, 0, rfl, (hva.append hvb).mono (List.prefix_append _ _)⟩) (ref_new _ _ _ hl)
end

/-! iterators -/
/-- the same machine, another frame -/
def Like (C C₂ : Cx) : Prop := C₂.prog = C.prog ∧ C₂.w = C.w ∧ C₂.A = C.A
/-- an iterator I, at `kp`'s head while it runs: `inv i ks` says that ks are its objects ahead of item i -/
structure AIter (C : Cx) (ad₀ : List Addr) (I : Addr) (items : List V) (dep : St → Prop) (inv : Nat → List (Addr × Obj) → Prop) : Prop where
  next : ∀ (C₂ : Cx), Like C C₂ → ∀ i v ks kp st s ad, items[i]? = some v → inv i ks → dep st → ad₀ <+: ad → SR (C₂.kept (ks ++ kp)) ad st s.heap → ∀ K : Option Value → Shared → Prop,
    (∀ w s' ks', Same s s' → inv (i + 1) ks' → SR (C₂.kept (ks' ++ kp)) ad st s'.heap → VR ad v w → K (some w) s') → wpAny C₂.M C₂.A (pyNext (.ref I)) K No s
  done : ∀ (C₂ : Cx), Like C C₂ → ∀ ks kp st s ad, inv items.length ks → dep st → ad₀ <+: ad → SR (C₂.kept (ks ++ kp)) ad st s.heap → ∀ K : Option Value → Shared → Prop,
    (∀ s', Same s s' → SR (C₂.kept kp) ad st s'.heap → K none s') → wpAny C₂.M C₂.A (pyNext (.ref I)) K No s
  self : ∀ (C₂ : Cx), ∀ i ks kp st s ad, inv i ks → SR (C₂.kept (ks ++ kp)) ad st s.heap → ∀ K : Value → Shared → Prop, K (.ref I) s → wpAny C₂.M C₂.A (pyIter (.ref I)) K No s
  own : ∀ (C₂ : Cx), ∀ i ks kp st s ad w t, inv i ks → SR (C₂.kept (ks ++ kp)) ad st s.heap → ∀ K : Unit → Shared → Prop, K () s → wpAny C₂.M C₂.A (letOwnedTupleGo t (.ref I) w) K No s
def IterOf (C : Cx) (v : V) (st : St) (items : List V) (dep : St → Prop) : Prop :=
  ∀ s ad w, SR C ad st s.heap → VR ad v w → ∀ K : Value → Shared → Prop, (∀ I inv ks s', AIter C ad I items dep inv → inv 0 ks → Same s s' → SR (C.kept (ks ++ C.kp)) ad st s'.heap → K (.ref I) s') → wpAny C.M C.A (pyIter w) K No s
/-- what a turn of a for loop leaves -/
def ForT (C : Cx) (k : Nat) (I : St → Prop) (Q : F → St → Prop) : F → St → Prop
  | .brk, st => Q .next st
  | .ret v, st => Q (.ret v) st
  | _, st => ∃ st', Wk C st st' ∧ k ≤ st'.os.length ∧ I st'
/-- a target that takes an item -/
structure AS (C : Cx) (t : Expr) (v : V) (st : St) (Q : St → Prop) : Prop where
  go : ∀ s ad w, SR C ad st s.heap → VR ad v w → At C ad s UR (assign t C.env w) (fun _ st' => Q st')

section
variable {C : Cx} {sc : Scope} {lv : Nat} {st : St} {pos : Pos} {ad : List Addr}
theorem SR.drop {h : Heap} {ks kp : List (Addr × Obj)} (hs : SR (C.kept (ks ++ kp)) ad st h) : SR (C.kept kp) ad st h := by
  obtain ⟨⟨gg, hgg, m, news, F, N, c, d, o, r⟩, hc⟩ := hs
  refine ⟨⟨gg, hgg, m, news, F, fun p hp => N p ?_, c, ?_, o, r⟩, hc⟩
  · rcases List.mem_append.mp hp with hp | hp
    · exact List.mem_append_left _ hp
    · exact List.mem_append_right _ (List.mem_append_right _ hp)
  · exact d.sublist (List.Sublist.append (List.Sublist.refl _) (List.Sublist.map _ (List.sublist_append_right _ _)))
/-- the first kept object turned, all else as it was -/
theorem SR.touch {h h' : Heap} {I : Addr} {ob ob' : Obj} {kp : List (Addr × Obj)} (hs : SR (C.kept ((I, ob) :: kp)) ad st h) (hk : ∀ b o, b ≠ I → h.get? b = some o → h'.get? b = some o) (hI : h'.get? I = some ob') : SR (C.kept ((I, ob') :: kp)) ad st h' := by
  obtain ⟨⟨gg, hgg, m, news, F, N, c, d, o, r⟩, hc⟩ := hs
  have hN := N (I, ob) (List.mem_append_right _ (.head _))
  have d' := List.nodup_append.mp d
  have hne : ∀ p ∈ news ++ kp, p.1 ≠ I := by
    intro p hp e
    rcases List.mem_append.mp hp with hp | hp
    · exact d'.2.2 p.1 (by rw [← c]; exact List.mem_map_of_mem hp) I (.head _) e
    · have := (List.nodup_cons.mp d'.2.1).1
      exact this (List.mem_map.mpr ⟨p, hp, e⟩)
  refine ⟨⟨gg, hgg, m, news, ⟨F.ns.at' fun o e => hk _ o (Ne.symm hN.2.1) e, fun b o e => hk b o (fun q => by rw [q, hN.2.2] at e; cases e) (F.keep b o e), F.above⟩, fun p hp => ?_, c, d, o, r⟩, hc⟩
  rcases List.mem_append.mp hp with hp | hp
  · have := N p (List.mem_append_left _ hp)
    exact ⟨hk _ _ (hne p (List.mem_append_left _ hp)) this.1, this.2⟩
  · rcases List.mem_cons.mp hp with rfl | hp
    · exact ⟨hI, hN.2⟩
    · have := N p (List.mem_append_right _ (.tail _ hp))
      exact ⟨hk _ _ (hne p (List.mem_append_right _ hp)) this.1, this.2⟩
/-- ... or gone -/
theorem SR.gone {h h' : Heap} {I : Addr} {ob : Obj} {kp : List (Addr × Obj)} (hs : SR (C.kept ((I, ob) :: kp)) ad st h) (hk : ∀ b o, b ≠ I → h.get? b = some o → h'.get? b = some o) : SR (C.kept kp) ad st h' := by
  obtain ⟨⟨gg, hgg, m, news, F, N, c, d, o, r⟩, hc⟩ := hs
  have hN := N (I, ob) (List.mem_append_right _ (.head _))
  have d' := List.nodup_append.mp d
  have hne : ∀ p ∈ news ++ kp, p.1 ≠ I := by
    intro p hp e
    rcases List.mem_append.mp hp with hp | hp
    · exact d'.2.2 p.1 (by rw [← c]; exact List.mem_map_of_mem hp) I (.head _) e
    · have := (List.nodup_cons.mp d'.2.1).1
      exact this (List.mem_map.mpr ⟨p, hp, e⟩)
  refine ⟨⟨gg, hgg, m, news, ⟨F.ns.at' fun o e => hk _ o (Ne.symm hN.2.1) e, fun b o e => hk b o (fun q => by rw [q, hN.2.2] at e; cases e) (F.keep b o e), F.above⟩, fun p hp => ?_, c, ?_, o, r⟩, hc⟩
  · have : p ∈ news ++ (I, ob) :: kp := by
      rcases List.mem_append.mp hp with hp | hp
      · exact List.mem_append_left _ hp
      · exact List.mem_append_right _ (.tail _ hp)
    exact ⟨hk _ _ (hne p hp) (N p this).1, (N p this).2⟩
  · exact d.sublist (List.Sublist.append (List.Sublist.refl _) (List.sublist_cons_self _ _))
/-- a new kept object -/
theorem SR.keep {h : Heap} (hs : SR C ad st h) (ob : Obj) (hfree : ob.isFreed = false := by rfl) : SR (C.kept ((h.objs.size, ob) :: C.kp)) ad st (h.push ob) := by
  obtain ⟨⟨gg, hgg, m, news, F, N, c, d, o, r⟩, hc⟩ := hs
  have hlt : ∀ a ∈ ad ++ C.kp.map (·.1), a < h.objs.size := by
    intro a ha
    rw [← c, ← List.map_append] at ha
    obtain ⟨p, hp, rfl⟩ := List.mem_map.mp ha
    exact Heap.lt_size (N p hp).1
  have N' := N.push F ob hfree
  refine ⟨⟨gg, hgg, m, news, F.push ob, fun p hp => N' p ?_, c, ?_, o, r⟩, hc⟩
  · rcases List.mem_append.mp hp with hp | hp
    · exact .tail _ (List.mem_append_left _ hp)
    · rcases List.mem_cons.mp hp with rfl | hp
      · exact .head _
      · exact .tail _ (List.mem_append_right _ hp)
  · have d' := List.nodup_append.mp d
    refine (List.nodup_append.mpr ⟨d'.1, List.nodup_cons.mpr ⟨fun hm => Nat.lt_irrefl _ (hlt _ (List.mem_append_right _ hm)), d'.2.1⟩, fun a ha b hb => ?_⟩)
    rcases List.mem_cons.mp hb with rfl | hb
    · exact Nat.ne_of_lt (hlt _ (List.mem_append_left _ ha))
    · exact d'.2.2 a ha b hb
theorem get_prefix {α : Type} {a b : List α} {k : Nat} {x : α} (p : a <+: b) (e : a[k]? = some x) : b[k]? = some x := by
  obtain ⟨r, rfl⟩ := p
  rw [List.getElem?_append_left (List.getElem?_eq_some_iff.mp e).1]
  exact e
theorem wpNo {α : Type} {M : Model} {A : Around} {t : Sem α} {Q : α → Shared → Prop} {E : Value → Shared → Prop} {s : Shared} (h : wpAny M A t Q No s) : wpAny M A t Q E s := wpAny_mono h (fun _ _ x => x) fun _ _ x => x.elim

theorem own_plain {M : Model} {A : Around} {E : Value → Shared → Prop} {s : Shared} {t : Expr} {I : Addr} {w : Value} {ob : Obj} {n : String} {Q : Unit → Shared → Prop} (ho : s.heap.get? I = some ob) (hc : ob.cls = .type n)
    (hn : ["enumerate", "zip", "dict_itemiterator", "dict_reverseitemiterator", "odict_iterator", "itertools.zip_longest", "itertools.pairwise"].contains n = false) (hQ : Q () s) : wpAny M A (letOwnedTupleGo t (.ref I) w) Q E s := by
  have key : ∀ T : Addr, wpAny M A (load I >>= fun o => (match o.cls, o.data with
      | .type n, .fields vs => if ["enumerate", "zip", "dict_itemiterator", "dict_reverseitemiterator", "odict_iterator", "itertools.zip_longest", "itertools.pairwise"].contains n && vs[0]? == some (rawInt T) then do
          rule "for.unpacks-the-owned-tuple"
          updateField I 0 .none
        else pure ()
      | _, _ => pure () : Sem Unit)) Q E s := fun T => by
    refine wpAny_bind (wpAny_load ho ?_)
    rw [hc]
    split
    · rename_i n' vs e1 e2
      cases e1
      rw [hn, Bool.false_and, if_neg (by decide)]
      exact wpAny_pure hQ
    · exact wpAny_pure hQ
  cases t with
  | Tuple es k p => cases w with
    | ref T => exact key T
    | _ => exact wpAny_pure hQ
  | List es p => cases w with
    | ref T => exact key T
    | _ => exact wpAny_pure hQ
  | _ => exact wpAny_pure hQ
theorem SR.kpGet {h : Heap} {p : Addr × Obj} (hs : SR C ad st h) (hp : p ∈ C.kp) : h.get? p.1 = some p.2 := by
  obtain ⟨⟨gg, hgg, m, news, F, N, _⟩, _⟩ := hs
  exact (N p (List.mem_append_right _ hp)).1
/-- over a list of the store -/
theorem iter_list {k : Nat} {vs : List V} (hh : C.A.handled = none) (hk : st.os[k]? = some (.list vs)) : IterOf C (.ref k) st vs (fun st' => st'.os[k]? = some (.list vs)) := fun s ad w hs rw' K hK => by
  obtain ⟨a, ws, ha, hla, hva⟩ := hs.list hk
  cases rw'.ref ha
  refine wpAny_pyIter_list hla (hK s.heap.objs.size (fun i ks => ∃ ob, ks = [(s.heap.objs.size, ob)] ∧ ob.cls = .type "list_iterator" ∧ ob.data = .fields #[.ref a, .int i 0]) _ _ ⟨?_, ?_, ?_, ?_⟩ ⟨_, rfl, rfl, rfl⟩ (Same.hp s _) (hs.keep _))
  · rintro C₂ ⟨hp2, hw2, hA2⟩ i v ks kp st' s' ad' hv ⟨ob, rfl, hc, hd⟩ hdep px hs' K' hK'
    obtain ⟨a', ws', ha', hla', hva'⟩ := SR.list hs' hdep
    rw [get_prefix px ha] at ha'
    cases ha'
    obtain ⟨w, hw, hvw⟩ := hva'.get hv
    have hI : s'.heap.get? s.heap.objs.size = some ob := by
      obtain ⟨⟨gg, hgg, m, news, F, N, _⟩, _⟩ := hs'
      exact (N _ (List.mem_append_right _ (.head _))).1
    refine wpAny_pyNext_list_item ⟨ob, hI, hc, hd⟩ hla' (by simpa using hw) fun h' hit hsb => ?_
    obtain ⟨ob', h1, h2, h3⟩ := hit
    exact hK' w _ [(_, ob')] (Same.hp s' h') ⟨ob', rfl, h2, h3⟩ (SR.touch hs' (fun b o hb e => hsb.extBut b o hb e) h1) hvw
  · rintro C₂ ⟨hp2, hw2, hA2⟩ ks kp st' s' ad' ⟨ob, rfl, hc, hd⟩ hdep px hs' K' hK'
    obtain ⟨a', ws', ha', hla', hva'⟩ := SR.list hs' hdep
    rw [get_prefix px ha] at ha'
    cases ha'
    have hI : s'.heap.get? s.heap.objs.size = some ob := by
      obtain ⟨⟨gg, hgg, m, news, F, N, _⟩, _⟩ := hs'
      exact (N _ (List.mem_append_right _ (.head _))).1
    refine wpAny_pyNext_list_end (by rw [hA2]; exact hh) ⟨ob, hI, hc, hd⟩ hla' (by simp [hva'.length]) fun h' he => ?_
    exact hK' _ (Same.hp s' h') (SR.gone hs' fun b o hb e => he b o hb e)
  · rintro C₂ i ks kp st' s' ad' ⟨ob, rfl, hc, hd⟩ hs' K' hK'
    have hI : s'.heap.get? s.heap.objs.size = some ob := by
      obtain ⟨⟨gg, hgg, m, news, F, N, _⟩, _⟩ := hs'
      exact (N _ (List.mem_append_right _ (.head _))).1
    exact wpAny_pyIter_listiter ⟨ob, hI, hc, hd⟩ hK'
  · rintro C₂ i ks kp st' s' ad' w t ⟨ob, rfl, hc, hd⟩ hs' K' hK'
    exact own_plain (hs'.kpGet (p := (s.heap.objs.size, ob)) (.head _)) hc (by decide) hK'
/-- over a range of the store -/
theorem iter_range {k : Nat} {a b c : Int} {n : Nat} (hh : C.A.handled = none) (hk : st.os[k]? = some (.range a b c)) (hsm : Builtin.Range.small a b c = true) (hn : Builtin.Range.rangeSize a b c = (n : Int)) :
    IterOf C (.ref k) st ((List.range n).map fun (i : Nat) => V.int (a + (i : Int) * c)) (fun _ => True) := fun s ad w hs rw' K hK => by
  obtain ⟨r, ob, hr, ho, ⟨t, u, v, rfl⟩, _⟩ := hs.at hk
  cases rw'.ref hr
  refine wpAny_pyIter_range ho hsm (hK s.heap.objs.size (fun i ks => ∃ ob h₁, ks = [(s.heap.objs.size, ob)] ∧ h₁.get? s.heap.objs.size = some ob ∧ IsRangeIter h₁ s.heap.objs.size (a + (i : Nat) * c) ((n : Int) - (i : Nat)) c) [(s.heap.objs.size, { cls := .type "range_iterator", data := .fields #[rawInt a, rawInt (Builtin.Range.rangeSize a b c), rawInt c] })] _ ⟨?_, ?_, ?_, ?_⟩ ?_ (Same.hp s _) (hs.keep { cls := .type "range_iterator", data := .fields #[rawInt a, rawInt (Builtin.Range.rangeSize a b c), rawInt c] }))
  · rintro C₂ ⟨hp2, hw2, hA2⟩ i v ks kp st' s' ad' hv ⟨ob, h₁, rfl, hc, hd⟩ hdep px hs' K' hK'
    have hI : s'.heap.get? s.heap.objs.size = some ob := by
      obtain ⟨⟨gg, hgg, m, news, F, N, _⟩, _⟩ := hs'
      exact (N _ (List.mem_append_right _ (.head _))).1
    have hi : i < n := by
      have := (List.getElem?_eq_some_iff.mp hv).1
      simpa using this
    have hv' : v = .int (a + i * c) := by
      rw [List.getElem?_map, List.getElem?_range hi] at hv
      exact (Option.some.inj hv).symm
    subst hv'
    have W := Walks.range (prog := C₂.prog) (w := C₂.w) (A := C₂.A) (by rw [hA2]; exact hh) s.heap.objs.size a c n
    refine W.item i s' _ _ hi (W.frame i h₁ s'.heap hd fun b hb o e => by
      rw [List.mem_singleton.mp hb] at e ⊢
      rw [hc] at e
      cases e
      exact hI) fun w h' tk hP hst hk => ?_
    obtain ⟨t', rfl⟩ := hP
    exact hK' _ _ [(_, _)] (Same.mk' s' h' tk) ⟨_, h', rfl, hst, hst⟩ (SR.touch hs' (fun b o hb e => hk b o (fun q => hb (List.mem_singleton.mp q)) e) hst) ⟨t', rfl⟩
  · rintro C₂ ⟨hp2, hw2, hA2⟩ ks kp st' s' ad' ⟨ob, h₁, rfl, hc, hd⟩ hdep px hs' K' hK'
    have hI : s'.heap.get? s.heap.objs.size = some ob := by
      obtain ⟨⟨gg, hgg, m, news, F, N, _⟩, _⟩ := hs'
      exact (N _ (List.mem_append_right _ (.head _))).1
    have W := Walks.range (prog := C₂.prog) (w := C₂.w) (A := C₂.A) (by rw [hA2]; exact hh) s.heap.objs.size a c n
    rw [List.length_map, List.length_range] at hd
    refine W.done s' _ _ (W.frame n h₁ s'.heap hd fun b hb o e => by
      rw [List.mem_singleton.mp hb] at e ⊢
      rw [hc] at e
      cases e
      exact hI) fun h' tk hk => ?_
    exact hK' _ (Same.mk' s' h' tk) (SR.gone hs' fun b o hb e => hk b o (fun q => hb (List.mem_singleton.mp q)) e)
  · rintro C₂ i ks kp st' s' ad' ⟨ob, h₁, rfl, hc, hd⟩ hs' K' hK'
    have hI : s'.heap.get? s.heap.objs.size = some ob := by
      obtain ⟨⟨gg, hgg, m, news, F, N, _⟩, _⟩ := hs'
      exact (N _ (List.mem_append_right _ (.head _))).1
    have e : IsRangeIter s'.heap s.heap.objs.size (a + (i : Nat) * c) ((n : Int) - (i : Nat)) c := by
      exact hI.trans (hc.symm.trans hd)
    exact wpAny_pyIter_rangeiter e hK'
  · rintro C₂ i ks kp st' s' ad' w t ⟨ob, h₁, rfl, hc, hd⟩ hs' K' hK'
    have e : IsRangeIter s'.heap s.heap.objs.size (a + (i : Nat) * c) ((n : Int) - (i : Nat)) c := (hs'.kpGet (p := (s.heap.objs.size, ob)) (.head _)).trans (hc.symm.trans hd)
    exact own_plain e rfl (by decide) hK'
  · refine ⟨_, s.heap.push _, rfl, Heap.get?_push_size _ rfl, ?_⟩
    show IsRangeIter _ _ _ _ _
    rw [hn]
    simpa using Heap.get?_push_size _ rfl
/-- the loop -/
theorem xv_for {t iter : Expr} {body : List Stmt} {Q : F → St → Prop}
    (h : EV C iter st (fun v st1 => ∃ (items : List V) (dep : St → Prop) (I : Nat → St → Prop), IterOf C v st1 items dep ∧ (∃ l₀, Sub l₀ st1.m ∧ I 0 ⟨l₀, st1.os⟩) ∧ (∀ i st', I i st' → dep st') ∧
      (∀ i v st' kp, items[i]? = some v → I i st' → AS (C.kept kp) t v st' (fun st2 => SV (C.kept kp) body st2 (ForT C st1.os.length (I (i + 1)) Q))) ∧ (∀ st', I items.length st' → Q .next st')))
    (hs : ∀ x, foldedSetIterable iter C.env x = pure x := by intro _; rfl) : XV C (.For t iter body [] pos) st Q := .mk fun s ad hs₀ => At.mk fun K hK => by
  refine wpAny_For ((h.go s ad hs₀).run _ fun v st1 s1 ad1 w q1 e1 p1 hs1 r1 => ?_) hs
  obtain ⟨items, dep, I, hit, ⟨l₀, hsub, hI0⟩, hdep, turn, done⟩ := q1
  refine hit s1 ad1 w hs1 r1 _ fun It inv ks s2 ai hinv e2 hs2 => ?_
  refine codeAny_forLoop_any (fun n s' => ∃ i st' ad' ks', n + i = items.length + 1 ∧ i ≤ items.length ∧ I i st' ∧ inv i ks' ∧ Same s s' ∧ ad1 <+: ad' ∧ SR (C.kept (ks' ++ C.kp)) ad' st' s'.heap) ?_ (items.length + 1) ⟨0, _, ad1, ks, rfl, Nat.zero_le _, hI0, hinv, e1.trans e2, List.prefix_refl _, hs2.weak hsub⟩
  rintro n s' ⟨i, st', ad', ks', hni, hile, hI, hinv', e', p', hs'⟩
  by_cases hi : i < items.length
  · refine wpNo (ai.next C ⟨rfl, rfl, rfl⟩ i items[i] ks' C.kp st' s' ad' (by simp [hi]) hinv' (hdep _ _ hI) p' hs' _ fun w s3 ks3 e3 hinv3 hs3 r3 => ?_)
    refine wpNo (ai.own C (i + 1) ks3 C.kp st' s3 ad' w t hinv3 hs3 _ ?_)
    refine wpNo (((turn i _ st' (ks3 ++ C.kp) (by simp [hi]) hI).go s3 ad' w hs3 r3).run _ fun _ st4 s4 ad4 _ q4 e4 p4 hs4 _ => ?_)
    refine wpNo ((q4.go s4 ad4 hs4).run _ fun f st5 s5 ad5 f' q5 e5 p5 hs5 r5 => ?_)
    have more : (∃ st', Wk C st5 st' ∧ st1.os.length ≤ st'.os.length ∧ I (i + 1) st') → ∃ m, m < n ∧ ∃ i st' ad' ks', m + i = items.length + 1 ∧ i ≤ items.length ∧ I i st' ∧ inv i ks' ∧ Same s s5 ∧ ad1 <+: ad' ∧ SR (C.kept (ks' ++ C.kp)) ad' st' s5.heap := by
      rintro ⟨st6, wk, hl, hI6⟩
      have wk' : Wk (C.kept (ks3 ++ C.kp)) st5 st6 := ⟨wk.1, wk.2.imp id fun k => ⟨k.os, k.lb, k.ob, k.cb⟩⟩
      obtain ⟨ad6, hs6, px⟩ := hs5.wk wk'
      exact ⟨n - 1, by omega, i + 1, st6, ad6, ks3, by omega, by omega, hI6, hinv3, e'.trans (e3.trans (e4.trans e5)), px _ (p'.trans (p4.trans p5)) (by rw [hs1.len]; exact hl), hs6⟩
    cases f with
    | next => cases r5; exact more q5
    | cont => cases r5; exact more q5
    | brk => cases r5; exact hK .next st5 s5 ad5 .next q5 (e'.trans (e3.trans (e4.trans e5))) (p1.trans (p'.trans (p4.trans p5))) hs5.drop rfl
    | ret v =>
      obtain ⟨w, rfl, hw⟩ := r5
      exact hK (.ret v) st5 s5 ad5 _ q5 (e'.trans (e3.trans (e4.trans e5))) (p1.trans (p'.trans (p4.trans p5))) hs5.drop ⟨w, rfl, hw⟩
  · obtain rfl : i = items.length := by omega
    · refine wpNo (ai.done C ⟨rfl, rfl, rfl⟩ ks' C.kp st' s' ad' hinv' (hdep _ _ hI) p' hs' _ fun s3 e3 hs3 => ?_)
      exact wpAny_execs_nil (hK .next st' s3 ad' .next (done st' hI) (e'.trans e3) (p1.trans p') hs3 rfl)
theorem as_name {x : Str} {px : Pos} {v : V} {Q : St → Prop} (G : Gd C sc lv) (h : Q (st.set x v)) (hl : sc.names.lookup x = some .local := by rfl) : AS C (.Name x px) v st Q := .mk fun s ad w hs r => At.mk fun K hK =>
  wpAny_assign_Name (hs.store r G hl fun s' e' hs' => hK () _ s' ad () h e' (List.prefix_refl _) hs' trivial)
end
end Mine
namespace Mine
/-- the type of a value, where it is plain -/
def TyIs (st : St) : V → String → Prop
  | .none, T => T = "NoneType"
  | .bool _, T => T = "bool"
  | .int _, T => T = "int"
  | .str _, T => T = "str"
  | .bytes _, T => T = "bytes"
  | .ref k, T => (∃ vs, st.os[k]? = some (.list vs) ∧ T = "list") ∨ (∃ vs, st.os[k]? = some (.tuple vs) ∧ T = "tuple")
  | .fix _, _ => False
section
variable {C : Cx} {sc : Scope} {lv : Nat} {st : St} {pos : Pos} {Q : V → St → Prop} {ad : List Addr}
theorem TyIs.is {s : Shared} {v : V} {w : Value} {T : String} (h : TyIs st v T) (hs : SR C ad st s.heap) (r : VR ad v w) : s.TypeIs w T ∧ ∀ a, w = .ref a → ∃ ob, s.heap.get? a = some ob ∧ ob.dict = none := by
  cases v with
  | none => cases h; cases r; exact ⟨rfl, fun _ e => nomatch e⟩
  | bool b => cases h; cases r; exact ⟨rfl, fun _ e => nomatch e⟩
  | int n => cases h; obtain ⟨t, rfl⟩ := r; exact ⟨rfl, fun _ e => nomatch e⟩
  | str x => cases h; obtain ⟨t, rfl⟩ := r; exact ⟨rfl, fun _ e => nomatch e⟩
  | bytes b => cases h; obtain ⟨t, rfl⟩ := r; exact ⟨rfl, fun _ e => nomatch e⟩
  | fix v => exact h.elim
  | ref k =>
    rcases h with ⟨vs, hk, rfl⟩ | ⟨vs, hk, rfl⟩
    · obtain ⟨a, ob, h1, h2, ⟨ws, n, rfl, hv⟩, _⟩ := hs.at hk
      cases r.ref h1
      exact ⟨⟨_, h2, rfl⟩, fun b e => by cases e; exact ⟨_, h2, rfl⟩⟩
    · obtain ⟨a, ob, h1, h2, ⟨ws, n, rfl, hv⟩, _⟩ := hs.at hk
      cases r.ref h1
      exact ⟨⟨_, h2, rfl⟩, fun b e => by cases e; exact ⟨_, h2, rfl⟩⟩
/-- ... one argument or more -/
theorem ev_meth {o e : Expr} {rest : List Expr} {name : Str} {apos : Pos} {T id : String} (pa : PlainAttrs T) (slot : Slot T name id) (hty : typeOf (.builtin id) = pure (.type "method_descriptor"))
    (h : EV C o st (fun ov st1 => TyIs st1 ov T ∧ AV C pos (e :: rest) st1 (fun vs st2 => CL C (.builtin id) (ov :: vs) st2 Q))) (hline : (apos.endLine == pos.line) = true := by rfl) (hbase : attributeBase o name C.env (eval o C.env) = eval o C.env := by rfl)
    (hst : starEach (e :: rest) C.env = (false, eval e C.env) :: starEach rest C.env := by rfl) (hp : (starEach (e :: rest) C.env).any (·.1) = false := by rfl)
    (hfew : ((backTo pos (starEach (e :: rest) C.env)).all (fun x => !x.1) && (backToKw pos (keywordEach [] C.env)).all (fun x => x.1.isSome)
      && decide ((e :: rest).length + ([] : List Keyword).length + (if ([] : List Keyword).isEmpty then 0 else 1) < 30)) = true := by rfl) :
    EV C (.Call (.Attribute o name apos) (e :: rest) [] pos) st Q := .mk fun s ad hs => At.mk fun K hK =>
  wpAny_Call_method hbase hfew hline pa slot hty ((h.go s ad hs).run _ fun v st1 s1 ad1 w q1 e1 p1 hs1 r1 => by
    obtain ⟨h1, h2⟩ := q1.1.is hs1 r1
    refine ⟨h1, h2, callWith_builtin (plain_backTo hp) ?_⟩
    have := q1.2.go s1 ad1 hs1
    revert this
    show At C ad1 s1 VRs (spliced (backTo pos (starEach (e :: rest) C.env))) _ → _
    rw [hst]
    intro q1
    exact evalArgs_plain (q1.run _ fun vs st2 s2 ad2 ws q2 e2 p2 hs2 r2 => (q2.go s2 ad2 (w :: ws) hs2 (.cons (r1.mono p2) r2)).run K fun v st3 s3 ad3 w q3 e3 p3 hs3 r3 => hK v st3 s3 ad3 w q3 (e1.trans (e2.trans e3)) (p1.trans (p2.trans p3)) hs3 r3))
theorem cl_type {v : V} {T : String} (ht : TyIs st v T) (hT : (Value.type T == Value.type "builtin_function_or_method") = false) (h : Q (.fix (.type T)) st) : CL C (.type "type") [v] st Q := .mk fun s ad ws hs hr => by
  cases hr with | cons a hr => cases hr with | nil =>
  exact At.stay (a := .type T) hs h rfl fun K hK => call_type_of (ht.is hs a).1 hT hK
theorem co_isnot {a b : Value} (hp : plainIs a b = true) (h : Q (.bool (!(a == b))) st) : CO C .IsNot (.fix a) (.fix b) st Q := .mk fun s ad va vb hs ra rb => by
  cases ra; cases rb
  exact At.stay (a := .bool _) hs h rfl fun K hK => wpAny_isNot_plain hp hK
theorem co_is {a b : Value} (hp : plainIs a b = true) (h : Q (.bool (a == b)) st) : CO C .Is (.fix a) (.fix b) st Q := .mk fun s ad va vb hs ra rb => by
  cases ra; cases rb
  exact At.stay (a := .bool _) hs h rfl fun K hK => wpAny_is_plain hp hK
theorem cl_range1 {n : Int} (h : Q (.ref st.os.length) (st.add (.range 0 n 1))) : CL C (.type "range") [.int n] st Q := .mk fun s ad ws hs hr => At.mk fun K hK => by
  cases hr with | cons a hr => cases hr with | nil =>
  obtain ⟨t, rfl⟩ := a
  have hl := hs.len
  obtain ⟨⟨gg, hgg, m, news, F, N, c, d, o, r⟩, hc⟩ := hs
  refine call_range_1 ?_
  exact hK _ _ _ _ _ h (Same.mk' s _ _) (List.prefix_append _ _) (sr_alloc hgg N c d o r hc (F.push _) (N.push F _) ⟨_, _, _, rfl⟩) (ref_new _ _ _ hl)
theorem cl_range3 {a b c : Int} (hc0 : c ≠ 0) (hp : c.natAbs.log2 < 9000) (h : Q (.ref st.os.length) (st.add (.range a b c))) : CL C (.type "range") [.int a, .int b, .int c] st Q := .mk fun s ad ws hs hr => At.mk fun K hK => by
  cases hr with | cons a hr => cases hr with | cons b hr => cases hr with | cons c' hr => cases hr with | nil =>
  obtain ⟨t, rfl⟩ := a
  obtain ⟨u, rfl⟩ := b
  obtain ⟨v, rfl⟩ := c'
  have hl := hs.len
  obtain ⟨⟨gg, hgg, m, news, F, N, c', d, o, r⟩, hc⟩ := hs
  refine call_range_3 hc0 ?_ (.inl (PyProof.noPylong_of_log2 hp))
  exact hK _ _ _ _ _ h (Same.mk' s _ _) (List.prefix_append _ _) (sr_alloc hgg N c' d o r hc (F.push _) (N.push F _) ⟨_, _, _, rfl⟩) (ref_new _ _ _ hl)
end
end Mine
namespace Mine
/-- the i-th statement of a program, a def -/
def drec (p : Program) (i : Nat) : DefRec := match p.main.body[i]? with
  | some (.FunctionDef n a b _ _ _ sc _ _ pos) => ⟨n, a, b, sc, pos⟩
  | _ => ⟨Str.empty, ⟨[], [], none, [], [], none, []⟩, [], ⟨.module, [], false, false, []⟩, ⟨0, 0, 0, 0⟩⟩
theorem Sim.frNil {h₀ g h : Heap} {L : Addr} {m : Str → Option Value} (k : Sim h₀ [] g) (F : Fr g L h m) : Fr h₀ L h m := ⟨F.ns, fun b o e => F.keep b o (k.same b o e (fun q => nomatch q)), by rw [← k.size]; exact F.above⟩
end Mine
namespace Mine
open PySem.Builtin.Int (intBits)
end Mine
namespace Mine
abbrev scEnv (sc : Scope) : Env := { scope := sc, locals := 0, globals := 0, cells := [] }
theorem swaps_scope {v : Expr} {t : Option Expr} {n : Nat} {env : Env} {sc : Scope} (h : env.scope = sc) : swapsWith v t n env = swapsWith v t n (scEnv sc) := by
  subst h; rfl
/-- items to targets, one by one -/
structure AO (C : Cx) (ts : List (Value → Sem Unit)) (vs : List V) (st : St) (Q : St → Prop) : Prop where
  go : ∀ s ad ws, SR C ad st s.heap → VRs ad vs ws → At C ad s UR (assignInOrder ts ws) (fun _ st' => Q st')
section
variable {C : Cx} {sc : Scope} {lv : Nat} {st : St} {pos : Pos}
theorem ao_nil {Q : St → Prop} (h : Q st) : AO C [] [] st Q := .mk fun s ad ws hs r => by
  cases r
  exact At.stay (a := ()) (b := ()) hs h trivial fun K hK => assignInOrder_nil hK
theorem ao_cons {t : Expr} {ts : List (Value → Sem Unit)} {v : V} {vs : List V} {Q : St → Prop} (h : AS C t v st (fun st1 => AO C ts vs st1 Q)) : AO C (assign t C.env :: ts) (v :: vs) st Q := .mk fun s ad ws hs r => At.mk fun K hK => by
  cases r with | cons a r =>
  refine assignInOrder_cons ((h.go s ad _ hs a).run _ fun _ st1 s1 ad1 _ q1 e1 p1 hs1 _ => ?_)
  exact (q1.go s1 ad1 _ hs1 (r.mono p1)).run K fun _ st2 s2 ad2 _ q2 e2 p2 hs2 _ => hK () st2 s2 ad2 () q2 (e1.trans e2) (p1.trans p2) hs2 trivial
theorem SR.ext {ad : List Addr} {h h' : Heap} (hs : SR C ad st h) (he : Heap.ExtBut h.objs.size h h') : SR C ad st h' := hs.grown fun b o e => he b o (Nat.ne_of_lt (Heap.lt_size e)) e
theorem as_tuple {es : List Expr} {n k : Nat} {tp : Pos} {vs : List V} {Q : St → Prop} (hh : C.A.handled = none) (hk : st.os[k]? = some (.tuple vs)) (h : AO C ((assignEach es C.env).map (·.2)) vs st Q)
    (hn : (assignEach es C.env).length = vs.length) (hstar : (assignEach es C.env).findIdx? (·.1) = none := by rfl) : AS C (.Tuple es n tp) (.ref k) st Q := .mk fun s ad w hs r => At.mk fun K hK => by
  obtain ⟨a, ws, ha, hla, hva⟩ := hs.tuple hk
  cases r.ref ha
  refine assign_Tuple_tuple hh hla (by rw [hn, List.size_toArray, hva.length]) hstar fun h' he => ?_
  exact (h.go { s with heap := h' } ad ws (hs.ext he) hva).run K fun _ st2 s2 ad2 _ q2 e2 p2 hs2 _ => hK () st2 s2 ad2 () q2 ((Same.hp s h').trans e2) p2 hs2 trivial
end
end Mine
namespace Mine
/-- an item read -/
structure GI (C : Cx) (a b : V) (st : St) (Q : V → St → Prop) : Prop where
  go : ∀ s ad va vb, SR C ad st s.heap → VR ad a va → VR ad b vb → (∃ T id, s.TypeIs va T ∧ typeLookup (.type T) "__getitem__" = pure (some (.builtin id))) ∧ At C ad s VR (getItem va vb) Q
section
variable {C : Cx} {sc : Scope} {lv : Nat} {st : St} {pos : Pos} {Q : V → St → Prop} {ad : List Addr}
/-- the k-th thing of the store turned -/
theorem SR.upd {h h' : Heap} {k : Nat} {a : Addr} {o : O} {ob' : Obj} (hs : SR C ad st h) (hk : ad[k]? = some a) (hsb : Heap.SameBut a h h') (hg : h'.get? a = some ob') (ho : OR ad o ob') : SR C ad ⟨st.m, st.os.set k o⟩ h' := by
  obtain ⟨⟨gg, hgg, m, news, F, N, c, d, o', r⟩, hc⟩ := hs
  have hkn : ∃ p, news[k]? = some p ∧ p.1 = a := by
    rw [← c, List.getElem?_map] at hk
    cases hp : news[k]? with
    | none => rw [hp] at hk; cases hk
    | some p => rw [hp] at hk; exact ⟨p, rfl, Option.some.inj hk⟩
  obtain ⟨p, hp, rfl⟩ := hkn
  have hlt := (List.getElem?_eq_some_iff.mp hp).1
  have hN := N p (List.mem_append_left _ (List.mem_of_getElem? hp))
  have d' := List.nodup_append.mp d
  have hmap : (news.set k (p.1, ob')).map (·.1) = ad := by
    rw [List.map_set, c]
    refine List.ext_getElem? fun i => ?_
    rw [List.getElem?_set]
    split
    · rename_i e
      subst e
      rw [if_pos (by rw [← c, List.length_map]; exact hlt), ← c, List.getElem?_map, hp]
      rfl
    · rfl
  refine ⟨⟨gg, hgg, m, news.set k (p.1, ob'), ⟨F.ns.at' fun o e => (hsb.2 _ (Ne.symm hN.2.1)).trans e, fun b o e => (hsb.2 b (fun q => by rw [q, hN.2.2] at e; cases e)).trans (F.keep b o e), F.above⟩, fun q hq => ?_, hmap, d, o'.set k ho, r⟩, hc⟩
  rcases List.mem_append.mp hq with hq | hq
  · obtain ⟨i, hi⟩ := List.mem_iff_getElem?.mp hq
    rw [List.getElem?_set] at hi
    split at hi
    · rename_i e
      subst e
      cases hi
      exact ⟨hg, hN.2⟩
    · rename_i ne
      have hq0 := N q (List.mem_append_left _ (List.mem_of_getElem? hi))
      have hne : q.1 ≠ p.1 := fun e => by
        have h1 : ad[i]? = some q.1 := by rw [← c, List.getElem?_map, hi]; rfl
        have h2 : ad[k]? = some p.1 := by rw [← c, List.getElem?_map, hp]; rfl
        have hil : i < ad.length := (List.getElem?_eq_some_iff.mp h1).1
        exact ne ((List.getElem?_inj hil d'.1).mp (h1.trans ((congrArg some e).trans h2.symm))).symm
      exact ⟨(hsb.2 _ hne).trans hq0.1, hq0.2⟩
  · have hq0 := N q (List.mem_append_right _ hq)
    have hne : q.1 ≠ p.1 := fun e => d'.2.2 p.1 (by rw [← c]; exact List.mem_map_of_mem (List.mem_of_getElem? hp)) q.1 (List.mem_map_of_mem hq) e.symm
    exact ⟨(hsb.2 _ hne).trans hq0.1, hq0.2⟩
theorem gi_list {k : Nat} {vs : List V} {i : Int} {v : V} (hk : st.os[k]? = some (.list vs)) (h0 : 0 ≤ i) (h1 : i < 2 ^ 63) (hx : vs[i.toNat]? = some v) (h : Q v st) : GI C (.ref k) (.int i) st Q := .mk fun s ad va vb hs ra ⟨t, e⟩ => by
  subst e
  obtain ⟨a, ws, ha, hl, hv⟩ := hs.list hk
  cases ra.ref ha
  obtain ⟨w, hw, hvw⟩ := hv.get hx
  exact ⟨⟨"list", _, hl.typeIs, slot_list_getitem.lookup⟩, At.stay (a := w) hs h hvw fun K hK => wpAny_getItem_list hl h0 h1 (by simpa using hw) hK⟩
theorem ev_sub {o i : Expr} (h : EV C o st (fun a st1 => EV C i st1 (fun b st2 => GI C a b st2 Q))) (hs : ∀ va vb, subscripted i false va vb = operate [va, vb] (getItem va vb) := by intro _ _; rfl) : EV C (.Subscript o i pos) st Q := .mk fun s ad hs₀ => At.mk fun K hK =>
  Subscript_ ((h.go s ad hs₀).run _ fun _ st1 s1 ad1 va q1 e1 p1 hs1 r1 => (q1.go s1 ad1 hs1).run _ fun _ st2 s2 ad2 vb q2 e2 p2 hs2 r2 => by
    obtain ⟨⟨T, id, hT, hl⟩, hq⟩ := q2.go s2 ad2 va vb hs2 (r1.mono p2) r2
    exact tail_any hT hl (hq.run K fun v st3 s3 ad3 w q3 e3 p3 hs3 r3 => hK v st3 s3 ad3 w q3 (e1.trans (e2.trans e3)) (p1.trans (p2.trans p3)) hs3 r3) (hs va vb))
/-- a cell stored -/
theorem SR.storeC {s : Shared} {x : Str} {k : Nat} {v : V} {w : Value} {v₀ : Option V} (hs : SR C ad st s.heap) (hv : VR ad v w) (G : Gd C sc lv) (hk : C.cl.lookup x = some k) (ho : st.os[k]? = some (.cell v₀)) (hl : sc.names.lookup x = some .cell) {E : Value → Shared → Prop} {K : Unit → Shared → Prop}
    (h : ∀ s', Same s s' → SR C ad ⟨st.m, st.os.set k (.cell (some v))⟩ s'.heap → K () s') : wpAny C.M C.A (storeName C.env x w) K E s := by
  obtain ⟨c, hc, ha⟩ := hs.cells x k hk
  obtain ⟨a, ob, h1, h2, h3, _⟩ := hs.at ho
  rw [ha] at h1
  cases h1
  have hcell : ∃ w₀, ob.data = .cell w₀ := by
    cases v₀ with
    | none => exact h3
    | some v₀ => obtain ⟨w₀, e, _⟩ := h3; exact ⟨_, e⟩
  obtain ⟨w₀, hd⟩ := hcell
  refine wpAny_storeName_cell (by rw [G.scope]; exact G.kind) (by rw [Env.kindOf, G.scope]; exact hl) hc ⟨ob, h2, hd⟩ fun h' hv' hsb => ?_
  obtain ⟨ob', hg', hd'⟩ := hv'
  exact h _ (Same.hp s h') (hs.upd ha hsb hg' ⟨w, hd', hv⟩)
theorem xv_assignC {x : Str} {px : Pos} {value : Expr} {k : Nat} {Q : F → St → Prop} (G : Gd C sc lv) (hk : C.cl.lookup x = some k) (h : EV C value st (fun v st1 => ∃ v₀, st1.os[k]? = some (.cell v₀) ∧ Q .next ⟨st1.m, st1.os.set k (.cell (some v))⟩)) (hl : sc.names.lookup x = some .cell := by rfl)
    (hsw : swapsWith value (some (.Name x px)) pos.line (scEnv sc) = pure false := by rfl) : XV C (.Assign [.Name x px] value pos) st Q := .mk fun s ad hs => At.mk fun K hK =>
  wpAny_Assign_Name ((h.go s ad hs).run _ fun v st1 s1 ad1 w q1 e1 p1 hs1 r1 => by
    obtain ⟨v₀, ho, q1⟩ := q1
    exact hs1.storeC r1 G hk ho hl fun s' e' hs' => hK .next _ s' ad1 .next q1 (e1.trans e') p1 hs' rfl) (by rw [swaps_scope G.scope]; exact hsw)
theorem as_cell {x : Str} {px : Pos} {v : V} {k : Nat} {v₀ : Option V} {Q : St → Prop} (G : Gd C sc lv) (hk : C.cl.lookup x = some k) (ho : st.os[k]? = some (.cell v₀)) (h : Q ⟨st.m, st.os.set k (.cell (some v))⟩) (hl : sc.names.lookup x = some .cell := by rfl) : AS C (.Name x px) v st Q := .mk fun s ad w hs r => At.mk fun K hK =>
  wpAny_assign_Name (hs.storeC r G hk ho hl fun s' e' hs' => hK () _ s' ad () h e' (List.prefix_refl _) hs' trivial)
end
end Mine
namespace Mine
/-- the tests of a comprehension -/
structure IFV (C : Cx) (ifs : List Expr) (st : St) (Q : Bool → St → Prop) : Prop where
  go : ∀ s ad, SR C ad st s.heap → At C ad s BR (forIn ifs true fun c r => if r = true then do let ok ← isTrue c C.env (eval c C.env); pure (ForInStep.yield ok) else pure (ForInStep.yield r)) Q
/-- the context of a comprehension's element -/
structure CompCx (C C' : Cx) (csc : Scope) (fr : List (Str × Nat)) (lv : Nat) : Prop where
  gd : Gd C' csc lv
  hand : C'.A.handled = C.A.handled
  cl : C'.cl = fr
  p : C'.p = C.p
  mg : C'.mg = C.mg
theorem closureFor_eq {scope : Scope} {env : Env} (f : Str → Addr) (h : ∀ x ∈ scope.names, x.2 = .free → env.cells.lookup x.1 = some (f x.1)) :
    closureFor scope env = pure (((scope.names.filter (·.2 == .free)).map fun x => (x.1, f x.1)).reverse) := by
  have key : ∀ (names : List (Str × NameKind)) (cs : List (Str × Addr)), (∀ x ∈ names, x.2 = .free → env.cells.lookup x.1 = some (f x.1)) →
      (forIn names cs fun x r => (do if x.2 == .free then pure (ForInStep.yield ((x.1, ← cellOf env x.1) :: r)) else pure (ForInStep.yield r) : Sem _)) = pure ((((names.filter (·.2 == .free)).map fun x => (x.1, f x.1)).reverse) ++ cs) := by
    intro names
    induction names with
    | nil => intro cs _; rfl
    | cons x r ih =>
      intro cs hx
      rw [List.forIn_cons]
      by_cases hf : x.2 = .free
      · have e := hx x (.head _) hf
        have hc : cellOf env x.1 = pure (f x.1) := by unfold cellOf; rw [e]
        have hb : (x.2 == NameKind.free) = true := by rw [hf]; rfl
        rw [if_pos hb, hc]
        show (forIn r ((x.1, f x.1) :: cs) _ : Sem _) = _
        rw [ih _ fun y hy => hx y (.tail _ hy), List.filter_cons, if_pos hb]
        simp
      · have hb : (x.2 == NameKind.free) = false := by simpa using hf
        rw [hb]
        show (forIn r cs _ : Sem _) = _
        rw [ih _ fun y hy => hx y (.tail _ hy), List.filter_cons, hb]
        simp
  have := key scope.names [] h
  rw [List.append_nil] at this
  have e := congrArg (fun t : Sem (List (Str × Addr)) => t >>= fun cs => pure cs) this
  refine Eq.trans ?_ e
  unfold closureFor
  congr 1
theorem lookup_fun {f : Str → Addr} {x : Str} : ∀ {l : List Str}, x ∈ l → (l.map fun y => (y, f y)).lookup x = some (f x)
  | y :: l, h => by
    rw [List.map_cons, List.lookup_cons]
    cases hxy : x == y with
    | true => rw [eq_of_beq hxy]
    | false =>
      rcases List.mem_cons.mp h with rfl | h
      · simp at hxy
      · exact lookup_fun h
theorem relabel_scope {scope : Scope} {env : Env} {sc : Scope} (h : env.scope = sc) : relabel scope env = relabel scope (scEnv sc) := by subst h; rfl
section
variable {C : Cx} {sc : Scope} {lv : Nat} {st : St} {pos : Pos} {ad : List Addr}
theorem ifv_nil {Q : Bool → St → Prop} (h : Q true st) : IFV C [] st Q := .mk fun s ad hs => At.stay (a := true) hs h rfl fun K hK => wpAny_tests_nil hK
/-- into the block of a comprehension: another namespace, all else below it -/
theorem SR.into {s : Shared} {h₁ : Heap} {m₁ : Str → Option Value} (hs : SR C ad st s.heap) (G : Gd C sc lv) (env' : Env) (fr : List (Str × Nat)) (hl : env'.locals = s.heap.objs.size) (hns : h₁.Ns s.heap.objs.size m₁) (hk : ∀ b o, s.heap.get? b = some o → h₁.get? b = some o)
    (hfr : ∀ x k, fr.lookup x = some k → ∃ c, env'.cells.lookup x = some c ∧ ad[k]? = some c) :
    ∃ g, (C.base.StaysIn g ∧ ∀ b ∈ C.env.locals :: C.of, C.base.get? b = none ∧ ∃ o, g.get? b = some o ∧ (∀ vs, o.data ≠ .fields vs) ∧ ∀ vs n, o.data ≠ .seq vs n) ∧ (∀ b, g.get? b = none → C.h₀.get? b = none) ∧ (0 < lv → ∃ fs, Below C.A C.base fs g ∧ ∀ b ∈ fs.filterMap (·.frame), b ∈ C.env.locals :: C.of) ∧
      SR { C with env := env', h₀ := g, cl := fr, of := C.env.locals :: C.of } ad ⟨[], st.os⟩ h₁ ∧
      ∀ (h₂ : Heap) (ad₂ : List Addr) (st₂ : St) (kp₂ : List (Addr × Obj)), ad <+: ad₂ → SR { C with env := env', h₀ := g, cl := fr, of := C.env.locals :: C.of, kp := kp₂ } ad₂ st₂ h₂ → SR (C.kept kp₂) ad₂ ⟨st.m, st₂.os⟩ h₂ := by
  obtain ⟨⟨gg, hgg, m, news, F, N, c, d, o, r⟩, hc⟩ := hs
  obtain ⟨stay, nsG⟩ := ground F N
  have hbL : C.base.get? C.env.locals = none := by
    cases q : C.base.get? C.env.locals with
    | none => rfl
    | some ob => exact absurd (Nat.lt_of_lt_of_le (Heap.lt_size (G.stays hgg _ _ q)) F.above) (Nat.lt_irrefl _)
  refine ⟨_, ⟨fun b o e => stay b o (G.stays hgg b o e), fun b hb => by
    rcases List.mem_cons.mp hb with rfl | hb
    · exact ⟨hbL, ns_data nsG⟩
    · exact ⟨(G.st.2 b hb).1, G.of_data hgg stay hb⟩⟩, fun b e => ?_, fun hlv => G.inner hlv hgg F N, ⟨⟨_, Sim.refl _ _, m₁, news, ⟨by show h₁.Ns env'.locals m₁; rw [hl]; exact hns, fun b o e => hk b o (of_hideAll _ e), by show _ ≤ env'.locals; rw [hl]; exact Nat.le_of_eq (hideAll_size _ _)⟩, fun p hp => ?_, c, d, o, fun _ _ e => nomatch e⟩, hfr⟩, ?_⟩
  · cases q : C.h₀.get? b with
    | none => rfl
    | some ob => obtain ⟨sl, q'⟩ := hgg.slot _ _ q; rw [stay _ _ q'] at e; cases e
  · exact ⟨hk _ _ (N p hp).1, by show p.1 ≠ env'.locals; rw [hl]; exact Nat.ne_of_lt (Heap.lt_size (N p hp).1), hideAll_none _ (List.mem_map_of_mem hp)⟩
  · rintro h₂ ad₂ st₂ kp₂ px ⟨⟨gg2, hgg2, m', news', F', N', c', d', o'', r'⟩, hc'⟩
    obtain ⟨g', hg', F2, N2⟩ := back_frame hgg F stay nsG hgg2 F'.keep (news₂ := news' ++ kp₂) fun p hp => ⟨(N' p hp).1, (N' p hp).2.2⟩
    refine ⟨⟨g', hg', m, news', F2, N2, c', d', o'', r.mono px⟩, fun x k q => ?_⟩
    obtain ⟨cc, q1, q2⟩ := hc x k q
    exact ⟨cc, q1, get_prefix px q2⟩
/-- another namespace's object turned: no concern of ours -/
theorem SR.other {h h' : Heap} {b : Addr} (hs : SR C ad st h) (hb : ∀ p, h.get? b = some p → C.h₀.get? b = none ∧ b ≠ C.env.locals ∧ b ∉ ad ++ C.kp.map (·.1)) (hk : Heap.SameBut b h h') : SR C ad st h' := by
  obtain ⟨⟨gg, hgg, m, news, F, N, c, d, o, r⟩, hc⟩ := hs
  have key : ∀ a ob, h.get? a = some ob → (C.h₀.get? a ≠ none ∨ a = C.env.locals ∨ a ∈ ad ++ C.kp.map (·.1)) → h'.get? a = some ob := fun a ob e hor => by
    by_cases hab : a = b
    · subst hab
      obtain ⟨h1, h2, h3⟩ := hb ob e
      rcases hor with h | h | h
      · exact absurd h1 h
      · exact absurd h h2
      · exact absurd h h3
    · exact (hk.2 a hab).trans e
  refine ⟨⟨gg, hgg, m, news, ⟨F.ns.at' fun o e => key _ o e (.inr (.inl rfl)), fun a ob e => key a ob (F.keep a ob e) (.inl fun q => by rw [hgg.non _ q] at e; cases e), F.above⟩, fun p hp => ⟨key _ _ (N p hp).1 (.inr (.inr ?_)), (N p hp).2⟩, c, d, o, r⟩, hc⟩
  rw [← c, ← List.map_append]
  exact List.mem_map_of_mem hp
end
end Mine
namespace Mine
section
variable {C : Cx} {sc : Scope} {lv : Nat} {st : St} {pos : Pos} {ad : List Addr}
theorem lookup_mem {x : Str} {k : Nat} : ∀ {fr : List (Str × Nat)}, fr.lookup x = some k → (x, k) ∈ fr
  | (y, u) :: r, e => by
    rw [List.lookup_cons] at e
    cases hxy : x == y with
    | true => rw [hxy] at e; cases e; rw [eq_of_beq hxy]; exact .head _
    | false => rw [hxy] at e; exact .tail _ (lookup_mem e)
/-- a kept object becomes one of the store -/
theorem SR.adopt {h : Heap} {D : Addr} {ob : Obj} {o : O} {kp : List (Addr × Obj)} (hs : SR (C.kept ((D, ob) :: kp)) ad st h) (ho : OR (ad ++ [D]) o ob) : SR (C.kept kp) (ad ++ [D]) (st.add o) h := by
  obtain ⟨⟨gg, hgg, m, news, F, N, c, d, o', r⟩, hc⟩ := hs
  have px : ad <+: ad ++ [D] := List.prefix_append _ _
  refine ⟨⟨gg, hgg, m, news ++ [(D, ob)], F, fun p hp => N p ?_, by rw [List.map_append, c]; rfl, ?_, (o'.mono px).append (.cons ho .nil), r.mono px⟩, fun x k q => ?_⟩
  · have hp' : p ∈ (news ++ [(D, ob)]) ++ kp := hp
    show p ∈ news ++ ((D, ob) :: kp)
    simpa using hp'
  · have d' : (ad ++ ((D, ob) :: kp).map (·.1)).Nodup := d
    show ((ad ++ [D]) ++ kp.map (·.1)).Nodup
    simpa using d'
  · obtain ⟨cc, q1, q2⟩ := hc x k q
    exact ⟨cc, q1, get_prefix px q2⟩
/-- kept objects in any order -/
theorem SR.perm {h : Heap} {a b : List (Addr × Obj)} (hs : SR (C.kept a) ad st h) (hp : a.Perm b) : SR (C.kept b) ad st h := by
  obtain ⟨⟨gg, hgg, m, news, F, N, c, d, o, r⟩, hc⟩ := hs
  refine ⟨⟨gg, hgg, m, news, F, fun p hq => N p ?_, c, ?_, o, r⟩, hc⟩
  · rcases List.mem_append.mp hq with hq | hq
    · exact List.mem_append_left _ hq
    · exact List.mem_append_right _ (hp.symm.subset hq)
  · have d' : (ad ++ a.map (·.1)).Nodup := d
    exact (List.Perm.nodup_iff (List.Perm.append_left _ (hp.map _))).mp d'
theorem SR.kpAt {h : Heap} {p : Addr × Obj} (hs : SR C ad st h) (hp : p ∈ C.kp) : h.get? p.1 = some p.2 := by
  obtain ⟨⟨gg, hgg, m, news, F, N, _⟩, _⟩ := hs
  exact (N p (List.mem_append_right _ hp)).1
/-- a list comprehension of one clause -/
theorem ev_comp {elt target iter : Expr} {ifs : List Expr} {scope : Scope} {clc fr : List (Str × Nat)} {Q : V → St → Prop} (G : Gd C sc lv) (hclc : C.cl = clc)
    (h : EV C iter st (fun v st1 => ∃ (items : List V) (dep : St → Prop) (I : Nat → List V → List O → Prop), IterOf C v st1 items dep ∧ items.length ≤ 1000000 ∧ I 0 [] st1.os ∧ (∀ i acc os, I i acc os → dep ⟨[], os⟩) ∧
      (∀ C' i v acc os, CompCx C C' (relabel scope (scEnv sc)) fr lv → items[i]? = some v → I i acc os → AS C' target v ⟨[], os⟩ (fun st2 => IFV C' ifs st2 (fun b st3 => if b = true then EV C' elt st3 (fun y st4 => I (i + 1) (acc ++ [y]) st4.os) else I (i + 1) acc st3.os))) ∧
      (∀ acc os, I items.length acc os → Q (.ref os.length) ⟨st1.m, os ++ [.list acc]⟩)))
    (hcell : ∀ x ∈ scope.names, x.2 ≠ .cell := by decide) (hkind : scope.kind = .function := by rfl) (hnames : ∀ x ∈ scope.names, x.2 = .local → scope.names.lookup x.1 = some .local := by decide)
    (hfree : ∀ x ∈ scope.names, x.2 = .free → (clc.lookup x.1).isSome = true := by decide) (hfr : ∀ p ∈ fr, (p.1, NameKind.free) ∈ scope.names ∧ clc.lookup p.1 = some p.2 := by decide)
    (hfs : ∀ x, foldedSetIterable iter C.env x = pure x := by intro _; rfl) (ht : ∀ it v, letOwnedTupleGo target it v = pure () := by intro _ _; rfl) : EV C (.ListComp elt [⟨target, iter, ifs, 0⟩] scope pos) st Q := .mk fun s ad hs₀ => At.mk fun K hK => by
  rw [eval_ListComp]
  have hclos := closureFor_eq (scope := scope) (env := C.env) (fun x => (C.env.cells.lookup x).getD 0) fun x hx hf => by
    obtain ⟨k, hk⟩ := Option.isSome_iff_exists.mp (hfree x hx hf)
    obtain ⟨c, hc, _⟩ := hs₀.cells x.1 k (by rw [hclc]; exact hk)
    rw [hc]; rfl
  refine wpAny_comprehension_free (use := none) rfl hfs hclos hkind hnames ?_
  refine (h.go s ad hs₀).run _ fun v st1 s1 ad1 w q1 e1 p1 hs1 r1 => ?_
  obtain ⟨items, dep, I, hit, hlen, hI0, hdep, turn, done⟩ := q1
  refine hit s1 ad1 w hs1 r1 _ fun It inv ks s2 ai hinv e2 hs2 => ?_
  refine wpAny_newObj_type ?_
  have hs3 := SR.keep hs2 { cls := .type "list", dict := none, data := .seq ([] : List Value).toArray }
  have hDg : (s2.heap.push { cls := .type "list", dict := none, data := .seq ([] : List Value).toArray }).get? s2.heap.objs.size = some (listOf ([] : List Value).toArray 0) := Heap.get?_push_size _ rfl
  refine wpAny_newFunctionEnv hcell (by intro y hy; simp at hy) (fun h₁ hns₁ hsb₁ => ?_) hkind
  dsimp only at hns₁ hsb₁ hs3 hDg ⊢
  generalize hD : s2.heap.objs.size = D at *
  generalize hH3 : s2.heap.push { cls := .type "list", dict := none, data := .seq ([] : List Value).toArray } = H3 at *
  have hLlt : C.env.locals < H3.objs.size := by
    obtain ⟨⟨gg, hgg, m, news, F, _⟩, _⟩ := hs3
    exact F.ns.lt
  have old : ∀ b o, H3.get? b = some o → h₁.get? b = some o := fun b o e => hsb₁.extBut b o (Nat.ne_of_lt (Heap.lt_size e)) (Heap.get?_push_of_some _ e)
  generalize hcl : ((scope.names.filter (·.2 == .free)).map fun x => (x.1, (C.env.cells.lookup x.1).getD 0)).reverse = cl at *
  have hfrk : ∀ x k, fr.lookup x = some k → ∃ c, cl.lookup x = some c ∧ ad1[k]? = some c := fun x k e => by
    have hm := lookup_mem e
    obtain ⟨hn, hk⟩ := hfr _ hm
    obtain ⟨c, hc, hcc⟩ := hs1.cells x k (by rw [hclc]; exact hk)
    refine ⟨c, ?_, hcc⟩
    have := lookup_fun (f := fun x => (C.env.cells.lookup x).getD 0) (x := x) (l := ((scope.names.filter (·.2 == .free)).map (·.1)).reverse) (by
      rw [List.mem_reverse]
      exact List.mem_map.mpr ⟨(x, .free), List.mem_filter.mpr ⟨hn, rfl⟩, rfl⟩)
    rw [← hcl, ← show ((C.env.cells.lookup x).getD 0) = c by rw [hc]; rfl, ← this]
    congr 1
    rw [List.map_reverse, List.map_map]
    rfl
  obtain ⟨g, stay, dom, fsk, hsC, back⟩ := SR.into (s := { s2 with heap := H3 }) hs3 (G.kept _) (compEnvC scope cl H3.objs.size C.env) fr rfl hns₁ old hfrk
  have hCC : ∀ kp, CompCx C { C with env := compEnvC scope cl H3.objs.size C.env, h₀ := g, cl := fr, of := C.env.locals :: C.of, kp := kp } (relabel scope (scEnv sc)) fr lv := fun kp =>
    ⟨⟨by show relabel scope C.env = _; exact relabel_scope G.scope, hkind, G.glob, G.blt, G.top, stay, G.depth, G.units, fun h => by obtain ⟨fs, B, hfs⟩ := fsk h; exact ⟨C.A, fs, B, hfs, .inr rfl⟩⟩, rfl, rfl, rfl, rfl⟩
  show codeAny C.M C.A (.compStart (.ListComp elt [⟨target, iter, ifs, 0⟩] scope pos) 0 (.ref It) (.ref D) (compEnvC scope cl H3.objs.size C.env)) _ _
  have loop : codeAny C.M C.A (.compLoop (.ListComp elt [⟨target, iter, ifs, 0⟩] scope pos) 0 (.ref It) (.ref D) (compEnvC scope cl H3.objs.size C.env)) (compPost C.M C.A No none K (.ref D) H3.objs.size) { s2 with heap := h₁, toks := s2.toks + ([] : List (Str × Value)).length } := by
    refine codeAny_compLoop_tests (fun n s' => ∃ i acc ws m os ad' ks', n + i = items.length + 1 ∧ i ≤ items.length ∧ acc.length ≤ i ∧ I i acc os ∧ inv i ks' ∧ Same s s' ∧ ad1 <+: ad' ∧ VRs ad' acc ws ∧
      SR { C with env := compEnvC scope cl H3.objs.size C.env, h₀ := g, cl := fr, of := C.env.locals :: C.of, kp := ks' ++ ((D, listOf ws.toArray m) :: C.kp) } ad' ⟨[], os⟩ s'.heap) ?_ (items.length + 1) ⟨0, [], [], 0, st1.os, ad1, ks, rfl, Nat.zero_le _, Nat.le_refl _, hI0, hinv, ?_, List.prefix_refl _, .nil, ?_⟩ (ht _)
    · rintro n s' ⟨i, acc, ws, m, os, ad', ks', hni, hile, hal, hI, hinv', e', p', hv, hs'⟩
      by_cases hi : i < items.length
      · refine wpNo (ai.next { C with env := compEnvC scope cl H3.objs.size C.env, h₀ := g, cl := fr, of := C.env.locals :: C.of } ⟨rfl, rfl, rfl⟩ i items[i] ks' _ _ s' ad' (by simp [hi]) hinv' (hdep _ _ _ hI) p' hs' _ fun w s3 ks3 e3 hinv3 hs3 r3 => ?_)
        refine wpNo (((turn _ i _ acc os (hCC _) (by simp [hi]) hI).go s3 ad' w hs3 r3).run _ fun _ st4 s4 ad4 _ q4 e4 p4 hs4 _ => ?_)
        refine wpNo ((q4.go s4 ad4 hs4).run _ fun b st5 s5 ad5 b' q5 e5 p5 hs5 r5 => ?_)
        cases r5
        cases b with
        | false =>
          rw [if_neg (by decide)] at q5 ⊢
          exact ⟨n - 1, by omega, i + 1, acc, ws, m, st5.os, ad5, ks3, by omega, by omega, by omega, q5, hinv3, e'.trans (e3.trans (e4.trans e5)), p'.trans (p4.trans p5), hv.mono (p4.trans p5), hs5.weak Sub.nil⟩
        | true =>
          rw [if_pos rfl] at q5 ⊢
          refine wpNo ((q5.go s5 ad5 hs5).run _ fun y st6 s6 ad6 yv q6 e6 p6 hs6 r6 => ?_)
          have hDg6 := hs6.kpAt (p := (D, listOf ws.toArray m)) (List.mem_append_right _ (.head _))
          refine wpAny_list_append_plain ⟨m, hDg6⟩ (fun h' hp hsb => ?_) (by rw [List.size_toArray, hv.length, sizeLine_eq]; omega)
          obtain ⟨m', hg'⟩ := hp
          have hs7 := SR.touch (C := { C with env := compEnvC scope cl H3.objs.size C.env, h₀ := g, cl := fr, of := C.env.locals :: C.of }) (SR.perm (C := { C with env := compEnvC scope cl H3.objs.size C.env, h₀ := g, cl := fr, of := C.env.locals :: C.of }) (hs6.weak Sub.nil) List.perm_middle) (fun b o hb e => hsb.extBut b o hb e) hg'
          exact ⟨n - 1, by omega, i + 1, acc ++ [y], ws ++ [yv], m', st6.os, ad6, ks3, by omega, by omega, by rw [List.length_append]; simp; omega, q6, hinv3, e'.trans (e3.trans (e4.trans (e5.trans (e6.trans (Same.hp s6 h'))))), p'.trans (p4.trans (p5.trans p6)), (hv.mono (p4.trans (p5.trans p6))).append (.cons r6 .nil), by
            have := SR.perm (C := { C with env := compEnvC scope cl H3.objs.size C.env, h₀ := g, cl := fr, of := C.env.locals :: C.of }) hs7 List.perm_middle.symm
            simpa using this⟩
      · obtain rfl : i = items.length := by omega
        refine wpNo (ai.done { C with env := compEnvC scope cl H3.objs.size C.env, h₀ := g, cl := fr, of := C.env.locals :: C.of } ⟨rfl, rfl, rfl⟩ ks' _ _ s' ad' hinv' (hdep _ _ _ hI) p' hs' _ fun s3 e3 hs3 => ?_)
        have hb := back _ _ _ _ p' hs3
        obtain ⟨⟨gg, hgg, mm, news, F, N, c, d, o, r⟩, hc⟩ := id hs3
        refine ⟨mm, F.ns, fun h' hsb => ?_⟩
        have hb' := SR.other (b := H3.objs.size) hb (fun q hq => ⟨?_, Nat.ne_of_gt hLlt, ?_⟩) hsb
        · have := SR.adopt hb' (o := .list acc) ⟨ws, m, rfl, hv.mono (List.prefix_append _ _)⟩
          exact hK _ _ _ _ _ (done acc os hI) (e'.trans (e3.trans (Same.hp s3 h'))) ((p1.trans p').trans (List.prefix_append _ _)) this (ref_new _ _ _ hb.len)
        · cases q0 : C.h₀.get? H3.objs.size with
          | none => rfl
          | some ob =>
            cases q1 : g.get? H3.objs.size with
            | none => have := dom _ q1; rw [q0] at this; cases this
            | some ob' => exact absurd (Heap.lt_size q1) (Nat.not_lt.mpr (by rw [← hgg.size]; exact F.above))
        · intro hm
          have hm' : H3.objs.size ∈ (news ++ (D, listOf ws.toArray m) :: C.kp).map (·.1) := by rw [List.map_append, c]; exact hm
          obtain ⟨p, hp, e⟩ := List.mem_map.mp hm'
          exact (N p hp).2.1 e
    · exact e1.trans (e2.trans (Same.mk' s2 _ _))
    · exact SR.perm (C := { C with env := compEnvC scope cl H3.objs.size C.env, h₀ := g, cl := fr, of := C.env.locals :: C.of }) hsC List.perm_middle.symm
  exact codeAny_compStart_list loop (wpNo (ai.self _ 0 ks _ _ { s2 with heap := h₁, toks := s2.toks + ([] : List (Str × Value)).length } ad1 hinv (SR.perm (C := { C with env := compEnvC scope cl H3.objs.size C.env, h₀ := g, cl := fr, of := C.env.locals :: C.of }) hsC List.perm_middle.symm) _ loop))
theorem cl_lenL {k : Nat} {vs : List V} {Q : V → St → Prop} (hk : st.os[k]? = some (.list vs)) (hsz : vs.length ≤ 1000000) (h : Q (.int (vs.length : Int)) st) : CL C (.builtin "len") [.ref k] st Q := .mk fun s ad ws hs hr => by
  cases hr with | cons ra hr => cases hr with | nil =>
  obtain ⟨a, ws, ha, hl, hv⟩ := hs.list hk
  cases ra.ref ha
  refine At.tick (a := .int _ (s.toks + 1)) hs h ⟨_, rfl⟩ fun K hK => call_len_list hl (by rw [List.size_toArray, hv.length]; omega) ?_
  rw [List.size_toArray, hv.length]
  exact hK _
abbrev mkCxC (prog : Program) (w : World) (A : Around) (env : Env) (h₀ : Heap) (cl : List (Str × Nat)) (p : Program) (loose : List Str) (mean : ExcName → Option Value) (mg mb : Str → Option Value) : Cx := ⟨prog, w, A, env, h₀, [], cl, p, loose, mean, mg, mb, h₀, []⟩
end
end Mine
namespace Mine
open PySem.Builtin.Int (intBits)
/-- the k figures of base 256, the first one ahead -/
abbrev pk (k : Nat) (x : Int) : List Int := (KTBy.little k x).reverse
theorem pk_length (k : Nat) (x : Int) : (pk k x).length = k := by rw [List.length_reverse, KTBy.little_length]
theorem little_in : ∀ (k : Nat) (x : Int), KBa.In (KTBy.little k x)
  | 0, _ => fun _ h => nomatch h
  | k + 1, x => fun n h => by
    rcases List.mem_cons.mp h with rfl | h
    · omega
    · exact little_in k (x / 256) n h
theorem pk_in (k : Nat) (x : Int) : KBa.In (pk k x) := fun n h => little_in k x n (List.mem_reverse.mp h)
theorem args2 (a b : Value) : argsOk "int.to_bytes" ⟨[a, b], []⟩ := by unfold argsOk; kernel_rfl
section
variable {C : Cx} {sc : Scope} {lv : Nat} {st : St} {pos : Pos} {Q : V → St → Prop} {ad : List Addr} {ns ms : List Int}
theorem cl_toBytes {x : Int} {k : Nat} (hk : k ≤ 16) (h0 : 0 ≤ x) (h1 : x < 256 ^ k) (h : Q (.bytes (byteArr (pk k x))) st) : CL C (.builtin "int.to_bytes") [.int x, .int (k : Int)] st Q := .mk fun s ad ws hs hr => At.mk fun K hK => by
  cases hr with | cons ra hr => cases hr with | cons rb hr => cases hr with | nil =>
  obtain ⟨t, rfl⟩ := ra
  obtain ⟨u, rfl⟩ := rb
  have hb : intBits x ≤ 8 * k := KTBy.bits_le rfl h0 h1
  refine wpAny_call_entry KTBy.slot (typeIs_int s x t) KTBy.entry ?_ (args2 _ _)
  show wpAny _ _ (Builtin.Int.intOfSelf (.int x t) >>= fun y => _) _ _ s
  refine wpAny_bind (wpAny_of_eq (a := x) rfl ?_)
  show wpAny _ _ (Builtin.Int.intBindNamed "to_bytes" ["length", "byteorder", "signed"] 0 2 [.int (k : Int) u] [] >>= fun l => _) _ _ s
  refine wpAny_bind (wpAny_of_eq (a := [some (.int (k : Int) u), none, none]) (by kernel_rfl) ?_)
  show wpAny _ _ (Builtin.Int.intIndex "int.to_bytes" (.int (k : Int) u) >>= fun n => _) _ _ s
  refine wpAny_bind (wpAny_of_eq (a := (k : Int)) rfl ?_)
  refine KTBy.if_not (by show (decide ((k : Int) < -(2 ^ 63 : Int)) || decide ((k : Int) ≥ 2 ^ 63)) = false; rw [decide_eq_false (show ¬ ((k : Int) < -(2 ^ 63 : Int)) by omega), decide_eq_false (show ¬ ((k : Int) ≥ 2 ^ 63) by omega)]; rfl) ?_
  refine wpAny_bind (wpAny_of_eq (a := PySem.Str.ofString "big") (by kernel_rfl) ?_)
  refine wpAny_bind (wpAny_of_eq (a := false) rfl ?_)
  refine wpAny_bind (wpAny_of_eq (a := false) (by kernel_rfl) ?_)
  refine wpAny_ite_false (decide_eq_false (show ¬ ((k : Int) < 0) by omega)) ?_
  refine wpAny_ite_false (decide_eq_false (show ¬ ((k : Int) > 2 ^ 63 - 1 - 33) by omega)) ?_
  refine wpAny_ite_false (decide_eq_false (show ¬ ((k : Int) > (sizeLine : Int)) by rw [sizeLine_eq]; omega)) ?_
  refine KTBy.if_not (by show (decide (x < 0) && !false) = false; rw [decide_eq_false (show ¬ x < 0 by omega)]; rfl) ?_
  refine KTBy.if_not (by show (_ && decide ((intBits x : Int) > 8 * (k : Int))) = false; rw [decide_eq_false (show ¬ ((intBits x : Int) > 8 * (k : Int)) by omega), Bool.and_false]) ?_
  refine wpAny_bind (wpAny_mkBytes (wpAny_pure ⟨_, rfl, hK _ _ _ ad _ h (Same.tk s _) (List.prefix_refl _) hs ⟨s.toks, ?_⟩⟩) (by show (List.reverse (KTBy.low x (Int.toNat (k : Int)))).length ≤ sizeLine; rw [List.length_reverse, KTBy.low_length, Int.toNat_natCast, sizeLine_eq]; omega))
  congr 1
  have e : (List.map (fun c : UInt8 => ((c.toNat : Nat) : Int)) (List.reverse (KTBy.low x k))) = pk k x := by rw [List.map_reverse, KTBy.low_ints h0 h1, ← KTBy.little_eq]
  rw [← e]
  show (List.reverse (KTBy.low x (Int.toNat (k : Int)))).toArray = _
  rw [Int.toNat_natCast]
  generalize (List.reverse (KTBy.low x k)) = l
  unfold byteArr
  congr 1
  rw [List.map_map]
  refine (List.map_id l).symm.trans (List.map_congr_left fun c _ => ?_)
  show c = (c.toNat : Int).toNat.toUInt8
  rw [Int.toNat_natCast]
  exact (UInt8.ofNat_toNat).symm
theorem cl_lenB (hsz : ns.length ≤ 1000000) (h : Q (.int (ns.length : Int)) st) : CL C (.builtin "len") [.bytes (byteArr ns)] st Q := .mk fun s ad ws hs hr => by
  cases hr with | cons ra hr => cases hr with | nil =>
  obtain ⟨t, rfl⟩ := ra
  refine At.tick (a := .int _ (s.toks + 1)) hs h ⟨_, rfl⟩ fun K hK => len_bytes (by rw [byteArr_size]; omega) ?_
  rw [byteArr_size]
  exact hK _
theorem bytes_item {i : Int} {v : Int} (hin : KBa.In ns) (hx : ns[i.toNat]? = some v) : ((((ns.map fun (n : Int) => n.toNat.toUInt8).getD i.toNat 0).toNat : Nat) : Int) = v := by
  have hv := hin v (List.mem_of_getElem? hx)
  rw [List.getD_eq_getElem?_getD, List.getElem?_map, hx]
  show (((v.toNat.toUInt8).toNat : Nat) : Int) = v
  have a : (v.toNat.toUInt8).toNat = v.toNat := by show (UInt8.ofNat v.toNat).toNat = v.toNat; rw [UInt8.toNat_ofNat']; omega
  rw [a]
  omega
theorem gi_bytes {i : Int} {v : Int} (hsz : ns.length ≤ 1000000) (hin : KBa.In ns) (h0 : 0 ≤ i) (hx : ns[i.toNat]? = some v) (h : Q (.int v) st) : GI C (.bytes (byteArr ns)) (.int i) st Q := .mk fun s ad va vb hs ⟨t, e⟩ ⟨u, f⟩ => by
  subst e f
  have hlt := (List.getElem?_eq_some_iff.mp hx).1
  refine ⟨⟨"bytes", _, typeIs_bytes _ _ _, FB.slot_bytes_getitem.lookup⟩, At.tick (a := .int v s.toks) hs h ⟨_, rfl⟩ fun K hK => ?_⟩
  have hK' := hK (s.toks + 1)
  rw [← bytes_item hin hx] at hK'
  exact getItem_bytes (l := ns.map fun (n : Int) => n.toNat.toUInt8) (by rw [List.length_map]; omega) h0 (by rw [List.length_map]; omega) hK'
theorem VRs.ints {ad : List Addr} : ∀ {ns : List Int} {ws : List Value}, VRs ad (ns.map V.int) ws → IntsAre ws ns
  | [], _, .nil => .nil
  | n :: ns, _, .cons ⟨t, e⟩ r => by subst e; exact .cons n t r.ints
/-- a try whose body raises nothing -/
theorem xv_try {body : List Stmt} {h₀ : ExceptHandler} {hs : List ExceptHandler} {Q : F → St → Prop} (h : SV C body st Q) : XV C (.Try body (h₀ :: hs) [] [] pos) st Q := .mk fun s ad hs₀ => At.mk fun K hK =>
  wpAny_Try_except (wpNo ((h.go s ad hs₀).run _ fun f st1 s1 ad1 f' q1 e1 p1 hs1 r1 => by
    cases f with
    | next => cases r1; exact wpAny_execs_nil (hK .next st1 s1 ad1 .next q1 e1 p1 hs1 rfl)
    | brk => cases r1; exact hK .brk st1 s1 ad1 .brk q1 e1 p1 hs1 rfl
    | cont => cases r1; exact hK .cont st1 s1 ad1 .cont q1 e1 p1 hs1 rfl
    | ret v => obtain ⟨w, rfl, hw⟩ := r1; exact hK (.ret v) st1 s1 ad1 _ q1 e1 p1 hs1 ⟨w, rfl, hw⟩))
end
end Mine
namespace Mine
/-- an exception with its traceback: e holds vs, but for the traceback T, whose flight mark is fl -/
def Exc (h B : Heap) (e : Addr) (cls : Value) (vs : Array Value) (fl : Value) : Prop :=
  ∃ oe T oT ts, h.get? e = some oe ∧ oe.cls = cls ∧ oe.data = .fields (vs.setIfInBounds 1 (.ref T)) ∧ B.get? T = none ∧ T ≠ e ∧ h.get? T = some oT ∧ oT.data = .fields ts ∧ ts[3]? = some fl ∧ 1 < vs.size
theorem Exc.traced {h B : Heap} {e : Addr} {cls a0 fl : Value} {vs : Array Value} (x : Exc h B e cls vs fl) (h0 : vs[0]? = some a0) : h.TracedAtW B e cls a0 fl := by
  obtain ⟨oe, T, oT, ts, a1, a2, a3, a4, a5, a6, a7, a8, a9⟩ := x
  exact ⟨oe, _, T, oT, ts, a1, ⟨a2, by rw [Array.getElem?_setIfInBounds_ne (by decide)]; exact h0⟩, a3, by simp [a9], a4, a5, a6, a7, a8⟩
section
variable {M : Model} {A : Around} {E : Value → Shared → Prop} {s : Shared} {B : Heap} {env : Env} {outer : List Env} {L e : Addr}
/-- the first note of a frame -/
theorem note_first {oe : Obj} {vs : Array Value} {Q : Unit → Shared → Prop}
    (hfr : A.frames = some (env :: outer)) (hl : s.heap.FunFrames B (env :: outer)) (hf : env.frame = some L)
    (he : s.heap.get? e = some oe) (hkb : B.StaysIn s.heap) (hen : B.get? e = none) (hd : oe.data = .fields vs) (h1 : vs[1]? = some .none)
    (h : ∀ h', B.StaysIn h' → h'.FunFrames B (env :: outer) → s.heap.UpToSlots h' → (∀ b o, b ≠ e → b ∉ (env :: outer).filterMap (·.frame) → s.heap.get? b = some o → h'.get? b = some o) → Exc h' B e oe.cls vs (rawInt L) → Q () { s with heap := h' }) :
    wpAny M A (noteFrame (.ref e) env) Q E s := by
  have hsz : 1 < vs.size := (Array.getElem?_eq_some_iff.mp h1).1
  have hene : e ∉ (env :: outer).filterMap (·.frame) := fun hm => by
    obtain ⟨_, o, ho, hnf⟩ := hl.mem hm
    rw [he] at ho; cases ho; exact hnf vs hd
  unfold noteFrame
  simp only [hf]
  refine wpAny_bind (wpAny_field he hd h1 ?_)
  rw [if_neg (by decide)]
  refine wpAny_bind (wpAny_frameOf_fun hfr hl hf fun h₁ hs₁ => ?_)
  refine wpAny_bind (wpAny_entryPlaceOf fun pl hpl => ?_)
  unfold EntryCells.newEntry newFields
  refine wpAny_bind (wpAny_newObj_type ?_ (hpl.sizeOk5 _ _ _ _ _))
  generalize hTo : ({ cls := .type "traceback", dict := none, data := .fields ([Value.none, .ref L, .none, rawInt L, .none] ++ (if pl.isEmpty then List.replicate 6 Value.none else pl)).toArray } : Obj) = oT
  have he₁ : h₁.get? e = some oe := (hs₁.2.1 e hene).trans he
  have kb₁ : B.StaysIn h₁ := fun b o hbo => (hs₁.2.1 b fun hm => by rw [(hl.mem hm).1] at hbo; cases hbo).trans (hkb b o hbo)
  have he₂ := Heap.get?_push_of_some (h := h₁) oT he₁
  have hTe : h₁.objs.size ≠ e := Nat.ne_of_gt (Heap.lt_size he₁)
  have keep : ∀ b o, b ≠ e → h₁.get? b = some o → ((h₁.push oT).update e (Obj.mapFields (·.setIfInBounds 1 (Value.ref h₁.objs.size)))).get? b = some o := fun b o hbe hb => by
    rw [Heap.get?_update_other _ _ (Ne.symm hbe)]
    exact Heap.get?_push_of_some _ hb
  have noRec : ∀ b o, s.heap.get? b = some o → (∀ vs, o.data ≠ .fields vs) → b ≠ e := fun b o hb hnf q => by
    rw [q, he] at hb; cases hb; exact hnf vs hd
  refine wpAny_setField he₂ hd hsz (h _ ?_ ?_ ?_ ?_ ?_)
  · exact fun b o hbo => keep b o (fun q => by rw [q, hen] at hbo; cases hbo) (kb₁ b o hbo)
  · refine hl.of_keeps fun b o hb hnf => ?_
    obtain ⟨sl, hs⟩ := hs₁.2.2 b o hb
    exact ⟨_, keep b _ (noRec b o hb hnf) hs, rfl⟩
  · intro b o hb hnf
    obtain ⟨sl, hs⟩ := hs₁.2.2 b o hb
    exact ⟨sl, keep b _ (noRec b o hb hnf) hs⟩
  · exact fun b o hbe hbf hb => keep b o hbe ((hs₁.2.1 b hbf).trans hb)
  · have hd₃ := Obj.data_mapFields hd (·.setIfInBounds 1 (Value.ref h₁.objs.size))
    refine ⟨_, h₁.objs.size, oT, _, Heap.get?_update_self _ he₂ (Obj.isFreed_of_fields hd₃), Obj.cls_mapFields _ _, hd₃, kb₁.fresh, hTe, ?_, by rw [← hTo], ?_, hsz⟩
    · rw [Heap.get?_update_other _ _ (Ne.symm hTe)]
      exact Heap.get?_push_size h₁ (by rw [← hTo]; rfl)
    · simp
/-- a further frame's note -/
theorem note_next {cls : Value} {vs : Array Value} {Q : Unit → Shared → Prop}
    (hfr : A.frames = some (env :: outer)) (hl : s.heap.FunFrames B (env :: outer)) (hf : env.frame = some L) (hkb : B.StaysIn s.heap) (hen : B.get? e = none) (x : Exc s.heap B e cls vs .none)
    (h : ∀ h', B.StaysIn h' → h'.FunFrames B (env :: outer) → s.heap.UpToSlots h' → Exc h' B e cls vs (rawInt L) → Q () { s with heap := h' }) :
    wpAny M A (noteFrame (.ref e) env) Q E s := by
  obtain ⟨oe, T, oT, ts, he, hcls, hd, hnT, hTe, hT, hdT, h3, hsz0⟩ := x
  subst hcls
  have hsz : 1 < (vs.setIfInBounds 1 (.ref T)).size := by simpa using hsz0
  unfold noteFrame
  simp only [hf]
  refine wpAny_bind (wpAny_field he hd (x := .ref T) (by simp [hsz0]) ?_)
  rw [if_pos (show (Value.ref T != Value.none) = true from by simp)]
  refine wpAny_bind (wpAny_field hT hdT h3 ?_)
  rw [if_neg (show ¬ ((Value.none == rawInt L) = true) from by simp [rawInt])]
  refine wpAny_bind (wpAny_setField hT hdT (Array.getElem?_eq_some_iff.mp h3).1 ?_)
  have other : ∀ b, b ≠ T → (s.heap.update T (Obj.mapFields (·.setIfInBounds 3 Value.none))).get? b = s.heap.get? b := fun b hb => Heap.get?_update_other _ _ (Ne.symm hb)
  have noRecord : ∀ b o, s.heap.get? b = some o → (∀ vs, o.data ≠ .fields vs) → b ≠ T := fun b o hb hnf q => by
    rw [q, hT] at hb; cases hb; exact hnf ts hdT
  have hl1 : (s.heap.update T (Obj.mapFields (·.setIfInBounds 3 Value.none))).FunFrames B (env :: outer) := hl.of_keeps fun b o hb hnf => ⟨o, (other b (noRecord b o hb hnf)).trans hb, rfl⟩
  have he1 := (other e (Ne.symm hTe)).trans he
  have hk1 : B.StaysIn (s.heap.update T (Obj.mapFields (·.setIfInBounds 3 Value.none))) := fun b o hbo => (other b fun q => by rw [q, hnT] at hbo; cases hbo).trans (hkb b o hbo)
  have hu1 : s.heap.UpToSlots (s.heap.update T (Obj.mapFields (·.setIfInBounds 3 Value.none))) := fun b o hb hnf => ⟨o.slots, (other b (noRecord b o hb hnf)).trans hb⟩
  generalize s.heap.update T (Obj.mapFields (·.setIfInBounds 3 Value.none)) = H at hl1 he1 hk1 hu1
  have hene : e ∉ (env :: outer).filterMap (·.frame) := fun hm => by
    obtain ⟨_, o, ho, hnf⟩ := hl1.mem hm
    rw [he1] at ho; cases ho; exact hnf _ hd
  refine wpAny_bind (wpAny_frameOf_fun (s := { s with heap := H }) hfr hl1 hf fun h₁ hs₁ => ?_)
  refine wpAny_bind (wpAny_entryPlaceOf fun pl hpl => ?_)
  unfold EntryCells.newEntry newFields
  refine wpAny_bind (wpAny_newObj_type ?_ (hpl.sizeOk5 _ _ _ _ _))
  generalize hTo : ({ cls := .type "traceback", dict := none, data := .fields ([Value.ref T, .ref L, .none, rawInt L, .none] ++ (if pl.isEmpty then List.replicate 6 Value.none else pl)).toArray } : Obj) = oT'
  have he₁ : h₁.get? e = some oe := (hs₁.2.1 e hene).trans he1
  have kb₁ : B.StaysIn h₁ := fun b o hbo => (hs₁.2.1 b fun hm => by rw [(hl1.mem hm).1] at hbo; cases hbo).trans (hk1 b o hbo)
  have he₂ := Heap.get?_push_of_some (h := h₁) oT' he₁
  have hTe' : h₁.objs.size ≠ e := Nat.ne_of_gt (Heap.lt_size he₁)
  have keep : ∀ b o, b ≠ e → h₁.get? b = some o → ((h₁.push oT').update e (Obj.mapFields (·.setIfInBounds 1 (Value.ref h₁.objs.size)))).get? b = some o := fun b o hbe hb => by
    rw [Heap.get?_update_other _ _ (Ne.symm hbe)]
    exact Heap.get?_push_of_some _ hb
  have noRec : ∀ b o, H.get? b = some o → (∀ vs, o.data ≠ .fields vs) → b ≠ e := fun b o hb hnf q => by
    rw [q, he1] at hb; cases hb; exact hnf _ hd
  refine wpAny_setField he₂ hd hsz (h _ ?_ ?_ ?_ ?_)
  · exact fun b o hbo => keep b o (fun q => by rw [q, hen] at hbo; cases hbo) (kb₁ b o hbo)
  · refine hl1.of_keeps fun b o hb hnf => ?_
    obtain ⟨sl, hs⟩ := hs₁.2.2 b o hb
    exact ⟨_, keep b _ (noRec b o hb hnf) hs, rfl⟩
  · refine hu1.trans fun b o hb hnf => ?_
    obtain ⟨sl, hs⟩ := hs₁.2.2 b o hb
    exact ⟨sl, keep b _ (noRec b o hb hnf) hs⟩
  · have hd₃ := Obj.data_mapFields hd (·.setIfInBounds 1 (Value.ref h₁.objs.size))
    refine ⟨_, h₁.objs.size, oT', _, Heap.get?_update_self _ he₂ (Obj.isFreed_of_fields hd₃), Obj.cls_mapFields _ _, ?_, kb₁.fresh, hTe', ?_, by rw [← hTo], ?_, hsz0⟩
    · rw [hd₃]; simp
    · rw [Heap.get?_update_other _ _ (Ne.symm hTe')]
      exact Heap.get?_push_size h₁ (by rw [← hTo]; rfl)
    · simp
/-- a flight mark set -/
theorem flight_set {cls fl : Value} {vs : Array Value} {l : List Env} {fr : Option Addr} {Q : Unit → Shared → Prop} (hkb : B.StaysIn s.heap) (hl : s.heap.FunFrames B l) (x : Exc s.heap B e cls vs fl)
    (h : ∀ h', B.StaysIn h' → h'.FunFrames B l → s.heap.UpToSlots h' → (∀ b o, (∀ vs, o.data ≠ .fields vs) → s.heap.get? b = some o → h'.get? b = some o) → Exc h' B e cls vs (fr.elim .none fun f => rawInt f) → Q () { s with heap := h' }) :
    wpAny M A (setFlight (.ref e) fr) Q E s := by
  obtain ⟨oe, T, oT, ts, a1, a2, a3, a4, a5, a6, a7, a8, a9⟩ := x
  have hsz3 : 3 < ts.size := (Array.getElem?_eq_some_iff.mp a8).1
  unfold setFlight
  refine wpAny_bind (wpAny_field a1 a3 (x := .ref T) (by simp [a9]) ?_)
  rw [if_pos (show (Value.ref T != Value.none) = true from by simp)]
  have other : ∀ b, b ≠ T → (s.heap.update T (Obj.mapFields (·.setIfInBounds 3 (fr.elim Value.none fun f => rawInt f)))).get? b = s.heap.get? b := fun b hb => Heap.get?_update_other _ _ (Ne.symm hb)
  have noRec : ∀ b o, s.heap.get? b = some o → (∀ vs, o.data ≠ .fields vs) → b ≠ T := fun b o hb hnf q => by
    rw [q, a6] at hb; cases hb; exact hnf ts a7
  refine wpAny_setField a6 a7 hsz3 (h _ ?_ ?_ ?_ ?_ ?_)
  · exact fun b o hbo => (other b fun q => by rw [q, a4] at hbo; cases hbo).trans (hkb b o hbo)
  · exact hl.of_keeps fun b o hb hnf => ⟨o, (other b (noRec b o hb hnf)).trans hb, rfl⟩
  · exact fun b o hb hnf => ⟨o.slots, (other b (noRec b o hb hnf)).trans hb⟩
  · exact fun b o hnf hb => (other b (noRec b o hb hnf)).trans hb
  · exact ⟨oe, T, _, _, (other e (Ne.symm a5)).trans a1, a2, a3, a4, a5, Heap.get?_update_self _ a6 (Obj.isFreed_of_fields (Obj.data_mapFields a7 _)), Obj.data_mapFields a7 _, by simp [hsz3], a9⟩
theorem came_back {cls fl : Value} {vs : Array Value} {l : List Env} (hf : env.frame = some L) (hkb : B.StaysIn s.heap) (hl : s.heap.FunFrames B l) (x : Exc s.heap B e cls vs fl)
    (h : ∀ h', B.StaysIn h' → h'.FunFrames B l → s.heap.UpToSlots h' → Exc h' B e cls vs (rawInt L) → E (.ref e) { s with heap := h' }) : cameBackBy M A env E (.ref e) s := by
  have x' := x
  obtain ⟨oe, T, oT, ts, a1, a2, a3, a4, a5, a6, a7, a8, a9⟩ := x
  unfold cameBackBy
  refine wpAny_bind (wpAny_field a1 a3 (x := .ref T) (by simp [a9]) ?_)
  rw [if_neg (by simp), hf]
  exact flight_set hkb hl x' fun h' k1 k2 k3 _ k5 => h h' k1 k2 k3 k5
end
end Mine
namespace Mine
theorem entry_unchain : entryFor table "proto.unchain" = some Builtin.«proto.unchain» := entryFor_of_fast (by kernel_rfl)
section
variable {prog : Program} {w : World} {A : Around} {E : Value → Shared → Prop} {s : Shared} {env : Env}
theorem raiseNew_in {α : Type} {e e1 : Addr} {oe o1 : Obj} {vs v1 : Array Value} {Q : α → Shared → Prop} (hh : A.handled = some (.ref e1)) (hne : e1 ≠ e) (h1 : s.heap.get? e1 = some o1) (hd1 : o1.data = .fields v1) (h12 : v1[2]? = some .none)
    (he : s.heap.get? e = some oe) (hd : oe.data = .fields vs) (hsz : 2 < vs.size) (h : E (.ref e) { s with heap := s.heap.update e (Obj.mapFields (·.setIfInBounds 2 (.ref e1))) }) : wpAny (model prog w) A (raiseNew (.ref e) : Sem α) Q E s := by
  unfold raiseNew
  refine wpAny_bind (wpAny_handled ?_)
  rw [hh]
  show wpAny _ _ (if (Value.ref e1 != Value.ref e) = true then do
      let _ ← holding [Value.ref e] (runValue (.builtin "proto.unchain" ⟨[.ref e, .ref e1, .ref e1, .bool false], []⟩))
      let r ← updateField e 2 (.ref e1)
      throw (.ref e)
    else throw (.ref e)) _ _ _
  rw [if_pos (by simp [hne])]
  refine wpAny_bind (wpAny_holding (wpAny_runValue (codeAny_builtin entry_unchain ?_)))
  unfold Builtin.«proto.unchain»
  show wpAny _ _ (field (.ref e1) 2 >>= fun context => _) _ _ _
  refine wpAny_bind (wpAny_field h1 hd1 h12 ?_)
  rw [if_pos (by rfl)]
  refine wpAny_pure ?_
  exact wpAny_bind (wpAny_setField he hd hsz (wpAny_throw h))
theorem raiseStmt_in {cls : String} {e1 : Addr} (F : ExcRaiseFacts cls) {x : Sem Value} {Q : Flow → Shared → Prop} (hh : A.handled = some (.ref e1))
    (h : wpAny (model prog w) A x (fun v s₁ => ∃ e t, v = .ref e ∧ s₁.heap.get? e = some { cls := .type cls, data := .fields #[.ref t, .none, .none, .none, .bool false, .none] } ∧ e1 ≠ e ∧ (∃ o1 v1, s₁.heap.get? e1 = some o1 ∧ o1.data = .fields v1 ∧ v1[2]? = some .none) ∧
      E (.ref e) { s₁ with heap := s₁.heap.update e (Obj.mapFields (·.setIfInBounds 2 (.ref e1))) }) E s) :
    wpAny (model prog w) A (raiseStmt env (some x) none) Q E s := by
  unfold raiseStmt
  refine wpAny_bind (wpAny_mono h (fun v s₁ h₁ => ?_) fun _ _ x => x)
  obtain ⟨e, t, rfl, he, hne, ⟨o1, v1, k1, k2, k3⟩, hE⟩ := h₁
  obtain ⟨hp, g, d, tk, os⟩ := s₁
  have hsub := F.isExc
  have hmeta := F.plainMeta
  repeat (first | refine wpAny_loadPart he ?_ | wp_step)
  exact raiseNew_in hh hne k1 k2 k3 he rfl (by show 2 < 6; decide) hE
end
end Mine
namespace Mine
open PySem.Builtin.Int (intBits)
abbrev Cx.hand (C : Cx) (v : Value) : Cx := { C with A := C.A.mark (some v) }
theorem SR.hand {C : Cx} {ad : List Addr} {st : St} {h : Heap} (hs : SR C ad st h) (v : Value) : SR (C.hand v) ad st h := ⟨hs.ex, hs.cells⟩
theorem SR.unhand {C : Cx} {ad : List Addr} {st : St} {h : Heap} {v : Value} (hs : SR (C.hand v) ad st h) : SR C ad st h := ⟨hs.ex, hs.cells⟩
theorem Gd.hand {C : Cx} {sc : Scope} {lv : Nat} (G : Gd C sc lv) (v : Value) : Gd (C.hand v) sc lv := ⟨G.scope, G.kind, G.glob, G.blt, G.top, G.st, G.depth, G.units, fun h => by
  obtain ⟨A₀, outer, B, hof, hor⟩ := G.bel h
  rcases hor with hor | rfl
  · exact ⟨A₀, outer, B, hof, .inl hor⟩
  · exact ⟨C.A.mark (some v), outer, ⟨B.stack, B.stays, B.frames⟩, hof, .inr rfl⟩⟩
/-- an exception on its way through frame C -/
structure Fly (C : Cx) (ad : List Addr) (st : St) (w : Str) (e : Addr) (fl : Value) (h : Heap) : Prop where
  sr : SR C ad st h
  fly : ∃ (B : Heap) (t : Addr) (u : Tok) (fs : List Env) (B₀ : Heap) (c : Addr) (oc : Obj) (vc : Array Value), (B.StaysIn h ∧ B.get? e = none ∧ h.FunFrames B fs ∧ Exc h B e (.type "ValueError") #[.ref t, .none, .ref c, .none, .bool false, .none] fl) ∧ C.A.frames = some fs ∧ h.TupAt t [.str w u] ∧ B.get? t = none ∧
    (B₀.StaysIn B ∧ B₀.get? c = none ∧ B.get? c = some oc ∧ oc.data = .fields vc ∧ vc[2]? = some .none) ∧
    (∀ b o, C.h₀.get? b = some o → b ∉ C.of → B₀.get? b = some o) ∧ (∀ a ∈ ad ++ C.kp.map (·.1), ∀ o, h.get? a = some o → B₀.get? a = some o)
section
variable {C : Cx} {sc : Scope} {lv : Nat} {st : St} {ad : List Addr}
/-- frames' slots turned, all else of B as it was -/
theorem SR.land (G : Gd C sc lv) {B h h' : Heap} (hs : SR C ad st h) (h1 : ∀ b o, C.h₀.get? b = some o → b ∉ C.of → B.get? b = some o) (h2 : ∀ a ∈ ad ++ C.kp.map (·.1), ∀ o, h.get? a = some o → B.get? a = some o)
    (hk : B.StaysIn h') (hu : h.UpToSlots h') : SR C ad st h' := by
  obtain ⟨⟨gg, hgg, m, news, F, N, c, d, o, r⟩, hc⟩ := hs
  obtain ⟨g', hg', hk'⟩ := Sim.make (h₀ := C.h₀) (h := h') (of := C.of) (fun b o e n => hk b o (h1 b o e n)) (fun b o e => by
    by_cases hb : b ∈ C.of
    · obtain ⟨_, o', e', hn, _⟩ := G.st.2 b hb
      rw [e] at e'
      cases e'
      obtain ⟨s1, e1⟩ := hgg.slot b o e
      obtain ⟨s2, e2⟩ := hu b _ (F.keep b _ e1) hn
      exact ⟨s2, e2⟩
    · exact ⟨o.slots, hk b o (h1 b o e hb)⟩)
  refine ⟨⟨g', hg', m, news, ⟨hu.ns F.ns, hk', by rw [hg'.size, ← hgg.size]; exact F.above⟩, fun p hp => ⟨hk _ _ (h2 p.1 ?_ _ (N p hp).1), (N p hp).2.1, hg'.non _ (hgg.fresh (N p hp).2.2)⟩, c, d, o, r⟩, hc⟩
  rw [← c, ← List.map_append]
  exact List.mem_map_of_mem hp
/-- the ground below a raise in this frame -/
theorem Gd.ground (G : Gd C sc lv) (hlv : 0 < lv) (ow : Own C) {h : Heap} (hs : SR C ad st h) : ∃ B fs, C.A.frames = some (C.env :: fs) ∧ B.StaysIn h ∧ h.FunFrames B (C.env :: fs) ∧
    (∀ b o, C.h₀.get? b = some o → b ∉ C.of → B.get? b = some o) ∧ (∀ a ∈ ad ++ C.kp.map (·.1), ∀ o, h.get? a = some o → B.get? a = some o) := by
  obtain ⟨⟨gg, hgg, m, news, F, N, c, d, o, r⟩, hc⟩ := hs
  obtain ⟨A₀, outer, B, hof, hor⟩ := G.bel hlv
  obtain ⟨⟨fs, hfs⟩, hfr⟩ := ow
  have B' : Below A₀ C.base outer gg := ⟨B.stack, G.stays hgg, B.frames.of_keeps fun b o e _ => by obtain ⟨sl, h⟩ := hgg.slot b o e; exact ⟨_, h, rfl⟩⟩
  have hall : ∃ fs', C.A.frames = some (C.env :: fs') ∧ h.FunFrames C.base (C.env :: fs') ∧ (∀ b ∈ (C.env :: fs').filterMap (·.frame), b = C.env.locals ∨ b ∈ C.of) ∧ (∀ b ∈ (C.env :: fs').filterMap (·.frame), b ≠ C.env.locals → gg.get? b ≠ none) := by
    rcases hor with ⟨hA, hf⟩ | rfl
    · have P := pushX B' F hf (by rw [G.scope]; exact G.kind)
      refine ⟨outer, hA, P.frames, fun b hb => ?_, fun b hb hne => ?_⟩
      · rw [List.filterMap_cons, hf] at hb
        rcases List.mem_cons.mp hb with rfl | hb
        · exact .inl rfl
        · exact .inr (hof b hb)
      · rw [List.filterMap_cons, hf] at hb
        rcases List.mem_cons.mp hb with rfl | hb
        · exact absurd rfl hne
        · obtain ⟨o, ho, _⟩ := (B'.frames.mem hb).2
          rw [ho]; exact fun q => nomatch q
    · have e := B'.stack
      rw [hfs] at e
      cases e
      have P := B'.frames.of_keeps (h' := h) fun b o e _ => ⟨o, F.keep b o e, rfl⟩
      refine ⟨fs, hfs, P, fun b hb => .inr (hof b hb), fun b hb hne => ?_⟩
      obtain ⟨o, ho, _⟩ := (B'.frames.mem hb).2
      rw [ho]; exact fun q => nomatch q
  obtain ⟨fs', hA, P, hin, hgin⟩ := hall
  refine ⟨hideAll h ((C.env :: fs').filterMap (·.frame)), fs', hA, fun b o e => of_hideAll _ e, funFrames_hide P fun env he a ha => List.mem_filterMap.mpr ⟨env, he, ha⟩, fun b o e n => ?_, fun a ha o e => hideAll_get _ e fun q => ?_⟩
  · have e1 := hgg.same b o e n
    refine hideAll_get _ (F.keep b o e1) fun q => ?_
    rcases hin b q with rfl | q
    · exact absurd (Nat.lt_of_lt_of_le (Heap.lt_size e1) F.above) (Nat.lt_irrefl _)
    · exact n q
  · rw [← c, ← List.map_append] at ha
    obtain ⟨p, hp, rfl⟩ := List.mem_map.mp ha
    by_cases hL : p.1 = C.env.locals
    · exact (N p hp).2.1 hL
    · exact hgin _ q hL (N p hp).2.2
end
theorem toBytes_raise {prog : Program} {w : World} {A : Around} {E : Value → Shared → Prop} {s : Shared} {x : Int} {k : Nat} {t u : Tok} {Q : Value → Shared → Prop} (hh : A.handled = none) (hk : k ≤ 16) (hx : x < 0 ∨ 256 ^ k ≤ x)
    (h : ∀ h' tk e, Heap.NewExc s.heap h' e "OverflowError" → E (.ref e) { s with heap := h', toks := tk }) : wpAny (model prog w) A (call (.builtin "int.to_bytes") [.int x t, .int (k : Int) u]) Q E s := by
  refine wpAny_call_entry KTBy.slot (typeIs_int s x t) KTBy.entry ?_ (args2 _ _)
  show wpAny _ _ (Builtin.Int.intOfSelf (.int x t) >>= fun y => _) _ _ s
  refine wpAny_bind (wpAny_of_eq (a := x) rfl ?_)
  show wpAny _ _ (Builtin.Int.intBindNamed "to_bytes" ["length", "byteorder", "signed"] 0 2 [.int (k : Int) u] [] >>= fun l => _) _ _ s
  refine wpAny_bind (wpAny_of_eq (a := [some (.int (k : Int) u), none, none]) (by kernel_rfl) ?_)
  show wpAny _ _ (Builtin.Int.intIndex "int.to_bytes" (.int (k : Int) u) >>= fun n => _) _ _ s
  refine wpAny_bind (wpAny_of_eq (a := (k : Int)) rfl ?_)
  refine KTBy.if_not (by show (decide ((k : Int) < -(2 ^ 63 : Int)) || decide ((k : Int) ≥ 2 ^ 63)) = false; rw [decide_eq_false (show ¬ ((k : Int) < -(2 ^ 63 : Int)) by omega), decide_eq_false (show ¬ ((k : Int) ≥ 2 ^ 63) by omega)]; rfl) ?_
  refine wpAny_bind (wpAny_of_eq (a := PySem.Str.ofString "big") (by kernel_rfl) ?_)
  refine wpAny_bind (wpAny_of_eq (a := false) rfl ?_)
  refine wpAny_bind (wpAny_of_eq (a := false) (by kernel_rfl) ?_)
  refine wpAny_ite_false (decide_eq_false (show ¬ ((k : Int) < 0) by omega)) ?_
  refine wpAny_ite_false (decide_eq_false (show ¬ ((k : Int) > 2 ^ 63 - 1 - 33) by omega)) ?_
  refine wpAny_ite_false (decide_eq_false (show ¬ ((k : Int) > (sizeLine : Int)) by rw [sizeLine_eq]; omega)) ?_
  by_cases hn : x < 0
  · show wpAny _ _ (if (decide (x < 0) && !false) = true then _ else _) _ _ _
    rw [if_pos (by rw [decide_eq_true hn]; rfl)]
    exact wpAny_bind (wpAny_rule (wpAny_bind (wpAny_raiseErrorWords plainExc_OverflowError hh h)))
  · refine KTBy.if_not (by show (decide (x < 0) && !false) = false; rw [decide_eq_false hn]; rfl) ?_
    have hb : (256 : Int) ^ k ≤ x := by omega
    have hpos : (0 : Int) < 256 ^ k := Int.pow_pos (by decide)
    have hbits : 8 * k < intBits x := by
      rcases Nat.lt_or_ge (8 * k) (intBits x) with hlt | hge
      · exact hlt
      · exfalso
        have h1 : (x.natAbs) < 2 ^ (8 * k) := intBits_le_iff.mp hge
        have h3 : (256 : Nat) ^ k = 2 ^ (8 * k) := by rw [Nat.pow_mul]
        have h4 : ((256 ^ k : Nat) : Int) = (256 : Int) ^ k := by simp
        omega
    show wpAny _ _ (if (x != 0 && decide ((intBits x : Int) > 8 * (k : Int))) = true then _ else _) _ _ _
    rw [if_pos (by rw [decide_eq_true (show (intBits x : Int) > 8 * (k : Int) by omega), Bool.and_true]; exact bne_iff_ne.mpr (by omega))]
    exact wpAny_bind (wpAny_rule (wpAny_bind (wpAny_raiseErrorWords plainExc_OverflowError hh h)))
end Mine
namespace Mine
open PySem.Builtin.Int (intBits)
/-- a body that raises, noted by its own frame -/
structure SH (C : Cx) (ss : List Stmt) (st : St) (X : Str → St → Prop) : Prop where
  go : ∀ s ad, SR C ad st s.heap → ∀ (K : Flow → Shared → Prop) (E : Value → Shared → Prop), (∀ w st' s' ad' e, X w st' → Same s s' → ad <+: ad' → Fly C ad' st' w e (rawInt C.env.locals) s'.heap → E (.ref e) s') → wpAny C.M C.A (execs ss C.env) K E s
section
variable {C : Cx} {sc : Scope} {lv : Nat} {st : St} {ad : List Addr}
theorem ld_blt {x : Str} {v : Value} {pos : Pos} {s : Shared} {K : Value → Shared → Prop} {E : Value → Shared → Prop} (G : Gd C sc lv) (hb : Blt C x v) (hs : SR C ad st s.heap) (hl : sc.names.lookup x = some .globalImplicit) (hK : K v s) (hd : (x == ("__debug__" : Str)) = false := by decide) : wpAny C.M C.A (eval (.Name x pos) C.env) K E s := by
  obtain ⟨hm, hv, hn⟩ := hb
  obtain ⟨gg, hgg, m, news, F, N, c, d, o, r⟩ := hs.ex
  exact Name_function_global (by rw [G.scope]; exact G.kind) (by rw [Env.kindOf, G.scope]; exact hl) (loadGlobal_builtin (by rw [G.glob]; exact G.top.g.keeps (G.keep hgg F)) hm (by rw [G.blt]; exact G.top.b.keeps (G.keep hgg F)) ((G.top.builtins x hn).trans hv) hK) hd
theorem Exc.typeIs {s : Shared} {B : Heap} {e : Addr} {T : String} {vs : Array Value} {fl : Value} (x : Exc s.heap B e (.type T) vs fl) : s.TypeIs (.ref e) T := by
  obtain ⟨oe, T, oT, ts, a1, a2, _⟩ := x
  exact ⟨oe, a1, a2⟩
theorem fresh_in {B h : Heap} {e : Addr} (hB : B.StaysIn h) (n : h.get? e = none) : B.get? e = none := by
  cases q : B.get? e with
  | none => rfl
  | some o => have := hB _ _ q; rw [n] at this; cases this
theorem SR.here {h : Heap} (hs : SR C ad st h) : ∀ a ∈ ad ++ C.kp.map (·.1), ∃ o, h.get? a = some o := fun a ha => by
  obtain ⟨gg, hgg, m, news, F, N, c, d, o, r⟩ := hs.ex
  rw [← c, ← List.map_append] at ha
  obtain ⟨p, hp, rfl⟩ := List.mem_map.mp ha
  exact ⟨_, (N p hp).1⟩
theorem packed_refuse {p1 p2 p3 p4 p5 p6 p7 p8 p9 p10 p11 p12 : Pos} {n : Int} {k : Nat} {w : Str} {X : Str → St → Prop} (G : Gd C sc lv) (hlv : 0 < lv) (ow : Own C) (hh : C.A.handled = none)
    (hO : Blt C "OverflowError" (.type "OverflowError")) (hV : Blt C "ValueError" (.type "ValueError")) (hk : k ≤ 16) (hx : n < 0 ∨ 256 ^ k ≤ n) (ha : st.m.lookup (Str.ofString "address") = some (.int n)) (hX : X w st)
    (hl : sc.names.lookup (Str.ofString "address") = some .local) (g1 : sc.names.lookup (Str.ofString "OverflowError") = some .globalImplicit) (g2 : sc.names.lookup (Str.ofString "ValueError") = some .globalImplicit) (hline : (p2.endLine == p4.line) = true) :
    SH C [.Try [.Return (some (.Call (.Attribute (.Name "address" p1) "to_bytes" p2) [.Constant (.int (k : Int)) 0 p3] [] p4)) p5]
      [.ExceptHandler (some (.Name "OverflowError" p6)) none [.Raise (some (.Call (.Name "ValueError" p7) [.Constant (.str w) 0 p8] [] p9)) none p10] p11] [] [] p12] st X := .mk fun s ad hs K E hE => by
  refine wpAny_execs_cons (wpAny_Try_except (wpAny_execs_cons (wpAny_Return_some ?_)))
  refine wpAny_Call_method (T := "int") (id := "int.to_bytes") rfl rfl hline F.plainAttrs_int KTBy.slot F.type_int_to_bytes ?_
  refine wpNo (((ev_local (Q := fun v st1 => v = .int n ∧ st1 = st) G ⟨rfl, rfl⟩ ha hl (by decide)).go s ad hs).run _ fun v st1 s1 ad1 va q1 e1 pp1 hs1 r1 => ?_)
  obtain ⟨rfl, rfl⟩ := q1
  obtain ⟨t, rfl⟩ := r1
  refine ⟨typeIs_int _ _ _, fun a e => (nomatch e), callWith_builtin rfl ?_⟩
  have av := (av_cons (C := C) (pos := p4) (e := .Constant (.int (k : Int)) 0 p3) (rest := []) (Q := fun vs st' => vs = [.int (k : Int)] ∧ st' = st1) (ev_int (av_nil ⟨rfl, rfl⟩)) rfl).go s1 ad1 hs1
  refine evalArgs_plain (wpNo (av.run _ fun vs st2 s2 ad2 ws q2 e2 pp2 hs2 r2 => ?_))
  obtain ⟨rfl, rfl⟩ := q2
  cases r2 with | cons ra r2 => cases r2 with | nil =>
  obtain ⟨u, rfl⟩ := ra
  refine toBytes_raise hh hk hx fun H1 tk1 x1 N1 => ?_
  obtain ⟨B, fs, hA, hB, hF, hB1, hB2⟩ := G.ground hlv ow hs2
  have hfr := ow.2
  obtain ⟨ob1, tp1, g1e, g1c, g1d⟩ := N1.there
  have u1 : s2.heap.UpToSlots H1 := Heap.UpToSlots.of_keeps N1.keeps
  have k1 : B.StaysIn H1 := fun b o e => N1.keeps b o (hB b o e)
  have f1 : H1.FunFrames B (C.env :: fs) := hF.of_keeps fun b o e _ => ⟨o, N1.keeps b o e, rfl⟩
  have n1 : B.get? x1 = none := by
    cases q : B.get? x1 with
    | none => rfl
    | some o => have := hB _ _ q; rw [show s2.heap.get? x1 = none from N1.new] at this; cases this
  refine note_first hA f1 hfr g1e k1 n1 g1d rfl fun H2 k2 f2 u2 _ x2 => ?_
  refine flight_set k2 f2 x2 fun H3 k3 f3 u3 _ x3 => ?_
  have s3 : SR C ad2 st2 H3 := hs2.land G hB1 hB2 k3 (u1.trans (u2.trans u3))
  refine wpAny_handleBy_builtin (X := "OverflowError") (T := "OverflowError") (b := true) F.isExc_OverflowError F.notTuple_OverflowError (by rw [isSubtype_type]; kernel_rfl) ?_
  rw [g1c] at x3
  refine ld_blt (C := C.hand (.ref x1)) (s := { s2 with heap := H3, toks := tk1 }) (G.hand _) hO (s3.hand _) g1 ⟨rfl, x3.typeIs, ?_⟩
  rw [if_pos rfl]
  refine flight_set k3 f3 x3 fun H4 k4 f4 u4 _ x4 => ?_
  have s4 : SR C ad2 st2 H4 := hs2.land G hB1 hB2 k4 (u1.trans (u2.trans (u3.trans u4)))
  refine wpAny_execs_cons ?_
  rw [arm_exec_Raise]
  refine wpAny_bind (wpAny_standAt ?_)
  show wpAny _ _ (raiseStmt C.env (some (do let v ← eval (.Call (.Name "ValueError" p7) [.Constant (.str w) 0 p8] [] p9) C.env; standAt p10; pure v)) none) _ _ _
  refine raiseStmt_in F.excRaise_ValueError (show (C.A.mark (some (.ref x1))).handled = some (.ref x1) from rfl) (wpAny_bind (wpAny_Call_ofName ?_))
  refine ld_blt (C := C.hand (.ref x1)) (s := { s2 with heap := H4, toks := tk1 }) (G.hand _) hV (s4.hand _) g2 ?_
  refine callWith_excType rfl ?_
  refine evalArgs_plain (spliced_cons (Constant_str (k := 0) (pos := p8) (spliced_nil ?_)))
  refine wpAny_call_exc F.excCall_ValueError fun H5 x5 M5 => wpAny_bind (wpAny_standAt (wpAny_pure ?_))
  obtain ⟨t5, g5e, g5n, g5t⟩ := M5.there
  obtain ⟨o1, T1, oT1, ts1, a1, a2, a3, a4, a5, a6, a7, a8, a9⟩ := x4
  have hx1f : x1 ∉ (C.env :: fs).filterMap (·.frame) := fun hm => by
    obtain ⟨_, o, ho, hnf⟩ := f4.mem hm
    rw [a1] at ho; cases ho; exact hnf _ a3
  obtain ⟨B', hBB', kB4, fB4, hB'c⟩ : ∃ B' : Heap, B.StaysIn B' ∧ B'.StaysIn H4 ∧ H4.FunFrames B' (C.env :: fs) ∧ B'.get? x1 = some o1 := by
    refine ⟨hideAll H4 ((C.env :: fs).filterMap (·.frame)), fun b o e => hideAll_get _ (k4 b o e) fun q => ?_, fun b o e => of_hideAll _ e, funFrames_hide f4 fun env he a ha => List.mem_filterMap.mpr ⟨env, he, ha⟩, hideAll_get _ a1 hx1f⟩
    rw [(f4.mem q).1] at e; cases e
  have n5 : B'.get? x5 = none := fresh_in kB4 M5.new
  have nt5 : B'.get? t5 = none := fresh_in kB4 g5n
  have ht5 : t5 ≠ x5 := fun q => by rw [q, g5e] at g5t; exact nomatch congrArg Obj.data (Option.some.inj g5t)
  have hne : x1 ≠ x5 := fun q => by have := M5.new; rw [← q] at this; rw [show H4.get? x1 = some o1 from a1] at this; cases this
  refine ⟨x5, t5, rfl, g5e, hne, ⟨o1, _, M5.keeps _ _ a1, a3, by simp⟩, ?_⟩
  have o6 : ∀ b, b ≠ x5 → (H5.update x5 (Obj.mapFields (·.setIfInBounds 2 (.ref x1)))).get? b = H5.get? b := fun b hb => Heap.get?_update_other _ _ (Ne.symm hb)
  have g6e := Heap.get?_update_self (Obj.mapFields (·.setIfInBounds 2 (Value.ref x1))) g5e (Obj.isFreed_of_fields (Obj.data_mapFields rfl _))
  have k46 : ∀ b o, H4.get? b = some o → (H5.update x5 (Obj.mapFields (·.setIfInBounds 2 (.ref x1)))).get? b = some o := fun b o e => (o6 b fun q => by
    rw [q] at e
    rw [show H4.get? x5 = none from M5.new] at e
    cases e).trans (M5.keeps b o e)
  have g6t : (H5.update x5 (Obj.mapFields (·.setIfInBounds 2 (.ref x1)))).get? t5 = _ := (o6 t5 ht5).trans g5t
  generalize (H5.update x5 (Obj.mapFields (·.setIfInBounds 2 (.ref x1)))) = H6 at *
  have k6 : B'.StaysIn H6 := fun b o e => k46 b o (kB4 b o e)
  have f6 : H6.FunFrames B' (C.env :: fs) := fB4.of_keeps fun b o e _ => ⟨o, k46 b o e, rfl⟩
  unfold notedBy
  refine note_first (A := C.A.mark (some (.ref x1))) (vs := #[.ref t5, .none, .ref x1, .none, .bool false, .none]) hA f6 hfr g6e k6 n5 rfl rfl fun H7 k7 f7 u7 _ x7 => ?_
  refine came_back hfr k7 f7 x7 fun H8 k8 f8 u8 x8 => ?_
  have u48 : H4.UpToSlots H8 := (Heap.UpToSlots.of_keeps k46).trans (u7.trans u8)
  have kB8 : B.StaysIn H8 := fun b o e => k8 b o (hBB' b o e)
  have s8 : SR C ad2 st2 H8 := hs2.land G hB1 hB2 kB8 (u1.trans (u2.trans (u3.trans (u4.trans u48))))
  refine hE w st2 _ ad2 x5 hX (((e1.trans e2).trans (Same.mk' s2 H8 _))) (pp1.trans pp2) ⟨s8, B', t5, _, C.env :: fs, B, x1, o1, _, ⟨k8, n5, f8, x8⟩, hA, (Heap.TupAt.of_slots (Heap.TupAt.of_slots ⟨_, _, g6t, rfl, rfl⟩ u7) u8), nt5, ⟨hBB', n1, hB'c, a3, by simp⟩, hB1, fun a ha o e => ?_⟩
  obtain ⟨o', e'⟩ := hs2.here a ha
  have := hB2 a ha o' e'
  rw [kB8 _ _ this] at e
  cases e
  exact this
end
end Mine
namespace Mine
structure CX (C : Cx) (f : Value) (vs : List V) (st : St) (X : Str → St → Prop) : Prop where
  go : ∀ s ad ws, SR C ad st s.heap → VRs ad vs ws → ∀ (K : Value → Shared → Prop) (E : Value → Shared → Prop), (∀ w st' s' ad' e, X w st' → Same s s' → ad <+: ad' → Fly C ad' st' w e .none s'.heap → E (.ref e) s') → wpAny C.M C.A (call f ws) K E s
structure EX (C : Cx) (e : Expr) (st : St) (X : Str → St → Prop) : Prop where
  go : ∀ s ad, SR C ad st s.heap → ∀ (K : Value → Shared → Prop) (E : Value → Shared → Prop), (∀ w st' s' ad' e, X w st' → Same s s' → ad <+: ad' → Fly C ad' st' w e .none s'.heap → E (.ref e) s') → wpAny C.M C.A (eval e C.env) K E s
structure XX (C : Cx) (x : Stmt) (st : St) (X : Str → St → Prop) : Prop where
  go : ∀ s ad, SR C ad st s.heap → ∀ (K : Flow → Shared → Prop) (E : Value → Shared → Prop), (∀ w st' s' ad' e, X w st' → Same s s' → ad <+: ad' → Fly C ad' st' w e .none s'.heap → E (.ref e) s') → wpAny C.M C.A (exec x C.env) K E s
structure SX (C : Cx) (ss : List Stmt) (st : St) (X : Str → St → Prop) : Prop where
  go : ∀ s ad, SR C ad st s.heap → ∀ (K : Flow → Shared → Prop) (E : Value → Shared → Prop), (∀ w st' s' ad' e, X w st' → Same s s' → ad <+: ad' → Fly C ad' st' w e .none s'.heap → E (.ref e) s') → wpAny C.M C.A (execs ss C.env) K E s
section
variable {C : Cx} {sc : Scope} {lv : Nat} {st : St} {pos : Pos} {ad : List Addr} {X : Str → St → Prop}
theorem call_fx {x : Str} {params : Arguments} {body : List Stmt} {fsc : Scope} {a : Addr} {o : Obj} {pm cd doc : Value} {vs : List V} (names : List Str) (G : Gd C sc (lv + 1))
    (ho : C.base.get? a = some o) (hd : o.data = .func (docDef x params body fsc pm cd doc)) (hcd : C.base.CodeRec cd x)
    (hb : ∀ ws : List Value, ws.length = names.length → bindArgs (docDef x params body fsc pm cd doc) ⟨ws, []⟩ = pure (names.zip ws)) (hvs : vs.length = names.length)
    (hl : ∀ n ∈ names, fsc.names.lookup n = some .local) (hcell : ∀ x ∈ fsc.names, x.2 ≠ .cell) (hco : fsc.isCoroutine = false) (hgen : fsc.isGenerator = false) (hk : fsc.kind = .function)
    (h : ∀ C', Callee C C' fsc lv → SH C' body ⟨(names.zip vs).reverse, st.os⟩ (fun w st2 => X w ⟨st.m, st2.os⟩)) : CX C (.ref a) vs st X := .mk fun s ad ws hs hr K E hE => by
  obtain ⟨⟨gg, hgg, m, news, F, N, c, d, o', r⟩, hcl⟩ := hs
  obtain ⟨fs, BG, hfs⟩ := G.inner (Nat.succ_pos _) hgg F N
  obtain ⟨stay, nsG⟩ := ground F N
  refine wpAny_call ?_
  have hlen : ws.length = names.length := by rw [hr.length, hvs]
  have hkb := G.keep hgg F
  refine codeAny_call_def (fd := docDef x params body fsc pm cd doc) (body := body) (binds := names.zip ws) (by have := G.depth; show C.A.depth < 1000; omega) (hkb _ _ ho) hd (G.top.nolimit.keeps hkb) (hcd.keeps hkb) rfl
    (BindsTo.of_eq (hb ws hlen)) hcell (fun y hy => hl _ (List.of_mem_zip hy).1) (fun h₁ hns hk₁ => ?_) hco hgen hk
  let env' : Env := callEnv (docDef x params body fsc pm cd doc) s.heap.objs.size a
  let C' : Cx := { C with A := C.A.deeper env', env := env', h₀ := hideAll s.heap ((news ++ C.kp).map (·.1)), cl := [], of := C.env.locals :: C.of }
  have hbL : C.base.get? C.env.locals = none := by
    cases q : C.base.get? C.env.locals with
    | none => rfl
    | some ob => exact absurd (Nat.lt_of_lt_of_le (Heap.lt_size (G.stays hgg _ _ q)) F.above) (Nat.lt_irrefl _)
  have hc : Callee C C' fsc lv := ⟨⟨rfl, hk, rfl, rfl, G.top, ⟨fun b o e => stay b o (G.stays hgg b o e), fun b hb => by
      rcases List.mem_cons.mp hb with rfl | hb
      · exact ⟨hbL, ns_data nsG⟩
      · exact ⟨(G.st.2 b hb).1, G.of_data hgg stay hb⟩⟩, by have := G.depth; show C.A.depth + 1 + lv < 500; omega, by have := G.units; show C.A.units + 3 + 3 * lv < 5000; omega, fun _ => ⟨C.A, fs, BG, hfs, .inl ⟨Around.frames_deeper BG.stack, rfl⟩⟩⟩, rfl, rfl, rfl, rfl, rfl, ⟨fs, Around.frames_deeper BG.stack⟩, rfl⟩
  refine (h C' hc).go { s with heap := h₁, toks := s.toks + (names.zip ws).length } ad ⟨⟨_, Sim.refl _ _, _, news, ⟨hns, fun b o e => hk₁ b o (of_hideAll _ e), Nat.le_of_eq (hideAll_size _ _)⟩,
    (fun p hp => ⟨hk₁ _ _ (N p hp).1, Nat.ne_of_lt (Heap.lt_size (N p hp).1), hideAll_none _ (List.mem_map_of_mem hp)⟩), c, d, o', VRs.zip hr⟩, fun _ _ q => nomatch q⟩ _ _ fun w st2 s2 ad2 e hX e2 p2 fl => ?_
  obtain ⟨sr2, B, t, u, fs2, B₀, c0, oc, vc, ⟨kB, nB, fB, tB⟩, hA2, htup, nt, ⟨hBB, hc0, hcB, hcd0, hc2⟩, hB1, hB2⟩ := fl
  have hfs2 : C'.A.frames = some (env' :: fs) := Around.frames_deeper BG.stack
  rw [hfs2] at hA2
  cases hA2
  unfold leaving
  refine wpAny_bind (wpAny_noteFrame_againW (L := s.heap.objs.size) rfl (tB.traced rfl) ?_)
  refine flight_set kB fB tB fun h' k1 k2 u2 k4 k3 => ?_
  have k01 : B₀.StaysIn h' := fun b o e => k1 b o (hBB b o e)
  have sr' := sr2.land hc.gd hB1 hB2 k01 u2
  have here := sr2.here
  obtain ⟨⟨gg2, hgg2, m2, news2, F2, N2, c2, d2, o2, r2'⟩, _⟩ := sr'
  obtain ⟨g', hg', F', N'⟩ := back_frame hgg F stay nsG hgg2 F2.keep (news₂ := news2 ++ C.kp) fun p hp => ⟨(N2 p hp).1, (N2 p hp).2.2⟩
  refine hE w _ _ ad2 e hX ((Same.mk' s h₁ _).trans (e2.trans (Same.hp s2 h'))) p2 ⟨⟨⟨g', hg', m, news2, F', N', c2, d2, o2, r.mono p2⟩, fun y k q => ?_⟩, B, t, u, fs, B₀, c0, oc, vc, ⟨k1, nB, k2.2.2, k3⟩, BG.stack, htup.of_slots u2, nt, ⟨hBB, hc0, hcB, hcd0, hc2⟩, fun b ob eb n => ?_, fun a ha ob e => ?_⟩
  · obtain ⟨cc, q1, q3⟩ := hcl y k q
    exact ⟨cc, q1, get_prefix p2 q3⟩
  · have e1 := hgg.same b ob eb n
    refine hB1 b ob (stay b ob e1) fun q => ?_
    rcases List.mem_cons.mp q with q | q
    · exact absurd (Nat.lt_of_lt_of_le (Heap.lt_size e1) F.above) (by rw [q]; exact Nat.lt_irrefl _)
    · exact n q
  · obtain ⟨o'', e''⟩ := here a ha
    have q := hB2 a ha o'' e''
    rw [k01 _ _ q] at e
    cases e
    exact q
theorem ex_call {x : Str} {px : Pos} {e : Expr} {rest : List Expr} {params : Arguments} {body : List Stmt} {fsc : Scope} {fpos : Pos} (names : List Str) (G : Gd C sc (lv + 1))
    (hd : (⟨x, params, body, fsc, fpos⟩ : DefRec) ∈ recsOf C.p)
    (h : AV C pos (e :: rest) st (fun vs st1 => vs.length = names.length ∧ ∀ C', Callee C C' fsc lv → SH C' body ⟨(names.zip vs).reverse, st1.os⟩ (fun w st2 => X w ⟨st1.m, st2.os⟩)))
    (hb : ∀ pm cd doc (ws : List Value), ws.length = names.length → bindArgs (docDef x params body fsc pm cd doc) ⟨ws, []⟩ = pure (names.zip ws))
    (hl : ∀ n ∈ names, fsc.names.lookup n = some .local) (hcell : ∀ x ∈ fsc.names, x.2 ≠ .cell) (hco : fsc.isCoroutine = false := by rfl) (hgen : fsc.isGenerator = false := by rfl) (hk : fsc.kind = .function := by rfl)
    (hg : sc.names.lookup x = some .globalImplicit := by rfl) (hdb : (x == ("__debug__" : Str)) = false := by rfl)
    (hst : starEach (e :: rest) C.env = (false, eval e C.env) :: starEach rest C.env := by rfl) : EX C (.Call (.Name x px) (e :: rest) [] pos) st X := .mk fun s ad hs K E hE => by
  obtain ⟨a, o, pm, cd, doc, hmg, ho, hdt, hcd⟩ := G.top.fn _ hd
  refine wpAny_Call_Name_kw (wpNo (((ev_global (Q := fun f st1 => f = .fix (.ref a) ∧ st1 = st) G hmg ⟨rfl, rfl⟩ hg hdb).go s ad hs).run _ fun f st1 s1 ad1 w q1 e1 p1 hs1 r1 => ?_))
  obtain ⟨rfl, rfl⟩ := q1
  cases r1
  have h1 := h.go s1 ad1 hs1
  revert h1
  refine fun h1 => callWith_function (o := o) (fd := docDef x params body fsc pm cd doc) ?_
  revert h1
  show At C ad1 s1 VRs (spliced (backTo pos (starEach (e :: rest) C.env))) _ → wpAny _ _ (evalArgs _ _ (backTo pos (starEach (e :: rest) C.env)) _) _ _ _
  rw [hst]
  intro h1
  refine evalArgs_plain (wpNo (h1.run _ fun vs st2 s2 ad2 ws q2 e2 p2 hs2 r2 => ⟨⟨?_, hdt⟩, ?_⟩))
  · obtain ⟨⟨gg, hgg, m, news, F, _⟩, _⟩ := hs2
    exact G.keep hgg F _ _ ho
  · exact (call_fx names G ho hdt hcd (hb pm cd doc) q2.1 hl hcell hco hgen hk q2.2).go s2 ad2 ws hs2 r2 K E fun w st3 s3 ad3 x q3 e3 p3 fl => hE w st3 s3 ad3 x q3 (e1.trans (e2.trans e3)) (p1.trans (p2.trans p3)) fl
theorem xx_expr {e : Expr} (G : Gd C sc lv) (h : EX C e st X) (hsw : swapsWith e none pos.line C.env = pure false := by rfl) : XX C (.Expr e pos) st X := .mk fun s ad hs K E hE =>
  wpAny_Expr_any (h.go s ad hs _ _ hE) (by unfold interactive; rw [G.scope, G.kind]; rfl) hsw
theorem sx_cons {x : Stmt} {rest : List Stmt} (h : XX C x st X) : SX C (x :: rest) st X := .mk fun s ad hs K E hE => wpAny_execs_cons (h.go s ad hs _ _ hE)
/-- an object of the heap comes into the store -/
theorem SR.adoptO {h : Heap} {a : Addr} {ob : Obj} {o : O} (hs : SR C ad st h) (hg : h.get? a = some ob) (hL : a ≠ C.env.locals) (hf : C.h₀.get? a = none) (hna : a ∉ ad ++ C.kp.map (·.1)) (ho : OR (ad ++ [a]) o ob) : SR C (ad ++ [a]) (st.add o) h := by
  obtain ⟨⟨gg, hgg, m, news, F, N, c, d, o', r⟩, hc⟩ := hs
  have px : ad <+: ad ++ [a] := List.prefix_append _ _
  refine ⟨⟨gg, hgg, m, news ++ [(a, ob)], F, fun p hp => ?_, by rw [List.map_append, c]; rfl, ?_, (o'.mono px).append (.cons ho .nil), r.mono px⟩, fun x k q => ?_⟩
  · simp only [List.append_assoc, List.mem_append, List.mem_cons, List.not_mem_nil, or_false] at hp
    rcases hp with hp | rfl | hp
    · exact N p (List.mem_append_left _ hp)
    · exact ⟨hg, hL, hgg.non _ hf⟩
    · exact N p (List.mem_append_right _ hp)
  · have d' := List.nodup_append.mp d
    rw [List.append_assoc, List.singleton_append]
    refine List.nodup_append.mpr ⟨d'.1, List.nodup_cons.mpr ⟨fun q => hna (List.mem_append_right _ q), d'.2.1⟩, fun x hx y hy => ?_⟩
    rcases List.mem_cons.mp hy with rfl | hy
    · exact fun q => hna (List.mem_append_left _ (q ▸ hx))
    · exact d'.2.2 x hx y hy
  · obtain ⟨cc, q1, q2⟩ := hc x k q
    exact ⟨cc, q1, get_prefix px q2⟩
theorem SR.freshO (G : Gd C sc lv) {B h : Heap} {a : Addr} {ob : Obj} (hs : SR C ad st h) (hB1 : ∀ b o, C.h₀.get? b = some o → b ∉ C.of → B.get? b = some o) (nB : B.get? a = none) (hg : h.get? a = some ob)
    (hd : (∃ vs, ob.data = .fields vs) ∨ ∃ vs n, ob.data = .seq vs n) : C.h₀.get? a = none ∧ a ≠ C.env.locals := by
  obtain ⟨gg, hgg, m, news, F, N, c, d, o', r⟩ := hs.ex
  constructor
  · cases q : C.h₀.get? a with
    | none => rfl
    | some o =>
      by_cases ho : a ∈ C.of
      · obtain ⟨_, o₂, h2, h3, h4⟩ := G.st.2 a ho
        obtain ⟨sl, h5⟩ := hgg.slot _ _ h2
        rw [F.keep _ _ h5] at hg
        cases hg
        rcases hd with ⟨vs, hd⟩ | ⟨vs, n, hd⟩
        · exact absurd hd (h3 vs)
        · exact absurd hd (h4 vs n)
      · rw [hB1 a o q ho] at nB; cases nB
  · rintro rfl
    obtain ⟨o₂, h2, h3, h4⟩ := ns_data F.ns
    rw [h2] at hg
    cases hg
    rcases hd with ⟨vs, hd⟩ | ⟨vs, n, hd⟩
    · exact h3 vs hd
    · exact h4 vs n hd
/-- fewer locals, and none of that name -/
def SubN (n : Str) (l l' : List (Str × V)) : Prop := ∀ x v, l.lookup x = some v → x ≠ n ∧ l'.lookup x = some v
theorem SubN.nil {n : Str} {l : List (Str × V)} : SubN n [] l := fun _ _ h => nomatch h
theorem xv_tryX {body : List Stmt} {n : Str} {np hpos : Pos} {b₀ : Stmt} {suite : List Stmt} {rest : List ExceptHandler} {Q : F → St → Prop} (G : Gd C sc lv) (ow : Own C) (hV : Blt C "ValueError" (.type "ValueError"))
    (h : SX C body st (fun w st1 => ∀ ev, SV (C.hand ev) (b₀ :: suite) ⟨(n, .ref (st1.os.length + 1)) :: st1.m, st1.os ++ [.words w, .exc st1.os.length]⟩ (fun f st2 => ∃ l, SubN n l st2.m ∧ Q f ⟨l, st2.os⟩)))
    (hln : sc.names.lookup n = some .local := by rfl) (hg : sc.names.lookup (Str.ofString "ValueError") = some .globalImplicit := by rfl) :
    XV C (.Try body (.ExceptHandler (some (.Name "ValueError" np)) (some n) (b₀ :: suite) hpos :: rest) [] [] pos) st Q := .mk fun s ad hs => At.mk fun K hK => by
  refine wpAny_Try_except (h.go s ad hs _ _ fun w st1 s1 ad1 e hq e1 p1 fl => ?_)
  obtain ⟨sr1, B, t, u, fs, B₀, c0, oc, vc, ⟨kB, nB, fB, tB⟩, hA, htup, nt, ⟨hBB, hc0, hcB, hcd0, hc2⟩, hB1, hB2⟩ := fl
  obtain ⟨⟨outer, hA'⟩, hfr⟩ := ow
  rw [hA'] at hA
  cases hA
  refine note_next hA' fB hfr kB nB tB fun h₂ kB2 fB2 u2 tB2 => ?_
  refine flight_set kB2 fB2 tB2 fun h₃ kB3 fB3 u3 _ tB3 => ?_
  have s3 : SR C ad1 st1 h₃ := sr1.land G hB1 hB2 (fun b o e => kB3 b o (hBB b o e)) (u2.trans u3)
  refine wpAny_handleBy_builtin_as (X := "ValueError") (T := "ValueError") (b := true) F.isExc_ValueError F.notTuple_ValueError (by rw [isSubtype_type]; kernel_rfl) ?_
  refine ld_blt (C := C.hand (.ref e)) (s := { s1 with heap := h₃ }) (G.hand _) hV (s3.hand _) hg ⟨rfl, tB3.typeIs (s := { s1 with heap := h₃ }), ?_⟩
  rw [if_pos rfl]
  refine flight_set kB3 fB3 tB3 fun h₄ kB4 fB4 u4 _ tB4 => ?_
  have s4 : SR C ad1 st1 h₄ := sr1.land G hB1 hB2 (fun b o e => kB4 b o (hBB b o e)) (u2.trans (u3.trans u4))
  have hlen := s4.len
  have nB₀ : B₀.get? e = none := by
    cases q : B₀.get? e with
    | none => rfl
    | some o => have := hBB _ _ q; rw [nB] at this; cases this
  have nt₀ : B₀.get? t = none := by
    cases q : B₀.get? t with
    | none => rfl
    | some o => have := hBB _ _ q; rw [nt] at this; cases this
  have hB2' : ∀ a ∈ ad1 ++ C.kp.map (·.1), B₀.get? a ≠ none := fun a ha q => by
    obtain ⟨o', e'⟩ := sr1.here a ha
    rw [hB2 a ha o' e'] at q; cases q
  obtain ⟨ot, nt', hot, hotc, hotd⟩ := (htup.of_slots u2).of_slots u3 |>.of_slots u4
  obtain ⟨oe, T, oT, ts, hoe, hoec, hoed, _⟩ := tB4
  have fT := s4.freshO G hB1 nt₀ hot (.inr ⟨_, _, hotd⟩)
  have fE := s4.freshO G hB1 nB₀ hoe (.inl ⟨_, hoed⟩)
  have hte : e ≠ t := fun q => by
    rw [q, hot] at hoe
    cases hoe
    rw [hotd] at hoed
    cases hoed
  have s5 := s4.adoptO hot fT.2 fT.1 (fun q => hB2' _ q nt₀) (o := .words w) ⟨hotc, nt', u, hotd⟩
  have s6 := s5.adoptO hoe fE.2 fE.1 (fun q => by
    rw [List.append_assoc, List.singleton_append] at q
    rcases List.mem_append.mp q with q | q
    · exact hB2' _ (List.mem_append_left _ q) nB₀
    · rcases List.mem_cons.mp q with q | q
      · exact hte q
      · exact hB2' _ (List.mem_append_right _ q) nB₀) (o := .exc st1.os.length) ⟨hoec, _, t, hoed, rfl, by rw [← hlen]; simp⟩
  have s6' : SR (C.hand (.ref e)) (ad1 ++ [t] ++ [e]) ⟨st1.m, st1.os ++ [.words w, .exc st1.os.length]⟩ h₄ := by
    have := s6.hand (.ref e)
    simpa [St.add] using this
  refine SR.store (C := C.hand (.ref e)) (s := { s1 with heap := h₄ }) (v := .ref (st1.os.length + 1)) s6' ⟨e, by rw [← hlen]; simp, rfl⟩ (G.hand _) hln fun s7 e7 hs7 => ?_
  refine wpNo (((hq (.ref e)).go s7 _ hs7).run _ fun f st8 s8 ad8 f' q8 e8 p8 hs8 r8 => ?_)
  obtain ⟨l, hsub, q8⟩ := q8
  obtain ⟨⟨gg, hgg, m, news, F, N, c, d, o, r⟩, hc⟩ := hs8.unhand
  refine wpAny_nameGoes_keeps (by rw [Env.kindOf, G.scope]; exact hln) F.ns (by rw [G.scope, G.kind]; rfl) fun h₉ v hn hsb => ?_
  refine hK f _ _ ad8 f' q8 (e1.trans ((Same.hp s1 h₄).trans (e7.trans (e8.trans (Same.mk' s8 h₉ _))))) (p1.trans (((List.prefix_append _ _).trans (List.prefix_append _ _)).trans p8)) ⟨⟨gg, hgg, _, news, F.set hn hsb, N.set hsb, c, d, o, fun x y q => ?_⟩, hc⟩ r8
  obtain ⟨hne, q'⟩ := hsub x y q
  obtain ⟨w', w1, w2⟩ := r x y q'
  exact ⟨w', by simp [hne, w1], w2⟩
theorem cl_strE {k j : Nat} {w : Str} {Q : V → St → Prop} (G : Gd C sc lv) (hk : st.os[k]? = some (.exc j)) (hj : st.os[j]? = some (.words w)) (h : Q (.str w) st) : CL C (.type "str") [.ref k] st Q := .mk fun s ad ws hs hr => by
  cases hr with | cons ra hr => cases hr with | nil =>
  obtain ⟨a, ob, h1, h2, ⟨hc, vs, t, h3, h4, h5⟩, _⟩ := hs.at hk
  obtain ⟨t', ot, h6, h7, ⟨hc', n, u, h8⟩, _⟩ := hs.at hj
  rw [h5] at h6
  cases h6
  cases ra.ref h1
  have hu := G.units
  exact At.stay (a := .str w u) hs h ⟨_, rfl⟩ fun K hK => P.str_of_exc_one F.excStr_ValueError (by rw [show cLine = 9900 from rfl]; omega) ⟨ob, vs, h2, hc, h3, h4⟩ ⟨ot, n, h7, hc', h8⟩ hK
theorem cl_typeE {k j : Nat} {Q : V → St → Prop} (hk : st.os[k]? = some (.exc j)) (h : Q (.fix (.type "ValueError")) st) : CL C (.type "type") [.ref k] st Q := .mk fun s ad ws hs hr => by
  cases hr with | cons ra hr => cases hr with | nil =>
  obtain ⟨a, ob, h1, h2, ⟨hc, vs, t, h3, h4, h5⟩, _⟩ := hs.at hk
  cases ra.ref h1
  exact At.stay (a := .type "ValueError") hs h rfl fun K hK => call_type_of ⟨ob, h2, hc⟩ (by decide) hK
end
end Mine
namespace Mine
section
variable {C : Cx} {sc : Scope} {lv : Nat} {st : St} {pos : Pos} {Q : V → St → Prop} {ad : List Addr}
theorem co_eqS {x y : Str} (h : Q (.bool (x == y)) st) : CO C .Eq (.str x) (.str y) st Q := .mk fun s ad va vb hs ⟨t, e⟩ ⟨u, f⟩ => by
  subst e f; exact At.stay (a := .bool _) hs h rfl fun _ hK => PyProof.Rows.eq_str hK
end
end Mine
namespace Mine
open PySem.SeqAt
theorem os_old {os : List O} {k : Nat} {o : O} {l : List O} (h : os[k]? = some o) : (os ++ l)[k]? = some o := get_prefix (List.prefix_append _ _) h
theorem pk_succ (k : Nat) (x : Int) : pk (k + 1) x = pk k (x / 256) ++ [x % 256] := by
  show (KTBy.little (k + 1) x).reverse = _
  rw [show KTBy.little (k + 1) x = x % 256 :: KTBy.little k (x / 256) from rfl, List.reverse_cons]
end Mine
namespace Mine
section
variable {C : Cx} {sc : Scope} {lv : Nat} {st : St} {pos : Pos} {Q : V → St → Prop} {ad : List Addr}
/-- a list comprehension of ints whose element leaves the store as it is -/
theorem ev_compI {elt target iter : Expr} {scope : Scope} {clc fr : List (Str × Nat)} (R : List Int) (G : Gd C sc lv) (hclc : C.cl = clc)
    (h : EV C iter st (fun v st1 => ∃ (items : List V) (dep : St → Prop), IterOf C v st1 items dep ∧ items.length ≤ 1000000 ∧ items.length = R.length ∧ dep ⟨[], st1.os⟩ ∧
      (∀ C' (i : Nat) v r, CompCx C C' (relabel scope (scEnv sc)) fr lv → items[i]? = some v → R[i]? = some r → AS C' target v ⟨[], st1.os⟩ (fun st2 => EV C' elt st2 (fun y st4 => y = .int r ∧ st4.os = st1.os))) ∧
      Q (.ref st1.os.length) ⟨st1.m, st1.os ++ [.list (R.map V.int)]⟩))
    (hcell : ∀ x ∈ scope.names, x.2 ≠ .cell := by decide) (hkind : scope.kind = .function := by rfl) (hnames : ∀ x ∈ scope.names, x.2 = .local → scope.names.lookup x.1 = some .local := by decide)
    (hfree : ∀ x ∈ scope.names, x.2 = .free → (clc.lookup x.1).isSome = true := by decide) (hfr : ∀ p ∈ fr, (p.1, NameKind.free) ∈ scope.names ∧ clc.lookup p.1 = some p.2 := by decide)
    (hfs : ∀ x, foldedSetIterable iter C.env x = pure x := by intro _; rfl) (ht : ∀ it v, letOwnedTupleGo target it v = pure () := by intro _ _; rfl) : EV C (.ListComp elt [⟨target, iter, [], 0⟩] scope pos) st Q := by
  refine ev_comp (fr := fr) G hclc (EV.mono h ?_) hcell hkind hnames hfree hfr hfs ht
  rintro v st1 ⟨items, dep, hit, hsz, hlen, hdep, helt, hq⟩
  refine ⟨items, dep, fun i acc os => acc = (R.take i).map V.int ∧ os = st1.os, hit, hsz, ⟨by simp, rfl⟩, ?_, ?_, ?_⟩
  · rintro i acc os ⟨_, rfl⟩; exact hdep
  · rintro C' i v acc os hc hv ⟨rfl, rfl⟩
    have hi : i < R.length := by rw [← hlen]; exact (List.getElem?_eq_some_iff.mp hv).1
    have hr : R[i]? = some R[i] := List.getElem?_eq_getElem hi
    refine .mk fun s ad w hs r => ((helt C' i v _ hc hv hr).go s ad w hs r).mono fun _ st2 q => ifv_nil ?_
    rw [if_pos rfl]
    refine EV.mono q ?_
    rintro y st4 ⟨rfl, h4⟩
    refine ⟨?_, h4⟩
    rw [List.take_succ_eq_append_getElem hi, List.map_append]
    rfl
  · rintro acc os ⟨rfl, rfl⟩
    rw [hlen, List.take_length]
    exact hq
end
end Mine
namespace Mine
theorem range_item {n i : Nat} {v : V} {a c : Int} (h : ((List.range n).map fun (i : Nat) => V.int (a + (i : Int) * c))[i]? = some v) : i < n ∧ v = .int (a + (i : Int) * c) := by
  have hi := (List.getElem?_eq_some_iff.mp h).1
  simp at hi
  rw [List.getElem?_map, List.getElem?_range hi] at h
  exact ⟨hi, (Option.some.inj h).symm⟩
theorem os_put {os : List O} {k : Nat} {p q : O} (hk : os[k]? = some p) : (os.set k q)[k]? = some q := List.getElem?_set_self (List.getElem?_eq_some_iff.mp hk).1
end Mine
namespace Mine
end Mine
namespace Mine
end Mine
namespace Mine
end Mine
namespace Mine
/-- a source of a zip: its items are drawn -/
structure Draw (ad₀ : List Addr) (I : Addr) (items : List V) (dep : St → Prop) (inv : Nat → Obj → Prop) : Prop where
  item : ∀ (C₂ : Cx) (A : Around) (E : Value → Shared → Prop) i v ob kp st s ad, items[i]? = some v → inv i ob → dep st → ad₀ <+: ad → SR (C₂.kept ((I, ob) :: kp)) ad st s.heap → ∀ K : Value → Shared → Prop,
    (∀ w s' ob', Same s s' → inv (i + 1) ob' → SR (C₂.kept ((I, ob') :: kp)) ad st s'.heap → VR ad v w → K w s') → wpAny C₂.M A (Builtin.SmallTypes.nextOf (.ref I)) K E s
  stop : ∀ (C₂ : Cx) (A : Around) (E : Value → Shared → Prop) ob kp st s ad, A.handled = none → inv items.length ob → dep st → ad₀ <+: ad → SR (C₂.kept ((I, ob) :: kp)) ad st s.heap → ∀ K : Value → Shared → Prop,
    (∀ e s', Same s s' → SR (C₂.kept kp) ad st s'.heap → (∃ o, s'.heap.get? e = some o ∧ o.cls = .type "StopIteration") → E (.ref e) s') → wpAny C₂.M A (Builtin.SmallTypes.nextOf (.ref I)) K E s
theorem SR.kpHd {C : Cx} {kp : List (Addr × Obj)} {ad : List Addr} {st : St} {h : Heap} {p : Addr × Obj} (hs : SR (C.kept (p :: kp)) ad st h) : h.get? p.1 = some p.2 := SR.kpGet (C := C.kept (p :: kp)) hs (.head _)
theorem draw_list {ad : List Addr} {k : Nat} {a : Addr} {vs : List V} (ha : ad[k]? = some a) (I : Addr) : Draw ad I vs (fun st' => st'.os[k]? = some (.list vs)) (fun i ob => ob.cls = .type "list_iterator" ∧ ob.data = .fields #[.ref a, .int i 0]) := by
  refine ⟨?_, ?_⟩
  · rintro C₂ A E i v ob kp st' s' ad' hv ⟨hc, hd⟩ hdep px hs' K hK
    obtain ⟨a', ws', ha', hla', hva'⟩ := SR.list hs' hdep
    rw [get_prefix px ha] at ha'
    cases ha'
    obtain ⟨w, hw, hvw⟩ := hva'.get hv
    refine wpAny_nextOf_list_item ⟨ob, hs'.kpHd, hc, hd⟩ hla' (by simpa using hw) fun h' hit hsb => ?_
    obtain ⟨ob', h1, h2, h3⟩ := hit
    exact hK w _ ob' (Same.hp s' h') ⟨h2, h3⟩ (SR.touch hs' (fun b o hb e => hsb.extBut b o hb e) h1) hvw
  · rintro C₂ A E ob kp st' s' ad' hh ⟨hc, hd⟩ hdep px hs' K hK
    obtain ⟨a', ws', ha', hla', hva'⟩ := SR.list hs' hdep
    rw [get_prefix px ha] at ha'
    cases ha'
    refine wpAny_nextOf_list_end hh ⟨ob, hs'.kpHd, hc, hd⟩ hla' (by simp [hva'.length]) fun h' e he ho => ?_
    exact hK e _ (Same.hp s' h') (SR.gone hs' fun b o hb e => he b o hb e) ho
/-! a source of bytes -/
/-- something that zip takes -/
def SrcOf (C : Cx) (v : V) (st : St) (items : List V) (dep : St → Prop) : Prop := ∀ (s : Shared) ad w, SR C ad st s.heap → VR ad v w → ∃ (inv : Nat → Obj → Prop) (ob : Obj), ob.isFreed = false ∧ inv 0 ob ∧ (∀ I, Draw ad I items dep inv) ∧
  ∀ (A : Around) (E : Value → Shared → Prop) (s' : Shared) (K : Value → Shared → Prop), (∀ b o, s.heap.get? b = some o → s'.heap.get? b = some o) → K (.ref s'.heap.objs.size) { s' with heap := s'.heap.push ob } → wpAny C.M A (pyIter w) K E s'
section
variable {C : Cx} {sc : Scope} {lv : Nat} {st : St} {pos : Pos} {ad : List Addr}
theorem src_list {k : Nat} {vs : List V} (hk : st.os[k]? = some (.list vs)) : SrcOf C (.ref k) st vs (fun st' => st'.os[k]? = some (.list vs)) := fun s ad w hs r => by
  obtain ⟨a, ws, ha, hla, hva⟩ := hs.list hk
  cases r.ref ha
  exact ⟨_, { cls := .type "list_iterator", data := .fields #[.ref a, .int 0 0] }, rfl, ⟨rfl, rfl⟩, draw_list ha, fun A E s' K hk' h => wpAny_pyIter_list (hla.at fun o e => hk' a o e) h⟩
end
end Mine
namespace Mine
abbrev zob (f0 : Value) (TI TO : Addr) : Obj := { cls := .type "zip", dict := none, data := .fields #[f0, .bool false, .bool false, .ref TI, .ref TO], slots := #[] }
abbrev tob (vs : List Value) : Obj := { cls := .type "tuple", data := .seq vs.toArray }
section
variable {C : Cx} {st : St} {ad : List Addr}
theorem SR.toHead {h : Heap} {p : Addr × Obj} {l kp : List (Addr × Obj)} (hs : SR (C.kept (l ++ p :: kp)) ad st h) : SR (C.kept (p :: (l ++ kp))) ad st h := hs.perm List.perm_middle
theorem SR.fromHead {h : Heap} {p : Addr × Obj} {l kp : List (Addr × Obj)} (hs : SR (C.kept (p :: (l ++ kp))) ad st h) : SR (C.kept (l ++ p :: kp)) ad st h := hs.perm List.perm_middle.symm
theorem SR.touchAt {h h' : Heap} {I : Addr} {ob ob' : Obj} {l kp : List (Addr × Obj)} (hs : SR (C.kept (l ++ (I, ob) :: kp)) ad st h) (hk : ∀ b o, b ≠ I → h.get? b = some o → h'.get? b = some o) (hI : h'.get? I = some ob') : SR (C.kept (l ++ (I, ob') :: kp)) ad st h' :=
  (hs.toHead.touch hk hI).fromHead
/-- a new thing of the store -/
theorem SR.alloc {h : Heap} (hs : SR C ad st h) {o : O} {ob : Obj} (hf : ob.isFreed = false) (ho : ∀ b, OR (ad ++ [b]) o ob) : SR C (ad ++ [h.objs.size]) (st.add o) (h.push ob) := by
  obtain ⟨⟨gg, hgg, m, news, F, N, c, d, o', r⟩, hc⟩ := hs
  exact sr_alloc hgg N c d o' r hc (F.push _) (N.push F _ hf) (ho _)
end
theorem updTob {prog : Program} {w : World} {A : Around} {E : Value → Shared → Prop} {s : Shared} {T : Addr} {vs : List Value} {x : Value} {k : Nat} {Q : Unit → Shared → Prop} (hT : s.heap.get? T = some (tob vs))
    (h : ∀ h', h'.get? T = some { cls := .type "tuple", data := .seq (vs.toArray.setIfInBounds k x) } → Heap.SameBut T s.heap h' → Q () { s with heap := h' }) (hz : vs.length ≤ 100 := by simp) :
    wpAny (model prog w) A (updateSeq T (·.setIfInBounds k x)) Q E s := by
  refine wpAny_updateSeq hT rfl (h _ ?_ (Heap.SameBut.update ..)) (by rw [List.size_toArray, sizeLine_eq]; omega) (by rw [Array.size_setIfInBounds, List.size_toArray, sizeLine_eq]; omega)
  rw [Heap.get?_update_self _ hT rfl]
  simp [Obj.mapSeq]
theorem zip3_next {C₂ : Cx} {A : Around} {E : Value → Shared → Prop} {s : Shared} {ad ad₀ : List Addr} {st : St} {kp : List (Addr × Obj)} {z TI TO i1 i2 i3 : Addr} {a1 a2 a3 : Value} {o1 o2 o3 : Obj} {items1 : List V} {dep1 : St → Prop} {inv1 : Nat → Obj → Prop} {items2 : List V} {dep2 : St → Prop} {inv2 : Nat → Obj → Prop} {items3 : List V} {dep3 : St → Prop} {inv3 : Nat → Obj → Prop} {i : Nat} {v1 v2 v3 : V} {K : Option Value → Shared → Prop}
    (d1 : Draw ad₀ i1 items1 dep1 inv1) (d2 : Draw ad₀ i2 items2 dep2 inv2) (d3 : Draw ad₀ i3 items3 dep3 inv3) (hv1 : items1[i]? = some v1) (hi1 : inv1 i o1) (hd1 : dep1 st) (hv2 : items2[i]? = some v2) (hi2 : inv2 i o2) (hd2 : dep2 st) (hv3 : items3[i]? = some v3) (hi3 : inv3 i o3) (hd3 : dep3 st) (px : ad₀ <+: ad)
    (hs : SR (C₂.kept ((z, zob .none TI TO) :: (TI, tob [.ref i1, .ref i2, .ref i3]) :: (TO, tob [a1, a2, a3]) :: (i1, o1) :: (i2, o2) :: (i3, o3) :: kp)) ad st s.heap)
    (hK : ∀ (T : Addr) s' w1 w2 w3 o1' o2' o3', Same s s' → inv1 (i + 1) o1' → inv2 (i + 1) o2' → inv3 (i + 1) o3' → SR (C₂.kept ((z, zob (rawInt T) TI TO) :: (TI, tob [.ref i1, .ref i2, .ref i3]) :: (TO, tob [w1, w2, w3]) :: (i1, o1') :: (i2, o2') :: (i3, o3') :: kp)) (ad ++ [T]) (st.add (.tuple [v1, v2, v3])) s'.heap → K (some (.ref T)) s') :
    wpAny C₂.M A (pyNext (.ref z)) K E s := by
  have hz := hs.kpHd
  have hT : s.TypeIs (.ref z) "zip" := ⟨_, hz, rfl⟩
  have hTI : s.heap.get? TI = some (tob [.ref i1, .ref i2, .ref i3]) := SR.kpAt (p := (TI, _)) hs (.tail _ (.head _))
  unfold pyNext
  refine wpAny_bind (wpAny_attempt (wpAny_callSpecial?_slot (name := Str.ofString "__next__") hT F.slot_zip_next (wpAny_call_entry F.slot_zip_next hT F.entry_zip_next ?_ (F.args_zip_next_1 _))))
  show wpAny _ _ (field (.ref z) 2 >>= _) _ _ _
  refine wpAny_bind (wpAny_field hz rfl (x := .bool false) rfl ?_)
  show wpAny _ _ (field (.ref z) 3 >>= _) _ _ _
  refine wpAny_bind (wpAny_field hz rfl (x := .ref TI) rfl (wpAny_bind (wpAny_seqItems hTI rfl ?_)))
  show wpAny _ _ (Builtin.SmallTypes.ownedTupleIsFree (.ref z) >>= _) _ _ _
  refine wpAny_bind ?_
  unfold Builtin.SmallTypes.ownedTupleIsFree
  refine wpAny_bind (wpAny_field hz rfl (x := .none) rfl (wpAny_pure ?_))
  simp only [if_true]
  refine wpAny_bind (wpAny_rule (wpAny_bind (wpAny_field hz rfl (x := .ref TO) rfl ?_)))
  refine wpAny_bind (wpAny_setField_rec hz (by simp) fun h₁ hz₁ hs₁ => ?_)
  replace hz₁ : h₁.get? z = some (zob .ellipsis TI TO) := hz₁
  have S1 := SR.touch hs (fun b o hb e => hs₁.extBut b o hb e) hz₁
  refine wpAny_bind ?_
  simp only [List.zipIdx_cons, List.zipIdx_nil, List.forIn_cons, List.forIn_nil]
  have E1 : Same s { s with heap := h₁ } := Same.hp s h₁

  refine wpAny_bind (wpAny_bind (wpAny_onRaise ?_))
  show wpAny _ _ (Builtin.SmallTypes.nextOf (.ref i1) >>= _) _ _ _
  refine wpAny_bind (d1.item C₂ _ _ i v1 o1 _ st { s with heap := h₁ } ad hv1 hi1 hd1 px (SR.toHead (l := [(z, zob .ellipsis TI TO), (TI, tob [.ref i1, .ref i2, .ref i3]), (TO, tob [a1, a2, a3])]) S1) _ fun w1 s1 o1' e1 hi1' hs1 r1 => wpAny_pure ?_)
  have T1 := SR.fromHead (l := [(z, zob .ellipsis TI TO), (TI, tob [.ref i1, .ref i2, .ref i3]), (TO, tob [a1, a2, a3])]) hs1
  have hTO1 : s1.heap.get? TO = some (tob [a1, a2, a3]) := SR.kpAt (p := (TO, _)) T1 (.tail _ (.tail _ (.head _)))
  refine wpAny_bind (wpAny_seqItems hTO1 rfl (wpAny_bind (updTob hTO1 fun h1 g1 q1 => ?_)))
  replace g1 : h1.get? TO = some (tob [w1, a2, a3]) := g1
  have S2 := SR.touchAt (l := [(z, zob .ellipsis TI TO), (TI, tob [.ref i1, .ref i2, .ref i3])]) T1 (fun b o hb e => q1.extBut b o hb e) g1
  have E2 : Same s { s1 with heap := h1 } := E1.trans (e1.trans (Same.hp s1 h1))
  refine wpAny_bind (wpAny_letGo (wpAny_pure ?_))

  refine wpAny_bind (wpAny_bind (wpAny_onRaise ?_))
  show wpAny _ _ (Builtin.SmallTypes.nextOf (.ref i2) >>= _) _ _ _
  refine wpAny_bind (d2.item C₂ _ _ i v2 o2 _ st { s1 with heap := h1 } ad hv2 hi2 hd2 px (SR.toHead (l := [(z, zob .ellipsis TI TO), (TI, tob [.ref i1, .ref i2, .ref i3]), (TO, tob [w1, a2, a3]), (i1, o1')]) S2) _ fun w2 s2 o2' e2 hi2' hs2 r2 => wpAny_pure ?_)
  have T2 := SR.fromHead (l := [(z, zob .ellipsis TI TO), (TI, tob [.ref i1, .ref i2, .ref i3]), (TO, tob [w1, a2, a3]), (i1, o1')]) hs2
  have hTO2 : s2.heap.get? TO = some (tob [w1, a2, a3]) := SR.kpAt (p := (TO, _)) T2 (.tail _ (.tail _ (.head _)))
  refine wpAny_bind (wpAny_seqItems hTO2 rfl (wpAny_bind (updTob hTO2 fun h2 g2 q2 => ?_)))
  replace g2 : h2.get? TO = some (tob [w1, w2, a3]) := g2
  have S3 := SR.touchAt (l := [(z, zob .ellipsis TI TO), (TI, tob [.ref i1, .ref i2, .ref i3])]) T2 (fun b o hb e => q2.extBut b o hb e) g2
  have E3 : Same s { s2 with heap := h2 } := E2.trans (e2.trans (Same.hp s2 h2))
  refine wpAny_bind (wpAny_letGo (wpAny_pure ?_))

  refine wpAny_bind (wpAny_bind (wpAny_onRaise ?_))
  show wpAny _ _ (Builtin.SmallTypes.nextOf (.ref i3) >>= _) _ _ _
  refine wpAny_bind (d3.item C₂ _ _ i v3 o3 _ st { s2 with heap := h2 } ad hv3 hi3 hd3 px (SR.toHead (l := [(z, zob .ellipsis TI TO), (TI, tob [.ref i1, .ref i2, .ref i3]), (TO, tob [w1, w2, a3]), (i1, o1'), (i2, o2')]) S3) _ fun w3 s3 o3' e3 hi3' hs3 r3 => wpAny_pure ?_)
  have T3 := SR.fromHead (l := [(z, zob .ellipsis TI TO), (TI, tob [.ref i1, .ref i2, .ref i3]), (TO, tob [w1, w2, a3]), (i1, o1'), (i2, o2')]) hs3
  have hTO3 : s3.heap.get? TO = some (tob [w1, w2, a3]) := SR.kpAt (p := (TO, _)) T3 (.tail _ (.tail _ (.head _)))
  refine wpAny_bind (wpAny_seqItems hTO3 rfl (wpAny_bind (updTob hTO3 fun h3 g3 q3 => ?_)))
  replace g3 : h3.get? TO = some (tob [w1, w2, w3]) := g3
  have S4 := SR.touchAt (l := [(z, zob .ellipsis TI TO), (TI, tob [.ref i1, .ref i2, .ref i3])]) T3 (fun b o hb e => q3.extBut b o hb e) g3
  have E4 : Same s { s3 with heap := h3 } := E3.trans (e3.trans (Same.hp s3 h3))
  refine wpAny_bind (wpAny_letGo (wpAny_pure (wpAny_pure ?_)))

  have hTOn := SR.kpAt (p := (TO, _)) S4 (.tail _ (.tail _ (.head _)))
  refine wpAny_bind (wpAny_seqItems hTOn rfl ?_)
  have A1 := S4.alloc (o := .tuple [v1, v2, v3]) (ob := tob [w1, w2, w3]) rfl (fun b => ⟨_, 0, rfl, .cons (r1.mono (List.prefix_append _ _)) (.cons (r2.mono (List.prefix_append _ _)) (.cons (r3.mono (List.prefix_append _ _)) (.nil)))⟩)
  refine wpAny_bind (wpAny_newTuple ?_)
  show wpAny _ _ (Builtin.SmallTypes.ownedTupleHandOut (.ref z) (.ref h3.objs.size) >>= _) _ _ _
  refine wpAny_bind ?_
  unfold Builtin.SmallTypes.ownedTupleHandOut
  refine wpAny_bind (wpAny_setField_rec (SR.kpHd A1) (by simp) fun h₇ hz₇ hs₇ => ?_)
  replace hz₇ : h₇.get? z = some (zob (rawInt h3.objs.size) TI TO) := hz₇
  have A2 := SR.touch A1 (fun b o hb e => hs₇.extBut b o hb e) hz₇
  refine wpAny_setField_rec hz₇ (by simp) fun h₈ hz₈ hs₈ => ?_
  replace hz₈ : h₈.get? z = some (zob (rawInt h3.objs.size) TI TO) := hz₈
  have A3 := SR.touch A2 (fun b o hb e => hs₈.extBut b o hb e) hz₈
  refine wpAny_pure ⟨_, rfl, wpAny_pure ?_⟩
  exact hK h3.objs.size _ w1 w2 w3 o1' o2' o3' (E4.trans (Same.hp _ h₈)) hi1' hi2' hi3' A3
theorem zip3_done {C₂ : Cx} {A : Around} {E : Value → Shared → Prop} {s : Shared} {ad ad₀ : List Addr} {st : St} {kp : List (Addr × Obj)} {z TI TO i1 i2 i3 : Addr} {a1 a2 a3 : Value} {o1 o2 o3 : Obj} {items1 : List V} {dep1 : St → Prop} {inv1 : Nat → Obj → Prop} {K : Option Value → Shared → Prop}
    (hh : A.handled = none) (d1 : Draw ad₀ i1 items1 dep1 inv1) (hi1 : inv1 items1.length o1) (hd1 : dep1 st) (px : ad₀ <+: ad)
    (hs : SR (C₂.kept ((z, zob .none TI TO) :: (TI, tob [.ref i1, .ref i2, .ref i3]) :: (TO, tob [a1, a2, a3]) :: (i1, o1) :: (i2, o2) :: (i3, o3) :: kp)) ad st s.heap)
    (hK : ∀ s', Same s s' → SR (C₂.kept kp) ad st s'.heap → K none s') :
    wpAny C₂.M A (pyNext (.ref z)) K E s := by
  have hz := hs.kpHd
  have hT : s.TypeIs (.ref z) "zip" := ⟨_, hz, rfl⟩
  have hTI : s.heap.get? TI = some (tob [.ref i1, .ref i2, .ref i3]) := SR.kpAt (p := (TI, _)) hs (.tail _ (.head _))
  unfold pyNext
  refine wpAny_bind (wpAny_attempt (wpAny_callSpecial?_slot (name := Str.ofString "__next__") hT F.slot_zip_next (wpAny_call_entry F.slot_zip_next hT F.entry_zip_next ?_ (F.args_zip_next_1 _))))
  show wpAny _ _ (field (.ref z) 2 >>= _) _ _ _
  refine wpAny_bind (wpAny_field hz rfl (x := .bool false) rfl ?_)
  show wpAny _ _ (field (.ref z) 3 >>= _) _ _ _
  refine wpAny_bind (wpAny_field hz rfl (x := .ref TI) rfl (wpAny_bind (wpAny_seqItems hTI rfl ?_)))
  show wpAny _ _ (Builtin.SmallTypes.ownedTupleIsFree (.ref z) >>= _) _ _ _
  refine wpAny_bind ?_
  unfold Builtin.SmallTypes.ownedTupleIsFree
  refine wpAny_bind (wpAny_field hz rfl (x := .none) rfl (wpAny_pure ?_))
  simp only [if_true]
  refine wpAny_bind (wpAny_rule (wpAny_bind (wpAny_field hz rfl (x := .ref TO) rfl ?_)))
  refine wpAny_bind (wpAny_setField_rec hz (by simp) fun h₁ hz₁ hs₁ => ?_)
  replace hz₁ : h₁.get? z = some (zob .ellipsis TI TO) := hz₁
  have S1 := SR.touch hs (fun b o hb e => hs₁.extBut b o hb e) hz₁
  refine wpAny_bind ?_
  simp only [List.zipIdx_cons, List.zipIdx_nil, List.forIn_cons, List.forIn_nil]
  have E1 : Same s { s with heap := h₁ } := Same.hp s h₁
  refine wpAny_bind (wpAny_bind (wpAny_onRaise ?_))
  show wpAny _ _ (Builtin.SmallTypes.nextOf (.ref i1) >>= _) _ _ _
  refine wpAny_bind (d1.stop C₂ A.in1 _ o1 _ st { s with heap := h₁ } ad hh hi1 hd1 px (SR.toHead (l := [(z, zob .ellipsis TI TO), (TI, tob [.ref i1, .ref i2, .ref i3]), (TO, tob [a1, a2, a3])]) S1) _ fun e s1 e1 hs1 ho => ?_)
  obtain ⟨oe, ho1, ho2⟩ := ho
  have hz1 : s1.heap.get? z = some (zob .ellipsis TI TO) := SR.kpAt (p := (z, _)) hs1 (.head _)
  have hez : e ≠ z := fun x => by subst x; rw [hz1] at ho1; cases ho1; simp at ho2
  refine wpAny_setField_rec hz1 (by simp) fun h₃ hz₃ hs₃ => ?_
  have S3 := SR.gone hs1 (fun b o hb e => hs₃.extBut b o hb e)
  refine wpAny_bind (wpAny_isInstance (T := "StopIteration") (b := true) ⟨oe, hs₃.extBut _ _ hez ho1, ho2⟩ isSubtype_stop ?_)
  exact wpAny_pure (hK _ (E1.trans (e1.trans (Same.hp s1 h₃))) (SR.drop (ks := [(TI, tob [.ref i1, .ref i2, .ref i3]), (TO, tob [a1, a2, a3]), (i2, o2), (i3, o3)]) S3))
end Mine
namespace Mine
/-- a value that makes an iterator object o -/
def Makes (prog : Program) (w : World) (h : Heap) (v : Value) (o : Obj) : Prop := ∀ (A : Around) (E : Value → Shared → Prop) (s' : Shared) (K : Value → Shared → Prop), (∀ b o, h.get? b = some o → s'.heap.get? b = some o) → K (.ref s'.heap.objs.size) { s' with heap := s'.heap.push o } → wpAny (model prog w) A (pyIter v) K E s'
/-- an iterator that makes tuples: a new one each time -/
structure TIter (C : Cx) (ad₀ : List Addr) (I : Addr) (items : List (List V)) (dep : St → Prop) (inv : Nat → List (Addr × Obj) → Prop) (mid : Nat → Addr → List (Addr × Obj) → Prop) : Prop where
  next : ∀ (C₂ : Cx), Like C C₂ → ∀ i vs ks kp st s ad, items[i]? = some vs → inv i ks → dep st → ad₀ <+: ad → SR (C₂.kept (ks ++ kp)) ad st s.heap → ∀ K : Option Value → Shared → Prop,
    (∀ (T : Addr) s' ks', Same s s' → mid (i + 1) T ks' → SR (C₂.kept (ks' ++ kp)) (ad ++ [T]) (st.add (.tuple vs)) s'.heap → K (some (.ref T)) s') → wpAny C₂.M C₂.A (pyNext (.ref I)) K No s
  own : ∀ (C₂ : Cx) i (T : Addr) ks kp st s ad es n tp, mid i T ks → SR (C₂.kept (ks ++ kp)) ad st s.heap → ∀ K : Unit → Shared → Prop,
    (∀ s' ks', Same s s' → inv i ks' → SR (C₂.kept (ks' ++ kp)) ad st s'.heap → K () s') → wpAny C₂.M C₂.A (letOwnedTupleGo (.Tuple es n tp) (.ref I) (.ref T)) K No s
  done : ∀ (C₂ : Cx), Like C C₂ → ∀ ks kp st s ad, inv items.length ks → dep st → ad₀ <+: ad → SR (C₂.kept (ks ++ kp)) ad st s.heap → ∀ K : Option Value → Shared → Prop,
    (∀ s', Same s s' → SR (C₂.kept kp) ad st s'.heap → K none s') → wpAny C₂.M C₂.A (pyNext (.ref I)) K No s
  self : ∀ (C₂ : Cx), ∀ i ks kp st s ad, inv i ks → SR (C₂.kept (ks ++ kp)) ad st s.heap → ∀ K : Value → Shared → Prop, K (.ref I) s → wpAny C₂.M C₂.A (pyIter (.ref I)) K No s
/-- an expression that makes such an iterator -/
structure ZV (C : Cx) (e : Expr) (st : St) (Q : St → List (List V) → (St → Prop) → Prop) : Prop where
  go : ∀ s ad, SR C ad st s.heap → ∀ K : Value → Shared → Prop, (∀ st1 items dep I inv mid ks s' ad', Q st1 items dep → TIter C ad' I items dep inv mid → inv 0 ks → Same s s' → ad <+: ad' → SR (C.kept (ks ++ C.kp)) ad' st1 s'.heap → K (.ref I) s') → wpAny C.M C.A (eval e C.env) K No s
section
variable {C : Cx} {sc : Scope} {lv : Nat} {st : St} {pos px : Pos} {ad : List Addr}
theorem zw2 {l1 l2 : List V} {i : Nat} {vs : List V} (h : (List.zipWith (fun a b => [a, b]) l1 l2)[i]? = some vs) : ∃ v1 v2, vs = [v1, v2] ∧ l1[i]? = some v1 ∧ l2[i]? = some v2 := by
  rw [List.getElem?_zipWith] at h
  cases h1 : l1[i]? with
  | none => rw [h1] at h; cases h
  | some a =>
    cases h2 : l2[i]? with
    | none => rw [h1, h2] at h; cases h
    | some b => rw [h1, h2] at h; cases h; exact ⟨a, b, rfl, rfl, rfl⟩
end
end Mine
namespace Mine
section
variable {C : Cx} {sc : Scope} {lv : Nat} {st : St} {pos px : Pos} {ad : List Addr}
/-- a loop over tuples -/
theorem xv_forZ {es : List Expr} {n : Nat} {tp : Pos} {iter : Expr} {body : List Stmt} {Q : F → St → Prop}
    (h : ZV C iter st (fun st1 items dep => ∃ (I : Nat → St → Prop), (∃ l₀, Sub l₀ st1.m ∧ I 0 ⟨l₀, st1.os⟩) ∧ (∀ i st', I i st' → dep st') ∧
      (∀ i vs st' kp, items[i]? = some vs → I i st' → AS (C.kept kp) (.Tuple es n tp) (.ref st'.os.length) (st'.add (.tuple vs)) (fun st2 => SV (C.kept kp) body st2 (ForT C st1.os.length (I (i + 1)) Q))) ∧ (∀ st', I items.length st' → Q .next st')))
    (hs : ∀ x, foldedSetIterable iter C.env x = pure x := by intro _; rfl) : XV C (.For (.Tuple es n tp) iter body [] pos) st Q := .mk fun s ad hs₀ => At.mk fun K hK => by
  refine wpAny_For (h.go s ad hs₀ _ fun st1 items dep It inv mid ks s2 ad1 q1 ti hinv e2 p1 hs2 => ?_) hs
  obtain ⟨I, ⟨l₀, hsub, hI0⟩, hdep, turn, done⟩ := q1
  refine ti.self C 0 ks C.kp st1 s2 ad1 hinv hs2 _ ?_
  have hlen : ad1.length = st1.os.length := SR.len hs2
  refine codeAny_forLoop_any (fun n s' => ∃ i st' ad' ks', n + i = items.length + 1 ∧ i ≤ items.length ∧ I i st' ∧ inv i ks' ∧ Same s s' ∧ ad1 <+: ad' ∧ SR (C.kept (ks' ++ C.kp)) ad' st' s'.heap) ?_ (items.length + 1) ⟨0, _, ad1, ks, rfl, Nat.zero_le _, hI0, hinv, e2, List.prefix_refl _, hs2.weak hsub⟩
  rintro n s' ⟨i, st', ad', ks', hni, hile, hI, hinv', e', p', hs'⟩
  by_cases hi : i < items.length
  · refine wpNo (ti.next C ⟨rfl, rfl, rfl⟩ i items[i] ks' C.kp st' s' ad' (by simp [hi]) hinv' (hdep _ _ hI) p' hs' _ fun T s3 ks3 e3 hmid hs3 => ?_)
    refine wpNo (ti.own C (i + 1) T ks3 C.kp _ s3 _ _ _ _ hmid hs3 _ fun s3' ks3' e3' hinv3 hs3' => ?_)
    have hr : VR (ad' ++ [T]) (.ref st'.os.length) (.ref T) := ref_new _ _ _ (SR.len hs')
    refine wpNo (((turn i _ st' (ks3' ++ C.kp) (by simp [hi]) hI).go s3' _ _ hs3' hr).run _ fun _ st4 s4 ad4 _ q4 e4 p4 hs4 _ => ?_)
    refine wpNo ((q4.go s4 ad4 hs4).run _ fun f st5 s5 ad5 f' q5 e5 p5 hs5 r5 => ?_)
    have p4' : ad' <+: ad4 := (List.prefix_append _ _).trans p4
    have e35 : Same s s5 := e'.trans (e3.trans (e3'.trans (e4.trans e5)))
    have more : (∃ st', Wk C st5 st' ∧ st1.os.length ≤ st'.os.length ∧ I (i + 1) st') → ∃ m, m < n ∧ ∃ i st' ad' ks', m + i = items.length + 1 ∧ i ≤ items.length ∧ I i st' ∧ inv i ks' ∧ Same s s5 ∧ ad1 <+: ad' ∧ SR (C.kept (ks' ++ C.kp)) ad' st' s5.heap := by
      rintro ⟨st6, wk, hl, hI6⟩
      have wk' : Wk (C.kept (ks3' ++ C.kp)) st5 st6 := ⟨wk.1, wk.2.imp id fun k => ⟨k.os, k.lb, k.ob, k.cb⟩⟩
      obtain ⟨ad6, hs6, px⟩ := hs5.wk wk'
      exact ⟨n - 1, by omega, i + 1, st6, ad6, ks3', by omega, by omega, hI6, hinv3, e35, px _ (p'.trans (p4'.trans p5)) (by rw [hlen]; exact hl), hs6⟩
    cases f with
    | next => cases r5; exact more q5
    | cont => cases r5; exact more q5
    | brk => cases r5; exact hK .next st5 s5 ad5 .next q5 e35 (p1.trans (p'.trans (p4'.trans p5))) hs5.drop rfl
    | ret v =>
      obtain ⟨w, rfl, hw⟩ := r5
      exact hK (.ret v) st5 s5 ad5 _ q5 e35 (p1.trans (p'.trans (p4'.trans p5))) hs5.drop ⟨w, rfl, hw⟩
  · obtain rfl : i = items.length := by omega
    · refine wpNo (ti.done C ⟨rfl, rfl, rfl⟩ ks' C.kp st' s' ad' hinv' (hdep _ _ hI) p' hs' _ fun s3 e3 hs3 => ?_)
      exact wpAny_execs_nil (hK .next st' s3 ad' .next (done st' hI) (e'.trans e3) (p1.trans p') hs3 rfl)
end
end Mine
namespace Mine
theorem meets_zip3 {prog : Program} {w : World} {w1 w2 w3 : Value} {o1 o2 o3 : Obj} : MeetsIn prog w (Builtin.«zip.__new__» ⟨[.type "zip", w1, w2, w3], []⟩) (fun _ R s => Makes prog w s.heap w1 o1 ∧ Makes prog w s.heap w2 o2 ∧ Makes prog w s.heap w3 o3 ∧
      R (.ok (.ret (.ref (((((s.heap.push o1).push o2).push o3).push (tob [.ref s.heap.objs.size, .ref (s.heap.push o1).objs.size, .ref ((s.heap.push o1).push o2).objs.size])).push (tob [.none, .none, .none])).objs.size))) { s with heap := (((((s.heap.push o1).push o2).push o3).push (tob [.ref s.heap.objs.size, .ref (s.heap.push o1).objs.size, .ref ((s.heap.push o1).push o2).objs.size])).push (tob [.none, .none, .none])).push (zob .none (((s.heap.push o1).push o2).push o3).objs.size ((((s.heap.push o1).push o2).push o3).push (tob [.ref s.heap.objs.size, .ref (s.heap.push o1).objs.size, .ref ((s.heap.push o1).push o2).objs.size])).objs.size) }) :=
  .of_wp fun A R s h => by
    obtain ⟨hp, g, d, tk, os⟩ := s
    obtain ⟨hl1, hl2, hl3, h⟩ := h
    have hsub := sub_zip
    have hL1 : ∀ {E : Value → Shared → Prop} {K : Value → Shared → Prop}, K (.ref hp.objs.size) ⟨hp.push o1, g, d, tk, os⟩ → wpAny (model prog w) A.in1 (pyIter w1) K E ⟨hp, g, d, tk, os⟩ := fun q => hl1 _ _ _ _ (fun _ _ e => e) q
    have hL2 : ∀ {E : Value → Shared → Prop} {K : Value → Shared → Prop}, K (.ref (hp.push o1).objs.size) ⟨(hp.push o1).push o2, g, d, tk, os⟩ → wpAny (model prog w) A.in1 (pyIter w2) K E ⟨hp.push o1, g, d, tk, os⟩ := fun q => hl2 _ _ _ _ (fun _ _ e => Heap.get?_push_of_some _ e) q
    have hL3 : ∀ {E : Value → Shared → Prop} {K : Value → Shared → Prop}, K (.ref ((hp.push o1).push o2).objs.size) ⟨((hp.push o1).push o2).push o3, g, d, tk, os⟩ → wpAny (model prog w) A.in1 (pyIter w3) K E ⟨(hp.push o1).push o2, g, d, tk, os⟩ := fun q => hl3 _ _ _ _ (fun _ _ e => Heap.get?_push_of_some _ (Heap.get?_push_of_some _ e)) q
    wp_walk using hL1, hL2, hL3
    exact ⟨_, rfl, h⟩
theorem typeCall_zip3 (a b c : Value) : checkTypeCall "zip" ⟨[a, b, c], []⟩ = pure () := by kernel_rfl
theorem newCall_zip3 (a b c : Value) : checkBuiltinCall "zip.__new__" ⟨[.type "zip", a, b, c], []⟩ = pure () := by kernel_rfl
theorem args_init4 (a b c d : Value) : argsOk "object.__init__" ⟨[a, b, c, d], []⟩ := by
  unfold argsOk; rw [signature?_of (id := "object.__init__") (n := ['_', '_', 't', 'i', 'n', 'i', '_', '_']) (o := ['t', 'c', 'e', 'j', 'b', 'o']) (by kernel_rfl) F.owner_object]; kernel_rfl
section
variable {C : Cx} {sc : Scope} {lv : Nat} {st : St} {pos px : Pos} {ad : List Addr}
theorem zw3 {l1 l2 l3 : List V} {i : Nat} {vs : List V} (h : (List.zipWith (fun a bs => a :: bs) l1 (List.zipWith (fun a b => [a, b]) l2 l3))[i]? = some vs) : ∃ v1 v2 v3, vs = [v1, v2, v3] ∧ l1[i]? = some v1 ∧ l2[i]? = some v2 ∧ l3[i]? = some v3 := by
  rw [List.getElem?_zipWith] at h
  cases h1 : l1[i]? with
  | none => rw [h1] at h; cases h
  | some a =>
    cases h2 : (List.zipWith (fun a b => [a, b]) l2 l3)[i]? with
    | none => rw [h1, h2] at h; cases h
    | some b =>
      rw [h1, h2] at h
      cases h
      obtain ⟨x, y, rfl, e1, e2⟩ := zw2 h2
      exact ⟨a, x, y, rfl, rfl, e1, e2⟩
theorem call_zip3 {v1 v2 v3 : V} {w1 w2 w3 : Value} {l1 l2 l3 : List V} {dep1 dep2 dep3 : St → Prop} {s : Shared} {K : Value → Shared → Prop} (hh : C.A.handled = none) (hs : SR C ad st s.heap) (r1 : VR ad v1 w1) (r2 : VR ad v2 w2) (r3 : VR ad v3 w3) (h1 : SrcOf C v1 st l1 dep1) (h2 : SrcOf C v2 st l2 dep2) (h3 : SrcOf C v3 st l3 dep3) (hl : l1.length = l2.length) (hl' : l2.length = l3.length)
    (hK : ∀ I inv mid ks s', TIter C ad I (List.zipWith (fun a bs => a :: bs) l1 (List.zipWith (fun a b => [a, b]) l2 l3)) (fun st' => dep1 st' ∧ dep2 st' ∧ dep3 st') inv mid → inv 0 ks → Same s s' → SR (C.kept (ks ++ C.kp)) ad st s'.heap → K (.ref I) s') : wpAny C.M C.A (call (.type "zip") [w1, w2, w3]) K No s := by
  obtain ⟨inv1, o1, f1, n1, d1, p1⟩ := h1 s ad w1 hs r1
  obtain ⟨inv2, o2, f2, n2, d2, p2⟩ := h2 s ad w2 hs r2
  obtain ⟨inv3, o3, f3, n3, d3, p3⟩ := h3 s ad w3 hs r3
  refine callType_newIn F.called_zip (by decide) (typeCall_zip3 _ _ _) (newCall_zip3 _ _ _) (fun obj => args_init4 obj _ _ _) F.entry_zip_new meets_zip3 ⟨p1, p2, p3, ?_⟩
  have S1 := hs.keep o1 f1
  have S2 := SR.keep (C := C.kept _) S1 o2 f2
  have S2' := SR.keep (C := C.kept _) S2 o3 f3
  have S3 := SR.keep (C := C.kept _) S2' (tob [.ref s.heap.objs.size, .ref (s.heap.push o1).objs.size, .ref ((s.heap.push o1).push o2).objs.size])
  have S4 := SR.keep (C := C.kept _) S3 (tob [.none, .none, .none])
  have S5 := SR.keep (C := C.kept _) S4 (zob .none (((s.heap.push o1).push o2).push o3).objs.size ((((s.heap.push o1).push o2).push o3).push (tob [.ref s.heap.objs.size, .ref (s.heap.push o1).objs.size, .ref ((s.heap.push o1).push o2).objs.size])).objs.size)
  have S6 := SR.perm S5 (.cons _ ((List.Perm.swap _ _ _).trans (.cons _ (.cons _ ((List.Perm.swap _ _ _).trans ((List.Perm.cons _ (List.Perm.swap _ _ _)).trans (List.Perm.swap _ _ _)))))))
  refine ⟨⟨_, SR.kpHd S6, rfl⟩, ?_⟩
  generalize ((((s.heap.push o1).push o2).push o3).push (tob [.ref s.heap.objs.size, .ref (s.heap.push o1).objs.size, .ref ((s.heap.push o1).push o2).objs.size])).objs.size = TO at S6 ⊢
  generalize (((s.heap.push o1).push o2).push o3).objs.size = TI at S6 ⊢
  generalize ((s.heap.push o1).push o2).objs.size = i3 at S6 ⊢
  generalize (s.heap.push o1).objs.size = i2 at S6 ⊢
  generalize s.heap.objs.size = i1 at S6 ⊢
  generalize (((((s.heap.push o1).push o2).push o3).push (tob [.ref i1, .ref i2, .ref i3])).push (tob [.none, .none, .none])).objs.size = z at S6 ⊢
  refine hK z (fun i ks => ∃ a1 a2 a3 o1 o2 o3, ks = [(z, zob .none TI TO), (TI, tob [.ref i1, .ref i2, .ref i3]), (TO, tob [a1, a2, a3]), (i1, o1), (i2, o2), (i3, o3)] ∧ inv1 i o1 ∧ inv2 i o2 ∧ inv3 i o3)
    (fun i T ks => ∃ a1 a2 a3 o1 o2 o3, ks = [(z, zob (rawInt T) TI TO), (TI, tob [.ref i1, .ref i2, .ref i3]), (TO, tob [a1, a2, a3]), (i1, o1), (i2, o2), (i3, o3)] ∧ inv1 i o1 ∧ inv2 i o2 ∧ inv3 i o3) _ _ ⟨?_, ?_, ?_, ?_⟩ ⟨_, _, _, _, _, _, rfl, n1, n2, n3⟩ (Same.hp s _) S6
  · rintro C₂ ⟨_, _, hA⟩ i vs ks kp st' s' ad' hv ⟨a1, a2, a3, q1, q2, q3, rfl, j1, j2, j3⟩ ⟨t1, t2, t3⟩ px hs' K' hK'
    obtain ⟨v1, v2, v3, rfl, e1, e2, e3⟩ := zw3 hv
    exact zip3_next (d1 i1) (d2 i2) (d3 i3) e1 j1 t1 e2 j2 t2 e3 j3 t3 px hs' fun T s2 u1 u2 u3 q1' q2' q3' es m1 m2 m3 hs2 => hK' T s2 _ es ⟨u1, u2, u3, q1', q2', q3', rfl, m1, m2, m3⟩ hs2
  · rintro C₂ i T ks kp st' s' ad' es n tp ⟨a1, a2, a3, q1, q2, q3, rfl, j1, j2, j3⟩ hs' K' hK'
    refine wpAny_letOwnedTupleGo_zip (SR.kpHd hs') fun h' hz' hsb => hK' _ _ (Same.hp s' h') ⟨a1, a2, a3, q1, q2, q3, rfl, j1, j2, j3⟩ (SR.touch hs' (fun b o hb e => hsb.extBut b o hb e) hz')
  · rintro C₂ ⟨_, _, hA⟩ ks kp st' s' ad' ⟨a1, a2, a3, q1, q2, q3, rfl, j1, j2, j3⟩ ⟨t1, t2, t3⟩ px hs' K' hK'
    refine zip3_done (by rw [hA]; exact hh) (d1 i1) ?_ t1 px hs' hK'
    rw [List.length_zipWith, List.length_zipWith, ← hl', Nat.min_self, ← hl, Nat.min_self] at j1
    exact j1
  · rintro C₂ i ks kp st' s' ad' ⟨a1, a2, a3, q1, q2, q3, rfl, j1, j2, j3⟩ hs' K' hK'
    exact wpAny_pyIter_zip (SR.kpHd hs') hK'
theorem zv_zip3 {e1 e2 e3 : Expr} {Q : St → List (List V) → (St → Prop) → Prop} (G : Gd C sc lv) (hh : C.A.handled = none) (hz : Blt C "zip" (.type "zip"))
    (h : AV C pos [e1, e2, e3] st (fun vs st1 => ∃ v1 v2 v3 l1 l2 l3 dep1 dep2 dep3, vs = [v1, v2, v3] ∧ SrcOf C v1 st1 l1 dep1 ∧ SrcOf C v2 st1 l2 dep2 ∧ SrcOf C v3 st1 l3 dep3 ∧ l1.length = l2.length ∧ l2.length = l3.length ∧ Q st1 (List.zipWith (fun a bs => a :: bs) l1 (List.zipWith (fun a b => [a, b]) l2 l3)) (fun st' => dep1 st' ∧ dep2 st' ∧ dep3 st')))
    (hl : sc.names.lookup (Str.ofString "zip") = some .globalImplicit := by rfl)
    (hst : starEach [e1, e2, e3] C.env = (false, eval e1 C.env) :: starEach [e2, e3] C.env := by rfl) (hp : (starEach [e1, e2, e3] C.env).any (·.1) = false := by rfl) : ZV C (.Call (.Name "zip" px) [e1, e2, e3] [] pos) st Q := .mk fun s ad hs K hK => by
  refine wpAny_Call_Name_kw (((ev_builtin (pos := px) (Q := fun f st1 => f = .fix (.type "zip") ∧ st1 = st) G hz ⟨rfl, rfl⟩ hl).go s ad hs).run _ fun f st1 s1 ad1 w q1 e1' p1 hs1 r1 => ?_)
  obtain ⟨rfl, rfl⟩ := q1
  cases r1
  refine PyProof.Rows.callWith_type (plain_backTo hp) ?_
  have := h.go s1 ad1 hs1
  revert this
  show At C ad1 s1 VRs (spliced (backTo pos (starEach [e1, e2, e3] C.env))) _ → _
  rw [hst]
  intro q1
  refine evalArgs_plain (q1.run _ fun vs st2 s2 ad2 ws q2 e2' p2 hs2 r2 => ?_)
  obtain ⟨v1, v2, v3, l1, l2, l3, dep1, dep2, dep3, rfl, h1, h2, h3, hl1, hl2, hq⟩ := q2
  match ws, r2 with
  | [w1, w2, w3], .cons r1 (.cons r2 (.cons r3 .nil)) =>
    exact call_zip3 hh hs2 r1 r2 r3 h1 h2 h3 hl1 hl2 fun I inv mid ks s' ti hi es hs' => hK _ _ _ I inv mid ks s' ad2 hq ti hi (e1'.trans (e2'.trans es)) (p1.trans p2) hs'
end
end Mine
namespace Mine
end Mine
namespace Mine
section
variable {C : Cx} {sc : Scope} {lv : Nat} {st : St} {pos px : Pos} {ad : List Addr} {Q : V → St → Prop}
/-- a new object at the heap's end comes into the store -/
theorem SR.adoptNew {h h' : Heap} {o : O} {ob : Obj} (hs : SR C ad st h) (hk : ∀ b o, h.get? b = some o → h'.get? b = some o) (hg : h'.get? h.objs.size = some ob) (ho : OR (ad ++ [h.objs.size]) o ob) : SR C (ad ++ [h.objs.size]) (st.add o) h' := by
  have hs' := hs.grown hk
  have hll : C.env.locals < h.objs.size := by
    obtain ⟨⟨gg, hgg, m, news, F, _⟩, _⟩ := hs
    exact F.ns.lt
  have hfr : C.h₀.get? h.objs.size = none := by
    cases q : C.h₀.get? h.objs.size with
    | none => rfl
    | some ob =>
      obtain ⟨⟨gg, hgg, m, news, F, _⟩, _⟩ := hs
      obtain ⟨sl, q'⟩ := hgg.slot _ _ q
      exact absurd (Heap.lt_size (F.keep _ _ q')) (Nat.lt_irrefl _)
  refine hs'.adoptO hg (Nat.ne_of_gt hll) hfr (fun hm => ?_) ho
  obtain ⟨⟨gg, hgg, m, news, F, N, c, _⟩, _⟩ := hs
  rw [← c, ← List.map_append] at hm
  obtain ⟨p, hp, e⟩ := List.mem_map.mp hm
  have := Heap.lt_size (N p hp).1
  rw [e] at this
  exact Nat.lt_irrefl _ this
theorem ints_from {P : Nat → Value → Prop} {ns : List Int} {acc : Array Value} (h : ItemsOf P acc ns.length) (hP : ∀ i v, P i v → ∃ (n : Int) (t : Tok), ns[i]? = some n ∧ v = Value.int n t) : VRs ad (ns.map V.int) acc.toList := by
  have key : ∀ (ns : List Int) (ws : List Value), ws.length = ns.length → (∀ (i : Nat) v, ws[i]? = some v → ∃ (n : Int) (t : Tok), ns[i]? = some n ∧ v = Value.int n t) → VRs ad (ns.map V.int) ws := by
    intro ns
    induction ns with
    | nil => intro ws hl _; rw [List.length_eq_zero_iff.mp hl]; exact .nil
    | cons n ns ih =>
      intro ws hl hw
      match ws, hl with
      | w :: ws, hl =>
        obtain ⟨n', t, e1, e2⟩ := hw 0 w rfl
        cases e1
        exact .cons ⟨t, e2⟩ (ih ws (by simpa using hl) fun i v q => hw (i + 1) v q)
  refine key ns acc.toList (by simp [h.1]) fun i v q => hP i v (h.2 i v (by simpa using q))
end
end Mine
namespace Mine
end Mine
namespace Mine
end Mine
namespace Mine
end Mine
namespace Mine
/-! the sort of the model, with the order of like keys -/
theorem lex1 {k1 k2 : Int} {o1 o2 N : Nat} (h : k1 < k2) (ho : o1 < N) : k1 * N + o1 < k2 * N + o2 := by
  have : (k1 + 1) * (N : Int) ≤ k2 * N := Int.mul_le_mul_of_nonneg_right (by omega) (by omega)
  rw [Int.add_mul] at this
  omega
theorem lex2 {k1 k2 : Int} {o1 o2 N : Nat} (h : k1 ≤ k2) (ho : o1 < o2) (hN : o1 < N) : k1 * N + o1 < k2 * N + o2 := by
  by_cases e : k1 = k2
  · subst e; omega
  · exact lex1 (by omega) hN
/-- an item's rank: its key, then where it came from -/
def Xp (org : Keyed → Nat) (N : Nat) (p : Keyed) : Int := numOf p.1 * N + org p
def OA (org : Keyed → Nat) (xs : Array Keyed) (i : Nat) : Nat := match xs[i]? with
  | some p => org p
  | none => 0
def XA (org : Keyed → Nat) (N : Nat) (xs : Array Keyed) (i : Nat) : Int := K xs i * N + OA org xs i
theorem OA_congr {org : Keyed → Nat} {xs ys : Array Keyed} {i j : Nat} (h : xs[i]? = ys[j]?) : OA org xs i = OA org ys j := by unfold OA; rw [h]
theorem XA_congr {org : Keyed → Nat} {N : Nat} {xs ys : Array Keyed} {i j : Nat} (h : xs[i]? = ys[j]?) : XA org N xs i = XA org N ys j := by unfold XA; rw [K_congr h, OA_congr h]
/-- where the items come from -/
structure Og (org : Keyed → Nat) (a₀ : Array Keyed) : Prop where
  keys : IntKeys a₀
  at' : ∀ i p, a₀[i]? = some p → org p = i
structure SB (a₀ : Array Keyed) (pd : Array (Nat × Nat × Nat)) (st : SortSt) : Prop where
  perm : (arrOf st).Perm a₀
  kind : kindOf st = oneType'
  failed : failedOf st = none
  pend : pendingOf st = pd
theorem SB.size {a₀ : Array Keyed} {pd} {st : SortSt} (h : SB a₀ pd st) : (arrOf st).size = a₀.size := h.perm.size_eq
theorem SB.setArr {a₀ : Array Keyed} {pd} {st : SortSt} (h : SB a₀ pd st) {xs : Array Keyed} (hp : xs.Perm (arrOf st)) : SB a₀ pd (setArr st xs) := ⟨hp.trans h.perm, h.kind, h.failed, h.pend⟩
theorem perm_int {a₀ xs : Array Keyed} (hp : xs.Perm a₀) (h0 : IntKeys a₀) {p : Keyed} (hm : p ∈ xs.toList) : ∃ n t, p.1 = .int n t := h0 _ ((Array.perm_iff_toList_perm.mp hp).mem_iff.mp hm)
theorem SB.at {a₀ : Array Keyed} {pd} {st : SortSt} (h : SB a₀ pd st) (h0 : IntKeys a₀) {i : Nat} (hi : i < a₀.size) : ∃ t q, (arrOf st)[i]? = some (.int (K (arrOf st) i) t, q) := by
  have hi' : i < (arrOf st).size := by rw [h.size]; exact hi
  obtain ⟨n, t, hn⟩ := perm_int h.perm h0 (p := (arrOf st)[i]) (by simp)
  refine ⟨t, (arrOf st)[i].2, ?_⟩
  have e : (arrOf st)[i]? = some (arrOf st)[i] := getElem?_pos _ i hi'
  have e2 : (arrOf st)[i] = (.int n t, (arrOf st)[i].2) := Prod.ext hn rfl
  unfold K
  rw [e, e2]
  rfl
theorem Og.lt {org : Keyed → Nat} {a₀ xs : Array Keyed} (g : Og org a₀) (hp : xs.Perm a₀) {i : Nat} (hi : i < a₀.size) : OA org xs i < a₀.size := by
  have hi' : i < xs.size := by rw [hp.size_eq]; exact hi
  have hm : xs[i] ∈ a₀.toList := (Array.perm_iff_toList_perm.mp hp).mem_iff.mp (by simp)
  obtain ⟨j, hj⟩ := List.mem_iff_getElem?.mp hm
  have hj' : a₀[j]? = some xs[i] := by simpa using hj
  unfold OA
  rw [getElem?_pos xs i hi']
  show org xs[i] < _
  rw [g.at' _ _ hj']
  exact (Array.getElem?_eq_some_iff.mp hj').1
section
variable {prog : Program} {w : World} {A : Around} {E : Value → Shared → Prop} {s : Shared} {a₀ : Array Keyed} {pd : Array (Nat × Nat × Nat)} {org : Keyed → Nat}
theorem ltB {st : SortSt} {i j : Nat} {Q : Option Bool → SortSt → Prop} (hB : SB a₀ pd st) (h0 : IntKeys a₀) (hi : i < a₀.size) (hj : j < a₀.size)
    (h : Q (some (decide (K (arrOf st) i < K (arrOf st) j))) st) : wpS (model prog w) A E s (ltAt' i j) Q st := by
  obtain ⟨t, p, e1⟩ := hB.at h0 hi
  obtain ⟨u, q, e2⟩ := hB.at h0 hj
  exact wpS_ltAt hB.kind e1 e2 h
/-- a run of m items from lo on: sorted; behind it all is as it was -/
structure Rn (org : Keyed → Nat) (a₀ a₁ : Array Keyed) (lo m : Nat) (xs : Array Keyed) : Prop where
  srt : ∀ i j, lo ≤ i → i < j → j < lo + m → XA org a₀.size xs i < XA org a₀.size xs j
  seg : ∀ i, lo ≤ i → i < lo + m → lo ≤ OA org xs i ∧ OA org xs i < lo + m
  fresh : ∀ i, lo + m ≤ i → i < a₀.size → OA org xs i = i
  low : ∀ i, i < lo → xs[i]? = a₁[i]?
theorem sort_bin {st : SortSt} {a₁ : Array Keyed} {lo n ok : Nat} {Q : Bool → SortSt → Prop} (g : Og org a₀) (hn : lo + n ≤ a₀.size) (hok1 : 1 ≤ ok) (hok : ok ≤ n) (hB : SB a₀ pd st) (hs : Rn org a₀ a₁ lo ok (arrOf st))
    (h : ∀ st', SB a₀ pd st' → Rn org a₀ a₁ lo n (arrOf st') → Q true st') : wpS (model prog w) A E s (binarySort' lo n ok) Q st := by
  rw [binarySort'_eq]
  refine wpS_bind (wpS_mono (wpS_forRange (I := fun k c st' => c = (none, ()) ∧ SB a₀ pd st' ∧ Rn org a₀ a₁ lo (min k n) (arrOf st'))
    (Q := fun c st' => c = (none, ()) ∧ SB a₀ pd st' ∧ Rn org a₀ a₁ lo n (arrOf st')) ?step ?fin ?init) ?post)
  case post =>
    rintro c st' ⟨rfl, hB', hs'⟩
    exact wpS_pure (h st' hB' hs')
  case init =>
    refine ⟨rfl, hB, ?_⟩
    rw [show min (max ok 1) n = ok by omega]
    exact hs
  case fin =>
    rintro c st' ⟨hc, hB', hs'⟩
    refine ⟨hc, hB', ?_⟩
    rwa [show min (max (max ok 1) n) n = n by omega] at hs'
  case step =>
    rintro k c st' hak hkn ⟨rfl, hB', hs'⟩
    rw [show min k n = k by omega] at hs'
    have hk : lo + k < a₀.size := by omega
    have hfk := hs'.fresh (lo + k) (by omega) hk
    have le_of : ∀ i j, lo ≤ i → i ≤ j → j < lo + k → K (arrOf st') i ≤ K (arrOf st') j := by
      intro i j h1 h2 h3
      by_cases e : i = j
      · subst e; exact Int.le_refl _
      · have := hs'.srt i j h1 (by omega) h3
        have hoj := g.lt hB'.perm (show j < a₀.size by omega)
        rcases (by omega : K (arrOf st') j < K (arrOf st') i ∨ K (arrOf st') i ≤ K (arrOf st') j) with q | q
        · have := lex1 (o2 := OA org (arrOf st') i) q hoj
          unfold XA at *; omega
        · exact q
    refine wpS_bind (wpS_mono (wpS_forRange (I := fun x c st'' => st'' = st' ∧ ∃ l r, c = (none, l, r) ∧ l ≤ r ∧ r ≤ k ∧ r - l ≤ k - x ∧
        (∀ i, lo ≤ i → i < lo + l → K (arrOf st') i ≤ K (arrOf st') (lo + k)) ∧ (∀ i, lo + r ≤ i → i < lo + k → K (arrOf st') (lo + k) < K (arrOf st') i))
      (Q := fun c st'' => st'' = st' ∧ ∃ l r, c = (none, l, r) ∧ l ≤ k ∧
        (∀ i, lo ≤ i → i < lo + l → K (arrOf st') i ≤ K (arrOf st') (lo + k)) ∧ (∀ i, lo + l ≤ i → i < lo + k → K (arrOf st') (lo + k) < K (arrOf st') i)) ?istep ?ifin ?iinit) ?ipost)
    case iinit => exact ⟨rfl, 0, k, rfl, by omega, by omega, by omega, fun i hi => by omega, fun i h1 h2 => by omega⟩
    case ifin =>
      rintro c st'' ⟨rfl, l, r, rfl, hlr, hrk, hm, hlo, hhi⟩
      have : l = r := by omega
      subst this
      exact ⟨rfl, l, l, rfl, hrk, hlo, hhi⟩
    case istep =>
      rintro x c st'' _ hxk ⟨rfl, l, r, rfl, hlr, hrk, hm, hlo, hhi⟩
      dsimp only
      by_cases hge : l ≥ r
      · rw [if_pos hge]
        have : l = r := by omega
        subst this
        exact wpS_pure ⟨rfl, l, l, rfl, hrk, hlo, hhi⟩
      · rw [if_neg hge]
        refine wpS_bind (ltB hB' g.keys hk (by omega) ?_)
        by_cases hless : K (arrOf st'') (lo + k) < K (arrOf st'') (lo + (l + r) / 2)
        · simp only [hless, decide_true, if_true]
          refine wpS_pure ⟨rfl, l, (l + r) / 2, rfl, by omega, by omega, by omega, hlo, fun i h1 h2 => ?_⟩
          exact Int.lt_of_lt_of_le hless (le_of _ _ (by omega) h1 h2)
        · simp only [hless, decide_false, Bool.false_eq_true, if_false]
          refine wpS_pure ⟨rfl, (l + r) / 2 + 1, r, rfl, by omega, by omega, by omega, fun i h1 h2 => ?_, hhi⟩
          exact Int.le_trans (le_of i (lo + (l + r) / 2) h1 (by omega) (by omega)) (Int.not_lt.mp hless)
    case ipost =>
      rintro c st'' ⟨rfl, l, r, rfl, hlk, hlo, hhi⟩
      show wpS _ _ _ _ (do moveDown' (lo + k) (lo + l); pure (ForInStep.yield (none, ()))) _ _
      rw [moveDown'_eq]
      refine wpS_bind (wpS_modify (wpS_pure ⟨rfl, hB'.setArr (bubble_perm _ _ _), ?_⟩))
      rw [show min (k + 1) n = k + 1 by omega]
      have hks : lo + k < (arrOf st'').size := by rw [hB'.size]; exact hk
      have hget := getElem?_bubble hks (lo + k - (lo + l)) (by omega)
      rw [show lo + k - (lo + k - (lo + l)) = lo + l by omega] at hget
      show Rn org a₀ a₁ lo (k + 1) (bubble (arrOf st'') (lo + k) (lo + k - (lo + l)))
      generalize bubble (arrOf st'') (lo + k) (lo + k - (lo + l)) = ys at hget
      have hat : ∀ i, ∃ j, ys[i]? = (arrOf st'')[j]? ∧ ((i = lo + l ∧ j = lo + k) ∨ (lo + l < i ∧ i ≤ lo + k ∧ j = i - 1) ∨ ((i < lo + l ∨ lo + k < i) ∧ j = i)) := by
        intro i
        have q := hget i
        by_cases h1 : i = lo + l
        · rw [if_pos h1] at q; exact ⟨_, q, .inl ⟨h1, rfl⟩⟩
        · rw [if_neg h1] at q
          by_cases h2 : lo + l < i ∧ i ≤ lo + k
          · rw [if_pos h2] at q; exact ⟨_, q, .inr (.inl ⟨h2.1, h2.2, rfl⟩)⟩
          · rw [if_neg h2] at q; exact ⟨_, q, .inr (.inr ⟨by omega, rfl⟩)⟩
      refine ⟨fun i j h1 h2 h3 => ?_, fun i h1 h2 => ?_, fun i h1 h2 => ?_, fun i h1 => ?_⟩
      · obtain ⟨i', e1, c1⟩ := hat i
        obtain ⟨j', e2, c2⟩ := hat j
        rw [XA_congr e1, XA_congr e2]
        rcases c1 with ⟨c1, rfl⟩ | ⟨c1, c1', rfl⟩ | ⟨c1, rfl⟩ <;> rcases c2 with ⟨c2, rfl⟩ | ⟨c2, c2', rfl⟩ | ⟨c2, rfl⟩ <;> first
          | (exfalso; omega)
          | exact hs'.srt _ _ (by omega) (by omega) (by omega)
          | exact lex1 (hhi _ (by omega) (by omega)) (g.lt hB'.perm hk)
          | (refine lex2 (hlo _ (by omega) (by omega)) ?_ (g.lt hB'.perm (by omega)); rw [hfk]; exact (hs'.seg _ (by omega) (by omega)).2)
      · obtain ⟨i', e1, c1⟩ := hat i
        rw [OA_congr e1]
        rcases c1 with ⟨c1, rfl⟩ | ⟨c1, c1', rfl⟩ | ⟨c1, rfl⟩
        · rw [hfk]; omega
        · have := hs'.seg (i - 1) (by omega) (by omega); omega
        · by_cases q : i' < lo + k
          · have := hs'.seg i' h1 q; omega
          · omega
      · obtain ⟨i', e1, c1⟩ := hat i
        rw [OA_congr e1]
        rcases c1 with ⟨c1, rfl⟩ | ⟨c1, c1', rfl⟩ | ⟨c1, rfl⟩
        · omega
        · omega
        · exact hs'.fresh i' (by omega) h2
      · obtain ⟨i', e1, c1⟩ := hat i
        rw [e1]
        rcases c1 with ⟨c1, rfl⟩ | ⟨c1, c1', rfl⟩ | ⟨c1, rfl⟩
        · omega
        · omega
        · exact hs'.low i' h1
end
end Mine
namespace Mine
/-- a run that falls, without like keys at its end but neq + 1 of them, in their own order -/
structure Dn (org : Keyed → Nat) (a₀ a₁ : Array Keyed) (lo x neq : Nat) (xs : Array Keyed) : Prop where
  dec : ∀ i j, lo ≤ i → i < j → j < lo + x → i < lo + x - (neq + 1) → XA org a₀.size xs j < XA org a₀.size xs i
  eq : ∀ i j, lo + x - (neq + 1) ≤ i → i < j → j < lo + x → K xs i = K xs j ∧ XA org a₀.size xs i < XA org a₀.size xs j
  strict : ∀ i j, lo ≤ i → i < lo + x - (neq + 1) → lo + x - (neq + 1) ≤ j → j < lo + x → K xs j < K xs i
  seg : ∀ i, lo ≤ i → i < lo + x → lo ≤ OA org xs i ∧ OA org xs i < lo + x
  fresh : ∀ i, lo + x ≤ i → i < a₀.size → OA org xs i = i
  low : ∀ i, i < lo → xs[i]? = a₁[i]?
structure Dd (org : Keyed → Nat) (a₀ a₁ : Array Keyed) (lo x : Nat) (xs : Array Keyed) : Prop where
  dec : ∀ i j, lo ≤ i → i < j → j < lo + x → XA org a₀.size xs j < XA org a₀.size xs i
  seg : ∀ i, lo ≤ i → i < lo + x → lo ≤ OA org xs i ∧ OA org xs i < lo + x
  fresh : ∀ i, lo + x ≤ i → i < a₀.size → OA org xs i = i
  low : ∀ i, i < lo → xs[i]? = a₁[i]?
theorem K_of_X {org : Keyed → Nat} {N : Nat} {xs : Array Keyed} {i j : Nat} (h : XA org N xs i < XA org N xs j) (hj : OA org xs j < N) : K xs i ≤ K xs j := by
  rcases (by omega : K xs j < K xs i ∨ K xs i ≤ K xs j) with q | q
  · have := lex1 (o2 := OA org xs i) q hj
    unfold XA at h; omega
  · exact q
theorem mirror_at {xs : Array Keyed} {i j : Nat} (hj : j ≤ xs.size) (k : Nat) : ∃ k', (mirror xs i j ((j - i) / 2))[k]? = xs[k']? ∧ ((i ≤ k ∧ k < j ∧ k' = i + j - 1 - k) ∨ ((k < i ∨ j ≤ k) ∧ k' = k)) := by
  have e := getElem?_mirror_all (i := i) hj k
  by_cases h1 : i ≤ k ∧ k < j
  · rw [if_pos h1] at e; exact ⟨_, e, .inl ⟨h1.1, h1.2, rfl⟩⟩
  · rw [if_neg h1] at e; exact ⟨_, e, .inr ⟨by omega, rfl⟩⟩
section
variable {prog : Program} {w : World} {A : Around} {E : Value → Shared → Prop} {s : Shared} {a₀ a₁ xs : Array Keyed} {pd : Array (Nat × Nat × Nat)} {org : Keyed → Nat} {lo n x neq nrem : Nat}
theorem Dn.flip (h : Dn org a₀ a₁ lo x neq xs) (hx : neq + 1 ≤ x) (hs : lo + x ≤ xs.size) (hg : ∀ i, i < a₀.size → OA org xs i < a₀.size) (ha : xs.size = a₀.size) :
    Dd org a₀ a₁ lo x (mirror xs (lo + x - (neq + 1)) (lo + x) ((lo + x - (lo + x - (neq + 1))) / 2)) ∧ (∀ i, lo + x ≤ i → (mirror xs (lo + x - (neq + 1)) (lo + x) ((lo + x - (lo + x - (neq + 1))) / 2))[i]? = xs[i]?) ∧ K (mirror xs (lo + x - (neq + 1)) (lo + x) ((lo + x - (lo + x - (neq + 1))) / 2)) (lo + x - 1) = K xs (lo + x - 1) := by
  have hat := mirror_at (xs := xs) (i := lo + x - (neq + 1)) (j := lo + x) hs
  generalize mirror xs (lo + x - (neq + 1)) (lo + x) ((lo + x - (lo + x - (neq + 1))) / 2) = ys at hat
  refine ⟨⟨fun i j h1 h2 h3 => ?_, fun i h1 h2 => ?_, fun i h1 h2 => ?_, fun i h1 => ?_⟩, fun i h1 => ?_, ?_⟩
  · obtain ⟨i', e1, c1⟩ := hat i
    obtain ⟨j', e2, c2⟩ := hat j
    rw [XA_congr e1, XA_congr e2]
    rcases c1 with ⟨c1, c1', rfl⟩ | ⟨c1, rfl⟩ <;> rcases c2 with ⟨c2, c2', rfl⟩ | ⟨c2, rfl⟩
    · exact (h.eq _ _ (by omega) (by omega) (by omega)).2
    · omega
    · exact h.dec _ _ (by omega) (by omega) (by omega) (by omega)
    · exact h.dec _ _ (by omega) (by omega) (by omega) (by omega)
  · obtain ⟨i', e1, c1⟩ := hat i
    rw [OA_congr e1]
    rcases c1 with ⟨c1, c1', rfl⟩ | ⟨c1, rfl⟩
    · exact h.seg _ (by omega) (by omega)
    · exact h.seg _ (by omega) (by omega)
  · obtain ⟨i', e1, c1⟩ := hat i
    rw [OA_congr e1]
    rcases c1 with ⟨c1, c1', rfl⟩ | ⟨c1, rfl⟩
    · omega
    · exact h.fresh _ (by omega) (by omega)
  · obtain ⟨i', e1, c1⟩ := hat i
    rw [e1]
    rcases c1 with ⟨c1, c1', rfl⟩ | ⟨c1, rfl⟩
    · omega
    · exact h.low _ (by omega)
  · obtain ⟨i', e1, c1⟩ := hat i
    rw [e1]
    rcases c1 with ⟨c1, c1', rfl⟩ | ⟨c1, rfl⟩
    · omega
    · rfl
  · obtain ⟨i', e1, c1⟩ := hat (lo + x - 1)
    rw [K_congr e1]
    rcases c1 with ⟨c1, c1', rfl⟩ | ⟨c1, rfl⟩
    · by_cases q : neq = 0
      · congr 1; omega
      · exact (h.eq _ _ (by omega) (by omega) (by omega)).1
    · rfl
theorem Dn.plain (h : Dn org a₀ a₁ lo x 0 xs) : Dd org a₀ a₁ lo x xs := ⟨fun i j h1 h2 h3 => h.dec i j h1 h2 h3 (by omega), h.seg, h.fresh, h.low⟩
/-- one more, of a lesser key -/
theorem Dd.more (h : Dd org a₀ a₁ lo x xs) (hx : 1 ≤ x) (hlt : K xs (lo + x) < K xs (lo + x - 1)) (hx2 : lo + x < a₀.size) (hg : ∀ i, i < a₀.size → OA org xs i < a₀.size) : Dn org a₀ a₁ lo (x + 1) 0 xs := by
  have hf := h.fresh (lo + x) (by omega) hx2
  have kle : ∀ i, lo ≤ i → i < lo + x → K xs (lo + x - 1) ≤ K xs i := by
    intro i h1 h2
    by_cases e : i = lo + x - 1
    · subst e; exact Int.le_refl _
    · exact K_of_X (h.dec i (lo + x - 1) h1 (by omega) (by omega)) (hg i (by omega))
  refine ⟨fun i j h1 h2 h3 h4 => ?_, fun i j h1 h2 h3 => by omega, fun i j h1 h2 h3 h4 => ?_, fun i h1 h2 => ?_, fun i h1 h2 => h.fresh i (by omega) h2, h.low⟩
  · by_cases e : j = lo + x
    · subst e
      exact lex1 (Int.lt_of_lt_of_le hlt (kle i h1 (by omega))) (hg _ hx2)
    · exact h.dec i j h1 h2 (by omega)
  · have e : j = lo + x := by omega
    subst e
    exact Int.lt_of_lt_of_le hlt (kle i h1 (by omega))
  · by_cases e : i = lo + x
    · subst e; omega
    · have := h.seg i h1 (by omega); omega
theorem Dd.turn (h : Dd org a₀ a₁ lo x xs) (hs : lo + x ≤ xs.size) : Rn org a₀ a₁ lo x (mirror xs lo (lo + x) ((lo + x - lo) / 2)) := by
  have hat := mirror_at (xs := xs) (i := lo) (j := lo + x) hs
  generalize mirror xs lo (lo + x) ((lo + x - lo) / 2) = ys at hat
  refine ⟨fun i j h1 h2 h3 => ?_, fun i h1 h2 => ?_, fun i h1 h2 => ?_, fun i h1 => ?_⟩
  · obtain ⟨i', e1, c1⟩ := hat i
    obtain ⟨j', e2, c2⟩ := hat j
    rw [XA_congr e1, XA_congr e2]
    rcases c1 with ⟨c1, c1', rfl⟩ | ⟨c1, rfl⟩ <;> rcases c2 with ⟨c2, c2', rfl⟩ | ⟨c2, rfl⟩
    · exact h.dec _ _ (by omega) (by omega) (by omega)
    all_goals omega
  · obtain ⟨i', e1, c1⟩ := hat i
    rw [OA_congr e1]
    rcases c1 with ⟨c1, c1', rfl⟩ | ⟨c1, rfl⟩
    · exact h.seg _ (by omega) (by omega)
    · omega
  · obtain ⟨i', e1, c1⟩ := hat i
    rw [OA_congr e1]
    rcases c1 with ⟨c1, c1', rfl⟩ | ⟨c1, rfl⟩
    · omega
    · exact h.fresh _ (by omega) (by omega)
  · obtain ⟨i', e1, c1⟩ := hat i
    rw [e1]
    rcases c1 with ⟨c1, c1', rfl⟩ | ⟨c1, rfl⟩
    · omega
    · exact h.low _ (by omega)
theorem Rn.turn (h : Rn org a₀ a₁ lo x xs) (hs : lo + x ≤ xs.size) (hx : 1 ≤ x) : Dd org a₀ a₁ lo x (mirror xs lo (lo + x) ((lo + x - lo) / 2)) ∧ (∀ i, lo + x ≤ i → (mirror xs lo (lo + x) ((lo + x - lo) / 2))[i]? = xs[i]?) ∧ K (mirror xs lo (lo + x) ((lo + x - lo) / 2)) (lo + x - 1) = K xs lo := by
  have hat := mirror_at (xs := xs) (i := lo) (j := lo + x) hs
  generalize mirror xs lo (lo + x) ((lo + x - lo) / 2) = ys at hat
  refine ⟨⟨fun i j h1 h2 h3 => ?_, fun i h1 h2 => ?_, fun i h1 h2 => ?_, fun i h1 => ?_⟩, fun i h1 => ?_, ?_⟩
  · obtain ⟨i', e1, c1⟩ := hat i
    obtain ⟨j', e2, c2⟩ := hat j
    rw [XA_congr e1, XA_congr e2]
    rcases c1 with ⟨c1, c1', rfl⟩ | ⟨c1, rfl⟩ <;> rcases c2 with ⟨c2, c2', rfl⟩ | ⟨c2, rfl⟩
    · exact h.srt _ _ (by omega) (by omega) (by omega)
    all_goals omega
  · obtain ⟨i', e1, c1⟩ := hat i
    rw [OA_congr e1]
    rcases c1 with ⟨c1, c1', rfl⟩ | ⟨c1, rfl⟩
    · exact h.seg _ (by omega) (by omega)
    · omega
  · obtain ⟨i', e1, c1⟩ := hat i
    rw [OA_congr e1]
    rcases c1 with ⟨c1, c1', rfl⟩ | ⟨c1, rfl⟩
    · omega
    · exact h.fresh _ (by omega) (by omega)
  · obtain ⟨i', e1, c1⟩ := hat i
    rw [e1]
    rcases c1 with ⟨c1, c1', rfl⟩ | ⟨c1, rfl⟩
    · omega
    · exact h.low _ (by omega)
  · obtain ⟨i', e1, c1⟩ := hat i
    rw [e1]
    rcases c1 with ⟨c1, c1', rfl⟩ | ⟨c1, rfl⟩
    · omega
    · rfl
  · obtain ⟨i', e1, c1⟩ := hat (lo + x - 1)
    rw [K_congr e1]
    rcases c1 with ⟨c1, c1', rfl⟩ | ⟨c1, rfl⟩
    · congr 1; omega
    · omega
theorem Rn.step (h : Rn org a₀ a₁ lo x xs) (hx : 1 ≤ x) (hx2 : lo + x < a₀.size) (hle : ¬ K xs (lo + x) < K xs (lo + x - 1)) (hg : ∀ i, i < a₀.size → OA org xs i < a₀.size) : Rn org a₀ a₁ lo (x + 1) xs := by
  have hf := h.fresh (lo + x) (by omega) hx2
  have hs := h.seg (lo + x - 1) (by omega) (by omega)
  have hX : XA org a₀.size xs (lo + x - 1) < XA org a₀.size xs (lo + x) := lex2 (by omega) (by omega) (hg _ (by omega))
  refine ⟨fun i j h1 h2 h3 => ?_, fun i h1 h2 => ?_, fun i h1 h2 => h.fresh i (by omega) h2, h.low⟩
  · by_cases e : j = lo + x
    · subst e
      by_cases e' : i = lo + x - 1
      · subst e'; exact hX
      · exact Int.lt_trans (h.srt i (lo + x - 1) h1 (by omega) (by omega)) hX
    · exact h.srt i j h1 h2 (by omega)
  · by_cases e : i = lo + x
    · subst e; omega
    · have := h.seg i h1 (by omega); omega
/-- a loop along a run that rises, told by what a turn does -/
theorem run_asc {st : SortSt} {a : Nat} {Q : AscSt → SortSt → Prop} {f : Nat → AscSt → StateT SortSt Sem (ForInStep AscSt)} (g : Og org a₀) (hn : lo + nrem ≤ a₀.size) (ha : 1 ≤ a) (han : a ≤ nrem) (hB : SB a₀ pd st) (hs : Rn org a₀ a₁ lo a (arrOf st))
    (hf : ∀ x (R : ForInStep AscSt → SortSt → Prop), a ≤ x → x < nrem → (K (arrOf st) (lo + x) < K (arrOf st) (lo + x - 1) → R (.done (none, x)) st) → (¬ K (arrOf st) (lo + x) < K (arrOf st) (lo + x - 1) → R (.yield (none, x + 1)) st) →
      wpS (model prog w) A E s (f x (none, x)) R st)
    (h : ∀ n, a ≤ n → n ≤ nrem → Rn org a₀ a₁ lo n (arrOf st) → (n = nrem ∨ K (arrOf st) (lo + n) < K (arrOf st) (lo + n - 1)) → Q (none, n) st) :
    wpS (model prog w) A E s (forIn [a:nrem] ((none, a) : AscSt) f) Q st := by
  refine wpS_forRange (I := fun x c st' => st' = st ∧ c = (none, x) ∧ Rn org a₀ a₁ lo x (arrOf st)) ?step ?fin ⟨rfl, rfl, hs⟩
  case fin =>
    rintro c st' ⟨rfl, rfl, hs'⟩
    rw [show max a nrem = nrem by omega] at hs' ⊢
    exact h nrem han (Nat.le_refl _) hs' (.inl rfl)
  case step =>
    rintro x c st' hax hxn ⟨rfl, rfl, hs'⟩
    exact hf x _ hax hxn (fun hless => h x hax (by omega) hs' (.inr hless)) fun hless => ⟨rfl, rfl, hs'.step (by omega) (by omega) hless fun i hi => g.lt hB.perm hi⟩
/-- a loop along a run that falls, told by what a turn does -/
theorem run_desc {st : SortSt} {Q : DescSt → SortSt → Prop} {f : Nat → DescSt → StateT SortSt Sem (ForInStep DescSt)} (g : Og org a₀) (hn : lo + nrem ≤ a₀.size) (h1 : 1 ≤ n) (hnn : n ≤ nrem) (hB : SB a₀ pd st) (hs : Dn org a₀ a₁ lo n 0 (arrOf st))
    (hf : ∀ x neq st' (R : ForInStep DescSt → SortSt → Prop), SB a₀ pd st' → n ≤ x → x < nrem → neq + 1 ≤ x →
      (K (arrOf st') (lo + x) < K (arrOf st') (lo + x - 1) → neq > 0 → R (.yield (none, x + 1, 0)) (setArr st' (mirror (arrOf st') (lo + x - (neq + 1)) (lo + x) ((lo + x - (lo + x - (neq + 1))) / 2)))) →
      (K (arrOf st') (lo + x) < K (arrOf st') (lo + x - 1) → ¬ neq > 0 → R (.yield (none, x + 1, 0)) st') →
      (¬ K (arrOf st') (lo + x) < K (arrOf st') (lo + x - 1) → K (arrOf st') (lo + x - 1) < K (arrOf st') (lo + x) → R (.done (none, x, neq)) st') →
      (¬ K (arrOf st') (lo + x) < K (arrOf st') (lo + x - 1) → ¬ K (arrOf st') (lo + x - 1) < K (arrOf st') (lo + x) → R (.yield (none, x + 1, neq + 1)) st') → wpS (model prog w) A E s (f x (none, x, neq)) R st')
    (h : ∀ m neq st', SB a₀ pd st' → n ≤ m → m ≤ nrem → neq + 1 ≤ m → Dn org a₀ a₁ lo m neq (arrOf st') → Q (none, m, neq) st') : wpS (model prog w) A E s (forIn [n:nrem] ((none, n, 0) : DescSt) f) Q st := by
  refine wpS_forRange (I := fun x c st' => ∃ neq, c = (none, x, neq) ∧ SB a₀ pd st' ∧ neq + 1 ≤ x ∧ Dn org a₀ a₁ lo x neq (arrOf st')) ?step ?fin ⟨0, rfl, hB, by omega, hs⟩
  case fin =>
    rintro c st' ⟨neq, rfl, hB', hq, hs'⟩
    rw [show max n nrem = nrem by omega] at hs' hq ⊢
    exact h nrem neq st' hB' hnn (Nat.le_refl _) hq hs'
  case step =>
    rintro x c st' hax hxn ⟨neq, rfl, hB', hq, hs'⟩
    have hsz : lo + x ≤ (arrOf st').size := by rw [hB'.size]; omega
    have hgl : ∀ i, i < a₀.size → OA org (arrOf st') i < a₀.size := fun i hi => g.lt hB'.perm hi
    refine hf x neq st' _ hB' hax hxn hq (fun hless hneq => ?_) (fun hless hneq => ?_) (fun hless hlarger => ?_) (fun hless hlarger => ?_)
    · obtain ⟨f1, f2, f3⟩ := hs'.flip hq hsz hgl hB'.size
      have hB2 : SB a₀ pd (setArr st' (mirror (arrOf st') (lo + x - (neq + 1)) (lo + x) ((lo + x - (lo + x - (neq + 1))) / 2))) := hB'.setArr (mirror_perm _ _ _ _)
      refine ⟨0, rfl, hB2, by omega, f1.more (by omega) ?_ (by omega) fun i hi => g.lt hB2.perm hi⟩
      rw [f3, K_congr (f2 (lo + x) (Nat.le_refl _))]
      exact hless
    · have : neq = 0 := by omega
      subst this
      exact ⟨0, rfl, hB', by omega, hs'.plain.more (by omega) hless (by omega) hgl⟩
    · exact h x neq st' hB' hax (by omega) hq hs'
    · have heqx : K (arrOf st') (lo + x) = K (arrOf st') (lo + x - 1) := by omega
      have hf := hs'.fresh (lo + x) (by omega) (by omega)
      have keq : ∀ i, lo + x - (neq + 1) ≤ i → i < lo + x → K (arrOf st') i = K (arrOf st') (lo + x) := by
        intro i q1 q2
        rw [heqx]
        by_cases e : i = lo + x - 1
        · rw [e]
        · exact (hs'.eq i (lo + x - 1) q1 (by omega) (by omega)).1
      have kst : ∀ i, lo ≤ i → i < lo + x - (neq + 1) → K (arrOf st') (lo + x) < K (arrOf st') i := by
        intro i q1 q2
        rw [heqx]
        exact hs'.strict i (lo + x - 1) q1 q2 (by omega) (by omega)
      refine ⟨neq + 1, rfl, hB', by omega, ⟨fun i j q1 q2 q3 q4 => ?_, fun i j q1 q2 q3 => ?_, fun i j q1 q2 q3 q4 => ?_, fun i q1 q2 => ?_, fun i q1 q2 => hs'.fresh i (by omega) q2, hs'.low⟩⟩
      · by_cases e : j = lo + x
        · subst e; exact lex1 (kst i q1 (by omega)) (hgl _ (by omega))
        · exact hs'.dec i j q1 q2 (by omega) (by omega)
      · by_cases e : j = lo + x
        · subst e
          have := hs'.seg i (by omega) (by omega)
          exact ⟨keq i (by omega) q2, lex2 (by rw [keq i (by omega) q2]; exact Int.le_refl _) (by omega) (hgl i (by omega))⟩
        · exact hs'.eq i j (by omega) q2 (by omega)
      · by_cases e : j = lo + x
        · subst e; exact kst i q1 (by omega)
        · exact hs'.strict i j q1 (by omega) (by omega) (by omega)
      · by_cases e : i = lo + x
        · subst e; omega
        · have := hs'.seg i q1 (by omega); omega
theorem sort_run {st : SortSt} {Q : Option Nat → SortSt → Prop} (g : Og org a₀) (hn : lo + nrem ≤ a₀.size) (h1 : 1 ≤ nrem) (hB : SB a₀ pd st) (hf : ∀ i, lo ≤ i → i < a₀.size → OA org (arrOf st) i = i)
    (h : ∀ m st', SB a₀ pd st' → 1 ≤ m → m ≤ nrem → Rn org a₀ (arrOf st) lo m (arrOf st') → Q (some m) st') : wpS (model prog w) A E s (countRun' lo nrem) Q st := by
  have hgl : ∀ i, i < a₀.size → OA org (arrOf st) i < a₀.size := fun i hi => g.lt hB.perm hi
  have r1 : Rn org a₀ (arrOf st) lo 1 (arrOf st) := ⟨fun i j q1 q2 q3 => by omega, fun i q1 q2 => by rw [hf i q1 (by omega)]; omega, fun i q1 q2 => hf i (by omega) q2, fun _ _ => rfl⟩
  refine wpS_bind (run_asc g hn (Nat.le_refl 1) h1 hB r1 (fun x R hx1 hx2 t1 t2 => ?_) fun n hn1 hn2 hsn hor => ?_)
  · dsimp only
    refine wpS_bind (ltB hB g.keys (by omega) (by omega) ?_)
    by_cases hless : K (arrOf st) (lo + x) < K (arrOf st) (lo + x - 1)
    · simp only [hless, decide_true, if_true]
      exact wpS_pure (t1 hless)
    · simp only [hless, decide_false, Bool.false_eq_true, if_false]
      exact wpS_pure (t2 hless)
  dsimp only
  by_cases hnn : n = nrem
  · rw [if_pos (by simpa using hnn)]
    exact wpS_pure (h n st hB hn1 hn2 hsn)
  · rw [if_neg (by simpa using hnn)]
    have hlt := hor.resolve_left hnn
    have hsz : lo + n ≤ (arrOf st).size := by rw [hB.size]; omega
    by_cases hgt : n > 1
    rw [if_pos hgt]
    refine wpS_bind (ltB hB g.keys (by omega) (by omega) ?_)
    by_cases hrose : K (arrOf st) lo < K (arrOf st) (lo + n - 1)
    · simp only [hrose, decide_true, if_true]
      exact wpS_pure (h n st hB hn1 hn2 hsn)
    simp only [hrose, decide_false, Bool.false_eq_true, if_false]
    obtain ⟨f1, f2, f3⟩ := hsn.turn hsz hn1
    have hB2 : SB a₀ pd (setArr st (mirror (arrOf st) lo (lo + n) ((lo + n - lo) / 2))) := hB.setArr (mirror_perm _ _ _ _)
    refine wpS_bind (wpS_reverse ?_)
    have hD : Dn org a₀ (arrOf st) lo (n + 1) 0 (mirror (arrOf st) lo (lo + n) ((lo + n - lo) / 2)) := f1.more hn1 (by
      rw [f3, K_congr (f2 (lo + n) (Nat.le_refl _))]
      have := K_of_X (hsn.srt lo (lo + n - 1) (Nat.le_refl _) (by omega) (by omega)) (hgl _ (by omega))
      omega) (by omega) fun i hi => g.lt hB2.perm hi
    rotate_left
    rw [if_neg hgt]
    have hn1e : n = 1 := by omega
    subst hn1e
    have hB2 := hB
    have hD : Dn org a₀ (arrOf st) lo (1 + 1) 0 (arrOf st) := Dd.more ⟨fun i j q1 q2 q3 => by omega, hsn.seg, hsn.fresh, hsn.low⟩ (Nat.le_refl _) hlt (by omega) hgl
    all_goals
      refine wpS_bind (wpS_lift (wpAny_rule ⟨rfl, ?_⟩))
      refine wpS_bind (run_desc g hn (by omega) (by omega) hB2 hD (fun x neq st' R hB' hx1 hx2 hq t1 t2 t3 t4 => ?_) fun m neq st' hB' hm1 hm2 hq hs' => ?_)
      · dsimp only
        refine wpS_bind (ltB hB' g.keys (by omega) (by omega) ?_)
        by_cases hless : K (arrOf st') (lo + x) < K (arrOf st') (lo + x - 1)
        · simp only [hless, decide_true, if_true]
          by_cases hneq : neq > 0
          · rw [if_pos hneq]
            exact wpS_bind (wpS_reverse (wpS_pure (t1 hless hneq)))
          · rw [if_neg hneq]
            exact wpS_pure (t2 hless hneq)
        · simp only [hless, decide_false, Bool.false_eq_true, if_false]
          refine wpS_bind (ltB hB' g.keys (by omega) (by omega) ?_)
          by_cases hlarger : K (arrOf st') (lo + x - 1) < K (arrOf st') (lo + x)
          · simp only [hlarger, decide_true, if_true]
            exact wpS_pure (t3 hless hlarger)
          · simp only [hlarger, decide_false, Bool.false_eq_true, if_false]
            exact wpS_pure (t4 hless hlarger)
      dsimp only
      have hsz : lo + m ≤ (arrOf st').size := by rw [hB'.size]; omega
      by_cases hneq : neq > 0
      rw [if_pos hneq]
      obtain ⟨g1, _, _⟩ := hs'.flip hq hsz (fun i hi => g.lt hB'.perm hi) hB'.size
      have hB3 : SB a₀ pd (setArr st' (mirror (arrOf st') (lo + m - (neq + 1)) (lo + m) ((lo + m - (lo + m - (neq + 1))) / 2))) := hB'.setArr (mirror_perm _ _ _ _)
      refine wpS_bind (wpS_reverse ?_)
      rotate_left
      rw [if_neg hneq]
      have hn0 : neq = 0 := by omega
      subst hn0
      have g1 := hs'.plain
      have hB3 := hB'
      all_goals
        have hsz3 := hB3.size
        refine wpS_bind (wpS_reverse ?_)
        have hR := g1.turn (Nat.le_trans (show lo + m ≤ a₀.size by omega) (Nat.le_of_eq hsz3.symm))
        have hB4 := hB3.setArr (mirror_perm _ lo (lo + m) ((lo + m - lo) / 2))
        refine wpS_bind (run_asc g hn (by omega) hm2 hB4 hR (fun x R hx1 hx2 t1 t2 => ?_) fun k hk1 hk2 hsk _ => wpS_pure (h k _ hB4 (by omega) hk2 hsk))
        dsimp only
        refine wpS_bind (ltB hB4 g.keys (by omega) (by omega) ?_)
        dsimp only
        split
        · rename_i hb
          exact wpS_pure (t1 (of_decide_eq_true hb))
        · rename_i hb
          exact wpS_pure (t2 fun q => hb (decide_eq_true q))
end
end Mine
namespace Mine
def gallop' : Bool → Keyed → Array Keyed → Nat → Nat → Nat → StateT SortSt Sem (Option Nat) := sortPriv% PySem.Builtin.gallop
section
variable {prog : Program} {w : World} {A : Around} {E : Value → Shared → Prop} {s : Shared}
theorem ltP {st : SortSt} {p q : Keyed} {Q : Option Bool → SortSt → Prop} (hk : kindOf st = oneType') (hp : ∃ n t, p.1 = .int n t) (hq : ∃ n t, q.1 = .int n t) (h : Q (some (decide (numOf p.1 < numOf q.1))) st) : wpS (model prog w) A E s (lt' p q) Q st := by
  obtain ⟨n, t, e1⟩ := hp
  obtain ⟨m, u, e2⟩ := hq
  rw [lt'_eq]
  refine wpS_bind (wpS_get ?_)
  rw [hk, keyLt'_oneType, e1, e2]
  rw [e1, e2] at h
  exact wpS_bind (wpS_lift (wpAny_attempt (oneLt_int ⟨rfl, wpS_pure h⟩)))
theorem elP {st : SortSt} {arr : Array Keyed} {i : Nat} {p : Keyed} {Q : Keyed → SortSt → Prop} (hp : arr[i]? = some p) (h : Q p st) : wpS (model prog w) A E s (elem' arr i) Q st := by
  rw [elem'_eq, hp]; exact wpS_pure h
/-- what a gallop asks of the i-th item -/
def gb (left : Bool) (key : Keyed) (arr : Array Keyed) (base i : Nat) : Bool := if left then decide (K arr (base + i) < numOf key.1) else !decide (numOf key.1 < K arr (base + i))
theorem beyondP {st : SortSt} {left : Bool} {key : Keyed} {arr : Array Keyed} {base i : Nat} {Q : Option Bool → SortSt → Prop} (hk : kindOf st = oneType') (hkey : ∃ n t, key.1 = .int n t) (ha : IntKeys arr) (hi : base + i < arr.size)
    (h : Q (some (gb left key arr base i)) st) : wpS (model prog w) A E s (elem' arr (base + i) >>= fun x => if left = true then lt' x key else lt' key x >>= fun r => pure (r.map fun b => !b)) Q st := by
  have e : arr[base + i]? = some arr[base + i] := getElem?_pos arr (base + i) hi
  have hx := ha arr[base + i] (by simp)
  have hK := K_eq hi
  refine wpS_bind (elP e ?_)
  unfold gb at h
  rw [hK] at h
  cases left with
  | true => exact ltP hk hx hkey h
  | false => exact wpS_bind (ltP hk hkey hx (wpS_pure h))
/-- a search between two bounds, whatever the loop's body is called: told by what a turn does -/
theorem searchP {σ : Type} {M : Model} {st : σ} {n lo hi : Nat} {p : Nat → Bool} {Q : Option (Option Nat) × Nat × Nat → σ → Prop} {f : Nat → Option (Option Nat) × Nat × Nat → StateT σ Sem (ForInStep (Option (Option Nat) × Nat × Nat))}
    (hf : ∀ x l r (R : ForInStep (Option (Option Nat) × Nat × Nat) → σ → Prop), r ≤ n → (l ≥ r → R (.done (none, l, r)) st) → (l < r → p (l + (r - l) / 2) = true → R (.yield (none, l + (r - l) / 2 + 1, r)) st) →
      (l < r → p (l + (r - l) / 2) = false → R (.yield (none, l, l + (r - l) / 2)) st) → wpS M A E s (f x (none, l, r)) R st)
    (mono : ∀ i j, i ≤ j → j < n → p j = true → p i = true) (hlh : lo ≤ hi) (hhn : hi ≤ n) (h1 : ∀ i, i < lo → p i = true) (h2 : ∀ i, hi ≤ i → i < n → p i = false)
    (h : ∀ k, k ≤ n → (∀ i, i < k → p i = true) → (∀ i, k ≤ i → i < n → p i = false) → Q (none, k, k) st) : wpS M A E s (forIn [0:n] (none, lo, hi) f) Q st := by
  have anti : ∀ i j, i ≤ j → j < n → p i = false → p j = false := fun i j h1 h2 h3 => by
    cases q : p j with
    | false => rfl
    | true => rw [mono i j h1 h2 q] at h3; cases h3
  refine wpS_forRange (I := fun x c st' => st' = st ∧ ∃ l r, c = (none, l, r) ∧ l ≤ r ∧ r ≤ n ∧ r - l ≤ n - x ∧ (∀ i, i < l → p i = true) ∧ (∀ i, r ≤ i → i < n → p i = false)) ?step ?fin ⟨rfl, lo, hi, rfl, hlh, hhn, by omega, h1, h2⟩
  case fin =>
    rintro c st' ⟨rfl, l, r, rfl, h1, h2, h3, h4, h5⟩
    have : l = r := by omega
    subst this
    exact h l h2 h4 h5
  case step =>
    rintro x c st' _ hx ⟨rfl, l, r, rfl, h1, h2, h3, h4, h5⟩
    refine hf x l r _ h2 (fun hge => ?_) (fun hlt hm => ?_) (fun hlt hm => ?_)
    · have : l = r := by omega
      subst this
      exact h l h2 h4 h5
    · exact ⟨rfl, _, _, rfl, by omega, h2, by omega, fun i hi => mono i (l + (r - l) / 2) (by omega) (by omega) hm, h5⟩
    · exact ⟨rfl, _, _, rfl, by omega, by omega, by omega, h4, fun i q1 q2 => anti (l + (r - l) / 2) i q1 q2 hm⟩
theorem gallopP {st : SortSt} {left : Bool} {key : Keyed} {arr : Array Keyed} {base n hint : Nat} {Q : Option Nat → SortSt → Prop} (hk : kindOf st = oneType') (hkey : ∃ n t, key.1 = .int n t) (ha : IntKeys arr) (hn : base + n ≤ arr.size) (hh : hint < n)
    (mono : ∀ i j, i ≤ j → j < n → gb left key arr base j = true → gb left key arr base i = true)
    (h : ∀ k, k ≤ n → (∀ i, i < k → gb left key arr base i = true) → (∀ i, k ≤ i → i < n → gb left key arr base i = false) → Q (some k) st) : wpS (model prog w) A E s (gallop' left key arr base n hint) Q st := by
  have anti : ∀ i j, i ≤ j → j < n → gb left key arr base i = false → gb left key arr base j = false := fun i j h1 h2 h3 => by
    cases q : gb left key arr base j with
    | false => rfl
    | true => rw [mono i j h1 h2 q] at h3; cases h3
  refine wpS_bind (beyondP hk hkey ha (by omega) ?_)
  dsimp only
  cases hr : gb left key arr base hint with
  | true =>
    simp only [if_true]
    refine wpS_bind (wpS_mono (wpS_forRange (I := fun x c st' => st' = st ∧ ∃ la o, c = (none, la, o) ∧ la < o ∧ x < o ∧ (la < n - hint) ∧ gb left key arr base (hint + la) = true)
      (Q := fun c st' => st' = st ∧ ∃ la o, c = (none, la, o) ∧ la < o ∧ (la < n - hint) ∧ gb left key arr base (hint + la) = true ∧ (o < n - hint → gb left key arr base (hint + o) = false)) ?step ?fin ⟨rfl, 0, 1, rfl, by omega, by omega, by omega, hr⟩) ?post)
    case fin =>
      rintro c st' ⟨rfl, la, o, rfl, h1, h2, h3, h4⟩
      exact ⟨rfl, la, o, rfl, h1, h3, h4, fun _ => by omega⟩
    case step =>
      rintro x c st' _ hx ⟨rfl, la, o, rfl, h1, h2, h3, h4⟩
      dsimp only
      by_cases hge : o ≥ n - hint
      · rw [if_pos hge]
        exact wpS_pure ⟨rfl, la, o, rfl, h1, h3, h4, fun _ => by omega⟩
      · rw [if_neg hge]
        refine wpS_bind (beyondP hk hkey ha (by omega) ?_)
        dsimp only
        cases hm : gb left key arr base (hint + o) with
        | true =>
          simp only [Bool.not_true, Bool.false_eq_true, if_false]
          exact wpS_pure ⟨rfl, _, _, rfl, by omega, by omega, by omega, hm⟩
        | false =>
          simp only [Bool.not_false, if_true]
          exact wpS_pure ⟨rfl, la, o, rfl, h1, h3, h4, fun _ => hm⟩
    case post =>
      rintro c st' ⟨rfl, la, o, rfl, h1, h3, h4, h5⟩
      dsimp only
      refine wpS_bind (searchP (p := gb left key arr base) (fun x l r R hrn r1 r2 r3 => ?_) mono (by omega) (by omega) (fun i hi => mono i (hint + la) (by omega) (by omega) h4) (fun i q1 q2 => ?_) fun k q1 q2 q3 => wpS_pure (h k q1 q2 q3))
      · dsimp only
        by_cases hge : l ≥ r
        · rw [if_pos hge]; exact wpS_pure (r1 hge)
        · rw [if_neg hge]
          refine wpS_bind (beyondP hk hkey ha (by omega) ?_)
          dsimp only
          cases hm : gb left key arr base (l + (r - l) / 2) with
          | true => simp only [if_true]; exact wpS_pure (r2 (by omega) hm)
          | false => simp only [Bool.false_eq_true, if_false]; exact wpS_pure (r3 (by omega) hm)
      · by_cases ho : o < n - hint
        · exact anti (hint + o) i (by omega) q2 (h5 ho)
        · omega
  | false =>
    simp only [Bool.false_eq_true, if_false]
    refine wpS_bind (wpS_mono (wpS_forRange (I := fun x c st' => st' = st ∧ ∃ la o, c = (none, la, o) ∧ la < o ∧ x < o ∧ la ≤ hint ∧ gb left key arr base (hint - la) = false)
      (Q := fun c st' => st' = st ∧ ∃ la o, c = (none, la, o) ∧ la < o ∧ la ≤ hint ∧ gb left key arr base (hint - la) = false ∧ (o < hint + 1 → gb left key arr base (hint - o) = true)) ?step ?fin ⟨rfl, 0, 1, rfl, by omega, by omega, by omega, hr⟩) ?post)
    case fin =>
      rintro c st' ⟨rfl, la, o, rfl, h1, h2, h3, h4⟩
      exact ⟨rfl, la, o, rfl, h1, h3, h4, fun _ => by omega⟩
    case step =>
      rintro x c st' _ hx ⟨rfl, la, o, rfl, h1, h2, h3, h4⟩
      dsimp only
      by_cases hge : o ≥ hint + 1
      · rw [if_pos hge]
        exact wpS_pure ⟨rfl, la, o, rfl, h1, h3, h4, fun _ => by omega⟩
      · rw [if_neg hge]
        refine wpS_bind (beyondP hk hkey ha (by omega) ?_)
        dsimp only
        cases hm : gb left key arr base (hint - o) with
        | true =>
          simp only [if_true]
          exact wpS_pure ⟨rfl, la, o, rfl, h1, h3, h4, fun _ => hm⟩
        | false =>
          simp only [Bool.false_eq_true, if_false]
          exact wpS_pure ⟨rfl, _, _, rfl, by omega, by omega, by omega, hm⟩
    case post =>
      rintro c st' ⟨rfl, la, o, rfl, h1, h3, h4, h5⟩
      dsimp only
      refine wpS_bind (searchP (p := gb left key arr base) (fun x l r R hrn r1 r2 r3 => ?_) mono (by omega) (by omega) (fun i hi => ?_) (fun i q1 q2 => anti (hint - la) i q1 q2 h4) fun k q1 q2 q3 => wpS_pure (h k q1 q2 q3))
      · dsimp only
        by_cases hge : l ≥ r
        · rw [if_pos hge]; exact wpS_pure (r1 hge)
        · rw [if_neg hge]
          refine wpS_bind (beyondP hk hkey ha (by omega) ?_)
          dsimp only
          cases hm : gb left key arr base (l + (r - l) / 2) with
          | true => simp only [if_true]; exact wpS_pure (r2 (by omega) hm)
          | false => simp only [Bool.false_eq_true, if_false]; exact wpS_pure (r3 (by omega) hm)
      · by_cases ho : o < hint + 1
        · exact mono i (hint - o) (by omega) (by omega) (h5 ho)
        · omega
end
end Mine
namespace Mine
/-! merging, plain -/
section
variable {org : Keyed → Nat} {N : Nat} {a b out : Array Keyed} {ia ib k : Nat}
theorem XA_at {xs : Array Keyed} {i : Nat} {p : Keyed} (h : xs[i]? = some p) : XA org N xs i = Xp org N p := by unfold XA K OA Xp; rw [h]
/-- two sorted rows, the first one's items of earlier origin -/
structure Two (org : Keyed → Nat) (N : Nat) (a b : Array Keyed) : Prop where
  sa : ∀ i j, i < j → j < a.size → XA org N a i < XA org N a j
  sb : ∀ i j, i < j → j < b.size → XA org N b i < XA org N b j
  ka : IntKeys a
  kb : IntKeys b
  oa : ∀ i, i < a.size → OA org a i < N
  ob : ∀ i, i < b.size → OA org b i < N
  cross : ∀ i j, i < a.size → j < b.size → OA org a i < OA org b j
  head : ∀ j, j < a.size → XA org N b 0 < XA org N a j
  last : ∀ j, j < b.size → XA org N b j < XA org N a (a.size - 1)
  na : 0 < a.size
  nb : 0 < b.size
theorem Two.ba (t : Two org N a b) {i j : Nat} (hi : i < a.size) (hj : j < b.size) (h : K b j < K a i) : XA org N b j < XA org N a i := lex1 h (t.ob j hj)
theorem Two.ab (t : Two org N a b) {i j : Nat} (hi : i < a.size) (hj : j < b.size) (h : ¬ K b j < K a i) : XA org N a i < XA org N b j := lex2 (by omega) (t.cross i j hi hj) (t.oa i hi)
theorem Two.ka' (t : Two org N a b) {i j : Nat} (h : i ≤ j) (hj : j < a.size) : K a i ≤ K a j := by
  by_cases e : i = j
  · subst e; exact Int.le_refl _
  · exact K_of_X (t.sa i j (by omega) hj) (t.oa j hj)
theorem Two.kb' (t : Two org N a b) {i j : Nat} (h : i ≤ j) (hj : j < b.size) : K b i ≤ K b j := by
  by_cases e : i = j
  · subst e; exact Int.le_refl _
  · exact K_of_X (t.sb i j (by omega) hj) (t.ob j hj)
/-- merged so far, from the front -/
structure Mg (org : Keyed → Nat) (N : Nat) (a b : Array Keyed) (out : Array Keyed) (ia ib : Nat) : Prop where
  ha : ia ≤ a.size
  hb : ib ≤ b.size
  perm : out.toList.Perm (a.toList.take ia ++ b.toList.take ib)
  srt : ∀ i j, i < j → j < out.size → XA org N out i < XA org N out j
  la : ∀ i j, i < out.size → ia ≤ j → j < a.size → XA org N out i < XA org N a j
  lb : ∀ i j, i < out.size → ib ≤ j → j < b.size → XA org N out i < XA org N b j
theorem XA_push_lt {p : Keyed} {i : Nat} (h : i < out.size) : XA org N (out.push p) i = XA org N out i := XA_congr (by rw [Array.getElem?_push, if_neg (by omega)])
theorem XA_push_eq {p : Keyed} : XA org N (out.push p) out.size = Xp org N p := XA_at (by simp)
theorem Mg.pushA (m : Mg org N a b out ia ib) (t : Two org N a b) {p : Keyed} (hp : a[ia]? = some p) (h : ∀ j, ib ≤ j → j < b.size → XA org N a ia < XA org N b j) : Mg org N a b (out.push p) (ia + 1) ib := by
  have hia : ia < a.size := (Array.getElem?_eq_some_iff.mp hp).1
  have hX : Xp org N p = XA org N a ia := (XA_at hp).symm
  refine ⟨by omega, m.hb, ?_, fun i j h1 h2 => ?_, fun i j h1 h2 h3 => ?_, fun i j h1 h2 h3 => ?_⟩
  · have e : a.toList.take (ia + 1) = a.toList.take ia ++ [p] := by rw [List.take_add_one]; simp [hp]
    rw [Array.toList_push, e, List.append_assoc]
    refine (m.perm.append_right [p]).trans ?_
    rw [List.append_assoc]
    exact List.Perm.append_left _ (List.perm_append_comm)
  · rw [Array.size_push] at h2
    by_cases e : j = out.size
    · subst e; rw [XA_push_eq, XA_push_lt h1, hX]; exact m.la i ia h1 (Nat.le_refl _) hia
    · rw [XA_push_lt (by omega), XA_push_lt (by omega)]; exact m.srt i j h1 (by omega)
  · rw [Array.size_push] at h1
    by_cases e : i = out.size
    · subst e; rw [XA_push_eq, hX]; exact t.sa ia j (by omega) h3
    · rw [XA_push_lt (by omega)]; exact m.la i j (by omega) (by omega) h3
  · rw [Array.size_push] at h1
    by_cases e : i = out.size
    · subst e; rw [XA_push_eq, hX]; exact h j h2 h3
    · rw [XA_push_lt (by omega)]; exact m.lb i j (by omega) h2 h3
theorem Mg.pushB (m : Mg org N a b out ia ib) (t : Two org N a b) {p : Keyed} (hp : b[ib]? = some p) (h : ∀ j, ia ≤ j → j < a.size → XA org N b ib < XA org N a j) : Mg org N a b (out.push p) ia (ib + 1) := by
  have hib : ib < b.size := (Array.getElem?_eq_some_iff.mp hp).1
  have hX : Xp org N p = XA org N b ib := (XA_at hp).symm
  refine ⟨m.ha, by omega, ?_, fun i j h1 h2 => ?_, fun i j h1 h2 h3 => ?_, fun i j h1 h2 h3 => ?_⟩
  · have e : b.toList.take (ib + 1) = b.toList.take ib ++ [p] := by rw [List.take_add_one]; simp [hp]
    rw [Array.toList_push, e, ← List.append_assoc]
    exact m.perm.append_right [p]
  · rw [Array.size_push] at h2
    by_cases e : j = out.size
    · subst e; rw [XA_push_eq, XA_push_lt h1, hX]; exact m.lb i ib h1 (Nat.le_refl _) hib
    · rw [XA_push_lt (by omega), XA_push_lt (by omega)]; exact m.srt i j h1 (by omega)
  · rw [Array.size_push] at h1
    by_cases e : i = out.size
    · subst e; rw [XA_push_eq, hX]; exact h j h2 h3
    · rw [XA_push_lt (by omega)]; exact m.la i j (by omega) h2 h3
  · rw [Array.size_push] at h1
    by_cases e : i = out.size
    · subst e; rw [XA_push_eq, hX]; exact t.sb ib j (by omega) h3
    · rw [XA_push_lt (by omega)]; exact m.lb i j (by omega) (by omega) h3
theorem ext_nil (xs : Array Keyed) (i : Nat) : xs.extract i i = #[] := by
  apply Array.toList_inj.mp
  simp [List.extract_eq_take_drop]
theorem ext_succ {xs : Array Keyed} {i k : Nat} {p : Keyed} (h : xs[i + k]? = some p) : out ++ xs.extract i (i + (k + 1)) = (out ++ xs.extract i (i + k)).push p := by
  have e : xs.extract i (i + (k + 1)) = (xs.extract i (i + k)).push p := by
    apply Array.toList_inj.mp
    rw [Array.toList_push, Array.toList_extract, Array.toList_extract]
    simp only [List.extract_eq_take_drop]
    rw [show i + (k + 1) - i = k + 1 by omega, show i + k - i = k by omega, List.take_add_one, List.getElem?_drop]
    have : xs.toList[i + k]? = some p := by simpa using h
    rw [this]
    rfl
  rw [e, Array.append_push]
theorem Mg.addA (t : Two org N a b) : ∀ k, ∀ {out : Array Keyed} {ia : Nat}, Mg org N a b out ia ib → ia + k ≤ a.size → (∀ i j, i < k → ib ≤ j → j < b.size → XA org N a (ia + i) < XA org N b j) → Mg org N a b (out ++ a.extract ia (ia + k)) (ia + k) ib
  | 0, out, ia, m, _, _ => by rw [Nat.add_zero, ext_nil, Array.append_empty]; exact m
  | k + 1, out, ia, m, hk, h => by
    have hp : a[ia + k]? = some a[ia + k] := getElem?_pos a (ia + k) (by omega)
    rw [ext_succ hp]
    exact (Mg.addA t k m (by omega) fun i j h1 h2 h3 => h i j (by omega) h2 h3).pushA t hp fun j h2 h3 => h k j (by omega) h2 h3
theorem Mg.addB (t : Two org N a b) : ∀ k, ∀ {out : Array Keyed} {ib : Nat}, Mg org N a b out ia ib → ib + k ≤ b.size → (∀ i j, i < k → ia ≤ j → j < a.size → XA org N b (ib + i) < XA org N a j) → Mg org N a b (out ++ b.extract ib (ib + k)) ia (ib + k)
  | 0, out, ib, m, _, _ => by rw [Nat.add_zero, ext_nil, Array.append_empty]; exact m
  | k + 1, out, ib, m, hk, h => by
    have hp : b[ib + k]? = some b[ib + k] := getElem?_pos b (ib + k) (by omega)
    rw [ext_succ hp]
    exact (Mg.addB t k m (by omega) fun i j h1 h2 h3 => h i j (by omega) h2 h3).pushB t hp fun j h2 h3 => h k j (by omega) h2 h3
/-- merged -/
structure Mgd (org : Keyed → Nat) (N : Nat) (a b out : Array Keyed) : Prop where
  perm : out.toList.Perm (a.toList ++ b.toList)
  srt : ∀ i j, i < j → j < out.size → XA org N out i < XA org N out j
theorem Mg.all (m : Mg org N a b out a.size b.size) : Mgd org N a b out := ⟨by
  have := m.perm
  rw [List.take_of_length_le (by simp), List.take_of_length_le (by simp)] at this
  exact this, m.srt⟩
theorem ext_end {xs : Array Keyed} {i : Nat} (h : i = xs.size) : out ++ xs.extract i xs.size = out := by subst h; simp
/-- b is at its end -/
theorem Mg.endB (t : Two org N a b) (m : Mg org N a b out ia ib) (h : ib = b.size) : Mgd org N a b (out ++ a.extract ia a.size ++ b.extract ib b.size) := by
  subst h
  rw [ext_end rfl]
  obtain ⟨k, hk⟩ : ∃ k, a.size = ia + k := ⟨a.size - ia, by have := m.ha; omega⟩
  have := Mg.addA t k m (by omega) fun i j h1 h2 h3 => by omega
  rw [← hk] at this
  exact this.all
/-- a is at its end -/
theorem Mg.endA (t : Two org N a b) (m : Mg org N a b out ia ib) (h : ia = a.size) : Mgd org N a b (out ++ a.extract ia a.size ++ b.extract ib b.size) := by
  subst h
  rw [ext_end rfl]
  obtain ⟨k, hk⟩ : ∃ k, b.size = ib + k := ⟨b.size - ib, by have := m.hb; omega⟩
  have := Mg.addB t k m (by omega) fun i j h1 h2 h3 => by omega
  rw [← hk] at this
  exact this.all
/-- one of a is left: it is the last of all -/
theorem Mg.endL (t : Two org N a b) (m : Mg org N a b out ia ib) (h : ia + 1 = a.size) : Mgd org N a b (out ++ b.extract ib b.size ++ a.extract ia a.size) := by
  obtain ⟨k, hk⟩ : ∃ k, b.size = ib + k := ⟨b.size - ib, by have := m.hb; omega⟩
  have m1 := Mg.addB t k m (by omega) fun i j h1 h2 h3 => by
    have : j = a.size - 1 := by omega
    subst this
    exact t.last _ (by omega)
  rw [← hk] at m1
  have m2 := Mg.addA t 1 m1 (by omega) fun i j h1 h2 h3 => by omega
  rw [h] at m2
  exact m2.all
/-- merged so far, from the end; out is turned round -/
structure Mh (org : Keyed → Nat) (N : Nat) (a b : Array Keyed) (out : Array Keyed) (na nb : Nat) : Prop where
  ha : na ≤ a.size
  hb : nb ≤ b.size
  perm : out.toList.Perm (a.toList.drop na ++ b.toList.drop nb)
  srt : ∀ i j, i < j → j < out.size → XA org N out j < XA org N out i
  la : ∀ i j, i < out.size → j < na → XA org N a j < XA org N out i
  lb : ∀ i j, i < out.size → j < nb → XA org N b j < XA org N out i
theorem Mh.pushA {na nb : Nat} (m : Mh org N a b out (na + 1) nb) (t : Two org N a b) {p : Keyed} (hp : a[na]? = some p) (h : ∀ j, j < nb → XA org N b j < XA org N a na) : Mh org N a b (out.push p) na nb := by
  have hia : na < a.size := (Array.getElem?_eq_some_iff.mp hp).1
  have hX : Xp org N p = XA org N a na := (XA_at hp).symm
  refine ⟨by omega, m.hb, ?_, fun i j h1 h2 => ?_, fun i j h1 h2 => ?_, fun i j h1 h2 => ?_⟩
  · have e : a.toList.drop na = p :: a.toList.drop (na + 1) := by
      rw [List.drop_eq_getElem_cons (by simpa using hia)]
      congr 1
      simpa using (Array.getElem?_eq_some_iff.mp hp).2
    rw [Array.toList_push, e, List.cons_append]
    exact (List.perm_append_comm).trans (m.perm.cons p)
  · rw [Array.size_push] at h2
    by_cases e : j = out.size
    · subst e; rw [XA_push_eq, XA_push_lt h1, hX]; exact m.la i na h1 (by omega)
    · rw [XA_push_lt (by omega), XA_push_lt (by omega)]; exact m.srt i j h1 (by omega)
  · rw [Array.size_push] at h1
    by_cases e : i = out.size
    · subst e; rw [XA_push_eq, hX]; exact t.sa j na h2 hia
    · rw [XA_push_lt (by omega)]; exact m.la i j (by omega) (by omega)
  · rw [Array.size_push] at h1
    by_cases e : i = out.size
    · subst e; rw [XA_push_eq, hX]; exact h j h2
    · rw [XA_push_lt (by omega)]; exact m.lb i j (by omega) h2
theorem Mh.pushB {na nb : Nat} (m : Mh org N a b out na (nb + 1)) (t : Two org N a b) {p : Keyed} (hp : b[nb]? = some p) (h : ∀ j, j < na → XA org N a j < XA org N b nb) : Mh org N a b (out.push p) na nb := by
  have hib : nb < b.size := (Array.getElem?_eq_some_iff.mp hp).1
  have hX : Xp org N p = XA org N b nb := (XA_at hp).symm
  refine ⟨m.ha, by omega, ?_, fun i j h1 h2 => ?_, fun i j h1 h2 => ?_, fun i j h1 h2 => ?_⟩
  · have e : b.toList.drop nb = p :: b.toList.drop (nb + 1) := by
      rw [List.drop_eq_getElem_cons (by simpa using hib)]
      congr 1
      simpa using (Array.getElem?_eq_some_iff.mp hp).2
    rw [Array.toList_push, e]
    refine (List.perm_append_comm).trans ((m.perm.cons p).trans ?_)
    exact List.perm_middle.symm
  · rw [Array.size_push] at h2
    by_cases e : j = out.size
    · subst e; rw [XA_push_eq, XA_push_lt h1, hX]; exact m.lb i nb h1 (by omega)
    · rw [XA_push_lt (by omega), XA_push_lt (by omega)]; exact m.srt i j h1 (by omega)
  · rw [Array.size_push] at h1
    by_cases e : i = out.size
    · subst e; rw [XA_push_eq, hX]; exact h j h2
    · rw [XA_push_lt (by omega)]; exact m.la i j (by omega) h2
  · rw [Array.size_push] at h1
    by_cases e : i = out.size
    · subst e; rw [XA_push_eq, hX]; exact t.sb j nb h2 hib
    · rw [XA_push_lt (by omega)]; exact m.lb i j (by omega) (by omega)
theorem ext_pred {xs : Array Keyed} {i k : Nat} {p : Keyed} (h : xs[i]? = some p) : out ++ (xs.extract i (i + (k + 1))).reverse = (out ++ (xs.extract (i + 1) (i + 1 + k)).reverse).push p := by
  have hlt := (Array.getElem?_eq_some_iff.mp h).1
  have e : xs.extract i (i + (k + 1)) = #[p] ++ xs.extract (i + 1) (i + 1 + k) := by
    apply Array.toList_inj.mp
    rw [Array.toList_append, Array.toList_extract, Array.toList_extract]
    simp only [List.extract_eq_take_drop]
    rw [show i + (k + 1) - i = k + 1 by omega, show i + 1 + k - (i + 1) = k by omega, List.drop_eq_getElem_cons (by simpa using hlt), List.take_succ_cons]
    show _ = [p] ++ _
    rw [List.singleton_append]
    congr 1
    simpa using (Array.getElem?_eq_some_iff.mp h).2
  rw [e]
  apply Array.toList_inj.mp
  simp
theorem Mh.addA (t : Two org N a b) {nb : Nat} : ∀ k, ∀ {na : Nat}, Mh org N a b out (na + k) nb → (∀ i j, i < k → j < nb → XA org N b j < XA org N a (na + i)) → Mh org N a b (out ++ (a.extract na (na + k)).reverse) na nb
  | 0, na, m, _ => by rw [Nat.add_zero, ext_nil, Array.reverse_empty, Array.append_empty]; exact m
  | k + 1, na, m, h => by
    obtain ⟨p, hp⟩ : ∃ p, a[na]? = some p := ⟨_, getElem?_pos a na (by have := m.ha; omega)⟩
    rw [ext_pred hp]
    have m1 := Mh.addA t k (na := na + 1) (by rw [show na + 1 + k = na + (k + 1) by omega]; exact m) fun i j h1 h2 => by
      have := h (i + 1) j (by omega) h2
      rw [show na + 1 + i = na + (i + 1) by omega]
      exact this
    exact m1.pushA t hp fun j h2 => h 0 j (by omega) h2
theorem Mh.addB (t : Two org N a b) {na : Nat} : ∀ k, ∀ {nb : Nat}, Mh org N a b out na (nb + k) → (∀ i j, i < k → j < na → XA org N a j < XA org N b (nb + i)) → Mh org N a b (out ++ (b.extract nb (nb + k)).reverse) na nb
  | 0, nb, m, _ => by rw [Nat.add_zero, ext_nil, Array.reverse_empty, Array.append_empty]; exact m
  | k + 1, nb, m, h => by
    obtain ⟨p, hp⟩ : ∃ p, b[nb]? = some p := ⟨_, getElem?_pos b nb (by have := m.hb; omega)⟩
    rw [ext_pred hp]
    have m1 := Mh.addB t k (nb := nb + 1) (by rw [show nb + 1 + k = nb + (k + 1) by omega]; exact m) fun i j h1 h2 => by
      have := h (i + 1) j (by omega) h2
      rw [show nb + 1 + i = nb + (i + 1) by omega]
      exact this
    exact m1.pushB t hp fun j h2 => h 0 j (by omega) h2
theorem Mh.all (m : Mh org N a b out 0 0) : Mgd org N a b out.reverse := by
  refine ⟨?_, fun i j h1 h2 => ?_⟩
  · rw [Array.toList_reverse]
    exact (List.reverse_perm _).trans (by simpa using m.perm)
  · rw [Array.size_reverse] at h2
    have e : ∀ i, i < out.size → out.reverse[i]? = out[out.size - 1 - i]? := fun i hi => by
      rw [Array.getElem?_reverse hi]
    rw [XA_congr (e i (by omega)), XA_congr (e j h2)]
    exact m.srt _ _ (by omega) (by omega)
theorem rev_app {x y z : Array Keyed} : x ++ y ++ z.reverse = (z ++ y.reverse ++ x.reverse).reverse := by
  apply Array.toList_inj.mp
  simp
theorem Mh.endA (t : Two org N a b) {na nb : Nat} (m : Mh org N a b out na nb) (h : na = 0) : Mgd org N a b (a.extract 0 na ++ b.extract 0 nb ++ out.reverse) := by
  subst h
  rw [rev_app]
  have m1 := Mh.addB t nb (nb := 0) (by rw [Nat.zero_add]; exact m) fun i j h1 h2 => by omega
  rw [Nat.zero_add] at m1
  have m2 := Mh.addA t 0 (na := 0) m1 fun i j h1 h2 => by omega
  exact m2.all
theorem Mh.endB (t : Two org N a b) {na nb : Nat} (m : Mh org N a b out na nb) (h : nb = 0) : Mgd org N a b (a.extract 0 na ++ b.extract 0 nb ++ out.reverse) := by
  subst h
  rw [rev_app]
  have m1 := Mh.addB t 0 (nb := 0) m fun i j h1 h2 => by omega
  have m2 := Mh.addA t na (na := 0) (by rw [Nat.zero_add]; exact m1) fun i j h1 h2 => by omega
  simp only [Nat.zero_add] at m2
  exact m2.all
theorem Mh.endF (t : Two org N a b) {na nb : Nat} (m : Mh org N a b out na nb) (h : nb = 1) : Mgd org N a b (b.extract 0 nb ++ a.extract 0 na ++ out.reverse) := by
  subst h
  rw [rev_app]
  have m1 := Mh.addA t na (na := 0) (by rw [Nat.zero_add]; exact m) fun i j h1 h2 => by
    have : j = 0 := by omega
    subst this
    exact t.head _ (by have := m.ha; omega)
  rw [Nat.zero_add] at m1
  have m2 := Mh.addB t 1 (nb := 0) m1 fun i j h1 h2 => by omega
  exact m2.all
end
end Mine
namespace Mine
/-! the merges' walk -/
def mergeLo' : Array Keyed → Array Keyed → StateT SortSt Sem (Array Keyed) := sortPriv% PySem.Builtin.mergeLo
def mergeHi' : Array Keyed → Array Keyed → StateT SortSt Sem (Array Keyed) := sortPriv% PySem.Builtin.mergeHi
def setMin' : Nat → StateT SortSt Sem Unit := sortPriv% PySem.Builtin.setMinGallop
/-- alike but for the gallop's bound -/
structure Lk (st st' : SortSt) : Prop where
  kind : kindOf st' = kindOf st
  arr : arrOf st' = arrOf st
  pend : pendingOf st' = pendingOf st
  failed : failedOf st' = failedOf st
theorem Lk.refl (st : SortSt) : Lk st st := ⟨rfl, rfl, rfl, rfl⟩
section
variable {prog : Program} {w : World} {A : Around} {E : Value → Shared → Prop} {s : Shared} {org : Keyed → Nat} {N : Nat} {a b : Array Keyed}
theorem wpS_ifeq {α : Type} {x y : Nat} {p q : StateT SortSt Sem α} {Q : α → SortSt → Prop} {st : SortSt} (h1 : x = y → wpS (model prog w) A E s p Q st) (h2 : x ≠ y → wpS (model prog w) A E s q Q st) :
    wpS (model prog w) A E s (if (x == y) = true then p else q) Q st := by
  by_cases h : x = y
  · rw [if_pos (by simpa using h)]; exact h1 h
  · rw [if_neg (by simpa using h)]; exact h2 h
theorem wpS_if {α : Type} {c : Prop} [Decidable c] {p q : StateT SortSt Sem α} {Q : α → SortSt → Prop} {st : SortSt} (h1 : c → wpS (model prog w) A E s p Q st) (h2 : ¬ c → wpS (model prog w) A E s q Q st) :
    wpS (model prog w) A E s (if c then p else q) Q st := by
  by_cases h : c
  · rw [if_pos h]; exact h1 h
  · rw [if_neg h]; exact h2 h
theorem setMinP {st st0 : SortSt} {g : Nat} {Q : Unit → SortSt → Prop} (l : Lk st0 st) (h : ∀ st', Lk st0 st' → Q () st') : wpS (model prog w) A E s (setMin' g) Q st :=
  wpS_modify (h _ ⟨l.kind, l.arr, l.pend, l.failed⟩)
theorem ik_at {xs : Array Keyed} (h : IntKeys xs) {i : Nat} {p : Keyed} (hp : xs[i]? = some p) : ∃ n t, p.1 = .int n t := h p (by
  obtain ⟨hi, e⟩ := Array.getElem?_eq_some_iff.mp hp
  rw [← e]; simp)
theorem K_at {xs : Array Keyed} {i : Nat} {p : Keyed} (h : xs[i]? = some p) : K xs i = numOf p.1 := by unfold K; rw [h]
theorem Mg.zero (ha : 0 < a.size) : Mg org N a b #[] 0 0 := ⟨by omega, by omega, by simp, fun i j h1 h2 => by simp at h2, fun i j h1 => by simp at h1, fun i j h1 => by simp at h1⟩
abbrev LoI (org : Keyed → Nat) (N : Nat) (a b : Array Keyed) (st : SortSt) (x : Nat) (c : Option (Array Keyed) × Array Keyed × Nat × Nat × Nat × Nat × Nat) (st' : SortSt) : Prop :=
  Lk st st' ∧ ∃ out ia ib mg ac bc, c = (none, out, ia, ib, mg, ac, bc) ∧ Mg org N a b out ia ib ∧ ia + 1 < a.size ∧ ib < b.size ∧ x + 2 ≤ ia + ib
abbrev LoQ (org : Keyed → Nat) (N : Nat) (a b : Array Keyed) (st : SortSt) (x : Nat) (c : Option (Array Keyed) × Array Keyed × Nat × Nat × Nat × Nat × Nat) (st' : SortSt) : Prop :=
  Lk st st' ∧ ((∃ r, c.1 = some r ∧ Mgd org N a b r) ∨ LoI org N a b st x c st')
theorem mergeLoP (t : Two org N a b) {st : SortSt} {Q : Array Keyed → SortSt → Prop} (hk : kindOf st = oneType') (h : ∀ out st', Lk st st' → Mgd org N a b out → Q out st') : wpS (model prog w) A E s (mergeLo' a b) Q st := by
  have get_b : ∀ {i}, i < b.size → ∃ p, b[i]? = some p := fun hi => ⟨_, getElem?_pos b _ hi⟩
  have get_a : ∀ {i}, i < a.size → ∃ p, a[i]? = some p := fun hi => ⟨_, getElem?_pos a _ hi⟩
  refine wpS_bind (wpS_lift (wpAny_rule ⟨rfl, ?_⟩))
  dsimp only
  obtain ⟨b0, hb0⟩ := get_b t.nb
  refine wpS_bind (elP hb0 ?_)
  have m0 : Mg org N a b #[b0] 0 1 := (Mg.zero t.na).pushB t hb0 fun j _ hj => t.head j hj
  refine wpS_ifeq (fun e => wpS_pure (h _ _ (.refl _) (m0.endB t e))) fun e1 => ?_
  refine wpS_ifeq (fun e => wpS_pure (h _ _ (.refl _) (m0.endL t e))) fun e2 => ?_
  refine wpS_bind (wpS_get ?_)
  have hna := t.na
  have hnb := t.nb
  refine wpS_bind (wpS_mono (wpS_forRange (I := fun x c st' => Lk st st' ∧ ∃ out ia ib mg, c = (none, out, ia, ib, mg) ∧ Mg org N a b out ia ib ∧ ia + 1 < a.size ∧ ib < b.size ∧ x + 1 ≤ ia + ib)
    (Q := fun c st' => Lk st st' ∧ ∃ r, c.1 = some r ∧ Mgd org N a b r) ?step ?fin ⟨.refl _, _, _, _, _, rfl, m0, by omega, by omega, by omega⟩) ?post)
  case post =>
    rintro ⟨r, c⟩ st' ⟨l, r', e, hm⟩
    cases e
    exact wpS_pure (h _ _ l hm)
  case fin =>
    rintro c st' ⟨l, out, ia, ib, mg, rfl, m, h1, h2, h3⟩
    omega
  case step =>
    rintro x c st1 _ hx ⟨l, out, ia, ib, mg, rfl, m, h1, h2, h3⟩
    dsimp only
    refine wpS_bind (wpS_mono (wpS_forRange (I := fun y c st' => Lk st st' ∧ ∃ out ia ib ac bc, c = (none, out, ia, ib, ac, bc) ∧ Mg org N a b out ia ib ∧ ia + 1 < a.size ∧ ib < b.size ∧ x + 1 + y ≤ ia + ib)
      (Q := fun c st' => Lk st st' ∧ ((∃ r, c.1 = some r ∧ Mgd org N a b r) ∨ (∃ out ia ib ac bc, c = (none, out, ia, ib, ac, bc) ∧ Mg org N a b out ia ib ∧ ia + 1 < a.size ∧ ib < b.size ∧ x + 2 ≤ ia + ib))) ?step1 ?fin1 ⟨l, _, _, _, _, _, rfl, m, h1, h2, by omega⟩) ?post1)
    case fin1 =>
      rintro c st' ⟨l, out, ia, ib, ac, bc, rfl, m, h1, h2, h3⟩
      exact ⟨l, .inr ⟨_, _, _, _, _, rfl, m, h1, h2, by omega⟩⟩
    case step1 =>
      rintro y c st2 _ hy ⟨l, out, ia, ib, ac, bc, rfl, m, h1, h2, h3⟩
      dsimp only
      obtain ⟨pb, hb⟩ := get_b h2
      obtain ⟨pa, ha⟩ := get_a (show ia < a.size by omega)
      refine wpS_bind (elP hb (wpS_bind (elP ha (wpS_bind (ltP (l.kind.trans hk) (ik_at t.kb hb) (ik_at t.ka ha) ?_)))))
      rw [← K_at hb, ← K_at ha]
      by_cases hlt : K b ib < K a ia
      · simp only [hlt, decide_true, if_true]
        refine wpS_bind (elP hb ?_)
        have m' := m.pushB t hb fun j h4 h5 => t.ba h5 h2 (Int.lt_of_lt_of_le hlt (t.ka' h4 h5))
        refine wpS_ifeq (fun e => wpS_pure ⟨l, .inl ⟨_, rfl, m'.endB t e⟩⟩) fun e => ?_
        refine wpS_if (fun _ => wpS_pure ⟨l, .inr ⟨_, _, _, _, _, rfl, m', h1, by omega, by omega⟩⟩) fun _ => wpS_pure ⟨l, _, _, _, _, _, rfl, m', h1, by omega, by omega⟩
      · simp only [hlt, decide_false, Bool.false_eq_true, if_false]
        refine wpS_bind (elP ha ?_)
        have m' := m.pushA t ha fun j h4 h5 => t.ab (by omega) h5 fun q => hlt (Int.lt_of_le_of_lt (t.kb' h4 h5) q)
        refine wpS_ifeq (fun e => wpS_pure ⟨l, .inl ⟨_, rfl, m'.endL t e⟩⟩) fun e => ?_
        refine wpS_if (fun _ => wpS_pure ⟨l, .inr ⟨_, _, _, _, _, rfl, m', by omega, h2, by omega⟩⟩) fun _ => wpS_pure ⟨l, _, _, _, _, _, rfl, m', by omega, h2, by omega⟩
    case post1 =>
      rintro c st2 ⟨l, (⟨r, e, hm⟩ | ⟨out, ia, ib, ac, bc, rfl, m, h1, h2, h3⟩)⟩
      · obtain ⟨r', c⟩ := c
        cases e
        exact wpS_pure ⟨l, _, rfl, hm⟩
      · dsimp only
        refine wpS_bind (wpS_lift (wpAny_rule ⟨rfl, ?_⟩))
        refine wpS_bind (wpS_mono (wpS_forRange (I := fun y c st' => LoI org N a b st x c st') (Q := LoQ org N a b st x) ?step2 ?fin2 ⟨l, _, _, _, _, _, _, rfl, m, h1, h2, by omega⟩) ?post2)
        case fin2 =>
          rintro c st' h
          exact ⟨h.1, .inr h⟩
        case post2 =>
          rintro c st3 ⟨l, (⟨r, e, hm⟩ | ⟨_, out, ia, ib, mg, ac, bc, rfl, m, h1, h2, h3⟩)⟩
          · obtain ⟨r', c⟩ := c
            cases e
            exact wpS_pure ⟨l, _, rfl, hm⟩
          · dsimp only
            exact wpS_bind (setMinP l fun st' l => wpS_pure ⟨l, _, _, _, _, rfl, m, h1, h2, by omega⟩)
        case step2 =>
          rintro y c st3 _ hy ⟨l, out, ia, ib, mg, ac, bc, rfl, m, h1, h2, h3⟩
          dsimp only
          obtain ⟨pb, hb⟩ := get_b h2
          refine wpS_if (fun _ => ?_) fun _ => ?_
          all_goals
            refine wpS_bind (setMinP l fun st4 l => ?_)
            refine wpS_bind (elP hb ?_)
            refine wpS_bind (gallopP (l.kind.trans hk) (ik_at t.kb hb) t.ka (by omega) (by omega) (fun i j q1 q2 q3 => ?_) fun k hk1 hk2 hk3 => ?_)
            · simp only [gb, Bool.false_eq_true, if_false, Bool.not_eq_true', decide_eq_false_iff_not] at q3 ⊢
              have := t.ka' (i := ia + i) (j := ia + j) (by omega) (by omega)
              omega
            · simp only [gb, Bool.false_eq_true, if_false, Bool.not_eq_true', Bool.not_eq_false', decide_eq_true_eq, decide_eq_false_iff_not, ← K_at hb] at hk2 hk3
              dsimp only
              have m2 := Mg.addA t k m (by omega) fun i j q1 q2 q3 => t.ab (by omega) q3 fun q => hk2 i q1 (Int.lt_of_le_of_lt (t.kb' q2 q3) q)
              refine wpS_if (fun hk0 => wpS_ifeq (fun e => wpS_pure ⟨l, .inl ⟨_, rfl, m2.endL t e⟩⟩) fun e => wpS_ifeq (fun e => wpS_pure ⟨l, .inl ⟨_, rfl, m2.endA t e⟩⟩) fun e' => ?_) fun hk0 => ?_
              have h1' : ia + k + 1 < a.size := by omega
              have hK : ∀ j, ia + k ≤ j → j < a.size → K b ib < K a j := fun j q1 q2 => by have := hk3 (j - ia) (by omega) (by omega); rwa [show ia + (j - ia) = j by omega] at this
              have hx : x + 2 ≤ ia + k + ib := by omega
              rotate_left
              have h1' := h1
              have hK : ∀ j, ia ≤ j → j < a.size → K b ib < K a j := fun j q1 q2 => by have := hk3 (j - ia) (by omega) (by omega); rwa [show ia + (j - ia) = j by omega] at this
              have m2 := m
              have hx := h3
              all_goals
                refine wpS_bind (elP hb ?_)
                have m3 := m2.pushB t hb fun j h5 h6 => t.ba h6 h2 (hK j h5 h6)
                refine wpS_ifeq (fun e => wpS_pure ⟨l, .inl ⟨_, rfl, m3.endB t e⟩⟩) fun e => ?_
                obtain ⟨pa, ha⟩ := get_a (Nat.lt_of_succ_lt h1')
                refine wpS_bind (elP ha ?_)
                refine wpS_bind (gallopP (l.kind.trans hk) (ik_at t.ka ha) t.kb (by omega) (by omega) (fun i j q1 q2 q3 => ?_) fun k' hk1' hk2' hk3' => ?_)
                · simp only [gb, if_true, decide_eq_true_eq] at q3 ⊢
                  exact Int.lt_of_le_of_lt (t.kb' (by omega) (by omega)) q3
                · simp only [gb, if_true, decide_eq_true_eq, decide_eq_false_iff_not, ← K_at ha] at hk2' hk3'
                  dsimp only
                  have m4 := Mg.addB t k' m3 (by omega) fun i j q1 q2 q3 => t.ba q3 (by omega) (Int.lt_of_lt_of_le (hk2' i q1) (t.ka' q2 q3))
                  refine wpS_if (fun hk0' => wpS_ifeq (fun e => wpS_pure ⟨l, .inl ⟨_, rfl, m4.endB t e⟩⟩) fun e => ?_) fun hk0' => ?_
                  have h2' : ib + 1 + k' < b.size := by omega
                  have hx' := hx
                  have hL : ∀ j, ib + 1 + k' ≤ j → j < b.size → ¬ K b j < K a _ := fun j q1 q2 => by have := hk3' (j - (ib + 1)) (by omega) (by omega); rwa [show ib + 1 + (j - (ib + 1)) = j by omega] at this
                  rotate_left
                  have h2' : ib + 1 < b.size := by omega
                  have hx' := hx
                  have hL : ∀ j, ib + 1 ≤ j → j < b.size → ¬ K b j < K a _ := fun j q1 q2 => by have := hk3' (j - (ib + 1)) (by omega) (by omega); rwa [show ib + 1 + (j - (ib + 1)) = j by omega] at this
                  have m4 := m3
                  all_goals
                    refine wpS_bind (elP ha ?_)
                    have m5 := m4.pushA t ha fun j q1 q2 => t.ab (Nat.lt_of_succ_lt h1') q2 (hL j q1 q2)
                    refine wpS_ifeq (fun e => wpS_pure ⟨l, .inl ⟨_, rfl, m5.endL t e⟩⟩) fun e => ?_
                    exact wpS_if (fun _ => wpS_pure ⟨l, .inr ⟨l, _, _, _, _, _, _, rfl, m5, by omega, h2', by omega⟩⟩) fun _ => wpS_pure ⟨l, _, _, _, _, _, _, rfl, m5, by omega, h2', by omega⟩
end
end Mine
namespace Mine
section
variable {prog : Program} {w : World} {A : Around} {E : Value → Shared → Prop} {s : Shared} {org : Keyed → Nat} {N : Nat} {a b out : Array Keyed}
theorem Mh.zero : Mh org N a b #[] a.size b.size := ⟨by omega, by omega, by simp, fun i j h1 h2 => by simp at h2, fun i j h1 => by simp at h1, fun i j h1 => by simp at h1⟩
theorem Mh.popA {na nb : Nat} (m : Mh org N a b out na nb) (t : Two org N a b) (h0 : 1 ≤ na) {p : Keyed} (hp : a[na - 1]? = some p) (h : ∀ j, j < nb → XA org N b j < XA org N a (na - 1)) : Mh org N a b (out.push p) (na - 1) nb := by
  refine Mh.pushA ?_ t hp h
  rwa [Nat.sub_add_cancel h0]
theorem Mh.popB {na nb : Nat} (m : Mh org N a b out na nb) (t : Two org N a b) (h0 : 1 ≤ nb) {p : Keyed} (hp : b[nb - 1]? = some p) (h : ∀ j, j < na → XA org N a j < XA org N b (nb - 1)) : Mh org N a b (out.push p) na (nb - 1) := by
  refine Mh.pushB ?_ t hp h
  rwa [Nat.sub_add_cancel h0]
theorem Mh.cutA {na nb k : Nat} (m : Mh org N a b out na nb) (t : Two org N a b) (h0 : k ≤ na) (h : ∀ i j, k ≤ i → i < na → j < nb → XA org N b j < XA org N a i) : Mh org N a b (out ++ (a.extract k na).reverse) k nb := by
  have := Mh.addA t (na - k) (na := k) (nb := nb) (out := out) (by rwa [show k + (na - k) = na by omega]) fun i j h1 h2 => h (k + i) j (by omega) (by omega) h2
  rwa [show k + (na - k) = na by omega] at this
theorem Mh.cutB {na nb k : Nat} (m : Mh org N a b out na nb) (t : Two org N a b) (h0 : k ≤ nb) (h : ∀ i j, k ≤ i → i < nb → j < na → XA org N a j < XA org N b i) : Mh org N a b (out ++ (b.extract k nb).reverse) na k := by
  have := Mh.addB t (nb - k) (nb := k) (na := na) (out := out) (by rwa [show k + (nb - k) = nb by omega]) fun i j h1 h2 => h (k + i) j (by omega) (by omega) h2
  rwa [show k + (nb - k) = nb by omega] at this
abbrev HiI (org : Keyed → Nat) (N : Nat) (a b : Array Keyed) (st : SortSt) (x : Nat) (c : Option (Array Keyed) × Nat × Nat × Array Keyed × Nat × Nat × Nat) (st' : SortSt) : Prop :=
  Lk st st' ∧ ∃ na nb out mg ac bc, c = (none, na, nb, out, mg, ac, bc) ∧ Mh org N a b out na nb ∧ 1 ≤ na ∧ 2 ≤ nb ∧ na + nb + x + 2 ≤ a.size + b.size
abbrev HiQ (org : Keyed → Nat) (N : Nat) (a b : Array Keyed) (st : SortSt) (x : Nat) (c : Option (Array Keyed) × Nat × Nat × Array Keyed × Nat × Nat × Nat) (st' : SortSt) : Prop :=
  Lk st st' ∧ ((∃ r, c.1 = some r ∧ Mgd org N a b r) ∨ HiI org N a b st x c st')
theorem mergeHiP (t : Two org N a b) {st : SortSt} {Q : Array Keyed → SortSt → Prop} (hk : kindOf st = oneType') (h : ∀ out st', Lk st st' → Mgd org N a b out → Q out st') : wpS (model prog w) A E s (mergeHi' a b) Q st := by
  have get_b : ∀ {i}, i < b.size → ∃ p, b[i]? = some p := fun hi => ⟨_, getElem?_pos b _ hi⟩
  have get_a : ∀ {i}, i < a.size → ∃ p, a[i]? = some p := fun hi => ⟨_, getElem?_pos a _ hi⟩
  have hna := t.na
  have hnb := t.nb
  refine wpS_bind (wpS_lift (wpAny_rule ⟨rfl, ?_⟩))
  dsimp only
  obtain ⟨a0, ha0⟩ := get_a (show a.size - 1 < a.size by omega)
  refine wpS_bind (elP ha0 ?_)
  have m0 : Mh org N a b #[a0] (a.size - 1) b.size := (Mh.zero (org := org) (N := N) (a := a) (b := b)).popA t hna ha0 fun j hj => t.last j hj
  refine wpS_ifeq (fun e => wpS_pure (h _ _ (.refl _) (m0.endA t e))) fun e1 => ?_
  refine wpS_ifeq (fun e => wpS_pure (h _ _ (.refl _) (m0.endF t e))) fun e2 => ?_
  refine wpS_bind (wpS_get ?_)
  refine wpS_bind (wpS_mono (wpS_forRange (I := fun x c st' => Lk st st' ∧ ∃ na nb out mg, c = (none, na, nb, out, mg) ∧ Mh org N a b out na nb ∧ 1 ≤ na ∧ 2 ≤ nb ∧ na + nb + x + 1 ≤ a.size + b.size)
    (Q := fun c st' => Lk st st' ∧ ∃ r, c.1 = some r ∧ Mgd org N a b r) ?step ?fin ⟨.refl _, _, _, _, _, rfl, m0, by omega, by omega, by omega⟩) ?post)
  case post =>
    rintro ⟨r, c⟩ st' ⟨l, r', e, hm⟩
    cases e
    exact wpS_pure (h _ _ l hm)
  case fin =>
    rintro c st' ⟨l, na, nb, out, mg, rfl, m, h1, h2, h3⟩
    omega
  case step =>
    rintro x c st1 _ hx ⟨l, na, nb, out, mg, rfl, m, h1, h2, h3⟩
    dsimp only
    have hma := m.ha
    have hmb := m.hb
    refine wpS_bind (wpS_mono (wpS_forRange (I := fun y c st' => Lk st st' ∧ ∃ na nb out ac bc, c = (none, na, nb, out, ac, bc) ∧ Mh org N a b out na nb ∧ 1 ≤ na ∧ 2 ≤ nb ∧ na + nb + x + 1 + y ≤ a.size + b.size)
      (Q := fun c st' => Lk st st' ∧ ((∃ r, c.1 = some r ∧ Mgd org N a b r) ∨ (∃ na nb out ac bc, c = (none, na, nb, out, ac, bc) ∧ Mh org N a b out na nb ∧ 1 ≤ na ∧ 2 ≤ nb ∧ na + nb + x + 2 ≤ a.size + b.size))) ?step1 ?fin1 ⟨l, _, _, _, _, _, rfl, m, h1, h2, by omega⟩) ?post1)
    case fin1 =>
      rintro c st' ⟨l, na, nb, out, ac, bc, rfl, m, h1, h2, h3⟩
      exact ⟨l, .inr ⟨_, _, _, _, _, rfl, m, h1, h2, by omega⟩⟩
    case step1 =>
      rintro y c st2 _ hy ⟨l, na, nb, out, ac, bc, rfl, m, h1, h2, h3⟩
      dsimp only
      have hma := m.ha
      have hmb := m.hb
      obtain ⟨pb, hb⟩ := get_b (show nb - 1 < b.size by omega)
      obtain ⟨pa, ha⟩ := get_a (show na - 1 < a.size by omega)
      refine wpS_bind (elP hb (wpS_bind (elP ha (wpS_bind (ltP (l.kind.trans hk) (ik_at t.kb hb) (ik_at t.ka ha) ?_)))))
      rw [← K_at hb, ← K_at ha]
      by_cases hlt : K b (nb - 1) < K a (na - 1)
      · simp only [hlt, decide_true, if_true]
        refine wpS_bind (elP ha ?_)
        have m' := m.popA t h1 ha fun j h5 => t.ba (by omega) (by omega) (Int.lt_of_le_of_lt (t.kb' (by omega) (by omega)) hlt)
        refine wpS_ifeq (fun e => wpS_pure ⟨l, .inl ⟨_, rfl, m'.endA t e⟩⟩) fun e => ?_
        refine wpS_if (fun _ => wpS_pure ⟨l, .inr ⟨_, _, _, _, _, rfl, m', by omega, by omega, by omega⟩⟩) fun _ => wpS_pure ⟨l, _, _, _, _, _, rfl, m', by omega, by omega, by omega⟩
      · simp only [hlt, decide_false, Bool.false_eq_true, if_false]
        refine wpS_bind (elP hb ?_)
        have m' := m.popB t (by omega) hb fun j h5 => t.ab (by omega) (by omega) fun q => hlt (Int.lt_of_lt_of_le q (t.ka' (by omega) (by omega)))
        refine wpS_ifeq (fun e => wpS_pure ⟨l, .inl ⟨_, rfl, m'.endF t e⟩⟩) fun e => ?_
        refine wpS_if (fun _ => wpS_pure ⟨l, .inr ⟨_, _, _, _, _, rfl, m', by omega, by omega, by omega⟩⟩) fun _ => wpS_pure ⟨l, _, _, _, _, _, rfl, m', by omega, by omega, by omega⟩
    case post1 =>
      rintro c st2 ⟨l, (⟨r, e, hm⟩ | ⟨na, nb, out, ac, bc, rfl, m, h1, h2, h3⟩)⟩
      · obtain ⟨r', c⟩ := c
        cases e
        exact wpS_pure ⟨l, _, rfl, hm⟩
      · dsimp only
        refine wpS_bind (wpS_lift (wpAny_rule ⟨rfl, ?_⟩))
        refine wpS_bind (wpS_mono (wpS_forRange (I := fun y c st' => HiI org N a b st x c st') (Q := HiQ org N a b st x) ?step2 ?fin2 ⟨l, _, _, _, _, _, _, rfl, m, h1, h2, by omega⟩) ?post2)
        case fin2 =>
          rintro c st' h
          exact ⟨h.1, .inr h⟩
        case post2 =>
          rintro c st3 ⟨l, (⟨r, e, hm⟩ | ⟨_, na, nb, out, mg, ac, bc, rfl, m, h1, h2, h3⟩)⟩
          · obtain ⟨r', c⟩ := c
            cases e
            exact wpS_pure ⟨l, _, rfl, hm⟩
          · dsimp only
            exact wpS_bind (setMinP l fun st' l => wpS_pure ⟨l, _, _, _, _, rfl, m, h1, h2, by omega⟩)
        case step2 =>
          rintro y c st3 _ hy ⟨l, na, nb, out, mg, ac, bc, rfl, m, h1, h2, h3⟩
          dsimp only
          have hma := m.ha
          have hmb := m.hb
          obtain ⟨pb, hb⟩ := get_b (show nb - 1 < b.size by omega)
          refine wpS_if (fun _ => ?_) fun _ => ?_
          all_goals
            refine wpS_bind (setMinP l fun st4 l => ?_)
            refine wpS_bind (elP hb ?_)
            refine wpS_bind (gallopP (l.kind.trans hk) (ik_at t.kb hb) t.ka (by omega) (by omega) (fun i j q1 q2 q3 => ?_) fun k hk1 hk2 hk3 => ?_)
            · simp only [gb, Bool.false_eq_true, if_false, Bool.not_eq_true', decide_eq_false_iff_not, Nat.zero_add] at q3 ⊢
              have := t.ka' (i := i) (j := j) (by omega) (by omega)
              omega
            · simp only [gb, Bool.false_eq_true, if_false, Bool.not_eq_true', Bool.not_eq_false', decide_eq_true_eq, decide_eq_false_iff_not, Nat.zero_add, ← K_at hb] at hk2 hk3
              dsimp only
              have m2 := m.cutA t hk1 fun i j q1 q2 q3 => t.ba (by omega) (by omega) (Int.lt_of_le_of_lt (t.kb' (by omega) (by omega)) (hk3 i q1 q2))
              refine wpS_if (fun hk0 => wpS_ifeq (fun e => wpS_pure ⟨l, .inl ⟨_, rfl, m2.endA t e⟩⟩) fun e => ?_) fun hk0 => ?_
              have h1' : 1 ≤ k := by omega
              have hx : k + nb + x + 2 ≤ a.size + b.size := by omega
              have hK : ∀ j, j < k → ¬ K b (nb - 1) < K a j := fun j q1 => hk2 j q1
              have hkn : k ≤ na := hk1
              rotate_left
              have h1' : 1 ≤ na := h1
              have hx : na + nb + x + 2 ≤ a.size + b.size := h3
              have hK : ∀ j, j < na → ¬ K b (nb - 1) < K a j := fun j q1 => hk2 j (by omega)
              have hkn : na ≤ na := Nat.le_refl _
              have m2 := m
              all_goals
                refine wpS_bind (elP hb ?_)
                have m3 := m2.popB t (by omega) hb fun j q1 => t.ab (Nat.lt_of_lt_of_le q1 (Nat.le_trans hkn hma)) (by omega) (hK j q1)
                refine wpS_ifeq (fun e => wpS_pure ⟨l, .inl ⟨_, rfl, m3.endF t e⟩⟩) fun e => ?_
                obtain ⟨pa, ha⟩ := get_a (Nat.lt_of_lt_of_le (Nat.sub_lt h1' Nat.zero_lt_one) (Nat.le_trans hkn hma))
                refine wpS_bind (elP ha ?_)
                refine wpS_bind (gallopP (l.kind.trans hk) (ik_at t.ka ha) t.kb (by omega) (by omega) (fun i j q1 q2 q3 => ?_) fun k' hk1' hk2' hk3' => ?_)
                · simp only [gb, if_true, decide_eq_true_eq, Nat.zero_add] at q3 ⊢
                  exact Int.lt_of_le_of_lt (t.kb' (by omega) (by omega)) q3
                · simp only [gb, if_true, decide_eq_true_eq, decide_eq_false_iff_not, Nat.zero_add, ← K_at ha] at hk2' hk3'
                  dsimp only
                  have m4 := m3.cutB t hk1' fun i j q1 q2 q3 => t.ab (by omega) (by omega) fun q => hk3' i q1 q2 (Int.lt_of_lt_of_le q (t.ka' (by omega) (by omega)))
                  refine wpS_if (fun hk0' => wpS_ifeq (fun e => wpS_pure ⟨l, .inl ⟨_, rfl, m4.endF t e⟩⟩) fun e => wpS_ifeq (fun e => wpS_pure ⟨l, .inl ⟨_, rfl, m4.endB t e⟩⟩) fun e' => ?_) fun hk0' => ?_
                  have h2' : 2 ≤ k' := by omega
                  have hx' := hx
                  have hL : ∀ j, j < k' → K b j < K a _ := fun j q1 => hk2' j q1
                  have hkb : k' ≤ nb - 1 := hk1'
                  rotate_left
                  have h2' : 2 ≤ nb - 1 := by omega
                  have hx' := hx
                  have hL : ∀ j, j < nb - 1 → K b j < K a _ := fun j q1 => hk2' j (by omega)
                  have hkb : nb - 1 ≤ nb - 1 := Nat.le_refl _
                  have m4 := m3
                  all_goals
                    refine wpS_bind (elP ha ?_)
                    have m5 := m4.popA t h1' ha fun j q1 => t.ba (by omega) (by omega) (hL j q1)
                    refine wpS_ifeq (fun e => wpS_pure ⟨l, .inl ⟨_, rfl, m5.endA t e⟩⟩) fun e => ?_
                    exact wpS_if (fun _ => wpS_pure ⟨l, .inr ⟨l, _, _, _, _, _, _, rfl, m5, by omega, h2', by omega⟩⟩) fun _ => wpS_pure ⟨l, _, _, _, _, _, _, rfl, m5, by omega, h2', by omega⟩
end
end Mine
namespace Mine
theorem put_at {c : Nat} (i : Nat) : ∀ (l : List Keyed) (xs : Array Keyed) (n : Nat), c + n + l.length ≤ xs.size →
    ((l.zipIdx n).foldl (fun a x => match x with | (p, j) => a.setIfInBounds (c + j) p) xs)[i]? = if c + n ≤ i ∧ i < c + n + l.length then l[i - (c + n)]? else xs[i]?
  | [], xs, n, _ => by rw [if_neg (by simp)]; rfl
  | p :: l, xs, n, hs => by
    rw [List.length_cons] at hs
    rw [List.zipIdx_cons, List.foldl_cons]
    rw [put_at i l _ (n + 1) (by simp; omega)]
    by_cases h1 : c + (n + 1) ≤ i ∧ i < c + (n + 1) + l.length
    · rw [if_pos h1, if_pos (by rw [List.length_cons]; omega), show i - (c + n) = i - (c + (n + 1)) + 1 by omega, List.getElem?_cons_succ]
    · rw [if_neg h1]
      by_cases h2 : i = c + n
      · subst h2
        rw [if_pos (by rw [List.length_cons]; omega), Nat.sub_self, Array.getElem?_setIfInBounds, if_pos rfl, if_pos (by omega)]
        rfl
      · rw [if_neg (by rw [List.length_cons]; omega), Array.getElem?_setIfInBounds, if_neg (by omega)]
theorem put_list {c : Nat} {m xs : Array Keyed} (hs : c + m.size ≤ xs.size) :
    (m.toList.zipIdx.foldl (fun a x => match x with | (p, j) => a.setIfInBounds (c + j) p) xs).toList = xs.toList.take c ++ (m.toList ++ xs.toList.drop (c + m.size)) := by
  apply List.ext_getElem?
  intro i
  have := put_at (c := c) i m.toList xs 0 (by simpa using hs)
  rw [Array.getElem?_toList, this]
  simp only [Nat.add_zero, Array.length_toList]
  by_cases h1 : i < c
  · rw [if_neg (by omega), List.getElem?_append_left (by simp; omega)]
    simp [h1]
  · rw [List.getElem?_append_right (by simp; omega)]
    have e : (xs.toList.take c).length = c := by simp; omega
    rw [e]
    by_cases h2 : i < c + m.size
    · rw [if_pos ⟨by omega, h2⟩, List.getElem?_append_left (by simp; omega)]
    · rw [if_neg (by omega), List.getElem?_append_right (by simp; omega)]
      simp
      congr 1
      omega
def Asc (org : Keyed → Nat) (N : Nat) (l : List Keyed) : Prop := l.Pairwise fun p q => Xp org N p < Xp org N q
section
variable {org : Keyed → Nat} {N : Nat} {xs : Array Keyed}
theorem XA_get {i : Nat} (h : i < xs.size) : XA org N xs i = Xp org N xs[i] := XA_at (getElem?_pos xs i h)
theorem asc_of (h : ∀ i j, i < j → j < xs.size → XA org N xs i < XA org N xs j) : Asc org N xs.toList := by
  unfold Asc
  rw [List.pairwise_iff_getElem]
  intro i j hi hj hij
  have hi' : i < xs.size := by simpa using hi
  have hj' : j < xs.size := by simpa using hj
  have := h i j hij hj'
  rw [XA_get hi', XA_get hj'] at this
  simpa using this
theorem mem_seg {i j : Nat} {p : Keyed} (h : p ∈ (xs.extract i j).toList) : ∃ k, i ≤ k ∧ k < j ∧ xs[k]? = some p := by
  obtain ⟨k, hk⟩ := List.mem_iff_getElem?.mp h
  have e : (xs.extract i j)[k]? = some p := by rw [← Array.getElem?_toList]; exact hk
  rw [Array.getElem?_extract] at e
  split at e
  · exact ⟨i + k, by omega, by omega, e⟩
  · cases e
theorem mem_take' {c : Nat} {p : Keyed} (h : p ∈ xs.toList.take c) : ∃ k, k < c ∧ xs[k]? = some p := by
  obtain ⟨k, hk⟩ := List.mem_iff_getElem?.mp h
  rw [List.getElem?_take] at hk
  split at hk
  · exact ⟨k, by assumption, by simpa using hk⟩
  · cases hk
theorem mem_drop' {c : Nat} {p : Keyed} (h : p ∈ xs.toList.drop c) : ∃ k, c ≤ k ∧ xs[k]? = some p := by
  obtain ⟨k, hk⟩ := List.mem_iff_getElem?.mp h
  rw [List.getElem?_drop] at hk
  exact ⟨c + k, by omega, by simpa using hk⟩
end
/-- two runs, one behind the other -/
structure Runs (org : Keyed → Nat) (a₀ : Array Keyed) (n : Nat) (xs : Array Keyed) : Prop where
  n0 : 0 < n
  n1 : n < a₀.size
  s1 : ∀ i j, i < j → j < n → XA org a₀.size xs i < XA org a₀.size xs j
  s2 : ∀ i j, n ≤ i → i < j → j < a₀.size → XA org a₀.size xs i < XA org a₀.size xs j
  o1 : ∀ i, i < n → OA org xs i < n
  o2 : ∀ i, n ≤ i → i < a₀.size → n ≤ OA org xs i ∧ OA org xs i < a₀.size
section
variable {org : Keyed → Nat} {a₀ xs : Array Keyed} {n : Nat}
theorem Runs.k1 (r : Runs org a₀ n xs) {i j : Nat} (h : i ≤ j) (hj : j < n) : K xs i ≤ K xs j := by
  by_cases e : i = j
  · subst e; exact Int.le_refl _
  · exact K_of_X (r.s1 i j (by omega) hj) (Nat.lt_trans (r.o1 j hj) r.n1)
theorem Runs.k2 (r : Runs org a₀ n xs) {i j : Nat} (h0 : n ≤ i) (h : i ≤ j) (hj : j < a₀.size) : K xs i ≤ K xs j := by
  by_cases e : i = j
  · subst e; exact Int.le_refl _
  · exact K_of_X (r.s2 i j h0 (by omega) hj) (r.o2 j (by omega) hj).2
theorem Runs.lt (r : Runs org a₀ n xs) {i j : Nat} (hi : i < n) (h0 : n ≤ j) (hj : j < a₀.size) (h : K xs i ≤ K xs j) : XA org a₀.size xs i < XA org a₀.size xs j :=
  lex2 h (by have := r.o1 i hi; have := r.o2 j h0 hj; omega) (Nat.lt_trans (r.o1 i hi) r.n1)
theorem Runs.gt (r : Runs org a₀ n xs) {i j : Nat} (hi : i < n) (h0 : n ≤ j) (hj : j < a₀.size) (h : K xs j < K xs i) : XA org a₀.size xs j < XA org a₀.size xs i :=
  lex1 h (r.o2 j h0 hj).2
/-- nothing to merge -/
theorem Runs.flat (r : Runs org a₀ n xs) (hs : xs.size = a₀.size) (h : K xs (n - 1) ≤ K xs n) : Asc org a₀.size xs.toList := asc_of fun i j h1 h2 => by
  have := r.n0
  rw [hs] at h2
  by_cases q : j < n
  · exact r.s1 i j h1 q
  · by_cases q2 : n ≤ i
    · exact r.s2 i j q2 h1 h2
    · exact r.lt (by omega) (by omega) h2 (Int.le_trans (r.k1 (by omega) (by omega)) (Int.le_trans h (r.k2 (Nat.le_refl _) (by omega) h2)))
theorem ext_at {xs : Array Keyed} {i j k : Nat} (h : i + k < j) : (xs.extract i j)[k]? = xs[i + k]? := by
  rw [Array.getElem?_extract]
  split
  · rfl
  · rw [Array.getElem?_eq_none (by omega)]
theorem ext_size {xs : Array Keyed} {i j : Nat} (h : j ≤ xs.size) : (xs.extract i j).size = j - i := by rw [Array.size_extract]; omega
theorem ext_sub {xs : Array Keyed} {i j : Nat} {p : Keyed} (h : p ∈ (xs.extract i j).toList) : p ∈ xs.toList := by
  obtain ⟨k, _, _, e⟩ := mem_seg h
  obtain ⟨hk, e⟩ := Array.getElem?_eq_some_iff.mp e
  rw [← e]; simp
theorem Runs.two (r : Runs org a₀ n xs) (hs : xs.size = a₀.size) (hi : IntKeys xs) {k nb : Nat} (hk : k < n) (hb : 0 < nb) (hb2 : n + nb ≤ a₀.size) (h1 : ∀ i, k ≤ i → i < n → K xs n < K xs i) (h2 : ∀ i, i < nb → K xs (n + i) < K xs (n - 1)) :
    Two org a₀.size (xs.extract k n) (xs.extract n (n + nb)) := by
  have ha : (xs.extract k n).size = n - k := ext_size (by rw [hs]; have := r.n1; omega)
  have hb' : (xs.extract n (n + nb)).size = nb := by rw [ext_size (by omega)]; omega
  refine ⟨fun i j q1 q2 => ?_, fun i j q1 q2 => ?_, fun p hp => hi p (ext_sub hp), fun p hp => hi p (ext_sub hp), fun i q => ?_, fun i q => ?_, fun i j q1 q2 => ?_, fun j q => ?_, fun j q => ?_, by omega, by omega⟩
  · rw [ha] at q2
    rw [XA_congr (ext_at (by omega)), XA_congr (ext_at (by omega))]
    exact r.s1 _ _ (by omega) (by omega)
  · rw [hb'] at q2
    rw [XA_congr (ext_at (by omega)), XA_congr (ext_at (by omega))]
    exact r.s2 _ _ (by omega) (by omega) (by omega)
  · rw [ha] at q
    rw [OA_congr (ext_at (by omega))]
    exact Nat.lt_trans (r.o1 _ (by omega)) r.n1
  · rw [hb'] at q
    rw [OA_congr (ext_at (by omega))]
    exact (r.o2 _ (by omega) (by omega)).2
  · rw [ha] at q1
    rw [hb'] at q2
    rw [OA_congr (ext_at (by omega)), OA_congr (ext_at (by omega))]
    have := r.o1 (k + i) (by omega)
    have := r.o2 (n + j) (by omega) (by omega)
    omega
  · rw [ha] at q
    rw [XA_congr (ext_at (by omega)), XA_congr (ext_at (by omega))]
    exact r.gt (by omega) (by omega) (by omega) (h1 _ (by omega) (by omega))
  · rw [hb'] at q
    rw [ha, XA_congr (ext_at (by omega)), XA_congr (ext_at (by omega)), show k + (n - k - 1) = n - 1 by omega]
    exact r.gt (by omega) (by omega) (by omega) (h2 _ q)
theorem Runs.put (r : Runs org a₀ n xs) (hs : xs.size = a₀.size) {k nb : Nat} {m : Array Keyed} (hk : k < n) (hb2 : n + nb ≤ a₀.size) (h1 : ∀ i, i < k → K xs i ≤ K xs n) (h2 : ∀ i, n + nb ≤ i → i < a₀.size → K xs (n - 1) ≤ K xs i)
    (hm : Mgd org a₀.size (xs.extract k n) (xs.extract n (n + nb)) m) :
    m.size = n + nb - k ∧ Asc org a₀.size (xs.toList.take k ++ (m.toList ++ xs.toList.drop (k + m.size))) ∧ (xs.toList.take k ++ (m.toList ++ xs.toList.drop (k + m.size))).Perm xs.toList := by
  have := r.n1
  have ha : (xs.extract k n).size = n - k := ext_size (by omega)
  have hb' : (xs.extract n (n + nb)).size = nb := by rw [ext_size (by omega)]; omega
  have hms : m.size = n + nb - k := by
    have := hm.perm.length_eq
    rw [List.length_append, Array.length_toList, Array.length_toList, Array.length_toList, ha, hb'] at this
    omega
  have hmem : ∀ p, p ∈ m.toList → ∃ i, k ≤ i ∧ i < n + nb ∧ xs[i]? = some p := fun p hp => by
    rcases List.mem_append.mp (hm.perm.mem_iff.mp hp) with q | q
    · obtain ⟨i, q1, q2, q3⟩ := mem_seg q; exact ⟨i, q1, by omega, q3⟩
    · obtain ⟨i, q1, q2, q3⟩ := mem_seg q; exact ⟨i, by omega, q2, q3⟩
  have lo : ∀ i j, i < k → k ≤ j → j < a₀.size → XA org a₀.size xs i < XA org a₀.size xs j := fun i j q1 q2 q3 => by
    by_cases q : j < n
    · exact r.s1 _ _ (by omega) q
    · exact r.lt (by omega) (by omega) q3 (Int.le_trans (h1 i q1) (r.k2 (Nat.le_refl _) (by omega) q3))
  have hi : ∀ i j, i < n + nb → n + nb ≤ j → j < a₀.size → XA org a₀.size xs i < XA org a₀.size xs j := fun i j q1 q2 q3 => by
    by_cases q : i < n
    · exact r.lt q (by omega) q3 (Int.le_trans (r.k1 (by omega) (by have := r.n0; omega)) (h2 j q2 q3))
    · exact r.s2 _ _ (by omega) (by omega) q3
  have lt_of : ∀ {i p}, xs[i]? = some p → i < a₀.size := fun h => by rw [← hs]; exact (Array.getElem?_eq_some_iff.mp h).1
  refine ⟨hms, ?_, ?_⟩
  · have e : k + m.size = n + nb := by omega
    rw [e]
    refine List.pairwise_append.mpr ⟨?_, List.pairwise_append.mpr ⟨asc_of hm.srt, ?_, fun p hp q hq => ?_⟩, fun p hp q hq => ?_⟩
    · have := asc_of (org := org) (N := a₀.size) (xs := xs.extract 0 k) fun i j q1 q2 => by
        rw [ext_size (by omega)] at q2
        rw [XA_congr (ext_at (by omega)), XA_congr (ext_at (by omega))]
        exact r.s1 _ _ (by omega) (by omega)
      unfold Asc at this
      simpa [List.extract_eq_take_drop] using this
    · have := asc_of (org := org) (N := a₀.size) (xs := xs.extract (n + nb) xs.size) fun i j q1 q2 => by
        rw [ext_size (by omega)] at q2
        rw [XA_congr (ext_at (by omega)), XA_congr (ext_at (by omega))]
        exact r.s2 _ _ (by omega) (by omega) (by omega)
      unfold Asc at this
      have e2 : (xs.extract (n + nb) xs.size).toList = xs.toList.drop (n + nb) := by
        rw [Array.toList_extract, List.extract_eq_take_drop, List.take_of_length_le (by simp)]
      rwa [e2] at this
    · obtain ⟨i, q1, q2, q3⟩ := hmem p hp
      obtain ⟨j, q4, q5⟩ := mem_drop' hq
      rw [← XA_at q3, ← XA_at q5]
      exact hi i j q2 q4 (lt_of q5)
    · obtain ⟨i, q1, q2⟩ := mem_take' hp
      rw [← XA_at q2]
      rcases List.mem_append.mp hq with hq | hq
      · obtain ⟨j, q3, q4, q5⟩ := hmem q hq
        rw [← XA_at q5]
        exact lo i j q1 q3 (lt_of q5)
      · obtain ⟨j, q4, q5⟩ := mem_drop' hq
        rw [← XA_at q5]
        exact lo i j q1 (by omega) (lt_of q5)
  · have e : k + m.size = n + nb := by omega
    rw [e]
    have e1 : xs.toList = xs.toList.take k ++ ((xs.extract k n).toList ++ (xs.extract n (n + nb)).toList ++ xs.toList.drop (n + nb)) := by
      rw [Array.toList_extract, Array.toList_extract]
      simp only [List.extract_eq_take_drop]
      have f1 : xs.toList.drop n = (xs.toList.drop n).take (n + nb - n) ++ xs.toList.drop (n + nb) := by
        conv => lhs; rw [← List.take_append_drop (n + nb - n) (xs.toList.drop n)]
        rw [List.drop_drop, show n + (n + nb - n) = n + nb by omega]
      have f2 : xs.toList.drop k = (xs.toList.drop k).take (n - k) ++ xs.toList.drop n := by
        conv => lhs; rw [← List.take_append_drop (n - k) (xs.toList.drop k)]
        rw [List.drop_drop, show k + (n - k) = n by omega]
      rw [List.append_assoc, ← f1, ← f2, List.take_append_drop]
    conv => rhs; rw [e1]
    exact List.Perm.append_left _ (hm.perm.append_right _)
end
end Mine
namespace Mine
section
variable {prog : Program} {w : World} {A : Around} {E : Value → Shared → Prop} {s : Shared} {org : Keyed → Nat} {a₀ : Array Keyed} {n : Nat}
theorem wpS_set {σ : Type} {M : Model} {st st' : σ} {Q : PUnit → σ → Prop} (h : Q ⟨⟩ st') : wpS M A E s (set st' : StateT σ Sem PUnit) Q st := by
  unfold wpS; rw [StateT.run_set]; exact wpAny_pure ⟨rfl, h⟩
structure SZ (org : Keyed → Nat) (a₀ : Array Keyed) (st : SortSt) : Prop where
  perm : (arrOf st).Perm a₀
  failed : failedOf st = none
  pend : (pendingOf st).size ≤ 1
  asc : Asc org a₀.size (arrOf st).toList
theorem mergeAtP {n2 pw : Nat} {xs : Array Keyed} {mg : Nat} {Q : Bool → SortSt → Prop} (g : Og org a₀) (hp : xs.Perm a₀) (r : Runs org a₀ n xs) (hn : n + n2 = a₀.size)
    (h : ∀ st', SZ org a₀ st' → Q true st') : wpS (model prog w) A E s (mergeAt' 0) Q (SortSt.mk' oneType' xs #[(0, n, pw), (n, n2, 0)] mg none) := by
  have hs : xs.size = a₀.size := hp.size_eq
  have ik : IntKeys xs := fun p q => perm_int hp g.keys q
  have n0 := r.n0
  have n1 := r.n1
  have get : ∀ {i}, i < a₀.size → ∃ p, xs[i]? = some p := fun hi => ⟨_, getElem?_pos xs _ (by omega)⟩
  refine wpS_bind (wpS_get ?_)
  dsimp only
  simp only [List.getElem?_toArray, List.getElem?_cons_zero, List.getElem?_cons_succ, Nat.zero_add]
  have hpd : ((#[(0, n, pw), (n, n2, 0)] : Array (Nat × Nat × Nat)).setIfInBounds 0 (0, n + n2, pw)).eraseIdxIfInBounds 1 = #[(0, n + n2, pw)] := by
    apply Array.toList_inj.mp
    simp [Array.eraseIdxIfInBounds]
  rw [hpd]
  refine wpS_bind (wpS_set ?_)
  obtain ⟨pb, hb⟩ := get (show n < a₀.size from n1)
  refine wpS_bind (elP hb ?_)
  refine wpS_bind (gallopP rfl (ik_at ik hb) ik (by omega) n0 (fun i j q1 q2 q3 => ?_) fun k hk1 hk2 hk3 => ?_)
  · simp only [gb, Bool.false_eq_true, if_false, Bool.not_eq_true', decide_eq_false_iff_not, Nat.zero_add] at q3 ⊢
    have := r.k1 (i := i) (j := j) (by omega) (by omega)
    omega
  simp only [gb, Bool.false_eq_true, if_false, Bool.not_eq_true', Bool.not_eq_false', decide_eq_true_eq, decide_eq_false_iff_not, Nat.zero_add, ← K_at hb] at hk2 hk3
  dsimp only
  refine wpS_ifeq (fun e => wpS_pure (h _ ⟨hp, rfl, Nat.le_refl 1, r.flat hs ?_⟩)) fun e => ?_
  · have := hk2 (n - 1) (by omega)
    show K xs (n - 1) ≤ K xs n
    omega
  have hkn : k < n := by omega
  obtain ⟨pa, ha⟩ := get (show n - 1 < a₀.size by omega)
  rw [show k + (n - k) - 1 = n - 1 by omega]
  refine wpS_bind (elP ha ?_)
  refine wpS_bind (gallopP rfl (ik_at ik ha) ik (by omega) (by omega) (fun i j q1 q2 q3 => ?_) fun nb hb1 hb2 hb3 => ?_)
  · simp only [gb, if_true, decide_eq_true_eq] at q3 ⊢
    exact Int.lt_of_le_of_lt (r.k2 (by omega) (by omega) (by omega)) q3
  simp only [gb, if_true, decide_eq_true_eq, decide_eq_false_iff_not, ← K_at ha] at hb2 hb3
  dsimp only
  refine wpS_ifeq (fun e => wpS_pure (h _ ⟨hp, rfl, Nat.le_refl 1, r.flat hs ?_⟩)) fun e => ?_
  · have := hb3 0 (by omega) (by omega)
    rw [Nat.add_zero] at this
    show K xs (n - 1) ≤ K xs n
    omega
  have two := r.two hs ik (k := k) (nb := nb) hkn (by omega) (by omega) (fun i q1 q2 => hk3 i q1 q2) hb2
  have fin : ∀ out st', Lk (SortSt.mk' oneType' xs #[(0, n + n2, pw)] mg none) st' → Mgd org a₀.size (xs.extract k n) (xs.extract n (n + nb)) out →
      SZ org a₀ (setArr st' (out.toList.zipIdx.foldl (fun a x => match x with | (p, j) => a.setIfInBounds (k + j) p) (arrOf st'))) := fun out st' l hm => by
    obtain ⟨hms, hasc, hperm⟩ := r.put hs hkn (by omega) (fun i q => Int.not_lt.mp (hk2 i q)) (fun i q1 q2 => Int.not_lt.mp (by have := hb3 (i - n) (by omega) (by omega); rwa [show n + (i - n) = i by omega] at this)) hm
    have e : arrOf st' = xs := l.arr
    have hpl := put_list (c := k) (m := out) (xs := xs) (by omega)
    refine ⟨?_, l.failed, ?_, ?_⟩
    · show (out.toList.zipIdx.foldl _ (arrOf st')).Perm a₀
      rw [e]
      refine Array.Perm.trans (Array.perm_iff_toList_perm.mpr ?_) hp
      rw [hpl]
      exact hperm
    · show (pendingOf st').size ≤ 1
      rw [l.pend]
      exact Nat.le_refl 1
    · show Asc _ _ (out.toList.zipIdx.foldl _ (arrOf st')).toList
      rw [e, hpl]
      exact hasc
  refine wpS_if (fun _ => wpS_bind (mergeLoP two rfl fun out st' l hm => ?_)) fun _ => wpS_bind (mergeHiP two rfl fun out st' l hm => ?_)
  all_goals
    refine wpS_bind (wpS_modify (wpS_bind (wpS_get ?_)))
    have hz := fin out st' l hm
    refine wpS_pure ?_
    have := h _ hz
    have e : failedOf st' = none := l.failed
    show Q (failedOf st').isNone _
    rw [e]
    exact this
end
end Mine
namespace Mine
section
variable {prog : Program} {w : World} {A : Around} {E : Value → Shared → Prop} {s : Shared} {org : Keyed → Nat} {a₀ : Array Keyed}
theorem minRun_le {n : Nat} (h2 : 2 ≤ n) (h : n < 128) : n ≤ 2 * minRun' n n 0 := by
  obtain ⟨f, hf⟩ : ∃ f, n = f + 2 := ⟨n - 2, by omega⟩
  have e : minRun' (f + 1 + 1) n 0 = if n < 64 then n + 0 else minRun' (f + 1) (n / 2) (max 0 (n % 2)) := minRun'_succ _ _ _
  rw [show f + 1 + 1 = n by omega] at e
  rw [e]
  by_cases q : n < 64
  · rw [if_pos q]; omega
  · rw [if_neg q, minRun'_succ, if_pos (by omega)]; omega
/-- one run is left, or two -/
structure R2 (org : Keyed → Nat) (a₀ : Array Keyed) (st : SortSt) : Prop where
  perm : (arrOf st).Perm a₀
  kind : kindOf st = oneType'
  failed : failedOf st = none
  two : ∃ n n2 pw, pendingOf st = #[(0, n, pw), (n, n2, 0)] ∧ n + n2 = a₀.size ∧ Runs org a₀ n (arrOf st)
theorem runs_of {n len : Nat} {x1 xs : Array Keyed} (h1 : Rn org a₀ a₀ 0 n x1) (h2 : Rn org a₀ x1 n len xs) (h0 : 0 < n) (hn : n < a₀.size) (hl : n + len = a₀.size) : Runs org a₀ n xs := by
  refine ⟨h0, hn, fun i j q1 q2 => ?_, fun i j q0 q1 q2 => h2.srt i j q0 q1 (by omega), fun i q => ?_, fun i q0 q => ?_⟩
  · rw [XA_congr (h2.low i (by omega)), XA_congr (h2.low j q2)]
    exact h1.srt i j (by omega) q1 (by omega)
  · rw [OA_congr (h2.low i q)]
    have := h1.seg i (by omega) (by omega)
    omega
  · have := h2.seg i q0 (by omega)
    omega
abbrev SortI (org : Keyed → Nat) (a₀ : Array Keyed) (mr x : Nat) (c : Option Unit × Nat) (st' : SortSt) : Prop :=
  (x = 0 ∧ c = (none, 0) ∧ SB a₀ #[] st' ∧ arrOf st' = a₀) ∨ (1 ≤ x ∧ c = (none, a₀.size) ∧ SZ org a₀ st') ∨ (2 ≤ x ∧ c = (none, a₀.size) ∧ R2 org a₀ st') ∨
      (x = 1 ∧ ∃ n, c = (none, n) ∧ 0 < n ∧ n < a₀.size ∧ mr ≤ n ∧ SB a₀ #[(0, n, 0)] st' ∧ Rn org a₀ a₀ 0 n (arrOf st'))
theorem first_run {st : SortSt} {n mr : Nat} (hS : SB a₀ #[] st) (hR : Rn org a₀ a₀ 0 n (arrOf st)) (h0 : 0 < n) (hn : n ≤ a₀.size) (hmr : mr ≤ n ∨ n = a₀.size) : SortI org a₀ mr 1 (none, n) (setPending st ((pendingOf st).push (0, n, 0))) := by
  have hp : SB a₀ #[(0, n, 0)] (setPending st ((pendingOf st).push (0, n, 0))) := ⟨hS.perm, hS.kind, hS.failed, by show (pendingOf st).push _ = _; rw [hS.pend]; rfl⟩
  by_cases e : n = a₀.size
  · refine .inr (.inl ⟨Nat.le_refl _, by rw [e], hp.perm, hp.failed, by rw [hp.pend]; exact Nat.le_refl 1, asc_of fun i j q1 q2 => ?_⟩)
    have := hS.size
    exact hR.srt i j (by omega) q1 (by have : (arrOf st).size = a₀.size := hS.size; have : j < (arrOf st).size := q2; omega)
  · exact .inr (.inr (.inr ⟨rfl, n, rfl, h0, by omega, by omega, hp, hR⟩))
theorem second_run {st : SortSt} {n len pw mr : Nat} {x1 : Array Keyed} (hS : SB a₀ #[(0, n, 0)] st) (h1 : Rn org a₀ a₀ 0 n x1) (h2 : Rn org a₀ x1 n len (arrOf st)) (h0 : 0 < n) (hn : n < a₀.size) (hl : n + len = a₀.size) {p : Array (Nat × Nat × Nat)} (hp : p = #[(0, n, pw), (n, len, 0)]) :
    SortI org a₀ mr 2 (none, n + len) (SortSt.mk' (kindOf st) (arrOf st) p (gallopOf st) (failedOf st)) :=
  .inr (.inr (.inl ⟨Nat.le_refl _, by rw [hl], hS.perm, hS.kind, hS.failed, n, len, pw, hp, hl, runs_of h1 h2 h0 hn hl⟩))
theorem sort_runs {st : SortSt} {Q : Unit → SortSt → Prop} (g : Og org a₀) (hB : SB a₀ #[] st) (ha : arrOf st = a₀) (h2 : 2 ≤ a₀.size) (h128 : a₀.size < 128)
    (h : ∀ st', SZ org a₀ st' → Q () st') : wpS (model prog w) A E s sortRuns' Q st := by
  rw [sortRuns'_eq]
  refine wpS_bind (wpS_get ?_)
  dsimp only
  have hmr := minRun_le h2 h128
  simp only [hB.size]
  generalize hmin : minRun' a₀.size a₀.size 0 = mr at hmr
  refine wpS_bind (wpS_mono (wpS_forRange
    (I := SortI org a₀ mr)
    (Q := fun c st' => c = (none, a₀.size) ∧ (SZ org a₀ st' ∨ R2 org a₀ st')) ?step ?fin (.inl ⟨rfl, rfl, hB, ha⟩)) ?post)
  case fin =>
    rintro c st' (⟨hx, _⟩ | ⟨_, hc, hD⟩ | ⟨_, hc, hD⟩ | ⟨hx, _⟩)
    · omega
    · exact ⟨hc, .inl hD⟩
    · exact ⟨hc, .inr hD⟩
    · omega
  case post =>
    rintro c st' ⟨rfl, hD⟩
    dsimp only
    refine wpS_bind (wpS_mono (wpS_forRange (I := fun x c st'' => c = (none, ()) ∧ (SZ org a₀ st'' ∨ (x = 0 ∧ R2 org a₀ st''))) (Q := fun c st'' => c = (none, ()) ∧ SZ org a₀ st'') ?_ ?_ ⟨rfl, hD.imp id fun h => ⟨rfl, h⟩⟩) ?_)
    · rintro x c st'' _ _ ⟨rfl, hD | ⟨rfl, hD⟩⟩
      · refine wpS_bind (wpS_get ?_)
        rw [if_pos hD.pend]
        exact wpS_pure ⟨rfl, hD⟩
      · refine wpS_bind (wpS_get ?_)
        obtain ⟨hp, hk, hf, n, n2, pw, hpd, hn, hr⟩ := hD
        rw [hpd]
        rw [if_neg (by simp)]
        have est : st'' = SortSt.mk' oneType' (arrOf st'') #[(0, n, pw), (n, n2, 0)] (gallopOf st'') none := by
          rw [← hk, ← hpd, ← hf]
        rw [est]
        refine wpS_bind (mergeAtP g hp hr hn fun st3 hz => ?_)
        exact wpS_pure ⟨rfl, .inl hz⟩
    · rintro c st'' ⟨hc, hD | ⟨hx, _⟩⟩
      · exact ⟨hc, hD⟩
      · omega
    · rintro c st'' ⟨rfl, hD⟩
      exact wpS_pure (h _ hD)
  case step =>
    rintro x c st' _ hx (⟨rfl, rfl, hB', ha'⟩ | ⟨hx1, rfl, hD⟩ | ⟨hx1, rfl, hD⟩ | ⟨rfl, n, rfl, hn0, hn1, hmn, hB', hR⟩)
    · dsimp only
      rw [if_neg (by omega)]
      simp only [Nat.sub_zero, Nat.zero_add]
      refine wpS_bind (sort_run g (by omega) (by omega) hB' (fun i _ hi => ?_) fun m st2 hB2 hm1 hm2 hs2 => ?_)
      · rw [ha']
        have e := getElem?_pos a₀ i hi
        unfold OA
        rw [e]
        exact g.at' i _ e
      rw [ha'] at hs2
      dsimp only
      refine wpS_if (fun hlt => ?_) fun hlt => ?_
      · refine wpS_bind (wpS_lift (wpAny_rule ⟨rfl, ?_⟩))
        refine wpS_bind (sort_bin g (by omega) hm1 (by omega) hB2 hs2 fun st3 hS hT => ?_)
        simp only [Bool.not_true, Bool.false_eq_true, if_false]
        refine wpS_bind (wpS_get ?_)
        have hb : (pendingOf st3).back? = none := by rw [hS.pend]; rfl
        rw [hb]
        dsimp only
        exact wpS_bind (wpS_modify (wpS_pure (first_run hS hT (by omega) (by omega) (by omega))))
      · refine wpS_bind (wpS_get ?_)
        have hb : (pendingOf st2).back? = none := by rw [hB2.pend]; rfl
        rw [hb]
        dsimp only
        exact wpS_bind (wpS_modify (wpS_pure (first_run hB2 hs2 (by omega) (by omega) (by omega))))
    · dsimp only
      rw [if_pos (Nat.le_refl _)]
      exact wpS_pure ⟨rfl, .inl hD⟩
    · dsimp only
      rw [if_pos (Nat.le_refl _)]
      exact wpS_pure ⟨rfl, .inr hD⟩
    · dsimp only
      rw [if_neg (by omega)]
      refine wpS_bind (sort_run g (by omega) (by omega) hB' (fun i q1 hi => hR.fresh i (by omega) hi) fun m st2 hB2 hm1 hm2 hs2 => ?_)
      dsimp only
      refine wpS_if (fun hlt => ?_) fun hlt => ?_
      · refine wpS_bind (wpS_lift (wpAny_rule ⟨rfl, ?_⟩))
        refine wpS_bind (sort_bin g (by omega) hm1 (by omega) hB2 hs2 fun st3 hS hT => ?_)
        simp only [Bool.not_true, Bool.false_eq_true, if_false]
        refine wpS_bind (wpS_get ?_)
        have hb : (pendingOf st3).back? = some (0, n, 0) := by rw [hS.pend]; rfl
        rw [hb]
        dsimp only
        refine wpS_bind (wpS_mono (wpS_forRange (I := fun _ c st'' => st'' = st3 ∧ c = (none, ())) (Q := fun c st'' => st'' = st3 ∧ c = (none, ())) ?_ (fun _ _ hh => hh) ⟨rfl, rfl⟩) ?_)
        · rintro x c st'' _ _ ⟨rfl, rfl⟩
          refine wpS_bind (wpS_get ?_)
          rw [hS.pend, if_neg (by simp)]
          exact wpS_pure ⟨rfl, rfl⟩
        · rintro c st'' ⟨rfl, rfl⟩
          dsimp only
          refine wpS_bind (wpS_modify (wpS_bind (wpS_modify (wpS_pure (second_run hS hR hT hn0 hn1 (by omega) (pw := power' a₀.size (2 * 0 + n) (2 * 0 + n + n + min (a₀.size - n) mr) a₀.size) ?_)))))
          rw [hS.pend]
          rfl
      · have hl : m = a₀.size - n := by omega
        refine wpS_bind (wpS_get ?_)
        have hb : (pendingOf st2).back? = some (0, n, 0) := by rw [hB2.pend]; rfl
        rw [hb]
        dsimp only
        refine wpS_bind (wpS_mono (wpS_forRange (I := fun _ c st'' => st'' = st2 ∧ c = (none, ())) (Q := fun c st'' => st'' = st2 ∧ c = (none, ())) ?_ (fun _ _ hh => hh) ⟨rfl, rfl⟩) ?_)
        · rintro x c st'' _ _ ⟨rfl, rfl⟩
          refine wpS_bind (wpS_get ?_)
          rw [hB2.pend, if_neg (by simp)]
          exact wpS_pure ⟨rfl, rfl⟩
        · rintro c st'' ⟨rfl, rfl⟩
          dsimp only
          refine wpS_bind (wpS_modify (wpS_bind (wpS_modify (wpS_pure (second_run hB2 hR hs2 hn0 hn1 (by omega) (pw := power' a₀.size (2 * 0 + n) (2 * 0 + n + n + m) a₀.size) ?_)))))
          rw [hB2.pend]
          rfl
end
end Mine
namespace Mine
/-- the plain law: sixteen stable sorts by one byte each -/
structure SortedB (key : Int → Int) (ns out : List Int) : Prop where
  perm : out.Perm ns
  srt : out.Pairwise fun x y => key x * ns.length + ns.idxOf x < key y * ns.length + ns.idxOf y
def rangeI (n : Nat) : List Int := (List.range n).map fun (i : Nat) => (i : Int)
theorem mem_rangeI {n : Nat} {x : Int} : x ∈ rangeI n ↔ 0 ≤ x ∧ x < n := by
  unfold rangeI
  rw [List.mem_map]
  constructor
  · rintro ⟨i, hi, rfl⟩
    rw [List.mem_range] at hi
    omega
  · rintro ⟨h1, h2⟩
    exact ⟨x.toNat, List.mem_range.mpr (by omega), by omega⟩
theorem rangeI_len (n : Nat) : (rangeI n).length = n := by simp [rangeI]
theorem rangeI_nodup (n : Nat) : (rangeI n).Nodup := by
  unfold rangeI List.Nodup
  rw [List.pairwise_map]
  exact List.nodup_range.imp fun h => by omega
theorem rangeI_get {n i : Nat} (h : i < n) : (rangeI n)[i]? = some (i : Int) := by
  unfold rangeI
  rw [List.getElem?_map, List.getElem?_range h]
  rfl
theorem idx_get {l : List Int} (hn : l.Nodup) {i : Nat} {x : Int} (h : l[i]? = some x) : l.idxOf x = i := by
  obtain ⟨hi, e⟩ := List.getElem?_eq_some_iff.mp h
  rw [← e]
  exact List.Nodup.idxOf_getElem hn i hi
theorem idx_rangeI {n : Nat} {x : Int} (h : x ∈ rangeI n) : (((rangeI n).idxOf x : Nat) : Int) = x := by
  have h' := mem_rangeI.mp h
  have := idx_get (rangeI_nodup n) (rangeI_get (n := n) (i := x.toNat) (by omega))
  rw [show ((x.toNat : Nat) : Int) = x by omega] at this
  omega
theorem pair_at {l : List Int} {R : Int → Int → Prop} (h : l.Pairwise R) {x y : Int} (hx : x ∈ l) (hy : y ∈ l) (hlt : l.idxOf x < l.idxOf y) : R x y := by
  have h1 := List.idxOf_lt_length_iff.mpr hx
  have h2 := List.idxOf_lt_length_iff.mpr hy
  have := List.pairwise_iff_getElem.mp h _ _ h1 h2 hlt
  rwa [List.getElem_idxOf, List.getElem_idxOf] at this
theorem eq_of_asc {f : Int → Int} : ∀ {l m : List Int}, l.Perm m → l.Pairwise (fun x y => f x < f y) → m.Pairwise (fun x y => f x < f y) → l = m
  | [], m, p, _, _ => (List.nil_perm.mp p).symm
  | x :: l, [], p, _, _ => absurd p.length_eq (by simp)
  | x :: l, y :: m, p, h1, h2 => by
    have hxy : x = y := by
      have a := p.mem_iff.mp (List.mem_cons_self (a := x) (l := l))
      have b := p.mem_iff.mpr (List.mem_cons_self (a := y) (l := m))
      rcases List.mem_cons.mp a with a | a
      · exact a
      · rcases List.mem_cons.mp b with b | b
        · exact b.symm
        · have u := (List.pairwise_cons.mp h2).1 x a
          have v := (List.pairwise_cons.mp h1).1 y b
          omega
    subst hxy
    rw [eq_of_asc (List.Perm.cons_inv p) (List.pairwise_cons.mp h1).2 (List.pairwise_cons.mp h2).2]
/-- laid out by the last j bytes -/
structure Laid (num : Int → Int) (n j : Nat) (L : List Int) : Prop where
  perm : L.Perm (rangeI n)
  srt : L.Pairwise fun x y => num x % 256 ^ j * n + x < num y % 256 ^ j * n + y
theorem Laid.zero (num : Int → Int) (n : Nat) : Laid num n 0 (rangeI n) := by
  refine ⟨List.Perm.refl _, ?_⟩
  unfold rangeI
  rw [List.pairwise_map]
  refine List.pairwise_lt_range.imp fun h => ?_
  rw [Int.pow_zero, Int.emod_one, Int.emod_one]
  omega
theorem Laid.nodup {num : Int → Int} {n j : Nat} {L : List Int} (h : Laid num n j L) : L.Nodup := (h.perm.nodup_iff).mpr (rangeI_nodup n)
theorem Laid.len {num : Int → Int} {n j : Nat} {L : List Int} (h : Laid num n j L) : L.length = n := by rw [h.perm.length_eq, rangeI_len]
theorem Laid.mem {num : Int → Int} {n j : Nat} {L : List Int} (h : Laid num n j L) {x : Int} (hx : x ∈ L) : 0 ≤ x ∧ x < n := mem_rangeI.mp (h.perm.mem_iff.mp hx)
theorem byte_split (x : Int) (j : Nat) : x % 256 ^ (j + 1) = x / 256 ^ j % 256 * 256 ^ j + x % 256 ^ j := by
  have hB : (0 : Int) < 256 ^ j := Int.pow_pos (by decide)
  rw [Int.pow_succ]
  generalize (256 : Int) ^ j = B at *
  have e1 := Int.mul_ediv_add_emod x B
  have e2 := Int.mul_ediv_add_emod (x / B) 256
  have w1 := Int.emod_nonneg x (Int.ne_of_gt hB)
  have w2 := Int.emod_lt_of_pos x hB
  have w3 := Int.emod_nonneg (x / B) (show (256 : Int) ≠ 0 by decide)
  have w4 := Int.emod_lt_of_pos (x / B) (show (0 : Int) < 256 by decide)
  generalize x % B = r at *
  generalize x / B % 256 = c at *
  generalize x / B / 256 = q at *
  generalize x / B = d at *
  subst e2
  have e3 : x = (c * B + r) + B * 256 * q := by
    rw [← e1, Int.mul_add, Int.mul_comm c B, ← Int.mul_assoc]
    omega
  rw [e3, Int.add_mul_emod_self_left]
  have h1 : 0 ≤ c * B := Int.mul_nonneg w3 (Int.le_of_lt hB)
  have h2 : (c + 1) * B ≤ 256 * B := Int.mul_le_mul_of_nonneg_right (by omega) (Int.le_of_lt hB)
  rw [Int.add_mul, Int.mul_comm 256 B] at h2
  exact Int.emod_eq_of_lt (by omega) (by omega)
theorem lexN {k1 k2 o1 o2 N : Int} (h : k1 < k2) (h0 : 0 ≤ o1) (h1 : o1 < N) (h2 : 0 ≤ o2) : k1 * N + o1 < k2 * N + o2 := by
  have : (k1 + 1) * N ≤ k2 * N := Int.mul_le_mul_of_nonneg_right (by omega) (by omega)
  rw [Int.add_mul] at this
  omega
theorem Laid.step {num : Int → Int} {n j : Nat} {L out : List Int} (h : Laid num n j L) (s : SortedB (fun x => num x / 256 ^ j % 256) L out) : Laid num n (j + 1) out := by
  refine ⟨s.perm.trans h.perm, s.srt.imp_of_mem fun {x y} hx hy hlt => ?_⟩
  have hx' := s.perm.mem_iff.mp hx
  have hy' := s.perm.mem_iff.mp hy
  have mx := h.mem hx'
  have my := h.mem hy'
  have ix := List.idxOf_lt_length_iff.mpr hx'
  have iy := List.idxOf_lt_length_iff.mpr hy'
  have hB : (0 : Int) < 256 ^ j := Int.pow_pos (by decide)
  rw [h.len] at ix iy hlt
  rw [byte_split, byte_split]
  have w1 := Int.emod_nonneg (num x) (Int.ne_of_gt hB)
  have w2 := Int.emod_lt_of_pos (num x) hB
  have w3 := Int.emod_nonneg (num y) (Int.ne_of_gt hB)
  generalize num x / 256 ^ j % 256 = kx at *
  generalize num y / 256 ^ j % 256 = ky at *
  rcases Int.lt_trichotomy kx ky with q | q | q
  · exact lexN (lexN q w1 w2 w3) mx.1 mx.2 my.1
  · subst q
    have := pair_at h.srt hx' hy' (by omega)
    rw [Int.add_mul, Int.add_mul]
    omega
  · have := lexN (o1 := (L.idxOf y : Nat)) (o2 := (L.idxOf x : Nat)) (N := (n : Int)) q (by omega) (by omega) (by omega)
    omega
/-- what the law's last line asks -/
theorem Laid.last {num : Int → Int} {n : Nat} {L out : List Int} (h : Laid num n 16 L) (hn : ∀ x : Int, 0 ≤ x → x < n → 0 ≤ num x ∧ num x < 256 ^ 16) (s : SortedB num (rangeI n) out) : L = out := by
  refine eq_of_asc (f := fun x => num x * n + x) (h.perm.trans s.perm.symm) (h.srt.imp_of_mem fun {x y} hx hy hlt => ?_) (s.srt.imp_of_mem fun {x y} hx hy hlt => ?_)
  · have mx := h.mem hx
    have my := h.mem hy
    rw [Int.emod_eq_of_lt (hn x mx.1 mx.2).1 (hn x mx.1 mx.2).2, Int.emod_eq_of_lt (hn y my.1 my.2).1 (hn y my.1 my.2).2] at hlt
    exact hlt
  · rw [rangeI_len, idx_rangeI (s.perm.mem_iff.mp hx), idx_rangeI (s.perm.mem_iff.mp hy)] at hlt
    exact hlt
section
variable {prog : Program} {w : World} {A : Around} {E : Value → Shared → Prop} {s : Shared}
theorem code_iadd_range {R : Result → Shared → Prop} {S r : Addr} {a b c : Int} {t u v : Tok} {n : Nat} (hh : A.handled = none) (hr : IsRange s.heap r a b c t u v) (hsmall : Builtin.Range.small a b c = true)
    (hn : Builtin.Range.rangeSize a b c = n) (hlen : n ≤ 2 ^ 24) (hS : s.heap.get? S = some { cls := .type "list", data := .seq #[] 0 })
    (hR : ∀ h' tk acc' c', (∀ b o, b ≠ S → s.heap.get? b = some o → h'.get? b = some o) → h'.get? S = some { cls := .type "list", dict := none, data := .seq acc' c', slots := #[] } →
      ItemsOf (fun i v => ∃ t, v = .int (a + i * c) t) acc' n → R (.ok (.ret (.ref S))) { s with heap := h', toks := tk }) : codeAny (model prog w) A (.builtin "list.__iadd__" ⟨[.ref S, .ref r], []⟩) R s := by
  refine codeAny_builtin entry_list_iadd' ?_
  show wpAny _ _ (Builtin.List.listExtendWith (.ref S) (.ref r) (.ref S)) _ _ s
  rw [Around.under_plainId (id := "list.__iadd__") (by decide +kernel)]
  exact wpAny_extend_range hh hr hsmall hn hlen S (.ref S) 0 hS hR
theorem collect_range {r : Addr} {a b c : Int} {t u v : Tok} {n : Nat} {Q : List Value → Shared → Prop} (hh : A.handled = none) (hr : IsRange s.heap r a b c t u v) (hsmall : Builtin.Range.small a b c = true)
    (hn : Builtin.Range.rangeSize a b c = n) (hlen : n ≤ 2 ^ 24)
    (h : ∀ h' tk acc', (∀ b o, s.heap.get? b = some o → h'.get? b = some o) → ItemsOf (fun i v => ∃ t, v = .int (a + i * c) t) acc' n → Q acc'.toList { s with heap := h', toks := tk }) :
    wpAny (model prog w) A (collect (.ref r)) Q E s := by
  unfold collect
  refine wpAny_bind (wpAny_runValue (codeAny_builtin entry_proto_collect' ?_))
  show wpAny _ _ (do again (.builtin "list.__iadd__" ⟨[← newList [], .ref r], []⟩)) _ _ s
  have hS : (s.heap.push (seqObj "list" #[] 0)).get? s.heap.objs.size = some (seqObj "list" #[] 0) := Heap.get?_push_size _ rfl
  refine wpAny_bind (wpAny_newList (wpAny_pure ⟨Code.quiet_builtin _ (by decide +kernel), code_iadd_range (s := { s with heap := s.heap.push (seqObj "list" #[] 0) }) hh (Heap.get?_push_of_some _ hr) hsmall hn hlen hS fun h' tk acc' c' hk hS' hacc => ?_⟩))
  show wpAny (model prog w) A (do
      let o ← load s.heap.objs.size
      match o.data with
      | .seq xs _ => pure xs.toList
      | _ => unsupported "internal:collect") Q E { s with heap := h', toks := tk }
  refine wpAny_bind (wpAny_load hS' ?_)
  exact wpAny_pure (h h' tk acc' (fun b o e => hk b o (Nat.ne_of_lt (Heap.lt_size e)) (Heap.get?_push_of_some _ e)) hacc)
end
theorem pre_eq {ad ad' : List Addr} (p : ad <+: ad') (h : ad'.length = ad.length) : ad' = ad := (p.eq_of_length h.symm).symm
section
variable {C : Cx} {st : St} {ad : List Addr} {s : Shared} {ns : List Int} {key : Int → Int} {vs : List Value} {keys : Array Value} {D kS T q : Addr} {tob : Obj} {e e1 : Nat} {P : PySem.Fin → Shared → Prop}
theorem SR.pre {kp kp' : List (Addr × Obj)} {h h' : Heap} {ad' : List Addr} (hs : SR (C.kept kp) ad st h) (hs' : SR (C.kept kp') ad' st h') (p : ad <+: ad') : ad' = ad := pre_eq p (by rw [hs'.len, hs.len])
theorem SR.touchS {I : Addr} {xs : Array Value} {n : Nat} {kp : List (Addr × Obj)} {h : Heap} (f : Array Value → Array Value) (hs : SR (C.kept ((I, listOf xs n) :: kp)) ad st h) :
    ∃ n', SR (C.kept ((I, listOf (f xs) n') :: kp)) ad st (h.update I (Obj.mapSeq f)) := by
  have hK : h.get? I = some (listOf xs n) := SR.kpHd hs
  obtain ⟨e2, hK2⟩ : ∃ e2, (h.update I (Obj.mapSeq f)).get? I = some (listOf (f xs) e2) := ⟨_, get?_update_seq hK f⟩
  exact ⟨e2, SR.touch hs (fun b o hb e' => ((Heap.SameBut.update h I (Obj.mapSeq f)).2 b hb).trans e') hK2⟩
theorem sk_tail {st0 : SortSt} {out : List Int} (hs : SR (C.kept ((kS, listOf keys e) :: (T, tob) :: (D, listOf #[] e1) :: C.kp)) ad st s.heap) (hsz : keys.size ≤ 1000000) (hsz2 : out.length ≤ 1000000)
    (hout : IntsAre ((arrOf st0).map (·.2)).toList out) (hfl : failedOf st0 = none)
    (h : ∀ s', Same s s' → SR C (ad ++ [D]) (st.add (.list (out.map V.int))) s'.heap → P (.done (.ret .none)) s') : wpAny C.M C.A (ksk_tail D false e1 (.ref kS) st0) P No s := by
  have hK : s.heap.get? kS = some (listOf keys e) := SR.kpHd hs
  obtain ⟨e2, hs1⟩ := SR.touchS (fun _ => #[]) hs
  have hs2 := SR.perm hs1 (b := (D, listOf #[] e1) :: (kS, listOf #[] e2) :: (T, tob) :: C.kp) (by
    refine List.Perm.trans (List.Perm.cons _ (List.Perm.swap _ _ _)) (List.Perm.swap _ _ _))
  have hD : (s.heap.update kS (Obj.mapSeq fun _ => (#[] : Array Value))).get? D = some (listOf #[] e1) := SR.kpHd hs2
  obtain ⟨e3, hs3⟩ := SR.touchS (fun _ => (arrOf st0).map (·.2)) hs2
  have hs4 := SR.adopt hs3 (o := .list (out.map V.int)) ⟨((arrOf st0).map (·.2)).toList, e3, by rw [Array.toArray_toList], ints_rel hout⟩
  have hs5 := SR.drop (ks := [(kS, listOf #[] e2), (T, tob)]) (kp := C.kp) hs4
  have hl : ((arrOf st0).map (·.2)).size ≤ 1000000 := by
    have := hout.length
    rw [Array.length_toList] at this
    omega
  unfold ksk_tail
  try dsimp only
  refine wpAny_bind (listUpdate_at hK rfl ?_ (by rw [sizeLine_eq]; omega) (Nat.zero_le _))
  refine wpAny_bind (wpAny_letGo ?_)
  refine wpAny_bind (seqEpoch_at hD rfl ?_)
  refine wpAny_bind (listUpdate_at hD rfl ?_ (Nat.zero_le _) (Nat.le_trans hl (by rw [sizeLine_eq]; omega)))
  rw [hfl]
  simp only [bne_self_eq_false, Bool.false_eq_true, if_false]
  exact wpAny_pure (h _ (Same.hp s _) hs5)
theorem sk_end (hs : SR (C.kept ((kS, listOf keys e) :: (T, tob) :: (D, listOf #[] e1) :: C.kp)) ad st s.heap) (hk : IntsAre keys.toList (ns.map key)) (hv : IntsAre vs ns) (h2 : 2 ≤ ns.length) (h128 : ns.length < 128) (hnd : ns.Nodup)
    (h : ∀ out s', SortedB key ns out → Same s s' → SR C (ad ++ [D]) (st.add (.list (out.map V.int))) s'.heap → P (.done (.ret .none)) s') : wpAny C.M C.A (ksk_end D false vs.toArray e1 (.ref kS) keys) P No s := by
  have hvl := hv.length
  have hkl := hk.length
  rw [List.length_map, Array.length_toList] at hkl
  have hzs : (keys.zip vs.toArray).size = ns.length := by rw [Array.size_zip, hkl, List.size_toArray, hvl, Nat.min_self]
  have hle : vs.length ≤ keys.toList.length := by have e0 : keys.toList.length = keys.size := Array.length_toList; omega
  have hnum : ∀ (i : Nat) (p : Keyed), (keys.zip vs.toArray)[i]? = some p → ∃ n, ns[i]? = some n ∧ numOf p.2 = n ∧ numOf p.1 = key n := fun i p hp => by
    have hp' : (keys.toList.zip vs)[i]? = some p := by rw [← ksk_zip, Array.getElem?_toList]; exact hp
    obtain ⟨x, y⟩ := p
    rw [List.getElem?_zip_eq_some] at hp'
    have hi : i < ns.length := by
      have := (List.getElem?_eq_some_iff.mp hp'.2).1
      omega
    refine ⟨ns[i], List.getElem?_eq_getElem hi, ?_, ?_⟩
    · obtain ⟨t, ht⟩ := hv.get i ns[i] (List.getElem?_eq_getElem hi)
      rw [hp'.2] at ht
      cases ht
      rfl
    · obtain ⟨t, ht⟩ := hk.get i (key ns[i]) (by rw [List.getElem?_map, List.getElem?_eq_getElem hi]; rfl)
      rw [hp'.1] at ht
      cases ht
      rfl
  have g : Og (fun p => ns.idxOf (numOf p.2)) (keys.zip vs.toArray) := ⟨ksk_intKeys hk, fun i p hp => by
    obtain ⟨n, h1, h2', _⟩ := hnum i p hp
    show ns.idxOf (numOf p.2) = i
    rw [h2']
    exact idx_get hnd h1⟩
  unfold ksk_end
  try dsimp only
  rw [if_neg (by decide), if_neg (by rw [List.size_toArray]; omega), if_neg (by rw [List.size_toArray]; omega)]
  rw [ksk_kind hk (by omega)]
  refine wpAny_bind (wpAny_pure ?_)
  refine wpAny_bind (wpAny_mono (sort_runs (a₀ := keys.zip vs.toArray) (st := SortSt.mk' oneType' (keys.zip vs.toArray) #[] 7 none) (Q := fun _ st' => SZ (fun p => ns.idxOf (numOf p.2)) (keys.zip vs.toArray) st') g ⟨Array.Perm.refl _, rfl, rfl, rfl⟩ rfl (by omega) (by omega) fun st' z => z) ?_ fun _ _ e => e)
  rintro ⟨⟨⟩, st'⟩ s' ⟨rfl, z⟩
  have hl : (arrOf st').toList.Perm (keys.zip vs.toArray).toList := Array.perm_iff_toList_perm.mp z.perm
  have hat : ∀ p ∈ (arrOf st').toList, ∃ n, n ∈ ns ∧ numOf p.2 = n ∧ numOf p.1 = key n ∧ p.2 ∈ vs := fun p hp => by
    obtain ⟨i, hi⟩ := List.mem_iff_getElem?.mp (hl.mem_iff.mp hp)
    obtain ⟨n, q1, q2, q3⟩ := hnum i p (by rw [← Array.getElem?_toList]; exact hi)
    refine ⟨n, List.mem_of_getElem? q1, q2, q3, ?_⟩
    rw [ksk_zip] at hi
    obtain ⟨x, y⟩ := p
    exact (List.of_mem_zip (List.mem_of_getElem? hi)).2
  refine sk_tail (out := (arrOf st').toList.map fun p => numOf p.2) hs (by omega) (by rw [List.length_map, hl.length_eq, Array.length_toList]; omega) ?_ z.failed fun s' e' hs' => h _ s' ⟨?_, ?_⟩ e' hs'
  · rw [Array.toList_map]
    have := intsAre_map ((arrOf st').toList.map fun p => p.2) fun v hv' => by
      obtain ⟨p, hp, rfl⟩ := List.mem_map.mp hv'
      obtain ⟨n, _, _, _, q4⟩ := hat p hp
      exact hv.all _ q4
    rw [List.map_map] at this
    exact this
  · have := hl.map fun p => numOf p.2
    refine this.trans ?_
    have e3 : (keys.zip vs.toArray).toList.map (fun p => numOf p.2) = ns := by
      rw [ksk_zip, ← hv.nums]
      have : (keys.toList.zip vs).map (fun p : Value × Value => numOf p.2) = ((keys.toList.zip vs).map Prod.snd).map numOf := by rw [List.map_map]; rfl
      rw [this, List.map_snd_zip hle]
    rw [e3]
  · rw [List.pairwise_map]
    refine z.asc.imp_of_mem fun {p p'} hp hp' hlt => ?_
    obtain ⟨_, q1, rfl, q3, _⟩ := hat p hp
    obtain ⟨_, r1, rfl, r3, _⟩ := hat p' hp'
    unfold Xp at hlt
    rw [q3, r3, hzs] at hlt
    dsimp only at hlt
    exact hlt
theorem sk_rest (hs : SR (C.kept ((kS, listOf #[] e) :: (T, tob) :: (D, listOf #[] e1) :: C.kp)) ad st s.heap) (hv : IntsAre vs ns) (h2 : 2 ≤ ns.length) (h128 : ns.length < 128) (hnd : ns.Nodup)
    (turn : ∀ kp n, n ∈ ns → (∀ p ∈ C.kp, p ∈ kp) → CL (C.kept kp) (.ref q) [.int n] st (fun r st' => r = .int (key n) ∧ st' = st))
    (h : ∀ out s', SortedB key ns out → Same s s' → SR C (ad ++ [D]) (st.add (.list (out.map V.int))) s'.heap → P (.done (.ret .none)) s') : wpAny C.M C.A (ksk_rest D (.ref q) false vs.toArray e1 (.ref kS)) P No s := by
  have hvl := hv.length
  unfold ksk_rest
  refine wpAny_bind (wpAny_rule ?_)
  first
    | rw [List.forIn_toArray]
    | (rw [← Array.forIn_toList]; simp only [List.toList_toArray])
    | rw [← Array.forIn_toList]
  refine wpAny_bind (ksk_fold (fun i s' => ∃ kA e', Same s s' ∧ SR (C.kept ((kS, listOf kA e') :: (T, tob) :: (D, listOf #[] e1) :: C.kp)) ad st s'.heap ∧ IntsAre kA.toList ((ns.map key).take i)) vs 0 s
    ⟨#[], e, Same.rfl' s, hs, by simpa using IntsAre.nil⟩ ?step ?done)
  case step =>
    rintro j x s' hx ⟨kA, e', es, hs', hk⟩
    simp only [Nat.zero_add] at hk ⊢
    have hj : j < ns.length := by have := (List.getElem?_eq_some_iff.mp hx).1; omega
    have hj2 : ns[j]? = some ns[j] := List.getElem?_eq_getElem hj
    have hkj : (ns.map key)[j]? = some (key ns[j]) := by rw [List.getElem?_map, hj2]; rfl
    obtain ⟨t, ht⟩ := hv.get j ns[j] hj2
    rw [hx] at ht
    cases ht
    have hz : kA.size ≤ ns.length := by
      have h1 := hk.length
      rw [Array.length_toList, List.length_take, List.length_map] at h1
      omega
    refine wpAny_bind (wpAny_attempt (wpAny_mono (Q := _) (((turn _ ns[j] (List.mem_of_getElem? hj2) fun p hp => .tail _ (.tail _ (.tail _ hp))).go s' ad _ hs' (.cons ⟨t, rfl⟩ .nil)).run (fun v s'' => ∃ t', v = .int (key ns[j]) t' ∧ Same s' s'' ∧ SR (C.kept ((kS, listOf kA e') :: (T, tob) :: (D, listOf #[] e1) :: C.kp)) ad st s''.heap)
      fun v st1 s1 ad1 w1 q1 e2 p1 hs1 r1 => ?_) (fun v s'' he => ?_) fun _ _ hF => hF.elim))
    · obtain ⟨rfl, rfl⟩ := q1
      obtain ⟨t', rfl⟩ := r1
      have := SR.pre hs' hs1 p1
      subst this
      exact ⟨t', rfl, e2, hs1⟩
    · obtain ⟨t', rfl, e2, hs2⟩ := he
      try dsimp only
      have hK : s''.heap.get? kS = some (listOf kA e') := SR.kpHd hs2
      obtain ⟨e3, hs3⟩ := SR.touchS (fun a => a.push (.int (key ns[j]) t')) hs2
      have ek : (ns.map key).take (j + 1) = (ns.map key).take j ++ [key ns[j]] := by rw [List.take_add_one, hkj]; simp
      have ea : (kA.push (Value.int (key ns[j]) t')).toList = kA.toList ++ [Value.int (key ns[j]) t'] := by simp
      refine wpAny_bind (listUpdate_at hK rfl ?_ (by rw [sizeLine_eq]; omega) (Nat.le_trans (Nat.le_of_eq (Array.size_push ..)) (by rw [sizeLine_eq]; omega)))
      exact wpAny_pure ⟨rfl, kA.push (.int (key ns[j]) t'), e3, (es.trans e2).trans (Same.hp s'' _), hs3, by rw [ea, ek]; exact ksk_snoc hk⟩
  case done =>
    rintro s' ⟨kA, e', es, hs', hk⟩
    have hk' : IntsAre kA.toList (ns.map key) := by
      have e3 : (ns.map key).take (0 + vs.length) = ns.map key := List.take_of_length_le (by rw [List.length_map]; omega)
      rw [e3] at hk
      exact hk
    have hK : s'.heap.get? kS = some (listOf kA e') := SR.kpHd hs'
    try dsimp only
    refine wpAny_bind (listItems_at hK rfl ?_)
    exact sk_end hs' hk' hv h2 h128 hnd fun out s'' so e4 hs4 => h out s'' so (es.trans e4) hs4
theorem sk_sort (hs : SR (C.kept ((D, listOf vs.toArray e) :: C.kp)) ad st s.heap) (hv : IntsAre vs ns) (h2 : 2 ≤ ns.length) (h128 : ns.length < 128) (hnd : ns.Nodup)
    (turn : ∀ kp n, n ∈ ns → (∀ p ∈ C.kp, p ∈ kp) → CL (C.kept kp) (.ref q) [.int n] st (fun r st' => r = .int (key n) ∧ st' = st))
    (h : ∀ out s', SortedB key ns out → Same s s' → SR C (ad ++ [D]) (st.add (.list (out.map V.int))) s'.heap → P (.done (.ret .none)) s') : wpAny C.M C.A (ksk_tree D (.ref q) false) P No s := by
  have hvl := hv.length
  have hD : s.heap.get? D = some (listOf vs.toArray e) := SR.kpHd hs
  obtain ⟨e1, hs1⟩ := SR.touchS (fun _ => #[]) hs
  have hD1 : (s.heap.update D (Obj.mapSeq fun _ => (#[] : Array Value))).get? D = some (listOf #[] e1) := SR.kpHd hs1
  have hs2 := SR.keep hs1 (tupOf vs.toArray 0)
  have hs3 := SR.keep hs2 (listOf #[] 0)
  unfold ksk_tree
  refine wpAny_bind (listItems_at hD rfl ?_)
  refine wpAny_bind (listUpdate_at hD rfl ?_ (by rw [List.size_toArray, sizeLine_eq]; omega) (Nat.zero_le _))
  refine wpAny_bind (seqEpoch_at hD1 rfl ?_)
  refine wpAny_bind (wpAny_newTuple ?_ (by show vs.length ≤ _; rw [sizeLine_eq]; omega))
  refine wpAny_bind (wpAny_newList ?_ (Nat.zero_le _))
  refine wpAny_holding ?_
  exact sk_rest (s := { s with heap := _ }) hs3 hv h2 h128 hnd turn fun out s' so e' hs' => h out s' so ((Same.hp s _).trans e') hs'
end
/-- the context two calls in -/
abbrev Cx.in2 (C : Cx) (kp : List (Addr × Obj)) : Cx := { C with A := C.A.in1.in1, kp := kp }
section
variable {C : Cx} {st : St} {ad : List Addr} {s : Shared} {ns : List Int} {key : Int → Int} {q : Addr} {wv : Value} {K : Value → Shared → Prop}
theorem SR.out2 {kp : List (Addr × Obj)} {h : Heap} (hs : SR (C.in2 kp) ad st h) : SR (C.kept kp) ad st h := ⟨hs.ex, hs.cells⟩
theorem call_sorted (hs : SR C ad st s.heap) (h2 : 2 ≤ ns.length) (h128 : ns.length < 128) (hnd : ns.Nodup)
    (hcol : ∀ (Q : List Value → Shared → Prop), (∀ h' tk vs, (∀ b o, s.heap.get? b = some o → h'.get? b = some o) → IntsAre vs ns → Q vs { s with heap := h', toks := tk }) → wpAny C.M C.A.in1 (collect wv) Q No s)
    (turn : ∀ kp n, n ∈ ns → (∀ p ∈ C.kp, p ∈ kp) → CL (C.in2 kp) (.ref q) [.int n] st (fun r st' => r = .int (key n) ∧ st' = st))
    (h : ∀ out s' D, SortedB key ns out → Same s s' → SR C (ad ++ [D]) (st.add (.list (out.map V.int))) s'.heap → K (.ref D) s') :
    wpAny C.M C.A (call (.builtin "sorted") [wv] [(Str.ofString "key", .ref q)]) K No s := by
  refine call_function_entry_kw kind_sorted plain_sorted entry_sorted (ksk_s1 _ _) ?_
  unfold Builtin.«sorted»
  refine wpAny_bind (m := checkCount "sorted" 1 1 _) (wpAny_pure ?_)
  refine wpAny_bind (hcol _ fun h1 tk1 vs hk1 hv => ?_)
  have hvl := hv.length
  refine wpAny_bind (wpAny_newList ?_ (by rw [sizeLine_eq]; omega))
  have hs1 := SR.keep (hs.grown hk1) (listOf vs.toArray 0)
  have hD : (h1.push (listOf vs.toArray 0)).get? h1.objs.size = some (listOf vs.toArray 0) := SR.kpHd hs1
  refine wpAny_bind (wpAny_holding (wpAny_call_entry_kw slot_list_sort ⟨_, hD, rfl⟩ entry_list_sort ?body (ksk_l1 _ _)))
  show wpAny C.M C.A.in1.in1 (Builtin.«list.sort» ⟨[.ref h1.objs.size], [(Str.ofString "key", .ref q)]⟩) _ _ _
  rw [ksk_t1]
  refine sk_sort (C := C.in2 C.kp) (s := { s with heap := h1.push (listOf vs.toArray 0), toks := tk1 }) ⟨hs1.ex, hs1.cells⟩ hv h2 h128 hnd (fun kp n hn hp => turn kp n hn hp) fun out s' so e' hs' => ⟨_, rfl, ?_⟩
  exact wpAny_pure ⟨_, rfl, h out s' _ so ((Same.mk' s _ _).trans e') ⟨hs'.ex, hs'.cells⟩⟩
end
end Mine
namespace Mine
section
variable {C : Cx} {sc : Scope} {lv : Nat} {st : St} {ad : List Addr}
/-- the frames two calls in -/
theorem Gd.in2 (G : Gd C sc (lv + 1)) (kp : List (Addr × Obj)) : Gd (C.in2 kp) sc lv := ⟨G.scope, G.kind, G.glob, G.blt, G.top, G.st, by have := G.depth; show C.A.depth + lv < 500; omega, by have := G.units; show C.A.units + 1 + 1 + 3 * lv < 5000; omega, fun hlv => by
  obtain ⟨A₀, outer, B, h1, h2⟩ := G.bel (Nat.succ_pos _)
  rcases h2 with ⟨h2, h3⟩ | rfl
  · exact ⟨A₀, outer, B, h1, .inl ⟨h2, h3⟩⟩
  · exact ⟨C.A.in1.in1, outer, ⟨B.stack, B.stays, B.frames⟩, h1, .inr rfl⟩⟩
/-- a call of a function whose body is one expression -/
theorem call_lam {q c' : Addr} {name qual x : Str} {params : Arguments} {body : Expr} {fsc : Scope} {clos : List (Str × Addr)} {pm ctv : Value} {fr : List (Str × Nat)} {v : V} {Q : V → St → Prop} (G : Gd C sc (lv + 1))
    (hq : (q, kla_obj name qual params body fsc clos pm c' ctv) ∈ C.kp) (hcr : ∀ s ad, SR C ad st s → s.CodeRec (.ref c') qual)
    (hb : ∀ w, bindArgs (kla_fn name qual params body fsc clos pm (.ref c') ctv) ⟨[w], []⟩ = pure [(x, w)]) (hl : fsc.names.lookup x = some .local) (hcell : ∀ x ∈ fsc.names, x.2 ≠ .cell)
    (hfr : ∀ y k, fr.lookup y = some k → C.cl.lookup y = some k ∧ clos.lookup y = C.env.cells.lookup y)
    (h : ∀ C', CompCx C C' fsc fr lv → EV C' body ⟨[(x, v)], st.os⟩ (fun r st2 => Q r ⟨st.m, st2.os⟩))
    (hco : fsc.isCoroutine = false := by rfl) (hgen : fsc.isGenerator = false := by rfl) (hk : fsc.kind = .function := by rfl) : CL C (.ref q) [v] st Q := .mk fun s ad ws hs₀ hr => At.mk fun K hK => by
  cases hr with | cons ra hr => cases hr with | nil =>
  rename_i w
  have hcr' := hcr _ _ hs₀
  obtain ⟨⟨gg, hgg, m, news, F, N, c, d, o', r⟩, hcl⟩ := hs₀
  obtain ⟨fs, BG, hfs⟩ := G.inner (Nat.succ_pos _) hgg F N
  obtain ⟨stay, nsG⟩ := ground F N
  refine wpAny_call ?_
  have hkb := G.keep hgg F
  have hqo := (N _ (List.mem_append_right _ hq)).1
  refine kla_callFunE (by have := G.depth; show C.A.depth < 1000; omega) hqo rfl hco hgen rfl hcr' ?_
  rw [hb]
  refine wpAny_pure (wpAny_newFunctionEnv hcell (fun y hy => by rw [List.mem_singleton.mp hy]; exact hl) (fun h₁ hns hsb => ⟨(G.top.nolimit.keeps hkb).fresh _ hsb, ?_⟩) hk)
  have hk₁ : ∀ b o, s.heap.get? b = some o → h₁.get? b = some o := fun b o e => hsb.extBut b o (Nat.ne_of_lt (Heap.lt_size e)) (Heap.get?_push_of_some _ e)
  let env' : Env := envX qual fsc s.heap.objs.size q (.ref c') clos
  let C' : Cx := { C with A := C.A.deeper env', env := env', h₀ := hideAll s.heap ((news ++ C.kp).map (·.1)), cl := fr, of := C.env.locals :: C.of }
  have hbL : C.base.get? C.env.locals = none := by
    cases q : C.base.get? C.env.locals with
    | none => rfl
    | some ob => exact absurd (Nat.lt_of_lt_of_le (Heap.lt_size (G.stays hgg _ _ q)) F.above) (Nat.lt_irrefl _)
  have hc : CompCx C C' fsc fr lv := ⟨⟨rfl, hk, rfl, rfl, G.top, ⟨fun b o e => stay b o (G.stays hgg b o e), fun b hb => by
      rcases List.mem_cons.mp hb with rfl | hb
      · exact ⟨hbL, ns_data nsG⟩
      · exact ⟨(G.st.2 b hb).1, G.of_data hgg stay hb⟩⟩, by have := G.depth; show C.A.depth + 1 + lv < 500; omega, by have := G.units; show C.A.units + 3 + 3 * lv < 5000; omega, fun _ => ⟨C.A, fs, BG, hfs, .inl ⟨Around.frames_deeper BG.stack, rfl⟩⟩⟩, rfl, rfl, rfl, rfl⟩
  show codeAny _ _ (.expr body env') _ _
  refine kla_codeExpr (wpAny_mono (Q := _) (((h C' hc).go { s with heap := h₁, toks := s.toks + [(x, w)].length } ad ⟨⟨_, Sim.refl _ _, _, news, ⟨hns, fun b o e => hk₁ b o (of_hideAll _ e), Nat.le_of_eq (hideAll_size _ _)⟩,
    (fun p hp => ⟨hk₁ _ _ (N p hp).1, Nat.ne_of_lt (Heap.lt_size (N p hp).1), hideAll_none _ (List.mem_map_of_mem hp)⟩), c, d, o', VRs.zip (names := [x]) (.cons ra .nil)⟩, fun y k e => by
      obtain ⟨e1, e2⟩ := hfr y k e
      obtain ⟨cc, q1, q2⟩ := hcl y k e1
      exact ⟨cc, e2.trans q1, q2⟩⟩).run _ fun f st2 s2 ad2 f' q2 e2 p2 hs2 r2 => ?_) (fun _ _ x => x) fun _ _ x => x.elim)
  obtain ⟨⟨gg2, hgg2, m2, news2, F2, N2, c2, d2, o2, r2'⟩, _⟩ := hs2
  obtain ⟨g', hg', F', N'⟩ := back_frame hgg F stay nsG hgg2 F2.keep (news₂ := news2 ++ C.kp) fun p hp => ⟨(N2 p hp).1, (N2 p hp).2.2⟩
  exact hK _ _ s2 ad2 _ q2 ((Same.mk' s h₁ _).trans e2) p2 ⟨⟨g', hg', m, news2, F', N', c2, d2, o2, r.mono p2⟩, fun y k q => by
    obtain ⟨cc, q1, q3⟩ := hcl y k q
    obtain ⟨rr, rfl⟩ := p2
    exact ⟨cc, q1, by rw [List.getElem?_append_left (List.getElem?_eq_some_iff.mp q3).1]; exact q3⟩⟩ r2
end
end Mine
namespace Mine
section
variable {C : Cx} {sc : Scope} {lv : Nat} {st : St} {ad : List Addr}
/-- a thing of the store turned, while the heap has grown -/
theorem SR.updG {h h' : Heap} {k : Nat} {a : Addr} {o : O} {ob ob' : Obj} (hs : SR C ad st h) (hk : ad[k]? = some a) (h0 : h.get? a = some ob) (hx : ∀ b o, b ≠ a → h.get? b = some o → h'.get? b = some o) (hg : h'.get? a = some ob') (ho : OR ad o ob') : SR C ad ⟨st.m, st.os.set k o⟩ h' := by
  have hself : (h.update a fun _ => ob').get? a = some ob' := Heap.get?_update_self (fun _ => ob') h0 (Heap.get?_some_iff.mp hg).2
  have h1 := hs.upd (h' := h.update a fun _ => ob') hk (Heap.SameBut.update h a fun _ => ob') hself ho
  refine h1.grown fun b o e => ?_
  by_cases hb : b = a
  · subst hb; rw [hself] at e; cases e; exact hg
  · exact hx b o hb (((Heap.SameBut.update h a fun _ => ob').2 b hb).symm.trans e)
/-- an object of the heap's new part is kept -/
theorem SR.keepN {st' : St} {h h' : Heap} {a : Addr} {ob : Obj} (hs : SR C ad st h) (hs' : SR C ad st' h') (ha : h.objs.size ≤ a) (hg : h'.get? a = some ob) : SR (C.kept ((a, ob) :: C.kp)) ad st' h' := by
  have hlt : ∀ b ∈ ad ++ C.kp.map (·.1), b < h.objs.size := by
    obtain ⟨⟨gg, hgg, m, news, F, N, c, d, o, r⟩, hc⟩ := hs
    intro b hb
    rw [← c, ← List.map_append] at hb
    obtain ⟨p, hp, rfl⟩ := List.mem_map.mp hb
    exact Heap.lt_size (N p hp).1
  have hL : C.env.locals < h.objs.size := by
    obtain ⟨⟨gg, hgg, m, news, F, _⟩, _⟩ := hs
    exact F.ns.lt
  have hf : C.h₀.get? a = none := by
    cases q : C.h₀.get? a with
    | none => rfl
    | some ob =>
      obtain ⟨⟨gg, hgg, m, news, F, _⟩, _⟩ := hs
      obtain ⟨sl, q'⟩ := hgg.slot _ _ q
      exact absurd (Heap.lt_size (F.keep _ _ q')) (Nat.not_lt.mpr ha)
  obtain ⟨⟨gg, hgg, m, news, F, N, c, d, o, r⟩, hc⟩ := hs'
  refine ⟨⟨gg, hgg, m, news, F, fun p hp => ?_, c, ?_, o, r⟩, hc⟩
  · rcases List.mem_append.mp hp with hp | hp
    · exact N p (List.mem_append_left _ hp)
    · rcases List.mem_cons.mp hp with rfl | hp
      · exact ⟨hg, Nat.ne_of_gt (Nat.lt_of_lt_of_le hL ha), hgg.non _ hf⟩
      · exact N p (List.mem_append_right _ hp)
  · have d' := List.nodup_append.mp d
    refine (List.nodup_append.mpr ⟨d'.1, List.nodup_cons.mpr ⟨fun hm => absurd (hlt _ (List.mem_append_right _ hm)) (Nat.not_lt.mpr ha), d'.2.1⟩, fun b hb c' hc' => ?_⟩)
    rcases List.mem_cons.mp hc' with rfl | hc'
    · exact fun q => absurd (hlt _ (List.mem_append_left _ hb)) (by rw [q]; exact Nat.not_lt.mpr ha)
    · exact d'.2.2 b hb c' hc'
theorem SR.raw {h : Heap} {k : Nat} {P : Addr} {ob : Obj} (hs : SR C ad st h) (hk : st.os[k]? = some (.raw k P ob)) : h.get? P = some ob ∧ ad[k]? = some P ∧ C.h₀.get? P = none := by
  obtain ⟨a, ob', ha, hg, ⟨rfl, h2⟩, _, h4⟩ := hs.at hk
  rw [ha] at h2
  cases h2
  exact ⟨hg, ha, h4⟩
def closOf (env : Env) (scope : Scope) : List (Str × Addr) := ((scope.names.filter (·.2 == .free)).map fun x => (x.1, (env.cells.lookup x.1).getD 0)).reverse
theorem clos_eq {scope : Scope} {h : Heap} {clc : List (Str × Nat)} (hs : SR C ad st h) (hclc : C.cl = clc) (hfree : ∀ x ∈ scope.names, x.2 = .free → (clc.lookup x.1).isSome = true) : closureFor scope C.env = pure (closOf C.env scope) :=
  closureFor_eq (fun x => (C.env.cells.lookup x).getD 0) fun x hx hf => by
    obtain ⟨k, hk⟩ := Option.isSome_iff_exists.mp (hfree x hx hf)
    obtain ⟨c, hc, _⟩ := hs.cells x.1 k (by rw [hclc]; exact hk)
    rw [hc]; rfl
theorem clos_lookup {scope : Scope} {h : Heap} (hs : SR C ad st h) {y : Str} {k : Nat} (hy : (y, NameKind.free) ∈ scope.names) (hk : C.cl.lookup y = some k) : (closOf C.env scope).lookup y = C.env.cells.lookup y := by
  obtain ⟨c, hc, _⟩ := hs.cells y k hk
  have := lookup_fun (f := fun x => (C.env.cells.lookup x).getD 0) (x := y) (l := ((scope.names.filter (·.2 == .free)).map (·.1)).reverse) (by
    rw [List.mem_reverse]
    exact List.mem_map.mpr ⟨(y, .free), List.mem_filter.mpr ⟨hy, rfl⟩, rfl⟩)
  rw [hc]
  have e : (C.env.cells.lookup y).getD 0 = c := by rw [hc]; rfl
  rw [← e, ← this]
  unfold closOf
  congr 1
  rw [List.map_reverse, List.map_map]
  rfl
theorem blt_at (G : Gd C sc lv) {h : Heap} {P : Addr} {ps : Array Value} (hs : SR C ad st h) (hP : h.get? P = some (tabObj ps)) : h.BuiltinsAt C.mg P ∧ mainGlobals ≠ P ∧ h.Ns mainGlobals C.mg := by
  obtain ⟨⟨gg, hgg, m, news, F, _⟩, _⟩ := hs
  have hk := G.keep hgg F
  have hgs := G.top.g.keeps hk
  obtain ⟨bm, ob, b1, b2, b3, b4, b5, b6⟩ := G.top.bmain
  have hgP : mainGlobals ≠ P := fun q => by
    obtain ⟨o, es, ep, e, hd, _⟩ := hgs
    rw [q, hP] at e; cases e; cases hd
  have hbP : bm ≠ P := fun q => by
    have e := hk _ _ b3
    rw [q, hP] at e; cases e; cases b4
  have hbG : bm ≠ mainGlobals := fun q => by
    obtain ⟨o, es, ep, e, hd, _⟩ := G.top.g
    rw [q, e] at b3; cases b3; rw [hd] at b6; cases b6
  exact ⟨⟨bm, ob, b1, b2, hbG, hbP, hk _ _ b3, b4, b5, b6⟩, hgP, hgs⟩
theorem make_lam {s : Shared} {K : Value → Shared → Prop} {k : Nat} {P c : Addr} {ps : Array Value} {params : Arguments} {body : Expr} {scope : Scope} {pos : Pos} {clc : List (Str × Nat)} (G : Gd C sc lv) (hs : SR C ad st s.heap)
    (hk : st.os[k]? = some (.raw k P (tabObj ps))) (hcode : C.env.code = .ref c) (hhd : CodeHd C.base c P) (ht : TriplesOk ps.toList) (hnf : codeAmong pos ps.toList = none) (hclc : C.cl = clc)
    (hfree : ∀ x ∈ scope.names, x.2 = .free → (clc.lookup x.1).isSome = true) (hdef : defaultsOf params C.env = ([], []))
    (h : ∀ f c' oc vs t ctv pm s', Same s s' → SR (C.kept ((f, kla_obj "<lambda>" (C.env.qual ++ "<lambda>") params body scope (closOf C.env scope) pm c' ctv) :: (c', oc) :: C.kp)) ad ⟨st.m, st.os.set k (.raw k P (tabObj (ps ++ #[rawInt pos.line, rawInt pos.col, .ref c'])))⟩ s'.heap →
      oc.data = .fields vs → vs[1]? = some (.str (C.env.qual ++ "<lambda>") t) → K (.ref f) s') : wpAny C.M C.A (eval (.Lambda params body scope pos) C.env) K No s := by
  obtain ⟨hP, haP, hfP⟩ := hs.raw hk
  obtain ⟨hb, hgP, hgs⟩ := blt_at G hs hP
  have hkb : C.base.StaysIn s.heap := by
    obtain ⟨⟨gg, hgg, m, news, F, _⟩, _⟩ := id hs
    exact G.keep hgg F
  refine kla_eval hdef (kla_makeFunction (mg := C.mg) (clos_eq hs hclc hfree) G.glob hgs hcode (hhd.keeps hkb) hP ht hnf hgP hb fun c' ctv h' tk hx hge hlt hrec htb => ?_)
  obtain ⟨c₂, oc, vs, t, e2, hoc, hd, hv⟩ := hrec
  cases e2
  have hs1 := hs.updG (o := .raw k P (tabObj (ps ++ #[rawInt pos.line, rawInt pos.col, .ref c']))) haP hP hx htb ⟨rfl, haP⟩
  have hs2 := SR.keepN hs hs1 hge hoc
  have hs3 := SR.keep hs2 (kla_obj "<lambda>" (C.env.qual ++ "<lambda>") params body scope (closOf C.env scope) ((C.mg "__name__").getD .none) c' ctv)
  exact h _ c' oc vs t ctv _ _ (Same.mk' s _ tk) hs3 hd hv
theorem make_lamHit {s : Shared} {K : Value → Shared → Prop} {k : Nat} {P c c' : Addr} {ps : Array Value} {params : Arguments} {body : Expr} {scope : Scope} {pos : Pos} {clc : List (Str × Nat)} (G : Gd C sc lv) (hs : SR C ad st s.heap)
    (hk : st.os[k]? = some (.raw k P (tabObj ps))) (hcode : C.env.code = .ref c) (hhd : CodeHd C.base c P) (ht : TriplesOk ps.toList) (hnf : codeAmong pos ps.toList = some (.ref c')) (hclc : C.cl = clc)
    (hfree : ∀ x ∈ scope.names, x.2 = .free → (clc.lookup x.1).isSome = true) (hdef : defaultsOf params C.env = ([], []))
    (h : ∀ f ctv pm s', Same s s' → SR (C.kept ((f, kla_obj "<lambda>" (C.env.qual ++ "<lambda>") params body scope (closOf C.env scope) pm c' ctv) :: C.kp)) ad st s'.heap → K (.ref f) s') : wpAny C.M C.A (eval (.Lambda params body scope pos) C.env) K No s := by
  obtain ⟨hP, haP, hfP⟩ := hs.raw hk
  obtain ⟨hb, hgP, hgs⟩ := blt_at G hs hP
  have hkb : C.base.StaysIn s.heap := by
    obtain ⟨⟨gg, hgg, m, news, F, _⟩, _⟩ := id hs
    exact G.keep hgg F
  refine kla_eval hdef (kla_makeFunctionHit (mg := C.mg) (clos_eq hs hclc hfree) G.glob hgs hcode (hhd.keeps hkb) hP ht hnf hb fun ctv h' tk hx hsz => ?_)
  have hs3 := SR.keep (hs.grown hx) (kla_obj "<lambda>" (C.env.qual ++ "<lambda>") params body scope (closOf C.env scope) ((C.mg "__name__").getD .none) c' ctv)
  exact h _ ctv _ _ (Same.mk' s _ tk) hs3
end
end Mine
namespace Mine
/-- where the ints come from: a list or a range of the store -/
def Src (k : Nat) (v : V) (os : List O) (ns : List Int) : Prop :=
  (∃ j, v = .ref j ∧ j ≠ k ∧ os[j]? = some (.list (ns.map V.int))) ∨ (∃ j n, v = .ref j ∧ j ≠ k ∧ os[j]? = some (.range 0 (n : Nat) 1) ∧ ns = rangeI n)
theorem Src.set {k : Nat} {v : V} {os : List O} {ns : List Int} (h : Src k v os ns) (o : O) : Src k v (os.set k o) ns := by
  rcases h with ⟨j, h1, h2, h3⟩ | ⟨j, n, h1, h2, h3, h4⟩
  · exact .inl ⟨j, h1, h2, by rw [List.getElem?_set_ne (Ne.symm h2)]; exact h3⟩
  · exact .inr ⟨j, n, h1, h2, by rw [List.getElem?_set_ne (Ne.symm h2)]; exact h3, h4⟩
section
variable {C : Cx} {sc : Scope} {lv : Nat} {st : St} {ad : List Addr} {s : Shared}
theorem Src.collect {A : Around} {k : Nat} {v : V} {w : Value} {ns : List Int} {Q : List Value → Shared → Prop} (h : Src k v st.os ns) (hs : SR C ad st s.heap) (r : VR ad v w) (hh : A.handled = none) (hn : ns.length < 128)
    (hQ : ∀ h' tk vs, (∀ b o, s.heap.get? b = some o → h'.get? b = some o) → IntsAre vs ns → Q vs { s with heap := h', toks := tk }) : wpAny C.M A (collect w) Q No s := by
  rcases h with ⟨j, rfl, h2, h3⟩ | ⟨j, n, rfl, h2, h3, rfl⟩
  · obtain ⟨a, ws, ha, hl, hv⟩ := hs.list h3
    cases r.ref ha
    have hi := VRs.ints hv
    have hlen := hi.length
    refine collect_list hl (hQ _ s.toks _ (fun b o e => ?_) hi) (by rw [sizeLine_eq]; omega)
    have hlt : b < s.heap.objs.size := Heap.lt_size e
    rw [Heap.get?_update_ne _ _ _ _ (Nat.ne_of_lt hlt), Heap.get?_push_ne _ _ _ (Nat.ne_of_lt hlt)]
    exact e
  · rw [rangeI_len] at hn
    obtain ⟨a, ob, ha, ho, ⟨t, u, z, rfl⟩, _⟩ := hs.at h3
    cases r.ref ha
    refine collect_range (n := n) hh ho (small_one (by omega) (by omega) (by omega) (by omega)) (by rw [rangeSize_nat]; omega) (by omega) fun h' tk acc hk hacc => hQ _ _ _ hk ?_
    have hacc' : ItemsOf (fun i v => i < n ∧ ∃ t, v = .int (0 + i * 1) t) acc (rangeI n).length := ⟨by rw [rangeI_len]; exact hacc.1, fun i v q => ⟨by rw [← hacc.1]; exact (Array.getElem?_eq_some_iff.mp q).1, hacc.2 i v q⟩⟩
    refine VRs.ints (ad := ad) (ints_from hacc' fun i v q => ?_)
    obtain ⟨hi, t', rfl⟩ := q
    exact ⟨i, t', rangeI_get hi, by simp⟩
theorem av_one {pos : Pos} {e : Expr} {R : V → St → Prop} (h : EV C e st R) (hst : starEach [e] C.env = (false, eval e C.env) :: starEach [] C.env) : AV C pos [e] st (fun vs st1 => ∃ v, vs = [v] ∧ R v st1) :=
  av_cons (EV.mono h fun v st1 q => av_nil ⟨v, rfl, q⟩) hst
/-- sorted(.., key=lambda x: ..) -/
theorem ev_sortLam {px pos lpos kpos : Pos} {iter body : Expr} {params : Arguments} {scope : Scope} {x : Str} {fr clc : List (Str × Nat)} {k : Nat} {P c : Addr} {Q : V → St → Prop} (G : Gd C sc (lv + 2)) (hh : C.A.handled = none)
    (hb : Blt C "sorted" (.builtin "sorted")) (hcode : C.env.code = .ref c) (hhd : CodeHd C.base c P) (hclc : C.cl = clc)
    (h : EV C iter st (fun v st1 => ∃ (ns : List Int) (key : Int → Int) (ps : Array Value), Src k v st1.os ns ∧ 2 ≤ ns.length ∧ ns.length < 128 ∧ ns.Nodup ∧ st1.os[k]? = some (.raw k P (tabObj ps)) ∧ TriplesOk ps.toList ∧
      (∀ (C' : Cx) (n : Int) (os : List O), n ∈ ns → (∀ (i : Nat) (o : O), i ≠ k → st1.os[i]? = some o → os[i]? = some o) → CompCx C C' scope fr lv → EV C' body ⟨[(x, .int n)], os⟩ (fun r st3 => r = .int (key n) ∧ st3.os = os)) ∧
      ((codeAmong lpos ps.toList = none ∧ ∀ (c' : Addr) (oc : Obj) (vs : Array Value) (t : Tok) (out : List Int), oc.data = .fields vs → vs[1]? = some (.str (C.env.qual ++ "<lambda>") t) → SortedB key ns out →
          Q (.ref st1.os.length) ⟨st1.m, st1.os.set k (.raw k P (tabObj (ps ++ #[rawInt lpos.line, rawInt lpos.col, .ref c']))) ++ [.list (out.map V.int)] ++ [.raw (st1.os.length + 1) c' oc]⟩) ∨
       (∃ (c' : Addr) (j : Nat) (oc : Obj) (vs : Array Value) (t : Tok), codeAmong lpos ps.toList = some (.ref c') ∧ st1.os[j]? = some (.raw j c' oc) ∧ oc.data = .fields vs ∧ vs[1]? = some (.str (C.env.qual ++ "<lambda>") t) ∧ ∀ out : List Int, SortedB key ns out → Q (.ref st1.os.length) (st1.add (.list (out.map V.int)))))))
    (hbind : ∀ (q : Str) (pm cv ctv : Value) clos w, bindArgs { name := "<lambda>", qualname := q, params, body := .expr body, scope, globals := mainGlobals, closure := clos, defaults := .none, kwdefaults := .none, doc := .none, pyModule := pm, annotations := none, code := cv, closureTuple := ctv, builtins := builtinsNs } ⟨[w], []⟩ = pure [(x, w)])
    (hfree : ∀ x ∈ scope.names, x.2 = .free → (clc.lookup x.1).isSome = true := by decide) (hfr : ∀ p ∈ fr, (p.1, NameKind.free) ∈ scope.names ∧ clc.lookup p.1 = some p.2 := by decide)
    (hcell : ∀ x ∈ scope.names, x.2 ≠ .cell := by decide) (hl : scope.names.lookup x = some .local := by rfl) (hdef : defaultsOf params C.env = ([], []) := by rfl)
    (hco : scope.isCoroutine = false := by rfl) (hgen : scope.isGenerator = false := by rfl) (hk : scope.kind = .function := by rfl) (hg : sc.names.lookup (Str.ofString "sorted") = some .globalImplicit := by rfl)
    (hst : starEach [iter] C.env = (false, eval iter C.env) :: starEach [] C.env := by rfl)
    (hkw : keywordEach [⟨some "key", .Lambda params body scope lpos, kpos⟩] C.env = [(some (Str.ofString "key"), eval (.Lambda params body scope lpos) C.env)] := by rfl) :
    EV C (.Call (.Name "sorted" px) [iter] [⟨some "key", .Lambda params body scope lpos, kpos⟩] pos) st Q := .mk fun s ad hs => At.mk fun K hK => by
  have turn : ∀ (st2 : St) (f c' : Addr) (pm ctv : Value) (kp : List (Addr × Obj)) (ns : List Int) (key : Int → Int) (n : Int), n ∈ ns → (f, kla_obj "<lambda>" (C.env.qual ++ "<lambda>") params body scope (closOf C.env scope) pm c' ctv) ∈ kp →
      (∀ h ad, SR (C.kept kp) ad st2 h → h.CodeRec (.ref c') (C.env.qual ++ "<lambda>")) → (∀ C', CompCx C C' scope fr lv → EV C' body ⟨[(x, .int n)], st2.os⟩ (fun r st3 => r = .int (key n) ∧ st3.os = st2.os)) →
      CL (C.in2 kp) (.ref f) [.int n] st2 (fun r st' => r = .int (key n) ∧ st' = st2) := fun st2 f c' pm ctv kp ns key n hn hf hcr hbody =>
    call_lam (C := C.in2 kp) (fr := fr) (G.in2 kp) hf (fun h ad hs => hcr h ad hs.out2) (fun w => hbind _ _ _ _ _ _) hl hcell (fun y k' e => by
      have hm := lookup_mem e
      obtain ⟨h1, h2⟩ := hfr _ hm
      have h3 : C.cl.lookup y = some k' := by rw [hclc]; exact h2
      exact ⟨h3, clos_lookup hs h1 h3⟩) (fun C' hc => EV.mono (hbody C' ⟨hc.gd, hc.hand, hc.cl, hc.p, hc.mg⟩) fun r st3 q => ⟨q.1, by rw [q.2]⟩) hco hgen hk
  refine wpAny_Call_Name_kw (((ev_builtin (Q := fun f st1 => f = .fix (.builtin "sorted") ∧ st1 = st) G hb ⟨rfl, rfl⟩ hg).go s ad hs).run _ fun f st0 s0 ad0 w0 q0 e0 p0 hs0 r0 => ?_)
  obtain ⟨rfl, rfl⟩ := q0
  cases r0
  have hp : (starEach [iter] C.env).any (·.1) = false := by rw [hst]; rfl
  refine callWith_builtin_kwB (plain_backTo hp) (by rw [hkw]; rfl) ?_
  have h2 := (av_one (pos := pos) h hst).go s0 ad0 hs0
  revert h2
  show At C ad0 s0 VRs (spliced (backTo pos (starEach [iter] C.env))) _ → wpAny _ _ (evalArgs _ _ (backTo pos (starEach [iter] C.env)) _) _ _ _
  rw [hst, hkw]
  intro h2
  refine evalArgs_kwB (by rfl) (h2.run _ fun vs st1 s1 ad1 ws q1 e1 p1 hs1 r1 => ?_)
  obtain ⟨v, rfl, ns, key, ps, hsrc, hn2, hn128, hnd, hraw, htri, hbody, hcase⟩ := q1
  cases r1 with | cons rv r1 => cases r1 with | nil =>
  refine evalAll_cons (wpAny_bind (wpAny_mono (Q := _) ?_ (fun v s₁ h₁ => wpAny_bind (wpAny_standAt (wpAny_pure h₁))) fun _ _ x => x))
  rcases hcase with ⟨hnf, hQ⟩ | ⟨c', j, oc, vs, t, hf, hj, hd, hv, hQ⟩
  · refine make_lam G hs1 hraw hcode hhd htri hnf hclc hfree hdef fun f c' oc vs t ctv pm s2 e2 hs2 hd hv => evalAll_nil ?_
    have hkk : k < st1.os.length := (List.getElem?_eq_some_iff.mp hraw).1
    refine call_sorted (C := C.kept ((f, kla_obj "<lambda>" (C.env.qual ++ "<lambda>") params body scope (closOf C.env scope) pm c' ctv) :: (c', oc) :: C.kp)) (key := key) hs2 hn2 hn128 hnd (fun Q hQ => Src.collect (C := C.kept ((f, kla_obj "<lambda>" (C.env.qual ++ "<lambda>") params body scope (closOf C.env scope) pm c' ctv) :: (c', oc) :: C.kp)) (st := ⟨st1.m, st1.os.set k (.raw k P (tabObj (ps ++ #[rawInt lpos.line, rawInt lpos.col, .ref c'])))⟩) (hsrc.set _) hs2 rv hh hn128 hQ) (fun kp n hn hkp => ?_) fun out s3 D hso e3 hs3 => ?_
    · refine turn _ f c' pm ctv kp ns key n hn (hkp _ (.head _)) (fun h ad hs => ?_) fun C' hc => hbody C' n _ hn (fun i o hi ho => by show (st1.os.set k _)[i]? = _; rw [List.getElem?_set_ne (Ne.symm hi)]; exact ho) hc
      exact ⟨c', oc, vs, t, rfl, SR.kpAt hs (p := (c', oc)) (hkp _ (.tail _ (.head _))), hd, hv⟩
    · have hs4 := SR.perm hs3 (List.Perm.swap _ _ _)
      have hlen : ad1.length = st1.os.length := hs1.len
      have hs5 := SR.adopt hs4 (o := .raw (st1.os.length + 1) c' oc) ⟨rfl, by rw [← hlen]; simp⟩
      have hs6 := SR.drop (ks := [_]) (kp := C.kp) hs5
      refine hK _ _ _ _ _ (hQ c' oc vs t out hd hv hso) (e0.trans (e1.trans (e2.trans e3))) (p0.trans (p1.trans (by rw [List.append_assoc]; exact List.prefix_append _ _))) hs6 ?_
      exact ⟨D, by rw [← hlen]; simp, rfl⟩
  · refine make_lamHit G hs1 hraw hcode hhd htri hf hclc hfree hdef fun f ctv pm s2 e2 hs2 => evalAll_nil ?_
    refine call_sorted (C := C.kept ((f, kla_obj "<lambda>" (C.env.qual ++ "<lambda>") params body scope (closOf C.env scope) pm c' ctv) :: C.kp)) (key := key) hs2 hn2 hn128 hnd (fun Q hQ => Src.collect (C := C.kept ((f, kla_obj "<lambda>" (C.env.qual ++ "<lambda>") params body scope (closOf C.env scope) pm c' ctv) :: C.kp)) hsrc hs2 rv hh hn128 hQ) (fun kp n hn hkp => ?_) fun out s3 D hso e3 hs3 => ?_
    · refine turn _ f c' pm ctv kp ns key n hn (hkp _ (.head _)) (fun h ad hs => ?_) fun C' hc => hbody C' n _ hn (fun i o hi ho => ho) hc
      exact ⟨c', oc, vs, t, rfl, (SR.raw hs hj).1, hd, hv⟩
    · have hlen : ad1.length = st1.os.length := hs1.len
      have hs6 := SR.drop (ks := [_]) (kp := C.kp) hs3
      refine hK _ _ _ _ _ (hQ out hso) (e0.trans (e1.trans (e2.trans e3))) (p0.trans (p1.trans (List.prefix_append _ _))) hs6 ?_
      exact ⟨D, by rw [← hlen]; simp, rfl⟩
end
end Mine
namespace Mine
theorem dig {i : Nat} : ∀ {k : Nat} {a : Int}, i < k → (pk k a)[k - 1 - i]? = some (a / 256 ^ i % 256) := by
  induction i with
  | zero =>
    intro k a h
    obtain ⟨k, rfl⟩ : ∃ j, k = j + 1 := ⟨k - 1, by omega⟩
    rw [pk_succ, List.getElem?_append_right (by rw [pk_length]; omega), pk_length, show k + 1 - 1 - 0 - k = 0 by omega, Int.pow_zero, Int.ediv_one]
    rfl
  | succ i ih =>
    intro k a h
    obtain ⟨k, rfl⟩ : ∃ j, k = j + 1 := ⟨k - 1, by omega⟩
    rw [pk_succ, List.getElem?_append_left (by rw [pk_length]; omega), show k + 1 - 1 - (i + 1) = k - 1 - i by omega, ih (by omega), Int.pow_succ, Int.mul_comm, ← Int.ediv_ediv_of_nonneg (by decide)]
section
variable {C : Cx} {sc : Scope} {lv : Nat} {st : St} {pos px : Pos} {ad : List Addr} {Q : V → St → Prop}
theorem cl_listR {k n : Nat} (hh : C.A.handled = none) (hk : st.os[k]? = some (.range 0 (n : Nat) 1)) (hn : n < 1000000) (h : Q (.ref st.os.length) (st.add (.list ((rangeI n).map V.int)))) : CL C (.type "list") [.ref k] st Q := .mk fun s ad ws hs hr => At.mk fun K hK => by
  cases hr with | cons ra hr => cases hr with | nil =>
  obtain ⟨a, ob, ha, ho, ⟨t, u, z, rfl⟩, _⟩ := hs.at hk
  cases ra.ref ha
  refine call_list_range (n := n) hh ho (small_one (by omega) (by omega) (by omega) (by omega)) (by rw [rangeSize_nat]; omega) (by omega) fun h' tk acc' c' hk' hg hacc => ?_
  have hacc' : ItemsOf (fun i v => i < n ∧ ∃ t, v = .int (0 + i * 1) t) acc' (rangeI n).length := ⟨by rw [rangeI_len]; exact hacc.1, fun i v q => ⟨by rw [← hacc.1]; exact (Array.getElem?_eq_some_iff.mp q).1, hacc.2 i v q⟩⟩
  refine hK _ _ _ _ _ h (Same.mk' s h' tk) (List.prefix_append _ _) (SR.adoptNew hs hk' hg ⟨acc'.toList, c', by simp, ints_from hacc' fun i v q => ?_⟩) (ref_new _ _ _ hs.len)
  obtain ⟨hi, t', rfl⟩ := q
  exact ⟨i, t', rangeI_get hi, by simp⟩
theorem co_eqLI {i j : Nat} {ns ms : List Int} (G : Gd C sc lv) (hi : st.os[i]? = some (.list (ns.map V.int))) (hj : st.os[j]? = some (.list (ms.map V.int))) (h : Q (.bool (decide (ns = ms))) st) : CO C .Eq (.ref i) (.ref j) st Q := .mk fun s ad va vb hs₀ ra rb => by
  obtain ⟨a, ws, ha, hla, hva⟩ := hs₀.list hi
  obtain ⟨b, us, hb, hlb, hvb⟩ := hs₀.list hj
  cases ra.ref ha
  cases rb.ref hb
  have hu := G.units
  exact At.stay (a := .bool _) hs₀ h rfl fun K hK => eq_intsK hla hva.ints hlb hvb.ints (by rw [show cLine = 9900 from rfl]; omega) hK
end
end Mine
namespace Mine
/-- the top, seen without the code tables -/
theorem tp_ghost {p : Program} {loose : List Str} {mean : ExcName → Option Value} {mg mb : Str → Option Value} {h₁ : Heap} {tabs : List (Addr × Addr)} (T : Top p loose mean mg mb h₁) (hT : TabsAt tabs h₁) : Tp p mg mb (ghostOf h₁ tabs) := by
  have T' := ghost_top hT T
  refine ⟨T'.g, T'.b, T'.nolimit, fun d hd => ?_, T'.builtins, T'.bmain⟩
  obtain ⟨a, o, pm, code, doc, h1, h2, h3, c, oc, vs, t, e1, e2, e3, e4⟩ := T.fn d hd
  refine ⟨a, o, pm, code, doc, h1, ghost_get hT h2 (fun q => by rw [q] at h3; cases h3), h3, c, oc, vs, t, e1, ghost_get hT e2 (fun q => ?_), e3, e4⟩
  rw [q] at e3
  cases e3
  simp at e4
section
variable {prog : Program} {w : World} {A : Around} {env : Env} {h₀ : Heap} {p : Program} {loose : List Str} {mean : ExcName → Option Value} {mg mb : Str → Option Value} {body : List Stmt} {E : Value → Shared → Prop} {K : Flow → Shared → Prop} {s : Shared} {m : Str → Option Value} {x : Str} {l P a1 a2 a3 : Addr} {o1 o2 o3 : Obj}
theorem enterCR {hx : Heap} (cl : List (Str × Nat)) (_ : Top p loose mean mg mb hx) (F : Fr h₀ env.locals s.heap m) (hm : m x = some (.ref l)) (N : News h₀ env.locals s.heap [(a1, o1), (a2, o2), (a3, o3), (P, tabObj #[])]) (hnd : [a1, a2, a3, P].Nodup)
    (h1 : ∃ w, o1.data = .cell w) (h2 : ∃ w, o2.data = .cell w) (h3 : ∃ w, o3.data = .cell w)
    (hc : ∀ x k, cl.lookup x = some k → ∃ c, env.cells.lookup x = some c ∧ [a1, a2, a3, P][k]? = some c)
    (h : SV (mkCxC prog w A env h₀ cl p loose mean mg mb) body ⟨[(x, .fix (.ref l))], [.cell none, .cell none, .cell none, .raw 3 P (tabObj #[])]⟩ (fun f st => f = .ret (.bool true) ∧ ∃ ps, st.os[3]? = some (.raw 3 P (tabObj ps))))
    (hK : ∀ h' tk m' ps, Fr h₀ env.locals h' m' → h'.get? P = some (tabObj ps) → K (.ret (.bool true)) { s with heap := h', toks := tk }) : wpAny (model prog w) A (execs body env) K E s := by
  refine wpNo ((h.go s [a1, a2, a3, P] ⟨⟨_, Sim.refl _ _, m, [(a1, o1), (a2, o2), (a3, o3), (P, tabObj #[])], F, N, rfl, by simpa using hnd, .cons h1 (.cons h2 (.cons h3 (.cons ⟨rfl, rfl⟩ .nil))), fun y v e => ?_⟩, hc⟩).run K fun f st' s' ad' f' q e p hs' r => ?_)
  · rw [List.lookup_cons] at e
    cases hy : y == x with
    | true =>
      rw [hy] at e
      cases e
      rw [eq_of_beq hy]
      exact ⟨_, hm, rfl⟩
    | false => rw [hy] at e; cases e
  · obtain ⟨rfl, ps, hps⟩ := q
    obtain ⟨w, rfl, hw⟩ := r
    cases hw
    obtain ⟨h', tk, rfl⟩ := e
    have hP := (SR.raw hs' hps).1
    obtain ⟨⟨gg, hgg, m', news, F', _⟩, _⟩ := hs'
    exact hK h' tk m' ps (hgg.frNil F') hP
theorem bltR_of {hx : Heap} {cl : List (Str × Nat)} {y : Str} {v : Value} (T : Top p loose mean mg mb hx)
    (hv : bootBuiltins y = some v) (hn : y ≠ "__name__") (h1 : y ∉ startupNames) (h2 : y ∉ loose) (h3 : y ∉ (recsOf p).map (·.name)) (h4 : y ∉ (litsOf p).map (·.1)) (h5 : y ∉ (clssOf p loose).map (·.name)) : Blt (mkCxC prog w A env h₀ cl p loose mean mg mb) y v :=
  ⟨T.free y h1 h2 h3 h4 h5, hv, hn⟩
end
end Mine
namespace Mine
abbrev pw := PySem.Challenge.pw_dm0180_07
open PySem.Builtin.Int (intBits)
local macro_rules | `(tactic| walk_at "sub") => `(tactic| repeat (first | exact Sub.nil | refine Sub.cons rfl ?_))
section
variable {C : Cx} {sc : Scope} {lv : Nat} {st : St} {pos px : Pos} {Q : V → St → Prop} {X : Str → St → Prop} {e : Expr}
theorem ev_v6 (G : Gd C sc (lv + 1)) (hd : drec pw 1 ∈ recsOf C.p)
    (h : EV C e st (fun v st1 => ∃ n : Int, v = .int n ∧ 0 ≤ n ∧ n < 256 ^ 16 ∧ Q (.bytes (byteArr (pk 16 n))) st1))
    (hg : sc.names.lookup (Str.ofString "v6_int_to_packed") = some .globalImplicit := by rfl)
    (hst : starEach [e] C.env = (false, eval e C.env) :: starEach [] C.env := by rfl) :
    EV C (.Call (.Name "v6_int_to_packed" px) [e] [] pos) st Q := by
  refine ev_call (x := "v6_int_to_packed") ["address"] G hd (av_cons (EV.mono h ?_) hst) (fun pm cd doc ws hl => ?_) (by decide +kernel) (by decide +kernel) rfl rfl rfl hg rfl hst
  · rintro v st1 ⟨n, rfl, h0, h1, hq⟩
    refine av_nil ⟨rfl, fun C' hc => ?_⟩
    have G' := hc.gd
    refine sv_cons (xv_try (sv_cons (xv_ret (ev_meth F.plainAttrs_int KTBy.slot F.type_int_to_bytes (ev_local (v := .int n) G' ⟨rfl, ?_⟩)))))
    exact av_cons (ev_int (av_nil (cl_toBytes (k := 16) (by decide) h0 h1 hq)))
  · match ws, hl with
    | [a], _ => rfl
theorem ex_v6 (G : Gd C sc (lv + 2)) (hh : C.A.handled = none) (hd : drec pw 1 ∈ recsOf C.p) (hO : Blt C "OverflowError" (.type "OverflowError")) (hV : Blt C "ValueError" (.type "ValueError"))
    (h : EV C e st (fun v st1 => ∃ n : Int, v = .int n ∧ (n < 0 ∨ 256 ^ 16 ≤ n) ∧ X "Address negative or too large for IPv6" st1))
    (hg : sc.names.lookup (Str.ofString "v6_int_to_packed") = some .globalImplicit := by rfl)
    (hst : starEach [e] C.env = (false, eval e C.env) :: starEach [] C.env := by rfl) :
    EX C (.Call (.Name "v6_int_to_packed" px) [e] [] pos) st X := by
  refine ex_call (x := "v6_int_to_packed") ["address"] G hd (av_cons (EV.mono h ?_) hst) (fun pm cd doc ws hl => ?_) (by decide +kernel) (by decide +kernel) rfl rfl rfl hg rfl hst
  · rintro v st1 ⟨n, rfl, h0, hq⟩
    refine av_nil ⟨rfl, fun C' hc => ?_⟩
    exact packed_refuse (k := 16) hc.gd (Nat.succ_pos _) hc.own (hc.hand.trans hh) (hc.blt hO) (hc.blt hV) (by decide) h0 rfl hq rfl rfl rfl rfl
  · match ws, hl with
    | [a], _ => rfl
end
section
variable {C : Cx} {sc : Scope} {lv : Nat} {st : St} {pos px : Pos} {Q : V → St → Prop} {e e2 : Expr}
theorem ev_refused (G : Gd C sc (lv + 3)) (hh : C.A.handled = none) (hd1 : drec pw 1 ∈ recsOf C.p) (hd3 : drec pw 3 ∈ recsOf C.p) (hO : Blt C "OverflowError" (.type "OverflowError")) (hV : Blt C "ValueError" (.type "ValueError")) (hstr : Blt C "str" (.type "str")) (htype : Blt C "type" (.type "type"))
    (h : EV C e st (fun v st1 => ∃ n : Int, v = .int n ∧ (n < 0 ∨ 256 ^ 16 ≤ n) ∧ ∀ os', st1.os <+: os' → Q (.bool true) ⟨st1.m, os'⟩))
    (hg : sc.names.lookup (Str.ofString "_law_refused") = some .globalImplicit := by rfl)
    (hst : starEach [e] C.env = (false, eval e C.env) :: starEach [] C.env := by rfl) :
    EV C (.Call (.Name "_law_refused" px) [e] [] pos) st Q := by
  refine ev_call (x := "_law_refused") ["number"] G hd3 (av_cons (EV.mono h ?_) hst) (fun pm cd doc ws hl => ?_) (by decide +kernel) (by decide +kernel) rfl rfl rfl hg rfl hst
  · rintro v st1 ⟨n, rfl, hn, hq⟩
    refine av_nil ⟨rfl, fun C' hc => ?_⟩
    have G' := hc.gd
    have hd1' : drec pw 1 ∈ recsOf C'.p := hc.p ▸ hd1
    refine sv_cons (xv_tryX G' hc.own (hc.blt hV) (sx_cons (xx_expr G' (ex_v6 G' (hc.hand.trans hh) hd1' (hc.blt hO) (hc.blt hV) (ev_local (v := .int n) G' ⟨n, rfl, hn, fun ev => ?_⟩)))))
    have Gh := G'.hand ev
    refine sv_cons (xv_ret (ev_and (ev_cmp (ev_callT (ev_builtin Gh (hc.blt htype) ⟨rfl, av_cons (ev_local (v := .ref (st1.os.length + 1)) Gh (av_nil (cl_typeE (j := st1.os.length) (by simp) (ev_builtin Gh (hc.blt hV) (co_is rfl (tt_bool ⟨fun _ => ?_, fun h => absurd h (by decide)⟩))))))⟩)))))
    refine ev_one (ev_cmp (ev_callT (ev_builtin Gh (hc.blt hstr) ⟨rfl, av_cons (ev_local (v := .ref (st1.os.length + 1)) Gh (av_nil (cl_strE Gh (j := st1.os.length) (w := "Address negative or too large for IPv6") (by simp) (by simp) (ev_str (co_eqS ?_)))))⟩)))
    refine ⟨[], SubN.nil, ?_⟩
    exact hq _ ⟨_, rfl⟩
  · match ws, hl with
    | [a], _ => rfl
end
/-- what stands in the store all along -/
structure Rd (W N : List Int) (os : List O) : Prop where
  texts : os[0]? = some (.cell (some (.ref 7)))
  numbers : os[1]? = some (.cell (some (.ref 6)))
  wl : os[5]? = some (.list (W.map V.int))
  nl : os[6]? = some (.list (N.map V.int))
  tl : os[7]? = some (.list (N.map fun n => V.bytes (byteArr (pk 16 n))))
theorem Rd.add {W N : List Int} {os : List O} (h : Rd W N os) (l : List O) : Rd W N (os ++ l) := ⟨os_old h.texts, os_old h.numbers, os_old h.wl, os_old h.nl, os_old h.tl⟩
theorem Rd.pre {W N : List Int} {os os' : List O} (h : Rd W N os) (p : os <+: os') : Rd W N os' := ⟨get_prefix p h.texts, get_prefix p h.numbers, get_prefix p h.wl, get_prefix p h.nl, get_prefix p h.tl⟩
theorem Rd.set {W N : List Int} {os : List O} (h : Rd W N os) {k : Nat} (hk : k = 2 ∨ k = 3) (o : O) : Rd W N (os.set k o) := by
  refine ⟨?_, ?_, ?_, ?_, ?_⟩ <;> rw [List.getElem?_set_ne (by omega)]
  · exact h.texts
  · exact h.numbers
  · exact h.wl
  · exact h.nl
  · exact h.tl
def numAt (N : List Int) (p : Int) : Int := N.getD p.toNat 0
theorem numAt_get {N : List Int} {p : Int} (h0 : 0 ≤ p) (h1 : p < N.length) : N[p.toNat]? = some (numAt N p) := by
  unfold numAt
  rw [List.getD_eq_getElem?_getD]
  obtain ⟨y, hy⟩ : ∃ y, N[p.toNat]? = some y := ⟨_, List.getElem?_eq_getElem (by omega)⟩
  rw [hy]; rfl
theorem numAt_mem {N : List Int} {p : Int} (h0 : 0 ≤ p) (h1 : p < N.length) : numAt N p ∈ N := List.mem_of_getElem? (numAt_get h0 h1)
theorem int_of_map {L : List Int} {i : Nat} {v : V} (h : (L.map V.int)[i]? = some v) : ∃ n, L[i]? = some n ∧ v = .int n := by
  rw [List.getElem?_map] at h
  cases e : L[i]? with
  | none => rw [e] at h; cases h
  | some n => rw [e] at h; exact ⟨n, rfl, (Option.some.inj h).symm⟩
def lp1 : Pos := ⟨25, 36, 25, 65⟩
/-- the table of the law's code objects: empty, or with the first lambda's -/
def Tab (qual : Str) (P : Addr) (i : Nat) (os : List O) : Prop :=
  (i = 0 ∧ os[3]? = some (.raw 3 P (tabObj #[]))) ∨ ∃ (c' : Addr) (j : Nat) (oc : Obj) (vs : Array Value) (t : Tok), os[3]? = some (.raw 3 P (tabObj (#[] ++ #[rawInt lp1.line, rawInt lp1.col, .ref c']))) ∧ os[j]? = some (.raw j c' oc) ∧ oc.data = .fields vs ∧ vs[1]? = some (.str (qual ++ "<lambda>") t)
theorem Tab.cell {qual : Str} {P : Addr} {i : Nat} {os : List O} (h : Tab qual P i os) {v w : Option V} (hv : os[2]? = some (.cell v)) : Tab qual P i (os.set 2 (.cell w)) := by
  rcases h with ⟨h1, h2⟩ | ⟨c', j, oc, vs, t, h1, h2, h3⟩
  · exact .inl ⟨h1, by rw [List.getElem?_set_ne (by omega)]; exact h2⟩
  · refine .inr ⟨c', j, oc, vs, t, by rw [List.getElem?_set_ne (by omega)]; exact h1, ?_, h3⟩
    rw [List.getElem?_set_ne (fun e => by subst e; rw [hv] at h2; cases h2)]
    exact h2
set_option maxRecDepth 100000 in
theorem law_main {C : Cx} {P c : Addr} (G : Gd C (drec pw 4).scope 3) (hh : C.A.handled = none) (ow : Own C) (hcl : C.cl = [(("texts" : Str), 0), ("numbers", 1), ("k", 2)]) (hcode : C.env.code = .ref c) (hhd : CodeHd C.base c P) (hd1 : drec pw 1 ∈ recsOf C.p) (hd3 : drec pw 3 ∈ recsOf C.p)
    (hO : Blt C "OverflowError" (.type "OverflowError")) (hV : Blt C "ValueError" (.type "ValueError")) (hstr : Blt C "str" (.type "str")) (hbytes : Blt C "bytes" (.type "bytes")) (hrange : Blt C "range" (.type "range")) (htype : Blt C "type" (.type "type")) (hlist : Blt C "list" (.type "list")) (hzip : Blt C "zip" (.type "zip")) (hblen : Blt C "len" (.builtin "len")) (hsorted : Blt C "sorted" (.builtin "sorted"))
    {l : Addr} {xs : List Value} {ns : List Int} (hl : C.h₀.IsList l xs.toArray) (hi : IntsAre xs ns) (hlen : ns.length ≤ 63) :
    SV C (drec pw 4).body ⟨[("script", .fix (.ref l))], [.cell none, .cell none, .cell none, .raw 3 P (tabObj #[])]⟩ (fun f st => f = .ret (.bool true) ∧ ∃ ps, st.os[3]? = some (.raw 3 P (tabObj ps))) := by
  conv at G => enter [2]; whnf
  conv => enter [2]; whnf
  have c0 : ∀ kp, (C.kept kp).cl.lookup ("texts" : Str) = some 0 := fun kp => by show C.cl.lookup _ = _; rw [hcl]; rfl
  have c1 : ∀ kp, (C.kept kp).cl.lookup ("numbers" : Str) = some 1 := fun kp => by show C.cl.lookup _ = _; rw [hcl]; rfl
  have c2 : ∀ kp, (C.kept kp).cl.lookup ("k" : Str) = some 2 := fun kp => by show C.cl.lookup _ = _; rw [hcl]; rfl
  refine sv_cons (xv_assign G (ev_binop (ev_list ?_)))
  refine av_cons (ev_int (av_cons (ev_int (av_cons (ev_int (av_cons (ev_unop (ev_int (uo_neg (av_cons (ev_int (av_cons (ev_binop (ev_int (ev_int (bo_pow (by decide) (by decide +kernel) (av_nil ⟨by simp, ?_⟩)))))))))))))))))
  refine ev_local G (bo_addS rfl hl hi (by simp; omega) ?_)
  generalize hx6 : (2 : Int) ^ (128 : Int).toNat = x6
  obtain ⟨W, hW⟩ : ∃ W : List Int, W = [65536, 1, 256, -1, 1, x6] ++ ns := ⟨_, rfl⟩
  have hWl : W.length = ns.length + 6 := by rw [hW]; simp
  have hWm : ([V.int 65536, V.int 1, V.int 256, V.int (-1), V.int 1, V.int x6] ++ ns.map V.int) = W.map V.int := by rw [hW]; simp
  have d0 : C.cl.lookup ("texts" : Str) = some 0 := c0 C.kp
  have d1 : C.cl.lookup ("numbers" : Str) = some 1 := c1 C.kp
  have d2 : C.cl.lookup ("k" : Str) = some 2 := c2 C.kp
  show SV C _ ⟨[("wholes", .ref 5), ("script", .fix (.ref l))], [.cell none, .cell none, .cell none, .raw 3 P (tabObj #[]), .list [.int 65536, .int 1, .int 256, .int (-1), .int 1, .int x6], .list ([V.int 65536, V.int 1, V.int 256, V.int (-1), V.int 1, V.int x6] ++ ns.map V.int)]⟩ _
  rw [hWm]
  refine sv_cons (xv_assignC G d1 (ev_compI (fr := []) (W.map fun x => x % 2 ^ 128) G hcl (ev_local (v := .ref 5) G ⟨W.map V.int, _, iter_list hh rfl, by simp; omega, by simp, rfl, ?_, ?_⟩)))
  · rintro C' i v r hc hv hr
    obtain ⟨x, hx, rfl⟩ := int_of_map hv
    have Gc := hc.gd
    refine as_name Gc (ev_binop (ev_local (v := .int x) Gc (ev_binop (ev_int (ev_int (bo_pow (by decide) (by decide +kernel) (bo_mod (by decide +kernel) ⟨?_, rfl⟩)))))))
    rw [List.getElem?_map, hx] at hr
    cases hr
    rfl
  refine ⟨none, rfl, ?_⟩
  obtain ⟨N, hN⟩ : ∃ N : List Int, N = W.map fun x => x % 2 ^ 128 := ⟨_, rfl⟩
  have hNl : N.length = ns.length + 6 := by rw [hN, List.length_map, hWl]
  have hNb : ∀ x ∈ N, 0 ≤ x ∧ x < 256 ^ 16 := fun x hx => by
    rw [hN] at hx
    obtain ⟨y, _, rfl⟩ := List.mem_map.mp hx
    have h1 := Int.emod_nonneg y (show (2 : Int) ^ 128 ≠ 0 by decide)
    have h2 := Int.emod_lt_of_pos y (show (0 : Int) < 2 ^ 128 by decide)
    exact ⟨h1, h2⟩
  show SV C _ ⟨[("wholes", .ref 5), ("script", .fix (.ref l))], [.cell none, .cell (some (.ref 6)), .cell none, .raw 3 P (tabObj #[]), .list [.int 65536, .int 1, .int 256, .int (-1), .int 1, .int x6], .list (W.map V.int), .list ((W.map fun x => x % 2 ^ 128).map V.int)]⟩ _
  rw [← hN]
  obtain ⟨os0, hos⟩ : ∃ os0 : List O, os0 = [.cell none, .cell (some (.ref 6)), .cell none, .raw 3 P (tabObj #[]), .list [.int 65536, .int 1, .int 256, .int (-1), .int 1, .int x6], .list (W.map V.int), .list (N.map V.int)] := ⟨_, rfl⟩
  rw [← hos]
  have o0 : os0[0]? = some (.cell none) := by rw [hos]; rfl
  have o1 : os0[1]? = some (.cell (some (.ref 6))) := by rw [hos]; rfl
  have o2 : os0[2]? = some (.cell none) := by rw [hos]; rfl
  have o3 : os0[3]? = some (.raw 3 P (tabObj #[])) := by rw [hos]; rfl
  have o5 : os0[5]? = some (.list (W.map V.int)) := by rw [hos]; rfl
  have o6 : os0[6]? = some (.list (N.map V.int)) := by rw [hos]; rfl
  have ol : os0.length = 7 := by rw [hos]; rfl
  clear hos
  refine sv_cons (xv_assignC G d0 (ev_comp (fr := []) G hcl (ev_cell G ⟨N.map V.int, _, fun i acc os => acc = (N.take i).map (fun n => V.bytes (byteArr (pk 16 n))) ∧ os = os0, iter_list hh o6, by simp; omega, ⟨by simp, rfl⟩, ?_, ?_, ?_⟩ d1 o1)))
  · rintro i acc os ⟨_, rfl⟩
    exact o6
  · rintro C' i v acc os hc hv ⟨rfl, rfl⟩
    obtain ⟨x, hx, rfl⟩ := int_of_map hv
    have Gc := hc.gd
    have hd1' : drec pw 1 ∈ recsOf C'.p := hc.p ▸ hd1
    have hb := hNb x (List.mem_of_getElem? hx)
    refine as_name Gc (ifv_nil ?_)
    rw [if_pos rfl]
    refine ev_v6 Gc hd1' (ev_local (v := .int x) Gc ⟨x, rfl, hb.1, hb.2, ?_, rfl⟩)
    rw [List.take_add_one, hx, List.map_append]
    rfl
  rintro acc os ⟨rfl, rfl⟩
  rw [List.length_map, List.take_length]
  refine ⟨none, os_old o0, ?_⟩
  obtain ⟨os1, hos1⟩ : ∃ os1 : List O, os1 = (os ++ [O.list (N.map fun n => V.bytes (byteArr (pk 16 n)))]).set 0 (.cell (some (.ref 7))) := ⟨_, rfl⟩
  show SV C _ ⟨[("wholes", .ref 5), ("script", .fix (.ref l))], (os ++ [O.list (N.map fun n => V.bytes (byteArr (pk 16 n)))]).set 0 (.cell (some (.ref os.length)))⟩ _
  rw [ol, ← hos1]
  have R1 : Rd W N os1 := by
    rw [hos1]
    refine ⟨?_, ?_, ?_, ?_, ?_⟩
    · rw [List.getElem?_set_self (by simp)]
    · rw [List.getElem?_set_ne (by omega)]; exact os_old o1
    · rw [List.getElem?_set_ne (by omega)]; exact os_old o5
    · rw [List.getElem?_set_ne (by omega)]; exact os_old o6
    · rw [List.getElem?_set_ne (by omega), ← ol]; exact os_new _ _
  have t1 : os1[2]? = some (.cell none) ∧ os1[3]? = some (.raw 3 P (tabObj #[])) ∧ os1.length = 8 := by
    rw [hos1]
    refine ⟨?_, ?_, by simp; omega⟩
    · rw [List.getElem?_set_ne (by omega)]; exact os_old o2
    · rw [List.getElem?_set_ne (by omega)]; exact os_old o3
  clear hos1
  have ow' : ∀ kp, Own (C.kept kp) := fun kp => ow
  refine sv_cons (xv_forZ (zv_zip3 G hh hzip ?_))
  refine av_cons (ev_local (v := .ref 5) G (av_cons (ev_cell G (av_cons (ev_cell G (av_nil ⟨_, _, _, _, _, _, _, _, _, rfl, src_list R1.wl, src_list R1.nl, src_list R1.tl, by simp; omega, by simp, ?_⟩) d0 R1.texts)) d1 R1.numbers)))
  refine ⟨fun i st' => ∃ os', st' = ⟨[], os'⟩ ∧ os1 <+: os', ⟨[], Sub.nil, _, rfl, List.prefix_refl _⟩, ?_, ?_, ?_⟩
  · rintro i st' ⟨os', rfl, hp⟩
    exact ⟨(R1.pre hp).wl, (R1.pre hp).nl, (R1.pre hp).tl⟩
  · rintro i vs st' kp hv ⟨os', rfl, hp⟩
    obtain ⟨v1, v2, v3, rfl, h1, h2, h3⟩ := zw3 hv
    obtain ⟨w, hw, rfl⟩ := int_of_map h1
    obtain ⟨n, hn, rfl⟩ := int_of_map h2
    have e3 : v3 = .bytes (byteArr (pk 16 n)) := by
      rw [List.getElem?_map, hn] at h3
      exact (Option.some.inj h3).symm
    subst e3
    have hnw : n = w % 2 ^ 128 := by
      rw [hN, List.getElem?_map, hw] at hn
      exact (Option.some.inj hn).symm
    have G' := G.kept kp
    refine as_tuple hh (os_new _ _) (ao_cons (as_name G' (ao_cons (as_name G' (ao_cons (as_name G' (ao_nil ?_))))))) rfl
    refine sv_cons (xv_if (bv_or (or_cons (bv_cmp (ev_callT (ev_builtin G' htype ⟨rfl, av_cons (ev_local (v := .bytes (byteArr (pk 16 n))) G' (av_nil (cl_type (v := .bytes (byteArr (pk 16 n))) rfl rfl (ev_builtin G' hbytes (co_isnot rfl (tt_bool ⟨fun h => absurd h (by decide), fun _ => ?_⟩))))))⟩))))))
    refine or_cons (bv_cmp (ev_callB (ev_builtin G' hblen ⟨rfl, av_cons (ev_local (v := .bytes (byteArr (pk 16 n))) G' (av_nil (cl_lenB (by rw [pk_length]; decide) (ev_int (co_ne (tt_bool ⟨fun h => absurd h (by rw [pk_length]; decide), fun _ => or_nil ⟨fun h => absurd h (by decide), fun _ => sv_nil ?_⟩⟩))))))⟩)))
    refine sv_cons (xv_if (bv_or (and_cons (bv_cmp (ev_local (v := .int w) G' (ev_local (v := .int n) G' (co_ne (tt_bool ⟨fun h => ?_, fun h => ⟨fun h' => absurd h' (by decide), fun _ => sv_nil (sv_nil ?_)⟩⟩))))))))
    · have hne : w ≠ n := by simpa using h
      have href : w < 0 ∨ 256 ^ 16 ≤ w := by
        have : ¬ (0 ≤ w ∧ w < 2 ^ 128) := fun q => hne (by rw [hnw, Int.emod_eq_of_lt q.1 q.2])
        have e : (256 : Int) ^ 16 = 2 ^ 128 := by decide
        omega
      refine and_cons (bv_not (bv_val (ev_refused G' hh hd1 hd3 hO hV hstr htype (ev_local (v := .int w) G' ⟨w, rfl, href, fun os2 hp2 => tt_bool ⟨fun h => absurd h (by decide), fun _ => ⟨fun h' => absurd h' (by decide), fun _ => sv_nil (sv_nil ?_)⟩⟩⟩))))
      have hp3 := hp.trans ((List.prefix_append os' _).trans hp2)
      exact ⟨⟨[], os2⟩, ⟨Sub.nil, .inl rfl⟩, hp3.length_le, os2, rfl, hp3⟩
    · have hp3 := hp.trans (List.prefix_append os' [O.tuple [.int w, .int n, .bytes (byteArr (pk 16 n))]])
      exact ⟨⟨[], _⟩, ⟨Sub.nil, .inl rfl⟩, hp3.length_le, _, rfl, hp3⟩
  rintro st' ⟨os', rfl, hp⟩
  have R2 := R1.pre hp
  have t2 := get_prefix hp t1.1
  have t3 := get_prefix hp t1.2.1
  have hl8 := hp.length_le
  clear hp R1
  refine sv_cons (xv_assign G (ev_callT (ev_builtin G hlist ⟨rfl, av_cons (ev_callT (ev_builtin G hrange ⟨rfl, av_cons (ev_callB (ev_builtin G hblen ⟨rfl, av_cons (ev_cell G (av_nil (cl_lenL R2.nl (by simp; omega) (av_nil (cl_range1 (av_nil (cl_listR (n := (N.map V.int).length) hh (os_new _ _) (by simp; omega) ?_)))))) d1 R2.numbers)⟩))⟩))⟩)))
  rw [List.length_map]
  have R3 := (R2.add [.range 0 (N.length : Nat) 1]).add [.list ((rangeI N.length).map V.int)]
  have u2 : (os' ++ [O.range 0 (N.length : Nat) 1] ++ [O.list ((rangeI N.length).map V.int)])[2]? = some (.cell none) := os_old (os_old t2)
  have u3 : (os' ++ [O.range 0 (N.length : Nat) 1] ++ [O.list ((rangeI N.length).map V.int)])[3]? = some (.raw 3 P (tabObj #[])) := os_old (os_old t3)
  have u4 : (os' ++ [O.range 0 (N.length : Nat) 1] ++ [O.list ((rangeI N.length).map V.int)])[os'.length + 1]? = some (.list ((rangeI N.length).map V.int)) := by
    simp
  show SV C _ ⟨[("places", .ref (os' ++ [O.range 0 (N.length : Nat) 1]).length)], os' ++ [O.range 0 (N.length : Nat) 1] ++ [O.list ((rangeI N.length).map V.int)]⟩ _
  rw [show (os' ++ [O.range 0 (N.length : Nat) 1]).length = os'.length + 1 by simp]
  obtain ⟨k0, hk0⟩ : ∃ k0, k0 = os'.length + 1 := ⟨_, rfl⟩
  rw [← hk0] at u4 ⊢
  generalize os' ++ [O.range 0 (N.length : Nat) 1] ++ [O.list ((rangeI N.length).map V.int)] = os2 at R3 u2 u3 u4 ⊢
  have hk8 : 8 ≤ k0 := by omega
  clear R2 t2 t3 hk0
  refine sv_cons (xv_for (ev_callT (ev_builtin G hrange ⟨rfl, av_cons (ev_int (av_cons (ev_unop (ev_int (uo_neg (av_cons (ev_unop (ev_int (uo_neg (av_nil (cl_range3 (by decide) (by decide) ?_)))))))))))⟩)))
  refine ⟨_, _, fun i st' => ∃ os' L kp, st' = ⟨[("places", .ref kp)], os'⟩ ∧ Rd W N os' ∧ 8 ≤ kp ∧ os'[kp]? = some (.list (L.map V.int)) ∧ Laid (numAt N) N.length i L ∧ (∃ v, os'[2]? = some (.cell v)) ∧ Tab C.env.qual P i os' ∧ os2.length + 1 ≤ os'.length,
    iter_range (n := 16) (a := 15) (b := -1) (c := -1) hh (os_new _ _) (by decide +kernel) (by decide +kernel), ⟨[("places", .ref k0)], Sub.cons rfl Sub.nil, _, _, _, rfl, R3.add _, hk8, os_old u4, Laid.zero _ _, ⟨_, os_old u2⟩, .inl ⟨rfl, os_old u3⟩, by simp⟩, fun _ _ _ => trivial, ?_, ?_⟩
  · rintro i v st' kq hv ⟨os3, L, kp, rfl, R, hkp8, hL, hLaid, ⟨v2, hv2⟩, hT, hlen3⟩
    obtain ⟨hi16, rfl⟩ := range_item hv
    have G' := G.kept kq
    refine as_cell G' (c2 kq) hv2 ?_
    have R' := R.set (.inl rfl) (.cell (some (.int (15 + (i : Int) * (-1)))))
    have hT' := hT.cell (w := some (.int (15 + (i : Int) * (-1)))) hv2
    have hL' : (os3.set 2 (.cell (some (.int (15 + (i : Int) * (-1))))))[kp]? = some (.list (L.map V.int)) := by rw [List.getElem?_set_ne (by omega)]; exact hL
    have hk' : (os3.set 2 (.cell (some (.int (15 + (i : Int) * (-1))))))[2]? = some (.cell (some (.int (15 + (i : Int) * (-1))))) := os_put hv2
    have hlen' : os2.length + 1 ≤ (os3.set 2 (.cell (some (.int (15 + (i : Int) * (-1)))))).length := by rw [List.length_set]; exact hlen3
    generalize os3.set 2 (.cell (some (.int (15 + (i : Int) * (-1))))) = os4 at R' hT' hL' hk' hlen' ⊢
    clear R hL hT hlen3
    refine sv_cons (xv_assign G' (ev_sortLam (x := "place") (fr := [(("texts" : Str), 0), ("k", 2)]) (k := 3) (P := P) (c := c) (lv := 1) G' hh hsorted hcode hhd hcl (ev_local (v := .ref kp) G' ?_) (fun _ _ _ _ _ _ => rfl)))
    have hLl := hLaid.len
    have h8 : 8 ≤ os4.length := by have := (List.getElem?_eq_some_iff.mp R'.tl).1; omega
    rcases hT' with ⟨hi0, h3⟩ | ⟨c', j, oc, vs, t, h3, hj, hd, hv⟩
    · refine ⟨L, fun x => numAt N x / 256 ^ i % 256, _, .inl ⟨kp, rfl, by omega, hL'⟩, by omega, by omega, hLaid.nodup, h3, trivial, ?_, .inl ⟨rfl, fun c' oc vs t out hd hv so => ?_⟩⟩
      · intro C' n os hn ho hc
        have Gc := hc.gd
        have hm := hLaid.mem hn
        have hx := numAt_get hm.1 hm.2
        have hcl' := hc.cl
        refine ev_sub (ev_sub (ev_free Gc (ev_local (v := .int n) Gc (gi_list (ho 7 _ (by decide) R'.tl) hm.1 (by omega) (by rw [List.getElem?_map, hx]; rfl) (ev_free Gc (gi_bytes (by rw [pk_length]; decide) (pk_in 16 _) (by omega) ?_ ⟨rfl, rfl⟩) (by rw [hcl']; rfl) (ho 2 _ (by decide) hk')))) (by rw [hcl']; rfl) (ho 0 _ (by decide) R'.texts)))
        rw [show (15 + (i : Int) * (-1)).toNat = 16 - 1 - i by omega]
        exact dig hi16
      · have e1 : (os4.set 3 (.raw 3 P (tabObj (#[] ++ #[rawInt lp1.line, rawInt lp1.col, .ref c']))) ++ [O.list (out.map V.int)] ++ [O.raw (os4.length + 1) c' oc])[os4.length]? = some (.list (out.map V.int)) := os_old (by
          have := os_new (os4.set 3 (.raw 3 P (tabObj (#[] ++ #[rawInt lp1.line, rawInt lp1.col, .ref c'])))) (O.list (out.map V.int))
          rw [List.length_set] at this
          exact this)
        have e2 : (os4.set 3 (.raw 3 P (tabObj (#[] ++ #[rawInt lp1.line, rawInt lp1.col, .ref c']))) ++ [O.list (out.map V.int)] ++ [O.raw (os4.length + 1) c' oc])[os4.length + 1]? = some (.raw (os4.length + 1) c' oc) := by
          have := os_new (os4.set 3 (.raw 3 P (tabObj (#[] ++ #[rawInt lp1.line, rawInt lp1.col, .ref c']))) ++ [O.list (out.map V.int)]) (O.raw (os4.length + 1) c' oc)
          rw [List.length_append, List.length_set] at this
          exact this
        refine sv_nil ⟨⟨[("places", .ref os4.length)], _⟩, ⟨Sub.cons rfl Sub.nil, .inl rfl⟩, by simp; omega, _, out, os4.length, rfl, ((R'.set (.inr rfl) _).add _).add _, by omega, e1, hLaid.step so, ⟨_, os_old (os_old (by rw [List.getElem?_set_ne (by omega)]; exact hk'))⟩, .inr ⟨c', os4.length + 1, oc, vs, t, os_old (os_old (os_put h3)), e2, hd, hv⟩, by simp; omega⟩
    · refine ⟨L, fun x => numAt N x / 256 ^ i % 256, _, .inl ⟨kp, rfl, by omega, hL'⟩, by omega, by omega, hLaid.nodup, h3, trivial, ?_, .inr ⟨c', j, oc, vs, t, rfl, hj, hd, hv, fun out so => ?_⟩⟩
      · intro C' n os hn ho hc
        have Gc := hc.gd
        have hm := hLaid.mem hn
        have hx := numAt_get hm.1 hm.2
        have hcl' := hc.cl
        refine ev_sub (ev_sub (ev_free Gc (ev_local (v := .int n) Gc (gi_list (ho 7 _ (by decide) R'.tl) hm.1 (by omega) (by rw [List.getElem?_map, hx]; rfl) (ev_free Gc (gi_bytes (by rw [pk_length]; decide) (pk_in 16 _) (by omega) ?_ ⟨rfl, rfl⟩) (by rw [hcl']; rfl) (ho 2 _ (by decide) hk')))) (by rw [hcl']; rfl) (ho 0 _ (by decide) R'.texts)))
        rw [show (15 + (i : Int) * (-1)).toNat = 16 - 1 - i by omega]
        exact dig hi16
      · refine sv_nil ⟨⟨[("places", .ref os4.length)], _⟩, ⟨Sub.cons rfl Sub.nil, .inl rfl⟩, by simp; omega, _, out, os4.length, rfl, R'.add _, by omega, os_new _ _, hLaid.step so, ⟨_, os_old hk'⟩, .inr ⟨c', j, oc, vs, t, os_old h3, os_old hj, hd, hv⟩, by simp; omega⟩
  · rintro st' ⟨os3, L, kp, rfl, R, hkp8, hL, hLaid, ⟨v2, hv2⟩, hT, hlen3⟩
    rcases hT with ⟨hi0, h3⟩ | ⟨c', j, oc, vs, t, h3, hj, hd, hv⟩
    · simp at hi0
    have h16 : Laid (numAt N) N.length 16 L := by simpa using hLaid
    refine sv_cons (xv_ret (ev_cmp (ev_local (v := .ref kp) G (ev_sortLam (x := "place") (fr := [(("numbers" : Str), 1)]) (k := 3) (P := P) (c := c) (lv := 1) G hh hsorted hcode hhd hcl (ev_callT (ev_builtin G hrange ⟨rfl, av_cons (ev_callB (ev_builtin G hblen ⟨rfl, av_cons (ev_cell G (av_nil (cl_lenL R.nl (by simp; omega) (av_nil (cl_range1 ?_)))) d1 R.numbers)⟩))⟩)) (fun _ _ _ _ _ _ => rfl)))))
    rw [List.length_map]
    refine ⟨rangeI N.length, numAt N, _, .inr ⟨os3.length, N.length, rfl, by have := (List.getElem?_eq_some_iff.mp R.tl).1; omega, os_new _ _, rfl⟩, by rw [rangeI_len]; omega, by rw [rangeI_len]; omega, rangeI_nodup _, os_old h3, trivial, ?_, .inl ⟨rfl, fun c2 oc2 vs2 t2 out hd2 hv2 so => ?_⟩⟩
    · intro C' n os hn ho hc
      have Gc := hc.gd
      have hm := mem_rangeI.mp hn
      have hx := numAt_get hm.1 hm.2
      have hcl' := hc.cl
      refine ev_sub (ev_free Gc (ev_local (v := .int n) Gc (gi_list (ho 6 _ (by decide) (os_old R.nl)) hm.1 (by omega) (by rw [List.getElem?_map, hx]; rfl) ⟨rfl, rfl⟩)) (by rw [hcl']; rfl) (ho 1 _ (by decide) (os_old R.numbers)))
    · have heq : L = out := h16.last (fun x h0 h1 => hNb _ (numAt_mem h0 h1)) so
      subst heq
      have e1 : ((os3 ++ [O.range 0 (N.length : Nat) 1]).set 3 (.raw 3 P (tabObj (#[] ++ #[rawInt lp1.line, rawInt lp1.col, .ref c'] ++ #[rawInt (26 : Nat), rawInt (53 : Nat), .ref c2]))) ++ [O.list (L.map V.int)] ++ [O.raw ((os3 ++ [O.range 0 (N.length : Nat) 1]).length + 1) c2 oc2])[(os3 ++ [O.range 0 (N.length : Nat) 1]).length]? = some (.list (L.map V.int)) := os_old (by
        have := os_new ((os3 ++ [O.range 0 (N.length : Nat) 1]).set 3 (.raw 3 P (tabObj (#[] ++ #[rawInt lp1.line, rawInt lp1.col, .ref c'] ++ #[rawInt (26 : Nat), rawInt (53 : Nat), .ref c2])))) (O.list (L.map V.int))
        rw [List.length_set] at this
        exact this)
      refine co_eqLI G (os_old (os_old (by rw [List.getElem?_set_ne (by omega)]; exact os_old hL))) e1 ⟨?_, _, os_old (os_old (os_put (os_old h3)))⟩
      show F.ret (V.bool (decide (L = L))) = _
      rw [decide_eq_true rfl]
end Mine
set_option maxHeartbeats 8000000 in
theorem PySem.Challenge.cw_dm0180_07_holds : PySem.Challenge.rw_dm0180_07.Holds := by
  open_k0
  rename Top _ _ _ _ _ (Shared.heap _) => T
  rename Fr _ _ _ _ => F
  rename News _ _ _ _ => N0
  rename CodeHd _ _ _ => hhd
  rename TabsAt _ _ => hT
  rename IntsAre _ _ => hI
  rename Below _ _ _ _ => K0
  rename (¬ (_ < _)) => hlen
  rename Heap.IsList (ghostOf _ _) _ _ => hL
  rename (30 < _) => l0
  refine Mine.enterCR (x := "script") [("texts", 0), ("numbers", 1), ("k", 2)] T F rfl N0 (by simp; omega) ⟨_, by assumption⟩ ⟨_, by assumption⟩ ⟨_, by assumption⟩ (fun x k h => ?_) ?_ ?_
  · have := Mine.lookup_mem h
    simp only [List.mem_cons, List.not_mem_nil, or_false, Prod.mk.injEq] at this
    rcases this with ⟨rfl, rfl⟩ | ⟨rfl, rfl⟩ | ⟨rfl, rfl⟩
    · exact ⟨_, rfl, rfl⟩
    · exact ⟨_, rfl, rfl⟩
    · exact ⟨_, rfl, rfl⟩
  · refine Mine.law_main ⟨rfl, rfl, rfl, rfl, Mine.tp_ghost T hT, ⟨fun _ _ e => e, by intro b h; cases h⟩, (by show callerA.depth + 1 + 3 < 500; decide), (by show callerA.units + 3 + 9 < 5000; decide), fun _ => ⟨_, _, K0, (by intro b h; cases h), .inl ⟨rfl, rfl⟩⟩⟩ rfl ⟨⟨_, rfl⟩, rfl⟩ rfl rfl hhd (List.mem_of_getElem? (i := 0) (by kernel_rfl)) (List.mem_of_getElem? (i := 1) (by kernel_rfl)) ?_ ?_ ?_ ?_ ?_ ?_ ?_ ?_ ?_ ?_ hL hI (by omega)
    all_goals exact Mine.bltR_of T (by kernel_rfl) (by decide) (by decide +kernel) (by decide +kernel) (by decide +kernel) (by decide +kernel) (by decide +kernel)
  · intro h' tk m' ps F' hP
    dsimp only
    refine ⟨?_, ⟨ps, hP⟩, trivial⟩
    kc_close
namespace Mine
end Mine
