import PyProof.Rows.All
import Wide.All
import OpenK.AllK
import Wide.FinOn
import PySem.Challenge.RW_dz0104_02
open PySem PySem.W PyProof.Rows
set_option Elab.async false
set_option maxRecDepth 100000
set_option linter.unusedVariables false
set_option linter.unusedSimpArgs false
set_option linter.constructorNameAsVariable false
namespace Mine
inductive AV where
  | unb | none
  | bool (b : Bool)
  | int (i : Int)
  | str (s : Str)
  | tup (vs : List AV)
  | lst (vs : List AV)
  | obj (i : Nat)
  | glob (v : Value)
  | exc (c : String) (args : List Str)
  | deq
inductive AFlow where
  | next | brk | cont
  | ret (v : AV)
abbrev OB := Addr × List (Str × AV)
structure St where
  gl : List (Str × Value)
  loc : List (Str × AV)
  objs : List OB
abbrev Obs := List (Addr × Addr)
def obA (obs : Obs) : List Addr := obs.flatMap fun p => [p.1, p.2]
def KeptAt (h h' : Heap) (a : Addr) : Prop := ∀ o, h.get? a = some o → ∃ sl, h'.get? a = some { o with slots := sl }
theorem KeptAt.refl (h : Heap) (a : Addr) : KeptAt h h a := fun o e => ⟨o.slots, e⟩
theorem KeptAt.trans {h₁ h₂ h₃ : Heap} {a : Addr} (x : KeptAt h₁ h₂ a) (y : KeptAt h₂ h₃ a) : KeptAt h₁ h₃ a := fun o e =>
  let ⟨_, e₁⟩ := x o e; let ⟨sl, e₂⟩ := y _ e₁; ⟨sl, e₂⟩
theorem KeptAt.of_eq {h h' : Heap} {a : Addr} (e : h'.get? a = h.get? a) : KeptAt h h' a := fun o x => ⟨o.slots, e.trans x⟩
theorem KeptAt.of_push {h : Heap} {a : Addr} (o' : Obj) : KeptAt h (h.push o') a := fun o x => ⟨o.slots, Heap.get?_push_of_some _ x⟩
def KeptV (h h' : Heap) (a : Addr) : Prop := ∀ o, h.get? a = some o → ∃ o', h'.get? a = some o' ∧ o'.cls = o.cls ∧ o'.dict = o.dict ∧
  (o'.data = o.data ∨ ∃ vs vs', o.data = .fields vs ∧ o'.data = .fields vs' ∧ vs'[0]? = vs[0]? ∧ vs'.size = vs.size)
theorem KeptAt.v {h h' : Heap} {a : Addr} (x : KeptAt h h' a) : KeptV h h' a := fun o e => let ⟨_, e'⟩ := x o e; ⟨_, e', rfl, rfl, .inl rfl⟩
def TupL (h : Heap) (t : Addr) (n : String) (vs : List Value) : Prop := ∃ o k, h.get? t = some o ∧ o.cls = .type n ∧ o.data = .seq vs.toArray k
theorem TupL.kept {h h' : Heap} {t : Addr} {n : String} {vs : List Value} (x : TupL h t n vs) (k : KeptV h h' t) : TupL h' t n vs := by
  obtain ⟨o, j, ho, hc, hd⟩ := x
  obtain ⟨o', hs, e1, e2, e3⟩ := k o ho
  rcases e3 with e3 | ⟨_, _, z, _⟩
  · exact ⟨o', j, hs, e1.trans hc, e3.trans hd⟩
  · rw [hd] at z; cases z
theorem TupL.there {h : Heap} {t : Addr} {n : String} {vs : List Value} (x : TupL h t n vs) : ∃ o, h.get? t = some o := let ⟨o, _, ho, _⟩ := x; ⟨o, ho⟩
def StrsAre : List Value → List Str → Prop
  | [], [] => True
  | v :: vs, x :: xs => (∃ t, v = .str x t) ∧ StrsAre vs xs
  | _, _ => False
def ExcAt (h : Heap) (e t : Addr) (c : String) (args : List Str) : Prop :=
  (∃ oe vs, h.get? e = some oe ∧ oe.cls = .type c ∧ oe.data = .fields vs ∧ vs[0]? = some (.ref t)) ∧ ∃ ws, TupL h t "tuple" ws ∧ StrsAre ws args
theorem ExcAt.kept {h h' : Heap} {e t : Addr} {c : String} {args : List Str} (x : ExcAt h e t c args) (k : KeptV h h' e) (k' : KeptV h h' t) : ExcAt h' e t c args := by
  obtain ⟨⟨oe, vs, he, hc, hd, h0⟩, ws, ht, hw⟩ := x
  obtain ⟨o', hs, e1, e2, e3⟩ := k oe he
  refine ⟨?_, ws, ht.kept k', hw⟩
  rcases e3 with e3 | ⟨us, us', z, y, e, _⟩
  · exact ⟨o', vs, hs, e1.trans hc, e3.trans hd, h0⟩
  · rw [hd] at z; cases z
    exact ⟨o', us', hs, e1.trans hc, y, e.trans h0⟩
def DeqAt (h : Heap) (a : Addr) : Prop := ∃ o vs, h.get? a = some o ∧ o.cls = .type "collections.deque" ∧ o.data = .fields vs ∧ vs.size = 2
mutual
def VR (h : Heap) (P : Addr → Prop) (obs : Obs) : AV → Value → Prop
  | .unb, _ => False
  | .none, v => v = .none
  | .bool b, v => v = .bool b
  | .int i, v => ∃ t, v = .int i t
  | .str s, v => ∃ t, v = .str s t
  | .tup vs, v => ∃ a ws, v = .ref a ∧ ¬ P a ∧ TupL h a "tuple" ws ∧ VRs h P obs vs ws
  | .lst vs, v => ∃ a ws, v = .ref a ∧ ¬ P a ∧ TupL h a "list" ws ∧ VRs h P obs vs ws
  | .obj i, v => ∃ p, obs[i]? = some p ∧ v = .ref p.1
  | .glob g, v => v = g
  | .exc c args, v => ∃ e t, v = .ref e ∧ ¬ P e ∧ ¬ P t ∧ ExcAt h e t c args
  | .deq, v => ∃ a, v = .ref a ∧ ¬ P a ∧ DeqAt h a
def VRs (h : Heap) (P : Addr → Prop) (obs : Obs) : List AV → List Value → Prop
  | [], vs => vs = []
  | a :: as, vs => ∃ v r, vs = v :: r ∧ VR h P obs a v ∧ VRs h P obs as r
end
section
variable {h h' : Heap} {P P' : Addr → Prop} {obs obs' : Obs}
mutual
theorem VR.mono (hk : ∀ a, ¬ P a → KeptV h h' a) (hp : ∀ a, P' a → P a ∨ h.get? a = Option.none) (ho : ∀ (i : Nat) p, obs[i]? = some p → obs'[i]? = some p) :
    ∀ {av : AV} {v : Value}, VR h P obs av v → VR h' P' obs' av v
  | .unb, _, x => x.elim
  | .none, _, x => x
  | .bool _, _, x => x
  | .int _, _, x => x
  | .str _, _, x => x
  | .tup vs, v, x => by
    simp only [VR] at x ⊢
    obtain ⟨a, ws, e, np, t, r⟩ := x
    refine ⟨a, ws, e, fun q => ?_, t.kept (hk a np), VRs.mono hk hp ho r⟩
    obtain ⟨o, ho⟩ := t.there
    rcases hp a q with z | z
    · exact np z
    · rw [ho] at z; cases z
  | .lst vs, v, x => by
    simp only [VR] at x ⊢
    obtain ⟨a, ws, e, np, t, r⟩ := x
    refine ⟨a, ws, e, fun q => ?_, t.kept (hk a np), VRs.mono hk hp ho r⟩
    obtain ⟨o, ho⟩ := t.there
    rcases hp a q with z | z
    · exact np z
    · rw [ho] at z; cases z
  | .obj i, v, x => by
    simp only [VR] at x ⊢
    obtain ⟨p, a, b⟩ := x
    exact ⟨p, ho _ _ a, b⟩
  | .glob _, _, x => x
  | .exc c args, v, x => by
    simp only [VR] at x ⊢
    obtain ⟨e, t, z, n1, n2, y⟩ := x
    refine ⟨e, t, z, fun q => ?_, fun q => ?_, y.kept (hk e n1) (hk t n2)⟩
    · obtain ⟨⟨oe, _, he, _⟩, _⟩ := y
      rcases hp e q with z | z
      · exact n1 z
      · rw [he] at z; cases z
    · obtain ⟨_, ws, ht, _⟩ := y
      obtain ⟨o, ho⟩ := ht.there
      rcases hp t q with z | z
      · exact n2 z
      · rw [ho] at z; cases z
  | .deq, v, x => by
    simp only [VR] at x ⊢
    obtain ⟨a, z, n1, o, vs, ho, hc, hd, hz⟩ := x
    obtain ⟨o', hs, e1, e2, e3⟩ := hk a n1 o ho
    refine ⟨a, z, fun q => ?_, ?_⟩
    · rcases hp a q with z | z
      · exact n1 z
      · rw [ho] at z; cases z
    · rcases e3 with e3 | ⟨us, us', z, y, _, e⟩
      · exact ⟨o', vs, hs, e1.trans hc, e3.trans hd, hz⟩
      · rw [hd] at z; cases z
        exact ⟨o', us', hs, e1.trans hc, y, e.trans hz⟩
theorem VRs.mono (hk : ∀ a, ¬ P a → KeptV h h' a) (hp : ∀ a, P' a → P a ∨ h.get? a = Option.none) (ho : ∀ (i : Nat) p, obs[i]? = some p → obs'[i]? = some p) :
    ∀ {as : List AV} {vs : List Value}, VRs h P obs as vs → VRs h' P' obs' as vs
  | [], _, x => x
  | a :: as, vs, x => by
    simp only [VRs] at x ⊢
    obtain ⟨v, r, e, x1, x2⟩ := x
    exact ⟨v, r, e, VR.mono hk hp ho x1, VRs.mono hk hp ho x2⟩
end
end
theorem VRs.length {h : Heap} {P : Addr → Prop} {obs : Obs} : ∀ {as : List AV} {vs : List Value}, VRs h P obs as vs → vs.length = as.length
  | [], _, x => by simp only [VRs] at x; rw [x]; rfl
  | a :: as, _, x => by simp only [VRs] at x; obtain ⟨v, r, rfl, _, y⟩ := x; simp [VRs.length y]
theorem VRs.append {h : Heap} {P : Addr → Prop} {obs : Obs} : ∀ {as bs : List AV} {vs ws : List Value}, VRs h P obs as vs → VRs h P obs bs ws → VRs h P obs (as ++ bs) (vs ++ ws)
  | [], _, _, _, x, y => by simp only [VRs] at x; subst x; exact y
  | a :: as, bs, _, ws, x, y => by
    simp only [VRs] at x
    obtain ⟨v, r, rfl, z, t⟩ := x
    simp only [List.cons_append, VRs]
    exact ⟨v, r ++ ws, rfl, z, t.append y⟩
theorem VRs.get {h : Heap} {P : Addr → Prop} {obs : Obs} : ∀ {as : List AV} {vs : List Value} {i : Nat} {a : AV}, VRs h P obs as vs → as[i]? = some a → ∃ v, vs[i]? = some v ∧ VR h P obs a v
  | [], _, _, _, _, e => by simp at e
  | b :: as, _, i, a, x, e => by
    simp only [VRs] at x
    obtain ⟨v, r, rfl, z, t⟩ := x
    cases i with
    | zero => simp at e; subst e; exact ⟨v, rfl, z⟩
    | succ i => simp at e; obtain ⟨w, hw, hz⟩ := t.get e; exact ⟨w, by simpa using hw, hz⟩
theorem VRs.take {h : Heap} {P : Addr → Prop} {obs : Obs} : ∀ {as : List AV} {vs : List Value} (n : Nat), VRs h P obs as vs → VRs h P obs (as.take n) (vs.take n)
  | [], _, n, x => by simp only [VRs] at x; subst x; simp [VRs]
  | b :: as, _, n, x => by
    simp only [VRs] at x
    obtain ⟨v, r, rfl, z, t⟩ := x
    cases n with
    | zero => simp [VRs]
    | succ n => simp only [List.take_succ_cons, VRs]; exact ⟨v, _, rfl, z, t.take n⟩
theorem VRs.drop {h : Heap} {P : Addr → Prop} {obs : Obs} : ∀ {as : List AV} {vs : List Value} (n : Nat), VRs h P obs as vs → VRs h P obs (as.drop n) (vs.drop n)
  | [], _, n, x => by simp only [VRs] at x; subst x; simp [VRs]
  | b :: as, vs, n, x => by
    cases n with
    | zero => simpa using x
    | succ n =>
      simp only [VRs] at x
      obtain ⟨v, r, rfl, z, t⟩ := x
      simpa using t.drop n
def SlotR (h : Heap) (P : Addr → Prop) (obs : Obs) (av : AV) (mv : Option Value) : Prop := match av with
  | .unb => mv = .none
  | av => ∃ v, mv = some v ∧ VR h P obs av v
theorem SlotR.mono {h h' : Heap} {P P' : Addr → Prop} {obs obs' : Obs} (hk : ∀ a, ¬ P a → KeptV h h' a) (hp : ∀ a, P' a → P a ∨ h.get? a = Option.none) (ho : ∀ (i : Nat) p, obs[i]? = some p → obs'[i]? = some p)
    {av : AV} {mv : Option Value} (x : SlotR h P obs av mv) : SlotR h' P' obs' av mv := by
  cases av <;> first | exact x | (obtain ⟨v, e, y⟩ := x; exact ⟨v, e, VR.mono hk hp ho y⟩)
theorem SlotR.of {h : Heap} {P : Addr → Prop} {obs : Obs} {av : AV} {v : Value} (x : VR h P obs av v) : SlotR h P obs av (some v) := by
  cases av <;> first | exact ⟨v, rfl, x⟩ | exact x.elim
theorem SlotR.get {h : Heap} {P : Addr → Prop} {obs : Obs} {av : AV} {mv : Option Value} (x : SlotR h P obs av mv) (hn : av ≠ .unb) : ∃ v, mv = some v ∧ VR h P obs av v := by
  cases av <;> first | exact x | exact (hn rfl).elim
structure Cx where
  prog : Program
  w : World
  K : Frag
  b : Shared
  mg : Str → Option Value
  mb : Str → Option Value
abbrev Cx.M (C : Cx) : Model := model C.prog C.w
structure Cx.Ok (C : Cx) : Prop where
  kin : C.K.In C.b.heap
  g : C.b.heap.Ns mainGlobals C.mg
  bn : C.b.heap.Ns builtinsNs C.mb
  nolimit : C.b.heap.NoLimit
  builtins : ∀ x : Str, x ≠ "__name__" → C.mb x = bootBuiltins x
structure Fm where
  env : Env
  outer : List Env
  forb : List Addr
  A : Around
  d : Nat
  hd : Option Value
structure Fm.Ok (F : Fm) : Prop where
  kind : F.env.scope.kind = .function
  globals : F.env.globals = mainGlobals
  builtins : F.env.builtins = builtinsNs
  frame : F.env.frame = some F.env.locals
  frames : F.A.frames = some (F.env :: F.outer)
  handled : F.A.handled = F.hd
  depth : F.A.depth + F.d < 990
  units : F.A.units + 20 * F.d < 9800
def Fm.mine (F : Fm) (obs : Obs) : List Addr := F.env.locals :: obA obs
def Fm.all (F : Fm) (obs : Obs) : List Addr := F.forb ++ F.mine obs
def Fm.P (F : Fm) (obs : Obs) (a : Addr) : Prop := a ∈ F.all obs
def GlOk (C : Cx) (x : Str) (v : Value) : Prop := C.mg x = some v ∨ (C.mg x = none ∧ C.mb x = some v)
def AV.bound : AV → Bool
  | .unb => false
  | _ => true
def nb (l : List (Str × AV)) : Nat := (l.filter fun p => p.2.bound).length
def NsN (h : Heap) (a : Addr) (m : Str → Option Value) (n : Nat) : Prop := ∃ o es ep, h.get? a = some o ∧ o.data = .dict es ep ∧ StrKeys es ∧ (∀ name, nsFind es name = m name) ∧ es.size ≤ n
theorem NsN.ns {h : Heap} {a : Addr} {m : Str → Option Value} {n : Nat} (x : NsN h a m n) : h.Ns a m := let ⟨o, es, ep, h1, h2, h3, h4, _⟩ := x; ⟨o, es, ep, h1, h2, h3, h4⟩
theorem NsN.kept {h h' : Heap} {a : Addr} {m : Str → Option Value} {n : Nat} (x : NsN h a m n) (k : KeptAt h h' a) : NsN h' a m n :=
  let ⟨o, es, ep, h1, h2, h3⟩ := x; let ⟨_, e⟩ := k o h1; ⟨_, es, ep, e, h2, h3⟩
def ObOk (h : Heap) (P : Addr → Prop) (obs : Obs) (p : Addr × Addr) (o : OB) : Prop :=
  ∃ oa m, h.get? p.1 = some oa ∧ oa.cls = .ref o.1 ∧ oa.dict = some p.2 ∧ oa.data = .plain ∧ NsN h p.2 m (nb o.2) ∧
    (∀ q ∈ o.2, SlotR h P obs q.2 (m q.1)) ∧ (∀ x, x ∉ o.2.map (·.1) → m x = none) ∧ (o.2.map (·.1)).Nodup ∧ o.2.length ≤ 1000
def NmOk (F : Fm) (k : NameKind) (x : Str) : Prop := F.env.kindOf x = some k ∧ (x == ("__debug__" : Str)) = false
structure Rel (C : Cx) (F : Fm) (obs : Obs) (st : St) (s : Shared) : Prop where
  cok : C.Ok
  ok : F.Ok
  stay : C.b.heap.StaysIn s.heap
  gens : s.gens = C.b.gens
  drawn : s.drawn = C.b.drawn
  os : s.os = C.b.os
  nod : (F.all obs).Nodup
  new : ∀ a ∈ F.all obs, C.b.heap.get? a = none
  live : ∀ a ∈ F.all obs, ∃ o, s.heap.get? a = some o
  fr : s.heap.FunFrames C.b.heap (F.env :: F.outer)
  loc : ∃ m, s.heap.Ns F.env.locals m ∧ ∀ p ∈ st.loc, NmOk F .local p.1 ∧ SlotR s.heap (F.P obs) obs p.2 (m p.1)
  gl : ∀ p ∈ st.gl, NmOk F .globalImplicit p.1 ∧ GlOk C p.1 p.2
  nodl : (st.loc.map (·.1)).Nodup
  len : st.objs.length = obs.length
  objs : ∀ (i : Nat) p o, obs[i]? = some p → st.objs[i]? = some o → ObOk s.heap (F.P obs) obs p o
structure Step (F : Fm) (obs : Obs) (s : Shared) (obs' : Obs) (s' : Shared) : Prop where
  ag : ∀ a, a ∉ F.mine obs → KeptAt s.heap s'.heap a
  ext : ∃ more, obs' = obs ++ more ∧ ∀ p ∈ more, s.heap.get? p.1 = none ∧ s.heap.get? p.2 = none
  stands : ∀ a o, s.heap.get? a = some o → ∃ o', s'.heap.get? a = some o'
theorem Step.refl (F : Fm) (obs : Obs) (s : Shared) : Step F obs s obs s := ⟨fun a _ => KeptAt.refl _ a, ⟨[], by simp, by simp⟩, fun _ o e => ⟨o, e⟩⟩
theorem mem_obA {obs : Obs} {a : Addr} : a ∈ obA obs ↔ ∃ p ∈ obs, a = p.1 ∨ a = p.2 := by simp [obA]
theorem Step.mine {F : Fm} {obs obs' : Obs} {s s' : Shared} (x : Step F obs s obs' s') {a : Addr} (ha : a ∈ F.mine obs') : a ∈ F.mine obs ∨ s.heap.get? a = none := by
  obtain ⟨more, rfl, hm⟩ := x.ext
  rcases List.mem_cons.mp ha with h | h
  · exact .inl (List.mem_cons.mpr (.inl h))
  · obtain ⟨p, hp, e⟩ := mem_obA.mp h
    rcases List.mem_append.mp hp with hp | hp
    · exact .inl (List.mem_cons_of_mem _ (mem_obA.mpr ⟨p, hp, e⟩))
    · rcases e with e | e
      · exact .inr (e ▸ (hm p hp).1)
      · exact .inr (e ▸ (hm p hp).2)
theorem KeptAt.none {h h' : Heap} {a : Addr} (k : KeptAt h h' a) (e : h'.get? a = Option.none) : h.get? a = Option.none := by
  cases q : h.get? a with
  | none => rfl
  | some o => obtain ⟨sl, z⟩ := k o q; rw [e] at z; cases z
theorem Step.trans {F : Fm} {o1 o2 o3 : Obs} {s1 s2 s3 : Shared} (x : Step F o1 s1 o2 s2) (y : Step F o2 s2 o3 s3) : Step F o1 s1 o3 s3 := by
  have hs := x.stands
  refine ⟨fun a ha o e => ?_, ?_, fun a o e => let ⟨o', e'⟩ := hs a o e; y.stands a o' e'⟩
  · obtain ⟨sl, e2⟩ := x.ag a ha o e
    by_cases h2 : a ∈ F.mine o2
    · rcases x.mine h2 with z | z
      · exact (ha z).elim
      · rw [e] at z; cases z
    · obtain ⟨sl', e3⟩ := y.ag a h2 _ e2
      exact ⟨sl', e3⟩
  · obtain ⟨m1, rfl, h1⟩ := x.ext
    obtain ⟨m2, rfl, h2⟩ := y.ext
    refine ⟨m1 ++ m2, by rw [List.append_assoc], fun p hp => ?_⟩
    rcases List.mem_append.mp hp with hp | hp
    · exact h1 p hp
    · have := h2 p hp
      refine ⟨?_, ?_⟩
      · cases q : s1.heap.get? p.1 with
        | none => rfl
        | some o => obtain ⟨o', z⟩ := hs _ o q; rw [this.1] at z; cases z
      · cases q : s1.heap.get? p.2 with
        | none => rfl
        | some o => obtain ⟨o', z⟩ := hs _ o q; rw [this.2] at z; cases z
theorem Step.obsAt {F : Fm} {obs obs' : Obs} {s s' : Shared} (x : Step F obs s obs' s') (i : Nat) (p : Addr × Addr) (e : obs[i]? = some p) : obs'[i]? = some p := by
  obtain ⟨more, rfl, _⟩ := x.ext
  rw [List.getElem?_append_left (List.getElem?_eq_some_iff.mp e).1]; exact e
theorem Step.P {F : Fm} {obs obs' : Obs} {s s' : Shared} (x : Step F obs s obs' s') (a : Addr) (h : F.P obs' a) : F.P obs a ∨ s.heap.get? a = none := by
  rcases List.mem_append.mp h with h | h
  · exact .inl (List.mem_append_left _ h)
  · exact (x.mine h).imp (fun z => List.mem_append_right _ z) id
theorem Step.nP {F : Fm} {obs obs' : Obs} {s s' : Shared} (x : Step F obs s obs' s') (a : Addr) (h : ¬ F.P obs a) : KeptAt s.heap s'.heap a := x.ag a fun z => h (List.mem_append_right _ z)
theorem VR.step {F : Fm} {obs obs' : Obs} {s s' : Shared} (x : Step F obs s obs' s') {av : AV} {v : Value} (y : VR s.heap (F.P obs) obs av v) : VR s'.heap (F.P obs') obs' av v :=
  VR.mono (fun a h => (x.nP a h).v) x.P x.obsAt y
theorem VRs.step {F : Fm} {obs obs' : Obs} {s s' : Shared} (x : Step F obs s obs' s') {av : List AV} {v : List Value} (y : VRs s.heap (F.P obs) obs av v) : VRs s'.heap (F.P obs') obs' av v :=
  VRs.mono (fun a h => (x.nP a h).v) x.P x.obsAt y
def ExA (b : Heap) (P : Addr → Prop) (h₀ h : Heap) (x : AV) (e : Addr) (fl : Option Value) : Prop :=
  ∃ c args t oe vs hd, x = .exc c args ∧ ExcAt h e t c args ∧ h.get? e = some oe ∧ oe.data = .fields vs ∧ vs[0]? = some (.ref t) ∧ vs[1]? = some hd ∧
    ¬ P e ∧ ¬ P t ∧ b.get? e = none ∧ b.get? t = none ∧ h₀.get? e = none ∧ t ≠ e ∧
    (match fl with
      | none => hd = .none
      | some f => ∃ T oT ts, hd = .ref T ∧ T ≠ e ∧ T ≠ t ∧ ¬ P T ∧ b.get? T = none ∧ h₀.get? T = none ∧ h.get? T = some oT ∧ oT.data = .fields ts ∧ ts[3]? = some f)
theorem ExA.earlier {b : Heap} {P : Addr → Prop} {h₀ h₁ h : Heap} {x : AV} {e : Addr} {fl : Option Value} (hs : ∀ a o, h₀.get? a = some o → ∃ o', h₁.get? a = some o') (y : ExA b P h₁ h x e fl) : ExA b P h₀ h x e fl := by
  have back : ∀ a, h₁.get? a = none → h₀.get? a = none := fun a z => by
    cases q : h₀.get? a with
    | none => rfl
    | some o => obtain ⟨o', w⟩ := hs a o q; rw [z] at w; cases w
  obtain ⟨c, args, t, oe, vs, hd, h1, h2, h3, h4, h5, h6, h7, h8, h9, h10, h11, h12, h13⟩ := y
  refine ⟨c, args, t, oe, vs, hd, h1, h2, h3, h4, h5, h6, h7, h8, h9, h10, back _ h11, h12, ?_⟩
  cases fl with
  | none => exact h13
  | some f =>
    obtain ⟨T, oT, ts, k1, k2, k3, k4, k5, k6, k7⟩ := h13
    exact ⟨T, oT, ts, k1, k2, k3, k4, k5, back _ k6, k7⟩
theorem ExA.weaken {b : Heap} {P P' : Addr → Prop} {h₀ h : Heap} {x : AV} {e : Addr} {fl : Option Value} (hp : ∀ a, P' a → P a) (y : ExA b P h₀ h x e fl) : ExA b P' h₀ h x e fl := by
  obtain ⟨c, args, t, oe, vs, hd, h1, h2, h3, h4, h5, h6, h7, h8, h9, h10, h11, h12, h13⟩ := y
  refine ⟨c, args, t, oe, vs, hd, h1, h2, h3, h4, h5, h6, fun z => h7 (hp _ z), fun z => h8 (hp _ z), h9, h10, h11, h12, ?_⟩
  cases fl with
  | none => exact h13
  | some f =>
    obtain ⟨T, oT, ts, k1, k2, k3, k4, k5⟩ := h13
    exact ⟨T, oT, ts, k1, k2, k3, fun z => k4 (hp _ z), k5⟩
def ExIn (C : Cx) (F : Fm) (obs : Obs) (s₀ s : Shared) (x : AV) (e : Addr) : Prop :=
  ∃ fl, ExA C.b.heap (F.P obs) s₀.heap s.heap x e fl ∧ (fl = none ∨ fl = some .none ∨ fl = some (rawInt F.env.locals))
theorem ExIn.earlier {C : Cx} {F : Fm} {obs : Obs} {s₀ s₁ s : Shared} {x : AV} {e : Addr} (hs : ∀ a o, s₀.heap.get? a = some o → ∃ o', s₁.heap.get? a = some o') (y : ExIn C F obs s₁ s x e) : ExIn C F obs s₀ s x e :=
  let ⟨fl, z, q⟩ := y; ⟨fl, z.earlier hs, q⟩
def W {α β : Type} (R : Heap → (Addr → Prop) → Obs → β → α → Prop) (C : Cx) (F : Fm) (m : Sem α) (st : St) (Q : β → St → Prop) (X : AV → St → Prop) : Prop :=
  ∀ (obs : Obs) (s : Shared) (Qs : α → Shared → Prop) (Es : Value → Shared → Prop), Rel C F obs st s →
    (∀ b a st' obs' s', Q b st' → Rel C F obs' st' s' → R s'.heap (F.P obs') obs' b a → Step F obs s obs' s' → Qs a s') →
    (∀ x e st' obs' s', X x st' → Rel C F obs' st' s' → ExIn C F obs' s s' x e → Step F obs s obs' s' → Es (.ref e) s') →
    wpAny C.M F.A m Qs Es s
def FlowR (h : Heap) (P : Addr → Prop) (obs : Obs) : AFlow → Flow → Prop
  | .next, f => f = .next
  | .brk, f => f = .brk
  | .cont, f => f = .cont
  | .ret av, f => ∃ v, f = .ret v ∧ VR h P obs av v
def SameR {α : Type} (_ : Heap) (_ : Addr → Prop) (_ : Obs) (b a : α) : Prop := a = b
abbrev WE (C : Cx) (F : Fm) (e : Expr) (st : St) (Q : AV → St → Prop) (X : AV → St → Prop) : Prop := W VR C F (eval e F.env) st Q X
abbrev WT (C : Cx) (F : Fm) (e : Expr) (st : St) (Q : Bool → St → Prop) (X : AV → St → Prop) : Prop := W SameR C F (isTrue e F.env (eval e F.env)) st Q X
abbrev WS (C : Cx) (F : Fm) (e : Stmt) (st : St) (Q : AFlow → St → Prop) (X : AV → St → Prop) : Prop := W FlowR C F (exec e F.env) st Q X
abbrev WSs (C : Cx) (F : Fm) (e : List Stmt) (st : St) (Q : AFlow → St → Prop) (X : AV → St → Prop) : Prop := W FlowR C F (execs e F.env) st Q X
theorem Rel.keep {C : Cx} {F : Fm} {obs : Obs} {st : St} {s : Shared} (r : Rel C F obs st s) {h' : Heap} (k : ∀ b o, s.heap.get? b = some o → h'.get? b = some o) (t : Nat) :
    Rel C F obs st { s with heap := h', toks := t } := by
  have kp : ∀ a, KeptAt s.heap h' a := fun a o e => ⟨o.slots, k a o e⟩
  refine ⟨r.cok, r.ok, fun b o e => k _ _ (r.stay b o e), r.gens, r.drawn, r.os, r.nod, r.new, fun a ha => let ⟨o, e⟩ := r.live a ha; ⟨o, k _ _ e⟩, r.fr.of_keeps fun b o e _ => ⟨o, k _ _ e, rfl⟩, ?_, r.gl, r.nodl, r.len, ?_⟩
  · obtain ⟨m, n, z⟩ := r.loc
    exact ⟨m, n.keeps k, fun p hp => ⟨(z p hp).1, (z p hp).2.mono (fun a _ => (kp a).v) (fun a h => .inl h) fun _ _ e => e⟩⟩
  · intro i p o h1 h2
    obtain ⟨oa, m, z1, z2, z3, z4, z5, z6, z7⟩ := r.objs i p o h1 h2
    exact ⟨oa, m, k _ _ z1, z2, z3, z4, z5.kept (kp _), fun q hq => (z6 q hq).mono (fun a _ => (kp a).v) (fun a h => .inl h) fun _ _ e => e, z7⟩
theorem Step.keep (F : Fm) (obs : Obs) (s : Shared) {h' : Heap} (k : ∀ b o, s.heap.get? b = some o → h'.get? b = some o) (t : Nat) : Step F obs s obs { s with heap := h', toks := t } :=
  ⟨fun a _ o e => ⟨o.slots, k a o e⟩, ⟨[], by simp, by simp⟩, fun a o e => ⟨o, k a o e⟩⟩
theorem Rel.tok {C : Cx} {F : Fm} {obs : Obs} {st : St} {s : Shared} (r : Rel C F obs st s) (t : Nat) : Rel C F obs st { s with toks := t } := r.keep (fun _ _ e => e) t
theorem Step.tok (F : Fm) (obs : Obs) (s : Shared) (t : Nat) : Step F obs s obs { s with toks := t } := Step.keep F obs s (fun _ _ e => e) t
theorem Rel.push {C : Cx} {F : Fm} {obs : Obs} {st : St} {s : Shared} (r : Rel C F obs st s) (o : Obj) : Rel C F obs st { s with heap := s.heap.push o } := r.keep (fun _ _ e => Heap.get?_push_of_some _ e) s.toks
theorem Step.push (F : Fm) (obs : Obs) (s : Shared) (o : Obj) : Step F obs s obs { s with heap := s.heap.push o } := Step.keep F obs s (fun _ _ e => Heap.get?_push_of_some _ e) s.toks
end Mine
namespace Mine
section
variable {C : Cx} {F : Fm} {st : St} {X : AV → St → Prop}
theorem Rel.kin {obs : Obs} {s : Shared} (r : Rel C F obs st s) : C.K.In s.heap := fun a o e => r.stay _ _ (r.cok.kin a o e)
theorem W.mono {α β : Type} {R : Heap → (Addr → Prop) → Obs → β → α → Prop} {m : Sem α} {Q Q' : β → St → Prop} {X' : AV → St → Prop} (h : W R C F m st Q X) (hq : ∀ b s, Q b s → Q' b s) (hx : ∀ x s, X x s → X' x s) : W R C F m st Q' X' :=
  fun obs s Qs Es r k1 k2 => h obs s Qs Es r (fun b a st' o' s' q => k1 b a st' o' s' (hq _ _ q)) fun x e st' o' s' q => k2 x e st' o' s' (hx _ _ q)
theorem W.pure {α β : Type} {R : Heap → (Addr → Prop) → Obs → β → α → Prop} {a : α} {b : β} {Q : β → St → Prop} (hr : ∀ h P obs, R h P obs b a) (q : Q b st) : W R C F (Pure.pure a) st Q X :=
  fun obs s _ _ r k1 _ => wpAny_pure (k1 b a st obs s q r (hr _ _ _) (Step.refl ..))
-- constants
theorem WE_none {k pos} {Q : AV → St → Prop} (h : Q .none st) : WE C F (.Constant .none k pos) st Q X :=
  fun obs s _ _ r k1 _ => Constant_none (k1 .none _ st obs s h r rfl (Step.refl ..))
theorem WE_bool {b k pos} {Q : AV → St → Prop} (h : Q (.bool b) st) : WE C F (.Constant (.bool b) k pos) st Q X :=
  fun obs s _ _ r k1 _ => Constant_bool (k1 (.bool b) _ st obs s h r rfl (Step.refl ..))
theorem WE_int {i k pos} {Q : AV → St → Prop} (h : Q (.int i) st) : WE C F (.Constant (.int i) k pos) st Q X :=
  fun obs s _ _ r k1 _ => wpAny_Constant_int (k1 (.int i) _ st obs _ h (r.tok _) ⟨_, rfl⟩ (Step.tok ..))
theorem WE_str {x k pos} {Q : AV → St → Prop} (h : Q (.str x) st) : WE C F (.Constant (.str x) k pos) st Q X :=
  fun obs s _ _ r k1 _ => Calls.Constant_str (k1 (.str x) _ st obs _ h (r.tok _) ⟨_, rfl⟩ (Step.tok ..))
theorem AV.bound_ne {v : AV} (h : v.bound = true) : v ≠ .unb := fun e => by subst e; cases h
-- names
theorem WE_local {x pos v} {Q : AV → St → Prop} (hm : (x, v) ∈ st.loc) (h : Q v st) (hb : v.bound = true := by with_unfolding_all rfl) : WE C F (.Name x pos) st Q X := by
  intro obs s Qs Es r k1 _
  obtain ⟨m, n, z⟩ := r.loc
  obtain ⟨⟨a, b⟩, c⟩ := z _ hm
  obtain ⟨u, e, y⟩ := c.get (AV.bound_ne hb)
  exact wpAny_Name (wpAny_loadName_local r.ok.kind a n e (k1 v u st obs s h r y (Step.refl ..))) b
theorem WE_global {x pos v} {Q : AV → St → Prop} (hm : (x, v) ∈ st.gl) (h : Q (.glob v) st) : WE C F (.Name x pos) st Q X := by
  intro obs s Qs Es r k1 _
  obtain ⟨⟨a, b⟩, c⟩ := r.gl _ hm
  have hg : s.heap.Ns F.env.globals C.mg := by rw [r.ok.globals]; exact r.cok.g.keeps r.stay
  have hbn : s.heap.Ns F.env.builtins C.mb := by rw [r.ok.builtins]; exact r.cok.bn.keeps r.stay
  have fin := k1 (.glob v) v st obs s h r rfl (Step.refl ..)
  rcases c with c | ⟨c, c'⟩
  · exact Calls.Name_function_global r.ok.kind a (Calls.loadGlobal_global hg c fin) b
  · exact Calls.Name_function_global r.ok.kind a (Calls.loadGlobal_builtin hg c hbn c' fin) b
def br (b : Bool) (p q : Prop) : Prop := (b = true → p) ∧ (b = false → q)
theorem br_true {p q : Prop} (h : p) : br true p q := ⟨fun _ => h, fun e => nomatch e⟩
theorem br_false {p q : Prop} (h : q) : br false p q := ⟨fun e => (nomatch e), fun _ => h⟩
theorem br.get {b : Bool} {p q : Prop} (h : br b p q) : if b then p else q := by
  cases b
  · exact h.2 rfl
  · exact h.1 rfl
-- tests
theorem WE_IfExp {test body orelse pos} {Q : AV → St → Prop} (h : WT C F test st (fun b st' => br b (WE C F body st' Q X) (WE C F orelse st' Q X)) X) : WE C F (.IfExp test body orelse pos) st Q X := by
  intro obs s Qs Es r k1 k2
  refine IfExp_ (h obs s _ _ r (fun b a st' o' s' q r' e g => ?_) fun x e st' o' s' q r' y g => k2 x e st' o' s' q r' y g)
  cases e
  have fin : ∀ (e : Expr), WE C F e st' Q X → wpAny C.M F.A (eval e F.env) Qs Es s' := fun e w =>
    w o' s' Qs Es r' (fun b a st' o'' s'' q r' z g' => k1 b a st' o'' s'' q r' z (g.trans g')) fun x e st' o'' s'' q r' y g' => k2 x e st' o'' s'' q r' (y.earlier g.stands) (g.trans g')
  cases b
  · exact fin _ q.get
  · exact fin _ q.get
theorem WS_If {test body orelse pos} {Q : AFlow → St → Prop} (h : WT C F test st (fun b st' => br b (WSs C F body st' Q X) (WSs C F orelse st' Q X)) X) : WS C F (.If test body orelse pos) st Q X := by
  intro obs s Qs Es r k1 k2
  refine wpAny_If (h obs s _ _ r (fun b a st' o' s' q r' e g => ?_) fun x e st' o' s' q r' y g => k2 x e st' o' s' q r' y g)
  cases e
  have fin : ∀ (e : List Stmt), WSs C F e st' Q X → wpAny C.M F.A (execs e F.env) Qs Es s' := fun e w =>
    w o' s' Qs Es r' (fun b a st' o'' s'' q r' z g' => k1 b a st' o'' s'' q r' z (g.trans g')) fun x e st' o'' s'' q r' y g' => k2 x e st' o'' s'' q r' (y.earlier g.stands) (g.trans g')
  cases b
  · exact fin _ q.get
  · exact fin _ q.get
def tru : AV → Option Bool
  | .none => some false
  | .bool b => some b
  | .int i => some (i != 0)
  | .str s => some (s.length != 0)
  | .deq => some false
  | _ => Option.none
def truM (v : AV) (k : Bool → Prop) : Prop := match v with
  | .none => k false
  | .bool b => k b
  | .int i => k (i != 0)
  | .str s => s.length ≤ sizeLine ∧ k (s.length != 0)
  | .deq => k false
  | _ => False
-- statements
theorem WSs_nil {Q : AFlow → St → Prop} (h : Q .next st) : WSs C F [] st Q X :=
  fun obs s _ _ r k1 _ => wpAny_execs_nil (k1 .next _ st obs s h r rfl (Step.refl ..))
theorem WSs_cons {e rest} {Q : AFlow → St → Prop} (h : WS C F e st (fun f st' => match f with | .next => WSs C F rest st' Q X | f => Q f st') X) : WSs C F (e :: rest) st Q X := by
  intro obs s Qs Es r k1 k2
  refine wpAny_execs_cons (h obs s _ _ r (fun f a st' o' s' q r' e g => ?_) fun x e st' o' s' q r' y g => k2 x e st' o' s' q r' y g)
  cases f with
  | next =>
    cases e
    exact q o' s' Qs Es r' (fun b a st' o'' s'' q r' z g' => k1 b a st' o'' s'' q r' z (g.trans g')) fun x e st' o'' s'' q r' y g' => k2 x e st' o'' s'' q r' (y.earlier g.stands) (g.trans g')
  | brk => cases e; exact k1 .brk _ st' o' s' q r' rfl g
  | cont => cases e; exact k1 .cont _ st' o' s' q r' rfl g
  | ret av => obtain ⟨v, rfl, z⟩ := e; exact k1 (.ret av) _ st' o' s' q r' ⟨v, rfl, z⟩ g
theorem WS_Pass {pos} {Q : AFlow → St → Prop} (h : Q .next st) : WS C F (.Pass pos) st Q X :=
  fun obs s _ _ r k1 _ => wpAny_Pass (k1 .next _ st obs s h r rfl (Step.refl ..))
theorem WS_Break {pos} {Q : AFlow → St → Prop} (h : Q .brk st) : WS C F (.Break pos) st Q X :=
  fun obs s _ _ r k1 _ => wpAny_bind (wpAny_standAt (wpAny_pure (k1 .brk _ st obs s h r rfl (Step.refl ..))))
theorem WS_Continue {pos} {Q : AFlow → St → Prop} (h : Q .cont st) : WS C F (.Continue pos) st Q X :=
  fun obs s _ _ r k1 _ => wpAny_bind (wpAny_standAt (wpAny_pure (k1 .cont _ st obs s h r rfl (Step.refl ..))))
theorem WS_Return {e pos} {Q : AFlow → St → Prop} (h : WE C F e st (fun v st' => Q (.ret v) st') X) : WS C F (.Return (some e) pos) st Q X := by
  intro obs s Qs Es r k1 k2
  exact wpAny_Return_some (h obs s _ _ r (fun b a st' o' s' q r' e g => k1 (.ret b) _ st' o' s' q r' ⟨a, rfl, e⟩ g) k2)
theorem WS_Return0 {pos} {Q : AFlow → St → Prop} (h : Q (.ret .none) st) : WS C F (.Return none pos) st Q X :=
  fun obs s _ _ r k1 _ => wpAny_Return_none (k1 (.ret .none) _ st obs s h r ⟨_, rfl, rfl⟩ (Step.refl ..))
end
end Mine
namespace Mine
theorem frames_nf {h h' base : Heap} (k : ∀ b o, h.get? b = some o → (∀ vs, o.data ≠ .fields vs) → ∃ o', h'.get? b = some o' ∧ ∀ vs, o'.data ≠ .fields vs) {l : List Env} (hl : h.FunFrames base l) : h'.FunFrames base l := by
  induction l with
  | nil => trivial
  | cons env rest ih =>
    obtain ⟨hk, ⟨L, o, hf, hn, ho, hd⟩, hr⟩ := hl
    obtain ⟨o', ho', hd'⟩ := k L o ho hd
    exact ⟨hk, ⟨L, o', hf, hn, ho', hd'⟩, ih hr⟩
theorem ns_nf {h : Heap} {a : Addr} {m : Str → Option Value} (n : h.Ns a m) : ∃ o, h.get? a = some o ∧ ∀ vs, o.data ≠ .fields vs :=
  let ⟨o, _, _, e, d, _⟩ := n; ⟨o, e, fun vs q => by rw [d] at q; cases q⟩
inductive Up {α : Type} : List (Str × α) → Str → α → List (Str × α) → Prop
  | head {x w v l} : Up ((x, w) :: l) x v ((x, v) :: l)
  | tail {x v p l l'} : Up l x v l' → Up (p :: l) x v (p :: l')
section
variable {α : Type} {l l' : List (Str × α)} {x : Str} {v : α}
theorem Up.names (u : Up l x v l') : l'.map (·.1) = l.map (·.1) := by
  induction u with
  | head => rfl
  | tail _ ih => simp [ih]
theorem Up.mem_name (u : Up l x v l') : x ∈ l.map (·.1) := by
  induction u with
  | head => simp
  | tail _ ih => simp only [List.map_cons, List.mem_cons]; exact .inr ih
theorem Up.mem (u : Up l x v l') (nd : (l.map (·.1)).Nodup) {p : Str × α} (hp : p ∈ l') : p = (x, v) ∨ (p ∈ l ∧ p.1 ≠ x) := by
  induction u with
  | @head x w v l =>
    rcases List.mem_cons.mp hp with h | h
    · exact .inl h
    · refine .inr ⟨List.mem_cons_of_mem _ h, fun e => ?_⟩
      simp only [List.map_cons, List.nodup_cons] at nd
      exact nd.1 (e ▸ List.mem_map_of_mem h)
  | @tail x v q l l' u ih =>
    simp only [List.map_cons, List.nodup_cons] at nd
    rcases List.mem_cons.mp hp with h | h
    · subst h
      refine .inr ⟨List.mem_cons_self, fun e => nd.1 (e ▸ u.mem_name)⟩
    · exact (ih nd.2 h).imp id fun ⟨a, b⟩ => ⟨List.mem_cons_of_mem _ a, b⟩
theorem Up.old (u : Up l x v l') : ∃ w, (x, w) ∈ l := by
  induction u with
  | head => exact ⟨_, List.mem_cons_self⟩
  | tail _ ih => obtain ⟨w, h⟩ := ih; exact ⟨w, List.mem_cons_of_mem _ h⟩
end
section
variable {C : Cx} {F : Fm} {st : St} {X : AV → St → Prop} {obs : Obs} {s : Shared}
theorem nodup_tail {F : Fm} {obs : Obs} (h : (F.all obs).Nodup) : F.env.locals ∉ F.forb ∧ F.env.locals ∉ obA obs := by
  unfold Fm.all Fm.mine at h
  rw [List.nodup_append] at h
  obtain ⟨_, h2, h3⟩ := h
  rw [List.nodup_cons] at h2
  exact ⟨fun z => h3 _ z _ List.mem_cons_self rfl, h2.1⟩
theorem mem_obA_of {obs : Obs} {i : Nat} {p : Addr × Addr} (e : obs[i]? = some p) : p.1 ∈ obA obs ∧ p.2 ∈ obA obs := by
  have := List.mem_of_getElem? e
  exact ⟨mem_obA.mpr ⟨p, this, .inl rfl⟩, mem_obA.mpr ⟨p, this, .inr rfl⟩⟩
theorem Rel.store (r : Rel C F obs st s) {x : Str} {av : AV} {v : Value} {loc' : List (Str × AV)} (u : Up st.loc x av loc') (hv : VR s.heap (F.P obs) obs av v) {h' : Heap} {m : Str → Option Value}
    (hm : s.heap.Ns F.env.locals m) (hz : ∀ p ∈ st.loc, NmOk F .local p.1 ∧ SlotR s.heap (F.P obs) obs p.2 (m p.1))
    (hn : h'.Ns F.env.locals (fun y => if y = x then some v else m y)) (hs : Heap.SameBut F.env.locals s.heap h') (t : Nat) :
    Rel C F obs { st with loc := loc' } { s with heap := h', toks := t } := by
  obtain ⟨nf, nob⟩ := nodup_tail r.nod
  have hL : C.b.heap.get? F.env.locals = none := r.new _ (List.mem_append_right _ List.mem_cons_self)
  have keep : ∀ a, a ≠ F.env.locals → h'.get? a = s.heap.get? a := fun a h => hs.2 a h
  have kv : ∀ a, ¬ F.P obs a → KeptV s.heap h' a := fun a h => (KeptAt.of_eq (keep a fun e => h (List.mem_append_right _ (e ▸ List.mem_cons_self)))).v
  have vr : ∀ {av v}, VR s.heap (F.P obs) obs av v → VR h' (F.P obs) obs av v := fun y => VR.mono kv (fun a h => .inl h) (fun _ _ e => e) y
  have sr : ∀ {av v}, SlotR s.heap (F.P obs) obs av v → SlotR h' (F.P obs) obs av v := fun y => SlotR.mono kv (fun a h => .inl h) (fun _ _ e => e) y
  refine ⟨r.cok, r.ok, fun b o e => ?_, r.gens, r.drawn, r.os, r.nod, r.new, fun a ha => ?_, ?_, ⟨_, hn, fun p hp => ?_⟩, r.gl, by rw [show ({ st with loc := loc' } : St).loc = loc' from rfl, u.names]; exact r.nodl, r.len, ?_⟩
  · rw [show ({ s with heap := h', toks := t } : Shared).heap = h' from rfl, keep b fun z => by rw [z] at e; rw [e] at hL; cases hL]
    exact r.stay b o e
  · by_cases h : a = F.env.locals
    · subst h; obtain ⟨o, e, _⟩ := ns_nf hn; exact ⟨o, e⟩
    · obtain ⟨o, e⟩ := r.live a ha; exact ⟨o, (keep a h).trans e⟩
  · refine frames_nf (fun b o e hd => ?_) r.fr
    by_cases h : b = F.env.locals
    · subst h; exact ns_nf hn
    · exact ⟨o, (keep b h).trans e, hd⟩
  · rcases u.mem r.nodl hp with rfl | ⟨h1, h2⟩
    · obtain ⟨w, hw⟩ := u.old
      exact ⟨(hz _ hw).1, by simp only [if_true]; exact SlotR.of (vr hv)⟩
    · simp only [if_neg h2]
      exact ⟨(hz _ h1).1, sr (hz _ h1).2⟩
  · intro i p o h1 h2
    obtain ⟨oa, m', z1, z2, z3, z4, z5, z6, z7⟩ := r.objs i p o h1 h2
    have n1 : p.1 ≠ F.env.locals := fun e => nob (e ▸ (mem_obA_of h1).1)
    have n2 : p.2 ≠ F.env.locals := fun e => nob (e ▸ (mem_obA_of h1).2)
    exact ⟨oa, m', (keep _ n1).trans z1, z2, z3, z4, z5.kept (KeptAt.of_eq (hs.2 _ n2)), fun q hq => sr (z6 q hq), z7⟩
theorem Step.store (hL : ∃ o, s.heap.get? F.env.locals = some o) {h' : Heap} {m : Str → Option Value} (hn : h'.Ns F.env.locals m) (hs : Heap.SameBut F.env.locals s.heap h') (t : Nat) : Step F obs s obs { s with heap := h', toks := t } :=
  ⟨fun a ha => KeptAt.of_eq (hs.2 a fun e => ha (e ▸ List.mem_cons_self)), ⟨[], by simp, by simp⟩, fun a o e => by
    by_cases h : a = F.env.locals
    · subst h; obtain ⟨o, e, _⟩ := ns_nf hn; exact ⟨o, e⟩
    · exact ⟨o, (hs.2 a h).trans e⟩⟩
theorem W_store {x : Str} {av : AV} {v : Value} {loc' : List (Str × AV)} {Qs : Unit → Shared → Prop} {Es : Value → Shared → Prop} (r : Rel C F obs st s) (u : Up st.loc x av loc') (hv : VR s.heap (F.P obs) obs av v)
    (k : ∀ s', Rel C F obs { st with loc := loc' } s' → Step F obs s obs s' → Qs () s') : wpAny C.M F.A (storeName F.env x v) Qs Es s := by
  obtain ⟨m, n, z⟩ := r.loc
  obtain ⟨w, hw⟩ := u.old
  refine wpAny_storeName_local (z _ hw).1.1 n (fun h' hn hs => k _ (r.store u hv n z hn hs _) (Step.store (let ⟨o, e, _⟩ := ns_nf n; ⟨o, e⟩) hn hs _)) ?_
  rw [r.ok.kind]; rfl
theorem WS_Assign {x pos' value pos} {Q : AFlow → St → Prop} (h : WE C F value st (fun v st' => ∃ loc', Up st'.loc x v loc' ∧ Q .next { st' with loc := loc' }) X)
    (hs : swapsWith value (some (.Name x pos')) pos.line F.env = Pure.pure false := by with_unfolding_all rfl) : WS C F (.Assign [.Name x pos'] value pos) st Q X := by
  intro obs s Qs Es r k1 k2
  refine wpAny_Assign_Name (h obs s _ _ r (fun av v st' o' s' q r' y g => ?_) k2) hs
  obtain ⟨loc', u, q⟩ := q
  exact W_store r' u y fun s'' r'' g' => k1 .next _ _ o' s'' q r'' rfl (g.trans g')
end
end Mine
namespace Mine
section
variable {C : Cx} {F : Fm} {st : St} {X : AV → St → Prop}
def W2 (C : Cx) (F : Fm) (f : Value → Value → Sem Value) (a b : AV) (st : St) (Q X : AV → St → Prop) : Prop :=
  ∀ (obs : Obs) (s : Shared) (u v : Value) (Qs Es : Value → Shared → Prop), Rel C F obs st s → VR s.heap (F.P obs) obs a u → VR s.heap (F.P obs) obs b v →
    (∀ b a st' obs' s', Q b st' → Rel C F obs' st' s' → VR s'.heap (F.P obs') obs' b a → Step F obs s obs' s' → Qs a s') →
    (∀ x e st' obs' s', X x st' → Rel C F obs' st' s' → ExIn C F obs' s s' x e → Step F obs s obs' s' → Es (.ref e) s') →
    wpAny C.M F.A (f u v) Qs Es s
def W1 {α β : Type} (R : Heap → (Addr → Prop) → Obs → β → α → Prop) (C : Cx) (F : Fm) (f : Value → Sem α) (a : AV) (st : St) (Q : β → St → Prop) (X : AV → St → Prop) : Prop :=
  ∀ (obs : Obs) (s : Shared) (u : Value) (Qs : α → Shared → Prop) (Es : Value → Shared → Prop), Rel C F obs st s → VR s.heap (F.P obs) obs a u →
    (∀ b a st' obs' s', Q b st' → Rel C F obs' st' s' → R s'.heap (F.P obs') obs' b a → Step F obs s obs' s' → Qs a s') →
    (∀ x e st' obs' s', X x st' → Rel C F obs' st' s' → ExIn C F obs' s s' x e → Step F obs s obs' s' → Es (.ref e) s') →
    wpAny C.M F.A (f u) Qs Es s
theorem WE_BinOp {l op r pos} {Q : AV → St → Prop} (h : WE C F l st (fun a st1 => WE C F r st1 (fun b st2 => W2 C F (binaryOp op) a b st2 Q X) X) X) : WE C F (.BinOp l op r pos) st Q X := by
  intro obs s Qs Es hr k1 k2
  refine wpAny_BinOp (h obs s _ _ hr (fun a u st1 o1 s1 q1 r1 y1 g1 => q1 o1 s1 _ _ r1 (fun b v st2 o2 s2 q2 r2 y2 g2 => ?_) ?_) k2)
  · exact q2 o2 s2 u v Qs Es r2 (y1.step g2) y2 (fun b a st' o' s' q r z g => k1 b a st' o' s' q r z (g1.trans (g2.trans g))) fun x e st' o' s' q r z g => k2 x e st' o' s' q r (z.earlier (g1.trans g2).stands) (g1.trans (g2.trans g))
  · exact fun x e st' o' s' q r z g => k2 x e st' o' s' q r (z.earlier g1.stands) (g1.trans g)
theorem WE_Compare {l op r pos} {Q : AV → St → Prop} (h : WE C F l st (fun a st1 => WE C F r st1 (fun b st2 => W2 C F (compareOp op) a b st2 Q X) X) X) (hm : behindInMarks op r = false := by with_unfolding_all rfl) :
    WE C F (.Compare l [op] [r] pos) st Q X := by
  intro obs s Qs Es hr k1 k2
  refine wpAny_Compare1 (h obs s _ _ hr (fun a u st1 o1 s1 q1 r1 y1 g1 => q1 o1 s1 _ _ r1 (fun b v st2 o2 s2 q2 r2 y2 g2 => ?_) ?_) k2) hm
  · exact q2 o2 s2 u v Qs Es r2 (y1.step g2) y2 (fun b a st' o' s' q r z g => k1 b a st' o' s' q r z (g1.trans (g2.trans g))) fun x e st' o' s' q r z g => k2 x e st' o' s' q r (z.earlier (g1.trans g2).stands) (g1.trans (g2.trans g))
  · exact fun x e st' o' s' q r z g => k2 x e st' o' s' q r (z.earlier g1.stands) (g1.trans g)
abbrev WTr (C : Cx) (F : Fm) (a : AV) (st : St) (Q : Bool → St → Prop) (X : AV → St → Prop) : Prop := W1 SameR C F truthy a st Q X
theorem WTr_none {Q : Bool → St → Prop} (h : Q false st) : WTr C F .none st Q X := fun obs s u Qs Es r y k1 k2 => by
  cases y; exact truthy_none (k1 false _ st obs s h r rfl (Step.refl ..))
theorem WTr_bool {b : Bool} {Q : Bool → St → Prop} (h : Q b st) : WTr C F (.bool b) st Q X := fun obs s u Qs Es r y k1 k2 => by
  cases y; exact wpAny_truthy_bool (k1 b _ st obs s h r rfl (Step.refl ..))
theorem WTr_int {i : Int} {Q : Bool → St → Prop} (h : Q (i != 0) st) : WTr C F (.int i) st Q X := fun obs s u Qs Es r y k1 k2 => by
  obtain ⟨t, rfl⟩ := y; exact truthy_int (k1 (i != 0) _ st obs s h r rfl (Step.refl ..))
theorem WTr_str {x : Str} {Q : Bool → St → Prop} (hx : x.length ≤ 1000000) (h : Q (x.length != 0) st) : WTr C F (.str x) st Q X := fun obs s u Qs Es r y k1 k2 => by
  obtain ⟨t, rfl⟩ := y
  refine P.truthy_str (by omega) (k1 (x.length != 0) _ st obs _ h (r.tok _) ?_ (Step.tok ..))
  show ((x.length : Int) != 0) = (x.length != 0)
  rw [Bool.eq_iff_iff]; simp only [bne_iff_ne, ne_eq]; omega
-- tests
theorem WT_plain {e : Expr} {Q : Bool → St → Prop} (h : WE C F e st (fun v st1 => WTr C F v st1 Q X) X)
    (he : isTrue e F.env (eval e F.env) = (do let v ← eval e F.env; standAt e.pos; holding [v] (truthy v)) := by with_unfolding_all rfl) : WT C F e st Q X := by
  intro obs s Qs Es r k1 k2
  refine isTrue_plain (h obs s _ _ r (fun a u st1 o1 s1 q1 r1 y1 g1 => ?_) k2) he
  exact q1 o1 s1 u Qs Es r1 y1 (fun b a st' o' s' q r z g => k1 b a st' o' s' q r z (g1.trans g)) fun x e st' o' s' q r z g => k2 x e st' o' s' q r (z.earlier g1.stands) (g1.trans g)
theorem WT_not {x pos} {Q : Bool → St → Prop} (h : WT C F x st (fun b st1 => Q (!b) st1) X) : WT C F (.UnaryOp .Not x pos) st Q X := by
  intro obs s Qs Es r k1 k2
  refine isTrue_not (h obs s _ _ r (fun a u st1 o1 s1 q1 r1 y1 g1 => ?_) k2)
  cases y1
  exact k1 (!a) _ st1 o1 s1 q1 r1 rfl g1
theorem WT_and_nil {pos} {Q : Bool → St → Prop} (h : Q true st) : WT C F (.BoolOp .And [] pos) st Q X :=
  fun obs s _ _ r k1 _ => isTrue_and_nil (k1 true _ st obs s h r rfl (Step.refl ..))
theorem WT_or_nil {pos} {Q : Bool → St → Prop} (h : Q false st) : WT C F (.BoolOp .Or [] pos) st Q X :=
  fun obs s _ _ r k1 _ => isTrue_or_nil (k1 false _ st obs s h r rfl (Step.refl ..))
theorem WT_and {x rest pos} {Q : Bool → St → Prop} (h : WT C F x st (fun b st1 => br b (WT C F (.BoolOp .And rest pos) st1 Q X) (Q false st1)) X) : WT C F (.BoolOp .And (x :: rest) pos) st Q X := by
  intro obs s Qs Es r k1 k2
  refine isTrue_and (h obs s _ _ r (fun a u st1 o1 s1 q1 r1 y1 g1 => ?_) k2)
  cases y1
  cases a
  · exact k1 false _ st1 o1 s1 q1.get r1 rfl g1
  · exact q1.get o1 s1 Qs Es r1 (fun b a st' o' s' q r z g => k1 b a st' o' s' q r z (g1.trans g)) fun x e st' o' s' q r z g => k2 x e st' o' s' q r (z.earlier g1.stands) (g1.trans g)
theorem WT_or {x rest pos} {Q : Bool → St → Prop} (h : WT C F x st (fun b st1 => br b (Q true st1) (WT C F (.BoolOp .Or rest pos) st1 Q X)) X) : WT C F (.BoolOp .Or (x :: rest) pos) st Q X := by
  intro obs s Qs Es r k1 k2
  refine isTrue_or (h obs s _ _ r (fun a u st1 o1 s1 q1 r1 y1 g1 => ?_) k2)
  cases y1
  cases a
  · exact q1.get o1 s1 Qs Es r1 (fun b a st' o' s' q r z g => k1 b a st' o' s' q r z (g1.trans g)) fun x e st' o' s' q r z g => k2 x e st' o' s' q r (z.earlier g1.stands) (g1.trans g)
  · exact k1 true _ st1 o1 s1 q1.get r1 rfl g1
theorem WT_Compare {l op r pos} {Q : Bool → St → Prop} (h : WE C F l st (fun a st1 => WE C F r st1 (fun b st2 => W2 C F (compareOp op) a b st2 (fun v st3 => WTr C F v st3 Q X) X) X) X) (hm : behindInMarks op r = false := by with_unfolding_all rfl) :
    WT C F (.Compare l [op] [r] pos) st Q X := by
  intro obs s Qs Es hr k1 k2
  refine wpAny_isTrue_Compare1 (h obs s _ _ hr (fun a u st1 o1 s1 q1 r1 y1 g1 => q1 o1 s1 _ _ r1 (fun b v st2 o2 s2 q2 r2 y2 g2 => ?_) ?_) k2) hm
  · refine q2 o2 s2 u v _ _ r2 (y1.step g2) y2 (fun c u st3 o3 s3 q3 r3 y3 g3 => ?_) fun x e st' o' s' q r z g => k2 x e st' o' s' q r (z.earlier (g1.trans g2).stands) (g1.trans (g2.trans g))
    exact q3 o3 s3 u Qs Es r3 y3 (fun b a st' o' s' q r z g => k1 b a st' o' s' q r z (g1.trans (g2.trans (g3.trans g)))) fun x e st' o' s' q r z g => k2 x e st' o' s' q r (z.earlier (g1.trans (g2.trans g3)).stands) (g1.trans (g2.trans (g3.trans g)))
  · exact fun x e st' o' s' q r z g => k2 x e st' o' s' q r (z.earlier g1.stands) (g1.trans g)
-- ints
variable {Q : AV → St → Prop}
theorem op_add_int {i j : Int} (h : Q (.int (i + j)) st) : W2 C F (binaryOp .Add) (.int i) (.int j) st Q X := fun obs s u v Qs Es r y z k1 k2 => by
  obtain ⟨t, rfl⟩ := y; obtain ⟨t', rfl⟩ := z
  exact P.add_int (k1 _ _ st obs _ h (r.tok _) ⟨_, rfl⟩ (Step.tok ..))
theorem op_sub_int {i j : Int} (h : Q (.int (i - j)) st) : W2 C F (binaryOp .Sub) (.int i) (.int j) st Q X := fun obs s u v Qs Es r y z k1 k2 => by
  obtain ⟨t, rfl⟩ := y; obtain ⟨t', rfl⟩ := z
  exact P.sub_int (k1 _ _ st obs _ h (r.tok _) ⟨_, rfl⟩ (Step.tok ..))
theorem op_mod_int {i j : Int} (hj : j ≠ 0) (h : Q (.int (i.fmod j)) st) : W2 C F (binaryOp .Mod) (.int i) (.int j) st Q X := fun obs s u v Qs Es r y z k1 k2 => by
  obtain ⟨t, rfl⟩ := y; obtain ⟨t', rfl⟩ := z
  exact mod_int hj (k1 _ _ st obs _ h (r.tok _) ⟨_, rfl⟩ (Step.tok ..))
theorem op_div_int {i j : Int} (hj : j ≠ 0) (h : Q (.int (i.fdiv j)) st) (hp : Builtin.divisionGoesByPylong i j = false := by exact PyProof.noPylong_small (by omega)) : W2 C F (binaryOp .FloorDiv) (.int i) (.int j) st Q X := fun obs s u v Qs Es r y z k1 k2 => by
  obtain ⟨t, rfl⟩ := y; obtain ⟨t', rfl⟩ := z
  exact floordiv_int hj (k1 _ _ st obs _ h (r.tok _) ⟨_, rfl⟩ (Step.tok ..)) (.inl hp)
theorem op_iadd_int {i j : Int} (h : Q (.int (i + j)) st) : W2 C F (inplaceOp .Add) (.int i) (.int j) st Q X := fun obs s u v Qs Es r y z k1 k2 => by
  obtain ⟨t, rfl⟩ := y; obtain ⟨t', rfl⟩ := z
  exact P.iadd_int (k1 _ _ st obs _ h (r.tok _) ⟨_, rfl⟩ (Step.tok ..))
theorem op_isub_int {i j : Int} (h : Q (.int (i - j)) st) : W2 C F (inplaceOp .Sub) (.int i) (.int j) st Q X := fun obs s u v Qs Es r y z k1 k2 => by
  obtain ⟨t, rfl⟩ := y; obtain ⟨t', rfl⟩ := z
  exact P.isub_int (k1 _ _ st obs _ h (r.tok _) ⟨_, rfl⟩ (Step.tok ..))
theorem op_add_str {x y : Str} (hz : x.length + y.length ≤ 1000000) (h : Q (.str (x ++ y)) st) : W2 C F (binaryOp .Add) (.str x) (.str y) st Q X := fun obs s u v Qs Es r y z k1 k2 => by
  obtain ⟨t, rfl⟩ := y; obtain ⟨t', rfl⟩ := z
  exact add_str (fun t' tk => k1 _ _ st obs _ h (r.tok _) ⟨_, rfl⟩ (Step.tok ..)) (by rw [sizeLine_eq]; omega)
theorem op_iadd_str {x y : Str} (hz : x.length + y.length ≤ 1000000) (h : Q (.str (x ++ y)) st) : W2 C F (inplaceOp .Add) (.str x) (.str y) st Q X := fun obs s u v Qs Es r y z k1 k2 => by
  obtain ⟨t, rfl⟩ := y; obtain ⟨t', rfl⟩ := z
  exact SB.iadd (fun t' tk => k1 _ _ st obs _ h (r.tok _) ⟨_, rfl⟩ (Step.tok ..)) (by rw [sizeLine_eq]; omega)
-- comparisons
theorem cmp_eq_int {i j : Int} (h : Q (.bool (i == j)) st) : W2 C F (compareOp .Eq) (.int i) (.int j) st Q X := fun obs s u v Qs Es r y z k1 k2 => by
  obtain ⟨t, rfl⟩ := y; obtain ⟨t', rfl⟩ := z; exact eq_int (k1 _ _ st obs _ h r rfl (Step.refl ..))
theorem cmp_ne_int {i j : Int} (h : Q (.bool (i != j)) st) : W2 C F (compareOp .NotEq) (.int i) (.int j) st Q X := fun obs s u v Qs Es r y z k1 k2 => by
  obtain ⟨t, rfl⟩ := y; obtain ⟨t', rfl⟩ := z; exact ne_int (k1 _ _ st obs _ h r rfl (Step.refl ..))
theorem cmp_lt_int {i j : Int} (h : Q (.bool (decide (i < j))) st) : W2 C F (compareOp .Lt) (.int i) (.int j) st Q X := fun obs s u v Qs Es r y z k1 k2 => by
  obtain ⟨t, rfl⟩ := y; obtain ⟨t', rfl⟩ := z; exact P.lt_int (k1 _ _ st obs _ h r rfl (Step.refl ..))
theorem cmp_le_int {i j : Int} (h : Q (.bool (decide (i ≤ j))) st) : W2 C F (compareOp .LtE) (.int i) (.int j) st Q X := fun obs s u v Qs Es r y z k1 k2 => by
  obtain ⟨t, rfl⟩ := y; obtain ⟨t', rfl⟩ := z; exact P.le_int (k1 _ _ st obs _ h r rfl (Step.refl ..))
theorem cmp_gt_int {i j : Int} (h : Q (.bool (decide (i > j))) st) : W2 C F (compareOp .Gt) (.int i) (.int j) st Q X := fun obs s u v Qs Es r y z k1 k2 => by
  obtain ⟨t, rfl⟩ := y; obtain ⟨t', rfl⟩ := z; exact P.gt_int (k1 _ _ st obs _ h r rfl (Step.refl ..))
theorem cmp_ge_int {i j : Int} (h : Q (.bool (decide (i ≥ j))) st) : W2 C F (compareOp .GtE) (.int i) (.int j) st Q X := fun obs s u v Qs Es r y z k1 k2 => by
  obtain ⟨t, rfl⟩ := y; obtain ⟨t', rfl⟩ := z; exact P.ge_int (k1 _ _ st obs _ h r rfl (Step.refl ..))
theorem cmp_eq_str {x y : Str} (h : Q (.bool (x == y)) st) : W2 C F (compareOp .Eq) (.str x) (.str y) st Q X := fun obs s u v Qs Es r y z k1 k2 => by
  obtain ⟨t, rfl⟩ := y; obtain ⟨t', rfl⟩ := z; exact eq_str (k1 _ _ st obs _ h r rfl (Step.refl ..))
theorem cmp_ne_str {x y : Str} (h : Q (.bool (x != y)) st) : W2 C F (compareOp .NotEq) (.str x) (.str y) st Q X := fun obs s u v Qs Es r y' z k1 k2 => by
  obtain ⟨t, rfl⟩ := y'; obtain ⟨t', rfl⟩ := z
  refine P.ne_str (k1 _ _ st obs _ h r ?_ (Step.refl ..))
  obtain ⟨⟨a⟩⟩ := x; obtain ⟨⟨b⟩⟩ := y
  show Value.bool (a != b) = Value.bool (Str.mk ⟨a⟩ != Str.mk ⟨b⟩)
  congr 1
  rw [Bool.eq_iff_iff]; simp
theorem cmp_eq_str_none {x : Str} (h : Q (.bool false) st) : W2 C F (compareOp .Eq) (.str x) .none st Q X := fun obs s u v Qs Es r y z k1 k2 => by
  obtain ⟨t, rfl⟩ := y; cases z; exact EqNone.eq_str_none (k1 _ _ st obs _ h r rfl (Step.refl ..))
theorem cmp_eq_none_str {x : Str} (h : Q (.bool false) st) : W2 C F (compareOp .Eq) .none (.str x) st Q X := fun obs s u v Qs Es r y z k1 k2 => by
  obtain ⟨t, rfl⟩ := z; cases y; exact EqNone.eq_none_str (k1 _ _ st obs _ h r rfl (Step.refl ..))
theorem cmp_eq_none_none (h : Q (.bool true) st) : W2 C F (compareOp .Eq) .none .none st Q X := fun obs s u v Qs Es r y z k1 k2 => by
  cases z; cases y; exact EqNone.eq_none_none (k1 _ _ st obs _ h r rfl (Step.refl ..))
def subIn (y x : Str) : Bool := !(Builtin.Str.occurrences x y 0 x.length 1).isEmpty
theorem cmp_in_str {x y : Str} (h : Q (.bool (subIn y x)) st) : W2 C F (compareOp .In) (.str y) (.str x) st Q X := fun obs s u v Qs Es r y z k1 k2 => by
  obtain ⟨t, rfl⟩ := y; obtain ⟨t', rfl⟩ := z; exact in_str (k1 _ _ st obs _ h r rfl (Step.refl ..))
theorem cmp_notin_str {x y : Str} (h : Q (.bool (!subIn y x)) st) : W2 C F (compareOp .NotIn) (.str y) (.str x) st Q X := fun obs s u v Qs Es r y z k1 k2 => by
  obtain ⟨t, rfl⟩ := y; obtain ⟨t', rfl⟩ := z; exact notIn_str (k1 _ _ st obs _ h r rfl (Step.refl ..))
def isNone : AV → Bool
  | .none => true
  | _ => false
theorem cmp_is_none {a : AV} (hg : ∀ v, a ≠ .glob v) (h : Q (.bool (isNone a)) st) : W2 C F (compareOp .Is) a .none st Q X := fun obs s u v Qs Es r y z k1 k2 => by
  cases z
  refine is_none (k1 _ _ st obs _ h r ?_ (Step.refl ..))
  show Value.bool (u == .none) = Value.bool (isNone a)
  congr 1
  cases a <;> simp only [VR] at y <;> first | exact y.elim | (cases y; rfl) | (obtain ⟨t, rfl⟩ := y; rfl) | (obtain ⟨a, ws, rfl, _⟩ := y; rfl) | (obtain ⟨p, _, rfl⟩ := y; rfl) | (obtain ⟨e, rfl, _⟩ := y; rfl) | exact (hg _ rfl).elim
theorem cmp_isnot_none {a : AV} (hg : ∀ v, a ≠ .glob v) (h : Q (.bool (!isNone a)) st) : W2 C F (compareOp .IsNot) a .none st Q X := fun obs s u v Qs Es r y z k1 k2 => by
  cases z
  refine isnot_none_gen (k1 _ _ st obs _ h r ?_ (Step.refl ..))
  show Value.bool (!(u == .none)) = Value.bool (!isNone a)
  congr 2
  cases a <;> simp only [VR] at y <;> first | exact y.elim | (cases y; rfl) | (obtain ⟨t, rfl⟩ := y; rfl) | (obtain ⟨a, ws, rfl, _⟩ := y; rfl) | (obtain ⟨p, _, rfl⟩ := y; rfl) | (obtain ⟨e, rfl, _⟩ := y; rfl) | exact (hg _ rfl).elim
-- unary
theorem WE_Unary {op x pos} (h : WE C F x st (fun v st1 => W1 VR C F (unaryOp op) v st1 Q X) X) : WE C F (.UnaryOp op x pos) st Q X := by
  intro obs s Qs Es r k1 k2
  refine UnaryOp_ (h obs s _ _ r (fun a u st1 o1 s1 q1 r1 y1 g1 => ?_) k2)
  exact q1 o1 s1 u Qs Es r1 y1 (fun b a st' o' s' q r z g => k1 b a st' o' s' q r z (g1.trans g)) fun x e st' o' s' q r z g => k2 x e st' o' s' q r (z.earlier g1.stands) (g1.trans g)
theorem un_neg {i : Int} (h : Q (.int (-i)) st) : W1 VR C F (unaryOp .USub) (.int i) st Q X := fun obs s u Qs Es r y k1 k2 => by
  obtain ⟨t, rfl⟩ := y
  exact P.neg_int (k1 _ _ st obs _ h (r.tok _) ⟨_, rfl⟩ (Step.tok ..))
theorem un_not {a : AV} (h : WTr C F a st (fun b st1 => Q (.bool (!b)) st1) X) : W1 VR C F (unaryOp .Not) a st Q X := fun obs s u Qs Es r y k1 k2 =>
  not_of (h obs s u _ _ r y (fun b c st' o' s' q r' e g => by cases e; exact k1 _ _ st' o' s' q r' rfl g) k2)
end
end Mine
namespace Mine
section
variable {C : Cx} {F : Fm} {st : St} {X : AV → St → Prop} {obs : Obs} {s : Shared}
theorem TupL.new {h : Heap} {n : String} {vs : List Value} : TupL (h.push { cls := .type n, data := .seq vs.toArray }) h.objs.size n vs :=
  ⟨_, 0, Heap.get?_push_size _ rfl, rfl, rfl⟩
theorem Rel.fresh (r : Rel C F obs st s) : ¬ F.P obs s.heap.objs.size := fun h => by
  obtain ⟨o, e⟩ := r.live _ h
  exact absurd (Heap.lt_size e) (Nat.lt_irrefl _)
theorem VRs.keep {h h' : Heap} {P : Addr → Prop} {as : List AV} {vs : List Value} (k : ∀ b o, h.get? b = some o → h'.get? b = some o) (y : VRs h P obs as vs) : VRs h' P obs as vs :=
  VRs.mono (fun a _ => KeptAt.v fun o e => ⟨o.slots, k a o e⟩) (fun _ h => .inl h) (fun _ _ e => e) y
theorem VR.keep {h h' : Heap} {P : Addr → Prop} {a : AV} {v : Value} (k : ∀ b o, h.get? b = some o → h'.get? b = some o) (y : VR h P obs a v) : VR h' P obs a v :=
  VR.mono (fun a _ => KeptAt.v fun o e => ⟨o.slots, k a o e⟩) (fun _ h => .inl h) (fun _ _ e => e) y
theorem VR.newLst (r : Rel C F obs st s) {as : List AV} {vs : List Value} (y : VRs s.heap (F.P obs) obs as vs) : VR (s.heap.push { cls := .type "list", data := .seq vs.toArray }) (F.P obs) obs (.lst as) (.ref s.heap.objs.size) := by
  simp only [VR]
  exact ⟨_, vs, rfl, r.fresh, TupL.new, y.keep fun _ _ e => Heap.get?_push_of_some _ e⟩
theorem VR.newTup (r : Rel C F obs st s) {as : List AV} {vs : List Value} (y : VRs s.heap (F.P obs) obs as vs) : VR (s.heap.push { cls := .type "tuple", data := .seq vs.toArray }) (F.P obs) obs (.tup as) (.ref s.heap.objs.size) := by
  simp only [VR]
  exact ⟨_, vs, rfl, r.fresh, TupL.new, y.keep fun _ _ e => Heap.get?_push_of_some _ e⟩
abbrev WEs (C : Cx) (F : Fm) (es : List Expr) (st : St) (Q : List AV → St → Prop) (X : AV → St → Prop) : Prop := W VRs C F (spliced (es.map fun e => (false, eval e F.env))) st Q X
theorem WEs_nil {Q : List AV → St → Prop} (h : Q [] st) : WEs C F [] st Q X :=
  fun obs s _ _ r k1 _ => Calls.spliced_nil (k1 [] _ st obs s h r rfl (Step.refl ..))
theorem WEs_cons {e rest} {Q : List AV → St → Prop} (h : WE C F e st (fun v st1 => WEs C F rest st1 (fun vs st2 => Q (v :: vs) st2) X) X) : WEs C F (e :: rest) st Q X := by
  intro obs s Qs Es r k1 k2
  refine Calls.spliced_cons (h obs s _ _ r (fun a u st1 o1 s1 q1 r1 y1 g1 => q1 o1 s1 _ _ r1 (fun b v st2 o2 s2 q2 r2 y2 g2 => ?_) ?_) k2)
  · exact k1 _ _ st2 o2 s2 q2 r2 (by simp only [VRs]; exact ⟨u, v, rfl, y1.step g2, y2⟩) (g1.trans g2)
  · exact fun x e st' o' s' q r z g => k2 x e st' o' s' q r (z.earlier g1.stands) (g1.trans g)
theorem backTo_plain {es : List Expr} {env : Env} {pos : Pos} (hs : starEach es env = es.map fun e => (false, eval e env)) : backTo pos (starEach es env) = es.map fun e => (false, eval e env) := by
  rw [hs]
  unfold backTo
  rw [List.map_map]
  rfl
variable {Q : AV → St → Prop}
theorem WE_List {es pos} (h : WEs C F es st (fun vs st1 => vs.length ≤ 1000000 ∧ Q (.lst vs) st1) X) (hs : starEach es F.env = es.map fun e => (false, eval e F.env) := by with_unfolding_all rfl) : WE C F (.List es pos) st Q X := by
  intro obs s Qs Es r k1 k2
  refine List_ ?_
  rw [backTo_plain hs]
  refine h obs s _ _ r (fun vs ws st1 o1 s1 q1 r1 y1 g1 => ?_) k2
  exact wpAny_newObj_type (k1 (.lst vs) _ st1 o1 _ q1.2 (r1.push _) (VR.newLst r1 y1) (g1.trans (Step.push ..))) (by show ws.toArray.size ≤ sizeLine; rw [List.size_toArray, y1.length, sizeLine_eq]; omega)
theorem WE_Tuple {es k pos} (h : WEs C F es st (fun vs st1 => vs.length ≤ 1000000 ∧ Q (.tup vs) st1) X) (hs : starEach es F.env = es.map fun e => (false, eval e F.env) := by with_unfolding_all rfl) : WE C F (.Tuple es k pos) st Q X := by
  intro obs s Qs Es r k1 k2
  refine Tuple_ ?_
  rw [backTo_plain hs]
  refine h obs s _ _ r (fun vs ws st1 o1 s1 q1 r1 y1 g1 => ?_) k2
  exact wpAny_newObj_type (k1 (.tup vs) _ st1 o1 _ q1.2 (r1.push _) (VR.newTup r1 y1) (g1.trans (Step.push ..))) (by show ws.toArray.size ≤ sizeLine; rw [List.size_toArray, y1.length, sizeLine_eq]; omega)
-- lists put together
theorem TupL.isList {h : Heap} {a : Addr} {vs : List Value} (x : TupL h a "list" vs) : h.IsList a vs.toArray := let ⟨o, k, h1, h2, h3⟩ := x; ⟨o, h1, h2, k, h3⟩
theorem TupL.isTup {h : Heap} {a : Addr} {vs : List Value} (x : TupL h a "tuple" vs) : IsTup h a vs.toArray := let ⟨o, k, h1, h2, h3⟩ := x; ⟨o, h1, h2, k, h3⟩
theorem op_add_lst {xs ys : List AV} (hz : xs.length + ys.length ≤ 1000000) (h : Q (.lst (xs ++ ys)) st) : W2 C F (binaryOp .Add) (.lst xs) (.lst ys) st Q X := fun obs s u v Qs Es r y z k1 k2 => by
  simp only [VR] at y z
  obtain ⟨l, vs, rfl, nl, tl, yl⟩ := y
  obtain ⟨b, ws, rfl, nb, tb, yb⟩ := z
  obtain ⟨⟨cls, dd, data, sl⟩, ho, hc, n, hd⟩ := tl.isList
  obtain ⟨⟨cls2, dd2, data2, sl2⟩, ho2, hc2, n2, hd2⟩ := tb.isList
  simp only at hc hd hc2 hd2
  subst hc hd hc2 hd2
  have e : vs.toArray ++ ws.toArray = (vs ++ ws).toArray := by simp
  refine concat_meets ⟨_, ho, rfl⟩ ⟨_, ho2, rfl⟩ noFill_list_add seq_list_add PySem.F.slot_list_add PySem.F.entry_list_add (PySem.F.args_list_add_2 _ _)
    (list_addW l b vs.toArray ws.toArray n n2 dd dd2 sl sl2 (by rw [List.size_toArray, List.size_toArray, yl.length, yb.length, sizeLine_eq]; omega)) ⟨ho, ho2, ?_⟩
  rw [e]
  exact k1 (.lst (xs ++ ys)) _ st obs _ h (r.push _) (VR.newLst r (yl.append yb)) (Step.push ..)
-- subscripts
def WSub (C : Cx) (F : Fm) (value slice : Expr) (a b : AV) (st : St) (Q X : AV → St → Prop) : Prop := W2 C F (subscriptTail value slice) a b st Q X
theorem WE_Subscript {value slice pos} (h : WE C F value st (fun a st1 => WE C F slice st1 (fun b st2 => WSub C F value slice a b st2 Q X) X) X) : WE C F (.Subscript value slice pos) st Q X := by
  intro obs s Qs Es hr k1 k2
  refine Subscript_ (h obs s _ _ hr (fun a u st1 o1 s1 q1 r1 y1 g1 => q1 o1 s1 _ _ r1 (fun b v st2 o2 s2 q2 r2 y2 g2 => ?_) ?_) k2)
  · exact q2 o2 s2 u v Qs Es r2 (y1.step g2) y2 (fun b a st' o' s' q r z g => k1 b a st' o' s' q r z (g1.trans (g2.trans g))) fun x e st' o' s' q r z g => k2 x e st' o' s' q r (z.earlier (g1.trans g2).stands) (g1.trans (g2.trans g))
  · exact fun x e st' o' s' q r z g => k2 x e st' o' s' q r (z.earlier g1.stands) (g1.trans g)
theorem seqIndex_spec {k : Int} {n j : Nat} (h : seqIndex? k n = some j) : (0 ≤ k ∧ k < n ∧ j = k.toNat) ∨ (k < 0 ∧ -(n : Int) ≤ k ∧ j = (k + n).toNat) := by
  unfold seqIndex? at h
  by_cases hk : k < 0
  · simp only [hk, if_true] at h
    split at h
    · rename_i q
      simp only [Bool.and_eq_true, decide_eq_true_eq] at q
      cases h
      exact .inr ⟨hk, by omega, rfl⟩
    · cases h
  · simp only [hk, if_false] at h
    split at h
    · rename_i q
      simp only [Bool.and_eq_true, decide_eq_true_eq] at q
      cases h
      exact .inl ⟨by omega, by omega, rfl⟩
    · cases h
theorem sub_lst {value slice : Expr} {xs : List AV} {k : Int} {a : AV} {j : Nat} (hz : xs.length ≤ 1000000) (hj : seqIndex? k xs.length = some j) (ha : xs[j]? = some a) (h : Q a st)
    (hs : ∀ o i, subscripted slice false o i = operate [o, i] (getItem o i) := by intro _ _; with_unfolding_all rfl) : WSub C F value slice (.lst xs) (.int k) st Q X := fun obs s u v Qs Es r y z k1 k2 => by
  simp only [VR] at y z
  obtain ⟨l, vs, rfl, nl, tl, yl⟩ := y
  obtain ⟨t, rfl⟩ := z
  obtain ⟨w, hw, yw⟩ := yl.get ha
  have hlen := yl.length
  have fin := k1 a w st obs s h r yw (Step.refl ..)
  refine tail_any tl.isList.typeIs slot_list_getitem.lookup ?_ (hs _ _)
  rcases seqIndex_spec hj with ⟨h0, h1, rfl⟩ | ⟨h0, h1, rfl⟩
  · exact wpAny_getItem_list tl.isList h0 (by omega) (by simpa using hw) fin
  · exact wpAny_getItem_list_neg tl.isList h0 (by simp; omega) (by omega) (by simp only [List.size_toArray, hlen, List.getElem?_toArray]; exact hw) fin
theorem sub_tup {value slice : Expr} {xs : List AV} {k : Int} {a : AV} {j : Nat} (hz : xs.length ≤ 1000000) (hj : seqIndex? k xs.length = some j) (ha : xs[j]? = some a) (h : Q a st)
    (hs : ∀ o i, subscripted slice false o i = operate [o, i] (getItem o i) := by intro _ _; with_unfolding_all rfl) : WSub C F value slice (.tup xs) (.int k) st Q X := fun obs s u v Qs Es r y z k1 k2 => by
  simp only [VR] at y z
  obtain ⟨l, vs, rfl, nl, tl, yl⟩ := y
  obtain ⟨t, rfl⟩ := z
  obtain ⟨w, hw, yw⟩ := yl.get ha
  have hlen := yl.length
  have fin := k1 a w st obs s h r yw (Step.refl ..)
  have hb := seqIndex_spec hj
  have hq : seqIndex? k vs.toArray.size = some j := by rw [← hj, List.size_toArray, hlen]
  exact tail_any tl.isTup.typeIs slot_tuple_getitem.lookup (getItem_tuple tl.isTup (by omega) (by omega) hq (by simpa using hw) fin) (hs _ _)
-- cuts
abbrev WEo (C : Cx) (F : Fm) (o : Option Expr) (st : St) (Q X : AV → St → Prop) : Prop := W VR C F (evalPart o F.env) st Q X
theorem WEo_none (h : Q .none st) : WEo C F none st Q X := fun obs s _ _ r k1 _ => by
  rw [evalPart_none]; exact wpAny_pure (k1 .none _ st obs s h r rfl (Step.refl ..))
theorem WEo_some {e : Expr} (h : WE C F e st Q X) : WEo C F (some e) st Q X := h
def partOf : AV → Option (Option Int)
  | .none => some none
  | .int i => some (some i)
  | _ => Option.none
def WCut (C : Cx) (F : Fm) (value slice : Expr) (a l u : AV) (st : St) (Q X : AV → St → Prop) : Prop :=
  ∀ (obs : Obs) (s : Shared) (o vl vu : Value) (Qs Es : Value → Shared → Prop), Rel C F obs st s → VR s.heap (F.P obs) obs a o → VR s.heap (F.P obs) obs l vl → VR s.heap (F.P obs) obs u vu →
    (∀ b a st' obs' s', Q b st' → Rel C F obs' st' s' → VR s'.heap (F.P obs') obs' b a → Step F obs s obs' s' → Qs a s') →
    (∀ x e st' obs' s', X x st' → Rel C F obs' st' s' → ExIn C F obs' s s' x e → Step F obs s obs' s' → Es (.ref e) s') →
    wpAny C.M F.A (subscriptTail value slice o (.ref s.heap.objs.size)) Qs Es { s with heap := s.heap.push { cls := .type "slice", data := .fields #[vl, vu, .none] } }
theorem WE_Cut {value lower upper p pos} (h : WE C F value st (fun a st1 => WEo C F lower st1 (fun l st2 => WEo C F upper st2 (fun u st3 => WCut C F value (.Slice lower upper none p) a l u st3 Q X) X) X) X) :
    WE C F (.Subscript value (.Slice lower upper none p) pos) st Q X := by
  intro obs s Qs Es hr k1 k2
  refine Subscript_ (h obs s _ _ hr (fun a o st1 o1 s1 q1 r1 y1 g1 => ?_) k2)
  refine wpAny_Slice (q1 o1 s1 _ _ r1 (fun l vl st2 o2 s2 q2 r2 y2 g2 => q2 o2 s2 _ _ r2 (fun u vu st3 o3 s3 q3 r3 y3 g3 => ?_) ?_) ?_)
  · rw [evalPart_none]
    refine wpAny_pure ?_
    have g := g1.trans (g2.trans g3)
    exact q3 o3 s3 o vl vu Qs Es r3 (y1.step (g2.trans g3)) (y2.step g3) y3 (fun b a st' o' s' q r z g' => k1 b a st' o' s' q r z (g.trans g')) fun x e st' o' s' q r z g' => k2 x e st' o' s' q r (z.earlier g.stands) (g.trans g')
  · exact fun x e st' o' s' q r z g => k2 x e st' o' s' q r (z.earlier (g1.trans g2).stands) ((g1.trans g2).trans g)
  · exact fun x e st' o' s' q r z g => k2 x e st' o' s' q r (z.earlier g1.stands) (g1.trans g)
theorem part_is {h : Heap} {P : Addr → Prop} {l : AV} {vl : Value} {lo : Option Int} (hp : partOf l = some lo) (y : VR h P obs l vl) : IsPart vl lo := by
  cases l <;> simp only [partOf] at hp <;> first | cases hp | skip
  · cases y; exact .none
  · obtain ⟨t, rfl⟩ := y; exact .int _ _
theorem tail_item {value slice : Expr} {o i : Value} {ops : List Value} {prog : Program} {w : World} {A : Around} {E Q : Value → Shared → Prop} {s : Shared} (h : ItemOn (model prog w) A E o i Q s) (hs : subscripted slice false o i = operate ops (getItem o i)) :
    wpAny (model prog w) A (subscriptTail value slice o i) Q E s := by
  obtain ⟨T, id, hl, hT, hg⟩ := h
  exact tail_any hT hl hg hs
theorem cut_str {value slice : Expr} {x : Str} {l u : AV} {lo hi : Option Int} (hz : x.length ≤ 1000000) (hl : partOf l = some lo) (hu : partOf u = some hi) (h : Q (.str (Txt.slice x lo hi)) st)
    (hs : ∀ o i, subscripted slice false o i = operate [i, o] (getItem o i) := by intro _ _; with_unfolding_all rfl) : WCut C F value slice (.str x) l u st Q X := fun obs s o vl vu Qs Es r y yl yu k1 k2 => by
  obtain ⟨t, rfl⟩ := y
  have pl := part_is hl yl
  have pu := part_is hu yu
  have hk : KeptH (fun h' => ∀ b o, s.heap.get? b = some o → h'.get? b = some o) := fun h ob a b o e => Heap.get?_push_of_some _ (a b o e)
  have fin : ∀ h' t' k, (∀ b o, s.heap.get? b = some o → h'.get? b = some o) → Qs (.str (Txt.slice x lo hi) t') { s with heap := h', toks := k } := fun h' t' k kk => k1 _ _ st obs _ h (r.keep kk k) ⟨t', rfl⟩ (Step.keep F obs s kk k)
  refine tail_item ?_ (hs _ _)
  cases pl <;> cases pu
  · exact SBH.sliceItem_nn hk (fun _ _ e => e) fin (by rw [sizeLine_eq]; omega)
  · exact SBH.sliceItem_ns hk (fun _ _ e => e) fin (by rw [sizeLine_eq]; omega)
  · exact SBH.sliceItem_sn hk (fun _ _ e => e) fin (by rw [sizeLine_eq]; omega)
  · exact SBH.sliceItem_ss hk (fun _ _ e => e) fin (by rw [sizeLine_eq]; omega)
def cutL {α : Type} (xs : List α) (lo hi : Option Int) : List α :=
  (sliceRange (sliceBounds lo hi none xs.length).1 (sliceBounds lo hi none xs.length).2.1 (sliceBounds lo hi none xs.length).2.2).filterMap (xs[·]?)
theorem VRs.pick {h : Heap} {P : Addr → Prop} {as : List AV} {vs : List Value} (y : VRs h P obs as vs) : ∀ (is : List Nat), VRs h P obs (is.filterMap (as[·]?)) (is.filterMap (vs[·]?))
  | [] => by simp [VRs]
  | i :: is => by
    have ih := y.pick is
    have hl := y.length
    cases e : as[i]? with
    | none =>
      have : vs[i]? = none := by rw [List.getElem?_eq_none_iff] at e ⊢; omega
      simp only [List.filterMap_cons, e, this]; exact ih
    | some a =>
      obtain ⟨v, hv, z⟩ := y.get e
      simp only [List.filterMap_cons, e, hv, VRs]
      exact ⟨v, _, rfl, z, ih⟩
theorem cut_lst {value slice : Expr} {xs : List AV} {l u : AV} {lo hi : Option Int} (hz : xs.length ≤ 1000000) (hl : partOf l = some lo) (hu : partOf u = some hi) (h : Q (.lst (cutL xs lo hi)) st)
    (hs : ∀ o i, subscripted slice false o i = operate [i, o] (getItem o i) := by intro _ _; with_unfolding_all rfl) : WCut C F value slice (.lst xs) l u st Q X := fun obs s o vl vu Qs Es r y yl yu k1 k2 => by
  simp only [VR] at y
  obtain ⟨a, vs, rfl, na, ta, ya⟩ := y
  have hlen := ya.length
  have hil : (s.heap.push { cls := .type "slice", data := .fields #[vl, vu, .none] }).IsList a vs.toArray := ta.isList.push _
  refine tail_any (Heap.IsList.typeIs (s := { s with heap := s.heap.push { cls := .type "slice", data := .fields #[vl, vu, .none] } }) hil) list_getitem_lookup
    (wpAny_getItem_list_slice hil (Heap.IsSliceOf.new ..) (part_is hl yl) (part_is hu yu) .none (by simp) ?_ (by rw [List.size_toArray, hlen, sizeLine_eq]; omega)) (hs _ _)
  have r1 := r.push { cls := .type "slice", data := .fields #[vl, vu, .none] }
  have e : slicePick vs.toArray lo hi none = (cutL vs lo hi).toArray := by unfold slicePick cutL; simp
  rw [e]
  refine k1 (.lst (cutL xs lo hi)) _ st obs _ h (r1.push _) (VR.newLst r1 ?_) ((Step.push ..).trans (Step.push ..))
  have := (ya.keep (h' := s.heap.push { cls := .type "slice", data := .fields #[vl, vu, .none] }) fun _ _ e => Heap.get?_push_of_some _ e).pick (sliceRange (sliceBounds lo hi none xs.length).1 (sliceBounds lo hi none xs.length).2.1 (sliceBounds lo hi none xs.length).2.2)
  unfold cutL
  rw [hlen]
  exact this
theorem sub_str {value slice : Expr} {x : Str} {k : Int} {c j : Nat} (hz : x.length ≤ 1000000) (hj : seqIndex? k x.length = some j) (hc : x.cps[j]? = some c) (h : Q (.str ⟨#[c]⟩) st)
    (hs : ∀ o i, subscripted slice false o i = operate [o, i] (getItem o i) := by intro _ _; with_unfolding_all rfl) : WSub C F value slice (.str x) (.int k) st Q X := fun obs s u v Qs Es r y z k1 k2 => by
  obtain ⟨t, rfl⟩ := y
  obtain ⟨t', rfl⟩ := z
  refine tail_any (typeIs_str s x t) slot_str_getitem.lookup (getItem_str ?_ (by rw [hj]; exact hc) (k1 _ _ st obs _ h (r.tok _) ⟨_, rfl⟩ (Step.tok ..))) (hs _ _)
  have := seqIndex_spec hj
  simp only [Bool.or_eq_false_iff, decide_eq_false_iff_not]
  omega
end
end Mine
namespace Mine
section
variable {C : Cx} {F : Fm} {st : St} {X : AV → St → Prop} {obs : Obs} {s s' : Shared}
theorem Rel.note (r : Rel C F obs st s) (hk : ∀ a, F.P obs a → KeptAt s.heap s'.heap a) (hv : ∀ a, KeptV s.heap s'.heap a) (hst : C.b.heap.StaysIn s'.heap) (hg : s'.gens = s.gens) (hd : s'.drawn = s.drawn) (ho : s'.os = s.os)
    (hf : s'.heap.FunFrames C.b.heap (F.env :: F.outer)) : Rel C F obs st s' := by
  have ns : ∀ {a m}, F.P obs a → s.heap.Ns a m → s'.heap.Ns a m := fun {a m} h n => by
    obtain ⟨o, es, ep, e, d, rest⟩ := n
    obtain ⟨sl, e'⟩ := hk a h o e
    exact ⟨_, es, ep, e', d, rest⟩
  have inP : F.P obs F.env.locals := List.mem_append_right _ List.mem_cons_self
  refine ⟨r.cok, r.ok, hst, hg.trans r.gens, hd.trans r.drawn, ho.trans r.os, r.nod, r.new, fun a ha => let ⟨o, e⟩ := r.live a ha; let ⟨sl, e'⟩ := hk a ha o e; ⟨_, e'⟩, hf, ?_, r.gl, r.nodl, r.len, ?_⟩
  · obtain ⟨m, n, z⟩ := r.loc
    exact ⟨m, ns inP n, fun p hp => ⟨(z p hp).1, (z p hp).2.mono (fun a _ => hv a) (fun a h => .inl h) fun _ _ e => e⟩⟩
  · intro i p o h1 h2
    obtain ⟨oa, m, z1, z2, z3, z4, z5, z6, z7⟩ := r.objs i p o h1 h2
    have i1 : F.P obs p.1 := List.mem_append_right _ (List.mem_cons_of_mem _ (mem_obA_of h1).1)
    have i2 : F.P obs p.2 := List.mem_append_right _ (List.mem_cons_of_mem _ (mem_obA_of h1).2)
    obtain ⟨sl, e'⟩ := hk _ i1 _ z1
    exact ⟨_, m, e', z2, z3, z4, z5.kept (hk _ i2), fun q hq => (z6 q hq).mono (fun a _ => hv a) (fun a h => .inl h) fun _ _ e => e, z7⟩
theorem setf_get {h : Heap} {a b : Addr} {o : Obj} {vs : Array Value} {i : Nat} {x : Value} (ho : h.get? a = some o) (hd : o.data = .fields vs) :
    (h.update a (Obj.mapFields (·.setIfInBounds i x))).get? a = some (Obj.mapFields (·.setIfInBounds i x) o) :=
  Heap.get?_update_self _ ho (Obj.isFreed_of_fields (Obj.data_mapFields hd _))
theorem mapFields_is {o : Obj} {vs : Array Value} (hd : o.data = .fields vs) (f : Array Value → Array Value) : Obj.mapFields f o = { o with data := .fields (f vs) } := by
  obtain ⟨c, d, dt, sl⟩ := o; subst hd; rfl
theorem entry_ex {base : Heap} {env : Env} {outer : List Env} {L e : Addr} {oe : Obj} {vs : Array Value} {head : Value} {hadNext : Bool} {M : Model} {A : Around} {E : Value → Shared → Prop} {Q : Unit → Shared → Prop}
    (hfr : A.frames = some (env :: outer)) (hl : s.heap.FunFrames base (env :: outer)) (hf : env.frame = some L)
    (he : s.heap.get? e = some oe) (hkb : base.StaysIn s.heap) (hen : base.get? e = none) (hd : oe.data = .fields vs) (hsz : 1 < vs.size)
    (h : ∀ h' T oT ts, s.heap.get? T = none → base.get? T = none → h'.get? T = some oT → oT.data = .fields ts → ts[3]? = some (rawInt L) → h'.get? e = some { oe with data := .fields (vs.setIfInBounds 1 (.ref T)) } →
      (∀ a, a ≠ e → KeptAt s.heap h' a) → base.StaysIn h' → h'.FunFrames base (env :: outer) → Q () { s with heap := h' }) :
    wpAny M A (do let a ← frameOf env; let pl ← entryPlaceOf L hadNext; let b ← EntryCells.newEntry head a .none (rawInt L) .none pl; setField (.ref e) 1 b) Q E s := by
  have hene : e ∉ (env :: outer).filterMap (·.frame) := fun hm => by
    obtain ⟨_, o, ho, hnf⟩ := hl.mem hm
    rw [he] at ho; injection ho with ho; subst ho; exact hnf vs hd
  refine wpAny_bind (wpAny_frameOf_fun hfr hl hf fun h₁ hs₁ => ?_)
  refine wpAny_bind (wpAny_entryPlaceOf fun pl hpl => ?_)
  unfold EntryCells.newEntry newFields
  refine wpAny_bind (wpAny_newObj_type ?_ (hpl.sizeOk5 _ _ _ _ _))
  have he₁ : h₁.get? e = some oe := (hs₁.2.1 e hene).trans he
  have kb₁ : base.StaysIn h₁ := fun b o hbo => (hs₁.2.1 b fun hm => by rw [(hl.mem hm).1] at hbo; cases hbo).trans (hkb b o hbo)
  generalize hob : ({ cls := .type "traceback", dict := none, data := .fields ([head, .ref L, .none, rawInt L, .none] ++ (if pl.isEmpty then List.replicate 6 Value.none else pl)).toArray } : Obj) = ob
  have he₂ := Heap.get?_push_of_some (h := h₁) ob he₁
  refine wpAny_setField he₂ hd hsz ?_
  have hTe : h₁.objs.size ≠ e := Nat.ne_of_gt (Heap.lt_size he₁)
  have hobf : ob.isFreed = false := by rw [← hob]; rfl
  have he₃ := setf_get (b := e) (i := 1) (x := Value.ref h₁.objs.size) he₂ hd
  rw [mapFields_is hd] at he₃
  have other : ∀ a, a ≠ e → ((h₁.push ob).update e (Obj.mapFields (·.setIfInBounds 1 (Value.ref h₁.objs.size)))).get? a = (h₁.push ob).get? a := fun a ha => Heap.get?_update_other _ _ (Ne.symm ha)
  have kept : ∀ a, a ≠ e → KeptAt s.heap ((h₁.push ob).update e (Obj.mapFields (·.setIfInBounds 1 (Value.ref h₁.objs.size)))) a := fun a ha o ho => by
    obtain ⟨sl, z⟩ := hs₁.2.2 a o ho
    exact ⟨sl, (other a ha).trans (Heap.get?_push_of_some _ z)⟩
  have new : s.heap.get? h₁.objs.size = none := by
    cases q : s.heap.get? h₁.objs.size with
    | none => rfl
    | some o => exact absurd (Heap.lt_size q) (by rw [hs₁.1]; exact Nat.lt_irrefl _)
  refine h _ h₁.objs.size ob ([head, .ref L, .none, rawInt L, .none] ++ (if pl.isEmpty then List.replicate 6 Value.none else pl)).toArray new kb₁.fresh ((other _ hTe).trans (Heap.get?_push_size _ hobf)) (by rw [← hob]) (by simp) he₃ kept ?_ ?_
  · exact fun b o hbo => (other b fun q => by rw [q, hen] at hbo; cases hbo).trans (Heap.get?_push_of_some _ (kb₁ b o hbo))
  · refine frames_nf (fun b o hb hnf => ?_) hl
    have hbe : b ≠ e := fun q => by rw [q, he] at hb; cases hb; exact hnf vs hd
    obtain ⟨sl, z⟩ := kept b hbe o hb
    exact ⟨_, z, hnf⟩
structure Noted (C : Cx) (F : Fm) (obs : Obs) (st : St) (h₀ : Heap) (s s' : Shared) (x : AV) (e : Addr) (fl : Value) : Prop where
  rel : Rel C F obs st s'
  ex : ExA C.b.heap (F.P obs) h₀ s'.heap x e (some fl)
  kept : ∀ a o, h₀.get? a = some o → KeptAt s.heap s'.heap a
  stands : ∀ a o, s.heap.get? a = some o → ∃ o', s'.heap.get? a = some o'
theorem keptV_set {h : Heap} {a b : Addr} {o : Obj} {vs : Array Value} {i : Nat} {x : Value} (ho : h.get? a = some o) (hd : o.data = .fields vs) (hi : i ≠ 0) : KeptV h (h.update a (Obj.mapFields (·.setIfInBounds i x))) b := by
  intro o' e'
  by_cases hb : b = a
  · subst hb
    rw [ho] at e'; cases e'
    refine ⟨_, setf_get (b := b) ho hd, ?_⟩
    rw [mapFields_is hd]
    exact ⟨rfl, rfl, .inr ⟨vs, _, hd, rfl, by rw [Array.getElem?_setIfInBounds_ne (by omega)], by simp⟩⟩
  · exact ⟨o', (Heap.get?_update_other _ _ (Ne.symm hb)).trans e', rfl, rfl, .inl rfl⟩
theorem keptAt_set {h : Heap} {a b : Addr} (f : Obj → Obj) (hb : b ≠ a) : KeptAt h (h.update a f) b := KeptAt.of_eq (Heap.get?_update_other _ _ (Ne.symm hb))
theorem note_ex {E : Value → Shared → Prop} {Q : Unit → Shared → Prop} {h₀ : Heap} {x : AV} {e : Addr} {fl : Option Value} (r : Rel C F obs st s) (y : ExA C.b.heap (F.P obs) h₀ s.heap x e fl) (hs₀ : ∀ a o, h₀.get? a = some o → ∃ o', s.heap.get? a = some o')
    (hfl : fl = none ∨ fl = some .none ∨ fl = some (rawInt F.env.locals)) (hQ : ∀ s', Noted C F obs st h₀ s s' x e (rawInt F.env.locals) → Q () s') : wpAny C.M F.A (noteFrame (.ref e) F.env) Q E s := by
  obtain ⟨c, args, t, oe, vs, hd, rfl, hex, he, hdat, h0, h1, nPe, nPt, be, bt, ne, nte, hst⟩ := id y
  have hsz : 1 < vs.size := (Array.getElem?_eq_some_iff.mp h1).1
  unfold noteFrame
  simp only [r.ok.frame]
  refine wpAny_bind (wpAny_field he hdat h1 ?_)
  -- laying a new entry from a heap that is as s, but for an old entry's mark
  have lay : ∀ (s1 : Shared) (hadNext : Bool) (head : Value), Rel C F obs st s1 → s1.heap.get? e = some oe → ExcAt s1.heap e t c args → (∀ a o, h₀.get? a = some o → KeptAt s.heap s1.heap a) → (∀ a o, s.heap.get? a = some o → ∃ o', s1.heap.get? a = some o') →
      wpAny C.M F.A (do let a ← frameOf F.env; let pl ← entryPlaceOf F.env.locals hadNext; let b ← EntryCells.newEntry head a .none (rawInt F.env.locals) .none pl; setField (.ref e) 1 b) Q E s1 := by
    intro s1 hadNext head r1 he1 hex1 k1 st1
    refine entry_ex r1.ok.frames r1.fr r1.ok.frame he1 r1.stay be hdat hsz fun h' T oT ts nT bT gT dT fT ge kp sy ff => hQ _ ?_
    have nTP : ¬ F.P obs T := fun z => by obtain ⟨o, q⟩ := r1.live T z; rw [nT] at q; cases q
    have nTe : T ≠ e := fun z => by rw [z, he1] at nT; cases nT
    have tin : ∃ o, s1.heap.get? t = some o := by obtain ⟨_, ws, ht, _⟩ := hex1; exact ht.there
    have nTt : T ≠ t := fun z => by obtain ⟨o, q⟩ := tin; rw [← z, nT] at q; cases q
    have kv : ∀ a, KeptV s1.heap h' a := fun a => by
      by_cases ha : a = e
      · subst ha
        intro o q
        rw [he1] at q; cases q
        exact ⟨_, ge, rfl, rfl, .inr ⟨vs, _, hdat, rfl, by rw [Array.getElem?_setIfInBounds_ne (by decide)], by simp⟩⟩
      · exact (kp a ha).v
    have rel' : Rel C F obs st { s1 with heap := h' } := r1.note (fun a ha => kp a fun z => nPe (z ▸ ha)) kv sy rfl rfl rfl ff
    refine ⟨rel', ⟨c, args, t, _, _, .ref T, rfl, hex1.kept (kv e) (kv t), ge, rfl, by rw [Array.getElem?_setIfInBounds_ne (by decide)]; exact h0, by simp [hsz], nPe, nPt, be, bt, ne, nte, T, oT, ts, rfl, nTe, nTt, nTP, bT, ?_, gT, dT, fT⟩, ?_, ?_⟩
    · cases q : h₀.get? T with
      | none => rfl
      | some o =>
        obtain ⟨o', z⟩ := hs₀ T o q
        obtain ⟨o'', z'⟩ := st1 T o' z
        rw [nT] at z'; cases z'
    · exact fun a o q => (k1 a o q).trans (kp a fun z => by rw [z, ne] at q; cases q)
    · intro a o q
      obtain ⟨o', z⟩ := st1 a o q
      obtain ⟨o'', z', _⟩ := kv a o' z
      exact ⟨o'', z'⟩
  rcases hfl with rfl | rfl | rfl
  · subst hst
    rw [if_neg (by decide)]
    exact lay s false .none r he hex (fun a o q => KeptAt.refl _ a) fun a o q => ⟨o, q⟩
  · obtain ⟨T, oT, ts, rfl, nTe, nTt, nTP, bT, n0T, gT, dT, fT⟩ := hst
    rw [if_pos (show (Value.ref T != Value.none) = true from by simp)]
    refine wpAny_bind (wpAny_field gT dT fT ?_)
    rw [if_neg (show ¬ ((Value.none == rawInt F.env.locals) = true) from by simp [rawInt])]
    refine wpAny_bind (wpAny_setField gT dT (Array.getElem?_eq_some_iff.mp fT).1 ?_)
    have kv : ∀ a, KeptV s.heap (s.heap.update T (Obj.mapFields (·.setIfInBounds 3 Value.none))) a := fun a => keptV_set gT dT (by decide)
    have other : ∀ b, b ≠ T → (s.heap.update T (Obj.mapFields (·.setIfInBounds 3 Value.none))).get? b = s.heap.get? b := fun b hb => Heap.get?_update_other _ _ (Ne.symm hb)
    have sy : C.b.heap.StaysIn (s.heap.update T (Obj.mapFields (·.setIfInBounds 3 Value.none))) := fun b o hbo => (other b fun q => by rw [q, bT] at hbo; cases hbo).trans (r.stay b o hbo)
    have ff : (s.heap.update T (Obj.mapFields (·.setIfInBounds 3 Value.none))).FunFrames C.b.heap (F.env :: F.outer) := by
      refine frames_nf (fun b o hb hnf => ⟨o, (other b fun q => ?_).trans hb, hnf⟩) r.fr
      rw [q, gT] at hb; cases hb; exact hnf ts dT
    refine lay { s with heap := s.heap.update T (Obj.mapFields (·.setIfInBounds 3 Value.none)) } true (.ref T) (r.note (fun a ha => keptAt_set _ fun z => nTP (z ▸ ha)) kv sy rfl rfl rfl ff) ((other e (Ne.symm nTe)).trans he) (hex.kept (kv e) (kv t)) (fun a o q => keptAt_set _ fun z => by rw [z, n0T] at q; cases q) fun a o q => ?_
    obtain ⟨o', z, _⟩ := kv a o q
    exact ⟨o', z⟩
  · obtain ⟨T, oT, ts, rfl, nTe, nTt, nTP, bT, n0T, gT, dT, fT⟩ := hst
    rw [if_pos (show (Value.ref T != Value.none) = true from by simp)]
    refine wpAny_bind (wpAny_field gT dT fT ?_)
    rw [if_pos (show (rawInt F.env.locals == rawInt F.env.locals) = true from by simp)]
    exact wpAny_pure (hQ s ⟨r, y, fun a _ _ => KeptAt.refl _ a, fun a o q => ⟨o, q⟩⟩)
theorem flight_ex {E : Value → Shared → Prop} {Q : Unit → Shared → Prop} {h₀ : Heap} {x : AV} {e : Addr} {fl : Value} {fr : Option Addr} {A : Around} (r : Rel C F obs st s) (y : ExA C.b.heap (F.P obs) h₀ s.heap x e (some fl))
    (hQ : ∀ s', Noted C F obs st h₀ s s' x e (fr.elim Value.none fun f => rawInt f) → Q () s') : wpAny C.M A (setFlight (.ref e) fr) Q E s := by
  obtain ⟨c, args, t, oe, vs, hd, rfl, hex, he, hdat, h0, h1, nPe, nPt, be, bt, ne, nte, T, oT, ts, rfl, nTe, nTt, nTP, bT, n0T, gT, dT, fT⟩ := id y
  unfold setFlight
  refine wpAny_bind (wpAny_field he hdat h1 ?_)
  rw [if_pos (show (Value.ref T != Value.none) = true from by simp)]
  have hsz3 := (Array.getElem?_eq_some_iff.mp fT).1
  refine wpAny_setField gT dT hsz3 (hQ _ ?_)
  generalize (fr.elim Value.none fun f => rawInt f) = nf
  have kv : ∀ a, KeptV s.heap (s.heap.update T (Obj.mapFields (·.setIfInBounds 3 nf))) a := fun a => keptV_set gT dT (by decide)
  have other : ∀ b, b ≠ T → (s.heap.update T (Obj.mapFields (·.setIfInBounds 3 nf))).get? b = s.heap.get? b := fun b hb => Heap.get?_update_other _ _ (Ne.symm hb)
  have sy : C.b.heap.StaysIn (s.heap.update T (Obj.mapFields (·.setIfInBounds 3 nf))) := fun b o hbo => (other b fun q => by rw [q, bT] at hbo; cases hbo).trans (r.stay b o hbo)
  have ff : (s.heap.update T (Obj.mapFields (·.setIfInBounds 3 nf))).FunFrames C.b.heap (F.env :: F.outer) := by
    refine frames_nf (fun b o hb hnf => ⟨o, (other b fun q => ?_).trans hb, hnf⟩) r.fr
    rw [q, gT] at hb; cases hb; exact hnf ts dT
  refine ⟨r.note (fun a ha => keptAt_set _ fun z => nTP (z ▸ ha)) kv sy rfl rfl rfl ff, ?_, fun a o q => keptAt_set _ (fun z => (by rw [z, n0T] at q; cases q)), fun a o q => let ⟨o', z, _⟩ := kv a o q; ⟨o', z⟩⟩
  refine ⟨c, args, t, oe, vs, .ref T, rfl, hex.kept (kv e) (kv t), (other e (Ne.symm nTe)).trans he, hdat, h0, h1, nPe, nPt, be, bt, ne, nte, T, _, _, rfl, nTe, nTt, nTP, bT, n0T, setf_get (b := T) gT dT, by rw [mapFields_is dT], by simp [hsz3]⟩
end
end Mine
namespace Mine
structure Fn where
  a : Addr
  params : List Str
  dflt : List (Str × AV)
  locals : List Str
  gl : List (Str × Value)
  body : List Stmt
def Fn.names (f : Fn) : List Str := f.params ++ (f.dflt.map (·.1) ++ f.locals)
def Fn.loc (f : Fn) (avs : List AV) : List (Str × AV) := f.params.zip avs ++ (f.dflt ++ f.locals.map fun x => (x, .unb))
def DfltR : List (Str × AV) → List (Str × Value) → Prop
  | [], [] => True
  | p :: ps, q :: qs => (p.1 = q.1 ∧ ∀ h P obs, VR h P obs p.2 q.2) ∧ DfltR ps qs
  | _, _ => False
def BindsA (s : Shared) (fd : FuncData) (args : Args) (Pr : List (Str × Value) → Prop) : Prop :=
  ∀ (M : Model) (A : Around) (E : Value → Shared → Prop) (Q : List (Str × Value) → Shared → Prop),
    (∀ (binds : List (Str × Value)) (h' : Heap) (t : Nat), Pr binds → (∀ b o, s.heap.get? b = some o → h'.get? b = some o) → Q binds { s with heap := h', toks := t }) → wpAny M A (bindArgs fd args) Q E s
theorem BindsA.of {s : Shared} {fd : FuncData} {args : Args} {Pr : List (Str × Value) → Prop} {binds : List (Str × Value)} (h : BindsTo s fd args binds) (hp : Pr binds) : BindsA s fd args Pr :=
  fun M A E Q k => h M A E Q (k binds s.heap s.toks hp fun _ _ e => e)
def Bound (f : Fn) (scope : Scope) (vals : List Value) (binds : List (Str × Value)) : Prop :=
  ∃ ds ex, binds.Perm (f.params.zip vals ++ (ds ++ ex)) ∧ DfltR f.dflt ds ∧ (ex.map (·.1)).Nodup ∧ ∀ p ∈ ex, p.1 ∉ f.names ∧ scope.names.lookup p.1 = some .local
theorem Bound.of {f : Fn} {scope : Scope} {vals : List Value} {ds : List (Str × Value)} (h : DfltR f.dflt ds) : Bound f scope vals (f.params.zip vals ++ ds) :=
  ⟨ds, [], by simp, h, by simp, by simp⟩
theorem Bound.perm {f : Fn} {scope : Scope} {vals : List Value} {ds binds : List (Str × Value)} (h : DfltR f.dflt ds) (hp : binds.Perm (f.params.zip vals ++ ds)) : Bound f scope vals binds :=
  ⟨ds, [], by simpa using hp, h, by simp, by simp⟩
structure FnOkA (C : Cx) (mk : List Value → Args) (f : Fn) (fd : FuncData) : Prop where
  look : ∃ o, C.K.lookup f.a = some o ∧ o.data = .func fd
  body : fd.body = .stmts f.body
  kind : fd.scope.kind = .function
  gen : fd.scope.isGenerator = false
  cor : fd.scope.isCoroutine = false
  cell : ∀ x ∈ fd.scope.names, x.2 ≠ .cell
  globals : fd.globals = mainGlobals
  builtins : fd.builtins = builtinsNs
  code : codeIn C.K fd.code fd.qualname = true
  nms : ∀ x ∈ f.names, fd.scope.names.lookup x = some .local ∧ (x == ("__debug__" : Str)) = false
  nod : f.names.Nodup
  gls : ∀ p ∈ f.gl, (fd.scope.names.lookup p.1 = some .globalImplicit ∧ (p.1 == ("__debug__" : Str)) = false) ∧ GlOk C p.1 p.2
  bind : ∀ (s : Shared) (vals : List Value), C.K.In s.heap → vals.length = f.params.length → BindsA s fd (mk vals) (Bound f fd.scope vals)
abbrev FnOk (C : Cx) (f : Fn) (fd : FuncData) : Prop := FnOkA C (fun vs => ⟨vs, []⟩) f fd
def WFnA (C : Cx) (n : Nat) (a : Addr) (mk : List Value → Args) (avs : List AV) (objs : List OB) (Q X : AV → List OB → Prop) : Prop :=
  ∀ (F : Fm) (st : St) (obs : Obs) (s : Shared) (vals : List Value) (R : Result → Shared → Prop), n ≤ F.d → F.hd = none → st.objs = objs → Rel C F obs st s → VRs s.heap (F.P obs) obs avs vals →
    (∀ b v objs' obs' s', Q b objs' → Rel C F obs' { st with objs := objs' } s' → VR s'.heap (F.P obs') obs' b v → Step F obs s obs' s' → R (.ok (.ret v)) s') →
    (∀ x e objs' obs' s', X x objs' → Rel C F obs' { st with objs := objs' } s' → ExIn C F obs' s s' x e → Step F obs s obs' s' → R (.error (.ref e)) s') →
    codeAny C.M F.A (.call (.ref a) (mk vals)) R s
abbrev WFn (C : Cx) (n : Nat) (a : Addr) (avs : List AV) (objs : List OB) (Q X : AV → List OB → Prop) : Prop := WFnA C n a (fun vs => ⟨vs, []⟩) avs objs Q X
theorem codeAny_call_defA {prog : Program} {w : World} {A : Around} {s : Shared} {R : Result → Shared → Prop} {a : Addr} {o : Obj} {fd : FuncData} {body : List Stmt} {args : Args} {Pr : List (Str × Value) → Prop}
    (hroom : A.depth < recursionLimit) (ho : s.heap.get? a = some o) (hdata : o.data = .func fd) (hlim : s.heap.NoLimit) (hcd : s.heap.CodeRec fd.code fd.qualname)
    (hbody : fd.body = .stmts body) (hbind : BindsA s fd args Pr)
    (hcell : ∀ x ∈ fd.scope.names, x.2 ≠ .cell) (hloc : ∀ binds, Pr binds → ∀ x ∈ binds, fd.scope.names.lookup x.1 = some .local)
    (h : ∀ (binds : List (Str × Value)) (h₁ : Heap) (t₁ : Nat), Pr binds → (∀ b o, s.heap.get? b = some o → h₁.get? b = some o) → ∀ h₀ : Heap, h₀.Ns h₁.objs.size (fun x => binds.reverse.lookup x) → (∀ b o, h₁.get? b = some o → h₀.get? b = some o) →
      wpAny (model prog w) (A.deeper (callEnv fd h₁.objs.size a)) (execs body (callEnv fd h₁.objs.size a)) (fun f s' => R (.ok (.ret (match f with | .ret v => v | _ => .none))) s')
        (fun e s' => wpAny (model prog w) (A.deeper (callEnv fd h₁.objs.size a)) (leaving (callEnv fd h₁.objs.size a) e) (fun _ s'' => R (.error e) s'') (fun e' s'' => R (.error e') s'') s')
        { s with heap := h₀, toks := t₁ + binds.length })
    (hco : fd.scope.isCoroutine = false) (hgen : fd.scope.isGenerator = false) (hk : fd.scope.kind = .function) :
    codeAny (model prog w) A (.call (.ref a) args) R s := by
  refine codeAny_call_function hroom ho hdata hco hgen hbody hcd (hbind _ _ _ _ fun binds h₁ t₁ hp hk₁ => ?_)
  refine wpAny_newFunctionEnv hcell (hloc binds hp) (fun h₀ hns₀ hsb₀ => ⟨(hlim.keeps hk₁).fresh _ hsb₀, codeAny_func (h binds h₁ t₁ hp hk₁ h₀ hns₀ fun b o e => ?_)⟩) hk
  exact hsb₀.extBut b o (Nat.ne_of_lt (Heap.lt_size e)) (Heap.get?_push_of_some _ e)
section
variable {C : Cx} {F F' : Fm} {st st' : St} {X : AV → St → Prop} {obs obs' : Obs} {s s₁ s' : Shared}
theorem lookup_zip {α : Type} : ∀ {ks : List Str} {vs : List α}, ks.Nodup → ks.length = vs.length → ∀ {x : Str} {v : α}, (x, v) ∈ ks.zip vs → (ks.zip vs).lookup x = some v
  | [], _, _, _, _, _, h => by simp at h
  | k :: ks, [], _, hl, _, _, h => by simp at hl
  | k :: ks, w :: vs, hn, hl, x, v, h => by
    simp only [List.zip_cons_cons, List.mem_cons, Prod.mk.injEq] at h
    rw [List.nodup_cons] at hn
    rcases h with ⟨rfl, rfl⟩ | h
    · simp [List.lookup_cons]
    · have hx : x ∈ ks := (List.of_mem_zip h).1
      have : (x == k) = false := beq_eq_false_iff_ne.mpr fun e => hn.1 (e ▸ hx)
      simp only [List.zip_cons_cons, List.lookup_cons, this]
      exact lookup_zip hn.2 (by simpa using hl) h
theorem lookup_none {α : Type} : ∀ {l : List (Str × α)} {x : Str}, x ∉ l.map (·.1) → l.lookup x = none
  | [], _, _ => rfl
  | (k, v) :: l, x, h => by
    simp only [List.map_cons, List.mem_cons, not_or] at h
    rw [List.lookup_cons, beq_eq_false_iff_ne.mpr h.1]
    exact lookup_none h.2
theorem lookup_mem {α : Type} : ∀ {l : List (Str × α)} {x : Str} {v : α}, (l.map (·.1)).Nodup → (x, v) ∈ l → l.lookup x = some v
  | [], _, _, _, h => by simp at h
  | (k, w) :: l, x, v, hn, h => by
    simp only [List.map_cons, List.nodup_cons] at hn
    rcases List.mem_cons.mp h with h | h
    · cases h; simp [List.lookup_cons]
    · have : (x == k) = false := beq_eq_false_iff_ne.mpr fun e => hn.1 (e ▸ List.mem_map_of_mem (f := (·.1)) h)
      rw [List.lookup_cons, this]
      exact lookup_mem hn.2 h
theorem map_zip_fst {α : Type} : ∀ {ks : List Str} {vs : List α}, ks.length = vs.length → (ks.zip vs).map (·.1) = ks
  | [], [], _ => rfl
  | _ :: _, [], h => by simp at h
  | [], _ :: _, h => by simp at h
  | k :: ks, v :: vs, h => by simp [map_zip_fst (ks := ks) (vs := vs) (by simpa using h)]
theorem DfltR.names : ∀ {ps : List (Str × AV)} {qs : List (Str × Value)}, DfltR ps qs → qs.map (·.1) = ps.map (·.1)
  | [], [], _ => rfl
  | p :: ps, q :: qs, h => by simp [h.1.1, DfltR.names h.2]
  | [], _ :: _, h => h.elim
  | _ :: _, [], h => h.elim
theorem DfltR.get : ∀ {ps : List (Str × AV)} {qs : List (Str × Value)}, DfltR ps qs → ∀ {p}, p ∈ ps → ∃ v, (p.1, v) ∈ qs ∧ ∀ h P obs, VR h P obs p.2 v
  | [], [], _, _, h => by simp at h
  | p :: ps, (n, w) :: qs, h, q, hq => by
    rcases List.mem_cons.mp hq with rfl | hq
    · obtain ⟨⟨e, y⟩, _⟩ := h
      simp only at e; subst e
      exact ⟨w, List.mem_cons_self, y⟩
    · obtain ⟨v, a, b⟩ := DfltR.get h.2 hq
      exact ⟨v, List.mem_cons_of_mem _ a, b⟩
  | [], _ :: _, h, _, _ => h.elim
  | _ :: _, [], h, _, _ => h.elim
theorem VRs.zip {h : Heap} {P : Addr → Prop} : ∀ {ks : List Str} {as : List AV} {vs : List Value}, VRs h P obs as vs → ∀ {x a}, (x, a) ∈ ks.zip as → ∃ v, (x, v) ∈ ks.zip vs ∧ VR h P obs a v
  | [], _, _, _, _, _, h => by simp at h
  | k :: ks, [], _, _, _, _, h => by simp at h
  | k :: ks, a :: as, _, y, x, b, h => by
    simp only [VRs] at y
    obtain ⟨v, r, rfl, y1, y2⟩ := y
    simp only [List.zip_cons_cons, List.mem_cons, Prod.mk.injEq] at h ⊢
    rcases h with ⟨rfl, rfl⟩ | h
    · exact ⟨v, .inl ⟨rfl, rfl⟩, y1⟩
    · obtain ⟨w, a1, a2⟩ := VRs.zip y2 h
      exact ⟨w, .inr a1, a2⟩
theorem Rel.back (r : Rel C F obs st s) (r' : Rel C F' obs' st' s') (hL : s.heap.get? F'.env.locals = none) (ho : F'.outer = F.env :: F.outer) (hb : F'.forb = F.env.locals :: F.forb)
    (hx : ∃ more, obs' = obs ++ more ∧ ∀ p ∈ more, s.heap.get? p.1 = none ∧ s.heap.get? p.2 = none) (hk : ∀ a o, s.heap.get? a = some o → a ∉ obA obs → KeptAt s.heap s'.heap a) :
    Rel C F obs' { st with objs := st'.objs } s' ∧ Step F obs s obs' s' := by
  have hsub : ∀ a, F.P obs' a → F'.P obs' a := fun a h => by
    rcases List.mem_append.mp h with h | h
    · exact List.mem_append_left _ (hb ▸ List.mem_cons_of_mem _ h)
    · rcases List.mem_cons.mp h with h | h
      · exact List.mem_append_left _ (hb ▸ h ▸ List.mem_cons_self)
      · exact List.mem_append_right _ (List.mem_cons_of_mem _ h)
  have hP : ∀ a, F.P obs' a → F.P obs a ∨ s.heap.get? a = none := fun a h => by
    obtain ⟨more, rfl, hm⟩ := hx
    rcases List.mem_append.mp h with h | h
    · exact .inl (List.mem_append_left _ h)
    · rcases List.mem_cons.mp h with h | h
      · exact .inl (List.mem_append_right _ (h ▸ List.mem_cons_self))
      · obtain ⟨p, hp, e⟩ := mem_obA.mp h
        rcases List.mem_append.mp hp with hp | hp
        · exact .inl (List.mem_append_right _ (List.mem_cons_of_mem _ (mem_obA.mpr ⟨p, hp, e⟩)))
        · rcases e with e | e
          · exact .inr (e ▸ (hm p hp).1)
          · exact .inr (e ▸ (hm p hp).2)
  have hobs : ∀ (i : Nat) p, obs[i]? = some p → obs'[i]? = some p := fun i p e => by
    obtain ⟨more, rfl, hm⟩ := hx
    rw [List.getElem?_append_left (List.getElem?_eq_some_iff.mp e).1]; exact e
  obtain ⟨nf, nob⟩ := nodup_tail r.nod
  have kv : ∀ a, ¬ F.P obs a → KeptV s.heap s'.heap a := fun a h o e => (hk a o e fun z => h (List.mem_append_right _ (List.mem_cons_of_mem _ z))).v o e
  have stands : ∀ a o, s.heap.get? a = some o → ∃ o', s'.heap.get? a = some o' := fun a o e => by
    by_cases h : a ∈ obA obs
    · have : a ∈ obA obs' := by
        obtain ⟨p, hp, z⟩ := mem_obA.mp h
        obtain ⟨more, rfl, _⟩ := hx
        exact mem_obA.mpr ⟨p, List.mem_append_left _ hp, z⟩
      exact r'.live a (List.mem_append_right _ (List.mem_cons_of_mem _ this))
    · obtain ⟨sl, z⟩ := hk a o e h o e
      exact ⟨_, z⟩
  have hnod : (F.all obs').Nodup := by
    have z := r'.nod
    unfold Fm.all Fm.mine at z ⊢
    rw [hb] at z
    have p : (F.forb ++ F.env.locals :: obA obs').Perm (F.env.locals :: (F.forb ++ obA obs')) := List.perm_middle
    rw [p.nodup_iff]
    refine z.sublist ?_
    rw [List.cons_append]
    exact List.Sublist.cons_cons _ (List.Sublist.append (List.Sublist.refl _) (List.sublist_cons_self _ _))
  refine ⟨⟨r.cok, r.ok, r'.stay, r'.gens, r'.drawn, r'.os, hnod, fun a ha => r'.new a (hsub a ha), fun a ha => r'.live a (hsub a ha), by have := r'.fr.2.2; rw [ho] at this; exact this, ?_, r.gl, r.nodl, r'.len, ?_⟩, ⟨?_, hx, stands⟩⟩
  · obtain ⟨m, n, z⟩ := r.loc
    refine ⟨m, ?_, fun p hp => ⟨(z p hp).1, (z p hp).2.mono kv hP hobs⟩⟩
    obtain ⟨o, es, ep, e, d, rest⟩ := n
    obtain ⟨sl, e'⟩ := hk _ o e nob o e
    exact ⟨_, es, ep, e', d, rest⟩
  · intro i p o h1 h2
    obtain ⟨oa, m, z1, z2, z3, z4, z5, z6, z7⟩ := r'.objs i p o h1 h2
    exact ⟨oa, m, z1, z2, z3, z4, z5, fun q hq => (z6 q hq).mono (fun a _ => (KeptAt.refl _ a).v) (fun a h => .inl (hsub a h)) fun _ _ e => e, z7⟩
  · intro a ha o e
    exact hk a o e (fun z => ha (List.mem_cons_of_mem _ z)) o e
theorem lookup_perm {α : Type} {l1 l2 : List (Str × α)} (hp : l1.Perm l2) (hn : (l2.map (·.1)).Nodup) (x : Str) : l1.lookup x = l2.lookup x := by
  have hn1 : (l1.map (·.1)).Nodup := ((hp.map (·.1)).nodup_iff).mpr hn
  by_cases h : x ∈ l2.map (·.1)
  · obtain ⟨p, hm, rfl⟩ := List.mem_map.mp h
    rw [lookup_mem hn (x := p.1) (v := p.2) hm, lookup_mem hn1 (x := p.1) (v := p.2) (hp.mem_iff.mpr hm)]
  · rw [lookup_none h, lookup_none fun q => h ((hp.map (·.1)).mem_iff.mp q)]
theorem bound_nodup {f : Fn} {vals : List Value} {ds ex : List (Str × Value)} (hvl : vals.length = f.params.length) (hds : DfltR f.dflt ds) (hnod : f.names.Nodup) (hexn : (ex.map (·.1)).Nodup) (hex : ∀ p ∈ ex, p.1 ∉ f.names) :
    ((f.params.zip vals ++ (ds ++ ex)).map (·.1)).Nodup := by
  rw [List.map_append, List.map_append, map_zip_fst hvl.symm, hds.names, ← List.append_assoc]
  unfold Fn.names at hnod
  rw [← List.append_assoc] at hnod
  refine List.nodup_append.mpr ⟨(List.nodup_append.mp hnod).1, hexn, fun a ha b hb e => ?_⟩
  subst e
  obtain ⟨p, hp, rfl⟩ := List.mem_map.mp hb
  refine hex p hp ?_
  unfold Fn.names; rw [← List.append_assoc]; exact List.mem_append_left _ ha
theorem WFn_core {f : Fn} {fd : FuncData} {mk : List Value → Args} {n : Nat} {avs : List AV} {objs : List OB} {Q X : AV → List OB → Prop} (hf : FnOkA C mk f fd) (hl : f.params.length = avs.length)
    (h : ∀ F' : Fm, n ≤ F'.d → F'.hd = none → WSs C F' f.body ⟨f.gl, f.loc avs, objs⟩ (fun fl st' => match fl with | .ret v => Q v st'.objs | .next => Q .none st'.objs | _ => False) (fun x st' => X x st'.objs))
    {vals : List Value} {R : Result → Shared → Prop} (hd : n + 1 ≤ F.d) (hh : F.hd = none) (hobj : st.objs = objs) (r : Rel C F obs st s) (y : VRs s.heap (F.P obs) obs avs vals)
    (k1 : ∀ b v objs' obs' s', Q b objs' → Rel C F obs' { st with objs := objs' } s' → VR s'.heap (F.P obs') obs' b v → Step F obs s obs' s' → R (.ok (.ret v)) s')
    (k2 : ∀ x e objs' obs' s', X x objs' → Rel C F obs' { st with objs := objs' } s' → ExIn C F obs' s s' x e → Step F obs s obs' s' → R (.error (.ref e)) s')
    {ds : List (Str × Value)} (hds : DfltR f.dflt ds) {ex : List (Str × Value)} (hexn : (ex.map (·.1)).Nodup) (hex : ∀ p ∈ ex, p.1 ∉ f.names) {h₀ : Heap} (hns : h₀.Ns s.heap.objs.size (fun x => (f.params.zip vals ++ (ds ++ ex)).reverse.lookup x))
    (hk : ∀ b o, s.heap.get? b = some o → h₀.get? b = some o) (t : Nat) :
    wpAny C.M (F.A.deeper (callEnv fd s.heap.objs.size f.a)) (execs f.body (callEnv fd s.heap.objs.size f.a)) (fun f s' => R (.ok (.ret (match f with | .ret v => v | _ => .none))) s')
        (fun e s' => wpAny C.M (F.A.deeper (callEnv fd s.heap.objs.size f.a)) (leaving (callEnv fd s.heap.objs.size f.a) e) (fun _ s'' => R (.error e) s'') (fun e' s'' => R (.error e') s'') s')
        { s with heap := h₀, toks := t } := by
  have hvl : vals.length = f.params.length := y.length.trans hl.symm
  have hbn : (f.params.zip vals ++ (ds ++ ex)).map (·.1) = f.params ++ f.dflt.map (·.1) ++ ex.map (·.1) := by rw [List.map_append, List.map_append, map_zip_fst hvl.symm, hds.names, List.append_assoc]
  have hnod := hf.nod
  unfold Fn.names at hnod
  rw [← List.append_assoc] at hnod
  have hnod1 : (f.params ++ f.dflt.map (·.1)).Nodup := (List.nodup_append.mp hnod).1
  have hnod2 : (f.params ++ f.dflt.map (·.1) ++ ex.map (·.1)).Nodup := by
    refine List.nodup_append.mpr ⟨hnod1, hexn, fun a ha b hb e => ?_⟩
    subst e
    obtain ⟨p, hp, rfl⟩ := List.mem_map.mp hb
    refine hex p hp ?_
    unfold Fn.names; rw [← List.append_assoc]; exact List.mem_append_left _ ha
  generalize hL : s.heap.objs.size = L' at hns
  have hLn : s.heap.get? L' = none := by
    cases q : s.heap.get? L' with
    | none => rfl
    | some o => exact absurd (Heap.lt_size q) (by rw [hL]; exact Nat.lt_irrefl _)
  have hLb : C.b.heap.get? L' = none := by
    cases q : C.b.heap.get? L' with
    | none => rfl
    | some o => have := r.stay _ _ q; rw [hLn] at this; cases this
  let F' : Fm := ⟨callEnv fd L' f.a, F.env :: F.outer, F.env.locals :: F.forb, F.A.deeper (callEnv fd L' f.a), F.d - 1, F.hd⟩
  have hloc' : F'.env.locals = L' := rfl
  have hnL : ¬ F.P obs L' := fun z => by obtain ⟨o, e⟩ := r.live _ z; rw [hLn] at e; cases e
  have Fok : F'.Ok := by
    refine ⟨hf.kind, hf.globals, hf.builtins, rfl, ?_, r.ok.handled, ?_, ?_⟩
    · show F.A.frames.map _ = _; rw [r.ok.frames]; rfl
    · have := r.ok.depth; show F.A.depth + 1 + (F.d - 1) < 990; omega
    · have := r.ok.units; show F.A.units + 3 + 20 * (F.d - 1) < 9800; omega
  have kk : ∀ a, KeptAt s.heap h₀ a := fun a o e => ⟨o.slots, hk a o e⟩
  have hPP : ∀ a, F'.P obs a → F.P obs a ∨ s.heap.get? a = none := fun a h => by
    rcases List.mem_append.mp h with h | h
    · rcases List.mem_cons.mp h with h | h
      · exact .inl (List.mem_append_right _ (h ▸ List.mem_cons_self))
      · exact .inl (List.mem_append_left _ h)
    · rcases List.mem_cons.mp h with h | h
      · exact .inr (by rw [h]; exact hLn)
      · exact .inl (List.mem_append_right _ (List.mem_cons_of_mem _ h))
  have vr : ∀ {av v}, VR s.heap (F.P obs) obs av v → VR h₀ (F'.P obs) obs av v := fun z => VR.mono (fun a _ => (kk a).v) hPP (fun _ _ e => e) z
  have sr : ∀ {av v}, SlotR s.heap (F.P obs) obs av v → SlotR h₀ (F'.P obs) obs av v := fun z => SlotR.mono (fun a _ => (kk a).v) hPP (fun _ _ e => e) z
  have r0 : Rel C F' obs ⟨f.gl, f.loc avs, objs⟩ { s with heap := h₀, toks := t } := by
    refine ⟨r.cok, Fok, fun b o e => hk _ _ (r.stay b o e), r.gens, r.drawn, r.os, ?_, ?_, ?_, ?_, ⟨_, hns, ?_⟩, ?_, ?_, ?_, ?_⟩
    · show ((F.env.locals :: F.forb) ++ (L' :: obA obs)).Nodup
      have z := r.nod
      unfold Fm.all Fm.mine at z
      have p1 : ((F.env.locals :: F.forb) ++ (L' :: obA obs)).Perm (L' :: ((F.env.locals :: F.forb) ++ obA obs)) := List.perm_middle
      have p2 : (F.forb ++ F.env.locals :: obA obs).Perm (F.env.locals :: F.forb ++ obA obs) := by rw [List.cons_append]; exact List.perm_middle
      rw [p1.nodup_iff, List.nodup_cons]
      refine ⟨fun q => hnL ?_, p2.nodup_iff.mp z⟩
      exact p2.mem_iff.mpr q
    · intro a ha
      rcases List.mem_append.mp ha with h | h
      · rcases List.mem_cons.mp h with h | h
        · exact r.new a (List.mem_append_right _ (h ▸ List.mem_cons_self))
        · exact r.new a (List.mem_append_left _ h)
      · rcases List.mem_cons.mp h with h | h
        · rw [h]; exact hLb
        · exact r.new a (List.mem_append_right _ (List.mem_cons_of_mem _ h))
    · intro a ha
      have old : F.P obs a → ∃ o, h₀.get? a = some o := fun z => let ⟨o, e⟩ := r.live a z; ⟨o, hk _ _ e⟩
      rcases List.mem_append.mp ha with h | h
      · rcases List.mem_cons.mp h with h | h
        · exact old (List.mem_append_right _ (h ▸ List.mem_cons_self))
        · exact old (List.mem_append_left _ h)
      · rcases List.mem_cons.mp h with h | h
        · rw [h]; obtain ⟨o, e, _⟩ := ns_nf hns; exact ⟨o, e⟩
        · exact old (List.mem_append_right _ (List.mem_cons_of_mem _ h))
    · refine ⟨by show fd.scope.kind ≠ .module; rw [hf.kind]; decide, ?_, r.fr.of_keeps fun b o e _ => ⟨o, hk _ _ e, rfl⟩⟩
      obtain ⟨o, e, nfl⟩ := ns_nf hns
      exact ⟨L', o, rfl, hLb, e, nfl⟩
    · intro p hp
      have hname : p.1 ∈ f.names := by
        unfold Fn.names
        rcases List.mem_append.mp hp with h | h
        · exact List.mem_append_left _ (List.of_mem_zip (a := p.1) (b := p.2) h).1
        · rcases List.mem_append.mp h with h | h
          · exact List.mem_append_right _ (List.mem_append_left _ (List.mem_map_of_mem (f := (·.1)) h))
          · obtain ⟨x, hx, rfl⟩ := List.mem_map.mp h
            exact List.mem_append_right _ (List.mem_append_right _ hx)
      refine ⟨⟨(hf.nms _ hname).1, (hf.nms _ hname).2⟩, ?_⟩
      have hnodB : ((f.params.zip vals ++ (ds ++ ex)).reverse.map (·.1)).Nodup := by rw [List.map_reverse, (List.reverse_perm _).nodup_iff, hbn]; exact hnod2
      rcases List.mem_append.mp hp with h | h
      · obtain ⟨v, a1, a2⟩ := VRs.zip (ks := f.params) y (x := p.1) (a := p.2) h
        rw [lookup_mem hnodB (List.mem_reverse.mpr (List.mem_append_left _ a1))]
        exact SlotR.of (vr a2)
      · rcases List.mem_append.mp h with h | h
        · obtain ⟨v, a1, a2⟩ := hds.get h
          rw [lookup_mem hnodB (List.mem_reverse.mpr (List.mem_append_right _ (List.mem_append_left _ a1)))]
          exact SlotR.of (a2 _ _ _)
        · obtain ⟨x, hx, rfl⟩ := List.mem_map.mp h
          show (f.params.zip vals ++ (ds ++ ex)).reverse.lookup x = none
          refine lookup_none fun q => ?_
          rw [List.map_reverse, List.mem_reverse, hbn] at q
          rcases List.mem_append.mp q with q | q
          · exact (List.nodup_append.mp hnod).2.2 _ q _ hx rfl
          · obtain ⟨p, hp, e⟩ := List.mem_map.mp q
            exact hex p hp (e ▸ hname)
    · exact fun p hp => ⟨⟨(hf.gls p hp).1.1, (hf.gls p hp).1.2⟩, (hf.gls p hp).2⟩
    · show ((f.loc avs).map (·.1)).Nodup
      have : (f.loc avs).map (·.1) = f.names := by
        unfold Fn.loc Fn.names
        rw [List.map_append, map_zip_fst hl, List.map_append, List.map_map]
        congr 2
        exact (List.map_id' f.locals)
      rw [this]; exact hf.nod
    · show objs.length = obs.length; rw [← hobj]; exact r.len
    · intro i p o h1 h2
      have h2' : st.objs[i]? = some o := by rw [hobj]; exact h2
      obtain ⟨oa, m, z1, z2, z3, z4, z5, z6, z7⟩ := r.objs i p o h1 h2'
      exact ⟨oa, m, hk _ _ z1, z2, z3, z4, z5.kept (kk _), fun q hq => sr (z6 q hq), z7⟩
  have hkeep : ∀ {o' s'}, Step F' obs { s with heap := h₀, toks := t } o' s' → ∀ a o, s.heap.get? a = some o → a ∉ obA obs → KeptAt s.heap s'.heap a := fun g a o e hn => by
    refine (kk a).trans (g.ag a fun z => ?_)
    rcases List.mem_cons.mp z with z | z
    · have z' : a = L' := z
      rw [z', hLn] at e; cases e
    · exact hn z
  have hext : ∀ {o' s'}, Step F' obs { s with heap := h₀, toks := t } o' s' → ∃ more, o' = obs ++ more ∧ ∀ p ∈ more, s.heap.get? p.1 = none ∧ s.heap.get? p.2 = none := fun g => by
    obtain ⟨more, e, hm⟩ := g.ext
    exact ⟨more, e, fun p hp => ⟨(kk p.1).none (hm p hp).1, (kk p.2).none (hm p hp).2⟩⟩
  have hsub : ∀ obs' a, F.P obs' a → F'.P obs' a := fun obs' a h => by
    rcases List.mem_append.mp h with h | h
    · exact List.mem_append_left _ (List.mem_cons_of_mem _ h)
    · rcases List.mem_cons.mp h with h | h
      · exact List.mem_append_left _ (h ▸ List.mem_cons_self)
      · exact List.mem_append_right _ (List.mem_cons_of_mem _ h)
  refine h F' (by show n ≤ F.d - 1; omega) hh obs _ _ _ r0 (fun fl a st' o' s' q r' e g => ?_) fun x e st' o' s' q r' z g => ?_
  · obtain ⟨rb, gb⟩ := r.back r' hLn rfl rfl (hext g) (hkeep g)
    have vb : ∀ {av v}, VR s'.heap (F'.P o') o' av v → VR s'.heap (F.P o') o' av v := fun z => VR.mono (fun a _ => (KeptAt.refl _ a).v) (fun a h => .inl (hsub _ a h)) (fun _ _ e => e) z
    cases fl with
    | next => cases e; exact k1 .none _ _ o' s' q rb rfl gb
    | ret v => obtain ⟨u, rfl, z⟩ := e; exact k1 v u _ o' s' q rb (vb z) gb
    | brk => exact q.elim
    | cont => exact q.elim
  · obtain ⟨fl, ex, hfl⟩ := z
    unfold leaving
    refine wpAny_bind (note_ex r' ex (fun a o e => g.stands a o e) hfl fun s1 N1 => ?_)
    refine flight_ex (fr := none) N1.rel N1.ex fun s2 N2 => ?_
    have kp : ∀ a o, h₀.get? a = some o → KeptAt s'.heap s2.heap a := fun a o e => (N1.kept a o e).trans (N2.kept a o e)
    have hk2 : ∀ a o, s.heap.get? a = some o → a ∉ obA obs → KeptAt s.heap s2.heap a := fun a o e hn => (hkeep g a o e hn).trans (kp a o (hk _ _ e))
    obtain ⟨rb, gb⟩ := r.back N2.rel hLn rfl rfl (hext g) hk2
    exact k2 x e _ o' s2 q rb ⟨_, (N2.ex.earlier fun a o e => ⟨o, hk _ _ e⟩).weaken (hsub o'), .inr (.inl rfl)⟩ gb
theorem WFnA_intro {f : Fn} {fd : FuncData} {mk : List Value → Args} {n : Nat} {avs : List AV} {objs : List OB} {Q X : AV → List OB → Prop} (hf : FnOkA C mk f fd) (hl : f.params.length = avs.length)
    (h : ∀ F' : Fm, n ≤ F'.d → F'.hd = none → WSs C F' f.body ⟨f.gl, f.loc avs, objs⟩ (fun fl st' => match fl with | .ret v => Q v st'.objs | .next => Q .none st'.objs | _ => False) (fun x st' => X x st'.objs)) :
    WFnA C (n + 1) f.a mk avs objs Q X := by
  intro F st obs s vals R hd hh hobj r y k1 k2
  obtain ⟨o, ho, hdat⟩ := hf.look
  have X₀ := r.kin
  have hvl : vals.length = f.params.length := y.length.trans hl.symm
  have hroom : F.A.depth < recursionLimit := by have := r.ok.depth; show _ < 1000; omega
  refine codeAny_call_defA (fd := fd) (body := f.body) hroom (X₀ _ _ ho) hdat (r.cok.nolimit.keeps r.stay) (codeRec_of X₀ hf.code) hf.body (hf.bind s vals X₀ hvl) hf.cell (fun binds hB x hx => ?_) (fun binds h₁ t₁ hB hk₁ h₀ hns hk => ?_) hf.cor hf.gen hf.kind
  · obtain ⟨ds, ex, hpm, hds, hexn, hex⟩ := hB
    have hx := hpm.mem_iff.mp hx
    have nm : ∀ y ∈ f.params ++ f.dflt.map (·.1), fd.scope.names.lookup y = some .local := fun y hy => (hf.nms y (by unfold Fn.names; rw [← List.append_assoc]; exact List.mem_append_left _ hy)).1
    rcases List.mem_append.mp hx with hx | hx
    · exact nm _ (List.mem_append_left _ (List.of_mem_zip (a := x.1) (b := x.2) hx).1)
    · rcases List.mem_append.mp hx with hx | hx
      · exact nm _ (List.mem_append_right _ (hds.names ▸ List.mem_map_of_mem (f := (·.1)) hx))
      · exact (hex x hx).2
  · obtain ⟨ds, ex, hpm, hds, hexn, hex⟩ := hB
    have g1 := Step.keep F obs s hk₁ t₁
    have hnd := bound_nodup hvl hds hf.nod hexn fun p hp => (hex p hp).1
    have hns : h₀.Ns h₁.objs.size (fun x => (f.params.zip vals ++ (ds ++ ex)).reverse.lookup x) := by
      have e : (fun x => binds.reverse.lookup x) = (fun x => (f.params.zip vals ++ (ds ++ ex)).reverse.lookup x) := by
        funext x
        refine lookup_perm ((List.reverse_perm _).trans (hpm.trans (List.reverse_perm _).symm)) ?_ x
        rw [List.map_reverse, (List.reverse_perm _).nodup_iff]; exact hnd
      rw [← e]; exact hns
    exact WFn_core (s := { s with heap := h₁, toks := t₁ }) hf hl h hd hh hobj (r.keep hk₁ t₁) (y.step g1) (fun b v objs' obs' s' q r' z g => k1 b v objs' obs' s' q r' z (g1.trans g))
      (fun x e objs' obs' s' q r' z g => k2 x e objs' obs' s' q r' (z.earlier g1.stands) (g1.trans g)) hds hexn (fun p hp => (hex p hp).1) hns hk _
theorem WFn_intro {f : Fn} {fd : FuncData} {n : Nat} {avs : List AV} {objs : List OB} {Q X : AV → List OB → Prop} (hf : FnOk C f fd) (hl : f.params.length = avs.length)
    (h : ∀ F' : Fm, n ≤ F'.d → F'.hd = none → WSs C F' f.body ⟨f.gl, f.loc avs, objs⟩ (fun fl st' => match fl with | .ret v => Q v st'.objs | .next => Q .none st'.objs | _ => False) (fun x st' => X x st'.objs)) :
    WFn C (n + 1) f.a avs objs Q X := WFnA_intro hf hl h
end
end Mine
namespace Mine
section
variable {C : Cx} {F : Fm} {st : St} {Q X : AV → St → Prop}
def Keeps (C : Cx) (g : Value) : Prop := ∀ h : Heap, C.K.In h → ∃ k, (k = Keeper.frame ∨ k = Keeper.machine ∨ k = Keeper.boundFrame) ∧ Looks C.M h (keeperOf g) k
theorem Keeps.fn {f : Addr} (h : keepIn C.K (.ref f) = true) : Keeps C (.ref f) := fun hp k => keeps_K h hp k
theorem Keeps.builtin (id : String) : Keeps C (.builtin id) := fun h _ => ⟨_, .inr (.inl rfl), Looks.of_pure rfl⟩
theorem Keeps.type (n : String) : Keeps C (.type n) := fun h _ => ⟨_, .inr (.inl rfl), Looks.of_pure rfl⟩
theorem Keeps.ofFn {f : Fn} {fd : FuncData} (hf : FnOk C f fd) : Keeps C (.ref f.a) := by
  obtain ⟨o, ho, hd⟩ := hf.look
  refine Keeps.fn ?_
  unfold keepIn
  obtain ⟨c, d, dt, sl⟩ := o
  simp only at hd; subst hd
  simp only [ho]
def WCall (C : Cx) (F : Fm) (g : Value) (vs : List AV) (st : St) (Q X : AV → St → Prop) : Prop :=
  ∀ (obs : Obs) (s : Shared) (vals : List Value) (Qs Es : Value → Shared → Prop), Rel C F obs st s → VRs s.heap (F.P obs) obs vs vals →
    (∀ b a st' obs' s', Q b st' → Rel C F obs' st' s' → VR s'.heap (F.P obs') obs' b a → Step F obs s obs' s' → Qs a s') →
    (∀ x e st' obs' s', X x st' → Rel C F obs' st' s' → ExIn C F obs' s s' x e → Step F obs s obs' s' → Es (.ref e) s') →
    wpAny C.M F.A (call g vals) Qs Es s
theorem evalArgs_row {M : Model} {A : Around} {E : Value → Shared → Prop} {s : Shared} {f : Value} {env : Env} {Qa : Args → Shared → Prop} : ∀ {es : List Expr}, wpAny M A (spliced (es.map fun e => (false, eval e env))) (fun vs s' => Qa ⟨vs, []⟩ s') E s →
    wpAny M A (evalArgs f true (es.map fun e => (false, eval e env)) []) Qa E s
  | [], h => fun Γ p hΓ => evalArgs_nil3 (show Qa ⟨[], []⟩ s from h Γ p hΓ) Γ p hΓ
  | e :: r, h => Calls.evalArgs_plain h
theorem WE_Call {func args pos} (h : WE C F func st (fun fv st1 => ∃ g, fv = .glob g ∧ Keeps C g ∧ WEs C F args st1 (fun vs st2 => WCall C F g vs st2 Q X) X) X)
    (he : eval (.Call func args [] pos) F.env = (do callWith pos (← eval func F.env) [] (backTo pos (starEach args F.env)) (backToKw pos (keywordEach [] F.env))) := by with_unfolding_all rfl)
    (hs : starEach args F.env = args.map fun e => (false, eval e F.env) := by with_unfolding_all rfl) : WE C F (.Call func args [] pos) st Q X := by
  intro obs s Qs Es r k1 k2
  rw [he]
  refine wpAny_bind (h obs s _ _ r (fun a u st1 o1 s1 q1 r1 y1 g1 => ?_) k2)
  obtain ⟨g, rfl, hk, q⟩ := q1
  cases y1
  rw [backTo_plain hs]
  refine callWith_of (P := fun h => C.K.In h) (by simp [keywordEach, backToKw]) hk (evalArgs_row (q o1 s1 _ _ r1 (fun vs ws st2 o2 s2 q2 r2 y2 g2 => ⟨r2.kin, ?_⟩) ?_))
  · exact q2 o2 s2 ws Qs Es r2 y2 (fun b a st' o' s' q r z g' => k1 b a st' o' s' q r z (g1.trans (g2.trans g'))) fun x e st' o' s' q r z g' => k2 x e st' o' s' q r (z.earlier (g1.trans g2).stands) (g1.trans (g2.trans g'))
  · exact fun x e st' o' s' q r z g => k2 x e st' o' s' q r (z.earlier g1.stands) (g1.trans g)
theorem WCall_fn {n : Nat} {a : Addr} {avs : List AV} (h : WFn C n a avs st.objs (fun v objs' => Q v { st with objs := objs' }) (fun x objs' => X x { st with objs := objs' })) (hd : n ≤ F.d) (hh : F.hd = none) : WCall C F (.ref a) avs st Q X := by
  intro obs s vals Qs Es r y k1 k2
  exact wpAny_call (h F st obs s vals _ hd hh rfl r y (fun b v objs' o' s' q r' z g => k1 b v _ o' s' q r' z g) fun x e objs' o' s' q r' z g => k2 x e _ o' s' q r' z g)
def MethOf (C : Cx) (F : Fm) (ov : AV) (name : Str) (st : St) (g : Value) : Prop :=
  ∀ (obs : Obs) (s : Shared) (v : Value) (pl : Sem Bool) (Qs : Value × List Value → Shared → Prop) (Es : Value → Shared → Prop), Rel C F obs st s → VR s.heap (F.P obs) obs ov v →
    (∀ s', Rel C F obs st s' → Step F obs s obs s' → Qs (g, [v]) s') → wpAny C.M F.A (getMethod v name pl) Qs Es s
theorem WE_Meth {o name apos args pos} {pl : Sem Bool} (h : WE C F o st (fun ov st1 => ∃ g, MethOf C F ov name st1 g ∧ Keeps C g ∧ WEs C F args st1 (fun vs st2 => WCall C F g (ov :: vs) st2 Q X) X) X)
    (he : eval (.Call (.Attribute o name apos) args [] pos) F.env = (do
      let ov ← eval o F.env
      standAt apos.atName
      let (f, first) ← holding [ov] (getMethod ov name pl)
      callWith pos f first (backTo pos (starEach args F.env)) (backToKw pos (keywordEach [] F.env))) := by with_unfolding_all rfl)
    (hs : starEach args F.env = args.map fun e => (false, eval e F.env) := by with_unfolding_all rfl) : WE C F (.Call (.Attribute o name apos) args [] pos) st Q X := by
  intro obs s Qs Es r k1 k2
  refine methodCall_KW (pl := pl) (h obs s _ _ r (fun ov v st1 o1 s1 q1 r1 y1 g1 => ?_) k2) he
  obtain ⟨g, hm, hk, q⟩ := q1
  refine hm o1 s1 v pl _ _ r1 y1 fun s2 r2 g2 => ?_
  rw [backTo_plain hs]
  refine callWith_of (P := fun h => C.K.In h) (by simp [keywordEach, backToKw]) hk (evalArgs_row (q o1 s2 _ _ r2 (fun vs ws st3 o3 s3 q3 r3 y3 g3 => ⟨r3.kin, ?_⟩) ?_))
  · exact q3 o3 s3 (v :: ws) Qs Es r3 (by simp only [VRs]; exact ⟨v, ws, rfl, (y1.step g2).step g3, y3⟩) (fun b a st' o' s' q r z g' => k1 b a st' o' s' q r z (g1.trans (g2.trans (g3.trans g')))) fun x e st' o' s' q r z g' => k2 x e st' o' s' q r (z.earlier (g1.trans (g2.trans g3)).stands) (g1.trans (g2.trans (g3.trans g')))
  · exact fun x e st' o' s' q r z g => k2 x e st' o' s' q r (z.earlier (g1.trans g2).stands) ((g1.trans g2).trans g)
end
end Mine
namespace Mine
theorem nsSetN {h : Heap} {a : Addr} {m : Str → Option Value} {n : Nat} (x : NsN h a m n) (name : Str) (v : Value) {M : Model} {A : Around} {E : Value → Shared → Prop} {Q : Unit → Shared → Prop} {s : Shared} (hs : s.heap = h)
    (hQ : ∀ h', NsN h' a (fun y => if y = name then some v else m y) (if (m name).isSome then n else n + 1) → Heap.SameBut a h h' → Q () { s with heap := h', toks := s.toks + 1 }) : wpAny M A (nsSet a name v) Q E s := by
  subst hs
  intro Γ p hΓ
  obtain ⟨o, es, ep, ho, hd, hk, hm, hz⟩ := x
  simp only [nsSet, strHash, Sem.wp_bind', Sem.wp_cmd_ask, Sem.wp_pure', Sem.wp_cmd_mkText]
  rw [Sem.wp_loadPart_of M Γ _ p { s with toks := s.toks + 1 } (o := o) _ ho]
  have hany : es.any (·.refKey) = false := by
    rw [Array.any_eq_false']; intro e he; obtain ⟨n, t, h⟩ := hk e he; simp [DictEntry.refKey, h]
  simp only [hd, aRefKeyMayBeTheName_eq, aRefKeyMayBeTheNameByArray, hany, Bool.and_false, Bool.false_eq_true, if_false, Sem.wp_cmd_updatePart]
  refine ⟨by rw [ho]; rfl, hQ _ ?_ (Heap.SameBut.update ..)⟩
  obtain ⟨c, d, dt, sl⟩ := o
  subst hd
  have hsome : (m name).isSome = (es.findIdx? (·.key.isStr name)).isSome := by
    rw [← hm name, Bool.eq_iff_iff]
    unfold nsFind findBy
    rw [Option.isSome_map, Array.find?_isSome, Array.findIdx?_isSome, Array.any_eq_true']
  cases hi : es.findIdx? (·.key.isStr name) with
  | some i =>
    rw [hsome, hi]
    refine ⟨_, _, ep, Heap.get?_update_self _ ho (by simp only [Obj.putName_eq, Obj.putNameByArray, hi]; rfl), by simp only [Obj.putName_eq, Obj.putNameByArray, hi]; rfl, hk.modify _ _, fun x => ?_, by simpa using hz⟩
    show _ = if x = name then some v else m x
    rw [← hm]; exact findBy_modify (fun n v => v.isStr n) Value.isStr_inj es name x v i hi
  | none =>
    rw [hsome, hi]
    refine ⟨_, _, ep + 1, Heap.get?_update_self _ ho (by simp only [Obj.putName_eq, Obj.putNameByArray, hi]; rfl), by simp only [Obj.putName_eq, Obj.putNameByArray, hi]; rfl, hk.push _ _ _ _, fun x => ?_, by simpa using hz⟩
    show _ = if x = name then some v else m x
    rw [← hm]
    exact findBy_push (fun n v => v.isStr n) es name x _ _ v (fun y => by
      show (name == y) = decide (y = name)
      by_cases h : y = name
      · subst h; simp
      · have : ¬ name = y := fun e => h e.symm
        simp [h, this]) hi
theorem lookIn_of {es : Array DictEntry} {ep : Nat} {o : Obj} {m : Str → Option Value} (hd : o.data = .dict es ep) (hk : StrKeys es) (hm : ∀ name, nsFind es name = m name) (name : Str) : lookIn name o = some (m name) := by
  unfold lookIn
  rw [hd, ← hm name]
  unfold nsFind findBy
  dsimp only
  rw [← Array.find?_toList]
  cases hf : es.toList.find? (·.key.isStr name) with
  | some e => rfl
  | none =>
    have : es.toList.any (·.refKey) = false := by
      rw [List.any_eq_false]; intro e he; obtain ⟨n, t, h⟩ := hk e (by simpa using he); simp [DictEntry.refKey, h]
    simp [this]
structure ClsOk (C : Cx) (c : Addr) (names : List Str) : Prop where
  ga : findIn C.K (.ref c) "__getattribute__" = some (some (.builtin "object.__getattribute__"))
  gt : findIn C.K (.ref c) "__getattr__" = some none
  sa : findIn C.K (.ref c) "__setattr__" = some (some (.builtin "object.__setattr__"))
  hd : hasDictIn C.K c = true
  po : plainOver C.K c = true
  nm : ∀ n ∈ names, findIn C.K (.ref c) n = some none
def AV.plain : AV → Bool
  | .glob _ => false
  | _ => true
theorem handed_of {h : Heap} {P : Addr → Prop} {obs : Obs} {av : AV} {v : Value} (hp : av.plain = true) (y : VR h P obs av v) : handedIn v = true := by
  cases av <;> simp only [VR] at y <;> first | exact y.elim | (cases y; rfl) | (obtain ⟨t, rfl⟩ := y; rfl) | (obtain ⟨a, ws, rfl, _⟩ := y; rfl) | (obtain ⟨p, _, rfl⟩ := y; rfl) | (obtain ⟨e, rfl, _⟩ := y; rfl) | cases hp
def HasAt (objs : List OB) (i : Nat) (c : Addr) (name : Str) (v : AV) : Prop := ∃ as, objs[i]? = some (c, as) ∧ (name, v) ∈ as
def SetAt (objs : List OB) (i : Nat) (c : Addr) (name : Str) (v : AV) (objs' : List OB) : Prop := ∃ as as', objs[i]? = some (c, as) ∧ Up as name v as' ∧ objs' = objs.set i (c, as')
theorem nb_up {l l' : List (Str × AV)} {x : Str} {v : AV} (u : Up l x v l') (hv : v.bound = true) : ∃ w, (x, w) ∈ l ∧ (w.bound = true → nb l' = nb l) ∧ (w.bound = false → nb l' = nb l + 1) := by
  induction u with
  | @head x w v l =>
    refine ⟨w, List.mem_cons_self, fun h => ?_, fun h => ?_⟩ <;> simp [nb, List.filter_cons, h, hv]
  | @tail x v p l l' u ih =>
    obtain ⟨w, h1, h2, h3⟩ := ih hv
    refine ⟨w, List.mem_cons_of_mem _ h1, fun h => ?_, fun h => ?_⟩
    · have := h2 h
      unfold nb at this ⊢
      simp only [List.filter_cons]
      split <;> simp [this]
    · have := h3 h
      unfold nb at this ⊢
      simp only [List.filter_cons]
      split <;> simp [this]
section
variable {C : Cx} {F : Fm} {st : St} {Q X : AV → St → Prop} {obs : Obs} {s : Shared}
theorem Rel.inst (r : Rel C F obs st s) {i : Nat} {c : Addr} {as : List (Str × AV)} (h : st.objs[i]? = some (c, as)) : ∃ p, obs[i]? = some p ∧ ObOk s.heap (F.P obs) obs p (c, as) := by
  have hi : i < obs.length := by rw [← r.len]; exact (List.getElem?_eq_some_iff.mp h).1
  exact ⟨obs[i], List.getElem?_eq_getElem hi, r.objs i _ _ (List.getElem?_eq_getElem hi) h⟩
theorem instAt_of {h : Heap} {P : Addr → Prop} {p : Addr × Addr} {o : OB} (k : ObOk h P obs p o) : ∃ oa od m, InstAt h p.1 oa o.1 (some od) ∧ oa.dict = some p.2 ∧ NsN h p.2 m (nb o.2) ∧ (∀ name, lookIn name od = some (m name)) ∧ h.get? p.2 = some od ∧
    (∀ q ∈ o.2, SlotR h P obs q.2 (m q.1)) ∧ (∀ x, x ∉ o.2.map (·.1) → m x = none) ∧ (o.2.map (·.1)).Nodup ∧ o.2.length ≤ 1000 := by
  obtain ⟨oa, m, z1, z2, z3, z4, z5, z6, z7, z8⟩ := k
  obtain ⟨od, es, ep, d1, d2, d3, d4, d5⟩ := id z5
  refine ⟨oa, od, m, ⟨z1, z2, by unfold notCls; rw [z4], ?_⟩, z3, z5, lookIn_of d2 d3 d4, d1, z6, z7, z8⟩
  rw [z3]; exact d1
abbrev WAttr (C : Cx) (F : Fm) (name : Str) (a : AV) (st : St) (Q X : AV → St → Prop) : Prop := W1 VR C F (fun o => getAttr o name true) a st Q X
theorem WE_Attribute {value attr pos} (h : WE C F value st (fun a st1 => WAttr C F attr a st1 Q X) X)
    (he : eval (.Attribute value attr pos) F.env = (do
      let o ← eval value F.env
      standAt pos.atName
      let r ← holding [o] (getAttr o attr true)
      letTemporaryGo value o r
      pure r) := by with_unfolding_all rfl) : WE C F (.Attribute value attr pos) st Q X := by
  intro obs s Qs Es r k1 k2
  refine Attribute_any_ (h obs s _ _ r (fun a u st1 o1 s1 q1 r1 y1 g1 => ?_) k2) he
  exact q1 o1 s1 u Qs Es r1 y1 (fun b a st' o' s' q r z g => k1 b a st' o' s' q r z (g1.trans g)) fun x e st' o' s' q r z g => k2 x e st' o' s' q r (z.earlier g1.stands) (g1.trans g)
theorem attr_obj {i : Nat} {c : Addr} {names : List Str} {name : Str} {v : AV} (hc : ClsOk C c names) (hn : name ∈ names) (hm : HasAt st.objs i c name v) (h : Q v st) (hb : v.bound = true := by with_unfolding_all rfl) (hp : v.plain = true := by with_unfolding_all rfl) :
    WAttr C F name (.obj i) st Q X := fun obs s u Qs Es r y k1 k2 => by
  obtain ⟨as, hi, hmem⟩ := hm
  obtain ⟨p, hp1, rfl⟩ := y
  obtain ⟨p', hp2, ok⟩ := r.inst hi
  rw [hp1] at hp2; cases hp2
  obtain ⟨oa, od, m, I, _, _, hl, _, hs, _, _⟩ := instAt_of ok
  obtain ⟨w, e, z⟩ := (hs _ hmem).get (AV.bound_ne hb)
  refine get_value r.kin I hc.ga (findObj_own hc.hd (hc.nm name hn) rfl ?_) (handed_of hp z) (k1 v w st obs _ h (r.tok _) z (Step.tok ..))
  rw [hl, e]
theorem meth_obj {i : Nat} {c f : Addr} {names : List Str} {name : Str} {as : List (Str × AV)} (hc : ClsOk C c names) (hi : st.objs[i]? = some (c, as)) (hn : name ∉ as.map (·.1)) (hf : findIn C.K (.ref c) name = some (some (.ref f))) (ht : typeIn C.K (.ref f) = some (.type "function")) :
    MethOf C F (.obj i) name st (.ref f) := fun obs s v pl Qs Es r y k => by
  obtain ⟨p, hp1, rfl⟩ := y
  obtain ⟨p', hp2, ok⟩ := r.inst hi
  rw [hp1] at hp2; cases hp2
  obtain ⟨oa, od, m, I, _, _, hl, _, hs, hno, _⟩ := instAt_of ok
  refine method_fn r.kin I hc.ga hc.gt hf ht ?_ (k s r (Step.refl ..))
  show (lookIn name od).map _ = _
  rw [hl, hno name hn]; rfl
theorem obA_nodup {obs : Obs} (h : (obA obs).Nodup) {i : Nat} {p : Addr × Addr} (e : obs[i]? = some p) : p.1 ≠ p.2 ∧ ∀ (j : Nat) q, obs[j]? = some q → j ≠ i → q.1 ≠ p.2 ∧ q.2 ≠ p.2 := by
  induction obs generalizing i with
  | nil => simp at e
  | cons a obs ih =>
    have hh : (a.1 :: a.2 :: obA obs).Nodup := h
    rw [List.nodup_cons, List.nodup_cons] at hh
    obtain ⟨h1, h2, h3⟩ := hh
    cases i with
    | zero =>
      simp at e; subst e
      refine ⟨fun z => h1 (z ▸ List.mem_cons_self), fun j q hq hj => ?_⟩
      cases j with
      | zero => exact (hj rfl).elim
      | succ j =>
        have := mem_obA_of (obs := obs) (i := j) (p := q) (by simpa using hq)
        exact ⟨fun z => h2 (z ▸ this.1), fun z => h2 (z ▸ this.2)⟩
    | succ i =>
      have e' : obs[i]? = some p := by simpa using e
      refine ⟨(ih h3 e').1, fun j q hq hj => ?_⟩
      cases j with
      | zero =>
        simp at hq; subst hq
        have := mem_obA_of e'
        exact ⟨fun z => h1 (List.mem_cons_of_mem _ (z ▸ this.2)), fun z => h2 (z ▸ this.2)⟩
      | succ j => exact (ih h3 e').2 j q (by simpa using hq) (by omega)
theorem Rel.setAttr (r : Rel C F obs st s) {i : Nat} {p : Addr × Addr} {c : Addr} {as as' : List (Str × AV)} {name : Str} {av : AV} {v : Value} (hp : obs[i]? = some p) (hi : st.objs[i]? = some (c, as)) (u : Up as name av as') (hb : av.bound = true)
    (hv : VR s.heap (F.P obs) obs av v) {h' : Heap} {m : Str → Option Value} (hm : NsN s.heap p.2 m (nb as)) (hz : ∀ q ∈ as, SlotR s.heap (F.P obs) obs q.2 (m q.1)) (hno : ∀ x, x ∉ as.map (·.1) → m x = none) (hnd : (as.map (·.1)).Nodup) (hlen : as.length ≤ 1000)
    (hn : NsN h' p.2 (fun y => if y = name then some v else m y) (if (m name).isSome then nb as else nb as + 1)) (hs : Heap.SameBut p.2 s.heap h') (t : Nat) :
    Rel C F obs { st with objs := st.objs.set i (c, as') } { s with heap := h', toks := t } ∧ Step F obs s obs { s with heap := h', toks := t } := by
  have inob := mem_obA_of hp
  have inP : F.P obs p.2 := List.mem_append_right _ (List.mem_cons_of_mem _ inob.2)
  have hL : C.b.heap.get? p.2 = none := r.new _ inP
  have keep : ∀ a, a ≠ p.2 → h'.get? a = s.heap.get? a := fun a h => hs.2 a h
  have kv : ∀ a, ¬ F.P obs a → KeptV s.heap h' a := fun a h => (KeptAt.of_eq (keep a fun e => h (e ▸ inP))).v
  have sr : ∀ {av v}, SlotR s.heap (F.P obs) obs av v → SlotR h' (F.P obs) obs av v := fun y => SlotR.mono kv (fun a h => .inl h) (fun _ _ e => e) y
  have vr : ∀ {av v}, VR s.heap (F.P obs) obs av v → VR h' (F.P obs) obs av v := fun y => VR.mono kv (fun a h => .inl h) (fun _ _ e => e) y
  have hnod := r.nod
  unfold Fm.all Fm.mine at hnod
  obtain ⟨_, hn2, hn3⟩ := List.nodup_append.mp hnod
  rw [List.nodup_cons] at hn2
  have hLl : F.env.locals ≠ p.2 := fun e => hn2.1 (e ▸ inob.2)
  obtain ⟨od', es', ep', e1', e2', _⟩ := id hn
  have alive : ∀ a o, s.heap.get? a = some o → ∃ o', h'.get? a = some o' := fun a o e => by
    by_cases h : a = p.2
    · subst h; exact ⟨_, e1'⟩
    · exact ⟨o, (keep a h).trans e⟩
  refine ⟨⟨r.cok, r.ok, fun b o e => ?_, r.gens, r.drawn, r.os, r.nod, r.new, fun a ha => ?_, ?_, ?_, r.gl, r.nodl, ?_, ?_⟩, ⟨fun a ha => KeptAt.of_eq (keep a fun e => ha (e ▸ List.mem_cons_of_mem _ inob.2)), ⟨[], by simp, by simp⟩, alive⟩⟩
  · refine (keep b fun z => ?_).trans (r.stay b o e)
    rw [z, hL] at e; cases e
  · obtain ⟨o, e⟩ := r.live a ha; exact alive a o e
  · refine frames_nf (fun b o e hd => ?_) r.fr
    by_cases h : b = p.2
    · subst h; exact ⟨od', e1', fun vs q => by rw [e2'] at q; cases q⟩
    · exact ⟨o, (keep b h).trans e, hd⟩
  · obtain ⟨m', n', z'⟩ := r.loc
    exact ⟨m', n'.sameBut hs hLl, fun q hq => ⟨(z' q hq).1, sr (z' q hq).2⟩⟩
  · show (st.objs.set i (c, as')).length = _; rw [List.length_set]; exact r.len
  · intro j q o h1 h2
    have hj2 : (st.objs.set i (c, as'))[j]? = some o := h2
    by_cases hj : j = i
    · subst hj
      rw [hp] at h1; cases h1
      rw [List.getElem?_set_self (List.getElem?_eq_some_iff.mp hi).1] at hj2; cases hj2
      obtain ⟨oa, m2, z1, z2, z3, z4, z5, z6, z7, z8⟩ := r.objs j p (c, as) hp hi
      have hne : p.1 ≠ p.2 := (obA_nodup hn2.2 hp).1
      obtain ⟨w, hw, hw1, hw2⟩ := nb_up u hb
      have hcount : (if (m name).isSome then nb as else nb as + 1) ≤ nb as' := by
        cases hwb : w.bound with
        | true =>
          obtain ⟨x, hx, _⟩ := (hz _ hw).get (AV.bound_ne hwb)
          simp only at hx
          rw [hx, hw1 hwb]; simp
        | false => rw [hw2 hwb]; split <;> omega
      obtain ⟨o1, es, ep, a1, a2, a3, a4, a5⟩ := hn
      refine ⟨oa, _, (keep _ hne).trans z1, z2, z3, z4, ⟨o1, es, ep, a1, a2, a3, a4, Nat.le_trans a5 hcount⟩, fun q hq => ?_, fun x hx => ?_, by show (as'.map _).Nodup; rw [u.names]; exact hnd, ?_⟩
      · rcases u.mem hnd hq with rfl | ⟨h1, h2⟩
        · simp only [if_true]; exact SlotR.of (vr hv)
        · simp only [if_neg h2]; exact sr (hz _ h1)
      · have hx' : x ∉ as.map (·.1) := by rw [← u.names]; exact hx
        have : x ≠ name := fun e => hx' (e ▸ u.mem_name)
        simp only [if_neg this]; exact hno x hx'
      · have : (as'.map (·.1)).length = (as.map (·.1)).length := by rw [u.names]
        simp only [List.length_map] at this
        show as'.length ≤ 1000; omega
    · rw [List.getElem?_set_ne (Ne.symm hj)] at hj2
      obtain ⟨oa, m2, z1, z2, z3, z4, z5, z6, z7⟩ := r.objs j q o h1 hj2
      have := (obA_nodup hn2.2 hp).2 j q h1 hj
      exact ⟨oa, m2, (keep _ this.1).trans z1, z2, z3, z4, z5.kept (KeptAt.of_eq (keep _ this.2)), fun x hx => sr (z6 x hx), z7⟩
theorem setAttr_obj {i : Nat} {c : Addr} {names : List Str} {name : Str} {av : AV} {v u : Value} {objs' : List OB} {Qs : Unit → Shared → Prop} {Es : Value → Shared → Prop} (r : Rel C F obs st s) (hc : ClsOk C c names) (hn : name ∈ names) (hm : SetAt st.objs i c name av objs') (hb : av.bound = true)
    (yu : VR s.heap (F.P obs) obs (.obj i) u) (yv : VR s.heap (F.P obs) obs av v) (k : ∀ s', Rel C F obs { st with objs := objs' } s' → Step F obs s obs s' → Qs () s') :
    wpAny C.M F.A (setAttr u name v) Qs Es s := by
  obtain ⟨as, as', hi, up, rfl⟩ := hm
  obtain ⟨p, hp1, rfl⟩ := yu
  obtain ⟨p', hp2, ok⟩ := r.inst hi
  rw [hp1] at hp2; cases hp2
  obtain ⟨oa, od, m, I, hdx, hns, hl, hod, hs, hno, hnd, hlen⟩ := instAt_of ok
  refine set_plain r.kin I hc.sa ?_
  have kin' : C.K.In ({ s with toks := s.toks + 1 } : Shared).heap := r.kin
  refine osa_open (s := { s with toks := s.toks + 1 }) kin' I hc.po (r := none) (by unfold takerIn; rw [hc.nm name hn]; rfl) fun b => ?_
  obtain ⟨cd, hcd, hcd'⟩ := any_some hc.hd
  obtain ⟨hx, hcl, hnc, -⟩ := I
  obtain ⟨oc, odi, oda, osl⟩ := oa
  dsimp only at hcl hdx
  subst hcl hdx
  refine wpAny_bind (wpAny_pure (wpAny_bind (wpAny_bind (wpAny_loadPart hx (wpAny_bind ((looks_clsIn kin' hcd).here ?_))))))
  rw [hcd']
  refine wpAny_pure (a := some p.2) (wpAny_bind (wpAny_pure (wpAny_bind ?_)))
  refine nsSetN (s := { s with toks := s.toks + 1 }) hns name v rfl fun h' hn' hsb => ?_
  obtain ⟨o1, es, ep, a1, a2, a3, a4, a5⟩ := id hn'
  have hbig : nb as ≤ as.length := List.length_filter_le _ _
  have hlen' : as.length ≤ 1000 := hlen
  obtain ⟨rr, gg⟩ := r.setAttr hp1 hi up hb yv hns hs hno hnd hlen hn' hsb (s.toks + 1 + 1)
  have hsz : es.size ≤ 1001 := by
    refine Nat.le_trans a5 (Nat.le_trans (m := nb as + 1) ?_ (Nat.succ_le_succ (Nat.le_trans hbig hlen')))
    split
    · exact Nat.le_succ _
    · exact Nat.le_refl _
  refine wpAny_bind (wpAny_lookBehind (o := o1) a1 (by rw [a2]; exact pastItsLine_dict (by rw [sizeLine_eq]; omega)) ?_)
  exact wpAny_pure (k _ rr gg)
end
end Mine
namespace Mine
section
variable {C : Cx} {F : Fm} {st : St} {X : AV → St → Prop} {obs : Obs} {s : Shared}
-- stores
theorem WS_AssignAttr {o attr pos' value pos} {Q : AFlow → St → Prop} {names : List Str}
    (h : WE C F value st (fun v st1 => WE C F o st1 (fun ov st2 => ∃ i c objs', ov = .obj i ∧ ClsOk C c names ∧ attr ∈ names ∧ v.bound = true ∧ SetAt st2.objs i c attr v objs' ∧ Q .next { st2 with objs := objs' }) X) X)
    (hs : swapsWith value (some (.Attribute o attr pos')) pos.line F.env = Pure.pure false := by with_unfolding_all rfl) : WS C F (.Assign [.Attribute o attr pos'] value pos) st Q X := by
  intro obs s Qs Es r k1 k2
  refine plainObj_wpAny_Assign_Attribute (h obs s _ _ r (fun v u st1 o1 s1 q1 r1 y1 g1 => q1 o1 s1 _ _ r1 (fun ov w st2 o2 s2 q2 r2 y2 g2 => ?_) ?_) k2) hs
  · obtain ⟨i, c, objs', rfl, hc, hn, hb, hm, q⟩ := q2
    exact setAttr_obj r2 hc hn hm hb y2 (y1.step g2) fun s3 r3 g3 => k1 .next _ _ o2 s3 q r3 rfl (g1.trans (g2.trans g3))
  · exact fun x e st' o' s' q r z g => k2 x e st' o' s' q r (z.earlier g1.stands) (g1.trans g)
theorem WS_AugName {x pos' op value pos v} {Q : AFlow → St → Prop} (hm : (x, v) ∈ st.loc)
    (h : WE C F value st (fun w st1 => W2 C F (inplaceOp op) v w st1 (fun n st2 => ∃ loc', Up st2.loc x n loc' ∧ Q .next { st2 with loc := loc' }) X) X) (hb : v.bound = true := by with_unfolding_all rfl) : WS C F (.AugAssign (.Name x pos') op value pos) st Q X := by
  intro obs s Qs Es r k1 k2
  obtain ⟨m, n, z⟩ := r.loc
  obtain ⟨⟨a, b⟩, c⟩ := z _ hm
  obtain ⟨u, e, y⟩ := c.get (AV.bound_ne hb)
  refine wpAny_AugAssign_Name (wpAny_loadName_local r.ok.kind a n e (h obs s _ _ r (fun w u' st1 o1 s1 q1 r1 y1 g1 => ?_) k2))
  refine q1 o1 s1 u u' _ _ r1 (y.step g1) y1 (fun nv u2 st2 o2 s2 q2 r2 y2 g2 => ?_) fun x e st' o' s' q r z g => k2 x e st' o' s' q r (z.earlier g1.stands) (g1.trans g)
  obtain ⟨loc', up, q⟩ := q2
  exact W_store r2 up y2 fun s3 r3 g3 => k1 .next _ _ o2 s3 q r3 rfl (g1.trans (g2.trans g3))
theorem WS_AugAttr {o attr tpos op value pos} {Q : AFlow → St → Prop} {names : List Str}
    (h : WE C F o st (fun ov st1 => WAttr C F attr ov st1 (fun old st2 => WE C F value st2 (fun w st3 => W2 C F (inplaceOp op) old w st3 (fun n st4 =>
      ∃ i c objs', ov = .obj i ∧ ClsOk C c names ∧ attr ∈ names ∧ n.bound = true ∧ SetAt st4.objs i c attr n objs' ∧ Q .next { st4 with objs := objs' }) X) X) X) X) : WS C F (.AugAssign (.Attribute o attr tpos) op value pos) st Q X := by
  intro obs s Qs Es r k1 k2
  refine wpAny_AugAssign_AttributeAny (h obs s _ _ r (fun ov u st1 o1 s1 q1 r1 y1 g1 => ?_) k2)
  refine q1 o1 s1 u _ _ r1 y1 (fun old u2 st2 o2 s2 q2 r2 y2 g2 => ?_) fun x e st' o' s' q r z g => k2 x e st' o' s' q r (z.earlier g1.stands) (g1.trans g)
  refine q2 o2 s2 _ _ r2 (fun w u3 st3 o3 s3 q3 r3 y3 g3 => ?_) fun x e st' o' s' q r z g => k2 x e st' o' s' q r (z.earlier (g1.trans g2).stands) ((g1.trans g2).trans g)
  refine q3 o3 s3 u2 u3 _ _ r3 (y2.step g3) y3 (fun n u4 st4 o4 s4 q4 r4 y4 g4 => ?_) fun x e st' o' s' q r z g => k2 x e st' o' s' q r (z.earlier (g1.trans (g2.trans g3)).stands) ((g1.trans (g2.trans g3)).trans g)
  obtain ⟨i, c, objs', rfl, hc, hn, hb, hm, q⟩ := q4
  exact setAttr_obj r4 hc hn hm hb (((y1.step g2).step g3).step g4) y4 fun s5 r5 g5 => k1 .next _ _ o4 s5 q r5 rfl (g1.trans (g2.trans (g3.trans (g4.trans g5))))
def AV.flat : AV → Bool
  | .none | .bool _ | .int _ | .str _ => true
  | _ => false
theorem WS_Expr {e pos} {Q : AFlow → St → Prop} (h : WE C F e st (fun v st1 => v.flat = true ∧ Q .next st1) X) (hs : swapsWith e none pos.line F.env = Pure.pure false := by with_unfolding_all rfl) : WS C F (.Expr e pos) st Q X := by
  intro obs s Qs Es r k1 k2
  refine wpAny_Expr (h obs s _ _ r (fun v u st1 o1 s1 q1 r1 y1 g1 => ?_) k2) (by unfold interactive; rw [r.ok.kind]; rfl) hs
  obtain ⟨hf, q⟩ := q1
  have fin := k1 .next _ st1 o1 s1 q r1 rfl g1
  cases v <;> simp only [VR] at y1 <;> first | (cases y1; exact fin) | (obtain ⟨t, rfl⟩ := y1; exact fin) | exact nomatch hf | exact y1.elim
-- while
def WW (C : Cx) (F : Fm) (test : Expr) (body : List Stmt) (st : St) (Q : AFlow → St → Prop) (X : AV → St → Prop) : Prop :=
  ∀ (obs : Obs) (s : Shared) (R : Result → Shared → Prop), Rel C F obs st s →
    (∀ b a st' obs' s', Q b st' → Rel C F obs' st' s' → FlowR s'.heap (F.P obs') obs' b a → Step F obs s obs' s' → R (.ok a) s') →
    (∀ x e st' obs' s', X x st' → Rel C F obs' st' s' → ExA C.b.heap (F.P obs') s.heap s'.heap x e (some (rawInt F.env.locals)) → Step F obs s obs' s' → R (.error (.ref e)) s') →
    codeAny C.M F.A (.whileLoop test body [] F.env) R s
theorem Noted.step {s₀ s s' : Shared} {obs₀ obs' : Obs} {x : AV} {e : Addr} {fl : Value} {st : St} (g : Step F obs₀ s₀ obs' s) (n : Noted C F obs' st s₀.heap s s' x e fl) : Step F obs₀ s₀ obs' s' :=
  ⟨fun a ha o q => ((g.ag a ha).trans (n.kept a o q)) o q, g.ext, fun a o q => let ⟨o', q'⟩ := g.stands a o q; n.stands a o' q'⟩
theorem noted_of {R : Result → Shared → Prop} {s₀ : Shared} {obs₀ : Obs}
    (k2 : ∀ x e st' obs' s', X x st' → Rel C F obs' st' s' → ExA C.b.heap (F.P obs') s₀.heap s'.heap x e (some (rawInt F.env.locals)) → Step F obs₀ s₀ obs' s' → R (.error (.ref e)) s') :
    ∀ x e st' obs' s', X x st' → Rel C F obs' st' s' → ExIn C F obs' s₀ s' x e → Step F obs₀ s₀ obs' s' → notedBy C.M F.A F.env (fun e s' => R (.error e) s') (.ref e) s' := by
  intro x e st' obs' s' q r z g
  obtain ⟨fl, ex, hfl⟩ := z
  exact note_ex r ex g.stands hfl fun s1 N => k2 x e st' obs' s1 q N.rel N.ex (N.step g)
theorem WW_turn {test body} {Q : AFlow → St → Prop} (h : WT C F test st (fun b st1 => br b (WSs C F body st1 (fun fl st2 => match fl with
      | .next | .cont => WW C F test body st2 Q X
      | .brk => Q .next st2
      | .ret v => Q (.ret v) st2) X) (Q .next st1)) X) : WW C F test body st Q X := by
  intro obs s R r k1 k2
  refine codeAny_of_tree ?_
  show wpAny _ F.A ((whileTurn test body [] F.env).onRaise (fun x => do noteFrame x F.env; theTreesLotGoes x)) _ _ s
  refine wpAny_noted ?_
  simp only [whileTurn]
  refine wpAny_bind (h obs s _ _ r (fun b u st1 o1 s1 q1 r1 y1 g1 => ?_) (noted_of k2))
  cases y1
  cases b with
  | false =>
    simp only [Bool.false_eq_true, if_false]
    exact wpAny_bind (wpAny_execs_nil (wpAny_pure (k1 .next _ st1 o1 s1 q1.get r1 rfl g1)))
  | true =>
    simp only [if_true]
    refine wpAny_bind (q1.get o1 s1 _ _ r1 (fun fl a st2 o2 s2 q2 r2 y2 g2 => ?_) ?_)
    · cases fl with
      | next =>
        cases y2
        refine wpAny_pure ⟨rfl, q2 o2 s2 R r2 (fun b a st' o' s' q r z g => k1 b a st' o' s' q r z (g1.trans (g2.trans g))) fun x e st' o' s' q r z g => k2 x e st' o' s' q r (z.earlier (g1.trans g2).stands) (g1.trans (g2.trans g))⟩
      | cont =>
        cases y2
        refine wpAny_pure ⟨rfl, q2 o2 s2 R r2 (fun b a st' o' s' q r z g => k1 b a st' o' s' q r z (g1.trans (g2.trans g))) fun x e st' o' s' q r z g => k2 x e st' o' s' q r (z.earlier (g1.trans g2).stands) (g1.trans (g2.trans g))⟩
      | brk => cases y2; exact wpAny_pure (k1 .next _ st2 o2 s2 q2 r2 rfl (g1.trans g2))
      | ret v => obtain ⟨w, rfl, z⟩ := y2; exact wpAny_pure (k1 (.ret v) _ st2 o2 s2 q2 r2 ⟨w, rfl, z⟩ (g1.trans g2))
    · exact noted_of (s₀ := s1) (obs₀ := o1) fun x e st' o' s' q r z g => k2 x e st' o' s' q r (z.earlier g1.stands) (g1.trans g)
theorem came_back {Es : Value → Shared → Prop} {s₀ : Shared} {obs₀ : Obs}
    (k2 : ∀ x e st' obs' s', X x st' → Rel C F obs' st' s' → ExIn C F obs' s₀ s' x e → Step F obs₀ s₀ obs' s' → Es (.ref e) s') :
    ∀ x e st' obs' s', X x st' → Rel C F obs' st' s' → ExA C.b.heap (F.P obs') s₀.heap s'.heap x e (some (rawInt F.env.locals)) → Step F obs₀ s₀ obs' s' → cameBackBy C.M F.A F.env Es (.ref e) s' := by
  intro x e st' obs' s' q r z g
  unfold cameBackBy
  obtain ⟨c, args, t, oe, vs, hd, rfl, hex, he, hdat, h0, h1, nPe, nPt, be, bt, ne, nte, T, oT, ts, rfl, rest⟩ := id z
  refine wpAny_bind (wpAny_field he hdat h1 ?_)
  rw [if_neg (show ¬ ((Value.ref T == Value.none) = true) from Bool.false_ne_true)]
  refine flight_ex r z fun s1 N => k2 _ e st' obs' s1 q N.rel ⟨_, N.ex, .inr (.inr ?_)⟩ (N.step g)
  rw [r.ok.frame]; rfl
theorem WS_While {test body pos} {Q : AFlow → St → Prop} (h : WW C F test body st Q X) : WS C F (.While test body [] pos) st Q X := by
  intro obs s Qs Es r k1 k2
  exact wpAny_While (h obs s _ r (fun b a st' o' s' q r' y g => k1 b a st' o' s' q r' y g) (came_back k2))
end
end Mine
namespace Mine
def Fm.plus (F : Fm) (a : Addr) : Fm := { F with forb := a :: F.forb }
inductive ItOk (h : Heap) (P : Addr → Prop) (obs : Obs) (it : Addr) : List AV → Prop
  | list {l : Addr} {i : Nat} {vs : List Value} {as : List AV} : h.IsListIter it l i → ¬ P l → l ≠ it → TupL h l "list" vs → VRs h P obs as vs → ItOk h P obs it (as.drop i)
section
variable {C : Cx} {F : Fm} {st : St} {X : AV → St → Prop} {obs obs' : Obs} {s s' : Shared} {it : Addr}
theorem plus_P {a : Addr} : (F.plus it).P obs a ↔ a = it ∨ F.P obs a := by
  show a ∈ (it :: F.forb) ++ F.mine obs ↔ _
  rw [List.cons_append, List.mem_cons]; rfl
theorem Rel.forbid (r : Rel C F obs st s) (o : Obj) (ho : o.isFreed = false) : Rel C (F.plus s.heap.objs.size) obs st { s with heap := s.heap.push o } := by
  have r' := r.push o
  have nf := r.fresh
  have hnone : s.heap.get? s.heap.objs.size = none := by
    cases q : s.heap.get? s.heap.objs.size with
    | none => rfl
    | some o => exact absurd (Heap.lt_size q) (Nat.lt_irrefl _)
  have bnone : C.b.heap.get? s.heap.objs.size = none := by
    cases q : C.b.heap.get? s.heap.objs.size with
    | none => rfl
    | some o => have := r.stay _ _ q; rw [hnone] at this; cases this
  have kp : ∀ a, KeptAt s.heap (s.heap.push o) a := fun a => KeptAt.of_push o
  have hp : ∀ a, (F.plus s.heap.objs.size).P obs a → F.P obs a ∨ s.heap.get? a = none := fun a h => by
    rcases plus_P.mp h with h | h
    · exact .inr (h ▸ hnone)
    · exact .inl h
  refine ⟨r.cok, ⟨r.ok.kind, r.ok.globals, r.ok.builtins, r.ok.frame, r.ok.frames, r.ok.handled, r.ok.depth, r.ok.units⟩, r'.stay, r.gens, r.drawn, r.os, ?_, ?_, ?_, r'.fr, ?_, r.gl, r.nodl, r.len, ?_⟩
  · show (s.heap.objs.size :: F.all obs).Nodup
    rw [List.nodup_cons]; exact ⟨nf, r.nod⟩
  · intro a ha
    rcases plus_P.mp ha with h | h
    · exact h ▸ bnone
    · exact r.new a h
  · intro a ha
    rcases plus_P.mp ha with h | h
    · exact ⟨o, h ▸ Heap.get?_push_size _ ho⟩
    · exact r'.live a h
  · obtain ⟨m, n, z⟩ := r.loc
    exact ⟨m, n.push o, fun p hp' => ⟨(z p hp').1, (z p hp').2.mono (fun a _ => (kp a).v) hp fun _ _ e => e⟩⟩
  · intro i p ob h1 h2
    obtain ⟨oa, m, z1, z2, z3, z4, z5, z6, z7⟩ := r.objs i p ob h1 h2
    exact ⟨oa, m, Heap.get?_push_of_some _ z1, z2, z3, z4, z5.kept (kp _), fun q hq => (z6 q hq).mono (fun a _ => (kp a).v) hp fun _ _ e => e, z7⟩
def HeldOk (h h' : Heap) (it : Addr) : Prop := (∃ oi vs, h.get? it = some oi ∧ oi.data = .fields vs) ∨ (∃ oi, h'.get? it = some oi ∧ ∀ vs, oi.data ≠ .fields vs)
theorem Rel.heldGo' (r : Rel C (F.plus it) obs st s) {h' : Heap} (k : ∀ b o, b ≠ it → s.heap.get? b = some o → h'.get? b = some o) (hit : HeldOk s.heap h' it) (t : Nat) : Rel C F obs st { s with heap := h', toks := t } := by
  have nit : ∀ a, F.P obs a → a ≠ it := fun a h e => by
    have := r.nod
    have h2 : (it :: F.all obs).Nodup := this
    rw [List.nodup_cons] at h2
    exact h2.1 (e ▸ h)
  have kv : ∀ a, ¬ (F.plus it).P obs a → KeptV s.heap h' a := fun a h => KeptAt.v fun o e => ⟨o.slots, k a o (fun z => h (plus_P.mpr (.inl z))) e⟩
  have hp : ∀ a, F.P obs a → (F.plus it).P obs a ∨ s.heap.get? a = none := fun a h => .inl (plus_P.mpr (.inr h))
  have bit : C.b.heap.get? it = none := r.new _ (plus_P.mpr (.inl rfl))
  refine ⟨r.cok, ⟨r.ok.kind, r.ok.globals, r.ok.builtins, r.ok.frame, r.ok.frames, r.ok.handled, r.ok.depth, r.ok.units⟩, fun b o e => k b o (fun z => by rw [z, bit] at e; cases e) (r.stay b o e), r.gens, r.drawn, r.os, ?_, fun a ha => r.new a (plus_P.mpr (.inr ha)), ?_, ?_, ?_, r.gl, r.nodl, r.len, ?_⟩
  · have h2 : (it :: F.all obs).Nodup := r.nod
    exact (List.nodup_cons.mp h2).2
  · intro a ha
    obtain ⟨o, e⟩ := r.live a (plus_P.mpr (.inr ha))
    exact ⟨o, k a o (nit a ha) e⟩
  · refine frames_nf (fun b o e hd => ?_) r.fr
    by_cases z : b = it
    · rcases hit with ⟨oi, vi, gi, di⟩ | ⟨oi, gi, di⟩
      · rw [z, gi] at e; cases e; exact (hd vi di).elim
      · exact ⟨oi, z ▸ gi, di⟩
    · exact ⟨o, k b o z e, hd⟩
  · obtain ⟨m, n, z⟩ := r.loc
    refine ⟨m, ?_, fun p hp' => ⟨(z p hp').1, (z p hp').2.mono kv hp fun _ _ e => e⟩⟩
    obtain ⟨o, es, ep, e, d, rest⟩ := n
    exact ⟨o, es, ep, k _ o (nit _ (List.mem_append_right _ List.mem_cons_self)) e, d, rest⟩
  · intro i p ob h1 h2
    obtain ⟨oa, m, z1, z2, z3, z4, z5, z6, z7⟩ := r.objs i p ob h1 h2
    have i1 := nit p.1 (List.mem_append_right _ (List.mem_cons_of_mem _ (mem_obA_of h1).1))
    have i2 := nit p.2 (List.mem_append_right _ (List.mem_cons_of_mem _ (mem_obA_of h1).2))
    exact ⟨oa, m, k _ _ i1 z1, z2, z3, z4, z5.kept (fun o e => ⟨o.slots, k _ o i2 e⟩), fun q hq => (z6 q hq).mono kv hp fun _ _ e => e, z7⟩
theorem Rel.heldGo (r : Rel C (F.plus it) obs st s) {h' : Heap} (k : ∀ b o, b ≠ it → s.heap.get? b = some o → h'.get? b = some o) (hit : ∃ oi vs, s.heap.get? it = some oi ∧ oi.data = .fields vs) (t : Nat) : Rel C F obs st { s with heap := h', toks := t } := r.heldGo' k (.inl hit) t
theorem Rel.heldTurn' (r : Rel C (F.plus it) obs st s) {h' : Heap} (hs : Heap.SameBut it s.heap h') (hit : HeldOk s.heap h' it) (hit' : ∃ oi, h'.get? it = some oi) : Rel C (F.plus it) obs st { s with heap := h' } := by
  have nit : ∀ a, F.P obs a → a ≠ it := fun a h e => by
    have h2 : (it :: F.all obs).Nodup := r.nod
    rw [List.nodup_cons] at h2
    exact h2.1 (e ▸ h)
  have k : ∀ b, b ≠ it → h'.get? b = s.heap.get? b := fun b hb => hs.2 b hb
  have kv : ∀ a, ¬ (F.plus it).P obs a → KeptV s.heap h' a := fun a h => (KeptAt.of_eq (k a fun z => h (plus_P.mpr (.inl z)))).v
  have bit : C.b.heap.get? it = none := r.new _ (plus_P.mpr (.inl rfl))
  refine ⟨r.cok, r.ok, fun b o e => (k b fun z => by rw [z, bit] at e; cases e).trans (r.stay b o e), r.gens, r.drawn, r.os, r.nod, r.new, ?_, ?_, ?_, r.gl, r.nodl, r.len, ?_⟩
  · intro a ha
    rcases plus_P.mp ha with h | h
    · exact h ▸ hit'
    · obtain ⟨o, e⟩ := r.live a ha
      exact ⟨o, (k a (nit a h)).trans e⟩
  · refine frames_nf (fun b o e hd => ?_) r.fr
    by_cases z : b = it
    · rcases hit with ⟨oi, vi, gi, di⟩ | ⟨oi, gi, di⟩
      · rw [z, gi] at e; cases e; exact (hd vi di).elim
      · exact ⟨oi, z ▸ gi, di⟩
    · exact ⟨o, (k b z).trans e, hd⟩
  · obtain ⟨m, n, z⟩ := r.loc
    exact ⟨m, n.sameBut hs (nit _ (List.mem_append_right _ List.mem_cons_self)), fun p hp' => ⟨(z p hp').1, (z p hp').2.mono kv (fun a h => .inl h) fun _ _ e => e⟩⟩
  · intro i p ob h1 h2
    obtain ⟨oa, m, z1, z2, z3, z4, z5, z6, z7⟩ := r.objs i p ob h1 h2
    have i1 := nit p.1 (List.mem_append_right _ (List.mem_cons_of_mem _ (mem_obA_of h1).1))
    have i2 := nit p.2 (List.mem_append_right _ (List.mem_cons_of_mem _ (mem_obA_of h1).2))
    exact ⟨oa, m, (k _ i1).trans z1, z2, z3, z4, z5.kept (KeptAt.of_eq (k _ i2)), fun q hq => (z6 q hq).mono kv (fun a h => .inl h) fun _ _ e => e, z7⟩
theorem Rel.heldTurn (r : Rel C (F.plus it) obs st s) {h' : Heap} (hs : Heap.SameBut it s.heap h') (hit : ∃ oi vs, s.heap.get? it = some oi ∧ oi.data = .fields vs) (hit' : ∃ oi, h'.get? it = some oi) : Rel C (F.plus it) obs st { s with heap := h' } := r.heldTurn' hs (.inl hit) hit'
theorem Rel.unforbid (r : Rel C (F.plus it) obs st s) (hit : ∃ oi vs, s.heap.get? it = some oi ∧ oi.data = .fields vs) : Rel C F obs st s := r.heldGo (h' := s.heap) (fun _ _ _ e => e) hit s.toks
structure StepB (F : Fm) (it : Addr) (obs : Obs) (s : Shared) (obs' : Obs) (s' : Shared) : Prop where
  ag : ∀ a, a ∉ F.mine obs → a ≠ it → KeptAt s.heap s'.heap a
  ext : ∃ more, obs' = obs ++ more ∧ ∀ p ∈ more, s.heap.get? p.1 = none ∧ s.heap.get? p.2 = none
  stands : ∀ a o, a ≠ it → s.heap.get? a = some o → ∃ o', s'.heap.get? a = some o'
theorem Step.b (g : Step F obs s obs' s') : StepB F it obs s obs' s' := ⟨fun a h _ => g.ag a h, g.ext, fun a o _ e => g.stands a o e⟩
theorem StepB.same {h' : Heap} (k : ∀ b o, b ≠ it → s.heap.get? b = some o → h'.get? b = some o) (t : Nat) : StepB F it obs s obs { s with heap := h', toks := t } :=
  ⟨fun a _ h o e => ⟨o.slots, k a o h e⟩, ⟨[], by simp, by simp⟩, fun a o h e => ⟨o, k a o h e⟩⟩
theorem StepB.mine (x : StepB F it obs s obs' s') {a : Addr} (ha : a ∈ F.mine obs') : a ∈ F.mine obs ∨ s.heap.get? a = none := by
  obtain ⟨more, rfl, hm⟩ := x.ext
  rcases List.mem_cons.mp ha with h | h
  · exact .inl (List.mem_cons.mpr (.inl h))
  · obtain ⟨p, hp, e⟩ := mem_obA.mp h
    rcases List.mem_append.mp hp with hp | hp
    · exact .inl (List.mem_cons_of_mem _ (mem_obA.mpr ⟨p, hp, e⟩))
    · rcases e with e | e
      · exact .inr (e ▸ (hm p hp).1)
      · exact .inr (e ▸ (hm p hp).2)
theorem StepB.trans {o1 o2 o3 : Obs} {s1 s2 s3 : Shared} (x : StepB F it o1 s1 o2 s2) (y : StepB F it o2 s2 o3 s3) (hit : ∃ o, s2.heap.get? it = some o) : StepB F it o1 s1 o3 s3 := by
  refine ⟨fun a ha hn o e => ?_, ?_, fun a o hn e => let ⟨o', e'⟩ := x.stands a o hn e; y.stands a o' hn e'⟩
  · obtain ⟨sl, e2⟩ := x.ag a ha hn o e
    by_cases h2 : a ∈ F.mine o2
    · rcases x.mine h2 with z | z
      · exact (ha z).elim
      · rw [e] at z; cases z
    · obtain ⟨sl', e3⟩ := y.ag a h2 hn _ e2
      exact ⟨sl', e3⟩
  · obtain ⟨m1, rfl, h1⟩ := x.ext
    obtain ⟨m2, rfl, h2⟩ := y.ext
    refine ⟨m1 ++ m2, by rw [List.append_assoc], fun p hp => ?_⟩
    rcases List.mem_append.mp hp with hp | hp
    · exact h1 p hp
    · have := h2 p hp
      have back : ∀ a, s2.heap.get? a = none → s1.heap.get? a = none := fun a z => by
        cases q : s1.heap.get? a with
        | none => rfl
        | some o =>
          by_cases hn : a = it
          · obtain ⟨o', w⟩ := hit; rw [← hn, z] at w; cases w
          · obtain ⟨o', w⟩ := x.stands a o hn q; rw [z] at w; cases w
      exact ⟨back _ this.1, back _ this.2⟩
theorem StepB.after {o1 o2 o3 : Obs} {s1 s2 s3 : Shared} (x : Step F o1 s1 o2 s2) (y : StepB F it o2 s2 o3 s3) (hit : s1.heap.get? it = none) : Step F o1 s1 o3 s3 := by
  have ne : ∀ a o, s1.heap.get? a = some o → a ≠ it := fun a o e z => by rw [z, hit] at e; cases e
  refine ⟨fun a ha o e => ?_, ?_, fun a o e => let ⟨o', e'⟩ := x.stands a o e; y.stands a o' (ne a o e) e'⟩
  · obtain ⟨sl, e2⟩ := x.ag a ha o e
    by_cases h2 : a ∈ F.mine o2
    · rcases x.mine h2 with z | z
      · exact (ha z).elim
      · rw [e] at z; cases z
    · obtain ⟨sl', e3⟩ := y.ag a h2 (ne a o e) _ e2
      exact ⟨sl', e3⟩
  · obtain ⟨m1, rfl, h1⟩ := x.ext
    obtain ⟨m2, rfl, h2⟩ := y.ext
    refine ⟨m1 ++ m2, by rw [List.append_assoc], fun p hp => ?_⟩
    rcases List.mem_append.mp hp with hp | hp
    · exact h1 p hp
    · have := h2 p hp
      have back : ∀ a, s2.heap.get? a = none → s1.heap.get? a = none := fun a z => by
        cases q : s1.heap.get? a with
        | none => rfl
        | some o => obtain ⟨o', w⟩ := x.stands a o q; rw [z] at w; cases w
      exact ⟨back _ this.1, back _ this.2⟩
theorem ItOk.fields {h : Heap} {P : Addr → Prop} {items : List AV} (x : ItOk h P obs it items) : ∃ oi vs, h.get? it = some oi ∧ oi.data = .fields vs := by
  cases x with
  | list a _ _ _ _ => obtain ⟨o, ho, hc, hd⟩ := a; exact ⟨o, _, ho, hd⟩
theorem ItOk.step {items : List AV} (x : ItOk s.heap ((F.plus it).P obs) obs it items) (g : Step (F.plus it) obs s obs' s') (hm : it ∉ F.mine obs) : ItOk s'.heap ((F.plus it).P obs') obs' it items := by
  cases x with
  | @list l i vs as a b c d e =>
    obtain ⟨o, ho, hc, hd⟩ := a
    obtain ⟨sl, ho'⟩ := g.ag it hm o ho
    refine .list ⟨_, ho', hc, hd⟩ (fun z => ?_) c (d.kept (g.nP l b).v) (e.step g)
    rcases g.P l z with z | z
    · exact b z
    · obtain ⟨o, q⟩ := d.there; rw [z] at q; cases q
theorem ItOk.next {a : AV} {items : List AV} {Qs : Option Value → Shared → Prop} {Es : Value → Shared → Prop} (r : Rel C (F.plus it) obs st s) (x : ItOk s.heap ((F.plus it).P obs) obs it (a :: items))
    (k : ∀ v s', Rel C (F.plus it) obs st s' → ItOk s'.heap ((F.plus it).P obs) obs it items → VR s'.heap ((F.plus it).P obs) obs a v → StepB F it obs s obs s' → Qs (some v) s') : wpAny C.M F.A (pyNext (.ref it)) Qs Es s := by
  have hf := x.fields
  generalize hl : a :: items = l0 at x
  cases x with
  | @list l i vs as y1 y2 y3 y4 y5 =>
    have hi : as[i]? = some a := by
      have := congrArg List.head? hl
      rw [List.head?_drop] at this; exact this.symm
    have hrest : items = as.drop (i + 1) := by
      have := congrArg List.tail hl
      rw [List.tail_drop] at this; exact this
    obtain ⟨v, hv, z⟩ := y5.get hi
    refine wpAny_pyNext_list_item y1 y4.isList (by simpa using hv) fun h' hit' hs => ?_
    have hsl : h'.get? l = s.heap.get? l := hs.2 l y3
    have kv : ∀ b, ¬ (F.plus it).P obs b → KeptV s.heap h' b := fun b hb => (KeptAt.of_eq (hs.2 b fun q => hb (plus_P.mpr (.inl q)))).v
    obtain ⟨oi, hoi, _⟩ := id hit'
    refine k v _ (r.heldTurn hs hf ⟨oi, hoi⟩) (hrest ▸ .list hit' y2 y3 (y4.kept (kv l y2)) (VRs.mono kv (fun b hb => .inl hb) (fun _ _ e => e) y5)) (VR.mono kv (fun b hb => .inl hb) (fun _ _ e => e) z) (StepB.same (fun b o hb e => (hs.2 b hb).trans e) s.toks)
theorem ItOk.stop {Qs : Option Value → Shared → Prop} {Es : Value → Shared → Prop} (r : Rel C (F.plus it) obs st s) (hh : F.hd = none) (x : ItOk s.heap ((F.plus it).P obs) obs it [])
    (k : ∀ s', Rel C F obs st s' → StepB F it obs s obs s' → Qs none s') : wpAny C.M F.A (pyNext (.ref it)) Qs Es s := by
  have hf := x.fields
  generalize hl : ([] : List AV) = l0 at x
  cases x with
  | @list l i vs as y1 y2 y3 y4 y5 =>
    have hi : as.length ≤ i := List.drop_eq_nil_iff.mp hl.symm
    have hn : vs[i]? = none := by rw [List.getElem?_eq_none_iff, y5.length]; exact hi
    refine wpAny_pyNext_list_end (r.ok.handled.trans hh) y1 y4.isList (by simpa using hn) fun h' hx => ?_
    exact k _ (r.heldGo (fun b o hb e => hx b o hb e) hf s.toks) (StepB.same (fun b o hb e => hx b o hb e) s.toks)
end
end Mine
namespace Mine
section
variable {C : Cx} {F : Fm} {st : St} {X : AV → St → Prop} {obs obs' : Obs} {s s' : Shared} {it : Addr}
def Asg (C : Cx) (F : Fm) (target : Expr) (a : AV) (st : St) (K : St → Prop) (X : AV → St → Prop) : Prop :=
  ∀ (obs : Obs) (s : Shared) (v : Value) (Qs : Unit → Shared → Prop) (Es : Value → Shared → Prop), Rel C F obs st s → VR s.heap (F.P obs) obs a v →
    (∀ st' obs' s', K st' → Rel C F obs' st' s' → Step F obs s obs' s' → Qs () s') →
    (∀ x e st' obs' s', X x st' → Rel C F obs' st' s' → ExIn C F obs' s s' x e → Step F obs s obs' s' → Es (.ref e) s') →
    wpAny C.M F.A (assign target F.env v) Qs Es s
theorem Asg_name {x pos a} {K : St → Prop} {loc' : List (Str × AV)} (u : Up st.loc x a loc') (h : K { st with loc := loc' }) : Asg C F (.Name x pos) a st K X := by
  intro obs s v Qs Es r y k1 k2
  exact wpAny_assign_Name (W_store r u y fun s' r' g => k1 _ obs s' h r' g)
def WFor (C : Cx) (F : Fm) (target : Expr) (body : List Stmt) (items : List AV) (st : St) (Q : AFlow → St → Prop) (X : AV → St → Prop) : Prop :=
  ∀ (obs : Obs) (s : Shared) (it : Addr) (R : Result → Shared → Prop), Rel C (F.plus it) obs st s → ItOk s.heap ((F.plus it).P obs) obs it items →
    (∀ b a st' obs' s', Q b st' → Rel C F obs' st' s' → FlowR s'.heap (F.P obs') obs' b a → StepB F it obs s obs' s' → R (.ok a) s') →
    (∀ x e st' obs' s', X x st' → Rel C F obs' st' s' → ExA C.b.heap (F.P obs') s.heap s'.heap x e (some (rawInt F.env.locals)) → StepB F it obs s obs' s' → R (.error (.ref e)) s') →
    codeAny C.M F.A (.forLoop target (.ref it) body [] F.env) R s
theorem letGo_ok {items : List AV} {h : Heap} {P : Addr → Prop} {target : Expr} {v : Value} {Qs : Unit → Shared → Prop} {Es : Value → Shared → Prop} {M : Model} {A : Around} (x : ItOk s.heap P obs it items) (k : Qs () s) : wpAny M A (letOwnedTupleGo target (.ref it) v) Qs Es s := by
  unfold letOwnedTupleGo
  have main : wpAny M A (do
    let (.ref r, .ref a) := (Value.ref it, v) | return
    let o ← load r
    match o.cls, o.data with
    | .type n, .fields vs =>
      if ["enumerate", "zip", "dict_itemiterator", "dict_reverseitemiterator", "odict_iterator", "itertools.zip_longest", "itertools.pairwise"].contains n && vs[0]? == some (rawInt a) then
        rule "for.unpacks-the-owned-tuple"
        updateField r 0 .none
    | _, _ => pure () : Sem Unit) Qs Es s := by
    cases v with
    | ref a =>
      cases x with
      | list y1 _ _ _ _ =>
        obtain ⟨o, ho, hc, hd⟩ := y1
        refine wpAny_bind (wpAny_load ho ?_)
        obtain ⟨c, d, dt, sl⟩ := o
        simp only at hc hd; subst hc hd
        exact wpAny_pure k
    | _ => exact wpAny_pure k
  cases target <;> first | exact main | exact wpAny_pure k
theorem fresh_mine (r : Rel C (F.plus it) obs st s) : it ∉ F.mine obs := fun h => by
  have h2 : (it :: F.all obs).Nodup := r.nod
  rw [List.nodup_cons] at h2
  exact h2.1 (List.mem_append_right _ h)
theorem stepB_of (g : Step (F.plus it) obs s obs' s') : StepB F it obs s obs' s' := ⟨fun a h _ => g.ag a h, g.ext, fun a o _ e => g.stands a o e⟩
theorem exA_of {x : AV} {e : Addr} {fl : Option Value} {h₀ h : Heap} (y : ExA C.b.heap ((F.plus it).P obs) h₀ h x e fl) : ExA C.b.heap (F.P obs) h₀ h x e fl := y.weaken fun a z => plus_P.mpr (.inr z)
theorem flowR_of {fl : AFlow} {f : Flow} {h : Heap} (y : FlowR h ((F.plus it).P obs) obs fl f) : FlowR h (F.P obs) obs fl f := by
  cases fl with
  | ret v => obtain ⟨w, e, z⟩ := y; exact ⟨w, e, VR.mono (fun a _ => (KeptAt.refl _ a).v) (fun a z => .inl (plus_P.mpr (.inr z))) (fun _ _ e => e) z⟩
  | _ => exact y
theorem WFor_nil {target body} {Q : AFlow → St → Prop} (hh : F.hd = none) (h : Q .next st) : WFor C F target body [] st Q X := by
  intro obs s it R r x k1 k2
  refine codeAny_of_tree ?_
  show wpAny _ F.A ((forTurn target (.ref it) body [] F.env).onRaise (fun x => do noteFrame x F.env; theTreesLotGoes x)) _ _ s
  refine wpAny_noted ?_
  simp only [forTurn]
  refine wpAny_bind (wpAny_standAt (wpAny_bind (wpAny_onRaise (ItOk.stop r hh x fun s1 r1 g1 => ?_))))
  exact wpAny_pure ⟨rfl, codeAny_block (wpAny_execs_nil (k1 .next _ st obs s1 h r1 rfl g1))⟩
theorem WFor_cons {target body a items} {Q : AFlow → St → Prop} (h : ∀ F' : Fm, F'.d = F.d → F'.hd = F.hd → Asg C F' target a st (fun st1 => WSs C F' body st1 (fun fl st2 => match fl with
      | .next | .cont => WFor C F target body items st2 Q X
      | .brk => Q .next st2
      | .ret v => Q (.ret v) st2) X) X) : WFor C F target body (a :: items) st Q X := by
  intro obs s it R r x k1 k2
  have hx := h (F.plus it) rfl rfl
  have hmine := fresh_mine r
  -- an exception within a turn
  have exc : ∀ (s1 : Shared), (∃ o, s1.heap.get? it = some o) → StepB F it obs s obs s1 → ∀ x e st' obs' s', X x st' → Rel C (F.plus it) obs' st' s' → ExIn C (F.plus it) obs' s1 s' x e → Step (F.plus it) obs s1 obs' s' → (∃ oi vs, s'.heap.get? it = some oi ∧ oi.data = .fields vs) →
      notedBy C.M F.A F.env (fun e s' => R (.error e) s') (.ref e) s' := by
    intro s1 hit1 g1 x e st' o' s' q r' z g hf
    obtain ⟨fl, ex, hfl⟩ := z
    refine note_ex (F := F.plus it) r' ex g.stands hfl fun s2 N => ?_
    have hit0 : ∃ o, s.heap.get? it = some o := by obtain ⟨o, _, e, _⟩ := ItOk.fields ‹_›; exact ⟨o, e⟩
    obtain ⟨oi, vi, gi, di⟩ := hf
    have hgi : ∃ oi vs, s2.heap.get? it = some oi ∧ oi.data = .fields vs := by
      obtain ⟨o1, e1⟩ := hit1
      obtain ⟨sl, e2⟩ := N.kept it o1 e1 oi gi
      exact ⟨_, vi, e2, di⟩
    have st12 : ∀ a o, s.heap.get? a = some o → ∃ o', s1.heap.get? a = some o' := fun a o e => by
      by_cases hn : a = it
      · exact hn ▸ hit1
      · exact g1.stands a o hn e
    exact k2 x e st' o' s2 q (N.rel.unforbid hgi) (exA_of (N.ex.earlier st12)) (g1.trans (stepB_of (N.step g)) hit1)
  refine codeAny_of_tree ?_
  show wpAny _ F.A ((forTurn target (.ref it) body [] F.env).onRaise (fun x => do noteFrame x F.env; theTreesLotGoes x)) _ _ s
  refine wpAny_noted ?_
  simp only [forTurn]
  refine wpAny_bind (wpAny_standAt (wpAny_bind (wpAny_onRaise (ItOk.next r x fun v s1 r1 x1 y1 g1 => ?_))))
  have hit1 : ∃ o, s1.heap.get? it = some o := by obtain ⟨o, _, e, _⟩ := x1.fields; exact ⟨o, e⟩
  refine wpAny_bind (letGo_ok (h := s1.heap) x1 ?_)
  refine wpAny_bind (hx obs s1 v _ _ r1 y1 (fun st2 o2 s2 q2 r2 g2 => ?_) ?_)
  · have x2 := x1.step g2 hmine
    have hm2 := fresh_mine r2
    refine wpAny_bind (q2 o2 s2 _ _ r2 (fun fl f st3 o3 s3 q3 r3 y3 g3 => ?_) ?_)
    · have x3 := x2.step g3 hm2
      have hit3 : ∃ o, s3.heap.get? it = some o := by obtain ⟨o, _, e, _⟩ := x3.fields; exact ⟨o, e⟩
      have g13 : StepB F it obs s o3 s3 := g1.trans (stepB_of (g2.trans g3)) hit1
      have st13 : ∀ a o, s.heap.get? a = some o → ∃ o', s3.heap.get? a = some o' := fun a o e => by
        by_cases hn : a = it
        · exact hn ▸ hit3
        · exact g13.stands a o hn e
      have again : WFor C F target body items st3 Q X → codeAny C.M F.A (.forLoop target (.ref it) body [] F.env) R s3 := fun w =>
        w o3 s3 it R r3 x3 (fun b a st' o' s' q r z g => k1 b a st' o' s' q r z (g13.trans g hit3)) fun x e st' o' s' q r z g => k2 x e st' o' s' q r (z.earlier st13) (g13.trans g hit3)
      cases fl with
      | next => cases y3; exact wpAny_pure ⟨rfl, again q3⟩
      | cont => cases y3; exact wpAny_pure ⟨rfl, again q3⟩
      | brk => cases y3; exact wpAny_pure (k1 .next _ st3 o3 s3 q3 (r3.unforbid x3.fields) rfl g13)
      | ret w =>
        have y4 := flowR_of y3
        obtain ⟨u, rfl, z⟩ := y4
        exact wpAny_pure (k1 (.ret w) _ st3 o3 s3 q3 (r3.unforbid x3.fields) ⟨u, rfl, z⟩ g13)
    · intro xx e st' o' s' q r' z g
      have x3 := x2.step g hm2
      have g' := g2.trans g
      exact exc s1 hit1 g1 xx e st' o' s' q r' (z.earlier g2.stands) g' x3.fields
  · intro xx e st' o' s' q r' z g
    have x3 := x1.step g hmine
    exact exc s1 hit1 g1 xx e st' o' s' q r' z g x3.fields
theorem WS_For {target iter body pos} {Q : AFlow → St → Prop} (h : WE C F iter st (fun a st1 => ∃ items, a = .lst items ∧ WFor C F target body items st1 Q X) X)
    (hs : ∀ x, foldedSetIterable iter F.env x = Pure.pure x := by intro _; rfl) : WS C F (.For target iter body [] pos) st Q X := by
  intro obs s Qs Es r k1 k2
  refine wpAny_For (h obs s _ _ r (fun a u st1 o1 s1 q1 r1 y1 g1 => ?_) k2) hs
  obtain ⟨items, rfl, w⟩ := q1
  simp only [VR] at y1
  obtain ⟨l, vs, rfl, nl, tl, yl⟩ := y1
  refine wpAny_pyIter_list tl.isList ?_
  have hnone : s1.heap.get? s1.heap.objs.size = none := by
    cases q : s1.heap.get? s1.heap.objs.size with
    | none => rfl
    | some o => exact absurd (Heap.lt_size q) (Nat.lt_irrefl _)
  have r2 := r1.forbid { cls := .type "list_iterator", data := .fields #[.ref l, .int 0 0] } rfl
  have hlt : l ≠ s1.heap.objs.size := fun e => by obtain ⟨o, q⟩ := tl.there; rw [e, hnone] at q; cases q
  have hp : ∀ a, (F.plus s1.heap.objs.size).P o1 a → F.P o1 a ∨ s1.heap.get? a = none := fun a h => by
    rcases plus_P.mp h with h | h
    · exact .inr (h ▸ hnone)
    · exact .inl h
  have kp : ∀ a, KeptAt s1.heap (s1.heap.push { cls := .type "list_iterator", data := .fields #[.ref l, .int 0 0] }) a := fun a => KeptAt.of_push _
  have i2 : ItOk (s1.heap.push { cls := .type "list_iterator", data := .fields #[.ref l, .int 0 0] }) ((F.plus s1.heap.objs.size).P o1) o1 s1.heap.objs.size items := by
    have := ItOk.list (it := s1.heap.objs.size) (P := (F.plus s1.heap.objs.size).P o1) (obs := o1) (h := s1.heap.push { cls := .type "list_iterator", data := .fields #[.ref l, .int 0 0] }) (l := l) (i := 0) ⟨_, Heap.get?_push_size _ rfl, rfl, rfl⟩ (fun z => by
      rcases hp l z with z | z
      · exact nl z
      · obtain ⟨o, q⟩ := tl.there; rw [z] at q; cases q) hlt (tl.kept (kp l).v) (VRs.mono (fun a _ => (kp a).v) hp (fun _ _ e => e) yl)
    simpa using this
  have hnone0 : s.heap.get? s1.heap.objs.size = none := by
    cases q : s.heap.get? s1.heap.objs.size with
    | none => rfl
    | some o => obtain ⟨o', z⟩ := g1.stands _ o q; rw [hnone] at z; cases z
  have gp : Step F obs s o1 { s1 with heap := s1.heap.push { cls := .type "list_iterator", data := .fields #[.ref l, .int 0 0] } } := g1.trans (Step.push ..)
  refine w o1 _ s1.heap.objs.size _ r2 i2 (fun b a st' o' s' q r z g => k1 b a st' o' s' q r z (StepB.after gp g hnone0)) fun x e st' o' s' q r z g => ?_
  exact came_back k2 x e st' o' s' q r (z.earlier gp.stands) (StepB.after gp g hnone0)
end
end Mine
namespace Mine
inductive Dl {α : Type} : List (Str × α) → Str → List (Str × α) → Prop
  | head {x w l} : Dl ((x, w) :: l) x l
  | tail {x p l l'} : Dl l x l' → Dl (p :: l) x (p :: l')
theorem Dl.sub {α : Type} {l l' : List (Str × α)} {x : Str} (d : Dl l x l') : l'.Sublist l := by
  induction d with
  | head => exact List.sublist_cons_self _ _
  | tail _ ih => exact List.Sublist.cons_cons _ ih
theorem Dl.ne {α : Type} {l l' : List (Str × α)} {x : Str} (d : Dl l x l') (nd : (l.map (·.1)).Nodup) {p : Str × α} (hp : p ∈ l') : p.1 ≠ x := by
  induction d with
  | @head x w l =>
    simp only [List.map_cons, List.nodup_cons] at nd
    exact fun e => nd.1 (e ▸ List.mem_map_of_mem hp)
  | @tail x q l l' d ih =>
    simp only [List.map_cons, List.nodup_cons] at nd
    rcases List.mem_cons.mp hp with rfl | hp
    · intro e
      have : x ∈ l.map (·.1) := by
        clear ih hp nd
        induction d with
        | head => simp
        | tail _ ih => simp only [List.map_cons, List.mem_cons]; exact .inr (ih e)
      exact nd.1 (e ▸ this)
    · exact ih nd.2 hp
theorem Dl.old {α : Type} {l l' : List (Str × α)} {x : Str} (d : Dl l x l') : ∃ w, (x, w) ∈ l := by
  induction d with
  | head => exact ⟨_, List.mem_cons_self⟩
  | tail _ ih => obtain ⟨w, h⟩ := ih; exact ⟨w, List.mem_cons_of_mem _ h⟩
theorem Up.new {α : Type} {l l' : List (Str × α)} {x : Str} {v : α} (u : Up l x v l') : (x, v) ∈ l' := by
  induction u with
  | head => exact List.mem_cons_self
  | tail _ ih => exact List.mem_cons_of_mem _ ih
def Fm.marked (F : Fm) (v : Value) : Fm := { F with A := F.A.mark (some v), hd := some v }
section
variable {C : Cx} {F : Fm} {st : St} {X : AV → St → Prop} {obs obs' : Obs} {s s' : Shared}
theorem Rel.mark (r : Rel C F obs st s) (v : Value) : Rel C (F.marked v) obs st s :=
  ⟨r.cok, ⟨r.ok.kind, r.ok.globals, r.ok.builtins, r.ok.frame, r.ok.frames, rfl, r.ok.depth, r.ok.units⟩, r.stay, r.gens, r.drawn, r.os, r.nod, r.new, r.live, r.fr, r.loc, r.gl, r.nodl, r.len, r.objs⟩
theorem Rel.unmark {v : Value} (hok : F.Ok) (r : Rel C (F.marked v) obs st s) : Rel C F obs st s :=
  ⟨r.cok, hok, r.stay, r.gens, r.drawn, r.os, r.nod, r.new, r.live, r.fr, r.loc, r.gl, r.nodl, r.len, r.objs⟩
theorem Step.unmark {v : Value} (g : Step (F.marked v) obs s obs' s') : Step F obs s obs' s' := ⟨g.ag, g.ext, g.stands⟩
theorem Rel.del (r : Rel C F obs st s) {x : Str} {loc' : List (Str × AV)} (d : Dl st.loc x loc') {h' : Heap} {m : Str → Option Value} {u : Option Value}
    (hm : s.heap.Ns F.env.locals m) (hz : ∀ p ∈ st.loc, NmOk F .local p.1 ∧ SlotR s.heap (F.P obs) obs p.2 (m p.1))
    (hn : h'.Ns F.env.locals (fun y => if y = x then u else m y)) (hs : Heap.SameBut F.env.locals s.heap h') (t : Nat) :
    Rel C F obs { st with loc := loc' } { s with heap := h', toks := t } := by
  obtain ⟨nf, nob⟩ := nodup_tail r.nod
  have hL : C.b.heap.get? F.env.locals = none := r.new _ (List.mem_append_right _ List.mem_cons_self)
  have keep : ∀ a, a ≠ F.env.locals → h'.get? a = s.heap.get? a := fun a h => hs.2 a h
  have kv : ∀ a, ¬ F.P obs a → KeptV s.heap h' a := fun a h => (KeptAt.of_eq (keep a fun e => h (List.mem_append_right _ (e ▸ List.mem_cons_self)))).v
  have sr : ∀ {av v}, SlotR s.heap (F.P obs) obs av v → SlotR h' (F.P obs) obs av v := fun y => SlotR.mono kv (fun a h => .inl h) (fun _ _ e => e) y
  refine ⟨r.cok, r.ok, fun b o e => ?_, r.gens, r.drawn, r.os, r.nod, r.new, fun a ha => ?_, ?_, ⟨_, hn, fun p hp => ?_⟩, r.gl, ?_, r.len, ?_⟩
  · refine (keep b fun z => ?_).trans (r.stay b o e)
    rw [z, hL] at e; cases e
  · by_cases h : a = F.env.locals
    · subst h; obtain ⟨o, e, _⟩ := ns_nf hn; exact ⟨o, e⟩
    · obtain ⟨o, e⟩ := r.live a ha; exact ⟨o, (keep a h).trans e⟩
  · refine frames_nf (fun b o e hd => ?_) r.fr
    by_cases h : b = F.env.locals
    · subst h; exact ns_nf hn
    · exact ⟨o, (keep b h).trans e, hd⟩
  · have hne := d.ne r.nodl hp
    simp only [if_neg hne]
    have hin := d.sub.subset hp
    exact ⟨(hz _ hin).1, sr (hz _ hin).2⟩
  · exact (r.nodl.sublist (d.sub.map _))
  · intro i p o h1 h2
    obtain ⟨oa, m', z1, z2, z3, z4, z5, z6, z7⟩ := r.objs i p o h1 h2
    have n1 : p.1 ≠ F.env.locals := fun e => nob (e ▸ (mem_obA_of h1).1)
    have n2 : p.2 ≠ F.env.locals := fun e => nob (e ▸ (mem_obA_of h1).2)
    exact ⟨oa, m', (keep _ n1).trans z1, z2, z3, z4, z5.kept (KeptAt.of_eq (hs.2 _ n2)), fun q hq => sr (z6 q hq), z7⟩
structure Catches (c T : String) : Prop where
  hexc : isSubtype (.type T) (.type "BaseException") = Pure.pure true
  hnt : isSubtype (.type ((Manifest.find? T).elim "type" fun x => x.metatype)) (.type "tuple") = Pure.pure false
  hsub : isSubtype (.type c) (.type T) = Pure.pure true
theorem WS_Try {body : List Stmt} {t : Expr} {n : Str} {b₀ : Stmt} {suite : List Stmt} {pos' pos : Pos} {Q : AFlow → St → Prop}
    (h : WSs C F body st Q (fun x st1 => ∃ c args T, x = .exc c args ∧ Catches c T ∧ ∀ F' : Fm, F'.d = F.d → WE C F' t st1 (fun v st2 => v = .glob (.type T) ∧ ∃ loc', Up st2.loc n x loc' ∧
        WSs C F' (b₀ :: suite) { st2 with loc := loc' } (fun fl st3 => ∃ loc3 loc4, Up st3.loc n .none loc3 ∧ Dl loc3 n loc4 ∧ Q fl { st3 with loc := loc4 }) (fun _ _ => False)) (fun _ _ => False))) :
    WS C F (.Try body [.ExceptHandler (some t) (some n) (b₀ :: suite) pos'] [] [] pos) st Q X := by
  intro obs s Qs Es r k1 k2
  refine wpAny_Try_except (h obs s _ _ r (fun fl f st1 o1 s1 q1 r1 y1 g1 => ?_) fun x e st1 o1 s1 q1 r1 z1 g1 => ?_)
  · cases fl with
    | next => cases y1; exact wpAny_execs_nil (k1 .next _ st1 o1 s1 q1 r1 rfl g1)
    | brk => cases y1; exact k1 .brk _ st1 o1 s1 q1 r1 rfl g1
    | cont => cases y1; exact k1 .cont _ st1 o1 s1 q1 r1 rfl g1
    | ret v => obtain ⟨w, rfl, z⟩ := y1; exact k1 (.ret v) _ st1 o1 s1 q1 r1 ⟨w, rfl, z⟩ g1
  · obtain ⟨c, args, T, rfl, hcat, hw⟩ := q1
    obtain ⟨fl, ex, hfl⟩ := z1
    refine note_ex r1 ex g1.stands hfl fun s2 N2 => ?_
    refine flight_ex (fr := none) N2.rel N2.ex fun s3 N3 => ?_
    have g3 : Step F obs s o1 s3 := N3.step (N2.step g1)
    have hw' := hw (F.marked (.ref e)) rfl
    refine wpAny_handleBy_builtin_as (X := c) (T := T) (b := true) hcat.hexc hcat.hnt hcat.hsub ?_
    refine hw' o1 s3 _ _ (N3.rel.mark _) (fun v u st4 o4 s4 q4 r4 y4 g4 => ?_) fun x e st' o' s' q r z g => q.elim
    obtain ⟨rfl, loc', up, q4⟩ := q4
    cases y4
    have rel4 : Rel C F o4 st4 s4 := r4.unmark r.ok
    have g04 : Step F obs s o4 s4 := g3.trans g4.unmark
    -- the exception still stands
    have ex3 := N3.ex
    obtain ⟨c', args', tt, oe, vs, hd, heq, hex, he, hdat, h0, h1, nPe, nPt, be, bt, ne, nte, TT, oT, ts, rfl, nTe, nTt, nTP, bT, n0T, gT, dT, fT⟩ := id ex3
    cases heq
    have kp4 : ∀ a, ¬ F.P o1 a → KeptAt s3.heap s4.heap a := fun a ha => g4.unmark.nP a ha
    have nP4 : ∀ a, ¬ F.P o1 a → (∃ o, s3.heap.get? a = some o) → ¬ F.P o4 a := fun a ha ⟨o, q⟩ z => by
      rcases g4.unmark.P a z with z | z
      · exact ha z
      · rw [q] at z; cases z
    have ex4 : ExA C.b.heap (F.P o4) s.heap s4.heap (.exc c args) e (some Value.none) := by
      obtain ⟨sl, he4⟩ := kp4 e nPe oe he
      obtain ⟨slT, hT4⟩ := kp4 TT nTP oT gT
      have tin : ∃ o, s3.heap.get? tt = some o := by obtain ⟨_, ws, ht, _⟩ := hex; exact ht.there
      exact ⟨c, args, tt, _, vs, .ref TT, rfl, hex.kept (kp4 e nPe).v (kp4 tt nPt).v, he4, hdat, h0, h1, nP4 e nPe ⟨oe, he⟩, nP4 tt nPt tin, be, bt, ne, nte, TT, _, ts, rfl, nTe, nTt, nP4 TT nTP ⟨oT, gT⟩, bT, n0T, hT4, dT, fT⟩
    refine ⟨rfl, ?_, ?_⟩
    · obtain ⟨sl, he4⟩ := kp4 e nPe oe he
      obtain ⟨⟨oe', vs', he', hc', _⟩, _⟩ := hex
      rw [he] at he'; cases he'
      exact ⟨_, he4, hc'⟩
    · simp only [if_true]
      refine flight_ex (fr := none) (A := F.A.mark (some (.ref e))) rel4 ex4 fun s5 N5 => ?_
      have g05 : Step F obs s o4 s5 := N5.step g04
      obtain ⟨c5, args5, t5, oe5, vs5, hd5, heq5, hex5, he5, hdat5, h05, h15, nPe5, nPt5, _⟩ := N5.ex
      cases heq5
      have vrE : VR s5.heap ((F.marked (.ref e)).P o4) o4 (.exc c args) (.ref e) := by simp only [VR]; exact ⟨e, t5, rfl, nPe5, nPt5, hex5⟩
      refine W_store (F := F.marked (.ref e)) (N5.rel.mark (.ref e)) up vrE fun s6 r6 g6 => ?_
      refine q4 o4 s6 _ _ r6 (fun fl f st7 o7 s7 q7 r7 y7 g7 => ?_) fun x e st' o' s' q r z g => q.elim
      obtain ⟨loc3, loc4, up3, dl, q⟩ := q7
      have rel7 : Rel C F o7 st7 s7 := r7.unmark r.ok
      have g07 : Step F obs s o7 s7 := g05.trans ((g6.trans g7).unmark)
      refine wpAny_bind (wpAny_bindName ?_)
      refine W_store (F := F) rel7 up3 (av := .none) (v := Value.none) rfl fun s8 r8 g8 => ?_
      unfold unbindBehindTheSuite
      refine wpAny_onRaise ?_
      obtain ⟨m, hns, hz⟩ := r8.loc
      have hin : (n, AV.none) ∈ loc3 := up3.new
      obtain ⟨⟨hk1, _⟩, hsl⟩ := hz _ hin
      obtain ⟨w, hw1, _⟩ := hsl.get (by intro z; cases z)
      refine wpAny_unbindName_local hk1 hns hw1 (by rw [r.ok.kind]; rfl) fun h' u hn' hs' => ?_
      have r9 := r8.del dl hns hz hn' hs' s8.toks
      have g9 : Step F o7 s8 o7 { s8 with heap := h', toks := s8.toks } := Step.store (let ⟨o, e, _⟩ := ns_nf hns; ⟨o, e⟩) hn' hs' _
      have g79 : Step F o7 s7 o7 { s8 with heap := h', toks := s8.toks } := g8.trans g9
      refine k1 fl f _ o7 _ q r9 ?_ (g07.trans g79)
      cases fl with
      | ret v => obtain ⟨w, e1, z⟩ := y7; exact ⟨w, e1, VR.step (F := F) g79 z⟩
      | _ => exact y7
end
end Mine
namespace Mine
section
variable {C : Cx} {F : Fm} {st : St} {Q X : AV → St → Prop} {obs obs' : Obs} {s s' : Shared}
-- raising
theorem Rel.made (r : Rel C F obs st s) {h' : Heap} {e : Addr} {cls : String} {vs : List Value} {args : List Str} (hx : Heap.MadeExc s.heap h' e cls vs) (hv : StrsAre vs args) (t : Nat) :
    Rel C F obs st { s with heap := h', toks := t } ∧ ExIn C F obs s { s with heap := h', toks := t } (.exc cls args) e ∧ Step F obs s obs { s with heap := h', toks := t } := by
  obtain ⟨tt, he, hn, ht⟩ := hx.there
  have nP : ∀ a, s.heap.get? a = none → ¬ F.P obs a := fun a h z => by obtain ⟨o, q⟩ := r.live a z; rw [h] at q; cases q
  have nb : ∀ a, s.heap.get? a = none → C.b.heap.get? a = none := fun a h => by
    cases q : C.b.heap.get? a with
    | none => rfl
    | some o => have := r.stay a o q; rw [h] at this; cases this
  have nte : tt ≠ e := fun z => by rw [z, he] at ht; cases ht
  refine ⟨r.keep hx.keeps t, ⟨none, ⟨cls, args, tt, _, _, .none, rfl, ⟨⟨_, _, he, rfl, rfl, rfl⟩, vs, ⟨_, 0, ht, rfl, rfl⟩, hv⟩, he, rfl, rfl, rfl, nP e hx.new, nP tt hn, nb e hx.new, nb tt hn, hx.new, nte, rfl⟩, .inl rfl⟩, Step.keep F obs s hx.keeps t⟩
theorem WS_Raise1 {cls newId initId : String} (FC : ExcCallFacts cls newId initId) (FR : ExcRaiseFacts cls) {x np cpos pos e} {Qf : AFlow → St → Prop} (hh : F.hd = none)
    (h : WE C F (.Name x np) st (fun fv st1 => fv = .glob (.type cls) ∧ WE C F e st1 (fun v st2 => ∃ m, v = .str m ∧ X (.exc cls [m]) st2) X) X)
    (he : starEach [e] F.env = (false, eval e F.env) :: starEach [] F.env := by with_unfolding_all rfl) : WS C F (.Raise (some (.Call (.Name x np) [e] [] cpos)) none pos) st Qf X := by
  intro obs s Qs Es r k1 k2
  refine Raise_madeB FC FR (r.ok.handled.trans hh) (h obs s _ _ r (fun fv u st1 o1 s1 q1 r1 y1 g1 => ?_) k2) he
  obtain ⟨rfl, q⟩ := q1
  cases y1
  refine ⟨rfl, ?_⟩
  rw [he]
  refine Calls.spliced_cons (q o1 s1 _ _ r1 (fun v w st2 o2 s2 q2 r2 y2 g2 => Calls.spliced_nil ?_) fun x e st' o' s' q r z g => k2 x e st' o' s' q r (z.earlier g1.stands) (g1.trans g))
  obtain ⟨m, rfl, hx⟩ := q2
  obtain ⟨t, rfl⟩ := y2
  refine ⟨by rw [sizeLine_eq]; show 1 ≤ _; omega, fun h' e hm => ?_⟩
  obtain ⟨a1, a2, a3⟩ := r2.made hm (args := [m]) ⟨⟨t, rfl⟩, trivial⟩ s2.toks
  exact k2 _ e st2 o2 _ hx a1 (a2.earlier (g1.trans g2).stands) ((g1.trans g2).trans a3)
theorem WS_RaiseStop {x np pos} {Qf : AFlow → St → Prop} (hh : F.hd = none) (hm : (x, Value.type "StopIteration") ∈ st.gl) (h : X (.exc "StopIteration" []) st) : WS C F (.Raise (some (.Name x np)) none pos) st Qf X := by
  intro obs s Qs Es r k1 k2
  refine owsi_raiseC (r.ok.handled.trans hh) ?_ fun h' e hx => ?_
  · obtain ⟨⟨a, b⟩, c⟩ := r.gl _ hm
    have hg : s.heap.Ns F.env.globals C.mg := by rw [r.ok.globals]; exact r.cok.g.keeps r.stay
    have hbn : s.heap.Ns F.env.builtins C.mb := by rw [r.ok.builtins]; exact r.cok.bn.keeps r.stay
    rcases c with c | ⟨c, c'⟩
    · exact Calls.Name_function_global r.ok.kind a (Calls.loadGlobal_global hg c ⟨rfl, rfl⟩) b
    · exact Calls.Name_function_global r.ok.kind a (Calls.loadGlobal_builtin hg c hbn c' ⟨rfl, rfl⟩) b
  · obtain ⟨a1, a2, a3⟩ := r.made hx (args := []) trivial s.toks
    exact k2 _ e st obs _ h a1 a2 a3
theorem catches_VE : Catches "ValueError" "ValueError" := ⟨PySem.F.isExc_ValueError, PySem.F.notTuple_ValueError, PySem.F.self_ValueError⟩
-- built-ins
theorem call_len_str {x : Str} (hz : x.length ≤ 1000000) (h : Q (.int x.length) st) : WCall C F (.builtin "len") [.str x] st Q X := fun obs s vals Qs Es r y k1 k2 => by
  simp only [VRs, VR] at y
  obtain ⟨v, r', rfl, ⟨t, rfl⟩, rfl⟩ := y
  exact len_str (by omega) (k1 _ _ st obs _ h (r.tok _) ⟨_, rfl⟩ (Step.tok ..))
theorem call_chr {i : Int} (h0 : 0 ≤ i) (h1 : i ≤ 1114111) (h : Q (.str ⟨#[i.toNat]⟩) st) : WCall C F (.builtin "chr") [.int i] st Q X := fun obs s vals Qs Es r y k1 k2 => by
  simp only [VRs, VR] at y
  obtain ⟨v, r', rfl, ⟨t, rfl⟩, rfl⟩ := y
  exact chr_of_range h0 h1 (k1 _ _ st obs _ h (r.tok _) ⟨_, rfl⟩ (Step.tok ..))
theorem call_int_int' {i : Int} (h : Q (.int i) st) : WCall C F (.type "int") [.int i] st Q X := fun obs s vals Qs Es r y k1 k2 => by
  simp only [VRs, VR] at y
  obtain ⟨v, r', rfl, ⟨t, rfl⟩, rfl⟩ := y
  exact call_int_int (k1 _ _ st obs _ h r ⟨_, rfl⟩ (Step.refl ..))
theorem call_str_exc {m : Str} (h : Q (.str m) st) : WCall C F (.type "str") [.exc "ValueError" [m]] st Q X := fun obs s vals Qs Es r y k1 k2 => by
  simp only [VRs, VR] at y
  obtain ⟨v, r', rfl, ⟨e, t, rfl, ne, nt, ⟨oe, vs, he, hc, hd, h0⟩, ws, ht, hw⟩, rfl⟩ := y
  cases ws with
  | nil => exact hw.elim
  | cons w ws =>
    cases ws with
    | cons _ _ => exact hw.2.elim
    | nil =>
      obtain ⟨⟨tk, rfl⟩, _⟩ := hw
      obtain ⟨ot, k, g1, g2, g3⟩ := ht
      refine P.str_of_exc_one PySem.F.excStr_ValueError (by have := r.ok.units; show _ < 9900; omega) ⟨oe, vs, he, hc, hd, h0⟩ ⟨ot, k, g1, g2, g3⟩ (k1 _ _ st obs _ h r ⟨_, rfl⟩ (Step.refl ..))
theorem cmp_isnot_type {a b : String} (h : Q (.bool (!(Value.type a == Value.type b))) st) : W2 C F (compareOp .IsNot) (.glob (.type a)) (.glob (.type b)) st Q X := fun obs s u v Qs Es r y z k1 k2 => by
  cases y; cases z
  exact isnot_type (k1 _ _ st obs _ h r rfl (Step.refl ..))
theorem call_isi_str {x : Str} (h : Q (.bool true) st) : WCall C F (.builtin "isinstance") [.str x, .glob (.type "str")] st Q X := fun obs s vals Qs Es r y k1 k2 => by
  simp only [VRs, VR] at y
  obtain ⟨v, r', rfl, ⟨t, rfl⟩, v2, r2, rfl, rfl, rfl⟩ := y
  exact IsiPair.str_str (k1 _ _ st obs _ h r rfl (Step.refl ..))
end
end Mine
namespace Mine
theorem dq_mro : mroOf (.type "collections.deque") = pure [.type "collections.deque", .type "object"] := by rw [mroOf_type]; kernel_rfl
theorem dq_lookup_new : typeLookup (.type "collections.deque") "__new__" = pure (some (.builtin "collections.deque.__new__")) := by rw [typeLookup_type, builtinLookup_eq_fast]; kernel_rfl
theorem dq_slot_init : Slot "collections.deque" "__init__" "collections.deque.__init__" :=
  .of (owner := "collections.deque") (n := "__init__") (by rw [typeLookup_type, builtinLookup_eq_fast]; kernel_rfl) (by decide +kernel) (by decide +kernel) (by decide +kernel)
    (by first | exact .inl (by decide +kernel) | exact .inr (by decide +kernel)) (by rw [isSubtype_type]; kernel_rfl)
theorem dq_called : TypeCalled "collections.deque" "collections.deque.__new__" "collections.deque.__init__" :=
  ⟨by decide +kernel, by decide +kernel, ⟨_, _, dq_mro⟩, madeBy_type dq_mro dq_lookup_new (by decide +kernel), by decide +kernel, by rw [isSubtype_type]; kernel_rfl, dq_slot_init⟩
theorem dq_typeCall : checkTypeCall "collections.deque" ⟨[], []⟩ = pure () := by kernel_rfl
theorem dq_newCall : checkBuiltinCall "collections.deque.__new__" ⟨[.type "collections.deque"], []⟩ = pure () := by kernel_rfl
theorem dq_entry_new : entryFor table "collections.deque.__new__" = some Builtin.«collections.deque.__new__» := entryFor_of_tree (by kernel_rfl)
theorem dq_entry_init : entryFor table "collections.deque.__init__" = some Builtin.«collections.deque.__init__» := entryFor_of_tree (by kernel_rfl)
theorem dq_plain_new : plainId "collections.deque.__new__" = true := by decide +kernel
theorem dq_sub : isSubtype (.type "collections.deque") (.type "collections.deque") = pure true := by rw [isSubtype_type]; kernel_rfl
theorem dq_args_init (a : Value) : argsOk "collections.deque.__init__" ⟨[a], []⟩ := by unfold argsOk; kernel_rfl
section
variable {prog : Program} {w : World} {A : Around} {E : Value → Shared → Prop} {s : Shared}
abbrev dqObj : Obj := { cls := .type "collections.deque", data := .fields #[.none, rawInt 0] }
theorem dq_code_new {Q₁ : Value → Shared → Prop} (h : Q₁ (.ref s.heap.objs.size) { s with heap := s.heap.push dqObj }) :
    codeAny (model prog w) A (.call (.builtin "collections.deque.__new__") ⟨[.type "collections.deque"], []⟩) (wants Q₁ E) s := by
  refine codeAny_call_builtin dq_plain_new dq_entry_new (wpAny_of_eq dq_newCall ?_)
  have hsub : isSubtype (.type "collections.deque") (.type Builtin.Deque.ty) = pure true := dq_sub
  have hmro := dq_mro
  obtain ⟨hp, g, d, tk, os⟩ := s
  unfold Builtin.«collections.deque.__new__»
  wp_walk
  exact h
theorem dq_typeIs {s : Shared} {a : Addr} (h : DeqAt s.heap a) : s.TypeIs (.ref a) "collections.deque" := by
  obtain ⟨o, vs, ho, hc, _⟩ := h
  exact ⟨o, ho, hc⟩
theorem dq_make {Q : Value → Shared → Prop} (h : ∀ h', (∀ b o, s.heap.get? b = some o → h'.get? b = some o) → DeqAt h' s.heap.objs.size → Q (.ref s.heap.objs.size) { s with heap := h' }) :
    wpAny (model prog w) A (call (.type "collections.deque") []) Q E s := by
  refine callType_codes (Q₁ := fun obj s₁ => obj = .ref s.heap.objs.size ∧ s₁ = { s with heap := s.heap.push dqObj }) dq_called dq_typeCall dq_entry_init (dq_code_new ⟨rfl, rfl⟩) ?_
  rintro obj s₁ ⟨rfl, rfl⟩
  have hg : (s.heap.push dqObj).get? s.heap.objs.size = some dqObj := by heap_get
  refine ⟨dq_typeIs (s := { s with heap := s.heap.push dqObj }) ⟨dqObj, _, hg, rfl, rfl, rfl⟩, dq_args_init _, ?_⟩
  unfold Builtin.«collections.deque.__init__»
  obtain ⟨hp, g, d, tk, os⟩ := s
  wp_walk
  refine ⟨rfl, h _ (fun b o e => ?_) ?_⟩
  · refine ((Heap.SameBut.update (hp.push dqObj) hp.objs.size _).2 b (Nat.ne_of_lt (Heap.lt_size e))).trans (Heap.get?_push_of_some _ e)
  · exact ⟨_, _, Heap.get?_update_self _ hg rfl, rfl, rfl, rfl⟩
theorem dq_slot_len : Slot "collections.deque" "__len__" "collections.deque.__len__" :=
  .of (owner := "collections.deque") (n := "__len__") (by rw [typeLookup_type, builtinLookup_eq_fast]; kernel_rfl) (by decide +kernel) (by decide +kernel) (by decide +kernel)
    (by first | exact .inl (by decide +kernel) | exact .inr (by decide +kernel)) (by rw [isSubtype_type]; kernel_rfl)
theorem dq_entry_len : entryFor table "collections.deque.__len__" = some Builtin.«collections.deque.__len__» := entryFor_of_tree (by kernel_rfl)
theorem dq_args_len (a : Value) : argsOk "collections.deque.__len__" ⟨[a], []⟩ := by unfold argsOk; kernel_rfl
theorem dq_noBool : typeLookup (.type "collections.deque") "__bool__" = pure none := by rw [typeLookup_type, builtinLookup_eq_fast]; kernel_rfl
theorem dq_len {a : Addr} {Q : Value → Shared → Prop} (hd : DeqAt s.heap a) (h : ∀ t n, Q (.int 0 t) { s with toks := n }) :
    wpAny (model prog w) A (Builtin.«len» ⟨[.ref a], []⟩) (fun fin s' => ∃ r, fin = .done (.ret r) ∧ Q r s') E s := by
  have ht := dq_typeIs hd
  obtain ⟨o, vs, ho, hc, hdt, hz⟩ := hd
  unfold Builtin.«len»
  refine wpAny_bind (m := oneArg "len" _) (wpAny_pure ?_)
  refine wpAny_bind (m := callSpecial? (.ref a) (Str.ofString "__len__")) (wpAny_callSpecial?_slot (name := Str.ofString "__len__") ht dq_slot_len
    (wpAny_call_entry dq_slot_len ht dq_entry_len ?_ (dq_args_len _)))
  show wpAny _ _ (Builtin.Deque.size (.ref a) >>= fun n => retInt n) _ _ s
  unfold Builtin.Deque.size fieldsOf
  refine wpAny_bind (wpAny_bind (wpAny_bind (wpAny_load ho ?_)))
  rw [hdt]
  refine wpAny_pure (wpAny_pure ?_)
  rw [hz]
  refine wpAny_bind (wpAny_mkInt (wpAny_pure ⟨_, rfl, ?_⟩))
  refine wpAny_bind (wpAny_holding (wpAny_pure ?_))
  refine wpAny_bind (wpAny_letGo ?_)
  show wpAny _ _ (if ((2 - 2 : Nat) : Int) < 0 then _ else _) _ _ _
  rw [if_neg (by omega)]
  show wpAny _ _ (if ((2 - 2 : Nat) : Int) ≥ 2 ^ 63 then _ else _) _ _ _
  rw [if_neg (by omega)]
  exact wpAny_bind (wpAny_mkInt (wpAny_pure ⟨_, rfl, h _ _⟩))
theorem dq_truthy {a : Addr} {Q : Bool → Shared → Prop} (hd : DeqAt s.heap a) (h : ∀ n, Q false { s with toks := n }) : wpAny (model prog w) A (truthy (.ref a)) Q E s := by
  have ht := dq_typeIs hd
  have key : wpAny (model prog w) A (runValue (.builtin "len" ⟨[.ref a], []⟩)) (fun r s' => (∃ t, r = .int 0 t) ∧ Q false s') E s := by
    refine wpAny_runValue (codeAny_builtin entry_len ?_)
    rw [Around.under_plainId plain_len _]
    exact wpAny_mono (dq_len (Q := fun r s' => (∃ t, r = .int 0 t) ∧ Q false s') hd fun t n => ⟨⟨t, rfl⟩, h n⟩)
      (fun fin s' h' => by obtain ⟨r, rfl, hq⟩ := h'; exact hq) fun _ _ e => e
  unfold truthy
  first
    | refine wpAny_bind (wpAny_callSpecial?_none (name := Str.ofString "__bool__") ht dq_noBool ?_)
    | refine wpAny_bind (wpAny_pure (wpAny_bind (wpAny_callSpecial?_none (name := Str.ofString "__bool__") ht dq_noBool ?_)))
  first
    | refine wpAny_bind (wpAny_specialOf (name := Str.ofString "__len__") ht dq_slot_len.lookup ?_)
    | refine wpAny_bind (wpAny_pure (wpAny_bind (wpAny_specialOf (name := Str.ofString "__len__") ht dq_slot_len.lookup ?_)))
  first
    | exact wpAny_bind (wpAny_mono key (fun r s' h' => by obtain ⟨⟨t, rfl⟩, hq⟩ := h'; exact wpAny_pure hq) fun _ _ e => e)
    | exact wpAny_bind (wpAny_pure (wpAny_bind (wpAny_mono key (fun r s' h' => by obtain ⟨⟨t, rfl⟩, hq⟩ := h'; exact wpAny_pure hq) fun _ _ e => e)))
end
section
variable {C : Cx} {F : Fm} {st : St} {Q X : AV → St → Prop} {obs obs' : Obs} {s s' : Shared}
theorem call_deque (h : Q .deq st) : WCall C F (.type "collections.deque") [] st Q X := fun obs s vals Qs Es r y k1 k2 => by
  simp only [VRs] at y
  subst y
  refine dq_make fun h' hk hd => ?_
  have nP : ¬ F.P obs s.heap.objs.size := fun z => by
    obtain ⟨o, q⟩ := r.live _ z
    exact absurd (Heap.lt_size q) (Nat.lt_irrefl _)
  exact k1 .deq _ st obs _ h (r.keep hk s.toks) ⟨_, rfl, nP, hd⟩ (Step.keep F obs s hk s.toks)
theorem WTr_deq {Q : Bool → St → Prop} (h : Q false st) : WTr C F .deq st Q X := fun obs s u Qs Es r y k1 k2 => by
  simp only [VR] at y
  obtain ⟨a, rfl, _, hd⟩ := y
  exact dq_truthy hd fun n => k1 false _ st obs _ h (r.tok n) rfl (Step.tok ..)
end
end Mine
namespace Mine
section
variable {C : Cx} {F : Fm} {st : St} {Q X : AV → St → Prop} {obs obs' : Obs} {s s' : Shared}
theorem Rel.under (r : Rel C F obs st s) {A : Around} {d : Nat} (ok : ({ F with A := A, d := d } : Fm).Ok) : Rel C { F with A := A, d := d } obs st s :=
  ⟨r.cok, ok, r.stay, r.gens, r.drawn, r.os, r.nod, r.new, r.live, r.fr, r.loc, r.gl, r.nodl, r.len, r.objs⟩
theorem Rel.over {A : Around} {d : Nat} (r : Rel C { F with A := A, d := d } obs st s) (ok : F.Ok) : Rel C F obs st s :=
  ⟨r.cok, ok, r.stay, r.gens, r.drawn, r.os, r.nod, r.new, r.live, r.fr, r.loc, r.gl, r.nodl, r.len, r.objs⟩
theorem Step.over {A : Around} {d : Nat} (g : Step { F with A := A, d := d } obs s obs' s') : Step F obs s obs' s' := ⟨g.ag, g.ext, g.stands⟩
theorem obA_append (o1 o2 : Obs) : obA (o1 ++ o2) = obA o1 ++ obA o2 := by simp [obA]
def blank (names : List Str) : List (Str × AV) := names.map fun x => (x, .unb)
theorem Rel.newObj (r : Rel C F obs st s) {c : Addr} {names : List Str} (hn : names.Nodup) (hl : names.length ≤ 1000) :
    Rel C F (obs ++ [(s.heap.objs.size + 1, s.heap.objs.size)]) { st with objs := st.objs ++ [(c, blank names)] } { s with heap := (s.heap.push emptyDict).push (instObj c s.heap.objs.size) } ∧
    Step F obs s (obs ++ [(s.heap.objs.size + 1, s.heap.objs.size)]) { s with heap := (s.heap.push emptyDict).push (instObj c s.heap.objs.size) } := by
  generalize hz : s.heap.objs.size = z
  have nz : ∀ a, z ≤ a → s.heap.get? a = none := fun a ha => by
    cases q : s.heap.get? a with
    | none => rfl
    | some o => exact absurd (Heap.lt_size q) (by rw [hz]; exact Nat.not_lt.mpr ha)
  have two : ∀ a, a ∈ [z + 1, z] → z ≤ a := fun a h => by
    simp only [List.mem_cons, List.not_mem_nil, or_false] at h
    rcases h with rfl | rfl
    · exact Nat.le_succ _
    · exact Nat.le_refl _
  have nP : ∀ a, z ≤ a → ¬ F.P obs a := fun a ha q => by obtain ⟨o, e⟩ := r.live a q; rw [nz a ha] at e; cases e
  have hk : ∀ b o, s.heap.get? b = some o → ((s.heap.push emptyDict).push (instObj c z)).get? b = some o := fun b o e => Heap.get?_push_of_some _ (Heap.get?_push_of_some _ e)
  have gx : ((s.heap.push emptyDict).push (instObj c z)).get? (z + 1) = some (instObj c z) := by subst hz; heap_get
  have gd : ((s.heap.push emptyDict).push (instObj c z)).get? z = some emptyDict := by subst hz; heap_get
  have r1 := r.keep hk s.toks
  have hst : Step F obs s (obs ++ [(z + 1, z)]) { s with heap := (s.heap.push emptyDict).push (instObj c z) } :=
    ⟨fun a _ o e => ⟨o.slots, hk a o e⟩, ⟨[(z + 1, z)], rfl, fun p hp => by simp at hp; subst hp; exact ⟨nz _ (by simp), nz _ (Nat.le_refl _)⟩⟩, fun a o e => ⟨o, hk a o e⟩⟩
  have hall : F.all (obs ++ [(z + 1, z)]) = F.all obs ++ [z + 1, z] := by
    unfold Fm.all Fm.mine
    rw [obA_append]
    simp [obA]
  have hP : ∀ a, F.P (obs ++ [(z + 1, z)]) a → F.P obs a ∨ ((s.heap.push emptyDict).push (instObj c z)).get? a = none ∨ a = z + 1 ∨ a = z := fun a h => by
    have h : a ∈ F.all (obs ++ [(z + 1, z)]) := h
    rw [hall, List.mem_append] at h
    rcases h with h | h
    · exact .inl h
    · simp at h; exact .inr (.inr h)
  have newz : ∀ a, z ≤ a → C.b.heap.get? a = none := fun a ha => by
    cases q : C.b.heap.get? a with
    | none => rfl
    | some o => have := r.stay a o q; rw [nz a ha] at this; cases this
  have vr : ∀ {av v}, SlotR s.heap (F.P obs) obs av v → SlotR ((s.heap.push emptyDict).push (instObj c z)) (F.P (obs ++ [(z + 1, z)])) (obs ++ [(z + 1, z)]) av v := fun y =>
    SlotR.mono (fun a _ o e => ⟨o, hk a o e, rfl, rfl, .inl rfl⟩) hst.P hst.obsAt y
  refine ⟨⟨r.cok, r.ok, r1.stay, r.gens, r.drawn, r.os, ?_, ?_, ?_, r1.fr, ?_, r.gl, r.nodl, ?_, ?_⟩, hst⟩
  · rw [hall]
    refine List.nodup_append.mpr ⟨r.nod, by simp, fun a ha b hb e => ?_⟩
    subst e
    exact nP a (two a hb) ha
  · intro a ha
    rw [hall, List.mem_append] at ha
    rcases ha with ha | ha
    · exact r.new a ha
    · exact newz a (two a ha)
  · intro a ha
    rw [hall, List.mem_append] at ha
    rcases ha with ha | ha
    · obtain ⟨o, e⟩ := r.live a ha; exact ⟨o, hk _ _ e⟩
    · simp at ha
      rcases ha with rfl | rfl
      · exact ⟨_, gx⟩
      · exact ⟨_, gd⟩
  · obtain ⟨m, n, y⟩ := r.loc
    exact ⟨m, n.keeps hk, fun p hp => ⟨(y p hp).1, vr (y p hp).2⟩⟩
  · show (st.objs ++ _).length = _
    rw [List.length_append, List.length_append, r.len]; rfl
  · intro i p o h1 h2
    have h2 : (st.objs ++ [(c, blank names)])[i]? = some o := h2
    by_cases hi : i < obs.length
    · rw [List.getElem?_append_left hi] at h1
      rw [List.getElem?_append_left (by rw [r.len]; exact hi)] at h2
      obtain ⟨oa, m, z1, z2, z3, z4, z5, z6, z7⟩ := r.objs i p o h1 h2
      exact ⟨oa, m, hk _ _ z1, z2, z3, z4, z5.kept fun o e => ⟨o.slots, hk _ _ e⟩, fun q hq => vr (z6 q hq), z7⟩
    · have hi' : i = obs.length := by
        have := (List.getElem?_eq_some_iff.mp h1).1
        simp at this; omega
      subst hi'
      rw [List.getElem?_append_right (Nat.le_refl _)] at h1
      rw [List.getElem?_append_right (by rw [r.len]; exact Nat.le_refl _)] at h2
      simp [r.len] at h1 h2
      subst h1 h2
      have names_eq : (blank names).map (·.1) = names := by unfold blank; rw [List.map_map]; exact List.map_id' names
      refine ⟨_, fun _ => none, gx, rfl, rfl, rfl, ⟨_, _, _, gd, rfl, fun e he => by simp at he, fun name => by simp [nsFind, findBy], by simp⟩, fun q hq => ?_, fun _ _ => rfl, by rw [names_eq]; exact hn, ?_⟩
      · obtain ⟨x, hx, rfl⟩ := List.mem_map.mp hq
        show (none : Option Value) = none; rfl
      · show (blank names).length ≤ 1000; unfold blank; rw [List.length_map]; exact hl
def WCallA (C : Cx) (F : Fm) (g : Value) (mk : List Value → Args) (vs : List AV) (st : St) (Q X : AV → St → Prop) : Prop :=
  ∀ (obs : Obs) (s : Shared) (vals : List Value) (Qs Es : Value → Shared → Prop), Rel C F obs st s → VRs s.heap (F.P obs) obs vs vals →
    (∀ b a st' obs' s', Q b st' → Rel C F obs' st' s' → VR s'.heap (F.P obs') obs' b a → Step F obs s obs' s' → Qs a s') →
    (∀ x e st' obs' s', X x st' → Rel C F obs' st' s' → ExIn C F obs' s s' x e → Step F obs s obs' s' → Es (.ref e) s') →
    wpAny C.M F.A (call g (mk vals).pos (mk vals).kw) Qs Es s
theorem WCallA.plain {g : Value} {vs : List AV} (h : WCallA C F g (fun vs => ⟨vs, []⟩) vs st Q X) : WCall C F g vs st Q X := h
abbrev kw1 (name : Str) : List Value → Args
  | [v, k] => ⟨[v], [(name, k)]⟩
  | vs => ⟨vs, []⟩
theorem WE_CallKw1 {func e name value kp pos} (h : WE C F func st (fun fv st1 => ∃ g, fv = .glob g ∧ Keeps C g ∧ WE C F e st1 (fun v st2 => WE C F value st2 (fun k st3 => WCallA C F g (kw1 name) [v, k] st3 Q X) X) X) X)
    (he : eval (.Call func [e] [⟨some name, value, kp⟩] pos) F.env = (do callWith pos (← eval func F.env) [] (backTo pos (starEach [e] F.env)) (backToKw pos (keywordEach [⟨some name, value, kp⟩] F.env))) := by with_unfolding_all rfl)
    (hs : starEach [e] F.env = (false, eval e F.env) :: starEach [] F.env := by with_unfolding_all rfl) : WE C F (.Call func [e] [⟨some name, value, kp⟩] pos) st Q X := by
  intro obs s Qs Es r k1 k2
  rw [he]
  refine wpAny_bind (h obs s _ _ r (fun a u st1 o1 s1 q1 r1 y1 g1 => ?_) k2)
  obtain ⟨g, rfl, hk, q⟩ := q1
  cases y1
  refine callWith_of (P := fun h => C.K.In h) (by rw [hs]; rfl) hk (evalArgs_kw2 rfl ?_ hs)
  rw [hs]
  refine Calls.spliced_cons (q o1 s1 _ _ r1 (fun v w st2 o2 s2 q2 r2 y2 g2 => Calls.spliced_nil ?_) fun x e st' o' s' q r z g => k2 x e st' o' s' q r (z.earlier g1.stands) (g1.trans g))
  refine kwAll_cons (q2 o2 s2 _ _ r2 (fun k u st3 o3 s3 q3 r3 y3 g3 => kwAll_nil ⟨r3.kin, ?_⟩) fun x e st' o' s' q r z g => k2 x e st' o' s' q r (z.earlier (g1.trans g2).stands) ((g1.trans g2).trans g))
  have y : VRs s3.heap (F.P o3) o3 [v, k] [w, u] := by
    simp only [VRs]
    exact ⟨w, [u], rfl, y2.step g3, u, [], rfl, y3, rfl⟩
  exact q3 o3 s3 [w, u] Qs Es r3 y (fun b a st' o' s' q r z g' => k1 b a st' o' s' q r z (g1.trans (g2.trans (g3.trans g')))) fun x e st' o' s' q r z g' => k2 x e st' o' s' q r (z.earlier (g1.trans (g2.trans g3)).stands) (g1.trans (g2.trans (g3.trans g')))
theorem under_ok (ok : F.Ok) (hd : 1 ≤ F.d) {c : Addr} {pos : List Value} {kw : List (Str × Value)} : ({ F with A := F.A.under (.builtin "type.__call__" ⟨.ref c :: pos, kw⟩), d := F.d - 1 } : Fm).Ok := by
  refine ⟨ok.kind, ok.globals, ok.builtins, ok.frame, ?_, ok.handled, ?_, ?_⟩
  · show pushEnvs (Code.builtin "type.__call__" ⟨.ref c :: pos, kw⟩).envs F.A.frames = _
    rw [ok.frames]; rfl
  · have := ok.depth
    show F.A.depth + (Code.builtin "type.__call__" ⟨.ref c :: pos, kw⟩).weight + (F.d - 1) < 990
    have h1 : (Code.builtin "type.__call__" ⟨.ref c :: pos, kw⟩).weight = 1 := rfl
    omega
  · have := ok.units
    show F.A.units + (Code.builtin "type.__call__" ⟨.ref c :: pos, kw⟩).cUnits + 20 * (F.d - 1) < 9800
    have h1 : (Code.builtin "type.__call__" ⟨.ref c :: pos, kw⟩).cUnits ≤ 10 := Nat.le_of_ble_eq_true rfl
    omega
theorem WCall_cls {n : Nat} {c fI : Addr} {names : List Str} {mk mk' : List Value → Args} {avs : List AV} (hn : names.Nodup) (hl : names.length ≤ 1000) (hm : makesIn C.K c = true)
    (hi : findIn C.K (.ref c) "__init__" = some (some (.ref fI))) (ht : typeIn C.K (.ref fI) = some (.type "function")) (hmk : ∀ x vals, vals.length = avs.length → mk' (x :: vals) = ⟨x :: (mk vals).pos, (mk vals).kw⟩)
    (h : WFnA C n fI mk' (.obj st.objs.length :: avs) (st.objs ++ [(c, blank names)]) (fun v objs' => v = .none ∧ Q (.obj st.objs.length) { st with objs := objs' }) (fun x objs' => X x { st with objs := objs' }))
    (hd : n + 1 ≤ F.d) (hh : F.hd = none) : WCallA C F (.ref c) mk avs st Q X := by
  intro obs s vals Qs Es r y k1 k2
  have r0 := r
  obtain ⟨r1, g1⟩ := r.newObj (c := c) hn hl
  obtain ⟨hp, g, d, t, os⟩ := s
  refine wpAny_call (make_core (makes_of r0.kin hm) (looks_findIn r0.kin hi) (fun self => bind_fn r0.kin self ht) (.inl rfl) ?_)
  have ok' := under_ok (c := c) (pos := (mk vals).pos) (kw := (mk vals).kw) r0.ok (by omega)
  have key := h { F with A := F.A.under (.builtin "type.__call__" ⟨.ref c :: (mk vals).pos, (mk vals).kw⟩), d := F.d - 1 } _ _ _ (.ref (hp.objs.size + 1) :: vals)
    (InitBack (hp.objs.size + 1) fun r s' => match r with | .ok (.ret v) => Qs v s' | .ok _ => False | .error e => Es e s') (by show n ≤ F.d - 1; omega) hh rfl (r1.under ok') ?_ ?_ ?_
  · rw [hmk _ _ y.length] at key
    exact key
  · simp only [VRs]
    exact ⟨_, vals, rfl, ⟨_, by rw [r0.len]; exact List.getElem?_concat_length .., rfl⟩, y.step g1⟩
  · rintro b v objs' o' s' ⟨rfl, q⟩ r' z g'
    cases z
    refine ⟨rfl, k1 _ _ _ o' s' q (r'.over r0.ok) ?_ (g1.trans g'.over)⟩
    exact ⟨_, g'.obsAt _ _ (by rw [r0.len]; exact List.getElem?_concat_length ..), rfl⟩
  · intro x e objs' o' s' q r' z g'
    exact k2 x e _ o' s' q (r'.over r0.ok) (ExIn.earlier g1.stands z) (g1.trans g'.over)
end
end Mine
namespace Mine
theorem obj_madeBy : Bind.madeBy (.type "object") = pure (some "object.__new__") :=
  madeBy_type (c := .type "object") (tl := []) (by rw [mroOf_type]; kernel_rfl) (by rw [typeLookup_type, builtinLookup_eq_fast]; kernel_rfl) (by decide +kernel)
structure NewP (C : Cx) (c : Addr) : Prop where
  cls : ∃ oc od cd sl, C.K.lookup c = some ⟨oc, od, .cls cd, sl⟩ ∧ cd.abstract = false ∧ cd.hasDel = false ∧ cd.mro.isEmpty = false ∧ cd.mro.contains (.ref c) = true ∧ cd.mro.contains (.type "object") = true
  made : peek C.K ⟨C.prog, C.w.params⟩ (Bind.madeBy (.ref c)) = some none
  base : peek C.K ⟨C.prog, C.w.params⟩ (Bind.staticBase (.ref c)) = some (.type "object")
  call : specialIn C.K (.ref c) "__call__" = some (some (.builtin "type.__call__"))
  typ : instIn C.K (.ref c) (.type "type") = some true
section
variable {C : Cx} {A : Around} {c : Addr} {R : Result → Shared → Prop} {h : Heap} {g : Array GenState} {d : Drawn} {t : Nat} {os : OsState}
theorem new_P (Y : NewP C c) (X : C.K.In h) (hq : R (.ok (.ret (.ref (h.objs.size + 1)))) ⟨(h.push emptyDict).push (instObj c h.objs.size), g, d, t, os⟩) :
    codeAny C.M A (.call (.builtin "object.__new__") ⟨[.ref c], []⟩) R ⟨h, g, d, t, os⟩ := by
  obtain ⟨⟨oc, od, cd, sl, ho, e1, e2, e4, e5, e6⟩, made, base, call, typ⟩ := Y
  have hC := X _ _ ho
  have base' : Looks C.M h (Bind.staticBase (.ref c)) (.type "object") := Looks.of_peek X base
  have typ' : Looks C.M h (isInstance (.ref c) (.type "type")) true := looks_instIn X typ
  have F := PySem.F.objNew
  refine codeAny_call_builtin_code (Code.quiet_builtin _ F.quiet) ?_
  simp only [checkBuiltinCall, F.kind, F.split, F.row]
  have here : Looks C.M h (Bind.madeHere "object.__new__" (.ref c)) () := base'.andThen ((Looks.of_pure obj_madeBy).andThen (Looks.of_pure (by simp only [Option.map_some, bne_self_eq_false, Bool.false_eq_true, if_false])))
  have args : Bind.checkArgs "object.__new__" ⟨.hand, "object.__new__", "__new__", .cls, []⟩ ⟨[.ref c], []⟩ = pure () := by kernel_rfl
  rw [args]
  have hc : clsIn C.K c = some cd := by unfold clsIn; rw [ho]
  have top : Looks C.M h (isSubtype (.ref c) (.type "object")) true := looks_mroIn X (by unfold mroIn; rw [hc, Option.bind_some, if_neg (by rw [e4]; decide), e6])
  have omb : Looks C.M h (Bind.madeBy (.type "object")) (some "object.__new__") := Looks.of_pure obj_madeBy
  repeat (first | simp only [bne_self_eq_false, Bool.false_eq_true, if_false] | lk)
  refine codeAny_builtin F.entry ?_
  unfold Builtin.«object.__new__»
  have fin : ∀ A', wpAny C.M A' (do
      let d ← if typeHasDict (.ref c) then some <$> alloc { cls := .type "dict", data := .dict #[] } else pure none
      ret (← newObj (.ref c) .plain d)) (fun fin s' => match fin with | .done f => R (.ok f) s' | .again c' => c'.quiet = true ∧ codeAny C.M A c' R s') (fun e s' => R (.error e) s') ⟨h, g, d, t, os⟩ := by
    intro A'
    show wpAny _ _ ((alloc emptyDict >>= fun x => pure (some x)) >>= _) _ _ _
    refine wpAny_bind (wpAny_bind (wpAny_alloc (wpAny_pure (wpAny_bind ?_))))
    show wpAny _ _ (newObjAsIs _ _ _) _ _ _
    unfold newObjAsIs classHasDel
    refine wpAny_bind (wpAny_alloc (wpAny_bind (wpAny_bind (wpAny_load (Heap.get?_push_of_some _ (Heap.get?_push_of_some _ hC)) (wpAny_pure ?_)))))
    rw [e2]
    refine wpAny_pure (wpAny_pure ?_)
    show R _ _
    rw [Heap.size_push]
    exact hq
  repeat (first | simp only [e1, Bool.false_eq_true, if_false] | exact fin _ | lk)
theorem make_P {s : Shared} {rest : List Value} {fN fI p : Addr} {more : List Value} (Y : NewP C c) (X : C.K.In s.heap) (hr : readsIn C.K c (.type "type") = true)
    (hN : findCls C.K (.ref c) (.type "type") "__new__" = some (.get (.builtin "staticmethod.__get__") (.ref p) .none (.ref c))) (hp : recIn C.K p "staticmethod" = some (.ref fN :: more))
    (hi : findIn C.K (.ref c) "__init__" = some (some (.ref fI))) (hf : typeIn C.K (.ref fI) = some (.type "function"))
    (h : codeAny C.M (A.under (.builtin "type.__call__" ⟨.ref c :: rest, []⟩)) (.call (.ref fN) ⟨.ref c :: rest, []⟩) (fun r s' => match r with
      | .ok (.ret v) => ∃ x ox, v = .ref x ∧ C.K.In s'.heap ∧ s'.heap.get? x = some ox ∧ ox.cls = .ref c ∧ codeAny C.M (A.under (.builtin "type.__call__" ⟨.ref c :: rest, []⟩)) (.call (.ref fI) ⟨.ref x :: rest, []⟩) (InitBack x R) s'
      | .ok _ => False
      | .error e => R (.error e) s') { s with toks := s.toks + 1 }) :
    codeAny C.M A (.call (.ref c) ⟨rest, []⟩) R s := by
  obtain ⟨⟨oc, od, cd, sl, ho, e1, e2, e4, e5, e6⟩, made, base, call, typ⟩ := Y
  have hC := X _ _ ho
  have hc : clsIn C.K c = some cd := by unfold clsIn; rw [ho]
  obtain ⟨hh, g, d, t, os⟩ := s
  have call' : Looks C.M hh (specialOf (.ref c) "__call__") (some (.builtin "type.__call__")) := looks_specialIn X call
  have typ' : Looks C.M hh (isInstance (.ref c) (.type "type")) true := looks_instIn X typ
  have made' : Looks C.M hh (Bind.madeBy (.ref c)) none := Looks.of_peek X made
  refine codeAny_of_tree ?_
  show wpAny _ _ (callAny (.ref c) _) _ _ _
  refine nd_load hC ?_
  show wpAny _ _ (callAny.viaDunder (.ref c) _) _ _ _
  unfold callAny.viaDunder
  refine wpAny_bind (call'.at ?_)
  dsimp only
  rw [tc_bind]
  refine wpAny_bind (wpAny_pure (wpAny_bind (wpAny_pure ?_)))
  refine wpAny_pure (a := Fin.again (.call (.builtin "type.__call__") ⟨.ref c :: rest, []⟩)) (And.intro rfl ?_)
  refine codeAny_call_builtin_at (Code.quiet_builtin _ (by decide +kernel)) entry_typeCall (check_slot tc_kind tc_split typ' (tc_args _ _ _) ?_)
  unfold Builtin.«type.__call__»
  have hm : Looks C.M hh (mroOf (.ref c)) cd.mro := ((Looks.ld (part := none) hC).andThen .now).andThen .now
  have gn : ∀ (A' : Around) (Q : Value → Shared → Prop) (E : Value → Shared → Prop), Q (.ref fN) ⟨hh, g, d, t + 1, os⟩ → wpAny C.M A' (getAttr (.ref c) "__new__") Q E ⟨hh, g, d, t, os⟩ := fun A' Q E q =>
    cls_bind (s := ⟨hh, g, d, t, os⟩) X hr hN (wpAny_call (sm_get (s := ⟨hh, g, d, t + 1, os⟩) X hp (handed_on rfl q)))
  repeat (first | simp only [e4, Bool.false_eq_true, if_false] | with_reducible refine gn _ _ _ ?_ | with_reducible refine wpAny_call ?_ | lk)
  refine codeAny_mono h fun r s' z => ?_
  rcases r with e | (v | _ | _ | _) <;> first | exact z | exact z.elim | skip
  obtain ⟨x, ox, rfl, X', hx, hcl, hq⟩ := z
  obtain ⟨h', g', d', t', os'⟩ := s'
  dsimp only at X' hx
  have t1 : Looks C.M h' (typeOf (.ref x)) (.ref c) := (Looks.ld hx).andThen (by rw [hcl]; exact .now)
  have s1 : Looks C.M h' (isSubtype (.ref c) (.ref c)) true := looks_mroIn X' (by unfold mroIn; rw [hc, Option.bind_some, if_neg (by rw [e4]; decide), e5])
  have i1 : Looks C.M h' (typeLookup (.ref c) "__init__") (some (.ref fI)) := looks_findIn X' hi
  have b1 := bind_fn (M := C.M) X' (.ref x) hf
  unfold isInstance callSpecial? specialOf
  repeat (first | with_reducible refine wpAny_call ?_ | lk)
  refine codeAny_mono hq fun r s' z => ?_
  rcases r with e | (v | _ | _ | _) <;> first | exact z | exact z.elim | skip
  obtain ⟨rfl, z⟩ := z
  exact wpAny_pure (wpAny_pure z)
end
end Mine
namespace Mine
section
variable {C : Cx} {F : Fm} {st : St} {Q X : AV → St → Prop} {obs obs' : Obs} {s s' : Shared}
theorem in1_ok (ok : F.Ok) (hd : 1 ≤ F.d) : ({ F with A := F.A.in1, d := F.d - 1 } : Fm).Ok := by
  refine ⟨ok.kind, ok.globals, ok.builtins, ok.frame, ok.frames, ok.handled, ?_, ?_⟩
  · have := ok.depth
    show F.A.depth + (F.d - 1) < 990; omega
  · have := ok.units
    show F.A.units + 1 + 20 * (F.d - 1) < 9800; omega
theorem WCall_clsP {n : Nat} {c fN fI p : Addr} {more : List Value} {names : List Str} {avs : List AV} (Y : NewP C c) (hr : readsIn C.K c (.type "type") = true)
    (hN : findCls C.K (.ref c) (.type "type") "__new__" = some (.get (.builtin "staticmethod.__get__") (.ref p) .none (.ref c))) (hp : recIn C.K p "staticmethod" = some (.ref fN :: more))
    (hi : findIn C.K (.ref c) "__init__" = some (some (.ref fI))) (hf : typeIn C.K (.ref fI) = some (.type "function"))
    (h1 : ∀ vals : List Value, vals.length = avs.length → WFnA C n fN (fun vs => ⟨vs ++ vals, []⟩) [.glob (.ref c)] st.objs (fun v objs' => v = .obj st.objs.length ∧ objs' = st.objs ++ [(c, blank names)]) (fun _ _ => False))
    (h2 : WFn C n fI (.obj st.objs.length :: avs) (st.objs ++ [(c, blank names)]) (fun v objs' => v = .none ∧ Q (.obj st.objs.length) { st with objs := objs' }) (fun x objs' => X x { st with objs := objs' }))
    (hd : n + 1 ≤ F.d) (hh : F.hd = none) : WCall C F (.ref c) avs st Q X := by
  intro obs s vals Qs Es r y k1 k2
  have ok' := under_ok (c := c) (pos := vals) (kw := []) r.ok (by omega)
  have hg0 := Step.tok F obs s (s.toks + 1)
  refine wpAny_call (make_P Y r.kin hr hN hp hi hf ?_)
  refine h1 vals y.length { F with A := F.A.under (.builtin "type.__call__" ⟨.ref c :: vals, []⟩), d := F.d - 1 } st obs { s with toks := s.toks + 1 } [.ref c] _ (by show n ≤ F.d - 1; omega) hh rfl ((r.tok (s.toks + 1)).under ok') ?_ ?_ ?_
  · simp only [VRs]
    exact ⟨_, [], rfl, rfl, rfl⟩
  · rintro b v objs' o' s1 ⟨rfl, rfl⟩ r1 z g1
    simp only [VR] at z
    obtain ⟨q, hq, rfl⟩ := z
    have hob : (st.objs ++ [(c, blank names)])[st.objs.length]? = some (c, blank names) := List.getElem?_concat_length ..
    obtain ⟨q', hq', ob⟩ := r1.inst hob
    have e : q = q' := by rw [hq] at hq'; exact Option.some.inj hq'
    subst e
    obtain ⟨oa, m, z1, z2, _⟩ := ob
    have hg1 : Step F obs s o' s1 := hg0.trans g1.over
    refine ⟨q.1, oa, rfl, r1.kin, z1, z2, ?_⟩
    refine h2 { F with A := F.A.under (.builtin "type.__call__" ⟨.ref c :: vals, []⟩), d := F.d - 1 } _ o' s1 (.ref q.1 :: vals) _ (by show n ≤ F.d - 1; omega) hh rfl r1 ?_ ?_ ?_
    · simp only [VRs]
      exact ⟨_, vals, rfl, ⟨q, hq, rfl⟩, y.step hg1⟩
    · rintro b v objs' o2 s2 ⟨rfl, q2⟩ r2 z g2
      cases z
      refine ⟨rfl, k1 _ _ _ o2 s2 q2 (r2.over r.ok) ?_ (hg1.trans g2.over)⟩
      exact ⟨q, g2.obsAt _ _ hq, rfl⟩
    · intro x e objs' o2 s2 q2 r2 z g2
      exact k2 x e _ o2 s2 q2 (r2.over r.ok) (ExIn.earlier hg1.stands z) (hg1.trans g2.over)
  · intro x e objs' o' s' q
    exact q.elim
theorem WCall_objNew {c : Addr} {names : List Str} (Y : NewP C c) (hn : names.Nodup) (hl : names.length ≤ 1000) (h : Q (.obj st.objs.length) { st with objs := st.objs ++ [(c, blank names)] }) :
    WCall C F (.builtin "object.__new__") [.glob (.ref c)] st Q X := by
  intro obs s vals Qs Es r y k1 k2
  simp only [VRs, VR] at y
  obtain ⟨v, l, rfl, rfl, rfl⟩ := y
  obtain ⟨r1, g1⟩ := r.newObj (c := c) hn hl
  have kin := r.kin
  have hlen := r.len
  obtain ⟨hp, g, d, t, os⟩ := s
  exact wpAny_call (new_P Y kin (k1 _ _ _ _ _ h r1 ⟨_, by rw [hlen]; exact List.getElem?_concat_length .., rfl⟩ g1))
def MethOf0 (C : Cx) (F : Fm) (ov : AV) (name : Str) (st : St) (g : Value) : Prop :=
  ∀ (obs : Obs) (s : Shared) (v : Value) (pl : Sem Bool) (Qs : Value × List Value → Shared → Prop) (Es : Value → Shared → Prop), Rel C F obs st s → VR s.heap (F.P obs) obs ov v →
    (∀ s', Rel C F obs st s' → Step F obs s obs s' → Qs (g, []) s') → wpAny C.M F.A (getMethod v name pl) Qs Es s
theorem WE_Meth0 {o name apos args pos} {pl : Sem Bool} (h : WE C F o st (fun ov st1 => ∃ g, MethOf0 C F ov name st1 g ∧ Keeps C g ∧ WEs C F args st1 (fun vs st2 => WCall C F g vs st2 Q X) X) X)
    (he : eval (.Call (.Attribute o name apos) args [] pos) F.env = (do
      let ov ← eval o F.env
      standAt apos.atName
      let (f, first) ← holding [ov] (getMethod ov name pl)
      callWith pos f first (backTo pos (starEach args F.env)) (backToKw pos (keywordEach [] F.env))) := by with_unfolding_all rfl)
    (hs : starEach args F.env = args.map fun e => (false, eval e F.env) := by with_unfolding_all rfl) : WE C F (.Call (.Attribute o name apos) args [] pos) st Q X := by
  intro obs s Qs Es r k1 k2
  refine methodCall_KW (pl := pl) (h obs s _ _ r (fun ov v st1 o1 s1 q1 r1 y1 g1 => ?_) k2) he
  obtain ⟨g, hm, hk, q⟩ := q1
  refine hm o1 s1 v pl _ _ r1 y1 fun s2 r2 g2 => ?_
  rw [backTo_plain hs]
  refine callWith_of (P := fun h => C.K.In h) (by simp [keywordEach, backToKw]) hk (evalArgs_row (q o1 s2 _ _ r2 (fun vs ws st3 o3 s3 q3 r3 y3 g3 => ⟨r3.kin, ?_⟩) ?_))
  · exact q3 o3 s3 ws Qs Es r3 y3 (fun b a st' o' s' q r z g' => k1 b a st' o' s' q r z (g1.trans (g2.trans (g3.trans g')))) fun x e st' o' s' q r z g' => k2 x e st' o' s' q r (z.earlier (g1.trans (g2.trans g3)).stands) (g1.trans (g2.trans (g3.trans g')))
  · exact fun x e st' o' s' q r z g => k2 x e st' o' s' q r (z.earlier (g1.trans g2).stands) ((g1.trans g2).trans g)
theorem obj_ga : specialOf (.type "object") "__getattribute__" = pure (some (.builtin "type.__getattribute__")) := by
  show typeLookup (.type "type") "__getattribute__" = _
  rw [typeLookup_type, builtinLookup_eq_fast]; kernel_rfl
theorem obj_opq : opaqueClassAbove (.type "object") = pure none := by kernel_rfl
theorem meth_objNew (hf : findCls C.K (.type "object") (.type "type") "__new__" = some (.val (.builtin "object.__new__"))) (hg : findIn C.K (.type "type") "__getattribute__" = some (some (.builtin "type.__getattribute__")))
    (hs : PySem.W.subIn C.K (.type "type") (.type "type") = some true) : MethOf0 C F (.glob (.type "object")) "__new__" st (.builtin "object.__new__") := fun obs s v pl Qs Es r y k => by
  cases y
  unfold getMethod
  rw [obj_ga]
  refine wpAny_bind (wpAny_pure ?_)
  dsimp only
  rw [if_pos canon_tga]
  refine wpAny_bind (cls_open (mc := .type "type") (hook := none) r.kin (Looks.of_pure obj_opq) (Looks.of_pure rfl) hg (Looks.of_pure rfl) hs hf (wpAny_pure ?_))
  refine handed_on (by decide +kernel) (wpAny_pure ?_)
  exact k _ (r.tok _) (Step.tok ..)
theorem cmp_isnot_ref {a b : Addr} {oa ob : Obj} (ha : C.K.lookup a = some oa) (hb : C.K.lookup b = some ob) (hc : oa.cls ≠ .type "tuple") (h : Q (.bool (!(a == b))) st) : W2 C F (compareOp .IsNot) (.glob (.ref a)) (.glob (.ref b)) st Q X := fun obs s u v Qs Es r y z k1 k2 => by
  cases y; cases z
  by_cases e : a = b
  · subst e
    exact wpAny_isNot_ref_self (k1 _ _ st obs _ h r (by simp [VR]) (Step.refl ..))
  · exact wpAny_isNot_ref_other e (r.kin _ _ ha) (r.kin _ _ hb) hc (k1 _ _ st obs _ h r (by simp [VR, e]) (Step.refl ..))
theorem attr_prop {n : Nat} {i : Nat} {c p f : Addr} {names : List Str} {name : Str} {as : List (Str × AV)} {rest : List Value} (hc : ClsOk C c names) (hi : st.objs[i]? = some (c, as))
    (ha : findIn C.K (.ref c) name = some (some (.ref p))) (hg : specialIn C.K (.ref p) "__get__" = some (some (.builtin "property.__get__"))) (ht : takesIn C.K (.ref p) = some true) (hp : recIn C.K p "property" = some (.ref f :: rest))
    (h : WFn C n f [.obj i] st.objs (fun v objs' => v.plain = true ∧ Q v { st with objs := objs' }) (fun _ _ => False)) (hd : n + 1 ≤ F.d) (hh : F.hd = none) : WAttr C F name (.obj i) st Q X := fun obs s u Qs Es r y k1 k2 => by
  have y0 := y
  obtain ⟨q, hp1, rfl⟩ := y
  obtain ⟨q', hp2, ok⟩ := r.inst hi
  rw [hp1] at hp2; cases hp2
  obtain ⟨oa, od, m, I, _, _, hl, _, hs, _, _⟩ := instAt_of ok
  have g0 := Step.tok F obs s (s.toks + 1)
  refine get_bind r.kin I hc.ga (findObj_data (by obtain ⟨cd, h1, _⟩ := any_some hc.hd; rw [h1]; rfl) ha hg ht) hc.gt (wpAny_call (prop_get (s := { s with toks := s.toks + 1 }) r.kin hp ?_))
  refine h { F with A := F.A.in1, d := F.d - 1 } st obs { s with toks := s.toks + 1 } [.ref q.1] _ (by show n ≤ F.d - 1; omega) hh rfl ((r.tok (s.toks + 1)).under (in1_ok r.ok (by omega))) ?_ ?_ ?_
  · simp only [VRs]
    exact ⟨_, [], rfl, y0, rfl⟩
  · rintro b v objs' o' s1 ⟨hb, q1⟩ r1 z g1
    exact handed_on (handed_of hb z) (k1 b v _ o' s1 q1 (r1.over r.ok) z (g0.trans g1.over))
  · intro x e objs' o' s' q
    exact q.elim
end
end Mine
namespace Mine
def WRun (C : Cx) (n : Nat) (c f : Addr) (i : Nat) (Q : List AV → List OB → Prop) (X : AV → List OB → Prop) : Nat → List AV → List OB → Prop
  | 0, _, _ => False
  | k + 1, acc, objs => (∃ as, objs[i]? = some (c, as)) ∧ WFn C n f [.obj i] objs (fun v objs' => WRun C n c f i Q X k (acc ++ [v]) objs')
      (fun x objs' => (x = .exc "StopIteration" [] ∧ Q acc objs') ∨ ((∃ c args, x = .exc c args ∧ isSubtype (.type c) (.type "StopIteration") = pure false) ∧ X x objs'))
structure ItCls (C : Cx) (c fI fN : Addr) : Prop where
  iter : findIn C.K (.ref c) "__iter__" = some (some (.ref fI))
  iterF : typeIn C.K (.ref fI) = some (.type "function")
  next : findIn C.K (.ref c) "__next__" = some (some (.ref fN))
  nextF : typeIn C.K (.ref fN) = some (.type "function")
  len : findIn C.K (.ref c) "__len__" = some none
  hint : findIn C.K (.ref c) "__length_hint__" = some none
theorem ve_notStop : isSubtype (.type "ValueError") (.type "StopIteration") = pure false := by rw [isSubtype_type]; kernel_rfl
theorem stop_stop : isSubtype (.type "StopIteration") (.type "StopIteration") = pure true := by rw [isSubtype_type]; kernel_rfl
section
variable {C : Cx} {F : Fm} {st : St} {obs obs' : Obs} {s s' : Shared}
theorem Rel.instOf (r : Rel C F obs st s) {i : Nat} {c : Addr} {as : List (Str × AV)} (h : st.objs[i]? = some (c, as)) {x : Addr} (y : VR s.heap (F.P obs) obs (.obj i) (.ref x)) : ∃ ox od, InstAt s.heap x ox c (some od) := by
  simp only [VR] at y
  obtain ⟨p, hp1, e⟩ := y
  cases e
  obtain ⟨p', hp2, ok⟩ := r.inst h
  rw [hp1] at hp2; cases hp2
  obtain ⟨oa, od, m, I, _⟩ := instAt_of ok
  exact ⟨oa, od, I⟩
theorem next_own {M : Model} {A : Around} {E : Value → Shared → Prop} {K : Frag} {x c f : Addr} {ox : Obj} {od : Option Obj} {Q : Option Value → Shared → Prop} (X : K.In s.heap) (I : InstAt s.heap x ox c od) (hs : findIn K (.ref c) "__next__" = some (some (.ref f))) (hf : typeIn K (.ref f) = some (.type "function"))
    (h : wpAny M A (call (.ref f) [.ref x]) (fun v s' => Q (some v) s') (fun e s' => ∃ T, s'.TypeIs e T ∧ ((isSubtype (.type T) (.type "StopIteration") = pure true ∧ Q none s') ∨ (isSubtype (.type T) (.type "StopIteration") = pure false ∧ E e s'))) s) :
    wpAny M A (pyNext (.ref x)) Q E s := by
  unfold pyNext
  refine wpAny_bind (wpAny_attempt (special_fn (name := "__next__") (args := []) X I hs hf (wpAny_mono h (fun v s' hq => ?_) (fun e s' he => ?_))))
  · exact wpAny_pure hq
  · obtain ⟨T, hT, z⟩ := he
    rcases z with ⟨hsub, z⟩ | ⟨hsub, z⟩
    · exact wpAny_bind (wpAny_isInstance hT hsub (wpAny_pure z))
    · exact wpAny_bind (wpAny_isInstance hT hsub (wpAny_throw z))
theorem iter_own {M : Model} {A : Around} {E : Value → Shared → Prop} {K : Frag} {x c f : Addr} {ox : Obj} {od : Option Obj} {Q : Value → Shared → Prop} (X : K.In s.heap) (I : InstAt s.heap x ox c od) (hs : findIn K (.ref c) "__iter__" = some (some (.ref f))) (hf : typeIn K (.ref f) = some (.type "function"))
    (h : wpAny M A (call (.ref f) [.ref x]) (fun v s' => ∃ g, Looks M s'.heap (specialOf v "__next__") (some g) ∧ Q v s') E s) : wpAny M A (pyIter (.ref x)) Q E s := by
  have fin : wpAny M A (call (.ref f) [.ref x] >>= fun v => pure (some v)) (fun r s' => ∃ v, r = some v ∧ ∃ g, Looks M s'.heap (specialOf v "__next__") (some g) ∧ Q v s') E s :=
    wpAny_bind (wpAny_mono h (fun v s' h' => wpAny_pure ⟨v, rfl, h'⟩) fun _ _ z => z)
  have one : ∀ refuse : Sem Value, wpAny M A (callSpecialIfBoundUnlessNone? (.ref x) "__iter__" refuse) (fun r s' => ∃ v, r = some v ∧ ∃ g, Looks M s'.heap (specialOf v "__next__") (some g) ∧ Q v s') E s := by
    intro refuse
    simp only [callSpecialIfBoundUnlessNone?, bindSpecialIfBound?]
    refine wpAny_holding (wpAny_bind (wpAny_bind (wpAny_bind (I.type.here ((looks_findIn X hs).here ?_)))))
    refine wpAny_bind (wpAny_askSetting (wpAny_ite ?_))
    have fin2 : wpAny M A (if (Value.ref f == Value.none) = true then (refuse >>= fun v => pure (some v)) else (call (.ref f) [.ref x] >>= fun v => pure (some v))) (fun r s' => ∃ v, r = some v ∧ ∃ g, Looks M s'.heap (specialOf v "__next__") (some g) ∧ Q v s') E s := by
      rw [if_neg (show ¬ ((Value.ref f == Value.none) = true) from Bool.false_ne_true)]
      exact fin
    split
    · exact wpAny_bind ((bind_fn X _ hf).here (wpAny_pure (by exact fin2)))
    · exact wpAny_tryCatch (wpAny_bind ((bind_fn X _ hf).here (wpAny_pure (by exact fin2))))
  unfold pyIter
  refine wpAny_bind (wpAny_bind (I.type.here ((looks_findIn X hs).here ?_)))
  show wpAny M A (callSpecialIfBoundUnlessNone? (.ref x) "__iter__" _ >>= _) Q E s
  refine wpAny_bind (wpAny_mono (one _) (fun r s' hr => ?_) fun _ _ z => z)
  obtain ⟨v, rfl, g, hl, hq⟩ := hr
  exact wpAny_bind (hl.here (wpAny_pure hq))
theorem ExIn.typeIs {x : AV} {e : Addr} {s₀ : Shared} (h : ExIn C F obs s₀ s x e) {c : String} {args : List Str} (hx : x = .exc c args) : s.TypeIs (.ref e) c := by
  obtain ⟨fl, ⟨c', args', t, oe, vs, hd, h1, ⟨⟨oe', vs', g1, g2, _⟩, _⟩, _⟩, _⟩ := h
  rw [hx] at h1
  cases h1
  exact ⟨oe', g1, g2⟩
theorem VRs.heldTurn {S : Addr} {h' : Heap} (hs : Heap.SameBut S s.heap h') {as : List AV} {vs : List Value} (y : VRs s.heap ((F.plus S).P obs) obs as vs) : VRs h' ((F.plus S).P obs) obs as vs :=
  VRs.mono (fun a h => (KeptAt.of_eq (hs.2 a fun z => h (plus_P.mpr (.inl z)))).v) (fun a h => .inl h) (fun _ _ e => e) y
theorem Rel.heldOut {S : Addr} (r : Rel C (F.plus S) obs st s) : S ∉ F.mine obs := fun h => by
  have h2 : (S :: F.all obs).Nodup := r.nod
  exact (List.nodup_cons.mp h2).1 (List.mem_append_right _ h)
theorem TupL.nf {h : Heap} {t : Addr} {n : String} {vs : List Value} (x : TupL h t n vs) : ∃ oi, h.get? t = some oi ∧ ∀ vs, oi.data ≠ .fields vs := by
  obtain ⟨o, k, ho, hc, hd⟩ := x
  exact ⟨o, ho, fun vs e => by rw [hd] at e; cases e⟩
theorem TupL.turn {h : Heap} {t : Addr} {n : String} {vs vs' : List Value} (x : TupL h t n vs) {f : Array Value → Array Value} (hf : f vs.toArray = vs'.toArray) : TupL (h.update t (Obj.mapSeq f)) t n vs' := by
  obtain ⟨⟨c, d, dt, sl⟩, k, ho, hc, hd⟩ := x
  simp only at hd hc
  subst hd
  exact ⟨_, _, Heap.get?_update_self _ ho rfl, hc, by show Data.seq (f vs.toArray) _ = _; rw [hf]⟩
theorem fill_loop {n i : Nat} {c fI fN S x : Addr} (hc : ItCls C c fI fN) {Ql : List AV → List OB → Prop} {Xl : AV → List OB → Prop} {A : Around} {R : Result → Shared → Prop} (hFA : F.A = A.in1) (hn : n ≤ F.d) (hh : F.hd = none) :
    ∀ (k : Nat) (acc : List AV) (st : St) (obs : Obs) (s : Shared) (ws : List Value), acc.length + k ≤ 1000000 → WRun C n c fN i Ql Xl k acc st.objs →
      Rel C (F.plus S) obs st s → TupL s.heap S "list" ws → VRs s.heap ((F.plus S).P obs) obs acc ws → VR s.heap ((F.plus S).P obs) obs (.obj i) (.ref x) →
      (∀ acc' objs' obs' s' ws', Ql acc' objs' → Rel C (F.plus S) obs' { st with objs := objs' } s' → TupL s'.heap S "list" ws' → VRs s'.heap ((F.plus S).P obs') obs' acc' ws' → StepB F S obs s obs' s' → R (.ok (.ret .none)) s') →
      (∀ y e objs' obs' s', Xl y objs' → Rel C (F.plus S) obs' { st with objs := objs' } s' → (∃ oi, s'.heap.get? S = some oi ∧ ∀ vs, oi.data ≠ .fields vs) → ExIn C (F.plus S) obs' s s' y e → StepB F S obs s obs' s' → R (.error (.ref e)) s') →
      codeAny C.M A (.builtin "list.extend.loop" ⟨[.ref S, .ref x, .none], []⟩) R s := by
  intro k
  induction k with
  | zero => intro acc st obs s ws hl hw; exact hw.elim
  | succ k ih =>
    intro acc st obs s ws hl hw r hS hacc hx k1 k2
    obtain ⟨⟨as, has⟩, hw⟩ := hw
    obtain ⟨ox, od, I⟩ := r.instOf has hx
    refine codeAny_builtin PySem.F.entry_extend_loop ?_
    rw [Around.under_plainId PySem.F.plain_extend_loop _]
    show wpAny _ A.in1 (pyNext (.ref x) >>= _) _ _ s
    refine wpAny_bind (next_own r.kin I hc.next hc.nextF (wpAny_call ?_))
    rw [← hFA]
    refine hw (F.plus S) st obs s [.ref x] _ hn hh rfl r (by simp only [VRs]; exact ⟨_, [], rfl, hx, rfl⟩) (fun b v objs' o' s' q r' z g => ?_) (fun y e objs' o' s' q r' z g => ?_)
    · have hS' : TupL s'.heap S "list" ws := hS.kept (g.ag S r.heldOut).v
      have gB : StepB F S obs s o' s' := ⟨fun a h _ => g.ag a h, g.ext, fun a o _ e => g.stands a o e⟩
      obtain ⟨oS, cS, e1, e2, e3⟩ := id hS'
      have hlen : ws.length = acc.length := hacc.length
      have hsz : ws.toArray.size = acc.length := by simpa using hlen
      show wpAny _ _ (updateSeq S (·.push v) >>= _) _ _ _
      refine wpAny_bind (wpAny_updateSeq e1 e3 (wpAny_pure ⟨plainId_quiet PySem.F.plain_extend_loop _, ?_⟩) (by rw [hsz, sizeLine_eq]; omega) (by show (ws.toArray.push v).size ≤ sizeLine + 1; rw [Array.size_push, hsz, sizeLine_eq]; omega))
      have hsb := Heap.SameBut.update s'.heap S (Obj.mapSeq (·.push v))
      have hS2 : TupL (s'.heap.update S (Obj.mapSeq (·.push v))) S "list" (ws ++ [v]) := hS'.turn (by simp)
      have r2 := r'.heldTurn' hsb (.inr hS2.nf) hS2.there
      have gB2 : StepB F S o' s' o' { s' with heap := s'.heap.update S (Obj.mapSeq (·.push v)) } := StepB.same (fun b o hb e => (hsb.2 b hb).trans e) s'.toks
      have gg := gB.trans gB2 hS'.there
      refine ih (acc ++ [b]) { st with objs := objs' } o' _ (ws ++ [v]) (by simp; omega) q r2 hS2 ?_ ?_ (fun acc' objs2 o2 s2 ws' q2 r2 t2 v2 g2 => k1 acc' objs2 o2 s2 ws' q2 r2 t2 v2 (gg.trans g2 hS2.there)) (fun y e objs2 o2 s2 q2 r2 n2 z2 g2 => k2 y e objs2 o2 s2 q2 r2 n2 (z2.earlier fun a o e => ?_) (gg.trans g2 hS2.there))
      · refine VRs.append (VRs.heldTurn hsb (hacc.step g)) (VRs.heldTurn hsb ?_)
        simp only [VRs]
        exact ⟨v, [], rfl, z, rfl⟩
      · simp only [VR] at hx ⊢
        obtain ⟨p, hp, e⟩ := hx
        exact ⟨p, g.obsAt _ _ hp, e⟩
      · by_cases ha : a = S
        · subst ha; exact hS2.there
        · exact gg.stands a o ha e
    · have hS' : TupL s'.heap S "list" ws := hS.kept (g.ag S r.heldOut).v
      have gB : StepB F S obs s o' s' := ⟨fun a h _ => g.ag a h, g.ext, fun a o _ e => g.stands a o e⟩
      rcases q with ⟨rfl, q⟩ | ⟨⟨cx, args, rfl, hsub⟩, q⟩
      · exact ⟨"StopIteration", z.typeIs rfl, .inl ⟨stop_stop, wpAny_pure (k1 acc objs' o' s' ws q r' hS' (hacc.step g) gB)⟩⟩
      · exact ⟨cx, z.typeIs rfl, .inr ⟨hsub, k2 _ e objs' o' s' q r' hS'.nf z gB⟩⟩
end
end Mine
namespace Mine
section
variable {C : Cx} {F : Fm} {st : St} {Q X : AV → St → Prop} {obs obs' : Obs} {s s' : Shared}
theorem in2_ok (ok : F.Ok) (hd : 1 ≤ F.d) : ({ F with A := F.A.in1.in1, d := F.d - 1 } : Fm).Ok := by
  refine ⟨ok.kind, ok.globals, ok.builtins, ok.frame, ok.frames, ok.handled, ?_, ?_⟩
  · have := ok.depth
    show F.A.depth + (F.d - 1) < 990; omega
  · have := ok.units
    show F.A.units + 1 + 1 + 20 * (F.d - 1) < 9800; omega
theorem VR.unheld {S : Addr} {a : AV} {v : Value} (y : VR s.heap ((F.plus S).P obs) obs a v) : VR s.heap (F.P obs) obs a v :=
  VR.mono (fun a _ => (KeptAt.refl _ a).v) (fun a h => .inl (plus_P.mpr (.inr h))) (fun _ _ e => e) y
theorem VRs.unheld {S : Addr} {a : List AV} {v : List Value} (y : VRs s.heap ((F.plus S).P obs) obs a v) : VRs s.heap (F.P obs) obs a v :=
  VRs.mono (fun a _ => (KeptAt.refl _ a).v) (fun a h => .inl (plus_P.mpr (.inr h))) (fun _ _ e => e) y
theorem ExIn.unheld {S : Addr} {x : AV} {e : Addr} {s₀ : Shared} (h : ExIn C (F.plus S) obs s₀ s x e) : ExIn C F obs s₀ s x e := by
  obtain ⟨fl, z, q⟩ := h
  exact ⟨fl, z.weaken fun a h => plus_P.mpr (.inr h), q⟩
theorem call_list_it {n k i : Nat} {c fI fN : Addr} {as : List (Str × AV)} (hc : ItCls C c fI fN) (hi : st.objs[i]? = some (c, as)) (hk : k ≤ 1000000)
    (hit : WFn C n fI [.obj i] st.objs (fun v objs' => v = .obj i ∧ objs' = st.objs) (fun _ _ => False))
    (hrun : WRun C n c fN i (fun acc objs' => Q (.lst acc) { st with objs := objs' }) (fun x objs' => X x { st with objs := objs' }) k [] st.objs)
    (hd : n + 1 ≤ F.d) (hh : F.hd = none) : WCall C F (.type "list") [.obj i] st Q X := by
  intro obs s vals Qs Es r y k1 k2
  simp only [VRs] at y
  obtain ⟨v, l, rfl, y, rfl⟩ := y
  have hx := y
  simp only [VR] at hx
  obtain ⟨p, hp, rfl⟩ := hx
  refine callType_codes (Q₁ := fun obj s₁ => obj = .ref s.heap.objs.size ∧ s₁ = { s with heap := s.heap.push { cls := .type "list", data := .seq #[] } }) PySem.F.called_list (PySem.F.typeCall_list_1 _) PySem.F.entry_list_init
    (code_list_new _ ⟨rfl, rfl⟩) fun obj s₁ h₁ => ?_
  obtain ⟨rfl, rfl⟩ := h₁
  generalize hSd : s.heap.objs.size = S
  have hS : (s.heap.push { cls := .type "list", data := .seq #[] }).get? S = some { cls := .type "list", data := .seq #[] } := hSd ▸ Heap.get?_push_size _ rfl
  refine ⟨⟨_, hS, rfl⟩, PySem.F.args_list_init_2 _ _, ?_⟩
  let F1 : Fm := { F with A := F.A.in1.in1, d := F.d - 1 }
  have rS : Rel C (F1.plus S) obs st { s with heap := s.heap.push { cls := .type "list", data := .seq #[] } } := by
    have := (r.under (in2_ok r.ok (by omega))).forbid { cls := .type "list", data := .seq #[] } rfl
    rw [hSd] at this; exact this
  have hSn : s.heap.get? S = none := by
    cases q : s.heap.get? S with
    | none => rfl
    | some o => exact absurd (Heap.lt_size q) (by rw [hSd]; exact Nat.lt_irrefl _)
  have g0 : Step F obs s obs { s with heap := s.heap.push { cls := .type "list", data := .seq #[] } } := Step.push F obs s _
  show wpAny _ F.A.in1.in1 (do let old ← Builtin.List.listItems (.ref S); Builtin.List.listUpdate (.ref S) (fun _ => #[]); letGo old.toList.reverse; Builtin.List.listExtendWith (.ref S) (.ref p.1) .none) _ _ _
  refine wpAny_bind ?_
  unfold Builtin.List.listItems
  refine wpAny_bind (wpAny_seqItems hS rfl (wpAny_pure ?_))
  show wpAny _ F.A.in1.in1 (updateSeq S (fun _ => #[]) >>= fun _ => letGo (#[] : Array Value).toList.reverse >>= fun _ => Builtin.List.listExtendWith (.ref S) (.ref p.1) .none) _ _ _
  refine wpAny_bind (wpAny_updateSeq hS rfl (wpAny_bind (wpAny_letGo ?_)))
  have T0 : TupL (s.heap.push { cls := .type "list", data := .seq #[] }) S "list" [] := ⟨_, 0, hS, rfl, rfl⟩
  have T1 := T0.turn (f := fun _ => (#[] : Array Value)) (vs' := []) rfl
  have sb1 := Heap.SameBut.update (s.heap.push { cls := .type "list", data := .seq #[] }) S (Obj.mapSeq fun _ => (#[] : Array Value))
  have r1 := rS.heldTurn' sb1 (.inr T1.nf) T1.there
  have B1 : StepB F S obs { s with heap := s.heap.push { cls := .type "list", data := .seq #[] } } obs _ := StepB.same (s := { s with heap := s.heap.push { cls := .type "list", data := .seq #[] } }) (fun b o hb e => (sb1.2 b hb).trans e) s.toks
  generalize hh1 : (s.heap.push { cls := .type "list", data := .seq #[] }).update S (Obj.mapSeq fun _ => (#[] : Array Value)) = h1 at r1 T1 B1
  have G1 : StepB F S obs s obs { s with heap := h1 } := by
    refine ⟨fun a h1 h2 => ?_, ?_, ?_⟩
    · exact (g0.ag a h1).trans (B1.ag a h1 h2)
    · exact ⟨[], by simp, by simp⟩
    · intro a o h e
      obtain ⟨o', e'⟩ := g0.stands a o e
      exact B1.stands a o' h e'
  have hx1 : VR h1 ((F1.plus S).P obs) obs (.obj i) (.ref p.1) := by simp only [VR]; exact ⟨p, hp, rfl⟩
  obtain ⟨ox, od, I⟩ := r1.instOf hi hx1
  have hne : Builtin.List.listSameRef (.ref S) (.ref p.1) = false := by
    have : S ≠ p.1 := fun e => by
      have hxl := I.1
      have : F.P obs p.1 := List.mem_append_right _ (List.mem_cons_of_mem _ (mem_obA_of hp).1)
      obtain ⟨o, q⟩ := r.live _ this
      rw [← e, hSn] at q; cases q
    simp [Builtin.List.listSameRef, this]
  unfold Builtin.List.listExtendWith
  refine wpAny_bind (I.type.here ?_)
  have h2 : (Value.ref c == Value.type "list") = false := rfl
  have h3 : (Value.ref c == Value.type "tuple") = false := rfl
  simp only [hne, h2, h3, Bool.or_false, Bool.false_eq_true, if_false]
  refine wpAny_bind (iter_own r1.kin I hc.iter hc.iterF (wpAny_call ?_))
  refine hit (F1.plus S) st obs { s with heap := h1 } [.ref p.1] _ (by show n ≤ F.d - 1; omega) hh rfl r1 (by simp only [VRs]; exact ⟨_, [], rfl, hx1, rfl⟩) (fun b v objs' o2 s2 q r2 z g2 => ?_) (fun x e objs' o' s' q => q.elim)
  obtain ⟨rfl, rfl⟩ := q
  have z' := z
  simp only [VR] at z'
  obtain ⟨p', hp', rfl⟩ := z'
  have ep : p' = p := by
    have := g2.obsAt _ _ hp
    rw [hp'] at this; exact Option.some.inj this
  subst ep
  obtain ⟨ox2, od2, I2⟩ := r2.instOf hi z
  have T2 : TupL s2.heap S "list" [] := T1.kept (g2.ag S r1.heldOut).v
  have B2 : StepB F S obs { s with heap := h1 } o2 s2 := ⟨fun a h _ => g2.ag a h, g2.ext, fun a o _ e => g2.stands a o e⟩
  have G2 := G1.trans B2 T1.there
  refine ⟨.ref fN, I2.type.andThen (looks_findIn r2.kin hc.next), ?_⟩
  refine wpAny_bind (wpAny_holding ?_)
  unfold Builtin.List.listLengthHint
  refine wpAny_bind ((I2.type.andThen (looks_findIn r2.kin hc.len)).here ?_)
  show wpAny _ _ (specialOf (Value.ref p'.1) (Str.ofString "__length_hint__") >>= _) _ _ _
  refine wpAny_bind ((I2.type.andThen (looks_findIn r2.kin hc.hint)).here ?_)
  refine wpAny_pure ?_
  show wpAny _ _ (rule "list.extend.makes-room" >>= fun _ => Builtin.List.listTouch (.ref S) >>= fun _ => again (.builtin "list.extend.loop" ⟨[.ref S, .ref p'.1, .none], []⟩)) _ _ _
  refine wpAny_bind (wpAny_rule (wpAny_bind ?_))
  obtain ⟨oS, cS, e1, e2, e3⟩ := id T2
  show wpAny _ _ (updateSeq S (·.push .none) >>= fun _ => updateSeq S (·.pop)) _ _ _
  refine wpAny_bind (wpAny_updateSeq e1 e3 ?_ (by rw [sizeLine_eq]; simp) (by rw [sizeLine_eq]; simp))
  have T3 := T2.turn (f := (·.push Value.none)) (vs' := [.none]) rfl
  obtain ⟨oS3, cS3, e13, e23, e33⟩ := id T3
  refine wpAny_updateSeq e13 e33 ?_ (by rw [sizeLine_eq]; simp) (by rw [sizeLine_eq]; simp)
  have T4 := T3.turn (f := (·.pop)) (vs' := []) rfl
  have sb3 := Heap.SameBut.update s2.heap S (Obj.mapSeq (·.push Value.none))
  have sb4 := Heap.SameBut.update (s2.heap.update S (Obj.mapSeq (·.push Value.none))) S (Obj.mapSeq (·.pop))
  have sb : Heap.SameBut S s2.heap ((s2.heap.update S (Obj.mapSeq (·.push Value.none))).update S (Obj.mapSeq (·.pop))) := sb3.trans sb4
  have r4 := r2.heldTurn' sb (.inr T4.nf) T4.there
  have B4 : StepB F S o2 s2 o2 _ := StepB.same (s := s2) (fun b o hb e => (sb.2 b hb).trans e) s2.toks
  generalize (s2.heap.update S (Obj.mapSeq (·.push Value.none))).update S (Obj.mapSeq (·.pop)) = h4 at r4 T4 B4
  have G4 := G2.trans B4 T2.there
  have hx4 : VR h4 ((F1.plus S).P o2) o2 (.obj i) (.ref p'.1) := by simp only [VR]; exact ⟨p', hp', rfl⟩
  refine wpAny_pure ⟨plainId_quiet PySem.F.plain_extend_loop _, ?_⟩
  refine fill_loop (F := F1) (A := F.A.in1) hc rfl (by show n ≤ F.d - 1; omega) hh k [] { st with objs := st.objs } o2 { s2 with heap := h4 } [] (by simpa using hk) hrun r4 T4 (by simp [VRs]) hx4 (fun acc' objs' o' s' ws' q r' T' V' g' => ?_) (fun y e objs' o' s' q r' n' z' g' => ?_)
  · have GF := G4.trans (⟨g'.ag, g'.ext, g'.stands⟩ : StepB F S o2 _ o' s') T4.there
    have gF : Step F obs s o' s' := StepB.after (Step.refl F obs s) GF hSn
    have rF : Rel C F o' { st with objs := objs' } s' := Rel.over (F := F) (A := F.A.in1.in1) (d := F.d - 1) (r'.heldGo' (h' := s'.heap) (fun _ _ _ e => e) (.inr T'.nf) s'.toks) r.ok
    refine ⟨rfl, k1 _ _ _ o' s' q rF ?_ gF⟩
    simp only [VR]
    refine ⟨S, ws', rfl, fun h => ?_, T', VRs.unheld V'⟩
    have h2 : (S :: F.all o').Nodup := r'.nod
    exact (List.nodup_cons.mp h2).1 h
  · have GF := G4.trans (⟨g'.ag, g'.ext, g'.stands⟩ : StepB F S o2 _ o' s') T4.there
    have gF : Step F obs s o' s' := StepB.after (Step.refl F obs s) GF hSn
    have rF : Rel C F o' { st with objs := objs' } s' := Rel.over (F := F) (A := F.A.in1.in1) (d := F.d - 1) (r'.heldGo' (h' := s'.heap) (fun _ _ _ e => e) (.inr n') s'.toks) r.ok
    refine k2 y e _ o' s' q rF (ExIn.earlier (s₁ := { s2 with heap := h4 }) (fun a o e => ?_) (ExIn.unheld (F := F1) z')) gF
    by_cases ha : a = S
    · subst ha; rw [hSn] at e; cases e
    · exact G4.stands a o ha e
end
end Mine
namespace Mine
inductive PD : AV → PyData → Prop
  | none : PD .none .none
  | bool (b) : PD (.bool b) (.bool b)
  | int (i) : PD (.int i) (.int i)
  | str (x) : PD (.str x) (.str x)
  | tnil : PD (.tup []) (.tuple [])
  | tcons {a d as ds} : PD a d → PD (.tup as) (.tuple ds) → PD (.tup (a :: as)) (.tuple (d :: ds))
  | lnil : PD (.lst []) (.list [])
  | lcons {a d as ds} : PD a d → PD (.lst as) (.list ds) → PD (.lst (a :: as)) (.list (d :: ds))
theorem PD.strs : ∀ xs : List Str, PD (.lst (xs.map .str)) (.list (xs.map .str))
  | [] => .lnil
  | x :: xs => .lcons (.str x) (PD.strs xs)
theorem PD.ints : ∀ xs : List Int, PD (.lst (xs.map .int)) (.list (xs.map .int))
  | [] => .lnil
  | x :: xs => .lcons (.int x) (PD.ints xs)
section
variable {h : Heap} {P : Addr → Prop} {obs : Obs}
theorem reads_main {av : AV} {d : PyData} (p : PD av d) : (∀ v, VR h P obs av v → ∃ as, Reads h v d as) ∧ (∀ as ds, av = .tup as → d = .tuple ds → ∀ vs, VRs h P obs as vs → ∃ l, ReadsAll h vs ds l) ∧
    (∀ as ds, av = .lst as → d = .list ds → ∀ vs, VRs h P obs as vs → ∃ l, ReadsAll h vs ds l) := by
  have nilA : ∀ vs : List Value, VRs h P obs [] vs → ∃ l, ReadsAll h vs [] l := fun vs y => by
    simp only [VRs] at y; subst y; exact ⟨_, .nil⟩
  have tupR : ∀ as ds, (∀ vs, VRs h P obs as vs → ∃ l, ReadsAll h vs ds l) → ∀ v, VR h P obs (.tup as) v → ∃ l, Reads h v (.tuple ds) l := fun as ds H v y => by
    simp only [VR] at y
    obtain ⟨a, ws, rfl, _, ⟨o, k, ho, hc, hd⟩, y⟩ := y
    obtain ⟨l, q⟩ := H _ y
    exact ⟨_, reads_tuple_at ho hc hd (by simpa using q)⟩
  have lstR : ∀ as ds, (∀ vs, VRs h P obs as vs → ∃ l, ReadsAll h vs ds l) → ∀ v, VR h P obs (.lst as) v → ∃ l, Reads h v (.list ds) l := fun as ds H v y => by
    simp only [VR] at y
    obtain ⟨a, ws, rfl, _, ⟨o, k, ho, hc, hd⟩, y⟩ := y
    obtain ⟨l, q⟩ := H _ y
    exact ⟨_, reads_list_at ho hc hd (by simpa using q)⟩
  have consA : ∀ a d as ds, (∀ v, VR h P obs a v → ∃ as, Reads h v d as) → (∀ vs, VRs h P obs as vs → ∃ l, ReadsAll h vs ds l) → ∀ vs, VRs h P obs (a :: as) vs → ∃ l, ReadsAll h vs (d :: ds) l := fun a d as ds H1 H2 vs y => by
    simp only [VRs] at y
    obtain ⟨v, r, rfl, y1, y2⟩ := y
    obtain ⟨l1, q1⟩ := H1 _ y1
    obtain ⟨l2, q2⟩ := H2 _ y2
    exact ⟨_, .cons q1 q2⟩
  induction p with
  | none => exact ⟨fun v y => by simp only [VR] at y; subst y; exact ⟨_, .none⟩, fun as ds e => (by cases e), fun as ds e => (by cases e)⟩
  | bool b => exact ⟨fun v y => by simp only [VR] at y; subst y; exact ⟨_, .bool b⟩, fun as ds e => (by cases e), fun as ds e => (by cases e)⟩
  | int i => exact ⟨fun v y => by simp only [VR] at y; obtain ⟨t, rfl⟩ := y; exact ⟨_, .int i t⟩, fun as ds e => (by cases e), fun as ds e => (by cases e)⟩
  | str x => exact ⟨fun v y => by simp only [VR] at y; obtain ⟨t, rfl⟩ := y; exact ⟨_, .str x t⟩, fun as ds e => (by cases e), fun as ds e => (by cases e)⟩
  | tnil => exact ⟨tupR _ _ nilA, fun as ds e1 e2 => (by cases e1; cases e2; exact nilA), fun as ds e => (by cases e)⟩
  | lnil => exact ⟨lstR _ _ nilA, fun as ds e => (by cases e), fun as ds e1 e2 => (by cases e1; cases e2; exact nilA)⟩
  | tcons p1 p2 ih1 ih2 =>
    have A := consA _ _ _ _ ih1.1 (ih2.2.1 _ _ rfl rfl)
    exact ⟨tupR _ _ A, fun as ds e1 e2 => (by cases e1; cases e2; exact A), fun as ds e => (by cases e)⟩
  | lcons p1 p2 ih1 ih2 =>
    have A := consA _ _ _ _ ih1.1 (ih2.2.2 _ _ rfl rfl)
    exact ⟨lstR _ _ A, fun as ds e => (by cases e), fun as ds e1 e2 => (by cases e1; cases e2; exact A)⟩
theorem VR.reads {av : AV} {d : PyData} (p : PD av d) {v : Value} (y : VR h P obs av v) : ∃ as, Reads h v d as := (reads_main p).1 v y
end
section
variable {C : Cx} {F : Fm} {st : St} {Q X : AV → St → Prop} {obs obs' : Obs} {s s' : Shared}
theorem cmp_eq_data {a b : AV} {da db : PyData} (pa : PD a da) (pb : PD b db) (ha : SeqAt.shaped da = true) (hb : SeqAt.shaped db = true) (h : Q (.bool (PyData.eqv da db)) st) : W2 C F (compareOp .Eq) a b st Q X := fun obs s u v Qs Es r y z k1 k2 => by
  obtain ⟨as, ra⟩ := VR.reads pa y
  obtain ⟨bs, rb⟩ := VR.reads pb z
  exact eq_dataH ra rb ha hb (by have := r.ok.units; show _ < 9900; omega) (k1 _ _ st obs _ h r rfl (Step.refl ..))
theorem cmp_ne_data {a b : AV} {da db : PyData} (pa : PD a da) (pb : PD b db) (ha : SeqAt.shaped da = true) (hb : SeqAt.shaped db = true) (h : Q (.bool (!PyData.eqv da db)) st) : W2 C F (compareOp .NotEq) a b st Q X := fun obs s u v Qs Es r y z k1 k2 => by
  obtain ⟨as, ra⟩ := VR.reads pa y
  obtain ⟨bs, rb⟩ := VR.reads pb z
  exact ne_dataH ra rb ha hb (by have := r.ok.units; show _ < 9900; omega) (k1 _ _ st obs _ h r rfl (Step.refl ..))
theorem VRs.strsAre {h : Heap} {P : Addr → Prop} : ∀ {xs : List Str} {vs : List Value}, VRs h P obs (xs.map .str) vs → PyProof.Rows.StrsAre vs xs
  | [], _, y => by simp only [List.map_nil, VRs] at y; subst y; exact .nil
  | x :: xs, _, y => by
    simp only [List.map_cons, VRs, VR] at y
    obtain ⟨v, r, rfl, ⟨t, rfl⟩, y⟩ := y
    exact .cons x t (VRs.strsAre y)
theorem cmp_in_lst {k : Str} {vs : List AV} {xs : List Str} (hv : vs = xs.map .str) (h : Q (.bool (xs.any (· == k))) st) : W2 C F (compareOp .In) (.str k) (.lst vs) st Q X := fun obs s u v Qs Es r y z k1 k2 => by
  subst hv
  simp only [VR] at y z
  obtain ⟨t, rfl⟩ := y
  obtain ⟨a, ws, rfl, _, ⟨o, n, ho, hc, hd⟩, z⟩ := z
  exact in_list_strs ⟨o, ho, hc, n, hd⟩ z.strsAre (k1 _ _ st obs _ h r rfl (Step.refl ..))
theorem cmp_in_tup {k : Str} {vs : List AV} {xs : List Str} (hv : vs = xs.map .str) (h : Q (.bool (xs.any (· == k))) st) : W2 C F (compareOp .In) (.str k) (.tup vs) st Q X := fun obs s u v Qs Es r y z k1 k2 => by
  subst hv
  simp only [VR] at y z
  obtain ⟨t, rfl⟩ := y
  obtain ⟨a, ws, rfl, _, ⟨o, n, ho, hc, hd⟩, z⟩ := z
  exact in_tuple_strs ⟨o, ho, hc, n, hd⟩ (by simpa using z.strsAre) (k1 _ _ st obs _ h r rfl (Step.refl ..))
theorem call_type_int {i : Int} (h : Q (.glob (.type "int")) st) : WCall C F (.type "type") [.int i] st Q X := fun obs s vals Qs Es r y k1 k2 => by
  simp only [VRs, VR] at y
  obtain ⟨v, r', rfl, ⟨t, rfl⟩, rfl⟩ := y
  exact call_type_of (Tx := "int") rfl (by decide +kernel) (k1 _ _ st obs _ h r rfl (Step.refl ..))
theorem call_type_str {x : Str} (h : Q (.glob (.type "str")) st) : WCall C F (.type "type") [.str x] st Q X := fun obs s vals Qs Es r y k1 k2 => by
  simp only [VRs, VR] at y
  obtain ⟨v, r', rfl, ⟨t, rfl⟩, rfl⟩ := y
  exact call_type_of (Tx := "str") rfl (by decide +kernel) (k1 _ _ st obs _ h r rfl (Step.refl ..))
theorem meth_str {x : Str} {name : Str} {id : String} (slot : Slot "str" name id) (ty : typeOf (.builtin id) = pure (.type "method_descriptor")) : MethOf C F (.str x) name st (.builtin id) := fun obs s v pl Qs Es r y k => by
  simp only [VR] at y
  obtain ⟨t, rfl⟩ := y
  exact GM.of (.str x t) (typeIs_str _ _ _) slot ty GM.noRef (k s r (Step.refl ..))
theorem gives_rfind4 (x y : Str) (i j : Int) (t u v w : Tok) : Gives (Builtin.«str.rfind» ⟨[.str x t, .str y u, .int i v, .int j w], []⟩)
    (.int (match Builtin.Str.lastOccurrence x y (fromIndex x.length i) (min (fromIndex x.length j) x.length) with | some k => (k : Int) | none => -1)) := by
  show Gives (match Builtin.Str.lastOccurrence x y (fromIndex x.length i) (min (fromIndex x.length j) x.length) with | some k => retInt k | none => (do rule "str.rfind.not-found"; retInt (-1))) _
  cases Builtin.Str.lastOccurrence x y (fromIndex x.length i) (min (fromIndex x.length j) x.length) with
  | none => exact .rule (.of_eq rfl)
  | some k => exact .of_eq rfl
def rfindV (x y : Str) (i j : Int) : Int := match Builtin.Str.lastOccurrence x y (fromIndex x.length i) (min (fromIndex x.length j) x.length) with | some k => (k : Int) | none => -1
theorem call_rfind4 {x y : Str} {i j : Int} (h : Q (.int (rfindV x y i j)) st) : WCall C F (.builtin "str.rfind") [.str x, .str y, .int i, .int j] st Q X := fun obs s vals Qs Es r y k1 k2 => by
  simp only [VRs, VR] at y
  obtain ⟨_, _, rfl, ⟨t, rfl⟩, _, _, rfl, ⟨u, rfl⟩, _, _, rfl, ⟨v, rfl⟩, _, _, rfl, ⟨w, rfl⟩, rfl⟩ := y
  exact call_gives PySem.F.slot_str_rfind (typeIs_str _ _ _) PySem.F.entry_str_rfind (PySem.F.args_str_rfind_4 _ _ _ _) (gives_rfind4 x y i j t u v w) (k1 _ _ st obs _ h (r.tok _) ⟨_, rfl⟩ (Step.tok ..))
end
end Mine
namespace Mine
def fdOf (K : Frag) (a : Addr) : FuncData := match K.lookup a with
  | some ⟨_, _, .func fd, _⟩ => fd
  | _ => default
def bodyOf (fd : FuncData) : List Stmt := match fd.body with
  | .stmts b => b
  | _ => []
def lookOk (K : Frag) (a : Addr) : Bool := match K.lookup a with
  | some ⟨_, _, .func fd, _⟩ => (match fd.body with | .stmts _ => true | _ => false)
  | _ => false
theorem lookOk_of {K : Frag} {a : Addr} (h : lookOk K a = true) : (∃ o, K.lookup a = some o ∧ o.data = .func (fdOf K a)) ∧ (fdOf K a).body = .stmts (bodyOf (fdOf K a)) := by
  unfold lookOk at h
  unfold fdOf
  cases q : K.lookup a with
  | none => rw [q] at h; cases h
  | some o =>
    rw [q] at h
    obtain ⟨c, d, dt, sl⟩ := o
    cases dt with
    | func fd =>
      refine ⟨⟨_, rfl, rfl⟩, ?_⟩
      dsimp only at h ⊢
      unfold bodyOf
      cases e : fd.body with
      | stmts b => rfl
      | expr x => rw [e] at h; cases h
    | _ => cases h
def noDup : List Str → Bool
  | [] => true
  | x :: xs => !xs.contains x && noDup xs
theorem noDup_of : ∀ {l : List Str}, noDup l = true → l.Nodup
  | [], _ => List.nodup_nil
  | x :: xs, h => by
    simp only [noDup, Bool.and_eq_true, Bool.not_eq_true', List.contains_eq_mem, decide_eq_false_iff_not] at h
    exact List.nodup_cons.mpr ⟨h.1, noDup_of h.2⟩
def glOk (K : Frag) (x : Str) (v : Value) : Bool := match nsIn K mainGlobals x with
  | some (some u) => u == v
  | some none => bootBuiltins x == some v && !(x == ("__name__" : Str))
  | none => false
def fnCheck (K : Frag) (f : Fn) (fd : FuncData) : Bool :=
  lookOk K f.a && (fd.scope.kind == .function) && !fd.scope.isGenerator && !fd.scope.isCoroutine && fd.scope.names.all (fun x => x.2 != .cell) && (fd.globals == mainGlobals) && (fd.builtins == builtinsNs) &&
  codeIn K fd.code fd.qualname && f.names.all (fun x => fd.scope.names.lookup x == some .local && !(x == ("__debug__" : Str))) && noDup f.names &&
  f.gl.all (fun p => fd.scope.names.lookup p.1 == some .globalImplicit && !(p.1 == ("__debug__" : Str)) && glOk K p.1 p.2)
theorem mg_none {K : Frag} {h : Heap} {mg : Str → Option Value} {n : Str} (X : K.In h) (G : h.Ns mainGlobals mg) (e : nsIn K mainGlobals n = some none) : mg n = none := by
  obtain ⟨o, es, ep, ho, hd, _, hf⟩ := G
  unfold nsIn at e
  split at e
  · rename_i c d es' n' sl q
    have := X _ _ q
    rw [ho] at this
    cases this
    cases hd
    rw [← hf]
    unfold nsFind findBy
    rw [← Array.find?_toList]
    split at e
    · cases e
    · rename_i he
      simp only [he]; rfl
  · cases e
theorem glOk_of {C : Cx} (ok : C.Ok) {x : Str} {v : Value} (h : glOk C.K x v = true) : GlOk C x v := by
  unfold glOk at h
  split at h
  · rename_i u q
    rw [beq_iff_eq] at h
    subst h
    exact .inl (mg_of ok.kin ok.g q)
  · rename_i q
    simp only [Bool.and_eq_true, Bool.not_eq_true', beq_iff_eq] at h
    exact .inr ⟨mg_none ok.kin ok.g q, by rw [ok.builtins x (by simpa using h.2)]; exact h.1⟩
  · cases h
theorem fnOk_of {C : Cx} (ok : C.Ok) {mk : List Value → Args} {f : Fn} (hb : f.body = bodyOf (fdOf C.K f.a)) (h : fnCheck C.K f (fdOf C.K f.a) = true)
    (bind : ∀ (s : Shared) (vals : List Value), C.K.In s.heap → vals.length = f.params.length → BindsA s (fdOf C.K f.a) (mk vals) (Bound f (fdOf C.K f.a).scope vals)) : FnOkA C mk f (fdOf C.K f.a) := by
  simp only [fnCheck, Bool.and_eq_true, Bool.not_eq_true', beq_iff_eq, List.all_eq_true, bne_iff_ne, ne_eq] at h
  obtain ⟨⟨⟨⟨⟨⟨⟨⟨⟨⟨h1, h2⟩, h3⟩, h4⟩, h5⟩, h6⟩, h7⟩, h8⟩, h9⟩, h10⟩, h11⟩ := h
  obtain ⟨l1, l2⟩ := lookOk_of h1
  exact ⟨l1, hb ▸ l2, h2, h3, h4, h5, h6, h7, h8, h9, noDup_of h10, fun p hp => ⟨(h11 p hp).1, glOk_of ok (h11 p hp).2⟩, bind⟩
def mkFn (K : Frag) (a : Addr) (params : List Str) (dflt : List (Str × AV)) (locals : List Str) (gl : List (Str × Value)) : Fn := ⟨a, params, dflt, locals, gl, bodyOf (fdOf K a)⟩
theorem fnOk_mk {C : Cx} (ok : C.Ok) {mk : List Value → Args} {a : Addr} {params : List Str} {dflt : List (Str × AV)} {locals : List Str} {gl : List (Str × Value)} (h : fnCheck C.K (mkFn C.K a params dflt locals gl) (fdOf C.K a) = true)
    (bind : ∀ (s : Shared) (vals : List Value), C.K.In s.heap → vals.length = params.length → BindsA s (fdOf C.K a) (mk vals) (Bound (mkFn C.K a params dflt locals gl) (fdOf C.K a).scope vals)) : FnOkA C mk (mkFn C.K a params dflt locals gl) (fdOf C.K a) :=
  fnOk_of (f := mkFn C.K a params dflt locals gl) ok rfl h bind
theorem bindsA_peek {K : Frag} {s : Shared} {fd : FuncData} {args : Args} {Pr : List (Str × Value) → Prop} {binds : List (Str × Value)} (X : K.In s.heap) (h : ∀ S, peek K S (bindArgs fd args) = some binds) (hp : Pr binds) : BindsA s fd args Pr :=
  BindsA.of (fun M A E Q q => (Looks.of_peek X (h _)).here q) hp
section
variable {H : Params → Frag} {C : Cx}
theorem fnOk_K (ok : C.Ok) (hK : C.K = H C.w.params) {mk : List Value → Args} {a : Addr} {params : List Str} {dflt : List (Str × AV)} {locals : List Str} {gl : List (Str × Value)} {ds : List (Str × Value)}
    (h : ∀ pr, fnCheck (H pr) (mkFn (H pr) a params dflt locals gl) (fdOf (H pr) a) = true) (bind : ∀ pr S (vals : List Value), vals.length = params.length → peek (H pr) S (bindArgs (fdOf (H pr) a) (mk vals)) = some (params.zip vals ++ ds)) (hd : DfltR dflt ds) :
    FnOkA C mk (mkFn (H C.w.params) a params dflt locals gl) (fdOf (H C.w.params) a) := by
  rw [← hK]
  refine fnOk_mk ok (by rw [hK]; exact h _) fun s vals X hl => ?_
  refine bindsA_peek X (fun S => ?_) (Bound.of (f := mkFn C.K a params dflt locals gl) (vals := vals) hd)
  rw [hK]; exact bind _ S vals hl
end
theorem len1 {α : Type} {l : List α} (h : l.length = 1) : ∃ x, l = [x] := by
  match l, h with
  | [x], _ => exact ⟨x, rfl⟩
theorem len2 {α : Type} {l : List α} (h : l.length = 2) : ∃ x y, l = [x, y] := by
  match l, h with
  | [x, y], _ => exact ⟨x, y, rfl⟩
theorem len3 {α : Type} {l : List α} (h : l.length = 3) : ∃ x y z, l = [x, y, z] := by
  match l, h with
  | [x, y, z], _ => exact ⟨x, y, z, rfl⟩
end Mine
namespace Mine
section
variable {C : Cx} {F : Fm} {st : St} {Q X : AV → St → Prop}
theorem WCall_use {n : Nat} {a : Addr} {avs : List AV} {Q0 X0 : AV → List OB → Prop} (h : WFn C n a avs st.objs Q0 X0) (hd : n ≤ F.d) (hh : F.hd = none)
    (hq : ∀ v objs', Q0 v objs' → Q v { st with objs := objs' }) (hx : ∀ x objs', X0 x objs' → X x { st with objs := objs' }) : WCall C F (.ref a) avs st Q X := by
  refine WCall_fn (n := n) (fun F' st' obs s vals R h1 h2 h3 r y k1 k2 => h F' st' obs s vals R h1 h2 h3 r y (fun b v objs' o' s' q r' z g => k1 b v objs' o' s' (hq _ _ q) r' z g) fun x e objs' o' s' q r' z g => k2 x e objs' o' s' (hx _ _ q) r' z g) hd hh
theorem keepsK {H : Params → Frag} (hK : C.K = H C.w.params) {f : Addr} (h : ∀ pr, keepIn (H pr) (.ref f) = true) : Keeps C (.ref f) := Keeps.fn (by rw [hK]; exact h _)
theorem HasAt.here {pre : List OB} {c : Addr} {as : List (Str × AV)} {l : List OB} {name : Str} {v : AV} (h : (name, v) ∈ as) : HasAt (pre ++ (c, as) :: l) pre.length c name v :=
  ⟨as, by simp, h⟩
theorem HasAt.next {pre : List OB} {c : Addr} {as : List (Str × AV)} {o : OB} {l : List OB} {name : Str} {v : AV} (h : (name, v) ∈ as) : HasAt (pre ++ o :: (c, as) :: l) (pre.length + 1) c name v :=
  ⟨as, by rw [List.getElem?_append_right (by omega)]; simp, h⟩
theorem SetAt.here {pre : List OB} {c : Addr} {as as' : List (Str × AV)} {l : List OB} {name : Str} {v : AV} (h : Up as name v as') : SetAt (pre ++ (c, as) :: l) pre.length c name v (pre ++ (c, as') :: l) :=
  ⟨as, as', by simp, h, by simp⟩
theorem SetAt.next {pre : List OB} {c : Addr} {as as' : List (Str × AV)} {o : OB} {l : List OB} {name : Str} {v : AV} (h : Up as name v as') : SetAt (pre ++ o :: (c, as) :: l) (pre.length + 1) c name v (pre ++ o :: (c, as') :: l) :=
  ⟨as, as', by rw [List.getElem?_append_right (by omega)]; simp, h, by rw [List.set_append_right _ _ (by omega)]; simp⟩
theorem at_here {pre : List OB} {o : OB} {l : List OB} : (pre ++ o :: l)[pre.length]? = some o := by simp
theorem at_next {pre : List OB} {o o' : OB} {l : List OB} : (pre ++ o :: o' :: l)[pre.length + 1]? = some o' := by rw [List.getElem?_append_right (by omega)]; simp
theorem br_t {b : Bool} {p q : Prop} (hb : b = true) (h : p) : br b p q := ⟨fun _ => h, fun e => absurd (hb.symm.trans e) (by decide)⟩
theorem br_f {b : Bool} {p q : Prop} (hb : b = false) (h : q) : br b p q := ⟨fun e => absurd (hb.symm.trans e) (by decide), fun _ => h⟩
theorem br_split {b : Bool} {p q : Prop} (h1 : b = true → p) (h2 : b = false → q) : br b p q := ⟨h1, h2⟩
end
end Mine
namespace Mine
abbrev S (l : List Nat) : Str := ⟨l.toArray⟩
theorem S_len (l : List Nat) : (S l).length = l.length := by simp [S, Str.length]
theorem S_slice {l : List Nat} {i j : Nat} (h1 : i ≤ j) (h2 : j ≤ l.length) : Txt.slice (S l) (some (i : Int)) (some (j : Int)) = S ((l.drop i).take (j - i)) := by
  have h := slice_closes (x := S l) (i := (i : Int)) (j := (j : Int)) ⟨by omega, by omega, by simpa using h2⟩
  rw [beq_iff_eq] at h
  rw [h]
  simp only [Int.toNat_natCast]
  have : ((j : Int) - (i : Int)).toNat = j - i := by omega
  rw [this]
theorem S_inj {l m : List Nat} : S l = S m ↔ l = m := by simp [S]
theorem S_app (l m : List Nat) : S l ++ S m = S (l ++ m) := by
  show Str.append (S l) (S m) = _
  simp [Str.append, S]
theorem S_eq_beq (l m : List Nat) : (S l == S m) = decide (l = m) := by
  rw [Bool.eq_iff_iff]; simp [S]
theorem S_in (c : Nat) (m : List Nat) : subIn (S [c]) (S m) = decide (c ∈ m) := by
  have := StrLaws.found_one (S m) c
  unfold subIn
  simpa using this
theorem S_in_nil (m : List Nat) : subIn (S []) (S m) = true := by
  unfold subIn
  rw [StrLaws.found_iff]
  exact ⟨0, by simp [S, Str.length], by simp [Builtin.Str.subAt, S, Str.length]⟩
theorem cut_one {l : List Nat} {k : Nat} (h : k < l.length) : (l.drop k).take (k + 1 - k) = [l[k]] := by
  rw [show k + 1 - k = 1 by omega, List.drop_eq_getElem_cons h]; rfl
theorem unb_cons (a : Str) (l : List Str) : List.map (fun x : Str => (x, AV.unb)) (a :: l) = (a, AV.unb) :: List.map (fun x : Str => (x, AV.unb)) l := rfl
theorem unb_nil : List.map (fun x : Str => (x, AV.unb)) [] = [] := rfl
theorem flat_and {v : AV} {p : Prop} (h : v.flat = true) (q : p) : v.flat = true ∧ p := ⟨h, q⟩
def newPchk (K : Frag) (c : Addr) : Bool := match K.lookup c with
  | some ⟨_, _, .cls cd, _⟩ => !cd.abstract && !cd.hasDel && !cd.mro.isEmpty && cd.mro.contains (.ref c) && cd.mro.contains (.type "object")
  | _ => false
theorem newPchk_of {K : Frag} {c : Addr} (h : newPchk K c = true) : ∃ oc od cd sl, K.lookup c = some ⟨oc, od, .cls cd, sl⟩ ∧ cd.abstract = false ∧ cd.hasDel = false ∧ cd.mro.isEmpty = false ∧ cd.mro.contains (.ref c) = true ∧ cd.mro.contains (.type "object") = true := by
  unfold newPchk at h
  split at h
  · rename_i oc od cd sl q
    simp only [Bool.and_eq_true, Bool.not_eq_true'] at h
    exact ⟨oc, od, cd, sl, q, h.1.1.1.1, h.1.1.1.2, h.1.1.2, h.1.2, h.2⟩
  · cases h
theorem bindsA_two {s : Shared} {fd : FuncData} {args : Args} {Pr : List (Str × Value) → Prop} {o1 o2 : Obj} {k : Addr → Addr → List (Str × Value)} (h : bindArgs fd args = (alloc o1 >>= fun a => alloc o2 >>= fun b => pure (k a b))) (hp : ∀ a b, Pr (k a b)) : BindsA s fd args Pr := by
  intro M A E Q q
  rw [h]
  refine wpAny_bind (wpAny_alloc (wpAny_bind (wpAny_alloc (wpAny_pure ?_))))
  exact q _ _ s.toks (hp _ _) fun b o e => Heap.get?_push_of_some _ (Heap.get?_push_of_some _ e)
theorem new_gen {s : Shared} {fd : FuncData} {f : Fn} {x v : Value} {o1 o2 : Obj} (hb : bindArgs fd ⟨[x, v], []⟩ = (alloc o1 >>= fun a => alloc o2 >>= fun b => pure [(("cls" : Str), x), ("args", .ref a), ("kwargs", .ref b)]))
    (l1 : fd.scope.names.lookup ("args" : Str) = some .local) (l2 : fd.scope.names.lookup ("kwargs" : Str) = some .local) (h1 : f.params = [("cls" : Str)]) (h2 : f.dflt = []) (h3 : f.locals = []) : BindsA s fd ⟨[x, v], []⟩ (Bound f fd.scope [x]) := by
  have hn : f.names = [("cls" : Str)] := by unfold Fn.names; rw [h1, h2, h3]; rfl
  refine bindsA_two hb fun a b => ?_
  refine ⟨[], [("args", .ref a), ("kwargs", .ref b)], by rw [h1]; exact List.Perm.refl _, by rw [h2]; trivial, by show ([("args" : Str), "kwargs"] : List Str).Nodup; decide +kernel, fun p hp => ?_⟩
  have nn : ∀ q : Str, q = "args" ∨ q = "kwargs" → q ∉ [("cls" : Str)] := by
    rintro q (rfl | rfl) <;> decide +kernel
  rw [hn]
  simp only [List.mem_cons, List.not_mem_nil, or_false] at hp
  rcases hp with rfl | rfl
  · exact ⟨nn _ (.inl rfl), l1⟩
  · exact ⟨nn _ (.inr rfl), l2⟩
theorem fnOk_KA {H : Params → Frag} {C : Cx} (ok : C.Ok) (hK : C.K = H C.w.params) {mk : List Value → Args} {a : Addr} {params : List Str} {dflt : List (Str × AV)} {locals : List Str} {gl : List (Str × Value)}
    (h : ∀ pr, fnCheck (H pr) (mkFn (H pr) a params dflt locals gl) (fdOf (H pr) a) = true) (bind : ∀ pr s (vals : List Value), vals.length = params.length → BindsA s (fdOf (H pr) a) (mk vals) (Bound (mkFn (H pr) a params dflt locals gl) (fdOf (H pr) a).scope vals)) :
    FnOkA C mk (mkFn (H C.w.params) a params dflt locals gl) (fdOf (H C.w.params) a) := by
  rw [← hK]
  refine fnOk_mk ok (by rw [hK]; exact h _) fun s vals X hl => ?_
  rw [hK]; exact bind _ s vals hl
def clsChk (K : Frag) (c : Addr) : Bool := match K.lookup c with
  | some ⟨.type n, _, _, _⟩ => n != "tuple"
  | _ => false
theorem clsChk_of {K : Frag} {c : Addr} (h : clsChk K c = true) : ∃ o, K.lookup c = some o ∧ o.cls ≠ .type "tuple" := by
  unfold clsChk at h
  split at h
  · rename_i n _ _ _ q
    exact ⟨_, q, fun e => by cases e; simp at h⟩
  · cases h
theorem fnOk_KP {H : Params → Frag} {C : Cx} (ok : C.Ok) (hK : C.K = H C.w.params) {mk : List Value → Args} {a : Addr} {params : List Str} {dflt : List (Str × AV)} {locals : List Str} {gl : List (Str × Value)} {ds : List (Str × Value)} {bs : List Value → List (Str × Value)}
    (h : ∀ pr, fnCheck (H pr) (mkFn (H pr) a params dflt locals gl) (fdOf (H pr) a) = true) (bind : ∀ pr S (vals : List Value), vals.length = params.length → peek (H pr) S (bindArgs (fdOf (H pr) a) (mk vals)) = some (bs vals)) (hd : DfltR dflt ds)
    (hp : ∀ vals : List Value, vals.length = params.length → (bs vals).Perm (params.zip vals ++ ds)) : FnOkA C mk (mkFn (H C.w.params) a params dflt locals gl) (fdOf (H C.w.params) a) := by
  rw [← hK]
  refine fnOk_mk ok (by rw [hK]; exact h _) fun s vals X hl => ?_
  refine bindsA_peek X (fun S => ?_) (Bound.perm (f := mkFn C.K a params dflt locals gl) (vals := vals) hd (hp vals hl))
  rw [hK]; exact bind _ S vals hl
end Mine
namespace Mine
section
variable {C : Cx} {F : Fm} {X : AV → St → Prop}
theorem WW_ind {ι : Type} {test : Expr} {body : List Stmt} {Q : AFlow → St → Prop} (μ : ι → Nat) (stf : ι → St) (inv : ι → Prop)
    (step : ∀ i, inv i → (∀ j, μ j < μ i → inv j → WW C F test body (stf j) Q X) → WW C F test body (stf i) Q X) : ∀ i, inv i → WW C F test body (stf i) Q X := by
  intro i
  induction h : μ i using Nat.strongRecOn generalizing i with
  | _ n ih =>
    intro hi
    exact step i hi fun j hj hv => ih (μ j) (by omega) j rfl hv
end
inductive LS where
  | sp | a | q1 | q2 | esc | fin
  deriving DecidableEq
abbrev LS.av : LS → AV
  | .sp => .str " "
  | .a => .str "a"
  | .q1 => .str "'"
  | .q2 => .str "\""
  | .esc => .str "\\"
  | .fin => .none
inductive RT where
  | brk (ls : LS) (qd : Bool) (tok rest : List Nat)
  | err (m : Str)
inductive Act where
  | go (ls : LS) (qd : Bool) (es : LS) (tok : List Nat) (sk : Bool)
  | brk (ls : LS) (qd : Bool) (tok : List Nat) (sk : Bool)
def isWs (c : Nat) : Bool := c == 32 || c == 9 || c == 13 || c == 10
def afterLine : List Nat → List Nat
  | [] => []
  | c :: l => if c = 10 then l else afterLine l
theorem afterLine_le : ∀ l, (afterLine l).length ≤ l.length
  | [] => Nat.le_refl _
  | c :: l => by
    simp only [afterLine]
    split
    · simp
    · have := afterLine_le l; simp only [List.length_cons]; omega
def skp (sk : Bool) (l : List Nat) : List Nat := if sk = true then afterLine l else l
theorem skp_le (sk : Bool) (l : List Nat) : (skp sk l).length ≤ l.length := by
  unfold skp; split
  · exact afterLine_le l
  · exact Nat.le_refl _
def act (px cm : Bool) (c : Nat) : LS → Bool → LS → List Nat → Act
  | .fin, qd, _, _ => .brk .fin qd [] false
  | .sp, qd, es, tok =>
    if isWs c = true then (if tok ≠ [] ∨ (px = true ∧ qd = true) then .brk .sp qd tok false else .go .sp qd es tok false)
    else if cm = true ∧ c = 35 then .go .sp qd es tok true
    else if px = true ∧ c = 92 then .go .esc qd .a tok false
    else if c = 39 then .go .q1 qd es (if px = true then tok else [c]) false
    else if c = 34 then .go .q2 qd es (if px = true then tok else [c]) false
    else .go .a qd es [c] false
  | .a, qd, es, tok =>
    if isWs c = true then (if tok ≠ [] ∨ (px = true ∧ qd = true) then .brk .sp qd tok false else .go .sp qd es tok false)
    else if cm = true ∧ c = 35 then (if px = true then (if tok ≠ [] ∨ qd = true then .brk .sp qd tok true else .go .sp qd es tok true) else .go .a qd es tok true)
    else if px = true ∧ c = 39 then .go .q1 qd es tok false
    else if px = true ∧ c = 34 then .go .q2 qd es tok false
    else if px = true ∧ c = 92 then .go .esc qd .a tok false
    else .go .a qd es (tok ++ [c]) false
  | .q1, _, es, tok => if c = 39 then (if px = true then .go .a true es tok false else .brk .sp true (tok ++ [c]) false) else .go .q1 true es (tok ++ [c]) false
  | .q2, _, es, tok =>
    if c = 34 then (if px = true then .go .a true es tok false else .brk .sp true (tok ++ [c]) false)
    else if px = true ∧ c = 92 then .go .esc true .q2 tok false else .go .q2 true es (tok ++ [c]) false
  | .esc, qd, es, tok =>
    if es = .q2 then .go .q2 qd es (if c ≠ 92 ∧ c ≠ 34 then tok ++ [92] ++ [c] else tok ++ [c]) false
    else .go .a qd es (tok ++ [c]) false
def actE : LS → Bool → List Nat → RT
  | .fin, qd, _ => .brk .fin qd [] []
  | .sp, qd, tok => .brk .fin qd tok []
  | .a, qd, tok => .brk .fin qd tok []
  | .q1, _, _ => .err "No closing quotation"
  | .q2, _, _ => .err "No closing quotation"
  | .esc, _, _ => .err "No escaped character"
def rt (px cm : Bool) : List Nat → LS → Bool → LS → List Nat → RT
  | [], ls, qd, _, tok => actE ls qd tok
  | c :: l, ls, qd, es, tok => match act px cm c ls qd es tok with
    | .go ls' qd' es' tok' sk => rt px cm (skp sk l) ls' qd' es' tok'
    | .brk ls' qd' tok' sk => .brk ls' qd' tok' (skp sk l)
termination_by l => l.length
decreasing_by have := skp_le sk l; simp only [List.length_cons]; omega
theorem rt_nil {px cm ls qd es tok} : rt px cm [] ls qd es tok = actE ls qd tok := by rw [rt]
theorem rt_go {px cm c l ls qd es tok ls' qd' es' tok' sk} (h : act px cm c ls qd es tok = .go ls' qd' es' tok' sk) : rt px cm (c :: l) ls qd es tok = rt px cm (skp sk l) ls' qd' es' tok' := by
  rw [rt, h]
theorem rt_brk {px cm c l ls qd es tok ls' qd' tok' sk} (h : act px cm c ls qd es tok = .brk ls' qd' tok' sk) : rt px cm (c :: l) ls qd es tok = .brk ls' qd' tok' (skp sk l) := by
  rw [rt, h]
end Mine
namespace Mine
theorem str_S {x : Str} {l : List Nat} (h : x.cps.toList = l) : x = S l := by subst h; simp [S]
theorem ws_str : (" \t\r\n" : Str) = S [32, 9, 13, 10] := by decide +kernel
theorem es_str : ("\\" : Str) = S [92] := by decide +kernel
theorem qu_str : ("'\"" : Str) = S [39, 34] := by decide +kernel
theorem q1_str : ("'" : Str) = S [39] := by decide +kernel
theorem q2_str : ("\"" : Str) = S [34] := by decide +kernel
theorem nil_str : ("" : Str) = S [] := by decide +kernel
theorem nl_str : ("\n" : Str) = S [10] := by decide +kernel
theorem strs_two (x y : Str) : [AV.str x, AV.str y] = [x, y].map .str := rfl
theorem in_ws (c : Nat) : subIn (S [c]) " \t\r\n" = isWs c := by rw [ws_str, S_in, Bool.eq_iff_iff]; simp [isWs, or_assoc]
theorem in_es (c : Nat) : subIn (S [c]) "\\" = decide (c = 92) := by rw [es_str, S_in]; simp
theorem in_qu (c : Nat) : subIn (S [c]) "'\"" = decide (c = 39 ∨ c = 34) := by rw [qu_str, S_in]; simp
theorem in_nil (c : Nat) : subIn (S [c]) "" = false := by rw [nil_str, S_in]; simp
theorem eq_q1 (c : Nat) : (S [c] == ("'" : Str)) = decide (c = 39) := by rw [q1_str, S_eq_beq]; simp
theorem eq_q2 (c : Nat) : (S [c] == ("\"" : Str)) = decide (c = 34) := by rw [q2_str, S_eq_beq]; simp
theorem ne_es (c : Nat) : (S [c] != ("\\" : Str)) = !decide (c = 92) := by rw [es_str]; simp only [bne, S_eq_beq]; simp
theorem ne_q2 (c : Nat) : (S [c] != ("\"" : Str)) = !decide (c = 34) := by rw [q2_str]; simp only [bne, S_eq_beq]; simp
theorem len_cons (x : Nat) (xs : List Nat) : ((S (x :: xs)).length != 0) = true := by rw [S_len]; simp
theorem len_one (c : Nat) : ((S [c]).length != 0) = true := len_cons c []
theorem in_cm (c : Nat) : subIn (S [c]) "#" = decide (c = 35) := by rw [show ("#" : Str) = S [35] by decide +kernel, S_in]; simp
theorem notb_false {b : Bool} (h : b = true) : (!b) = false := by rw [h]; rfl
theorem notb_true {b : Bool} (h : b = false) : (!b) = true := by rw [h]; rfl
section
variable {C : Cx} {F : Fm} {st : St} {Q X : AV → St → Prop}
theorem gives_find4 (x y : Str) (i j : Int) (t u v w : Tok) : Gives (Builtin.«str.find» ⟨[.str x t, .str y u, .int i v, .int j w], []⟩)
    (.int (match Builtin.Str.occurrences x y (fromIndex x.length i) (min (fromIndex x.length j) x.length) 1 with | k :: _ => (k : Int) | [] => -1)) := by
  show Gives (match Builtin.Str.occurrences x y (fromIndex x.length i) (min (fromIndex x.length j) x.length) 1 with | k :: _ => retInt k | [] => (do rule "str.find.not-found"; retInt (-1))) _
  cases Builtin.Str.occurrences x y (fromIndex x.length i) (min (fromIndex x.length j) x.length) 1 with
  | nil => exact .rule (.of_eq rfl)
  | cons k _ => exact .of_eq rfl
def findV (x y : Str) (i j : Int) : Int := match Builtin.Str.occurrences x y (fromIndex x.length i) (min (fromIndex x.length j) x.length) 1 with | k :: _ => (k : Int) | [] => -1
theorem call_find4 {x y : Str} {i j : Int} (h : Q (.int (findV x y i j)) st) : WCall C F (.builtin "str.find") [.str x, .str y, .int i, .int j] st Q X := fun obs s vals Qs Es r y k1 k2 => by
  simp only [VRs, VR] at y
  obtain ⟨_, _, rfl, ⟨t, rfl⟩, _, _, rfl, ⟨u, rfl⟩, _, _, rfl, ⟨v, rfl⟩, _, _, rfl, ⟨w, rfl⟩, rfl⟩ := y
  exact call_gives PySem.F.slot_str_find (typeIs_str _ _ _) PySem.F.entry_str_find (PySem.F.args_str_find_4 _ _ _ _) (gives_find4 x y i j t u v w) (k1 _ _ st obs _ h (r.tok _) ⟨_, rfl⟩ (Step.tok ..))
end
open PySem.StrLaws Builtin.Str in
theorem occ1_loop (x : Str) (c : Nat) : ∀ (n lo : Nat), lo + n = x.length + 1 → ∀ free ≤ lo,
    (forIn (List.range' lo n) ((#[] : Array Nat), free) (occBody x ⟨#[c]⟩ x.length 1)).run.fst.toList = (match (x.cps.toList.drop lo).findIdx? (· == c) with | some k => [lo + k] | none => [])
  | 0, lo, e, free, hf => by
    have : x.cps.toList.drop lo = [] := List.drop_eq_nil_of_le (by simp [Str.length] at e ⊢; omega)
    rw [this]; simp
  | n + 1, lo, e, free, hf => by
    rw [List.range'_succ, List.forIn_cons]
    unfold occBody
    by_cases hc : x.cps.toList[lo]? = some c
    · have hc' := (subAt_one x c lo).mpr hc
      rw [if_pos ⟨⟨⟨by simp, hf⟩, hc'.1⟩, hc'.2⟩]
      have hd : x.cps.toList.drop lo = c :: x.cps.toList.drop (lo + 1) := by
        obtain ⟨hlt, e⟩ := List.getElem?_eq_some_iff.mp hc
        rw [List.drop_eq_getElem_cons hlt, e]
      rw [hd, List.findIdx?_cons]
      simp only [beq_self_eq_true, if_true]
      have full : ∀ (l : List Nat) (st : Array Nat × Nat), st.fst.size = 1 → (forIn l st (occBody x ⟨#[c]⟩ x.length 1)).run.fst = st.fst := by
        intro l
        induction l with
        | nil => intro st _; rfl
        | cons a l ih =>
          intro st h
          rw [List.forIn_cons]
          unfold occBody
          rw [if_neg (by rintro ⟨⟨⟨z, _⟩, _⟩, _⟩; omega)]
          exact ih _ h
      exact congrArg Array.toList (full (List.range' (lo + 1) n) (#[lo], lo + 1) rfl)
    · rw [if_neg (fun z => hc ((subAt_one x c lo).mp ⟨z.1.2, z.2⟩))]
      have ih := occ1_loop x c n (lo + 1) (by omega) free (by omega)
      refine Eq.trans ih ?_
      rcases Nat.lt_or_ge lo x.cps.toList.length with h | h
      · rw [List.drop_eq_getElem_cons h, List.findIdx?_cons]
        have : (x.cps.toList[lo] == c) = false := by
          rw [beq_eq_false_iff_ne]; intro z; exact hc (by rw [List.getElem?_eq_getElem h, z])
        rw [this]
        cases (x.cps.toList.drop (lo + 1)).findIdx? (· == c) with
        | none => rfl
        | some k => simp; omega
      · rw [List.drop_eq_nil_of_le h, List.drop_eq_nil_of_le (by omega)]; rfl
open PySem.StrLaws in
theorem find_line {l : List Nat} {c p : Nat} (hp : p ≤ l.length) : findV (S l) (S [c]) (p : Int) ((S l).length : Int) = (match (l.drop p).findIdx? (· == c) with | some k => ((p + k : Nat) : Int) | none => -1) := by
  unfold findV
  have e1 : fromIndex (S l).length (p : Int) = p := by unfold fromIndex; rw [if_neg (by omega)]; omega
  have e2 : min (fromIndex (S l).length ((S l).length : Int)) (S l).length = (S l).length := by unfold fromIndex; rw [if_neg (by omega)]; omega
  rw [e1, e2, occ_eq, show S [c] = ⟨#[c]⟩ from rfl, occ1_loop (S l) c ((S l).length + 1 - p) p (by rw [S_len]; omega) p (Nat.le_refl _)]
  cases (l.drop p).findIdx? (· == c) <;> simp_all
theorem afterLine_find : ∀ (l : List Nat), (afterLine l).length = (match l.findIdx? (· == 10) with | some k => l.length - (k + 1) | none => 0)
  | [] => rfl
  | c :: l => by
    rw [List.findIdx?_cons]
    simp only [afterLine]
    by_cases h : c = 10
    · simp [h]
    · simp only [h, if_false, beq_eq_false_iff_ne.mpr h, Bool.false_eq_true]
      rw [afterLine_find l]
      cases hk : l.findIdx? (· == 10) with
      | none => simp
      | some k => simp
theorem afterLine_suffix : ∀ l : List Nat, afterLine l = l.drop (l.length - (afterLine l).length)
  | [] => rfl
  | c :: l => by
    simp only [afterLine]
    by_cases h : c = 10
    · simp [h]
    · simp only [h, if_false]
      have h1 := afterLine_le l
      have h2 := afterLine_suffix l
      rw [List.length_cons, Nat.succ_sub h1, List.drop_succ_cons, ← h2]
theorem skp_suffix (sk : Bool) (l : List Nat) : skp sk l = l.drop (l.length - (skp sk l).length) := by
  unfold skp; split
  · exact afterLine_suffix l
  · simp
end Mine
namespace Mine
section
variable {C : Cx} {F : Fm} {st : St} {Q X : AV → St → Prop} {Qb : Bool → St → Prop} {Qf : AFlow → St → Prop} {Ql : List AV → St → Prop}
-- sieves: what kind of goal is it
theorem gE {e} (h : WE C F e st Q X) : WE C F e st Q X := h
theorem gT {e} (h : WT C F e st Qb X) : WT C F e st Qb X := h
theorem gS {e} (h : WS C F e st Qf X) : WS C F e st Qf X := h
theorem gSs {e} (h : WSs C F e st Qf X) : WSs C F e st Qf X := h
theorem gBr {b : Bool} {p q : Prop} (h : br b p q) : br b p q := h
theorem gTr {a} (h : WTr C F a st Qb X) : WTr C F a st Qb X := h
theorem gCmp {op a b} (h : W2 C F (compareOp op) a b st Q X) : W2 C F (compareOp op) a b st Q X := h
theorem gBin {op a b} (h : W2 C F (binaryOp op) a b st Q X) : W2 C F (binaryOp op) a b st Q X := h
theorem gInp {op a b} (h : W2 C F (inplaceOp op) a b st Q X) : W2 C F (inplaceOp op) a b st Q X := h
theorem gCall {g vs} (h : WCall C F g vs st Q X) : WCall C F g vs st Q X := h
theorem gEs {es} (h : WEs C F es st Ql X) : WEs C F es st Ql X := h
theorem gEo {o} (h : WEo C F o st Q X) : WEo C F o st Q X := h
theorem gAt {name a} (h : WAttr C F name a st Q X) : WAttr C F name a st Q X := h
theorem gName {x pos} (h : WE C F (.Name x pos) st Q X) : WE C F (.Name x pos) st Q X := h
theorem gConst {c k pos} (h : WE C F (.Constant c k pos) st Q X) : WE C F (.Constant c k pos) st Q X := h
theorem gBool {op l pos} (h : WT C F (.BoolOp op l pos) st Qb X) : WT C F (.BoolOp op l pos) st Qb X := h
end
end Mine
namespace Mine
theorem le_and {n m : Nat} {p : Prop} (h : n ≤ m) (q : p) : n ≤ m ∧ p := ⟨h, q⟩
section
variable {C : Cx} {F : Fm} {st : St} {Q X : AV → St → Prop}
theorem cmp_in_tup2 {k x y : Str} (h : Q (.bool ([x, y].any (· == k))) st) : W2 C F (compareOp .In) (.str k) (.tup [.str x, .str y]) st Q X := cmp_in_tup (xs := [x, y]) rfl h
theorem op_iadd_S {a b : List Nat} (hz : a.length + b.length ≤ 1000000) (h : Q (.str (S (a ++ b))) st) : W2 C F (inplaceOp .Add) (.str (S a)) (.str (S b)) st Q X :=
  op_iadd_str (by rw [S_len, S_len]; exact hz) (by rw [S_app]; exact h)
theorem op_iadd_es {a : List Nat} (hz : a.length + 1 ≤ 1000000) (h : Q (.str (S (a ++ [92]))) st) : W2 C F (inplaceOp .Add) (.str (S a)) (.str "\\") st Q X := by
  rw [es_str]; exact op_iadd_S hz h
theorem op_iadd_q1 {a : List Nat} (hz : a.length + 1 ≤ 1000000) (h : Q (.str (S (a ++ [39]))) st) : W2 C F (inplaceOp .Add) (.str (S a)) (.str "'") st Q X := by
  rw [q1_str]; exact op_iadd_S hz h
theorem op_iadd_q2 {a : List Nat} (hz : a.length + 1 ≤ 1000000) (h : Q (.str (S (a ++ [34]))) st) : W2 C F (inplaceOp .Add) (.str (S a)) (.str "\"") st Q X := by
  rw [q2_str]; exact op_iadd_S hz h
end
end Mine
namespace Mine
abbrev SR := Except Str (List (List Nat))
def consR (w : List Nat) : SR → SR
  | .ok ws => .ok (w :: ws)
  | .error m => .error m
inductive GS where
  | gap | rem
  | word (t : List Nat) | q1 (t : List Nat) | q2 (t : List Nat) | esc (t : List Nat) | esq (t : List Nat)
def lx (cm : Bool) : List Nat → GS → SR
  | [], .gap => .ok []
  | [], .rem => .ok []
  | [], .word t => .ok [t]
  | [], .q1 _ => .error "No closing quotation"
  | [], .q2 _ => .error "No closing quotation"
  | [], .esc _ => .error "No escaped character"
  | [], .esq _ => .error "No escaped character"
  | c :: l, .gap => if isWs c = true then lx cm l .gap else if cm = true ∧ c = 35 then lx cm l .rem else if c = 92 then lx cm l (.esc []) else if c = 39 then lx cm l (.q1 []) else if c = 34 then lx cm l (.q2 []) else lx cm l (.word [c])
  | c :: l, .rem => if c = 10 then lx cm l .gap else lx cm l .rem
  | c :: l, .word t => if isWs c = true then consR t (lx cm l .gap) else if cm = true ∧ c = 35 then consR t (lx cm l .rem) else if c = 92 then lx cm l (.esc t) else if c = 39 then lx cm l (.q1 t) else if c = 34 then lx cm l (.q2 t) else lx cm l (.word (t ++ [c]))
  | c :: l, .q1 t => if c = 39 then lx cm l (.word t) else lx cm l (.q1 (t ++ [c]))
  | c :: l, .q2 t => if c = 34 then lx cm l (.word t) else if c = 92 then lx cm l (.esq t) else lx cm l (.q2 (t ++ [c]))
  | c :: l, .esc t => lx cm l (.word (t ++ [c]))
  | c :: l, .esq t => lx cm l (.q2 (if c ≠ 92 ∧ c ≠ 34 then t ++ [92] ++ [c] else t ++ [c]))
theorem lx_rem (cm : Bool) : ∀ l, lx cm l .rem = lx cm (afterLine l) .gap
  | [] => rfl
  | c :: l => by
    simp only [lx, afterLine]
    split
    · rfl
    · exact lx_rem cm l
def rest1 (cm : Bool) : RT → SR
  | .err m => .error m
  | .brk ls qd tok rest => if tok = [] ∧ qd = false then .ok [] else consR tok (if ls = .fin then .ok [] else lx cm rest .gap)
inductive Cor : LS → Bool → LS → List Nat → GS → Prop
  | gap {es} : Cor .sp false es [] .gap
  | word {qd es tok} : tok ≠ [] ∨ qd = true → Cor .a qd es tok (.word tok)
  | q1 {qd es tok} : Cor .q1 qd es tok (.q1 tok)
  | q2 {qd es tok} : Cor .q2 qd es tok (.q2 tok)
  | esc {qd tok} : Cor .esc qd .a tok (.esc tok)
  | esq {tok} : Cor .esc true .q2 tok (.esq tok)
theorem ne_nil_cond {tok : List Nat} {qd : Bool} (h : tok ≠ [] ∨ qd = true) : ¬ (tok = [] ∧ qd = false) := fun ⟨a, b⟩ => by
  rcases h with h | h
  · exact h a
  · rw [b] at h; cases h
theorem rt_lx (cm : Bool) : ∀ (n : Nat) (l : List Nat), l.length ≤ n → ∀ {ls qd es tok gs}, Cor ls qd es tok gs →
    lx cm l gs = rest1 cm (rt true cm l ls qd es tok) ∧ ∀ ls' qd' tok' rest, rt true cm l ls qd es tok = .brk ls' qd' tok' rest → (ls' = .fin ∨ (ls' = .sp ∧ rest.length < l.length)) := by
  intro n
  induction n with
  | zero =>
    intro l hl ls qd es tok gs hc
    have : l = [] := List.length_eq_zero_iff.mp (by omega)
    subst this
    rw [rt_nil]
    cases hc with
    | gap => exact ⟨rfl, fun _ _ _ _ h => by simp only [actE] at h; cases h; exact .inl rfl⟩
    | word h => exact ⟨by simp only [lx, actE, rest1]; rw [if_neg (ne_nil_cond h)]; rfl, fun _ _ _ _ h => by simp only [actE] at h; cases h; exact .inl rfl⟩
    | q1 => exact ⟨rfl, fun _ _ _ _ h => by simp only [actE] at h; cases h⟩
    | q2 => exact ⟨rfl, fun _ _ _ _ h => by simp only [actE] at h; cases h⟩
    | esc => exact ⟨rfl, fun _ _ _ _ h => by simp only [actE] at h; cases h⟩
    | esq => exact ⟨rfl, fun _ _ _ _ h => by simp only [actE] at h; cases h⟩
  | succ n ih =>
    intro l hl ls qd es tok gs hc
    cases l with
    | nil => exact (by
        rw [rt_nil]
        cases hc with
        | gap => exact ⟨rfl, fun _ _ _ _ h => by simp only [actE] at h; cases h; exact .inl rfl⟩
        | word h => exact ⟨by simp only [lx, actE, rest1]; rw [if_neg (ne_nil_cond h)]; rfl, fun _ _ _ _ h => by simp only [actE] at h; cases h; exact .inl rfl⟩
        | q1 => exact ⟨rfl, fun _ _ _ _ h => by simp only [actE] at h; cases h⟩
        | q2 => exact ⟨rfl, fun _ _ _ _ h => by simp only [actE] at h; cases h⟩
        | esc => exact ⟨rfl, fun _ _ _ _ h => by simp only [actE] at h; cases h⟩
        | esq => exact ⟨rfl, fun _ _ _ _ h => by simp only [actE] at h; cases h⟩)
    | cons c l =>
      have hl' : l.length ≤ n := by simp only [List.length_cons] at hl; omega
      -- one step on
      have go : ∀ {ls' qd' es' tok' sk gs'}, act true cm c ls qd es tok = .go ls' qd' es' tok' sk → Cor ls' qd' es' tok' gs' → lx cm (c :: l) gs = lx cm (skp sk l) gs' →
          lx cm (c :: l) gs = rest1 cm (rt true cm (c :: l) ls qd es tok) ∧ ∀ ls' qd' tok' rest, rt true cm (c :: l) ls qd es tok = .brk ls' qd' tok' rest → (ls' = .fin ∨ (ls' = .sp ∧ rest.length < (c :: l).length)) := by
        intro ls' qd' es' tok' sk gs' ha hk hx
        have hs := skp_le sk l
        obtain ⟨i1, i2⟩ := ih (skp sk l) (by omega) hk
        rw [rt_go ha]
        refine ⟨hx.trans i1, fun a b d r h => ?_⟩
        rcases i2 a b d r h with z | ⟨z, y⟩
        · exact .inl z
        · exact .inr ⟨z, by simp only [List.length_cons]; omega⟩
      have bk : ∀ {qd' tok' sk}, act true cm c ls qd es tok = .brk .sp qd' tok' sk → lx cm (c :: l) gs = (if tok' = [] ∧ qd' = false then .ok [] else consR tok' (lx cm (skp sk l) .gap)) →
          lx cm (c :: l) gs = rest1 cm (rt true cm (c :: l) ls qd es tok) ∧ ∀ ls' qd' tok' rest, rt true cm (c :: l) ls qd es tok = .brk ls' qd' tok' rest → (ls' = .fin ∨ (ls' = .sp ∧ rest.length < (c :: l).length)) := by
        intro qd' tok' sk ha hx
        have hs := skp_le sk l
        rw [rt_brk ha]
        refine ⟨hx, fun a b d r h => ?_⟩
        cases h
        exact .inr ⟨rfl, by simp only [List.length_cons]; omega⟩
      cases hc with
      | gap =>
        by_cases hw : isWs c = true
        · exact go (sk := false) (by simp only [act]; rw [if_pos hw, if_neg (by simp)]) .gap (by simp only [lx]; rw [if_pos hw]; rfl)
        · by_cases hk : cm = true ∧ c = 35
          · exact go (sk := true) (by simp only [act]; rw [if_neg hw, if_pos hk]) .gap (by simp only [lx]; rw [if_neg hw, if_pos hk, lx_rem]; rfl)
          · by_cases h92 : c = 92
            · exact go (sk := false) (by simp only [act]; rw [if_neg hw, if_neg hk, if_pos ⟨trivial, h92⟩]) .esc (by simp only [lx]; rw [if_neg hw, if_neg hk, if_pos h92]; rfl)
            · by_cases h39 : c = 39
              · exact go (sk := false) (by simp only [act]; rw [if_neg hw, if_neg hk, if_neg (fun z => h92 z.2), if_pos h39, if_pos trivial]) .q1 (by simp only [lx]; rw [if_neg hw, if_neg hk, if_neg h92, if_pos h39]; rfl)
              · by_cases h34 : c = 34
                · exact go (sk := false) (by simp only [act]; rw [if_neg hw, if_neg hk, if_neg (fun z => h92 z.2), if_neg h39, if_pos h34, if_pos trivial]) .q2 (by simp only [lx]; rw [if_neg hw, if_neg hk, if_neg h92, if_neg h39, if_pos h34]; rfl)
                · exact go (sk := false) (by simp only [act]; rw [if_neg hw, if_neg hk, if_neg (fun z => h92 z.2), if_neg h39, if_neg h34]) (.word (.inl (by simp))) (by simp only [lx]; rw [if_neg hw, if_neg hk, if_neg h92, if_neg h39, if_neg h34]; rfl)
      | word hne =>
        have hb : tok ≠ [] ∨ (True ∧ qd = true) := hne.imp id fun h => ⟨trivial, h⟩
        by_cases hw : isWs c = true
        · exact bk (sk := false) (by simp only [act]; rw [if_pos hw, if_pos hb]) (by simp only [lx]; rw [if_pos hw, if_neg (ne_nil_cond hne)]; rfl)
        · by_cases hk : cm = true ∧ c = 35
          · exact bk (sk := true) (by simp only [act]; rw [if_neg hw, if_pos hk, if_pos trivial, if_pos hne]) (by simp only [lx]; rw [if_neg hw, if_pos hk, if_neg (ne_nil_cond hne), lx_rem]; rfl)
          · by_cases h39 : c = 39
            · exact go (sk := false) (by simp only [act]; rw [if_neg hw, if_neg hk, if_pos ⟨trivial, h39⟩]) .q1 (by simp only [lx]; rw [if_neg hw, if_neg hk, if_neg (by omega), if_pos h39]; rfl)
            · by_cases h34 : c = 34
              · exact go (sk := false) (by simp only [act]; rw [if_neg hw, if_neg hk, if_neg (fun z => h39 z.2), if_pos ⟨trivial, h34⟩]) .q2 (by simp only [lx]; rw [if_neg hw, if_neg hk, if_neg (by omega), if_neg h39, if_pos h34]; rfl)
              · by_cases h92 : c = 92
                · exact go (sk := false) (by simp only [act]; rw [if_neg hw, if_neg hk, if_neg (fun z => h39 z.2), if_neg (fun z => h34 z.2), if_pos ⟨trivial, h92⟩]) .esc (by simp only [lx]; rw [if_neg hw, if_neg hk, if_pos h92]; rfl)
                · exact go (sk := false) (by simp only [act]; rw [if_neg hw, if_neg hk, if_neg (fun z => h39 z.2), if_neg (fun z => h34 z.2), if_neg (fun z => h92 z.2)]) (.word (.inl (by simp))) (by simp only [lx]; rw [if_neg hw, if_neg hk, if_neg h92, if_neg h39, if_neg h34]; rfl)
      | q1 =>
        by_cases h39 : c = 39
        · exact go (sk := false) (by simp only [act]; rw [if_pos h39, if_pos trivial]) (.word (.inr rfl)) (by simp only [lx]; rw [if_pos h39]; rfl)
        · exact go (sk := false) (by simp only [act]; rw [if_neg h39]) .q1 (by simp only [lx]; rw [if_neg h39]; rfl)
      | q2 =>
        by_cases h34 : c = 34
        · exact go (sk := false) (by simp only [act]; rw [if_pos h34, if_pos trivial]) (.word (.inr rfl)) (by simp only [lx]; rw [if_pos h34]; rfl)
        · by_cases h92 : c = 92
          · exact go (sk := false) (by simp only [act]; rw [if_neg h34, if_pos ⟨trivial, h92⟩]) .esq (by simp only [lx]; rw [if_neg h34, if_pos h92]; rfl)
          · exact go (sk := false) (by simp only [act]; rw [if_neg h34, if_neg (fun z => h92 z.2)]) .q2 (by simp only [lx]; rw [if_neg h34, if_neg h92]; rfl)
      | esc => exact go (sk := false) (ls' := .a) (qd' := qd) (es' := .a) (tok' := tok ++ [c]) (by simp [act]) (.word (.inl (by simp))) (by simp only [lx]; rfl)
      | esq => exact go (sk := false) (by simp only [act]; rw [if_pos trivial]) .q2 (by simp only [lx]; rfl)
theorem rt_suffix (px cm : Bool) : ∀ (n : Nat) (l : List Nat), l.length ≤ n → ∀ {ls qd es tok ls' qd' tok' rest}, rt px cm l ls qd es tok = .brk ls' qd' tok' rest → ∃ k, rest = l.drop k := by
  intro n
  have nl : ∀ {ls qd es tok ls' qd' tok' rest}, rt px cm [] ls qd es tok = .brk ls' qd' tok' rest → ∃ k, rest = ([] : List Nat).drop k := by
    intro ls qd es tok ls' qd' tok' rest h
    rw [rt_nil] at h
    cases ls <;> simp only [actE] at h <;> cases h <;> exact ⟨0, rfl⟩
  have sk : ∀ sk (l : List Nat), ∃ k, skp sk l = l.drop k := fun s l => ⟨_, skp_suffix s l⟩
  induction n with
  | zero =>
    intro l hl ls qd es tok ls' qd' tok' rest h
    have : l = [] := List.length_eq_zero_iff.mp (by omega)
    subst this
    exact nl h
  | succ n ih =>
    intro l hl ls qd es tok ls' qd' tok' rest h
    cases l with
    | nil => exact nl h
    | cons c l =>
      cases ha : act px cm c ls qd es tok with
      | go a b d e s =>
        rw [rt_go ha] at h
        have hs := skp_le s l
        simp only [List.length_cons] at hl
        obtain ⟨k, hk⟩ := ih (skp s l) (by omega) h
        obtain ⟨j, hj⟩ := sk s l
        exact ⟨j + k + 1, by rw [hk, hj, List.drop_drop, List.drop_succ_cons]⟩
      | brk a b d s =>
        rw [rt_brk ha] at h
        cases h
        obtain ⟨j, hj⟩ := sk s l
        exact ⟨j + 1, by rw [hj, List.drop_succ_cons]⟩
theorem rt_rest {px cm : Bool} {t : List Nat} {p : Nat} {ls qd es tok ls' qd' tok' rest} (h : rt px cm (t.drop p) ls qd es tok = .brk ls' qd' tok' rest) : t.drop (t.length - rest.length) = rest := by
  obtain ⟨k, hk⟩ := rt_suffix px cm _ (t.drop p) (Nat.le_refl _) h
  rw [List.drop_drop] at hk
  rw [hk, List.length_drop]
  rcases Nat.lt_or_ge (p + k) t.length with z | z
  · congr 1; omega
  · rw [List.drop_eq_nil_of_le z, List.drop_eq_nil_of_le (by omega)]
end Mine
namespace Mine
theorem seqIdx_nn {k : Int} {n : Nat} (h0 : 0 ≤ k) (h1 : k < (n : Int)) : seqIndex? k n = some k.toNat := by
  unfold seqIndex?
  have : ¬ k < 0 := by omega
  simp only [this, if_false]
  rw [if_pos (by simp only [Bool.and_eq_true, decide_eq_true_eq]; omega)]
theorem seqIdx_neg {k : Int} {n : Nat} (h0 : k < 0) (h1 : -(n : Int) ≤ k) : seqIndex? k n = some (k + n).toNat := by
  unfold seqIndex?
  simp only [h0, if_true]
  rw [if_pos (by simp only [Bool.and_eq_true, decide_eq_true_eq]; omega)]
section
variable {C : Cx} {F : Fm} {st : St} {Q X : AV → St → Prop}
theorem sub_S {value slice : Expr} {l : List Nat} {k : Int} {c : Nat} (hz : l.length ≤ 1000000) (h0 : 0 ≤ k) (hc : l[k.toNat]? = some c) (h : Q (.str (S [c])) st)
    (hs : ∀ o i, subscripted slice false o i = operate [o, i] (getItem o i) := by intro _ _; with_unfolding_all rfl) : WSub C F value slice (.str (S l)) (.int k) st Q X := by
  have hlt := (List.getElem?_eq_some_iff.mp hc).1
  refine sub_str (by rw [S_len]; exact hz) (seqIdx_nn h0 (by rw [S_len]; omega)) (by simpa [S] using hc) h hs
theorem op_add_S {a b : List Nat} (hz : a.length + b.length ≤ 1000000) (h : Q (.str (S (a ++ b))) st) : W2 C F (binaryOp .Add) (.str (S a)) (.str (S b)) st Q X :=
  op_add_str (by rw [S_len, S_len]; exact hz) (by rw [S_app]; exact h)
theorem WFor_ind {α ι : Type} {target : Expr} {body : List Stmt} {Qf : AFlow → St → Prop} (f : α → AV) (stf : ι → St) (inv : List α → ι → Prop) (hh : F.hd = none)
    (step : ∀ a rest i, inv (a :: rest) i → ∀ F' : Fm, F'.d = F.d → F'.hd = none → Asg C F' target (f a) (stf i) (fun st1 => WSs C F' body st1 (fun fl st2 => match fl with
      | .next | .cont => ∃ j, inv rest j ∧ st2 = stf j
      | .brk => Qf .next st2
      | .ret v => Qf (.ret v) st2) X) X)
    (fin : ∀ i, inv [] i → Qf .next (stf i)) : ∀ (items : List α) (i : ι), inv items i → WFor C F target body (items.map f) (stf i) Qf X := by
  intro items
  induction items with
  | nil => exact fun i hi => WFor_nil hh (fin i hi)
  | cons a rest ih =>
    intro i hi
    refine WFor_cons fun F' hd hh' => ?_
    have z := step a rest i hi F' hd (hh'.trans hh)
    intro obs s v Qs Es r y k1 k2
    refine z obs s v Qs Es r y (fun st' obs' s' q => k1 st' obs' s' ?_) k2
    refine W.mono q (fun fl st2 h => ?_) (fun _ _ h => h)
    cases fl with
    | next => obtain ⟨j, hj, rfl⟩ := h; exact ih j hj
    | cont => obtain ⟨j, hj, rfl⟩ := h; exact ih j hj
    | brk => exact h
    | ret v => exact h
theorem sub_lst_nn {value slice : Expr} {xs : List AV} {k : Int} {a : AV} (hz : xs.length ≤ 1000000) (h0 : 0 ≤ k) (ha : xs[k.toNat]? = some a) (h : Q a st)
    (hs : ∀ o i, subscripted slice false o i = operate [o, i] (getItem o i) := by intro _ _; with_unfolding_all rfl) : WSub C F value slice (.lst xs) (.int k) st Q X := by
  have hlt := (List.getElem?_eq_some_iff.mp ha).1
  exact sub_lst hz (seqIdx_nn h0 (by omega)) ha h hs
theorem sub_tup_nn {value slice : Expr} {xs : List AV} {k : Int} {a : AV} (hz : xs.length ≤ 1000000) (h0 : 0 ≤ k) (ha : xs[k.toNat]? = some a) (h : Q a st)
    (hs : ∀ o i, subscripted slice false o i = operate [o, i] (getItem o i) := by intro _ _; with_unfolding_all rfl) : WSub C F value slice (.tup xs) (.int k) st Q X := by
  have hlt := (List.getElem?_eq_some_iff.mp ha).1
  exact sub_tup hz (seqIdx_nn h0 (by omega)) ha h hs
theorem cmp_in_lst2 {k x y : Str} (h : Q (.bool ([x, y].any (· == k))) st) : W2 C F (compareOp .In) (.str k) (.lst [.str x, .str y]) st Q X := cmp_in_lst (xs := [x, y]) rfl h
theorem cutL_eq {α : Type} (xs : List α) (lo hi : Option Int) : cutL xs lo hi = (xs.drop (lo.elim 0 (clipAt xs.length))).take (hi.elim xs.length (clipAt xs.length) - lo.elim 0 (clipAt xs.length)) := by
  unfold cutL
  rw [sliceBounds_plain]
  simp only [sliceRange_one]
  have := pick_run xs.toArray (lo.elim 0 (clipAt xs.length)) (hi.elim xs.length (clipAt xs.length) - lo.elim 0 (clipAt xs.length))
  simpa using this
theorem cutL_from {α : Type} (xs : List α) (n : Nat) : cutL xs (some (n : Int)) none = xs.drop n := by
  rw [cutL_eq]
  simp only [Option.elim, clipAt_nat]
  rw [List.take_of_length_le (by rw [List.length_drop]; omega)]
  rcases Nat.le_total n xs.length with h | h
  · rw [Nat.min_eq_left h]
  · rw [Nat.min_eq_right h, List.drop_length, List.drop_eq_nil_of_le h]
theorem cutL_upto {α : Type} (xs : List α) (n : Nat) : cutL xs none (some (n : Int)) = xs.take n := by
  rw [cutL_eq]
  simp only [Option.elim, clipAt_nat, List.drop_zero, Nat.sub_zero]
  rcases Nat.le_total n xs.length with h | h
  · rw [Nat.min_eq_left h]
  · rw [Nat.min_eq_right h, List.take_length, List.take_of_length_le h]
theorem cutL_run {α : Type} (xs : List α) (a b : Nat) (h : b ≤ xs.length) : cutL xs (some (a : Int)) (some (b : Int)) = (xs.drop a).take (b - a) := by
  rw [cutL_eq]
  simp only [Option.elim, clipAt_nat]
  rw [Nat.min_eq_left h]
  rcases Nat.le_total a xs.length with h' | h'
  · rw [Nat.min_eq_left h']
  · rw [Nat.min_eq_right h', show b - xs.length = 0 by omega, show b - a = 0 by omega]; simp
end
end Mine
namespace Mine
theorem VRs.ints {h : Heap} {P : Addr → Prop} {obs : Obs} {vs : List Value} {ns : List Int} (x : IntsAre vs ns) : VRs h P obs (ns.map .int) vs := by
  induction x with
  | nil => simp [VRs]
  | cons _ _ _ ih => simp only [List.map_cons, VRs, VR]; exact ⟨_, _, rfl, ⟨_, rfl⟩, ih⟩
theorem join {prog : Program} {w : World} {Kf : Params → Frag} {s₁ : Shared} {mg mb : Str → Option Value} {view : Program} {loose : List Str} {mean : ExcName → Option Value} {name : Str} {scope : Scope} {a : Addr} {cd : Value} {h₁ : Heap} {l : Addr} {x : Str} {body : List Stmt} {vs : List Value} {ns : List Int}
    {gl : List (Str × Value)} {locals : List Str} {t : Nat} {Qs : Flow → Shared → Prop} {Es : Value → Shared → Prop}
    (T : Top view loose mean mg mb s₁.heap) (KX : (Kf w.params).In s₁.heap) (hg : s₁.gens = #[]) (F : Fr s₁.heap s₁.heap.objs.size h₁ (fun y => List.lookup y [(x, Value.ref l)].reverse)) (hl : s₁.heap.IsList l vs.toArray) (hi : IntsAre vs ns)
    (hk : scope.kind = .function) (hnm : (x :: locals).all (fun y => scope.names.lookup y == some .local && !(y == ("__debug__" : Str))) = true) (hnd : noDup (x :: locals) = true)
    (hgn : gl.all (fun p => scope.names.lookup p.1 == some .globalImplicit && !(p.1 == ("__debug__" : Str))) = true) (hgl : ∀ pr, gl.all (fun p => glOk (Kf pr) p.1 p.2) = true)
    (h : ∀ C : Cx, C.Ok → C.K = Kf C.w.params → ∀ F' : Fm, 100 ≤ F'.d → F'.hd = none → WSs C F' body ⟨gl, (x, .lst (ns.map .int)) :: locals.map (fun y => (y, .unb)), []⟩ (fun fl st' => fl = .ret (.bool true)) (fun _ _ => False))
    (k : ∀ s' m', Fr s₁.heap s₁.heap.objs.size s'.heap m' → s'.gens = #[] → s'.os = s₁.os → Qs (.ret (.bool true)) s') :
    wpAny (model prog w) (callerA.deeper (envOf name scope s₁.heap.objs.size a cd)) (execs body (envOf name scope s₁.heap.objs.size a cd)) Qs Es { heap := h₁, gens := s₁.gens, drawn := s₁.drawn, toks := t, os := s₁.os } := by
  let C : Cx := ⟨prog, w, Kf w.params, s₁, mg, mb⟩
  have ok : C.Ok := ⟨KX, T.g, T.b, T.nolimit, T.builtins⟩
  let Fm0 : Fm := ⟨envOf name scope s₁.heap.objs.size a cd, [], [], callerA.deeper (envOf name scope s₁.heap.objs.size a cd), 100, none⟩
  have hLn : s₁.heap.get? s₁.heap.objs.size = none := by
    cases q : s₁.heap.get? s₁.heap.objs.size with
    | none => rfl
    | some o => exact absurd (Heap.lt_size q) (Nat.lt_irrefl _)
  have Fok : Fm0.Ok := by
    refine ⟨hk, rfl, rfl, rfl, rfl, rfl, ?_, ?_⟩
    · show (callerA.deeper _).depth + 100 < 990
      show 1 + 300 + 1 + 100 < 990
      decide
    · show (callerA.deeper _).units + 20 * 100 < 9800
      show 4 + 3 + 20 * 100 < 9800
      decide
  have hn := List.all_eq_true.mp hnm
  have nmok : ∀ y ∈ x :: locals, NmOk Fm0 .local y := fun y hy => by
    have := hn y hy
    simp only [Bool.and_eq_true, beq_iff_eq, Bool.not_eq_true'] at this
    exact ⟨this.1, this.2⟩
  have nodup := noDup_of hnd
  have rel : Rel C Fm0 [] ⟨gl, (x, .lst (ns.map .int)) :: locals.map (fun y => (y, .unb)), []⟩ { heap := h₁, gens := s₁.gens, drawn := s₁.drawn, toks := t, os := s₁.os } := by
    obtain ⟨oL, eL, nfL⟩ := ns_nf F.ns
    refine ⟨ok, Fok, F.keep, rfl, rfl, rfl, ?_, ?_, ?_, ?_, ⟨_, F.ns, ?_⟩, ?_, ?_, rfl, ?_⟩
    · show [s₁.heap.objs.size].Nodup
      simp
    · intro b hb
      rw [List.mem_singleton.mp (show b ∈ [s₁.heap.objs.size] from hb)]; exact hLn
    · intro b hb
      rw [List.mem_singleton.mp (show b ∈ [s₁.heap.objs.size] from hb)]; exact ⟨oL, eL⟩
    · exact ⟨by show scope.kind ≠ .module; rw [hk]; decide, ⟨_, oL, rfl, hLn, eL, nfL⟩, trivial⟩
    · intro p hp
      rcases List.mem_cons.mp hp with rfl | hp
      · refine ⟨nmok _ List.mem_cons_self, ?_⟩
        refine ⟨Value.ref l, by simp, ?_⟩
        simp only [VR]
        refine ⟨l, vs, rfl, ?_, ?_, VRs.ints hi⟩
        · intro z
          have z' := List.mem_singleton.mp (show l ∈ [s₁.heap.objs.size] from z)
          obtain ⟨o, e, _⟩ := hl
          rw [z', hLn] at e; cases e
        · obtain ⟨o, e, c, n, d⟩ := hl
          exact ⟨o, n, F.keep _ _ e, c, d⟩
      · obtain ⟨y, hy, rfl⟩ := List.mem_map.mp hp
        refine ⟨nmok _ (List.mem_cons_of_mem _ hy), ?_⟩
        have hne : y ≠ x := fun e => (List.nodup_cons.mp nodup).1 (e ▸ hy)
        show List.lookup y [(x, Value.ref l)].reverse = none
        simp only [List.reverse_singleton, List.lookup_cons, List.lookup_nil, beq_eq_false_iff_ne.mpr hne]
    · intro p hp
      have := List.all_eq_true.mp hgn p hp
      simp only [Bool.and_eq_true, beq_iff_eq, Bool.not_eq_true'] at this
      exact ⟨⟨this.1, this.2⟩, glOk_of ok (List.all_eq_true.mp (hgl w.params) p hp)⟩
    · show ((x, AV.lst (ns.map .int)) :: locals.map (fun y => (y, AV.unb))).map (·.1) |>.Nodup
      simp only [List.map_cons, List.map_map]
      have : locals.map ((fun p : Str × AV => p.1) ∘ fun y => (y, AV.unb)) = locals := List.map_id' locals
      rw [this]; exact nodup
    · intro i p o h1
      simp at h1
  refine h C ok rfl Fm0 (Nat.le_refl _) rfl [] _ Qs Es rel (fun fl f st' obs' s' q r' y g => ?_) fun _ _ _ _ _ q => q.elim
  subst q
  obtain ⟨v, rfl, hv⟩ := y
  simp only [VR] at hv
  subst hv
  obtain ⟨m', n', _⟩ := r'.loc
  exact k s' m' ⟨n', r'.stay, Nat.le_refl _⟩ (r'.gens.trans hg) r'.os
end Mine
namespace Mine
def strL (ws : List (List Nat)) : List AV := ws.map fun w => .str (S w)
theorem strL_cons (w : List Nat) (r : List (List Nat)) : strL (w :: r) = .str (S w) :: strL r := rfl
theorem strL_len (ws : List (List Nat)) : (strL ws).length = ws.length := by simp [strL]
def toldV : SR → AV
  | .ok ws => .tup [.lst (strL ws), .str (S [])]
  | .error m => .tup [.lst [], .str m]
def cpOk (l : List Nat) : Prop := ∀ c ∈ l, c < 1114112
theorem cpOk.nil : cpOk [] := fun c h => by simp at h
theorem cpOk.app {a b : List Nat} (x : cpOk a) (y : cpOk b) : cpOk (a ++ b) := fun c h => (List.mem_append.mp h).elim (x c) (y c)
theorem cpOk.one {c : Nat} (h : c < 1114112) : cpOk [c] := fun d hd => by rw [List.mem_singleton.mp hd]; exact h
theorem cpOk.tail {c : Nat} {l : List Nat} (h : cpOk (c :: l)) : cpOk l := fun d hd => h d (List.mem_cons_of_mem _ hd)
theorem cpOk.head {c : Nat} {l : List Nat} (h : cpOk (c :: l)) : c < 1114112 := h c List.mem_cons_self
theorem cpOk.str {l : List Nat} (h : cpOk l) : PyData.strOk (S l) = true := by
  unfold PyData.strOk
  rw [Array.all_eq_true']
  intro c hc
  exact decide_eq_true (h c (by simpa [S] using hc))
def srOk : SR → Prop
  | .ok ws => ∀ w ∈ ws, cpOk w
  | .error m => PyData.strOk m = true
theorem srOk.cons {w : List Nat} {r : SR} (h : cpOk w) (x : srOk r) : srOk (consR w r) := by
  cases r with
  | ok ws => exact fun v hv => (List.mem_cons.mp hv).elim (fun e => e ▸ h) (x v)
  | error m => exact x
def GS.tok : GS → List Nat
  | .gap => [] | .rem => []
  | .word t => t | .q1 t => t | .q2 t => t | .esc t => t | .esq t => t
theorem lx_ok (cm : Bool) : ∀ (l : List Nat) (gs : GS), cpOk l → cpOk gs.tok → srOk (lx cm l gs)
  | [], .gap, _, _ => by simp [lx, srOk]
  | [], .rem, _, _ => by simp [lx, srOk]
  | [], .word t, _, h => by simp only [lx, srOk]; intro w hw; rw [List.mem_singleton.mp hw]; exact h
  | [], .q1 _, _, _ => by simp only [lx, srOk]; decide +kernel
  | [], .q2 _, _, _ => by simp only [lx, srOk]; decide +kernel
  | [], .esc _, _, _ => by simp only [lx, srOk]; decide +kernel
  | [], .esq _, _, _ => by simp only [lx, srOk]; decide +kernel
  | c :: l, .gap, hl, _ => by
    have i := fun gs => lx_ok cm l gs hl.tail
    simp only [lx]
    repeat' split
    all_goals first | exact i _ cpOk.nil | exact i _ (cpOk.one hl.head)
  | c :: l, .rem, hl, _ => by
    have i := fun gs => lx_ok cm l gs hl.tail
    simp only [lx]
    repeat' split
    all_goals exact i _ cpOk.nil
  | c :: l, .word t, hl, h => by
    have i := fun gs => lx_ok cm l gs hl.tail
    simp only [lx]
    repeat' split
    all_goals first | exact srOk.cons h (i _ cpOk.nil) | exact i _ h | exact i _ (cpOk.app h (cpOk.one hl.head))
  | c :: l, .q1 t, hl, h => by
    have i := fun gs => lx_ok cm l gs hl.tail
    simp only [lx]
    repeat' split
    all_goals first | exact i _ h | exact i _ (cpOk.app h (cpOk.one hl.head))
  | c :: l, .q2 t, hl, h => by
    have i := fun gs => lx_ok cm l gs hl.tail
    simp only [lx]
    repeat' split
    all_goals first | exact i _ h | exact i _ (cpOk.app h (cpOk.one hl.head))
  | c :: l, .esc t, hl, h => by
    simp only [lx]
    exact lx_ok cm l _ hl.tail (cpOk.app h (cpOk.one hl.head))
  | c :: l, .esq t, hl, h => by
    simp only [lx]
    refine lx_ok cm l _ hl.tail ?_
    show cpOk (if c ≠ 92 ∧ c ≠ 34 then t ++ [92] ++ [c] else t ++ [c])
    split
    · exact cpOk.app (cpOk.app h (cpOk.one (by decide))) (cpOk.one hl.head)
    · exact cpOk.app h (cpOk.one hl.head)
def srD : SR → PyData
  | .ok ws => .tuple [.list ((ws.map S).map .str), .str (S [])]
  | .error m => .tuple [.list [], .str m]
theorem strL_map (ws : List (List Nat)) : strL ws = (ws.map S).map .str := by simp [strL]
theorem toldV_PD (r : SR) : PD (toldV r) (srD r) := by
  cases r with
  | ok ws => exact .tcons (by rw [strL_map]; exact PD.strs _) (.tcons (.str _) .tnil)
  | error m => exact .tcons .lnil (.tcons (.str _) .tnil)
theorem canLayAll_strs : ∀ ws : List (List Nat), (∀ w ∈ ws, cpOk w) → PyData.canLayAll0 ((ws.map S).map .str) = true
  | [], _ => rfl
  | w :: ws, h => by
    simp only [List.map_cons, PyData.canLayAll0, PyData.canLay0, Bool.and_eq_true]
    exact ⟨(h w List.mem_cons_self).str, canLayAll_strs ws fun v hv => h v (List.mem_cons_of_mem _ hv)⟩
theorem shaped_of {d : PyData} (h1 : d.canLay0 = true) (h2 : d.depth ≤ 64) : SeqAt.shaped d = true := by
  unfold SeqAt.shaped
  rw [h1]
  exact decide_eq_true h2
theorem shaped_strs {ws : List (List Nat)} (h : ∀ w ∈ ws, cpOk w) : SeqAt.shaped (.list ((ws.map S).map .str)) = true := by
  refine shaped_of (by simp only [PyData.canLay0]; exact canLayAll_strs ws h) ?_
  simp only [PyData.depth]
  rw [depthAll_strs']
  decide
theorem shaped_srD {r : SR} (h : srOk r) : SeqAt.shaped (srD r) = true := by
  cases r with
  | ok ws =>
    refine shaped_of ?_ ?_
    · simp only [srD, PyData.canLay0, PyData.canLayAll0, Bool.and_eq_true]
      exact ⟨canLayAll_strs ws h, cpOk.nil.str, trivial⟩
    · simp only [srD, PyData.depth, PyData.depthAll]
      rw [depthAll_strs']
      decide
  | error m =>
    refine shaped_of ?_ ?_
    · simp only [srD, PyData.canLay0, PyData.canLayAll0, Bool.and_eq_true]
      exact ⟨trivial, h, trivial⟩
    · simp only [srD, PyData.depth, PyData.depthAll]
      decide
theorem shaped_ints (ns : List Int) : SeqAt.shaped (.list (ns.map .int)) = true := by
  refine shaped_of ?_ ?_
  · simp only [PyData.canLay0]
    induction ns with
    | nil => rfl
    | cons n ns ih => simp only [List.map_cons, PyData.canLayAll0, PyData.canLay0, Bool.true_and]; exact ih
  · simp only [PyData.depth]
    rw [PyProof.Rows.depthAll_ints]
    decide
section
variable {C : Cx} {F : Fm} {st : St} {Q X : AV → St → Prop}
theorem cmp_told {r : SR} (h : srOk r) (q : Q (.bool true) st) : W2 C F (compareOp .Eq) (toldV r) (toldV r) st Q X := by
  refine cmp_eq_data (toldV_PD r) (toldV_PD r) (shaped_srD h) (shaped_srD h) ?_
  rw [SeqAt.eqv_refl _ (SeqAt.canLay_of_shaped (shaped_srD h))]
  exact q
theorem cmp_ne_ints {ns : List Int} (q : Q (.bool (!ns.isEmpty)) st) : W2 C F (compareOp .NotEq) (.lst (ns.map .int)) (.lst []) st Q X := by
  refine cmp_ne_data (PD.ints ns) .lnil (shaped_ints ns) (by decide +kernel) ?_
  cases ns with
  | nil => exact q
  | cons n ns => exact q
end
theorem good_law {l : OpenLaw} {cl : Str → Option Addr} {mean : ExcName → Option Value} {args : List WData} {s₁ s' : Shared} {L : Addr} {m : Str → Option Value} (F : Fr s₁.heap L s'.heap m) (hg : s'.gens = #[]) (ho : s'.os = s₁.os) :
    GoodW l.row.claim cl mean args s₁ (.ok (.ret (.bool true))) s' := by
  refine goodW_bool F hg (raisesW_false allW_false_nil) (postW_of (X := true) rfl ?_ rfl) ho
  show (WTm.eq .res (.lit (.bool true))).value [] { args := args, res := some (.bool true), after := args } = _
  exact w_eq_bool (k := true) (l := true) (w_res rfl) w_lit
end Mine
namespace Mine
section
variable {C : Cx} {F : Fm} {st : St} {X : AV → St → Prop}
theorem WSs_one {e} {Q : AFlow → St → Prop} (h : WS C F e st Q X) : WSs C F [e] st Q X :=
  WSs_cons (h.mono (fun f s q => match f, q with | .next, q => WSs_nil q | .brk, q => q | .cont, q => q | .ret _, q => q) fun _ _ x => x)
end
end Mine
namespace Mine
def lawL : List Nat → Nat → Option Nat
  | [], m => some m
  | c :: l, m => if c = 92 ∧ m ≠ 39 then none else if (c = 39 ∨ c = 34) ∧ (m = 0 ∨ m = c) then lawL l (if m = 0 then c else 0) else lawL l m
theorem lawL_snoc : ∀ (l : List Nat) (c m : Nat), lawL (l ++ [c]) m = (lawL l m).bind fun m' => lawL [c] m'
  | [], c, m => by simp [lawL]
  | a :: l, c, m => by
    simp only [List.cons_append]
    rw [lawL, lawL]
    split
    · rfl
    · split <;> exact lawL_snoc l c _
inductive FS where
  | gap
  | word (t : List Nat)
  | q (m : Nat) (t : List Nat)
def fw : List Nat → FS → SR
  | [], .gap => .ok []
  | [], .word t => .ok [t]
  | [], .q _ _ => .error "No closing quotation"
  | c :: l, .gap => if isWs c = true then fw l .gap else if c = 39 ∨ c = 34 then fw l (.q c []) else fw l (.word [c])
  | c :: l, .word t => if isWs c = true then consR t (fw l .gap) else if c = 39 ∨ c = 34 then fw l (.q c t) else fw l (.word (t ++ [c]))
  | c :: l, .q m t => if c = m then fw l (.word t) else fw l (.q m (t ++ [c]))
theorem ws_ne {c : Nat} (h : isWs c = true) : c ≠ 39 ∧ c ≠ 34 ∧ c ≠ 92 := by
  simp [isWs] at h
  omega
theorem lx_fw : ∀ (l : List Nat), (lawL l 0 ≠ none → lx false l .gap = fw l .gap ∧ ∀ t, lx false l (.word t) = fw l (.word t)) ∧ (lawL l 39 ≠ none → ∀ t, lx false l (.q1 t) = fw l (.q 39 t)) ∧ (lawL l 34 ≠ none → ∀ t, lx false l (.q2 t) = fw l (.q 34 t))
  | [] => ⟨fun _ => ⟨rfl, fun _ => rfl⟩, fun _ _ => rfl, fun _ _ => rfl⟩
  | c :: l => by
    obtain ⟨i1, i2, i3⟩ := lx_fw l
    refine ⟨fun h => ?_, fun h t => ?_, fun h t => ?_⟩
    · rw [lawL] at h
      have h92 : c ≠ 92 := fun e => h (by rw [if_pos ⟨e, by decide⟩])
      rw [if_neg (fun z => h92 z.1)] at h
      by_cases hq : c = 39 ∨ c = 34
      · rw [if_pos ⟨hq, .inl rfl⟩, if_pos rfl] at h
        have hw : isWs c ≠ true := fun e => by have := ws_ne e; omega
        simp only [lx, fw]
        rw [if_neg hw, if_neg hw, if_neg (by simp), if_neg h92, if_pos hq]
        refine ⟨?_, fun t => ?_⟩
        · rcases hq with rfl | rfl
          · rw [if_pos rfl]; exact i2 h []
          · rw [if_neg (by decide), if_pos rfl]; exact i3 h []
        · rw [if_neg hw, if_neg hw, if_neg (by simp), if_neg h92, if_pos hq]
          rcases hq with rfl | rfl
          · rw [if_pos rfl]; exact i2 h t
          · rw [if_neg (by decide), if_pos rfl]; exact i3 h t
      · rw [if_neg (fun z => hq z.1)] at h
        obtain ⟨j1, j2⟩ := i1 h
        have h39 : c ≠ 39 := fun e => hq (.inl e)
        have h34 : c ≠ 34 := fun e => hq (.inr e)
        simp only [lx, fw]
        by_cases hw : isWs c = true
        · rw [if_pos hw, if_pos hw]
          refine ⟨j1, fun t => ?_⟩
          rw [if_pos hw, if_pos hw, j1]
        · rw [if_neg hw, if_neg hw, if_neg (by simp), if_neg h92, if_neg h39, if_neg h34, if_neg hq]
          refine ⟨j2 _, fun t => ?_⟩
          rw [if_neg hw, if_neg hw, if_neg (by simp), if_neg h92, if_neg h39, if_neg h34, if_neg hq]
          exact j2 _
    · rw [lawL, if_neg (fun z => z.2 rfl)] at h
      simp only [lx, fw]
      by_cases h39 : c = 39
      · subst h39
        rw [if_pos ⟨.inl rfl, .inr rfl⟩, if_neg (by decide)] at h
        rw [if_pos rfl, if_pos rfl]
        exact (i1 h).2 t
      · rw [if_neg (fun z => by rcases z.2 with y | y <;> omega)] at h
        rw [if_neg h39, if_neg h39]
        exact i2 h _
    · rw [lawL] at h
      have h92 : c ≠ 92 := fun e => h (by rw [if_pos ⟨e, by decide⟩])
      rw [if_neg (fun z => h92 z.1)] at h
      simp only [lx, fw]
      by_cases h34 : c = 34
      · subst h34
        rw [if_pos ⟨.inr rfl, .inr rfl⟩, if_neg (by decide)] at h
        rw [if_pos rfl, if_pos rfl]
        exact (i1 h).2 t
      · rw [if_neg (fun z => by rcases z.2 with y | y <;> omega)] at h
        rw [if_neg h34, if_neg h92, if_neg h34]
        exact i3 h _
def addW (s : List Nat) (ws : List (List Nat)) (b : Bool) : List (List Nat) := if b = true then (match ws with | w :: r => (s ++ w) :: r | [] => [s]) else s :: ws
theorem addW_addW (s u : List Nat) (ws : List (List Nat)) (b : Bool) : addW s (addW u ws b) true = addW (s ++ u) ws b := by
  unfold addW
  cases b <;> cases ws <;> simp
theorem addW_true_cons (s : List Nat) (ws : List (List Nat)) (b : Bool) : addW s ws b ≠ [] := by
  unfold addW
  cases b <;> cases ws <;> simp
def cut (q : Nat) : List Nat → Option (List Nat × List Nat)
  | [] => none
  | c :: r => if c = q then some ([], r) else (cut q r).map fun p => (c :: p.1, p.2)
theorem cut_some {q : Nat} : ∀ {r a b : List Nat}, cut q r = some (a, b) → r = a ++ q :: b ∧ q ∉ a
  | [], _, _, h => by simp [cut] at h
  | c :: r, a, b, h => by
    simp only [cut] at h
    split at h
    · rename_i e; cases h; exact ⟨by simp [e], by simp⟩
    · rename_i e
      cases hc : cut q r with
      | none => rw [hc] at h; cases h
      | some p =>
        rw [hc] at h
        obtain ⟨p1, p2⟩ := p
        simp at h
        obtain ⟨rfl, rfl⟩ := h
        obtain ⟨e1, e2⟩ := cut_some hc
        refine ⟨by rw [e1]; rfl, fun z => ?_⟩
        rcases List.mem_cons.mp z with z | z
        · exact e z.symm
        · exact e2 z
theorem cut_none {q : Nat} : ∀ {r : List Nat}, cut q r = none → q ∉ r
  | [], _ => by simp
  | c :: r, h => by
    simp only [cut] at h
    split at h
    · cases h
    · rename_i e
      cases hc : cut q r with
      | none => exact fun z => (List.mem_cons.mp z).elim (fun y => e y.symm) (cut_none hc)
      | some p => rw [hc] at h; cases h
theorem cut_app {q : Nat} : ∀ {a b : List Nat}, q ∉ a → cut q (a ++ q :: b) = some (a, b)
  | [], b, _ => by simp [cut]
  | c :: a, b, h => by
    simp only [List.mem_cons, not_or] at h
    simp only [List.cons_append, cut]
    rw [if_neg (fun e => h.1 e.symm), cut_app h.2]
    rfl
theorem cut_lt {q : Nat} {r : List Nat} {p : List Nat × List Nat} (h : cut q r = some p) : p.2.length < r.length := by
  obtain ⟨a, b⟩ := p
  obtain ⟨e, _⟩ := cut_some h
  rw [e]; simp; omega
def bwR : List Nat → List (List Nat) → Bool → SR
  | [], ws, _ => .ok ws
  | c :: r, ws, b =>
    if isWs c = true then bwR r ws false
    else if c = 39 ∨ c = 34 then
      match h : cut c r with
      | none => .error "No closing quotation"
      | some p => bwR p.2 (addW p.1.reverse ws b) true
    else bwR r (addW [c] ws b) true
termination_by r => r.length
decreasing_by
  · simp
  · have := cut_lt h; simp; omega
  · simp
theorem bwR_nil {ws b} : bwR [] ws b = .ok ws := by rw [bwR]
theorem bwR_ws {c r ws b} (h : isWs c = true) : bwR (c :: r) ws b = bwR r ws false := by rw [bwR, if_pos h]
theorem bwR_ch {c r ws b} (h : ¬ isWs c = true) (hq : ¬ (c = 39 ∨ c = 34)) : bwR (c :: r) ws b = bwR r (addW [c] ws b) true := by rw [bwR, if_neg h, if_neg hq]
theorem q_ws {c : Nat} (hq : c = 39 ∨ c = 34) : ¬ isWs c = true := fun e => by have := ws_ne e; omega
theorem bwR_er {c r ws b} (hq : c = 39 ∨ c = 34) (hc : c ∉ r) : bwR (c :: r) ws b = .error "No closing quotation" := by
  rw [bwR, if_neg (q_ws hq), if_pos hq]
  split
  · rfl
  · rename_i p h
    obtain ⟨a, b⟩ := p
    obtain ⟨e, _⟩ := cut_some h
    exact (hc (by rw [e]; simp)).elim
theorem bwR_qt {c a b' ws b} (hq : c = 39 ∨ c = 34) (hc : c ∉ a) : bwR (c :: (a ++ c :: b')) ws b = bwR b' (addW a.reverse ws b) true := by
  rw [bwR, if_neg (q_ws hq), if_pos hq]
  split
  · rename_i h
    exact (cut_none h (by simp)).elim
  · rename_i p h
    rw [cut_app hc] at h
    cases h
    rfl
inductive Seg where
  | ch (c : Nat)
  | qt (q : Nat) (s : List Nat)
def Seg.ok : Seg → Prop
  | .ch c => ¬ (c = 39 ∨ c = 34)
  | .qt q s => (q = 39 ∨ q = 34) ∧ q ∉ s
def Seg.txt : Seg → List Nat
  | .ch c => [c]
  | .qt q s => q :: (s ++ [q])
def flat (segs : List Seg) : List Nat := segs.flatMap Seg.txt
def Seg.step : Seg → Bool × List (List Nat) → Bool × List (List Nat)
  | .ch c, p => if isWs c = true then (false, p.2) else (true, addW [c] p.2 p.1)
  | .qt _ s, p => (true, addW s p.2 p.1)
def wo (segs : List Seg) (p : Bool × List (List Nat)) : Bool × List (List Nat) := segs.foldr Seg.step p
theorem flat_cons (x : Seg) (segs : List Seg) : flat (x :: segs) = x.txt ++ flat segs := rfl
theorem bwR_flat : ∀ (segs : List Seg), (∀ x ∈ segs, x.ok) → ∀ r ws b, bwR ((flat segs).reverse ++ r) ws b = bwR r (wo segs (b, ws)).2 (wo segs (b, ws)).1
  | [], _, r, ws, b => rfl
  | x :: segs, h, r, ws, b => by
    rw [flat_cons, List.reverse_append, List.append_assoc, bwR_flat segs (fun y hy => h y (List.mem_cons_of_mem _ hy))]
    have hx := h x List.mem_cons_self
    show _ = bwR r (Seg.step x (wo segs (b, ws))).2 (Seg.step x (wo segs (b, ws))).1
    generalize wo segs (b, ws) = p
    cases x with
    | ch c =>
      simp only [Seg.txt, List.reverse_singleton, List.singleton_append, Seg.step]
      by_cases hw : isWs c = true
      · rw [bwR_ws hw, if_pos hw]
      · rw [bwR_ch hw hx, if_neg hw]
    | qt q s =>
      obtain ⟨hq, hs⟩ := hx
      simp only [Seg.txt, List.reverse_cons, List.reverse_append, List.reverse_nil, List.nil_append, List.singleton_append, List.append_assoc, List.cons_append, Seg.step]
      rw [bwR_qt hq (by simpa using hs), List.reverse_reverse]
theorem bwR_dec : ∀ (n : Nat) (r : List Nat), r.length ≤ n → ∀ ws b res, bwR r ws b = .ok res → ∃ segs, (∀ x ∈ segs, Seg.ok x) ∧ r = (flat segs).reverse := by
  intro n
  induction n with
  | zero =>
    intro r hr ws b res _
    have : r = [] := List.length_eq_zero_iff.mp (by omega)
    exact ⟨[], by simp, by rw [this]; rfl⟩
  | succ n ih =>
    intro r hr ws b res h
    cases r with
    | nil => exact ⟨[], by simp, rfl⟩
    | cons c r =>
      simp only [List.length_cons] at hr
      have app : ∀ (segs : List Seg) (x : Seg), x.ok → (∀ y ∈ segs, Seg.ok y) → (∀ y ∈ segs ++ [x], Seg.ok y) := fun segs x hx hs y hy => by
        rcases List.mem_append.mp hy with z | z
        · exact hs y z
        · rw [List.mem_singleton.mp z]; exact hx
      by_cases hw : isWs c = true
      · rw [bwR_ws hw] at h
        obtain ⟨segs, h1, h2⟩ := ih r (by omega) _ _ _ h
        exact ⟨segs ++ [.ch c], app segs (.ch c) (fun z => q_ws z hw) h1, by rw [h2]; simp [flat, Seg.txt]⟩
      · by_cases hq : c = 39 ∨ c = 34
        · cases hc : cut c r with
          | none => rw [bwR_er hq (cut_none hc)] at h; cases h
          | some p =>
            obtain ⟨a, b'⟩ := p
            obtain ⟨e1, e2⟩ := cut_some hc
            subst e1
            rw [bwR_qt hq e2] at h
            simp at hr
            obtain ⟨segs, h1, h2⟩ := ih b' (by omega) _ _ _ h
            exact ⟨segs ++ [.qt c a.reverse], app segs (.qt c a.reverse) ⟨hq, by simpa using e2⟩ h1, by rw [h2]; simp [flat, Seg.txt]⟩
        · rw [bwR_ch hw hq] at h
          obtain ⟨segs, h1, h2⟩ := ih r (by omega) _ _ _ h
          exact ⟨segs ++ [.ch c], app segs (.ch c) hq h1, by rw [h2]; simp [flat, Seg.txt]⟩
theorem fw_q : ∀ (s : List Nat) (q : Nat) (t r : List Nat), q ∉ s → fw (s ++ q :: r) (.q q t) = fw r (.word (t ++ s))
  | [], q, t, r, _ => by simp [fw]
  | c :: s, q, t, r, h => by
    simp only [List.mem_cons, not_or] at h
    simp only [List.cons_append, fw]
    rw [if_neg (fun e => h.1 e.symm), fw_q s q _ r h.2]
    simp
theorem fw_qe : ∀ (s : List Nat) (q : Nat) (t : List Nat), q ∉ s → fw s (.q q t) = .error "No closing quotation"
  | [], q, t, _ => rfl
  | c :: s, q, t, h => by
    simp only [List.mem_cons, not_or] at h
    simp only [fw]
    rw [if_neg (fun e => h.1 e.symm)]
    exact fw_qe s q _ h.2
theorem fw_flat : ∀ (segs : List Seg), (∀ x ∈ segs, x.ok) → fw (flat segs) .gap = .ok (wo segs (false, [])).2 ∧ ∀ t, fw (flat segs) (.word t) = .ok (addW t (wo segs (false, [])).2 (wo segs (false, [])).1)
  | [], _ => ⟨rfl, fun _ => rfl⟩
  | x :: segs, h => by
    obtain ⟨i1, i2⟩ := fw_flat segs (fun y hy => h y (List.mem_cons_of_mem _ hy))
    have hx := h x List.mem_cons_self
    rw [flat_cons]
    show _ = Except.ok (Seg.step x (wo segs (false, []))).2 ∧ ∀ t, _ = Except.ok (addW t (Seg.step x (wo segs (false, []))).2 (Seg.step x (wo segs (false, []))).1)
    revert i1 i2
    generalize wo segs (false, []) = p
    intro i1 i2
    cases x with
    | ch c =>
      simp only [Seg.txt, List.singleton_append, fw, Seg.step]
      by_cases hw : isWs c = true
      · rw [if_pos hw, if_pos hw]
        refine ⟨i1, fun t => ?_⟩
        rw [if_pos hw, i1]; rfl
      · rw [if_neg hw, if_neg hw, if_neg hx]
        refine ⟨i2 _, fun t => ?_⟩
        rw [if_neg hw, if_neg hx, i2, addW_addW]
    | qt q s =>
      obtain ⟨hq, hs⟩ := hx
      simp only [Seg.txt, List.cons_append, List.append_assoc, List.singleton_append, fw, Seg.step, List.nil_append]
      rw [if_neg (q_ws hq), if_pos hq, fw_q s q [] _ hs]
      refine ⟨i2 _, fun t => ?_⟩
      rw [if_neg (q_ws hq), if_pos hq, fw_q s q t _ hs, i2, addW_addW]
theorem fw_open : ∀ (segs : List Seg), (∀ x ∈ segs, x.ok) → ∀ (q : Nat) (u : List Nat), (q = 39 ∨ q = 34) → q ∉ u → fw (flat segs ++ q :: u) .gap = .error "No closing quotation" ∧ ∀ t, fw (flat segs ++ q :: u) (.word t) = .error "No closing quotation"
  | [], _, q, u, hq, hu => by
    simp only [flat, List.flatMap_nil, List.nil_append, fw]
    rw [if_neg (q_ws hq), if_pos hq]
    refine ⟨fw_qe u q _ hu, fun t => ?_⟩
    rw [if_neg (q_ws hq), if_pos hq]
    exact fw_qe u q _ hu
  | x :: segs, h, q, u, hq', hu => by
    obtain ⟨i1, i2⟩ := fw_open segs (fun y hy => h y (List.mem_cons_of_mem _ hy)) q u hq' hu
    have hx := h x List.mem_cons_self
    rw [flat_cons, List.append_assoc]
    cases x with
    | ch c =>
      simp only [Seg.txt, List.singleton_append, fw]
      by_cases hw : isWs c = true
      · rw [if_pos hw]
        refine ⟨i1, fun t => ?_⟩
        rw [if_pos hw, i1]; rfl
      · rw [if_neg hw, if_neg hx]
        refine ⟨i2 _, fun t => ?_⟩
        rw [if_neg hw, if_neg hx, i2]
    | qt q s =>
      obtain ⟨hq, hs⟩ := hx
      simp only [Seg.txt, List.cons_append, List.append_assoc, List.singleton_append, fw, List.nil_append]
      rw [if_neg (q_ws hq), if_pos hq, fw_q s q [] _ hs]
      refine ⟨i2 _, fun t => ?_⟩
      rw [if_neg (q_ws hq), if_pos hq, fw_q s q t _ hs, i2]
theorem text_dec : ∀ (n : Nat) (l : List Nat), l.length ≤ n → ∃ segs, (∀ x ∈ segs, Seg.ok x) ∧ (l = flat segs ∨ ∃ q u, (q = 39 ∨ q = 34) ∧ q ∉ u ∧ l = flat segs ++ q :: u) := by
  intro n
  induction n with
  | zero =>
    intro l hl
    have : l = [] := List.length_eq_zero_iff.mp (by omega)
    exact ⟨[], by simp, .inl (by rw [this]; rfl)⟩
  | succ n ih =>
    intro l hl
    cases l with
    | nil => exact ⟨[], by simp, .inl rfl⟩
    | cons c l =>
      simp only [List.length_cons] at hl
      have app : ∀ (x : Seg) (rest : List Nat), x.ok → c :: l = x.txt ++ rest → rest.length ≤ n → ∃ segs, (∀ x ∈ segs, Seg.ok x) ∧ (c :: l = flat segs ∨ ∃ q u, (q = 39 ∨ q = 34) ∧ q ∉ u ∧ c :: l = flat segs ++ q :: u) := fun x rest hx e hr => by
        obtain ⟨segs, h1, h2⟩ := ih rest hr
        refine ⟨x :: segs, fun y hy => (List.mem_cons.mp hy).elim (fun z => z ▸ hx) (h1 y), ?_⟩
        rcases h2 with h2 | ⟨q, u, a, b, h2⟩
        · exact .inl (by rw [e, h2, flat_cons])
        · exact .inr ⟨q, u, a, b, by rw [e, h2, flat_cons, List.append_assoc]⟩
      by_cases hq : c = 39 ∨ c = 34
      · cases hc : cut c l with
        | none => exact ⟨[], by simp, .inr ⟨c, l, hq, cut_none hc, rfl⟩⟩
        | some p =>
          obtain ⟨a, b⟩ := p
          obtain ⟨e1, e2⟩ := cut_some hc
          exact app (.qt c a) b ⟨hq, e2⟩ (by rw [e1]; simp [Seg.txt]) (by rw [e1] at hl; simp at hl; omega)
      · exact app (.ch c) l hq rfl (by omega)
theorem plain02 (t : List Nat) (h : lawL t 0 ≠ none) : lx false t .gap = bwR t.reverse [] false := by
  rw [((lx_fw t).1 h).1]
  obtain ⟨segs, h1, h2⟩ := text_dec _ t (Nat.le_refl _)
  rcases h2 with rfl | ⟨q, u, hq, hu, rfl⟩
  · rw [(fw_flat segs h1).1]
    have := bwR_flat segs h1 [] [] false
    rw [List.append_nil, bwR_nil] at this
    exact this.symm
  · rw [(fw_open segs h1 q u hq hu).1]
    cases hb : bwR (flat segs ++ q :: u).reverse [] false with
    | ok res =>
      exfalso
      obtain ⟨segs', k1, k2⟩ := bwR_dec _ _ (Nat.le_refl _) _ _ _ hb
      have e : flat segs ++ q :: u = flat segs' := by have := congrArg List.reverse k2; simpa using this
      have a := (fw_open segs h1 q u hq hu).1
      rw [e, (fw_flat segs' k1).1] at a
      cases a
    | error m =>
      have : ∀ (n : Nat) (r : List Nat), r.length ≤ n → ∀ ws b m, bwR r ws b = .error m → m = "No closing quotation" := by
        intro n
        induction n with
        | zero =>
          intro r hr ws b m hm
          have : r = [] := List.length_eq_zero_iff.mp (by omega)
          subst this
          rw [bwR_nil] at hm; cases hm
        | succ n ih =>
          intro r hr ws b m hm
          cases r with
          | nil => rw [bwR_nil] at hm; cases hm
          | cons c r =>
            simp only [List.length_cons] at hr
            by_cases hw : isWs c = true
            · rw [bwR_ws hw] at hm; exact ih r (by omega) _ _ _ hm
            · by_cases hq : c = 39 ∨ c = 34
              · cases hc : cut c r with
                | none => rw [bwR_er hq (cut_none hc)] at hm; cases hm; rfl
                | some p =>
                  obtain ⟨a, b'⟩ := p
                  obtain ⟨e1, e2⟩ := cut_some hc
                  subst e1
                  rw [bwR_qt hq e2] at hm
                  simp at hr
                  exact ih b' (by omega) _ _ _ hm
              · rw [bwR_ch hw hq] at hm; exact ih r (by omega) _ _ _ hm
      rw [this _ _ (Nat.le_refl _) _ _ _ hb]
open PySem.StrLaws Builtin.Str in
theorem rfind_spec {t : List Nat} {c k : Nat} (hk : k ≤ t.length) : (c ∉ t.take k ∧ rfindV (S t) (S [c]) 0 (k : Int) = -1) ∨ ∃ f, f < k ∧ t[f]? = some c ∧ c ∉ (t.take k).drop (f + 1) ∧ rfindV (S t) (S [c]) 0 (k : Int) = (f : Int) := by
  unfold rfindV
  have e1 : fromIndex (S t).length (0 : Int) = 0 := by unfold fromIndex; rw [if_neg (by omega)]; omega
  have e2 : min (fromIndex (S t).length (k : Int)) (S t).length = k := by unfold fromIndex; rw [if_neg (by omega), S_len]; omega
  rw [e1, e2, last_eq]
  have key := last_run (S t) (S [c]) k (List.range' 0 (k + 1 - 0)) [] none (fun _ h => nomatch h) (fun _ h => nomatch h) (by simpa using List.pairwise_lt_range' (s := 0) (n := k + 1 - 0))
  have at_iff : ∀ i, At (S t) (S [c]) k i ↔ i < k ∧ t[i]? = some c := fun i => by
    have := subAt_one (S t) c i
    have e : (S t).cps.toList = t := by simp [S]
    rw [e] at this
    show (i + (S [c]).length ≤ k ∧ subAt (S t) (S [c]) i = true) ↔ _
    rw [S_len]
    constructor
    · rintro ⟨a, b⟩
      simp only [List.length_cons, List.length_nil] at a
      refine ⟨by omega, this.mp ⟨?_, b⟩⟩
      show i + 1 ≤ _; rw [S_len]; omega
    · rintro ⟨a, b⟩
      exact ⟨by simp only [List.length_cons, List.length_nil]; omega, (this.mpr b).2⟩
  have mem : ∀ i, At (S t) (S [c]) k i → i ∈ [] ++ List.range' 0 (k + 1 - 0) := fun i hi => by have := ((at_iff i).mp hi).1; simp [List.mem_range']; omega
  cases hr : (forIn (List.range' 0 (k + 1 - 0)) none (lastBody (S t) (S [c]) k)).run with
  | none =>
    rw [hr] at key
    refine .inl ⟨fun z => ?_, rfl⟩
    obtain ⟨i, hi, e⟩ := List.getElem_of_mem z
    simp only [List.length_take] at hi
    have := (at_iff i).mpr ⟨by omega, by rw [List.getElem_take] at e; rw [List.getElem?_eq_getElem (by omega), e]⟩
    exact key i (mem i this) this
  | some a =>
    rw [hr] at key
    obtain ⟨h1, h2⟩ := (at_iff a).mp key.1
    refine .inr ⟨a, h1, h2, fun z => ?_, rfl⟩
    obtain ⟨i, hi, e⟩ := List.getElem_of_mem z
    simp only [List.length_drop, List.length_take] at hi
    simp only [List.getElem_drop, List.getElem_take] at e
    have := (at_iff (a + 1 + i)).mpr ⟨by omega, by rw [List.getElem?_eq_getElem (by omega), e]⟩
    exact key.2 (a + 1 + i) (mem _ this) (by omega) this
end Mine
set_option maxHeartbeats 8000000
noncomputable section
namespace Mine
def topG (st : SharedT → Thread → Option (SharedT × Thread)) (ok : Thread → Bool) : Nat → SharedT → Thread → Option SharedT
  | 0, _, _ => none
  | n + 1, s, t => match through t with
    | true => some s
    | false => match ok t with
      | false => none
      | true => match st s t with
        | some (s', t') => topG st ok n s' t'
        | none => none
theorem topG_of {tb : String → Option Builtin} {p : Program} {w : World} {n₀ : Nat} {ann : Option Value} : ∀ {n : Nat} {s s' : SharedT} {t : Thread}, topG (stepT (denote tb) p w) (stepOk n₀ ann) n s t = some s' → topRun tb p w n₀ ann n s.abs t = some s'.abs
  | 0, _, _, _, h => by cases h
  | n + 1, s, s', t, h => by
    unfold topG at h
    unfold topRun
    cases he : through t with
    | true => rw [he] at h; cases h; rfl
    | false =>
      rw [he] at h
      cases hk : stepOk n₀ ann t with
      | false => rw [hk] at h; cases h
      | true =>
        rw [hk] at h
        cases hs : stepT (denote tb) p w s t with
        | none => rw [hs] at h; cases h
        | some r => obtain ⟨s₂, t₂⟩ := r; rw [hs] at h; rw [stepT_spec hs]; exact topG_of h
def mkT : List Obj → BT → Nat → Option (BT × Nat)
  | [], T, n => some (T, n)
  | o :: r, T, n => match ((T.ins n o).get n).isSome with
    | true => mkT r (T.ins n o) (n + 1)
    | false => none
theorem mkT_spec (life : Life) : ∀ {xs : List Obj} {T : BT} {n : Nat} {r : BT × Nat}, mkT xs T n = some r → absHeap r.1 r.2 life = ⟨(absHeap T n life).objs ++ xs.toArray, life⟩
  | [], T, n, r, h => by
    cases h
    simp [absHeap]
  | o :: xs, T, n, r, h => by
    unfold mkT at h
    cases he : ((T.ins n o).get n).isSome with
    | false => rw [he] at h; cases h
    | true =>
      rw [he] at h
      rw [mkT_spec life h, absHeap_ins he]
      show Heap.mk (((absHeap T n life).objs.push o) ++ xs.toArray) life = _
      simp
def checksT (p : Program) (s₀ s₁ : Shared) : Bool := staticsOk (importedModules p.main.body) s₀.heap s₁.heap && namesBound p s₁.heap && gensDone s₁ && laidKept s₀.heap s₁.heap
noncomputable def endsF (p : Program) (w : World) (N : Nat) : Option Shared :=
  ((Fast.tw10274390034422433532 Fast.tw14364793385576792824 (opening p) w N (Fast.tw1435165496053646825 (opening p)).1 (Fast.tw1435165496053646825 (opening p)).2).bind (Fast.tw14289696077712309145 p)).bind fun s₀ =>
    match s₀.heap.isNs mainGlobals && s₀.gens.size == 0 with
    | true => (mkT s₀.heap.objs.toList .nil 0).bind fun Tn =>
        (topG (Fast.tw10156331382660048174 (Fast.tw11892475500146522536 Fast.tw14364793385576792824) p w) (Fast.tw6613529449190102663 s₀.heap.objs.size (s₀.heap.nsMap mainGlobals "__annotations__")) N ⟨Tn.1, Tn.2, s₀.heap.life, s₀.gens, s₀.drawn, s₀.toks, s₀.os⟩ (topStub p)).bind fun sT =>
          match checksT p s₀ sT.abs with
          | true => some sT.abs
          | false => none
    | false => none
theorem endsF_spec {p : Program} {w : World} {N : Nat} {s : Shared} (h : endsF p w N = some s) : openEnds treeTable p w N = some s := by
  unfold endsF at h
  rw [← Fast.te10274390034422433532, ← Fast.te14364793385576792824, ← Fast.te1435165496053646825, ← Fast.te14289696077712309145, ← Fast.te10156331382660048174, ← Fast.te11892475500146522536, ← Fast.te6613529449190102663] at h
  obtain ⟨s₀, e0, h⟩ := Option.bind_eq_some_iff.mp h
  unfold openEnds
  have e0' : fencedOpening treeTable p w N = some s₀ := e0
  rw [e0']
  show topFrom treeTable p w N s₀ = some s
  unfold topFrom
  cases hb : (s₀.heap.isNs mainGlobals && s₀.gens.size == 0) with
  | false => rw [hb] at h; cases h
  | true =>
    rw [hb] at h
    obtain ⟨Tn, e1, h⟩ := Option.bind_eq_some_iff.mp h
    obtain ⟨sT, e2, h⟩ := Option.bind_eq_some_iff.mp h
    have e3 := topG_of e2
    have e4 : (⟨Tn.1, Tn.2, s₀.heap.life, s₀.gens, s₀.drawn, s₀.toks, s₀.os⟩ : SharedT).abs = s₀ := by
      obtain ⟨⟨objs, life⟩, gens, drawn, toks, os⟩ := s₀
      have := mkT_spec life e1
      show Shared.mk (absHeap Tn.1 Tn.2 life) gens drawn toks os = _
      rw [this]
      simp [absHeap, BT.list]
    rw [e4] at e3
    show (topRun treeTable p w s₀.heap.objs.size (s₀.heap.nsMap mainGlobals "__annotations__") N s₀ (topStub p)).bind _ = _
    rw [e3]
    exact h
theorem leftF {p q : Program} {loose : List Str} {Xt : Shared → Bool} {α : Type} {Yf : Shared → α} {Ya : World → α} {N : Nat}
    (h : ∀ w, (endsF p w N).map (fun s => (Fast.tw4187177175401517315 q loose (importedModules p.main.body) Xt true s, Yf s)) = some (openGood q loose, Ya w)) : LeftO p q loose Xt Yf Ya N := by
  intro w
  have := h w
  rw [← Fast.te4187177175401517315] at this
  obtain ⟨s, e1, e2⟩ := Option.map_eq_some_iff.mp this
  rw [endsF_spec e1]
  exact congrArg some e2
end Mine
namespace Mine
def topSt (i : Nat) : Stmt := PySem.Challenge.pw_dz0104_02.main.body.getD i (.Pass default)
def clsSt (s : Stmt) (j : Nat) : Stmt := match s with
  | .ClassDef _ _ _ body .. => body.getD j (.Pass default)
  | s => s
def fnOf (s : Stmt) (qn : Str) (df kd md cd : Value) : Obj := match s with
  | .FunctionDef name args body _ _ _ scope _ _ _ => { cls := .type "function", data := .func { name := name, qualname := qn, params := args, body := .stmts body, scope := scope, globals := 3, closure := [], defaults := df, kwdefaults := kd, pyModule := md, code := cd } }
  | _ => default
noncomputable def HK (P : Params) : Frag := [
  (2, { cls := .none, data := .dict #[{ hash := PyData.keyHash P "\x69mport.loaded._collections", key := .str "\x69mport.loaded._collections" 185, val := .bool true }, { hash := PyData.keyHash P "class._frozen_\x69mportlib.BuiltinImporter", key := .str "class._frozen_\x69mportlib.BuiltinImporter" 187, val := .ref 15 }, { hash := PyData.keyHash P "watched.\x69mport", key := .str "watched.\x69mport" 208, val := .ref 19 }, { hash := PyData.keyHash P "class._frozen_\x69mportlib.ModuleSpec", key := .str "class._frozen_\x69mportlib.ModuleSpec" 218, val := .ref 23 }, { hash := PyData.keyHash P "sys.modules.booked-epoch", key := .str "sys.modules.booked-epoch" 247, val := .int 3 0 }, { hash := PyData.keyHash P "sys.modules.landed._collections", key := .str "sys.modules.landed._collections" 248, val := .bool true }, { hash := PyData.keyHash P "\x69mport.later-laid._collections", key := .str "\x69mport.later-laid._collections" 263, val := .bool true }, { hash := PyData.keyHash P "watched.library", key := .str "watched.library" 265, val := .ref 28 }, { hash := PyData.keyHash P "watched.library-objects", key := .str "watched.library-objects" 0, val := .str "\x0d" 0 }, { hash := PyData.keyHash P "watched.library-deep._collections", key := .str "watched.library-deep._collections" 266, val := .str "\x04\x00\x00\x0c\x04\x00\x00\x0c\x04\x00\x00\x03\x04\x00\x00\x0c\x08\x04dict\x02" 0 }, { hash := PyData.keyHash P "type.__subclasses__.OSError.0", key := .str "type.__subclasses__.OSError.0" 322, val := .int 63 0 }, { hash := PyData.keyHash P "type.__subclasses__.OSError.n", key := .str "type.__subclasses__.OSError.n" 323, val := .int 1 0 }] 12 }),
  (3, { cls := .type "dict", data := .dict #[{ hash := PyData.keyHash P "__name__", key := .str "__name__" 165, val := .str "law_dz0104_02" 1152 }, { hash := PyData.keyHash P "__doc__", key := .str "__doc__" 166, val := .none }, { hash := PyData.keyHash P "__package__", key := .str "__package__" 167, val := .none }, { hash := PyData.keyHash P "__loader__", key := .str "__loader__" 168, val := .builtin "__main__.__loader__#opaque" }, { hash := PyData.keyHash P "__spec__", key := .str "__spec__" 169, val := .none }, { hash := PyData.keyHash P "__annotations__", key := .str "__annotations__" 170, val := .ref 6 }, { hash := PyData.keyHash P "__builtins__", key := .str "__builtins__" 171, val := .ref 4 }, { hash := PyData.keyHash P "__file__", key := .str "__file__" 173, val := .str "/claim/cut.py" 172 }, { hash := PyData.keyHash P "__cached__", key := .str "__cached__" 174, val := .none }, { hash := PyData.keyHash P "deque", key := .str "deque" 272, val := .type "collections.deque" }, { hash := PyData.keyHash P "_wall", key := .str "_wall" 285, val := .ref 39 }, { hash := PyData.keyHash P "_whence", key := .str "_whence" 295, val := .ref 46 }, { hash := PyData.keyHash P "_index", key := .str "_index" 303, val := .ref 53 }, { hash := PyData.keyHash P "UnsupportedOperation", key := .str "UnsupportedOperation" 325, val := .ref 63 }, { hash := PyData.keyHash P "IOBase", key := .str "IOBase" 357, val := .ref 83 }, { hash := PyData.keyHash P "BufferedIOBase", key := .str "BufferedIOBase" 375, val := .ref 98 }, { hash := PyData.keyHash P "TextIOBase", key := .str "TextIOBase" 393, val := .ref 110 }, { hash := PyData.keyHash P "BytesIO", key := .str "BytesIO" 655, val := .ref 340 }, { hash := PyData.keyHash P "StringIO", key := .str "StringIO" 942, val := .ref 587 }, { hash := PyData.keyHash P "_kind", key := .str "_kind" 953, val := .ref 596 }, { hash := PyData.keyHash P "_fspath", key := .str "_fspath" 962, val := .ref 603 }, { hash := PyData.keyHash P "_check_arg_types", key := .str "_check_arg_types" 972, val := .ref 610 }, { hash := PyData.keyHash P "isabs", key := .str "isabs" 979, val := .ref 617 }, { hash := PyData.keyHash P "join", key := .str "join" 990, val := .ref 624 }, { hash := PyData.keyHash P "dirname", key := .str "dirname" 1000, val := .ref 631 }, { hash := PyData.keyHash P "shlex", key := .str "shlex" 1141, val := .ref 722 }, { hash := PyData.keyHash P "split", key := .str "split" 1151, val := .ref 734 }, { hash := PyData.keyHash P "_law_sign", key := .str "_law_sign" 1163, val := .ref 741 }, { hash := PyData.keyHash P "_law_text", key := .str "_law_text" 1174, val := .ref 748 }, { hash := PyData.keyHash P "_law_from_its_end", key := .str "_law_from_its_end" 1187, val := .ref 755 }, { hash := PyData.keyHash P "_law_told", key := .str "_law_told" 1195, val := .ref 762 }, { hash := PyData.keyHash P "law", key := .str "law" 1203, val := .ref 769 }] 32 }),
  (52, { cls := .type "code", data := .fields #[.str "_index" 296, .str "_index" 297, .str "/claim/cut.py" 298, .int 11 0, .int 2 0, .int 0 0, .int 0 0, .int 3 0, .ref 47, .bool true, .int 273 0, .ref 48, .none, .ref 49, .ref 50, .ref 51, .int 301 0, .int 11 0, .str "/claim/cut.py" 302] }),
  (53, fnOf (topSt 4) "_index" (.none) (.none) (.str "io" 286) (.ref 52)),
  (79, { cls := .type "code", data := .fields #[.str "__new__" 340, .str "IOBase.__new__" 341, .str "/claim/cut.py" 342, .int 23 0, .int 1 0, .int 1 0, .int 0 0, .int 15 0, .ref 74, .bool true, .int 273 0, .ref 75, .none, .ref 76, .ref 77, .ref 78, .int 346 0, .int 23 0, .str "/claim/cut.py" 347] }),
  (80, fnOf (clsSt (topSt 6) 1) "IOBase.__new__" (.none) (.none) (.str "io" 286) (.ref 79)),
  (82, { cls := .type "dict", data := .dict #[{ hash := PyData.keyHash P "__module__", key := .str "__module__" 333, val := .str "io" 338 }, { hash := PyData.keyHash P "__firstlineno__", key := .str "__firstlineno__" 337, val := .int 20 336 }, { hash := PyData.keyHash P "__new__", key := .str "__new__" 348, val := .ref 84 }, { hash := PyData.keyHash P "__static_attributes__", key := .str "__static_attributes__" 349, val := .ref 81 }, { hash := PyData.keyHash P "__dict__", key := .str "__dict__" 352, val := .ref 85 }, { hash := PyData.keyHash P "__weakref__", key := .str "__weakref__" 354, val := .ref 86 }, { hash := PyData.keyHash P "__doc__", key := .str "__doc__" 355, val := .none }] 4 }),
  (83, { cls := .type "type", data := .cls { name := "IOBase", bases := [.type "object"], mro := [.ref 83, .type "object"], ns := 82, qualname := "IOBase", subclasses := [.ref 98, .ref 110] }, slots := #[none, none, some (.str "IOBase" 326), some (.str "IOBase" 334), some .none, some (.bool true)] }),
  (84, { cls := .type "staticmethod", data := .fields #[.ref 80] }),
  (109, { cls := .type "dict", data := .dict #[{ hash := PyData.keyHash P "__module__", key := .str "__module__" 383, val := .str "io" 388 }, { hash := PyData.keyHash P "__firstlineno__", key := .str "__firstlineno__" 387, val := .int 29 386 }, { hash := PyData.keyHash P "__static_attributes__", key := .str "__static_attributes__" 390, val := .ref 108 }, { hash := PyData.keyHash P "__doc__", key := .str "__doc__" 391, val := .none }] 2 }),
  (110, { cls := .type "type", data := .cls { name := "TextIOBase", bases := [.ref 83], mro := [.ref 110, .ref 83, .type "object"], ns := 109, qualname := "TextIOBase", subclasses := [.ref 587] }, slots := #[some (.ref 101), none, some (.str "TextIOBase" 376), some (.str "TextIOBase" 384), some .none, some (.bool true)] }),
  (340, { cls := .type "type", data := .cls { name := "BytesIO", bases := [.ref 98], mro := [.ref 340, .ref 98, .ref 83, .type "object"], ns := 339, qualname := "BytesIO" }, slots := #[some (.ref 113), none, some (.str "BytesIO" 394), some (.str "BytesIO" 402), some .none, some (.bool true)] }),
  (350, { cls := .type "tuple", data := .seq #[.str "" 670, .str "\n" 671] }),
  (356, { cls := .type "code", data := .fields #[.str "__init__" 672, .str "StringIO.__init__" 673, .str "/claim/cut.py" 674, .int 204 0, .int 3 0, .int 0 0, .int 0 0, .int 3 0, .ref 351, .bool true, .int 273 0, .ref 352, .none, .ref 353, .ref 354, .ref 355, .int 678 0, .int 204 0, .str "/claim/cut.py" 679] }),
  (357, fnOf (clsSt (topSt 10) 1) "StringIO.__init__" (.ref 350) (.none) (.str "io" 286) (.ref 356)),
  (363, { cls := .type "code", data := .fields #[.str "__translated" 681, .str "StringIO.__translated" 682, .str "/claim/cut.py" 683, .int 217 0, .int 2 0, .int 0 0, .int 0 0, .int 3 0, .ref 358, .bool true, .int 273 0, .ref 359, .none, .ref 360, .ref 361, .ref 362, .int 687 0, .int 217 0, .str "/claim/cut.py" 688] }),
  (364, fnOf (clsSt (topSt 10) 2) "StringIO.__translated" (.none) (.none) (.str "io" 286) (.ref 363)),
  (370, { cls := .type "code", data := .fields #[.str "__check" 690, .str "StringIO.__check" 691, .str "/claim/cut.py" 692, .int 225 0, .int 1 0, .int 0 0, .int 0 0, .int 3 0, .ref 365, .bool true, .int 273 0, .ref 366, .none, .ref 367, .ref 368, .ref 369, .int 694 0, .int 225 0, .str "/claim/cut.py" 695] }),
  (371, fnOf (clsSt (topSt 10) 3) "StringIO.__check" (.none) (.none) (.str "io" 286) (.ref 370)),
  (384, { cls := .type "code", data := .fields #[.str "__line" 704, .str "StringIO.__line" 705, .str "/claim/cut.py" 706, .int 233 0, .int 2 0, .int 0 0, .int 0 0, .int 3 0, .ref 379, .bool true, .int 273 0, .ref 380, .none, .ref 381, .ref 382, .ref 383, .int 716 0, .int 233 0, .str "/claim/cut.py" 717] }),
  (385, fnOf (clsSt (topSt 10) 5) "StringIO.__line" (.none) (.none) (.str "io" 286) (.ref 384)),
  (526, { cls := .type "tuple", data := .seq #[.int (-1) 863] }),
  (532, { cls := .type "code", data := .fields #[.str "read" 864, .str "StringIO.read" 865, .str "/claim/cut.py" 866, .int 347 0, .int 2 0, .int 2 0, .int 0 0, .int 3 0, .ref 527, .bool true, .int 273 0, .ref 528, .none, .ref 529, .ref 530, .ref 531, .int 871 0, .int 347 0, .str "/claim/cut.py" 872] }),
  (533, fnOf (clsSt (topSt 10) 25) "StringIO.read" (.ref 526) (.none) (.str "io" 286) (.ref 532)),
  (534, { cls := .type "tuple", data := .seq #[.int (-1) 875] }),
  (540, { cls := .type "code", data := .fields #[.str "readline" 876, .str "StringIO.readline" 877, .str "/claim/cut.py" 878, .int 361 0, .int 2 0, .int 2 0, .int 0 0, .int 3 0, .ref 535, .bool true, .int 273 0, .ref 536, .none, .ref 537, .ref 538, .ref 539, .int 881 0, .int 361 0, .str "/claim/cut.py" 882] }),
  (541, fnOf (clsSt (topSt 10) 26) "StringIO.readline" (.ref 534) (.none) (.str "io" 286) (.ref 540)),
  (586, { cls := .type "dict", data := .dict #[{ hash := PyData.keyHash P "__module__", key := .str "__module__" 663, val := .str "_io" 668 }, { hash := PyData.keyHash P "__firstlineno__", key := .str "__firstlineno__" 667, val := .int 201 666 }, { hash := PyData.keyHash P "__init__", key := .str "__init__" 680, val := .ref 357 }, { hash := PyData.keyHash P "_StringIO__translated", key := .str "_StringIO__translated" 689, val := .ref 364 }, { hash := PyData.keyHash P "_StringIO__check", key := .str "_StringIO__check" 696, val := .ref 371 }, { hash := PyData.keyHash P "_StringIO__check_dot", key := .str "_StringIO__check_dot" 703, val := .ref 378 }, { hash := PyData.keyHash P "_StringIO__line", key := .str "_StringIO__line" 718, val := .ref 385 }, { hash := PyData.keyHash P "closed", key := .str "closed" 726, val := .ref 393 }, { hash := PyData.keyHash P "line_buffering", key := .str "line_buffering" 734, val := .ref 401 }, { hash := PyData.keyHash P "newlines", key := .str "newlines" 742, val := .ref 409 }, { hash := PyData.keyHash P "encoding", key := .str "encoding" 750, val := .ref 417 }, { hash := PyData.keyHash P "errors", key := .str "errors" 758, val := .ref 425 }, { hash := PyData.keyHash P "close", key := .str "close" 765, val := .ref 432 }, { hash := PyData.keyHash P "__enter__", key := .str "__enter__" 772, val := .ref 439 }, { hash := PyData.keyHash P "__exit__", key := .str "__exit__" 780, val := .ref 446 }, { hash := PyData.keyHash P "readable", key := .str "readable" 787, val := .ref 453 }, { hash := PyData.keyHash P "writable", key := .str "writable" 794, val := .ref 460 }, { hash := PyData.keyHash P "seekable", key := .str "seekable" 801, val := .ref 467 }, { hash := PyData.keyHash P "isatty", key := .str "isatty" 808, val := .ref 474 }, { hash := PyData.keyHash P "flush", key := .str "flush" 815, val := .ref 481 }, { hash := PyData.keyHash P "fileno", key := .str "fileno" 822, val := .ref 488 }, { hash := PyData.keyHash P "detach", key := .str "detach" 829, val := .ref 495 }, { hash := PyData.keyHash P "getvalue", key := .str "getvalue" 836, val := .ref 502 }, { hash := PyData.keyHash P "tell", key := .str "tell" 843, val := .ref 509 }, { hash := PyData.keyHash P "seek", key := .str "seek" 853, val := .ref 517 }, { hash := PyData.keyHash P "truncate", key := .str "truncate" 861, val := .ref 525 }, { hash := PyData.keyHash P "read", key := .str "read" 873, val := .ref 533 }, { hash := PyData.keyHash P "readline", key := .str "readline" 883, val := .ref 541 }, { hash := PyData.keyHash P "readlines", key := .str "readlines" 893, val := .ref 549 }, { hash := PyData.keyHash P "__iter__", key := .str "__iter__" 900, val := .ref 556 }, { hash := PyData.keyHash P "__next__", key := .str "__next__" 908, val := .ref 563 }, { hash := PyData.keyHash P "write", key := .str "write" 920, val := .ref 570 }, { hash := PyData.keyHash P "writelines", key := .str "writelines" 928, val := .ref 577 }, { hash := PyData.keyHash P "__repr__", key := .str "__repr__" 935, val := .ref 584 }, { hash := PyData.keyHash P "__static_attributes__", key := .str "__static_attributes__" 939, val := .ref 585 }, { hash := PyData.keyHash P "__doc__", key := .str "__doc__" 940, val := .none }] 2 }),
  (587, { cls := .type "type", data := .cls { name := "StringIO", bases := [.ref 110], mro := [.ref 587, .ref 110, .ref 83, .type "object"], ns := 586, qualname := "StringIO" }, slots := #[some (.ref 343), none, some (.str "StringIO" 656), some (.str "StringIO" 664), some .none, some (.bool true)] }),
  (639, { cls := .type "tuple", data := .seq #[.none, .none, .bool false, .bool false] }),
  (645, { cls := .type "code", data := .fields #[.str "__init__" 1015, .str "shlex.__init__" 1016, .str "/claim/cut.py" 1017, .int 472 0, .int 5 0, .int 0 0, .int 0 0, .int 3 0, .ref 640, .bool true, .int 273 0, .ref 641, .none, .ref 642, .ref 643, .ref 644, .int 1024 0, .int 472 0, .str "/claim/cut.py" 1025] }),
  (646, fnOf (clsSt (topSt 19) 0) "shlex.__init__" (.ref 639) (.none) (.str "cpy313.shlex" 1001) (.ref 645)),
  (652, { cls := .type "code", data := .fields #[.str "punctuation_chars" 1027, .str "shlex.punctuation_chars" 1028, .str "/claim/cut.py" 1029, .int 513 0, .int 1 0, .int 0 0, .int 0 0, .int 3 0, .ref 647, .bool true, .int 273 0, .ref 648, .none, .ref 649, .ref 650, .ref 651, .int 1031 0, .int 513 0, .str "/claim/cut.py" 1032] }),
  (653, fnOf (clsSt (topSt 19) 1) "shlex.punctuation_chars" (.none) (.none) (.str "cpy313.shlex" 1001) (.ref 652)),
  (654, { cls := .type "property", data := .fields #[.ref 653, .none, .none, .none, .str "punctuation_chars" 1034, .bool false] }),
  (682, { cls := .type "code", data := .fields #[.str "get_token" 1059, .str "shlex.get_token" 1060, .str "/claim/cut.py" 1061, .int 540 0, .int 1 0, .int 0 0, .int 0 0, .int 3 0, .ref 677, .bool true, .int 273 0, .ref 678, .none, .ref 679, .ref 680, .ref 681, .int 1068 0, .int 540 0, .str "/claim/cut.py" 1069] }),
  (683, fnOf (clsSt (topSt 19) 5) "shlex.get_token" (.none) (.none) (.str "cpy313.shlex" 1001) (.ref 682)),
  (689, { cls := .type "code", data := .fields #[.str "read_token" 1071, .str "shlex.read_token" 1072, .str "/claim/cut.py" 1073, .int 567 0, .int 1 0, .int 0 0, .int 0 0, .int 3 0, .ref 684, .bool true, .int 273 0, .ref 685, .none, .ref 686, .ref 687, .ref 688, .int 1079 0, .int 567 0, .str "/claim/cut.py" 1080] }),
  (690, fnOf (clsSt (topSt 19) 6) "shlex.read_token" (.none) (.none) (.str "cpy313.shlex" 1001) (.ref 689)),
  (711, { cls := .type "code", data := .fields #[.str "__iter__" 1099, .str "shlex.__iter__" 1100, .str "/claim/cut.py" 1101, .int 714 0, .int 1 0, .int 0 0, .int 0 0, .int 3 0, .ref 706, .bool true, .int 273 0, .ref 707, .none, .ref 708, .ref 709, .ref 710, .int 1103 0, .int 714 0, .str "/claim/cut.py" 1104] }),
  (712, fnOf (clsSt (topSt 19) 9) "shlex.__iter__" (.none) (.none) (.str "cpy313.shlex" 1001) (.ref 711)),
  (718, { cls := .type "code", data := .fields #[.str "__next__" 1106, .str "shlex.__next__" 1107, .str "/claim/cut.py" 1108, .int 717 0, .int 1 0, .int 0 0, .int 0 0, .int 3 0, .ref 713, .bool true, .int 273 0, .ref 714, .none, .ref 715, .ref 716, .ref 717, .int 1111 0, .int 717 0, .str "/claim/cut.py" 1112] }),
  (719, fnOf (clsSt (topSt 19) 10) "shlex.__next__" (.none) (.none) (.str "cpy313.shlex" 1001) (.ref 718)),
  (721, { cls := .type "dict", data := .dict #[{ hash := PyData.keyHash P "__module__", key := .str "__module__" 1010, val := .str "cpy313.shlex" 1001 }, { hash := PyData.keyHash P "__firstlineno__", key := .str "__firstlineno__" 1014, val := .int 470 1013 }, { hash := PyData.keyHash P "__init__", key := .str "__init__" 1026, val := .ref 646 }, { hash := PyData.keyHash P "punctuation_chars", key := .str "punctuation_chars" 1034, val := .ref 654 }, { hash := PyData.keyHash P "push_token", key := .str "push_token" 1042, val := .ref 661 }, { hash := PyData.keyHash P "push_source", key := .str "push_source" 1051, val := .ref 669 }, { hash := PyData.keyHash P "pop_source", key := .str "pop_source" 1058, val := .ref 676 }, { hash := PyData.keyHash P "get_token", key := .str "get_token" 1070, val := .ref 683 }, { hash := PyData.keyHash P "read_token", key := .str "read_token" 1081, val := .ref 690 }, { hash := PyData.keyHash P "sourcehook", key := .str "sourcehook" 1089, val := .ref 697 }, { hash := PyData.keyHash P "error_leader", key := .str "error_leader" 1098, val := .ref 705 }, { hash := PyData.keyHash P "__iter__", key := .str "__iter__" 1105, val := .ref 712 }, { hash := PyData.keyHash P "__next__", key := .str "__next__" 1113, val := .ref 719 }, { hash := PyData.keyHash P "__static_attributes__", key := .str "__static_attributes__" 1134, val := .ref 720 }, { hash := PyData.keyHash P "__dict__", key := .str "__dict__" 1136, val := .ref 723 }, { hash := PyData.keyHash P "__weakref__", key := .str "__weakref__" 1138, val := .ref 724 }, { hash := PyData.keyHash P "__doc__", key := .str "__doc__" 1139, val := .none }] 4 }),
  (722, { cls := .type "type", data := .cls { name := "shlex", bases := [.type "object"], mro := [.ref 722, .type "object"], ns := 721, qualname := "shlex" }, slots := #[none, none, some (.str "shlex" 1003), some (.str "shlex" 1011), some (.builtin "object.__new__"), some (.bool true)] }),
  (727, { cls := .type "tuple", data := .seq #[.bool false, .bool true] }),
  (733, { cls := .type "code", data := .fields #[.str "split" 1142, .str "split" 1143, .str "/claim/cut.py" 1144, .int 722 0, .int 3 0, .int 0 0, .int 0 0, .int 3 0, .ref 728, .bool true, .int 273 0, .ref 729, .none, .ref 730, .ref 731, .ref 732, .int 1149 0, .int 722 0, .str "/claim/cut.py" 1150] }),
  (734, fnOf (topSt 20) "split" (.ref 727) (.none) (.str "cpy313.shlex" 1001) (.ref 733)),
  (740, { cls := .type "code", data := .fields #[.str "_law_sign" 1154, .str "_law_sign" 1155, .str "/claim/cut.py" 1156, .int 731 0, .int 1 0, .int 0 0, .int 0 0, .int 3 0, .ref 735, .bool true, .int 273 0, .ref 736, .none, .ref 737, .ref 738, .ref 739, .int 1161 0, .int 731 0, .str "/claim/cut.py" 1162] }),
  (741, fnOf (topSt 22) "_law_sign" (.none) (.none) (.str "law_dz0104_02" 1152) (.ref 740)),
  (747, { cls := .type "code", data := .fields #[.str "_law_text" 1164, .str "_law_text" 1165, .str "/claim/cut.py" 1166, .int 740 0, .int 1 0, .int 0 0, .int 0 0, .int 3 0, .ref 742, .bool true, .int 273 0, .ref 743, .none, .ref 744, .ref 745, .ref 746, .int 1172 0, .int 740 0, .str "/claim/cut.py" 1173] }),
  (748, fnOf (topSt 23) "_law_text" (.none) (.none) (.str "law_dz0104_02" 1152) (.ref 747)),
  (754, { cls := .type "code", data := .fields #[.str "_law_from_its_end" 1175, .str "_law_from_its_end" 1176, .str "/claim/cut.py" 1177, .int 751 0, .int 1 0, .int 0 0, .int 0 0, .int 3 0, .ref 749, .bool true, .int 273 0, .ref 750, .none, .ref 751, .ref 752, .ref 753, .int 1185 0, .int 751 0, .str "/claim/cut.py" 1186] }),
  (755, fnOf (topSt 24) "_law_from_its_end" (.none) (.none) (.str "law_dz0104_02" 1152) (.ref 754)),
  (761, { cls := .type "code", data := .fields #[.str "_law_told" 1188, .str "_law_told" 1189, .str "/claim/cut.py" 1190, .int 771 0, .int 1 0, .int 0 0, .int 0 0, .int 3 0, .ref 756, .bool true, .int 273 0, .ref 757, .none, .ref 758, .ref 759, .ref 760, .int 1193 0, .int 771 0, .str "/claim/cut.py" 1194] }),
  (762, fnOf (topSt 25) "_law_told" (.none) (.none) (.str "law_dz0104_02" 1152) (.ref 761)),
  (768, { cls := .type "code", data := .fields #[.str "law" 1196, .str "law" 1197, .str "/claim/cut.py" 1198, .int 776 0, .int 1 0, .int 0 0, .int 0 0, .int 3 0, .ref 763, .bool true, .int 273 0, .ref 764, .none, .ref 765, .ref 766, .ref 767, .int 1201 0, .int 776 0, .str "/claim/cut.py" 1202] }),
  (769, fnOf (topSt 26) "law" (.none) (.none) (.str "law_dz0104_02" 1152) (.ref 768))]
def hkA : List Addr := [2, 3, 52, 53, 79, 80, 82, 83, 84, 109, 110, 340, 350, 356, 357, 363, 364, 370, 371, 384, 385, 526, 532, 533, 534, 540, 541, 586, 587, 639, 645, 646, 652, 653, 654, 682, 683, 689, 690, 711, 712, 718, 719, 721, 722, 727, 733, 734, 740, 741, 747, 748, 754, 755, 761, 762, 768, 769]
noncomputable def hkHook : Hook := kHook HK hkA (fun _ => rfl)
def qV : Program := view PySem.Challenge.pw_dz0104_02 [0, 1, 3, 4, 5, 6, 7, 8, 9, 10, 12, 13, 14, 15, 16, 17, 19, 22, 23, 24, 25, 26]
def qL : List Str := ["UnsupportedOperation", "IOBase", "BufferedIOBase", "TextIOBase", "BytesIO", "StringIO", "shlex", "split"]
theorem hd_left : LeftO PySem.Challenge.pw_dz0104_02 qV qL (fun s => xlAt qV [] s && recOk (RowW.records (OpenRow.toRowW (OpenLaw.row PySem.Challenge.rw_dz0104_02))) s) (Hook.obs hkHook) (Hook.val hkHook) 9896 :=
  leftF (fun w => by kernel_rfl)
theorem hd_said : OpenLaw.wellSaid PySem.Challenge.rw_dz0104_02 = true := (congrFun Fast.te9446332074065402090 PySem.Challenge.rw_dz0104_02).trans (by kernel_rfl)
end Mine
namespace Mine
structure Good (C : Cx) : Prop where
  ok : C.Ok
  K : C.K = HK C.w.params
def sioNames : List Str := ["_StringIO__newline", "_StringIO__buf", "_StringIO__pos"]
def lexNames : List Str := ["instream", "infile", "posix", "eof", "commenters", "wordchars", "whitespace", "whitespace_split", "quotes", "escape", "escapedquotes", "state", "pushback", "lineno", "debug", "token", "filestack", "source", "_punctuation_chars", "_pushback_chars"]
section
variable {C : Cx}
theorem noneOf {K : Frag} {c : Addr} {names : List Str} (h : names.all (fun n => findIn K (.ref c) n == some none) = true) : ∀ n ∈ names, findIn K (.ref c) n = some none := fun n hn => by
  have := List.all_eq_true.mp h n hn
  exact beq_iff_eq.mp this
theorem sio_none (pr : Params) : sioNames.all (fun n => findIn (HK pr) (.ref 587) n == some none) = true := by kernel_rfl
theorem lex_none (pr : Params) : lexNames.all (fun n => findIn (HK pr) (.ref 722) n == some none) = true := by kernel_rfl
theorem sio_cls (g : Good C) : ClsOk C 587 sioNames := by
  refine ⟨?_, ?_, ?_, ?_, ?_, ?_⟩
  · rw [g.K]; kernel_rfl
  · rw [g.K]; kernel_rfl
  · rw [g.K]; kernel_rfl
  · rw [g.K]; kernel_rfl
  · rw [g.K]; kernel_rfl
  · rw [g.K]; exact noneOf (sio_none _)
theorem lex_cls (g : Good C) : ClsOk C 722 lexNames := by
  refine ⟨?_, ?_, ?_, ?_, ?_, ?_⟩
  · rw [g.K]; kernel_rfl
  · rw [g.K]; kernel_rfl
  · rw [g.K]; kernel_rfl
  · rw [g.K]; kernel_rfl
  · rw [g.K]; kernel_rfl
  · rw [g.K]; exact noneOf (lex_none _)
theorem sf_check (g : Good C) : findIn C.K (.ref 587) "_StringIO__check" = some (some (.ref 371)) := by rw [g.K]; kernel_rfl
theorem sf_read (g : Good C) : findIn C.K (.ref 587) "read" = some (some (.ref 533)) := by rw [g.K]; kernel_rfl
theorem sf_trans (g : Good C) : findIn C.K (.ref 587) "_StringIO__translated" = some (some (.ref 364)) := by rw [g.K]; kernel_rfl
theorem sf_line (g : Good C) : findIn C.K (.ref 587) "_StringIO__line" = some (some (.ref 385)) := by rw [g.K]; kernel_rfl
theorem sf_readline (g : Good C) : findIn C.K (.ref 587) "readline" = some (some (.ref 541)) := by rw [g.K]; kernel_rfl
theorem lf_get (g : Good C) : findIn C.K (.ref 722) "get_token" = some (some (.ref 683)) := by rw [g.K]; kernel_rfl
theorem lf_read (g : Good C) : findIn C.K (.ref 722) "read_token" = some (some (.ref 690)) := by rw [g.K]; kernel_rfl
end
section
set_option compiler.extract_closed false
set_option hygiene false
-- where a name stands in a row
local macro_rules | `(tactic| walk_at "m mem") => `(tactic| first
  | with_reducible exact List.mem_cons_self
  | ((with_reducible refine List.mem_cons_of_mem _ ?_); walk_at "m mem"))
local macro_rules | `(tactic| walk_at "m up") => `(tactic| first
  | with_reducible exact Up.head
  | ((with_reducible refine' Up.tail ?hh); (case hh => walk_at "m up")))
local macro_rules | `(tactic| walk_at "m keeps") => `(tactic| first
  | with_reducible exact Keeps.builtin _
  | with_reducible exact Keeps.type _
  | exact keepsK (H := HK) (Good.K (by assumption)) (fun pr => by kernel_rfl))
-- expressions
local macro_rules | `(tactic| walk_at "m name") => `(tactic| first
  | ((with_reducible refine' WE_local ?hmem ?_ ?hb); (case hmem => walk_at "m mem"); (case hb => exact rfl))
  | ((with_reducible refine' WE_global ?hmem ?_); (case hmem => walk_at "m mem")))
local macro_rules | `(tactic| walk_at "m const") => `(tactic| first
  | with_reducible refine WE_str ?_
  | with_reducible refine WE_int ?_
  | with_reducible refine WE_bool ?_
  | with_reducible refine WE_none ?_)
local macro_rules | `(tactic| walk_at "m e") => `(tactic| first
  | ((with_reducible refine (?_ : WE _ _ (.Name _ _) _ _ _)); walk_at "m name")
  | with_reducible refine WE_Attribute ?_
  | ((with_reducible refine (?_ : WE _ _ (.Constant _ _ _) _ _ _)); walk_at "m const")
  | with_reducible refine WE_Compare ?_
  | with_reducible refine WE_BinOp ?_
  | with_reducible refine WE_Meth ?_
  | with_reducible refine WE_Call ?_
  | with_reducible refine WE_IfExp ?_
  | with_reducible refine WE_Cut ?_
  | with_reducible refine WE_Subscript ?_
  | with_reducible refine WE_List ?_
  | with_reducible refine WE_Tuple ?_
  | with_reducible refine WE_Unary ?_)
local macro_rules | `(tactic| walk_at "m t") => `(tactic| first
  | with_reducible refine WT_Compare ?_
  | ((with_reducible refine (?_ : WT _ _ (.BoolOp _ _ _) _ _ _)); first
    | with_reducible refine WT_and ?_
    | with_reducible refine WT_or ?_
    | with_reducible refine WT_and_nil ?_
    | with_reducible refine WT_or_nil ?_)
  | with_reducible refine WT_not ?_
  | with_reducible refine WT_plain ?_)
local macro_rules | `(tactic| walk_at "m ss") => `(tactic| first
  | with_reducible refine WSs_one ?_
  | with_reducible refine WSs_cons ?_
  | with_reducible refine WSs_nil ?_)
local macro_rules | `(tactic| walk_at "m s") => `(tactic| first
  | with_reducible refine WS_If ?_
  | with_reducible refine WS_Assign ?_
  | ((with_reducible refine' WS_AssignAttr ?_); rotate_left)
  | with_reducible refine WS_Return ?_
  | ((with_reducible refine WS_Expr ?_))
  | ((with_reducible refine' WS_AugAttr ?_); rotate_left)
  | with_reducible refine WS_Break ?_
  | with_reducible refine WS_Continue ?_
  | with_reducible refine WS_Pass ?_
  | with_reducible refine WS_Return0 ?_
  | ((with_reducible refine' WS_AugName ?hmem ?_ ?hb); (case hmem => walk_at "m mem"); (case hb => exact rfl)))
local macro_rules | `(tactic| walk_at "m b") => `(tactic| first
  | with_reducible assumption
  | ((with_reducible show isNone _ = _); exact rfl)
  | ((with_reducible show (!isNone _) = _); exact rfl)
  | decide +kernel
  | ((with_reducible refine notb_false ?_); walk_at "m b")
  | ((with_reducible refine notb_true ?_); walk_at "m b")
  | exact decide_eq_true (Int.natCast_nonneg _)
  | exact decide_eq_true (by omega)
  | exact decide_eq_false (by omega)
  | (simp only [S_len, decide_eq_true_eq, decide_eq_false_iff_not, beq_iff_eq, bne_iff_ne, beq_eq_false_iff_ne, bne_eq_false_iff_eq, ne_eq] <;> omega))
local macro_rules | `(tactic| walk_at "m sz") => `(tactic| first | omega | (simp only [S_len, List.length_append, List.length_cons, List.length_nil, List.length_map]; omega) | decide +kernel)
local macro_rules | `(tactic| walk_at "m in") => `(tactic| ((dsimp only [mkFn, Fn.loc, List.zip_cons_cons, List.zip_nil_right, List.zip_nil_left, List.map_nil, List.map_cons, List.nil_append, List.cons_append]); (try dsimp only [unb_cons, unb_nil, List.nil_append, List.cons_append]); (refine WSs_cons ?_)))
local macro_rules | `(tactic| walk_at "m br") => `(tactic| first
  | with_reducible refine br_true ?_
  | with_reducible refine br_false ?_
  | ((with_reducible refine br_t ?hb ?_); (case hb => walk_at "m b"))
  | ((with_reducible refine br_f ?hb ?_); (case hb => walk_at "m b")))
local macro_rules | `(tactic| walk_at "m tr") => `(tactic| first
  | with_reducible refine WTr_bool ?_
  | ((with_reducible refine WTr_str ?hz ?_); (case hz => walk_at "m sz"))
  | with_reducible refine WTr_none ?_
  | with_reducible refine WTr_int ?_
  | with_reducible refine WTr_deq ?_)
local macro_rules | `(tactic| walk_at "m cmp") => `(tactic| first
  | with_reducible refine cmp_eq_str ?_ | with_reducible refine cmp_in_str ?_
  | ((with_reducible refine cmp_is_none ?hg ?_); (case hg => intro _ hq; cases hq))
  | ((with_reducible refine cmp_isnot_none ?hg ?_); (case hg => intro _ hq; cases hq))
  | with_reducible refine cmp_ne_str ?_ | with_reducible refine cmp_notin_str ?_
  | with_reducible refine cmp_ge_int ?_ | with_reducible refine cmp_lt_int ?_ | with_reducible refine cmp_gt_int ?_ | with_reducible refine cmp_le_int ?_
  | with_reducible refine cmp_eq_int ?_ | with_reducible refine cmp_ne_int ?_
  | with_reducible refine cmp_eq_str_none ?_ | with_reducible refine cmp_eq_none_str ?_ | with_reducible refine cmp_eq_none_none ?_
  | with_reducible refine cmp_isnot_type ?_
  | with_reducible refine cmp_in_tup2 ?_
  | with_reducible refine cmp_in_lst2 ?_)
local macro_rules | `(tactic| walk_at "m bin") => `(tactic| first
  | ((with_reducible refine op_add_S ?hz ?_); (case hz => walk_at "m sz"))
  | with_reducible refine op_add_int ?_ | with_reducible refine op_sub_int ?_
  | ((with_reducible refine op_add_str ?hz ?_); (case hz => walk_at "m sz")))
local macro_rules | `(tactic| walk_at "m inp") => `(tactic| first
  | with_reducible refine op_iadd_int ?_ | with_reducible refine op_isub_int ?_
  | ((with_reducible refine op_iadd_S ?hz ?_); (case hz => walk_at "m sz"))
  | ((with_reducible refine op_iadd_es ?hz ?_); (case hz => walk_at "m sz"))
  | ((with_reducible refine op_iadd_q1 ?hz ?_); (case hz => walk_at "m sz"))
  | ((with_reducible refine op_iadd_q2 ?hz ?_); (case hz => walk_at "m sz"))
  | ((with_reducible refine op_iadd_str ?hz ?_); (case hz => walk_at "m sz")))
local macro_rules | `(tactic| walk_at "m call") => `(tactic| first
  | ((with_reducible refine call_len_str ?hz ?_); (case hz => walk_at "m sz"))
  | with_reducible refine call_isi_str ?_ | with_reducible refine call_deque ?_
  | with_reducible refine call_type_int ?_ | with_reducible refine call_type_str ?_ | with_reducible refine call_int_int' ?_)
local macro_rules | `(tactic| walk_at "m es") => `(tactic| first
  | with_reducible refine WEs_cons ?_
  | with_reducible refine WEs_nil ?_)
local macro_rules | `(tactic| walk_at "m eo") => `(tactic| first
  | with_reducible refine WEo_some ?_
  | with_reducible refine WEo_none ?_)
local macro_rules | `(tactic| walk_at "m ex") => `(tactic| first
  | ((with_reducible refine' Exists.intro _ (And.intro ?hup ?_)); (case hup => walk_at "m up"); try dsimp only)
  | ((with_reducible refine Exists.intro _ (And.intro rfl (And.intro ?hk ?_))); (case hk => walk_at "m keeps"))
  | ((with_reducible refine' Exists.intro _ (And.intro ?hme (And.intro ?hk ?_))); (case hme => walk_at "m me"); (case hk => walk_at "m keeps"))
  | ((with_reducible refine' Exists.intro _ (Exists.intro _ (Exists.intro _ (And.intro rfl (And.intro ?hc (And.intro ?hn (And.intro ?hb (And.intro ?hm ?_)))))))); (case hm => walk_at "m set"); (case hc => walk_at "m cls"); (case hn => decide +kernel); (case hb => exact rfl); try dsimp only))
local macro_rules | `(tactic| walk_at "m v") => `(tactic| first
  | ((with_reducible refine flat_and ?hf ?_); (case hf => exact rfl))
  | ((with_reducible refine' cut_str ?hz ?hl ?hu ?_); (case hl => exact rfl); (case hu => exact rfl); (case hz => walk_at "m sz"))
  | ((with_reducible refine le_and ?hz ?_); (case hz => walk_at "m sz"))
  | with_reducible refine un_neg ?_)
local macro_rules | `(tactic| walk_at "m has") => `(tactic| first
  | ((with_reducible refine' HasAt.here ?hh); (case hh => walk_at "m mem"))
  | ((with_reducible refine' HasAt.next ?hh); (case hh => walk_at "m mem")))
local macro_rules | `(tactic| walk_at "m set") => `(tactic| first
  | ((with_reducible refine' SetAt.here ?hh); (case hh => walk_at "m up"))
  | ((with_reducible refine' SetAt.next ?hh); (case hh => walk_at "m up")))
local macro_rules | `(tactic| walk_at "m cls") => `(tactic| first
  | with_reducible exact lex_cls (by assumption)
  | with_reducible exact sio_cls (by assumption))
local macro_rules | `(tactic| walk_at "m nm") => `(tactic| (simp only [List.map_cons, List.map_nil]; decide +kernel))
local macro_rules | `(tactic| walk_at "m me") => `(tactic| first
  | ((with_reducible refine' meth_obj ?hc ?hi ?hn ?hf ?ht); (case hi => first | with_reducible exact at_here | with_reducible exact at_next); (case hc => walk_at "m cls"); (case hf => walk_at "m find"); (case ht => (rw [Good.K (by assumption)]; kernel_rfl)); (case hn => walk_at "m nm")))
local macro_rules | `(tactic| walk_at "m find") => `(tactic| first
  | with_reducible exact sf_check (by assumption)
  | with_reducible exact sf_read (by assumption)
  | with_reducible exact sf_trans (by assumption)
  | with_reducible exact sf_line (by assumption)
  | with_reducible exact sf_readline (by assumption)
  | with_reducible exact lf_get (by assumption)
  | with_reducible exact lf_read (by assumption))
local macro_rules | `(tactic| walk_at "m pu") => `(tactic| ((with_reducible refine attr_punct (by assumption) ?hd ?hh ?_); (case hd => omega); (case hh => assumption)))
local macro_rules | `(tactic| walk_at "m at") => `(tactic| first
  | ((with_reducible refine' attr_obj ?hc ?hn ?hm ?_ ?hb ?hp); (case hm => walk_at "m has"); (case hc => walk_at "m cls"); (case hn => decide +kernel); (case hb => exact rfl); (case hp => exact rfl))
  | walk_at "m pu")
local macro_rules | `(tactic| walk_at "m") => `(tactic| first
  | ((with_reducible refine (?_ : WE _ _ _ _ _ _)); walk_at "m e")
  | ((with_reducible refine (?_ : WAttr _ _ _ _ _ _ _)); walk_at "m at")
  | ((with_reducible refine (?_ : br _ _ _)); walk_at "m br")
  | ((with_reducible refine (?_ : WT _ _ _ _ _ _)); walk_at "m t")
  | ((with_reducible refine (?_ : WTr _ _ _ _ _ _)); walk_at "m tr")
  | ((with_reducible refine (?_ : WSs _ _ _ _ _ _)); walk_at "m ss")
  | ((with_reducible refine (?_ : WS _ _ _ _ _ _)); walk_at "m s")
  | ((with_reducible refine (?_ : W2 _ _ (compareOp _) _ _ _ _ _)); walk_at "m cmp")
  | ((with_reducible refine (?_ : WEs _ _ _ _ _ _)); walk_at "m es")
  | ((with_reducible refine (?_ : WCall _ _ _ _ _ _ _)); walk_at "m call")
  | ((with_reducible refine (?_ : W2 _ _ (inplaceOp _) _ _ _ _ _)); walk_at "m inp")
  | ((with_reducible refine (?_ : W2 _ _ (binaryOp _) _ _ _ _ _)); walk_at "m bin")
  | ((with_reducible refine (?_ : WEo _ _ _ _ _ _)); walk_at "m eo")
  | walk_at "m ex"
  | walk_at "m v")
local macro_rules | `(tactic| walk_at "ms") => `(tactic| repeat walk_at "m")
set_option hygiene true
section
variable {C : Cx}
theorem fIndex_chk (pr : Params) : fnCheck (HK pr) (mkFn (HK pr) 53 ["n", "what"] [] [] [("type", .type "type"), ("int", .type "int"), ("bool", .type "bool"), ("_wall", .ref 39)]) (fdOf (HK pr) 53) = true := by kernel_rfl
theorem fIndex_ok (g : Good C) : FnOk C (mkFn (HK C.w.params) 53 ["n", "what"] [] [] [("type", .type "type"), ("int", .type "int"), ("bool", .type "bool"), ("_wall", .ref 39)]) (fdOf (HK C.w.params) 53) :=
  fnOk_K (H := HK) (ds := []) g.ok g.K fIndex_chk (fun pr S vals h => by obtain ⟨x, y, rfl⟩ := len2 h; kernel_rfl) trivial
theorem index_walk (g : Good C) {i : Int} {what : Str} {objs : List OB} (h1 : -1099511627776 ≤ i) (h2 : i ≤ 1099511627776) :
    WFn C 1 53 [.int i, .str what] objs (fun v objs' => v = .int i ∧ objs' = objs) (fun _ _ => False) := by
  refine WFn_intro (fIndex_ok g) rfl fun F hn hh => ?_
  walk_at "m in"
  walk_at "ms"
  exact ⟨rfl, rfl⟩
abbrev sioOb (t : List Nat) (p : Nat) : OB := (587, [("_StringIO__newline", .str "\n"), ("_StringIO__buf", .str (S t)), ("_StringIO__pos", .int (p : Int))])
-- __check
theorem fCheck_ok (g : Good C) : FnOk C (mkFn (HK C.w.params) 371 ["self"] [] [] [("ValueError", .type "ValueError")]) (fdOf (HK C.w.params) 371) :=
  fnOk_K (H := HK) (ds := []) g.ok g.K (fun pr => by kernel_rfl) (fun pr S vals h => by obtain ⟨x, rfl⟩ := len1 h; kernel_rfl) trivial
theorem check_walk (g : Good C) {P : List OB} {t : List Nat} {p : Nat} : WFn C 1 371 [.obj P.length] (P ++ [sioOb t p]) (fun v objs' => v = .none ∧ objs' = P ++ [sioOb t p]) (fun _ _ => False) := by
  refine WFn_intro (fCheck_ok g) rfl fun F hn hh => ?_
  walk_at "m in"
  walk_at "ms"
  exact ⟨rfl, rfl⟩
-- read
theorem fRead_ok (g : Good C) : FnOk C (mkFn (HK C.w.params) 533 ["self", "size"] [] ["start", "stop"] [("_index", .ref 53), ("len", .builtin "len")]) (fdOf (HK C.w.params) 533) :=
  fnOk_K (H := HK) (ds := []) g.ok g.K (fun pr => by kernel_rfl) (fun pr S vals h => by obtain ⟨x, y, rfl⟩ := len2 h; kernel_rfl) trivial
theorem read_some (g : Good C) {P : List OB} {t : List Nat} {p : Nat} (hp : p < t.length) (ht : t.length ≤ 1000000) : WFn C 2 533 [.obj P.length, .int 1] (P ++ [sioOb t p]) (fun v objs' => v = .str (S [t[p]]) ∧ objs' = P ++ [sioOb t (p + 1)]) (fun _ _ => False) := by
  refine WFn_intro (fRead_ok g) rfl fun F hn hh => ?_
  walk_at "m in"
  walk_at "ms"
  refine WCall_use (index_walk g (by omega) (by omega)) (by omega) hh ?_ (fun _ _ h => h.elim)
  rintro _ _ ⟨rfl, rfl⟩
  dsimp only
  walk_at "ms"
  refine WCall_use (check_walk g) (by omega) hh ?_ (fun _ _ h => h.elim)
  rintro _ _ ⟨rfl, rfl⟩
  dsimp only
  walk_at "ms"
  refine br_split (fun h => ?_) (fun h => ?_)
  · walk_at "ms"
    refine ⟨?_, rfl⟩
    have e := S_slice (l := t) (i := p) (j := p + 1) (by omega) (by omega)
    rw [cut_one hp] at e
    exact congrArg AV.str e
  · walk_at "ms"
    simp only [S_len, decide_eq_false_iff_not] at h
    have e : (((S t).length : Nat) : Int) = ((p + 1 : Nat) : Int) := by rw [S_len]; omega
    rw [e]
    refine ⟨?_, rfl⟩
    have e := S_slice (l := t) (i := p) (j := p + 1) (by omega) (by omega)
    rw [cut_one hp] at e
    exact congrArg AV.str e
theorem read_none (g : Good C) {P : List OB} {t : List Nat} {p : Nat} (hp : t.length ≤ p) (ht : t.length ≤ 1000000) : WFn C 2 533 [.obj P.length, .int 1] (P ++ [sioOb t p]) (fun v objs' => v = .str (S []) ∧ objs' = P ++ [sioOb t p]) (fun _ _ => False) := by
  refine WFn_intro (fRead_ok g) rfl fun F hn hh => ?_
  walk_at "m in"
  walk_at "ms"
  refine WCall_use (index_walk g (by omega) (by omega)) (by omega) hh ?_ (fun _ _ h => h.elim)
  rintro _ _ ⟨rfl, rfl⟩
  dsimp only
  walk_at "ms"
  refine WCall_use (check_walk g) (by omega) hh ?_ (fun _ _ h => h.elim)
  rintro _ _ ⟨rfl, rfl⟩
  dsimp only
  walk_at "ms"
  exact ⟨rfl, rfl⟩
-- __line
theorem fLine_ok (g : Good C) : FnOk C (mkFn (HK C.w.params) 385 ["self", "limit"] [] ["start", "stop", "cut", "newline", "i", "j", "end"] [("len", .builtin "len"), ("_wall", .ref 39)]) (fdOf (HK C.w.params) 385) :=
  fnOk_K (H := HK) (ds := []) g.ok g.K (fun pr => by kernel_rfl) (fun pr S vals h => by obtain ⟨x, y, rfl⟩ := len2 h; kernel_rfl) trivial
theorem line_walk (g : Good C) {P : List OB} {t : List Nat} {p : Nat} (hp : p ≤ t.length) (ht : t.length ≤ 1000000) : WFn C 1 385 [.obj P.length, .int (-1)] (P ++ [sioOb t p])
    (fun v objs' => (∃ x, v = .str x) ∧ objs' = P ++ [sioOb t (t.length - (afterLine (t.drop p)).length)]) (fun _ _ => False) := by
  refine WFn_intro (fLine_ok g) rfl fun F hn hh => ?_
  walk_at "m in"
  walk_at "ms"
  refine br_split (fun h => ?_) (fun h => ?_)
  · simp only [S_len, decide_eq_true_eq] at h
    have e : t.length - (afterLine (t.drop p)).length = p := by rw [List.drop_eq_nil_of_le (by omega)]; simp [afterLine]; omega
    rw [e]
    walk_at "ms"
    exact ⟨⟨_, rfl⟩, rfl⟩
  · simp only [S_len, decide_eq_false_iff_not] at h
    walk_at "ms"
    refine' Exists.intro _ (And.intro (meth_str PySem.F.slot_str_find PySem.F.type_str_find) (And.intro (Keeps.builtin _) ?_))
    walk_at "ms"
    refine call_find4 ?_
    rw [nl_str, find_line hp]
    have e := afterLine_find (t.drop p)
    cases hk : (t.drop p).findIdx? (· == 10) with
    | none =>
      rw [hk] at e
      dsimp only at e ⊢
      walk_at "ms"
      rw [e]
      exact ⟨⟨_, rfl⟩, by simp only [S_len, Nat.sub_zero]⟩
    | some k =>
      rw [hk] at e
      have hk' : k < (t.drop p).length := (List.findIdx?_eq_some_iff_getElem.mp hk).1
      rw [List.length_drop] at e hk'
      dsimp only at e ⊢
      walk_at "ms"
      refine ⟨⟨_, rfl⟩, ?_⟩
      rw [e, S_len]
      have : ((p + k : Nat) : Int) + (([10] : List Nat).length : Int) = ((t.length - (t.length - p - (k + 1)) : Nat) : Int) := by simp only [List.length_cons, List.length_nil]; omega
      rw [this]
-- readline
theorem fReadline_ok (g : Good C) : FnOk C (mkFn (HK C.w.params) 541 ["self"] [("size", .int (-1))] [] [("_index", .ref 53)]) (fdOf (HK C.w.params) 541) :=
  fnOk_K (H := HK) (ds := [("size", .int (-1) 875)]) g.ok g.K (fun pr => by kernel_rfl) (fun pr S vals h => by obtain ⟨x, rfl⟩ := len1 h; kernel_rfl) ⟨⟨rfl, fun h P obs => by simp only [VR]; exact ⟨_, rfl⟩⟩, trivial⟩
theorem readline_walk (g : Good C) {P : List OB} {t : List Nat} {p : Nat} (hp : p ≤ t.length) (ht : t.length ≤ 1000000) : WFn C 2 541 [.obj P.length] (P ++ [sioOb t p])
    (fun v objs' => (∃ x, v = .str x) ∧ objs' = P ++ [sioOb t (t.length - (afterLine (t.drop p)).length)]) (fun _ _ => False) := by
  refine WFn_intro (fReadline_ok g) rfl fun F hn hh => ?_
  walk_at "m in"
  walk_at "ms"
  refine WCall_use (index_walk g (by omega) (by omega)) (by omega) hh ?_ (fun _ _ h => h.elim)
  rintro _ _ ⟨rfl, rfl⟩
  dsimp only
  walk_at "ms"
  refine WCall_use (check_walk g) (by omega) hh ?_ (fun _ _ h => h.elim)
  rintro _ _ ⟨rfl, rfl⟩
  dsimp only
  walk_at "ms"
  refine WCall_use (line_walk g hp ht) (by omega) hh ?_ (fun _ _ h => h.elim)
  rintro _ _ ⟨⟨x, rfl⟩, rfl⟩
  exact ⟨⟨_, rfl⟩, rfl⟩
end
section
variable {C : Cx}
-- __translated
theorem fTrans_ok (g : Good C) : FnOk C (mkFn (HK C.w.params) 364 ["self", "s"] [] ["newline"] []) (fdOf (HK C.w.params) 364) :=
  fnOk_K (H := HK) (ds := []) g.ok g.K (fun pr => by kernel_rfl) (fun pr S vals h => by obtain ⟨x, y, rfl⟩ := len2 h; kernel_rfl) trivial
theorem trans_walk (g : Good C) {P : List OB} {t u : List Nat} {p : Nat} : WFn C 1 364 [.obj P.length, .str (S u)] (P ++ [sioOb t p]) (fun v objs' => v = .str (S u) ∧ objs' = P ++ [sioOb t p]) (fun _ _ => False) := by
  refine WFn_intro (fTrans_ok g) rfl fun F hn hh => ?_
  walk_at "m in"
  walk_at "ms"
  exact ⟨rfl, rfl⟩
-- StringIO.__init__
theorem fSInit_ok (g : Good C) : FnOk C (mkFn (HK C.w.params) 357 ["self", "initial_value"] [("newline", .str "\n")] [] [("type", .type "type"), ("str", .type "str"), ("_wall", .ref 39)]) (fdOf (HK C.w.params) 357) :=
  fnOk_K (H := HK) (ds := [("newline", .str "\n" 671)]) g.ok g.K (fun pr => by kernel_rfl) (fun pr S vals h => by obtain ⟨x, y, rfl⟩ := len2 h; kernel_rfl) ⟨⟨rfl, fun h P obs => by simp only [VR]; exact ⟨_, rfl⟩⟩, trivial⟩
theorem sinit_walk (g : Good C) {P : List OB} {t : List Nat} : WFn C 2 357 [.obj P.length, .str (S t)] (P ++ [(587, blank sioNames)]) (fun v objs' => v = .none ∧ objs' = P ++ [sioOb t 0]) (fun _ _ => False) := by
  refine WFn_intro (fSInit_ok g) rfl fun F hn hh => ?_
  walk_at "m in"
  dsimp only [sioNames, blank, unb_cons, unb_nil]
  walk_at "ms"
  refine WCall_use (trans_walk (t := []) (p := 0) g) (by omega) hh ?_ (fun _ _ h => h.elim)
  rintro _ _ ⟨rfl, rfl⟩
  dsimp only
  walk_at "ms"
  exact ⟨rfl, rfl⟩
-- IOBase.__new__
theorem sio_newP (g : Good C) : NewP C 587 := by
  refine ⟨newPchk_of ?_, ?_, ?_, ?_, ?_⟩
  · rw [g.K]; kernel_rfl
  · rw [g.K]; kernel_rfl
  · rw [g.K]; kernel_rfl
  · rw [g.K]; kernel_rfl
  · rw [g.K]; kernel_rfl
theorem new_bind (pr : Params) (x v : Value) : bindArgs (fdOf (HK pr) 80) ⟨[x, v], []⟩ = (alloc { cls := .type "tuple", data := .seq #[v] } >>= fun a => alloc { cls := .type "dict", data := .dict #[] } >>= fun b =>
    pure [(("cls" : Str), x), ("args", .ref a), ("kwargs", .ref b)]) := by kernel_rfl
theorem new_chk (pr : Params) : fnCheck (HK pr) (mkFn (HK pr) 80 ["cls"] [] [] [("BytesIO", .ref 340), ("StringIO", .ref 587), ("_wall", .ref 39), ("object", .type "object")]) (fdOf (HK pr) 80) = true := by kernel_rfl
theorem new_loc (pr : Params) : (fdOf (HK pr) 80).scope.names.lookup ("args" : Str) = some .local ∧ (fdOf (HK pr) 80).scope.names.lookup ("kwargs" : Str) = some .local := ⟨by kernel_rfl, by kernel_rfl⟩
theorem fNew_ok (g : Good C) (v : Value) : FnOkA C (fun vs => ⟨vs ++ [v], []⟩) (mkFn (HK C.w.params) 80 ["cls"] [] [] [("BytesIO", .ref 340), ("StringIO", .ref 587), ("_wall", .ref 39), ("object", .type "object")]) (fdOf (HK C.w.params) 80) :=
  fnOk_KA (H := HK) g.ok g.K new_chk fun pr s vals hl => by
    obtain ⟨x, rfl⟩ := len1 hl
    rw [List.singleton_append]
    exact @new_gen s (fdOf (HK pr) 80) (mkFn (HK pr) 80 ["cls"] [] [] [("BytesIO", .ref 340), ("StringIO", .ref 587), ("_wall", .ref 39), ("object", .type "object")]) x v _ _ (new_bind pr x v) (new_loc pr).1 (new_loc pr).2 rfl rfl rfl
theorem new_walk (g : Good C) {P : List OB} (v : Value) : WFnA C 1 80 (fun vs => ⟨vs ++ [v], []⟩) [.glob (.ref 587)] P (fun v objs' => v = .obj P.length ∧ objs' = P ++ [(587, blank sioNames)]) (fun _ _ => False) := by
  refine WFnA_intro (fNew_ok g v) rfl fun F hn hh => ?_
  walk_at "m in"
  walk_at "ms"
  obtain ⟨o1, l1, c1⟩ := clsChk_of (K := C.K) (c := 587) (by rw [g.K]; kernel_rfl)
  obtain ⟨o2, l2, c2⟩ := clsChk_of (K := C.K) (c := 340) (by rw [g.K]; kernel_rfl)
  refine cmp_isnot_ref l1 l2 c1 ?_
  walk_at "ms"
  refine cmp_isnot_ref l1 l1 c1 ?_
  iterate 6 walk_at "m"
  refine WE_Meth0 ?_
  walk_at "m"
  refine ⟨_, meth_objNew (by rw [g.K]; kernel_rfl) (by rw [g.K]; kernel_rfl) (by rw [g.K]; kernel_rfl), Keeps.builtin _, ?_⟩
  walk_at "ms"
  refine WCall_objNew (names := sioNames) (sio_newP g) (noDup_of (by decide +kernel)) (by decide +kernel) ?_
  exact ⟨rfl, rfl⟩
-- StringIO(text)
theorem sio_make (g : Good C) {F : Fm} {st : St} {Q X : AV → St → Prop} {t : List Nat} (hd : 3 ≤ F.d) (hh : F.hd = none) (h : Q (.obj st.objs.length) { st with objs := st.objs ++ [sioOb t 0] }) : WCall C F (.ref 587) [.str (S t)] st Q X := by
  refine WCall_clsP (n := 2) (fN := 80) (fI := 357) (p := 84) (more := []) (names := sioNames) (sio_newP g) (by rw [g.K]; kernel_rfl) (by rw [g.K]; kernel_rfl) (by rw [g.K]; kernel_rfl) (by rw [g.K]; kernel_rfl) (by rw [g.K]; kernel_rfl) (fun vals hl => ?_) ?_ hd hh
  · obtain ⟨v, rfl⟩ := len1 hl
    intro F' st' obs s vals R h1 h2 h3 r y k1 k2
    exact new_walk g v F' st' obs s vals R (by omega) h2 h3 r y k1 k2
  · intro F' st' obs s vals R h1 h2 h3 r y k1 k2
    refine sinit_walk g F' st' obs s vals R h1 h2 h3 r y (fun b v objs' o' s' q r' z g' => ?_) fun x e objs' o' s' q => q.elim
    obtain ⟨rfl, rfl⟩ := q
    exact k1 .none v _ o' s' ⟨rfl, h⟩ r' z g'
end
/-- no quotation mark is a sign of words -/
def Wc (wc : Str) : Prop := subIn (S [39]) wc = false ∧ subIn (S [34]) wc = false
/-- the lexer: its stream, its signs of remarks, its state, its word, its line, its way to part words, its wordchars -/
abbrev eofV : Bool → AV
  | true => .none
  | false => .str ""
abbrev lexOb (j : Nat) (px : Bool) (cm : Str) (sta : AV) (tok : List Nat) (ln : Int) (sp : Bool) (wc : Str) : OB := (722, [("instream", .obj j), ("infile", .none), ("posix", .bool px), ("eof", eofV px), ("commenters", .str cm), ("wordchars", .str wc), ("whitespace", .str " \t\r\n"),
  ("whitespace_split", .bool sp), ("quotes", .str "'\""), ("escape", .str "\\"), ("escapedquotes", .str "\""), ("state", sta), ("pushback", .deq), ("lineno", .int ln), ("debug", .int 0), ("token", .str (S tok)), ("filestack", .deq), ("source", .none), ("_punctuation_chars", .str ""), ("_pushback_chars", .unb)])
section
variable {C : Cx}
abbrev mkI : List Value → Args
  | [x, y, z] => ⟨[x, y], [("posix", z)]⟩
  | vs => ⟨vs, []⟩
abbrev glI : List (Str × Value) := [("isinstance", .builtin "isinstance"), ("str", .type "str"), ("StringIO", .ref 587), ("_wall", .ref 39), ("deque", .type "collections.deque"), ("dict", .type "dict")]
theorem li_chk (pr : Params) : fnCheck (HK pr) (mkFn (HK pr) 646 ["self", "instream", "posix"] [("infile", .none), ("punctuation_chars", .bool false)] ["t"] glI) (fdOf (HK pr) 646) = true := by kernel_rfl
theorem fLInit_ok (g : Good C) : FnOkA C mkI (mkFn (HK C.w.params) 646 ["self", "instream", "posix"] [("infile", .none), ("punctuation_chars", .bool false)] ["t"] glI) (fdOf (HK C.w.params) 646) :=
  fnOk_KP (H := HK) (ds := [("infile", .none), ("punctuation_chars", .bool false)]) (bs := fun vs => match vs with | [x, y, z] => [("self", x), ("instream", y), ("infile", .none), ("posix", z), ("punctuation_chars", .bool false)] | _ => []) g.ok g.K li_chk
    (fun pr S vals h => by obtain ⟨x, y, z, rfl⟩ := len3 h; kernel_rfl) ⟨⟨rfl, fun h P obs => by simp only [VR]⟩, ⟨rfl, fun h P obs => by simp only [VR]⟩, trivial⟩
    (fun vals h => by obtain ⟨x, y, z, rfl⟩ := len3 h; exact List.Perm.cons _ (List.Perm.cons _ (List.Perm.swap _ _ _)))
theorem linit_walk (g : Good C) {P : List OB} {t : List Nat} {px : Bool} : WFnA C 4 646 mkI [.obj P.length, .str (S t), .bool px] (P ++ [(722, blank lexNames)])
    (fun v objs' => v = .none ∧ ∃ wc, Wc wc ∧ objs' = P ++ [lexOb (P.length + 1) px "#" (.str " ") [] 1 false wc, sioOb t 0]) (fun _ _ => False) := by
  refine WFnA_intro (fLInit_ok g) rfl fun F hn hh => ?_
  walk_at "m in"
  dsimp only [lexNames, blank, unb_cons, unb_nil]
  walk_at "ms"
  refine sio_make g (by omega) hh ?_
  dsimp only
  rw [List.append_assoc, List.length_append]
  simp only [List.cons_append, List.nil_append, List.length_cons, List.length_nil, Nat.zero_add]
  cases px with
  | true =>
    walk_at "ms"
    exact ⟨trivial, _, ⟨by decide +kernel, by decide +kernel⟩, rfl⟩
  | false =>
    walk_at "ms"
    exact ⟨trivial, _, ⟨by decide +kernel, by decide +kernel⟩, rfl⟩
theorem lex_make (g : Good C) {F : Fm} {st : St} {Q X : AV → St → Prop} {t : List Nat} {px : Bool} (hd : 5 ≤ F.d) (hh : F.hd = none)
    (h : ∀ wc, Wc wc → Q (.obj st.objs.length) { st with objs := st.objs ++ [lexOb (st.objs.length + 1) px "#" (.str " ") [] 1 false wc, sioOb t 0] }) : WCallA C F (.ref 722) (kw1 "posix") [.str (S t), .bool px] st Q X := by
  refine WCall_cls (n := 4) (fI := 646) (names := lexNames) (mk' := mkI) (noDup_of (by decide +kernel)) (by decide +kernel) (by rw [g.K]; kernel_rfl) (by rw [g.K]; kernel_rfl) (by rw [g.K]; kernel_rfl) (fun x vals hl => ?_) ?_ hd hh
  · obtain ⟨u, v, rfl⟩ := len2 hl
    rfl
  · intro F' st' obs s vals R h1 h2 h3 r y k1 k2
    refine linit_walk g F' st' obs s vals R h1 h2 h3 r y (fun b v objs' o' s' q r' z g' => ?_) fun x e objs' o' s' q => q.elim
    obtain ⟨rfl, wc, hwc, rfl⟩ := q
    exact k1 .none v _ o' s' ⟨rfl, h wc hwc⟩ r' z g'
-- punctuation_chars
theorem fPunct_ok (g : Good C) : FnOk C (mkFn (HK C.w.params) 653 ["self"] [] [] []) (fdOf (HK C.w.params) 653) :=
  fnOk_K (H := HK) (ds := []) g.ok g.K (fun pr => by kernel_rfl) (fun pr S vals h => by obtain ⟨x, rfl⟩ := len1 h; kernel_rfl) trivial
theorem punct_walk (g : Good C) {P l : List OB} {j : Nat} {px : Bool} {cm wc : Str} {sta : AV} {tok : List Nat} {ln : Int} {sp : Bool} : WFn C 1 653 [.obj P.length] (P ++ lexOb j px cm sta tok ln sp wc :: l)
    (fun v objs' => v = .str "" ∧ objs' = P ++ lexOb j px cm sta tok ln sp wc :: l) (fun _ _ => False) := by
  refine WFn_intro (fPunct_ok g) rfl fun F hn hh => ?_
  walk_at "m in"
  walk_at "ms"
  exact ⟨rfl, rfl⟩
theorem attr_punct (g : Good C) {F : Fm} {gl : List (Str × Value)} {loc : List (Str × AV)} {Q X : AV → St → Prop} {P l : List OB} {j : Nat} {px : Bool} {cm wc : Str} {sta : AV} {tok : List Nat} {ln : Int} {sp : Bool} (hd : 2 ≤ F.d) (hh : F.hd = none)
    (h : Q (.str "") ⟨gl, loc, P ++ lexOb j px cm sta tok ln sp wc :: l⟩) : WAttr C F "punctuation_chars" (.obj P.length) ⟨gl, loc, P ++ lexOb j px cm sta tok ln sp wc :: l⟩ Q X := by
  refine attr_prop (n := 1) (p := 654) (f := 653) (rest := [.none, .none, .none, .str "punctuation_chars" 1034, .bool false]) (lex_cls g) at_here (by rw [g.K]; kernel_rfl) (by rw [g.K]; kernel_rfl) (by rw [g.K]; kernel_rfl) (by rw [g.K]; kernel_rfl) ?_ hd hh
  intro F' st' obs s vals R h1 h2 h3 r y k1 k2
  refine punct_walk g F' st' obs s vals R h1 h2 h3 r y (fun b v objs' o' s' q r' z g' => ?_) fun x e objs' o' s' q => q.elim
  obtain ⟨rfl, rfl⟩ := q
  exact k1 _ v _ o' s' ⟨rfl, h⟩ r' z g'
end
section
variable {C : Cx} {F : Fm}
theorem br_ln {X : AV → St → Prop} {b : Bool} {m1 m2 : List Stmt} {gl : List (Str × Value)} {loc : List (Str × AV)} {Q : AFlow → St → Prop} {P l : List OB} {j : Nat} {px : Bool} {cm wc : Str} {sta : AV} {tok : List Nat} {ln : Int} {sp : Bool}
    (h1 : b = true → ∀ Q' : AFlow → St → Prop, (∀ ln', Q' .next ⟨gl, loc, P ++ lexOb j px cm sta tok ln' sp wc :: l⟩) → WSs C F m1 ⟨gl, loc, P ++ lexOb j px cm sta tok ln sp wc :: l⟩ Q' X)
    (h2 : b = false → ∀ Q' : AFlow → St → Prop, (∀ ln', Q' .next ⟨gl, loc, P ++ lexOb j px cm sta tok ln' sp wc :: l⟩) → WSs C F m2 ⟨gl, loc, P ++ lexOb j px cm sta tok ln sp wc :: l⟩ Q' X)
    (hq : ∀ ln', Q .next ⟨gl, loc, P ++ lexOb j px cm sta tok ln' sp wc :: l⟩) : br b (WSs C F m1 ⟨gl, loc, P ++ lexOb j px cm sta tok ln sp wc :: l⟩ Q X) (WSs C F m2 ⟨gl, loc, P ++ lexOb j px cm sta tok ln sp wc :: l⟩ Q X) :=
  ⟨fun e => h1 e Q hq, fun e => h2 e Q hq⟩
end
section
variable {C : Cx}
abbrev cmS (cm : Bool) : Str := bif cm then "#" else ""
theorem in_cmS (cm : Bool) (c : Nat) : subIn (S [c]) (cmS cm) = (cm && decide (c = 35)) := by
  cases cm
  · exact in_nil c
  · exact in_cm c
abbrev glR : List (Str × Value) := [("ValueError", .type "ValueError"), ("print", .builtin "print"), ("repr", .builtin "repr")]
theorem rt_chk (pr : Params) : fnCheck (HK pr) (mkFn (HK pr) 690 ["self"] [] ["quoted", "escapedstate", "nextchar", "result"] glR) (fdOf (HK pr) 690) = true := by kernel_rfl
theorem fRt_ok (g : Good C) : FnOk C (mkFn (HK C.w.params) 690 ["self"] [] ["quoted", "escapedstate", "nextchar", "result"] glR) (fdOf (HK C.w.params) 690) :=
  fnOk_K (H := HK) (ds := []) g.ok g.K rt_chk (fun pr S vals h => by obtain ⟨x, rfl⟩ := len1 h; kernel_rfl) trivial
structure Conf where
  p : Nat
  ls : LS
  qd : Bool
  es : LS
  tok : List Nat
  ln : Int
  nc : AV
abbrev rtSt (P : List OB) (t : List Nat) (px cm : Bool) (wc : Str) (i : Conf) : St := ⟨glR, [("self", .obj P.length), ("quoted", .bool i.qd), ("escapedstate", i.es.av), ("nextchar", i.nc), ("result", .unb)], P ++ [lexOb (P.length + 1) px (cmS cm) i.ls.av i.tok i.ln true wc, sioOb t i.p]⟩
structure RtInv (t : List Nat) (px cm : Bool) (T : RT) (i : Conf) : Prop where
  le : i.p ≤ t.length
  eq : rt px cm (t.drop i.p) i.ls i.qd i.es i.tok = T
  sz : i.tok.length ≤ 2 * i.p
  es : i.es = .sp ∨ i.es = .a ∨ i.es = .q2
  esc : i.ls = .esc → i.es = .a ∨ i.es = .q2
theorem skp_drop (sk : Bool) {t : List Nat} {q : Nat} (hq : q ≤ t.length) : skp sk (t.drop q) = t.drop (t.length - (skp sk (t.drop q)).length) := by
  have h1 := skp_le sk (t.drop q)
  have h2 := skp_suffix sk (t.drop q)
  rw [List.length_drop] at h1 h2
  conv => lhs; rw [h2]
  rw [List.drop_drop]
  congr 1
  omega
/-- the post of the loop -/
def RtQ (P : List OB) (t : List Nat) (px cm : Bool) (wc : Str) (T : RT) (fl : AFlow) (st' : St) : Prop :=
  fl = .next ∧ ∃ i : Conf, ∃ rest, T = .brk i.ls i.qd i.tok rest ∧ i.p = t.length - rest.length ∧ i.tok.length ≤ 200000 ∧ st' = rtSt P t px cm wc i
theorem rt_brk' {P : List OB} {t : List Nat} {px cm : Bool} {wc : Str} {T : RT} {p c : Nat} {ls es : LS} {qd : Bool} {tok : List Nat} {sk : Bool} (hp : p + 1 ≤ t.length) (i2 : rt px cm (c :: t.drop (p + 1)) ls qd es tok = T) (ls' : LS) (qd' : Bool) (es' : LS) (tok' : List Nat) (ln' : Int) (nc : AV) (p' : Nat)
    (ha : act px cm c ls qd es tok = .brk ls' qd' tok' sk) (hp' : p' = t.length - (skp sk (t.drop (p + 1))).length) (hz : tok'.length ≤ 200000) : RtQ P t px cm wc T .next (rtSt P t px cm wc ⟨p', ls', qd', es', tok', ln', nc⟩) :=
  ⟨rfl, ⟨p', ls', qd', es', tok', ln', nc⟩, skp sk (t.drop (p + 1)), by rw [← i2, rt_brk ha], hp', hz, rfl⟩
theorem rt_inv' {t : List Nat} {px cm : Bool} {T : RT} {p c : Nat} {ls es : LS} {qd : Bool} {tok : List Nat} {sk : Bool} (hp : p + 1 ≤ t.length) (i2 : rt px cm (c :: t.drop (p + 1)) ls qd es tok = T) {ls' : LS} {qd' : Bool} {es' : LS} {tok' : List Nat} {ln' : Int} {nc : AV} {p' : Nat}
    (ha : act px cm c ls qd es tok = .go ls' qd' es' tok' sk) (hp' : p' = t.length - (skp sk (t.drop (p + 1))).length) (hz : tok'.length ≤ 2 * (p + 1)) (h1 : es' = .sp ∨ es' = .a ∨ es' = .q2) (h2 : ls' = .esc → es' = .a ∨ es' = .q2) :
    RtInv t px cm T ⟨p', ls', qd', es', tok', ln', nc⟩ ∧ t.length - p' < t.length - p := by
  have hs := skp_le sk (t.drop (p + 1))
  rw [List.length_drop] at hs
  refine ⟨⟨by dsimp only; omega, ?_, by dsimp only; omega, h1, h2⟩, by omega⟩
  dsimp only
  rw [← i2, rt_go ha, hp', ← skp_drop sk hp]
theorem cmF {cm : Bool} {c : Nat} (h : ¬ (cm = true ∧ c = 35)) : (cm && decide (c = 35)) = false := by
  cases cm
  · rfl
  · simp at h; simp [h]
theorem act_sp_other {px cm : Bool} {c : Nat} {qd : Bool} {es : LS} {tok : List Nat} (hw : isWs c = false) (hc : ¬ (cm = true ∧ c = 35)) (h92 : ¬ (px = true ∧ c = 92)) (h39 : ¬ c = 39) (h34 : ¬ c = 34) : act px cm c .sp qd es tok = .go .a qd es [c] false := by
  simp only [act]
  rw [if_neg (by rw [hw]; decide), if_neg hc, if_neg h92, if_neg h39, if_neg h34]
theorem act_a_other {px cm : Bool} {c : Nat} {qd : Bool} {es : LS} {tok : List Nat} (hw : isWs c = false) (hc : ¬ (cm = true ∧ c = 35)) (h92 : ¬ c = 92) (h39 : ¬ c = 39) (h34 : ¬ c = 34) : act px cm c .a qd es tok = .go .a qd es (tok ++ [c]) false := by
  simp only [act]
  rw [if_neg (by rw [hw]; decide), if_neg hc, if_neg (fun z => h39 z.2), if_neg (fun z => h34 z.2), if_neg (fun z => h92 z.2)]
theorem act_a_otherF {cm : Bool} {c : Nat} {qd : Bool} {es : LS} {tok : List Nat} (hw : isWs c = false) (hc : ¬ (cm = true ∧ c = 35)) : act false cm c .a qd es tok = .go .a qd es (tok ++ [c]) false := by
  simp only [act]
  rw [if_neg (by rw [hw]; decide), if_neg hc, if_neg (fun z => nomatch z.1), if_neg (fun z => nomatch z.1), if_neg (fun z => nomatch z.1)]
theorem skp_false (l : List Nat) : skp false l = l := rfl
theorem skp_true (l : List Nat) : skp true l = afterLine l := rfl
end
section
variable {C : Cx}
theorem rt_walkT (g : Good C) {P : List OB} {t : List Nat} {cm : Bool} {p : Nat} {ln : Int} {wc : Str} (hwc : Wc wc) {ls : LS} (hls : ls = .sp ∨ ls = .fin) (hp : p ≤ t.length) (ht : t.length ≤ 100000) :
    WFn C 4 690 [.obj P.length] (P ++ [lexOb (P.length + 1) true (cmS cm) ls.av [] ln true wc, sioOb t p])
    (fun v objs' => ∃ ls' qd tok rest ln', rt true cm (t.drop p) ls false .sp [] = .brk ls' qd tok rest ∧ v = (if tok = [] ∧ true = true ∧ qd = false then .none else .str (S tok)) ∧ objs' = P ++ [lexOb (P.length + 1) true (cmS cm) ls'.av [] ln' true wc, sioOb t (t.length - rest.length)])
    (fun x objs' => ∃ m, rt true cm (t.drop p) ls false .sp [] = .err m ∧ x = .exc "ValueError" [m]) := by
  refine WFn_intro (fRt_ok g) rfl fun F hn hh => ?_
  walk_at "m in"
  walk_at "ms"
  generalize hT : rt true cm (t.drop p) ls false .sp [] = T
  refine W.mono (Q := RtQ P t true cm wc T) (WS_While ?_) ?_ (fun x s h => h)
  · refine WW_ind (fun i : Conf => t.length - i.p) (rtSt P t true cm wc) (RtInv t true cm T) ?_ ⟨p, ls, false, .sp, [], ln, .unb⟩ ⟨hp, hT, by simp, .inl rfl, fun h => by rcases hls with e | e <;> rw [e] at h <;> cases h⟩
    rintro ⟨p, ls, qd, es, tok, ln, nc⟩ ⟨i1, i2, i3, i4, i5⟩ ih
    dsimp only at i1 i2 i3 i4 i5
    refine WW_turn ?_
    dsimp only [rtSt]
    walk_at "ms"
    rcases Nat.lt_or_ge p t.length with hlt | hge
    · have hread := read_some (P := P ++ [lexOb (P.length + 1) true (cmS cm) ls.av tok ln true wc]) g hlt (by omega)
      simp only [List.append_assoc, List.cons_append, List.nil_append, List.length_append, List.length_cons, List.length_nil, Nat.zero_add] at hread
      refine WCall_use hread (by omega) hh ?_ (fun _ _ h => h.elim)
      rintro _ _ ⟨rfl, rfl⟩
      dsimp only
      have hd : t.drop p = t[p] :: t.drop (p + 1) := List.drop_eq_getElem_cons hlt
      rw [hd] at i2
      generalize t[p] = c at i2
      have hlen1 : p + 1 = t.length - (t.drop (p + 1)).length := by rw [List.length_drop]; omega
      have hgo : ∀ (ls' : LS) (qd' : Bool) (es' : LS) (tok' : List Nat) (ln' : Int) (nc : AV), act true cm c ls qd es tok = .go ls' qd' es' tok' false → tok'.length ≤ 2 * (p + 1) → (es' = .sp ∨ es' = .a ∨ es' = .q2) → (ls' = .esc → es' = .a ∨ es' = .q2) → _ := fun ls' qd' es' tok' ln' nc ha hz h1 h2 =>
        let z := rt_inv' (ln' := ln') (nc := nc) (p' := p + 1) hlt i2 ha hlen1 hz h1 h2; ih ⟨p + 1, ls', qd', es', tok', ln', nc⟩ z.2 z.1
      have hgoS : ∀ (ls' : LS) (qd' : Bool) (es' : LS) (tok' : List Nat) (ln' : Int) (nc : AV), act true cm c ls qd es tok = .go ls' qd' es' tok' true → tok'.length ≤ 2 * (p + 1) → (es' = .sp ∨ es' = .a ∨ es' = .q2) → (ls' = .esc → es' = .a ∨ es' = .q2) → _ := fun ls' qd' es' tok' ln' nc ha hz h1 h2 =>
        let z := rt_inv' (ln' := ln') (nc := nc) (p' := t.length - (afterLine (t.drop (p + 1))).length) hlt i2 ha rfl hz h1 h2; ih ⟨t.length - (afterLine (t.drop (p + 1))).length, ls', qd', es', tok', ln', nc⟩ z.2 z.1
      have hbk : ∀ (ls' : LS) (qd' : Bool) (es' : LS) (tok' : List Nat) (ln' : Int) (nc : AV), act true cm c ls qd es tok = .brk ls' qd' tok' false → tok'.length ≤ 200000 → RtQ P t true cm wc T .next (rtSt P t true cm wc ⟨p + 1, ls', qd', es', tok', ln', nc⟩) := fun ls' qd' es' tok' ln' nc ha hz =>
        rt_brk' hlt i2 ls' qd' es' tok' ln' nc (p + 1) ha hlen1 hz
      have hbkS : ∀ (ls' : LS) (qd' : Bool) (es' : LS) (tok' : List Nat) (ln' : Int) (nc : AV), act true cm c ls qd es tok = .brk ls' qd' tok' true → tok'.length ≤ 200000 → RtQ P t true cm wc T .next (rtSt P t true cm wc ⟨t.length - (afterLine (t.drop (p + 1))).length, ls', qd', es', tok', ln', nc⟩) := fun ls' qd' es' tok' ln' nc ha hz =>
        rt_brk' hlt i2 ls' qd' es' tok' ln' nc (t.length - (afterLine (t.drop (p + 1))).length) ha rfl hz
      walk_at "ms"
      refine br_ln (fun h Q' hQ => ?_) (fun h Q' hQ => ?_) (fun ln' => ?_)
      · walk_at "ms"
        exact hQ _
      · walk_at "ms"
        exact hQ _
      clear hread
      have hnil := in_nil c
      have hone := len_one c
      have hq1 := hwc.1
      have hq2 := hwc.2
      rw [← q1_str] at hq1
      rw [← q2_str] at hq2
      cases ls with
      | sp =>
        cases hw : isWs c with
        | true =>
          have hws : subIn (S [c]) " \t\r\n" = true := by rw [in_ws, hw]
          cases tok with
          | cons x xs =>
            have hlc := len_cons x xs
            simp only [List.length_cons] at i3
            walk_at "ms"
            exact hbk .sp qd es (x :: xs) _ _ (by simp [act, hw]) (by simp only [List.length_cons]; omega)
          | nil =>
            cases qd with
            | true =>
              walk_at "ms"
              exact hbk .sp true es [] _ _ (by simp [act, hw]) (by simp)
            | false =>
              walk_at "ms"
              exact hgo .sp false es [] _ _ (by simp [act, hw]) (by simp) i4 (fun h => nomatch h)
        | false =>
          have hws : subIn (S [c]) " \t\r\n" = false := by rw [in_ws, hw]
          by_cases hc : cm = true ∧ c = 35
          · obtain ⟨rfl, rfl⟩ := hc
            have hcm : subIn (S [35]) (cmS true) = true := by rw [in_cmS]; decide
            walk_at "ms"
            have hline := readline_walk (P := P ++ [lexOb (P.length + 1) true (cmS true) (.str " ") tok ln' true wc]) g (t := t) (p := p + 1) (by omega) (by omega)
            simp only [List.append_assoc, List.cons_append, List.nil_append, List.length_append, List.length_cons, List.length_nil, Nat.zero_add] at hline
            refine WCall_use hline (by omega) hh ?_ (fun _ _ h => h.elim)
            rintro _ _ ⟨⟨rs, rfl⟩, rfl⟩
            dsimp only
            walk_at "ms"
            exact hgoS .sp qd es tok _ _ (by simp [act, isWs]) (by omega) i4 (fun h => nomatch h)
          have hcm : subIn (S [c]) (cmS cm) = false := by rw [in_cmS]; exact cmF hc
          by_cases h92 : c = 92
          · subst h92
            rw [← es_str] at hcm ⊢
            walk_at "ms"
            exact hgo .esc qd .a tok _ _ (by simp [act, isWs, hc]) (by omega) (.inr (.inl rfl)) (fun _ => .inl rfl)
          by_cases h39 : c = 39
          · subst h39
            rw [← q1_str] at hcm ⊢
            walk_at "ms"
            exact hgo .q1 qd es tok _ _ (by simp [act, isWs, hc]) (by omega) i4 (fun h => nomatch h)
          by_cases h34 : c = 34
          · subst h34
            rw [← q2_str] at hcm ⊢
            walk_at "ms"
            exact hgo .q2 qd es tok _ _ (by simp [act, isWs, hc]) (by omega) i4 (fun h => nomatch h)
          have hqu : subIn (S [c]) "'\"" = false := by rw [in_qu]; simp [h39, h34]
          have hes : subIn (S [c]) "\\" = false := by rw [in_es]; simp [h92]
          have ha : act true cm c .sp qd es tok = .go .a qd es [c] false := act_sp_other hw hc (fun z => h92 z.2) h39 h34
          cases hwd : subIn (S [c]) wc with
          | true =>
            walk_at "ms"
            exact hgo .a qd es [c] _ _ ha (by simp only [List.length_append, List.length_cons, List.length_nil]; omega) i4 (fun h => nomatch h)
          | false =>
            walk_at "ms"
            exact hgo .a qd es [c] _ _ ha (by simp only [List.length_append, List.length_cons, List.length_nil]; omega) i4 (fun h => nomatch h)
      | a =>
        cases hw : isWs c with
        | true =>
          have hws : subIn (S [c]) " \t\r\n" = true := by rw [in_ws, hw]
          cases tok with
          | cons x xs =>
            have hlc := len_cons x xs
            simp only [List.length_cons] at i3
            walk_at "ms"
            exact hbk .sp qd es (x :: xs) _ _ (by simp [act, hw]) (by simp only [List.length_cons]; omega)
          | nil =>
            cases qd with
            | true =>
              walk_at "ms"
              exact hbk .sp true es [] _ _ (by simp [act, hw]) (by simp)
            | false =>
              walk_at "ms"
              exact hgo .sp false es [] _ _ (by simp [act, hw]) (by simp) i4 (fun h => nomatch h)
        | false =>
          have hws : subIn (S [c]) " \t\r\n" = false := by rw [in_ws, hw]
          by_cases hc : cm = true ∧ c = 35
          · obtain ⟨rfl, rfl⟩ := hc
            have hcm : subIn (S [35]) (cmS true) = true := by rw [in_cmS]; decide
            cases tok with
            | cons x xs =>
              have hlc := len_cons x xs
              simp only [List.length_cons] at i3
              walk_at "ms"
              have hline := readline_walk (P := P ++ [lexOb (P.length + 1) true (cmS true) (.str "a") (x :: xs) ln' true wc]) g (t := t) (p := p + 1) (by omega) (by omega)
              simp only [List.append_assoc, List.cons_append, List.nil_append, List.length_append, List.length_cons, List.length_nil, Nat.zero_add] at hline
              refine WCall_use hline (by omega) hh ?_ (fun _ _ h => h.elim)
              rintro _ _ ⟨⟨rs, rfl⟩, rfl⟩
              dsimp only
              walk_at "ms"
              exact hbkS .sp qd es (x :: xs) _ _ (by simp [act, isWs]) (by simp only [List.length_cons]; omega)
            | nil =>
              cases qd with
              | true =>
                walk_at "ms"
                have hline := readline_walk (P := P ++ [lexOb (P.length + 1) true (cmS true) (.str "a") [] ln' true wc]) g (t := t) (p := p + 1) (by omega) (by omega)
                simp only [List.append_assoc, List.cons_append, List.nil_append, List.length_append, List.length_cons, List.length_nil, Nat.zero_add] at hline
                refine WCall_use hline (by omega) hh ?_ (fun _ _ h => h.elim)
                rintro _ _ ⟨⟨rs, rfl⟩, rfl⟩
                dsimp only
                walk_at "ms"
                exact hbkS .sp true es [] _ _ (by simp [act, isWs]) (by simp)
              | false =>
                walk_at "ms"
                have hline := readline_walk (P := P ++ [lexOb (P.length + 1) true (cmS true) (.str "a") [] ln' true wc]) g (t := t) (p := p + 1) (by omega) (by omega)
                simp only [List.append_assoc, List.cons_append, List.nil_append, List.length_append, List.length_cons, List.length_nil, Nat.zero_add] at hline
                refine WCall_use hline (by omega) hh ?_ (fun _ _ h => h.elim)
                rintro _ _ ⟨⟨rs, rfl⟩, rfl⟩
                dsimp only
                walk_at "ms"
                exact hgoS .sp false es [] _ _ (by simp [act, isWs]) (by simp) i4 (fun h => nomatch h)
          have hcm : subIn (S [c]) (cmS cm) = false := by rw [in_cmS]; exact cmF hc
          by_cases h39 : c = 39
          · subst h39
            rw [← q1_str] at hcm ⊢
            walk_at "ms"
            exact hgo .q1 qd es tok _ _ (by simp [act, isWs, hc]) (by omega) i4 (fun h => nomatch h)
          by_cases h34 : c = 34
          · subst h34
            rw [← q2_str] at hcm ⊢
            walk_at "ms"
            exact hgo .q2 qd es tok _ _ (by simp [act, isWs, hc]) (by omega) i4 (fun h => nomatch h)
          by_cases h92 : c = 92
          · subst h92
            rw [← es_str] at hcm ⊢
            walk_at "ms"
            exact hgo .esc qd .a tok _ _ (by simp [act, isWs, hc]) (by omega) (.inr (.inl rfl)) (fun _ => .inl rfl)
          have hqu : subIn (S [c]) "'\"" = false := by rw [in_qu]; simp [h39, h34]
          have hes : subIn (S [c]) "\\" = false := by rw [in_es]; simp [h92]
          have ha : act true cm c .a qd es tok = .go .a qd es (tok ++ [c]) false := act_a_other hw hc h92 h39 h34
          cases hwd : subIn (S [c]) wc with
          | true =>
            walk_at "ms"
            exact hgo .a qd es (tok ++ [c]) _ _ ha (by simp only [List.length_append, List.length_cons, List.length_nil]; omega) i4 (fun h => nomatch h)
          | false =>
            walk_at "ms"
            exact hgo .a qd es (tok ++ [c]) _ _ ha (by simp only [List.length_append, List.length_cons, List.length_nil]; omega) i4 (fun h => nomatch h)
      | q1 =>
        by_cases h39 : c = 39
        · subst h39
          rw [← q1_str]
          walk_at "ms"
          exact hgo .a true es tok _ _ (by simp [act]) (by omega) i4 (fun h => nomatch h)
        have heq : (S [c] == ("'" : Str)) = false := by rw [eq_q1]; simp [h39]
        by_cases h92 : c = 92
        · subst h92
          rw [← es_str] at heq ⊢
          walk_at "ms"
          exact hgo .q1 true es (tok ++ [92]) _ _ (by simp [act]) (by simp only [List.length_append, List.length_cons, List.length_nil]; omega) i4 (fun h => nomatch h)
        have hes : subIn (S [c]) "\\" = false := by rw [in_es]; simp [h92]
        walk_at "ms"
        exact hgo .q1 true es (tok ++ [c]) _ _ (by simp [act, h39, h92]) (by simp only [List.length_append, List.length_cons, List.length_nil]; omega) i4 (fun h => nomatch h)
      | q2 =>
        by_cases h34 : c = 34
        · subst h34
          rw [← q2_str]
          walk_at "ms"
          exact hgo .a true es tok _ _ (by simp [act]) (by omega) i4 (fun h => nomatch h)
        have heq : (S [c] == ("\"" : Str)) = false := by rw [eq_q2]; simp [h34]
        by_cases h92 : c = 92
        · subst h92
          rw [← es_str] at heq ⊢
          walk_at "ms"
          exact hgo .esc true .q2 tok _ _ (by simp [act]) (by omega) (.inr (.inr rfl)) (fun _ => .inr rfl)
        have hes : subIn (S [c]) "\\" = false := by rw [in_es]; simp [h92]
        walk_at "ms"
        exact hgo .q2 true es (tok ++ [c]) _ _ (by simp [act, h34, h92]) (by simp only [List.length_append, List.length_cons, List.length_nil]; omega) i4 (fun h => nomatch h)
      | esc =>
        rcases i5 rfl with rfl | rfl
        · walk_at "ms"
          exact hgo .a qd .a (tok ++ [c]) _ _ (by simp [act]) (by simp only [List.length_append, List.length_cons, List.length_nil]; omega) (.inr (.inl rfl)) (fun h => nomatch h)
        · by_cases h92 : c = 92
          · subst h92
            rw [← es_str]
            walk_at "ms"
            exact hgo .q2 qd .q2 (tok ++ [92]) _ _ (by simp [act]) (by simp only [List.length_append, List.length_cons, List.length_nil]; omega) (.inr (.inr rfl)) (fun h => nomatch h)
          by_cases h34 : c = 34
          · subst h34
            rw [← q2_str]
            walk_at "ms"
            exact hgo .q2 qd .q2 (tok ++ [34]) _ _ (by simp [act]) (by simp only [List.length_append, List.length_cons, List.length_nil]; omega) (.inr (.inr rfl)) (fun h => nomatch h)
          have hn1 : (S [c] != ("\\" : Str)) = true := by rw [ne_es]; simp [h92]
          have hn2 : (S [c] != ("\"" : Str)) = true := by rw [ne_q2]; simp [h34]
          walk_at "ms"
          exact hgo .q2 qd .q2 (tok ++ [92] ++ [c]) _ _ (by simp [act, h92, h34]) (by simp only [List.length_append, List.length_cons, List.length_nil]; omega) (.inr (.inr rfl)) (fun h => nomatch h)
      | fin =>
        walk_at "ms"
        exact hbk .fin qd es [] _ _ (by simp [act]) (by simp)
    · have hread := read_none (P := P ++ [lexOb (P.length + 1) true (cmS cm) ls.av tok ln true wc]) g hge (by omega)
      simp only [List.append_assoc, List.cons_append, List.nil_append, List.length_append, List.length_cons, List.length_nil, Nat.zero_add] at hread
      refine WCall_use hread (by omega) hh ?_ (fun _ _ h => h.elim)
      rintro _ _ ⟨rfl, rfl⟩
      dsimp only
      have hd : t.drop p = [] := List.drop_eq_nil_of_le hge
      rw [hd, rt_nil] at i2
      rw [← nil_str]
      have hpe : p = t.length - ([] : List Nat).length := by simp; omega
      walk_at "ms"
      cases ls with
      | sp =>
        walk_at "ms"
        exact ⟨rfl, ⟨p, .fin, qd, es, tok, ln, .str ""⟩, [], i2.symm, hpe, by dsimp only; omega, rfl⟩
      | a =>
        walk_at "ms"
        exact ⟨rfl, ⟨p, .fin, qd, es, tok, ln, .str ""⟩, [], i2.symm, hpe, by dsimp only; omega, rfl⟩
      | fin =>
        walk_at "ms"
        exact ⟨rfl, ⟨p, .fin, qd, es, [], ln, .str ""⟩, [], i2.symm, hpe, by simp, rfl⟩
      | q1 =>
        walk_at "ms"
        refine WS_Raise1 PySem.F.excCall_ValueError PySem.F.excRaise_ValueError hh ?_
        walk_at "m"
        refine ⟨rfl, ?_⟩
        walk_at "m"
        exact ⟨_, rfl, _, i2.symm, rfl⟩
      | q2 =>
        walk_at "ms"
        refine WS_Raise1 PySem.F.excCall_ValueError PySem.F.excRaise_ValueError hh ?_
        walk_at "m"
        refine ⟨rfl, ?_⟩
        walk_at "m"
        exact ⟨_, rfl, _, i2.symm, rfl⟩
      | esc =>
        walk_at "ms"
        refine WS_Raise1 PySem.F.excCall_ValueError PySem.F.excRaise_ValueError hh ?_
        walk_at "m"
        refine ⟨rfl, ?_⟩
        walk_at "m"
        exact ⟨_, rfl, _, i2.symm, rfl⟩
  · rintro _ _ ⟨rfl, ⟨p, ls, qd, es, tok, ln, nc⟩, rest, hT, hp', hz, rfl⟩
    dsimp only at hT hp' hz
    subst hp'
    subst hT
    dsimp only [rtSt]
    cases tok with
    | cons x xs =>
      have hne : (S (x :: xs) == ("" : Str)) = false := by rw [nil_str, S_eq_beq]; simp
      have hlc := len_cons x xs
      cases qd with
      | true =>
        walk_at "ms"
        exact ⟨ls, true, x :: xs, rest, ln, rfl, by simp, rfl⟩
      | false =>
        walk_at "ms"
        exact ⟨ls, false, x :: xs, rest, ln, rfl, by simp, rfl⟩
    | nil =>
      have heq : (S [] == ("" : Str)) = true := by rw [nil_str, S_eq_beq]; simp
      cases qd with
      | true =>
        walk_at "ms"
        exact ⟨ls, true, [], rest, ln, rfl, by simp, rfl⟩
      | false =>
        walk_at "ms"
        exact ⟨ls, false, [], rest, ln, rfl, by simp, rfl⟩
end
section
variable {C : Cx}
-- get_token
abbrev lexSt (P : List OB) (t : List Nat) (px cm : Bool) (wc : Str) (ls : LS) (ln : Int) (p : Nat) : List OB := P ++ [lexOb (P.length + 1) px (cmS cm) ls.av [] ln true wc, sioOb t p]
theorem fGet_ok (g : Good C) : FnOk C (mkFn (HK C.w.params) 683 ["self"] [] ["raw"] []) (fdOf (HK C.w.params) 683) :=
  fnOk_K (H := HK) (ds := []) g.ok g.K (fun pr => by kernel_rfl) (fun pr S vals h => by obtain ⟨x, rfl⟩ := len1 h; kernel_rfl) trivial
theorem get_walkT (g : Good C) {P : List OB} {t : List Nat} {cm : Bool} {p : Nat} {ln : Int} {wc : Str} (hwc : Wc wc) {ls : LS} (hls : ls = .sp ∨ ls = .fin) (hp : p ≤ t.length) (ht : t.length ≤ 100000) :
    WFn C 5 683 [.obj P.length] (lexSt P t true cm wc ls ln p)
    (fun v objs' => ∃ ls' qd tok rest ln', rt true cm (t.drop p) ls false .sp [] = .brk ls' qd tok rest ∧ v = (if tok = [] ∧ true = true ∧ qd = false then .none else .str (S tok)) ∧ objs' = lexSt P t true cm wc ls' ln' (t.length - rest.length))
    (fun x objs' => ∃ m, rt true cm (t.drop p) ls false .sp [] = .err m ∧ x = .exc "ValueError" [m]) := by
  refine WFn_intro (fGet_ok g) rfl fun F hn hh => ?_
  walk_at "m in"
  walk_at "ms"
  refine WCall_use (rt_walkT g hwc hls hp ht) (by omega) hh ?_ (fun _ _ h => h)
  rintro _ _ ⟨ls', qd, tok, rest, ln', h1, rfl, rfl⟩
  dsimp only
  by_cases hc : tok = [] ∧ true = true ∧ qd = false
  · rw [if_pos hc]
    walk_at "ms"
    refine W.mono (Q := fun fl st' => fl = .ret .none ∧ st'.objs = lexSt P t true cm wc ls' ln' (t.length - rest.length)) (WS_While (WW_turn ?_)) ?_ (fun _ _ h => h)
    · walk_at "ms"
      exact ⟨rfl, rfl⟩
    · rintro _ st' ⟨rfl, h⟩
      exact ⟨ls', qd, tok, rest, ln', h1, by rw [if_pos hc], h⟩
  · rw [if_neg hc]
    walk_at "ms"
    refine WS_While (WW_turn ?_)
    walk_at "ms"
    exact ⟨ls', qd, tok, rest, ln', h1, by rw [if_neg hc], rfl⟩
-- __next__
theorem fNext_ok (g : Good C) : FnOk C (mkFn (HK C.w.params) 719 ["self"] [] ["token"] [("StopIteration", .type "StopIteration")]) (fdOf (HK C.w.params) 719) :=
  fnOk_K (H := HK) (ds := []) g.ok g.K (fun pr => by kernel_rfl) (fun pr S vals h => by obtain ⟨x, rfl⟩ := len1 h; kernel_rfl) trivial
theorem next_walkT (g : Good C) {P : List OB} {t : List Nat} {cm : Bool} {p : Nat} {ln : Int} {wc : Str} (hwc : Wc wc) {ls : LS} (hls : ls = .sp ∨ ls = .fin) (hp : p ≤ t.length) (ht : t.length ≤ 100000) :
    WFn C 6 719 [.obj P.length] (lexSt P t true cm wc ls ln p)
    (fun v objs' => ∃ ls' qd tok rest ln', rt true cm (t.drop p) ls false .sp [] = .brk ls' qd tok rest ∧ ¬ (tok = [] ∧ true = true ∧ qd = false) ∧ v = .str (S tok) ∧ objs' = lexSt P t true cm wc ls' ln' (t.length - rest.length))
    (fun x objs' => (∃ ls' qd tok rest, rt true cm (t.drop p) ls false .sp [] = .brk ls' qd tok rest ∧ (tok = [] ∧ true = true ∧ qd = false) ∧ x = .exc "StopIteration" []) ∨ (∃ m, rt true cm (t.drop p) ls false .sp [] = .err m ∧ x = .exc "ValueError" [m])) := by
  refine WFn_intro (fNext_ok g) rfl fun F hn hh => ?_
  walk_at "m in"
  walk_at "ms"
  refine WCall_use (get_walkT g hwc hls hp ht) (by omega) hh ?_ (fun _ _ h => .inr h)
  rintro _ _ ⟨ls', qd, tok, rest, ln', h1, rfl, rfl⟩
  dsimp only
  by_cases hc : tok = [] ∧ true = true ∧ qd = false
  · rw [if_pos hc]
    walk_at "ms"
    refine WS_RaiseStop hh List.mem_cons_self ?_
    exact .inl ⟨ls', qd, tok, rest, h1, hc, rfl⟩
  · rw [if_neg hc]
    walk_at "ms"
    exact ⟨ls', qd, tok, rest, ln', h1, hc, rfl, rfl⟩
-- __iter__
theorem fIter_ok (g : Good C) : FnOk C (mkFn (HK C.w.params) 712 ["self"] [] [] []) (fdOf (HK C.w.params) 712) :=
  fnOk_K (H := HK) (ds := []) g.ok g.K (fun pr => by kernel_rfl) (fun pr S vals h => by obtain ⟨x, rfl⟩ := len1 h; kernel_rfl) trivial
theorem iter_walk (g : Good C) {n : Nat} {objs : List OB} : WFn C 1 712 [.obj n] objs (fun v objs' => v = .obj n ∧ objs' = objs) (fun _ _ => False) := by
  refine WFn_intro (fIter_ok g) rfl fun F hn hh => ?_
  walk_at "m in"
  walk_at "ms"
  exact ⟨rfl, rfl⟩
end
section
variable {C : Cx}
theorem WFn.mono {n m : Nat} {a : Addr} {avs : List AV} {objs : List OB} {Q Q' X X' : AV → List OB → Prop} (h : WFn C n a avs objs Q X) (hnm : n ≤ m) (hq : ∀ v o, Q v o → Q' v o) (hx : ∀ v o, X v o → X' v o) : WFn C m a avs objs Q' X' :=
  fun F' st' obs s vals R h1 h2 h3 r y k1 k2 => h F' st' obs s vals R (by omega) h2 h3 r y (fun b v objs' o' s' q r' z g => k1 b v objs' o' s' (hq _ _ q) r' z g) fun x e objs' o' s' q r' z g => k2 x e objs' o' s' (hx _ _ q) r' z g
theorem lex_it (g : Good C) : ItCls C 722 712 719 := by
  refine ⟨?_, ?_, ?_, ?_, ?_, ?_⟩
  · rw [g.K]; kernel_rfl
  · rw [g.K]; kernel_rfl
  · rw [g.K]; kernel_rfl
  · rw [g.K]; kernel_rfl
  · rw [g.K]; kernel_rfl
  · rw [g.K]; kernel_rfl
theorem run_walkT (g : Good C) {P : List OB} {t : List Nat} {cm : Bool} {wc : Str} (hwc : Wc wc) (ht : t.length ≤ 100000) {Q : List AV → List OB → Prop} {X : AV → List OB → Prop} :
    ∀ (n p : Nat) (ls : LS) (acc : List AV) (ln : Int), p ≤ t.length → (ls = .fin ∨ (ls = .sp ∧ t.length - p < n)) → (∀ ws, (if ls = .fin then .ok [] else lx cm (t.drop p) .gap) = Except.ok ws → ∀ o, Q (acc ++ strL ws) o) →
      (∀ m, (if ls = .fin then .ok [] else lx cm (t.drop p) .gap) = Except.error m → ∀ o, X (.exc "ValueError" [m]) o) → WRun C 6 722 719 P.length Q X (n + 1) acc (lexSt P t true cm wc ls ln p) := by
  intro n
  induction n with
  | zero =>
    intro p ls acc ln hp hl hq hx
    have hf : ls = .fin := by rcases hl with h | ⟨_, h⟩ <;> first | exact h | omega
    subst hf
    refine ⟨⟨_, at_here⟩, (next_walkT g hwc (.inr rfl) hp ht).mono (Nat.le_refl _) ?_ ?_⟩
    · rintro v o ⟨ls', qd, tok, rest, ln', h1, h2, _⟩
      exfalso
      cases hd : t.drop p with
      | nil => rw [hd, rt_nil] at h1; simp only [actE] at h1; cases h1; exact h2 ⟨rfl, rfl, rfl⟩
      | cons c l => rw [hd, rt_brk (ls' := .fin) (qd' := false) (tok' := []) (sk := false) rfl] at h1; cases h1; exact h2 ⟨rfl, rfl, rfl⟩
    · rintro x o (⟨ls', qd, tok, rest, h1, h2, rfl⟩ | ⟨m, h1, _⟩)
      · exact .inl ⟨rfl, by simpa [strL] using hq [] (by simp) o⟩
      · exfalso
        cases hd : t.drop p with
        | nil => rw [hd, rt_nil] at h1; simp only [actE] at h1; cases h1
        | cons c l => rw [hd, rt_brk (ls' := .fin) (qd' := false) (tok' := []) (sk := false) rfl] at h1; cases h1
  | succ n ih =>
    intro p ls acc ln hp hl hq hx
    refine ⟨⟨_, at_here⟩, ?_⟩
    rcases hl with rfl | ⟨rfl, hlt⟩
    · refine (next_walkT g hwc (.inr rfl) hp ht).mono (Nat.le_refl _) ?_ ?_
      · rintro v o ⟨ls', qd, tok, rest, ln', h1, h2, _⟩
        exfalso
        cases hd : t.drop p with
        | nil => rw [hd, rt_nil] at h1; simp only [actE] at h1; cases h1; exact h2 ⟨rfl, rfl, rfl⟩
        | cons c l => rw [hd, rt_brk (ls' := .fin) (qd' := false) (tok' := []) (sk := false) rfl] at h1; cases h1; exact h2 ⟨rfl, rfl, rfl⟩
      · rintro x o (⟨ls', qd, tok, rest, h1, h2, rfl⟩ | ⟨m, h1, _⟩)
        · exact .inl ⟨rfl, by simpa [strL] using hq [] (by simp) o⟩
        · exfalso
          cases hd : t.drop p with
          | nil => rw [hd, rt_nil] at h1; simp only [actE] at h1; cases h1
          | cons c l => rw [hd, rt_brk (ls' := .fin) (qd' := false) (tok' := []) (sk := false) rfl] at h1; cases h1
    · obtain ⟨e1, e2⟩ := rt_lx cm _ (t.drop p) (Nat.le_refl _) (Cor.gap (es := .sp))
      rw [if_neg (by decide), e1] at hq hx
      refine (next_walkT g hwc (.inl rfl) hp ht).mono (Nat.le_refl _) ?_ ?_
      · rintro v o ⟨ls', qd, tok, rest, ln', h1, h2, rfl, rfl⟩
        rw [h1] at hq hx
        have h2' : ¬ (tok = [] ∧ qd = false) := fun z => h2 ⟨z.1, rfl, z.2⟩
        simp only [rest1, if_neg h2'] at hq hx
        have e3 := e2 _ _ _ _ h1
        rw [List.length_drop] at e3
        have hdr : ls' = .sp → t.drop (t.length - rest.length) = rest := fun _ => rt_rest h1
        refine ih (t.length - rest.length) ls' _ ln' (by omega) (e3.imp id fun z => ⟨z.1, by omega⟩) ?_ ?_
        · intro ws hw o
          have := hq (tok :: ws) ?_ o
          · simpa [strL, List.append_assoc] using this
          · split at hw
            · rename_i hf; rw [if_pos hf]; cases hw; rfl
            · rename_i hf; rw [if_neg hf]
              rw [hdr (e3.elim (fun z => absurd z hf) And.left)] at hw
              rw [hw]; rfl
        · intro m hw o
          refine hx m ?_ o
          split at hw
          · cases hw
          · rename_i hf; rw [if_neg hf]
            rw [hdr (e3.elim (fun z => absurd z hf) And.left)] at hw
            rw [hw]; rfl
      · rintro x o (⟨ls', qd, tok, rest, h1, h2, rfl⟩ | ⟨m, h1, rfl⟩)
        · rw [h1] at hq
          refine .inl ⟨rfl, ?_⟩
          have := hq [] (by simp only [rest1]; rw [if_pos ⟨h2.1, h2.2.2⟩]) o
          simpa [strL] using this
        · rw [h1] at hx
          exact .inr ⟨⟨_, _, rfl, ve_notStop⟩, hx m rfl o⟩
end
section
variable {C : Cx}
-- split
theorem fSplit_ok (g : Good C) : FnOk C (mkFn (HK C.w.params) 734 ["s", "comments", "posix"] [] ["lex"] [("ValueError", .type "ValueError"), ("shlex", .ref 722), ("list", .type "list")]) (fdOf (HK C.w.params) 734) :=
  fnOk_K (H := HK) (ds := []) g.ok g.K (fun pr => by kernel_rfl) (fun pr S vals h => by obtain ⟨x, y, z, rfl⟩ := len3 h; kernel_rfl) trivial
theorem fSplit1_ok (g : Good C) : FnOk C (mkFn (HK C.w.params) 734 ["s"] [("comments", .bool false), ("posix", .bool true)] ["lex"] [("ValueError", .type "ValueError"), ("shlex", .ref 722), ("list", .type "list")]) (fdOf (HK C.w.params) 734) :=
  fnOk_K (H := HK) (ds := [("comments", .bool false), ("posix", .bool true)]) g.ok g.K (fun pr => by kernel_rfl) (fun pr S vals h => by obtain ⟨x, rfl⟩ := len1 h; kernel_rfl) ⟨⟨rfl, fun h P obs => by simp only [VR]⟩, ⟨rfl, fun h P obs => by simp only [VR]⟩, trivial⟩
theorem fSplit2_ok (g : Good C) : FnOk C (mkFn (HK C.w.params) 734 ["s", "comments"] [("posix", .bool true)] ["lex"] [("ValueError", .type "ValueError"), ("shlex", .ref 722), ("list", .type "list")]) (fdOf (HK C.w.params) 734) :=
  fnOk_K (H := HK) (ds := [("posix", .bool true)]) g.ok g.K (fun pr => by kernel_rfl) (fun pr S vals h => by obtain ⟨x, y, rfl⟩ := len2 h; kernel_rfl) ⟨⟨rfl, fun h P obs => by simp only [VR]⟩, trivial⟩
def SplitQ (cm : Bool) (t : List Nat) (v : AV) (_ : List OB) : Prop := ∃ ws, lx cm t .gap = .ok ws ∧ v = .lst (strL ws)
def SplitX (cm : Bool) (t : List Nat) (x : AV) (_ : List OB) : Prop := ∃ m, lx cm t .gap = .error m ∧ x = .exc "ValueError" [m]
theorem split_tail (g : Good C) {F : Fm} {gl : List (Str × Value)} {loc : List (Str × AV)} {P : List OB} {t : List Nat} {cm : Bool} {wc : Str} (hwc : Wc wc) (ht : t.length ≤ 100000) (hd : 7 ≤ F.d) (hh : F.hd = none) {Q X : AV → St → Prop}
    (hq : ∀ v o, SplitQ cm t v o → Q v ⟨gl, loc, o⟩) (hx : ∀ v o, SplitX cm t v o → X v ⟨gl, loc, o⟩) : WCall C F (.type "list") [.obj P.length] ⟨gl, loc, lexSt P t true cm wc .sp 1 0⟩ Q X := by
  refine call_list_it (n := 6) (k := t.length + 2) (c := 722) (fI := 712) (fN := 719) (lex_it g) at_here (by omega) ((iter_walk g (n := P.length)).mono (by omega) (fun _ _ h => h) (fun _ _ h => h)) ?_ hd hh
  · refine run_walkT g hwc ht (t.length + 1) 0 .sp [] 1 (by omega) (.inr ⟨rfl, by omega⟩) ?_ ?_
    · intro ws hw o
      rw [if_neg (by decide), List.drop_zero] at hw
      exact hq _ _ ⟨ws, hw, by simp⟩
    · intro m hw o
      rw [if_neg (by decide), List.drop_zero] at hw
      exact hx _ _ ⟨m, hw, rfl⟩
end
section
variable {C : Cx}
theorem split1_walk (g : Good C) {objs : List OB} {t : List Nat} (ht : t.length ≤ 100000) : WFn C 8 734 [.str (S t)] objs (SplitQ false t) (SplitX false t) := by
  refine WFn_intro (fSplit1_ok g) rfl fun F hn hh => ?_
  walk_at "m in"
  walk_at "ms"
  refine WE_CallKw1 ?_
  walk_at "ms"
  refine lex_make g (by omega) hh fun wc hwc => ?_
  dsimp only
  walk_at "ms"
  exact split_tail (cm := false) g hwc ht (by omega) hh (fun v o h => h) (fun v o h => h)
theorem split2_walk (g : Good C) {objs : List OB} {t : List Nat} {cm : Bool} (ht : t.length ≤ 100000) : WFn C 8 734 [.str (S t), .bool cm] objs (SplitQ cm t) (SplitX cm t) := by
  refine WFn_intro (fSplit2_ok g) rfl fun F hn hh => ?_
  walk_at "m in"
  walk_at "ms"
  refine WE_CallKw1 ?_
  walk_at "ms"
  refine lex_make g (by omega) hh fun wc hwc => ?_
  dsimp only
  cases cm with
  | true =>
    walk_at "ms"
    exact split_tail (cm := true) g hwc ht (by omega) hh (fun v o h => h) (fun v o h => h)
  | false =>
    walk_at "ms"
    exact split_tail (cm := false) g hwc ht (by omega) hh (fun v o h => h) (fun v o h => h)
end
section
variable {C : Cx}
theorem fSign_ok (g : Good C) : FnOk C (mkFn (HK C.w.params) 741 ["x"] [] ["kind", "code", "signs"] [("chr", .builtin "chr"), ("len", .builtin "len")]) (fdOf (HK C.w.params) 741) :=
  fnOk_K (H := HK) (ds := []) g.ok g.K (fun pr => by kernel_rfl) (fun pr S vals h => by obtain ⟨x, rfl⟩ := len1 h; kernel_rfl) trivial
def sgTab : List Str := [" ", "\"", "\\", "'", "'", "\"", " ", "\\", "#", "\n\t\r\x0b", "a", "_@%+=:,./-", "~*?!$`&|;<>()[]{}^", "0Zé²"]
theorem sgTab_ok : sgTab.all (fun w => decide (0 < w.length) && decide (w.length ≤ 100) && w.cps.all (· < 1114112)) = true := by decide +kernel
theorem sign_walk (g : Good C) {objs : List OB} {x : Int} : WFn C 1 741 [.int x] objs (fun v objs' => (∃ l : List Nat, l.length ≤ 1 ∧ cpOk l ∧ v = .str (S l)) ∧ objs' = objs) (fun _ _ => False) := by
  refine WFn_intro (fSign_ok g) rfl fun F hn hh => ?_
  walk_at "m in"
  walk_at "ms"
  refine op_mod_int (by decide) ?_
  walk_at "ms"
  refine op_div_int (by decide) ?_
  walk_at "ms"
  refine op_mod_int (by decide) ?_
  walk_at "ms"
  have hk0 : 0 ≤ x.fmod 16 := Int.fmod_nonneg_of_pos _ (by decide)
  have hk1 : x.fmod 16 < 16 := Int.fmod_lt_of_pos _ (by decide)
  have hc0 : 0 ≤ (x.fdiv 16).fmod 1114112 := Int.fmod_nonneg_of_pos _ (by decide)
  have hc1 : (x.fdiv 16).fmod 1114112 < 1114112 := Int.fmod_lt_of_pos _ (by decide)
  generalize x.fmod 16 = k at hk0 hk1
  generalize (x.fdiv 16).fmod 1114112 = cd at hc0 hc1
  refine br_split (fun h14 => ?_) (fun h14 => ?_)
  · walk_at "ms"
    exact ⟨⟨[], by simp, cpOk.nil, by rw [nil_str]⟩, rfl⟩
  walk_at "ms"
  refine br_split (fun h15 => ?_) (fun h15 => ?_)
  · walk_at "ms"
    refine call_chr hc0 (by omega) ?_
    exact ⟨⟨[cd.toNat], by simp, cpOk.one (by omega), rfl⟩, rfl⟩
  simp only [beq_eq_false_iff_ne, ne_eq] at h14 h15
  walk_at "ms"
  have hj : k.toNat < sgTab.length := by show k.toNat < 14; omega
  have hin : sgTab[k.toNat] ∈ sgTab := List.getElem_mem _
  have hw := List.all_eq_true.mp sgTab_ok _ hin
  simp only [Bool.and_eq_true, decide_eq_true_eq, Array.all_eq_true'] at hw
  obtain ⟨hw, hcp⟩ := hw
  generalize hwd : sgTab[k.toNat] = w at hw hcp
  refine sub_lst_nn (xs := sgTab.map .str) (a := .str w) (by decide) hk0 ?_ ?_
  · rw [List.getElem?_map, List.getElem?_eq_getElem hj, hwd]; rfl
  walk_at "ms"
  refine op_mod_int (by omega) ?_
  have hm0 : 0 ≤ cd.fmod (w.length : Int) := Int.fmod_nonneg_of_pos _ (by omega)
  have hm1 : cd.fmod (w.length : Int) < (w.length : Int) := Int.fmod_lt_of_pos _ (by omega)
  generalize cd.fmod (w.length : Int) = j at hm0 hm1
  have hj2 : j.toNat < w.cps.size := by have : w.length = w.cps.size := rfl; omega
  refine sub_str (c := w.cps[j.toNat]) (j := j.toNat) (by omega) (seqIdx_nn hm0 hm1) (by rw [Array.getElem?_eq_getElem hj2]) ?_
  exact ⟨⟨[w.cps[j.toNat]], by simp, cpOk.one (hcp _ (Array.getElem_mem _)), rfl⟩, rfl⟩
end
section
variable {C : Cx}
theorem fText_ok (g : Good C) : FnOk C (mkFn (HK C.w.params) 748 ["row"] [] ["text", "mark", "x", "sign"] [("_law_sign", .ref 741)]) (fdOf (HK C.w.params) 748) :=
  fnOk_K (H := HK) (ds := []) g.ok g.K (fun pr => by kernel_rfl) (fun pr S vals h => by obtain ⟨x, rfl⟩ := len1 h; kernel_rfl) trivial
abbrev TxC := List Nat × Nat × AV × AV
abbrev mkL (m : Nat) : List Nat := if m = 0 then [] else [m]
theorem any_no {c : Nat} (h39 : c ≠ 39) (h34 : c ≠ 34) : ([("'" : Str), "\""].any (· == S [c])) = false := by
  have e1 : ((("'" : Str)) == S [c]) = false := by rw [q1_str, S_eq_beq]; simp; omega
  have e2 : ((("\"" : Str)) == S [c]) = false := by rw [q2_str, S_eq_beq]; simp; omega
  simp [e1, e2]
theorem text_walk (g : Good C) {objs : List OB} {row : List Int} (hz : row.length ≤ 1000) : WFn C 2 748 [.lst (row.map .int)] objs
    (fun v objs' => (∃ t m, v = .str (S t) ∧ t.length ≤ row.length ∧ cpOk t ∧ lawL t 0 = some m) ∧ objs' = objs) (fun _ _ => False) := by
  refine WFn_intro (fText_ok g) rfl fun F hn hh => ?_
  walk_at "m in"
  walk_at "ms"
  refine WS_For ?_
  walk_at "ms"
  refine ⟨_, rfl, ?_⟩
  rw [nil_str]
  refine WFor_ind (ι := TxC) (fun x : Int => AV.int x) (fun i => ⟨[("_law_sign", .ref 741)], [("row", .lst (row.map .int)), ("text", .str (S i.1)), ("mark", .str (S (mkL i.2.1))), ("x", i.2.2.1), ("sign", i.2.2.2)], objs⟩)
    (fun rest i => i.1.length + rest.length ≤ row.length ∧ (i.2.1 = 0 ∨ i.2.1 = 39 ∨ i.2.1 = 34) ∧ lawL i.1 0 = some i.2.1 ∧ cpOk i.1) hh ?_ ?_ row ([], 0, .unb, .unb) ⟨by simp, .inl rfl, rfl, cpOk.nil⟩
  · rintro x rest ⟨t, m, xv, sv⟩ ⟨i1, i2, i3, i4⟩ F' hd hh'
    dsimp only at i1 i2 i3 i4 ⊢
    simp only [List.length_cons] at i1
    refine Asg_name (by walk_at "m up") ?_
    walk_at "ms"
    refine WCall_use (sign_walk g) (by omega) hh' ?_ (fun _ _ h => h.elim)
    rintro _ _ ⟨⟨l, hl, hcl, rfl⟩, rfl⟩
    dsimp only
    have fin1 : ∀ c m', lawL [c] m = some m' → lawL (t ++ [c]) 0 = some m' := fun c m' h => by rw [lawL_snoc, i3]; exact h
    cases l with
    | nil =>
      walk_at "ms"
      exact ⟨(t ++ [], m, .int x, .str (S [])), ⟨by simp; omega, i2, by simpa using i3, by simpa using i4⟩, rfl⟩
    | cons c l =>
      have : l = [] := by
        simp only [List.length_cons] at hl
        exact List.length_eq_zero_iff.mp (by omega)
      subst this
      have hlen : ∀ c, (t ++ [c]).length + rest.length ≤ row.length := fun c => by simp; omega
      by_cases h92 : c = 92
      · subst h92
        rcases i2 with rfl | rfl | rfl
        · walk_at "ms"
          rw [q2_str]
          walk_at "ms"
          exact ⟨(t ++ [34], 34, .int x, .str (S [34])), ⟨hlen _, by simp, fin1 _ _ rfl, cpOk.app i4 (cpOk.one (by decide))⟩, rfl⟩
        · walk_at "ms"
          exact ⟨(t ++ [92], 39, .int x, .str (S [92])), ⟨hlen _, by simp, fin1 _ _ rfl, cpOk.app i4 (cpOk.one (by decide))⟩, rfl⟩
        · walk_at "ms"
          rw [q2_str]
          walk_at "ms"
          exact ⟨(t ++ [34], 0, .int x, .str (S [34])), ⟨hlen _, by simp, fin1 _ _ rfl, cpOk.app i4 (cpOk.one (by decide))⟩, rfl⟩
      by_cases h39 : c = 39
      · subst h39
        rcases i2 with rfl | rfl | rfl
        · walk_at "ms"
          exact ⟨(t ++ [39], 39, .int x, .str (S [39])), ⟨hlen _, by simp, fin1 _ _ rfl, cpOk.app i4 (cpOk.one (by decide))⟩, rfl⟩
        · walk_at "ms"
          exact ⟨(t ++ [39], 0, .int x, .str (S [39])), ⟨hlen _, by simp, fin1 _ _ rfl, cpOk.app i4 (cpOk.one (by decide))⟩, rfl⟩
        · walk_at "ms"
          exact ⟨(t ++ [39], 34, .int x, .str (S [39])), ⟨hlen _, by simp, fin1 _ _ rfl, cpOk.app i4 (cpOk.one (by decide))⟩, rfl⟩
      by_cases h34 : c = 34
      · subst h34
        rcases i2 with rfl | rfl | rfl
        · walk_at "ms"
          exact ⟨(t ++ [34], 34, .int x, .str (S [34])), ⟨hlen _, by simp, fin1 _ _ rfl, cpOk.app i4 (cpOk.one (by decide))⟩, rfl⟩
        · walk_at "ms"
          exact ⟨(t ++ [34], 39, .int x, .str (S [34])), ⟨hlen _, by simp, fin1 _ _ rfl, cpOk.app i4 (cpOk.one (by decide))⟩, rfl⟩
        · walk_at "ms"
          exact ⟨(t ++ [34], 0, .int x, .str (S [34])), ⟨hlen _, by simp, fin1 _ _ rfl, cpOk.app i4 (cpOk.one (by decide))⟩, rfl⟩
      have he : (S [c] == ("\\" : Str)) = false := by rw [es_str, S_eq_beq]; simp [h92]
      have ha := any_no h39 h34
      walk_at "ms"
      exact ⟨(t ++ [c], m, .int x, .str (S [c])), ⟨hlen _, i2, fin1 _ _ (by rw [lawL, if_neg (fun z => h92 z.1), if_neg (fun z => by rcases z.1 with y | y <;> omega)]; rfl), cpOk.app i4 hcl⟩, rfl⟩
  · rintro ⟨t, m, xv, sv⟩ ⟨i1, i2, i3, i4⟩
    dsimp only at i1 i2 i3 i4 ⊢
    walk_at "ms"
    exact ⟨⟨t, m, rfl, by simpa using i1, i4, i3⟩, rfl⟩
end
section
variable {C : Cx}
theorem fEnd_ok (g : Good C) : FnOk C (mkFn (HK C.w.params) 755 ["text"] [] ["words", "begun", "k", "sign", "strand", "front"] [("len", .builtin "len")]) (fdOf (HK C.w.params) 755) :=
  fnOk_K (H := HK) (ds := []) g.ok g.K (fun pr => by kernel_rfl) (fun pr S vals h => by obtain ⟨x, rfl⟩ := len1 h; kernel_rfl) trivial
structure EndC where
  k : Int
  ws : List (List Nat)
  b : Bool
  sg : AV
  sd : AV
  fr : AV
structure EndInv (t : List Nat) (T : SR) (i : EndC) : Prop where
  lo : -1 ≤ i.k
  hi : i.k < t.length
  bg : i.b = true → i.ws ≠ []
  sz : i.ws.flatten.length + (i.k + 1).toNat ≤ t.length
  sl : i.ws.length + (i.k + 1).toNat ≤ t.length
  eq : bwR (t.take (i.k + 1).toNat).reverse i.ws i.b = T
abbrev endSt (t : List Nat) (objs : List OB) (i : EndC) : St := ⟨[("len", .builtin "len")], [("text", .str (S t)), ("words", .lst (strL i.ws)), ("begun", .bool i.b), ("k", .int i.k), ("sign", i.sg), ("strand", i.sd), ("front", i.fr)], objs⟩
theorem take_last {t : List Nat} {n : Nat} {c : Nat} (h : t[n]? = some c) : (t.take (n + 1)).reverse = c :: (t.take n).reverse := by
  obtain ⟨hl, e⟩ := List.getElem?_eq_some_iff.mp h
  rw [List.take_succ_eq_append_getElem hl, e, List.reverse_append]
  rfl
/-- the next turn, when a strand is laid ahead -/
theorem end_next {t : List Nat} {T : SR} {f : Nat} {ws : List (List Nat)} {b : Bool} {s : List Nat} (hf : f ≤ t.length) (hbg : b = true → ws ≠ []) (hsz : ws.flatten.length + s.length + f ≤ t.length) (hsl : ws.length + 1 + f ≤ t.length)
    (he : bwR (t.take f).reverse (addW s ws b) true = T) (sg sd fr : AV) (k : Int) (hk : k = (f : Int) - 1) : EndInv t T ⟨k, addW s ws b, true, sg, sd, fr⟩ := by
  subst hk
  have e : ((f : Int) - 1 + 1).toNat = f := by omega
  refine ⟨by dsimp only; omega, by dsimp only; omega, fun _ => addW_true_cons _ _ _, ?_, ?_, ?_⟩
  · dsimp only; rw [e]
    unfold addW
    cases b with
    | false => rw [if_neg (by decide)]; simp only [List.flatten_cons, List.length_append]; omega
    | true =>
      cases ws with
      | nil => exact absurd rfl (hbg rfl)
      | cons w r => rw [if_pos rfl]; simp only [List.flatten_cons, List.length_append] at hsz ⊢; omega
  · dsimp only; rw [e]
    unfold addW
    cases b with
    | false => rw [if_neg (by decide)]; simp only [List.length_cons]; omega
    | true =>
      cases ws with
      | nil => exact absurd rfl (hbg rfl)
      | cons w r => simp at hsl ⊢; omega
  · dsimp only; rw [e]; exact he
theorem mem_flat_le {w : List Nat} {ws : List (List Nat)} (h : w ∈ ws) : w.length ≤ ws.flatten.length := by
  induction ws with
  | nil => simp at h
  | cons x r ih =>
    rcases List.mem_cons.mp h with z | z
    · subst z; simp only [List.flatten_cons, List.length_append]; omega
    · have := ih z; simp only [List.flatten_cons, List.length_append]; omega
theorem end_walk (g : Good C) {objs : List OB} {t : List Nat} (hz : t.length ≤ 1000) : WFn C 1 755 [.str (S t)] objs (fun v objs' => v = toldV (bwR t.reverse [] false) ∧ objs' = objs) (fun _ _ => False) := by
  refine WFn_intro (fEnd_ok g) rfl fun F hn hh => ?_
  walk_at "m in"
  walk_at "ms"
  generalize hT : bwR t.reverse [] false = T
  refine W.mono (Q := fun fl st' => (∃ ws, T = .ok ws ∧ fl = .next ∧ ∃ i, i.ws = ws ∧ st' = endSt t objs i) ∨ (∃ m, T = .error m ∧ fl = .ret (.tup [.lst [], .str m]) ∧ st'.objs = objs)) (WS_While ?_) ?_ (fun _ _ h => h)
  · refine WW_ind (fun i : EndC => (i.k + 1).toNat) (endSt t objs) (EndInv t T) ?_ ⟨((S t).length : Int) - 1, [], false, .unb, .unb, .unb⟩ ?_
    · rintro ⟨k, ws, b, sg, sd, fr⟩ ⟨lo, hi, bg, sz, sl, eq⟩ ih
      dsimp only at lo hi bg sz sl eq
      refine WW_turn ?_
      dsimp only [endSt]
      walk_at "ms"
      refine br_split (fun hk => ?_) (fun hk => ?_)
      · simp only [decide_eq_true_eq] at hk
        obtain ⟨n, rfl⟩ := Int.eq_ofNat_of_zero_le hk
        have en : ((n : Int) + 1).toNat = n + 1 := by omega
        rw [en] at sz sl eq
        have hnl : n < t.length := by omega
        have hget : t[n]? = some t[n] := List.getElem?_eq_getElem hnl
        generalize t[n] = c at hget
        rw [take_last hget] at eq
        walk_at "ms"
        refine sub_S (c := c) (by omega) (by omega) (by simpa using hget) ?_
        walk_at "ms"
        by_cases hw : isWs c = true
        · have hws : subIn (S [c]) " \t\r\n" = true := by rw [in_ws, hw]
          rw [bwR_ws hw] at eq
          walk_at "ms"
          refine ih ⟨(n : Int) - 1, ws, false, _, _, _⟩ (by dsimp only; omega) ⟨by dsimp only; omega, by dsimp only; omega, (fun h => nomatch h), ?_, ?_, ?_⟩
          · dsimp only; rw [show ((n : Int) - 1 + 1).toNat = n by omega]; omega
          · dsimp only; rw [show ((n : Int) - 1 + 1).toNat = n by omega]; omega
          · dsimp only; rw [show ((n : Int) - 1 + 1).toNat = n by omega]; exact eq
        · have hws : subIn (S [c]) " \t\r\n" = false := by rw [in_ws]; simpa using hw
          by_cases hq : c = 39 ∨ c = 34
          · have hqu : subIn (S [c]) "'\"" = true := by rw [in_qu]; simp [hq]
            walk_at "ms"
            refine' Exists.intro _ (And.intro (meth_str PySem.F.slot_str_rfind PySem.F.type_str_rfind) (And.intro (Keeps.builtin _) ?_))
            walk_at "ms"
            refine call_rfind4 ?_
            rcases rfind_spec (t := t) (c := c) (k := n) (by omega) with ⟨h1, h2⟩ | ⟨f, h1, h2, h3, h4⟩
            · rw [h2]
              rw [bwR_er hq (by simpa using h1)] at eq
              walk_at "ms"
              exact .inr ⟨_, eq.symm, rfl, rfl⟩
            · rw [h4]
              have hcut : (t.take n).reverse = ((t.take n).drop (f + 1)).reverse ++ c :: (t.take f).reverse := by
                have : t.take n = t.take f ++ c :: (t.take n).drop (f + 1) := by
                  have e1 : (t.take n).take (f + 1) ++ (t.take n).drop (f + 1) = t.take n := List.take_append_drop _ _
                  rw [List.take_take, Nat.min_eq_left (by omega)] at e1
                  obtain ⟨hl, ef⟩ := List.getElem?_eq_some_iff.mp h2
                  rw [List.take_succ_eq_append_getElem hl, ef, List.append_assoc] at e1
                  exact e1.symm
                conv => lhs; rw [this]
                simp
              rw [hcut, bwR_qt hq (by simpa using h3), List.reverse_reverse] at eq
              have hsl := S_slice (l := t) (i := f + 1) (j := n) (by omega) (by omega)
              have hdt : (t.take n).drop (f + 1) = (t.drop (f + 1)).take (n - (f + 1)) := by rw [List.drop_take]
              rw [hdt] at eq
              have hsl' : Txt.slice (S t) (some ((f : Int) + 1)) (some (n : Int)) = S ((t.drop (f + 1)).take (n - (f + 1))) := hsl
              walk_at "ms"
              rw [hsl']
              have hlen : ((t.drop (f + 1)).take (n - (f + 1))).length = n - (f + 1) := by rw [List.length_take, List.length_drop]; omega
              generalize (t.drop (f + 1)).take (n - (f + 1)) = sd at eq hlen
              cases b with
              | true =>
                obtain ⟨w, r, rfl⟩ : ∃ w r, ws = w :: r := by
                  cases ws with
                  | nil => exact absurd rfl (bg rfl)
                  | cons w r => exact ⟨w, r, rfl⟩
                have hwl := mem_flat_le (w := w) (ws := w :: r) List.mem_cons_self
                simp only [List.length_cons] at sl
                walk_at "ms"
                refine sub_lst_nn (xs := strL (w :: r)) (a := .str (S w)) (by rw [strL_len]; simp only [List.length_cons]; omega) (by decide) rfl ?_
                walk_at "ms"
                refine cut_lst (by rw [strL_len]; simp only [List.length_cons]; omega) rfl rfl ?_
                rw [show cutL (strL (w :: r)) (some 1) none = strL r from cutL_from (strL (w :: r)) 1]
                refine op_add_lst (by rw [strL_len]; simp only [List.length_cons, List.length_nil]; omega) ?_
                walk_at "ms"
                exact ih ⟨_, addW sd (w :: r) true, true, _, _, _⟩ (by dsimp only; omega) (end_next (f := f) (by omega) bg (by simp only [List.length_cons, List.length_nil] at *; omega) (by simp only [List.length_cons]; omega) eq _ _ _ _ rfl)
              | false =>
                walk_at "ms"
                refine op_add_lst (by rw [strL_len]; simp only [List.length_cons, List.length_nil]; omega) ?_
                walk_at "ms"
                exact ih ⟨_, addW sd ws false, true, _, _, _⟩ (by dsimp only; omega) (end_next (f := f) (by omega) bg (by simp only [List.length_cons, List.length_nil] at *; omega) (by omega) eq _ _ _ _ rfl)
          · have hqu : subIn (S [c]) "'\"" = false := by rw [in_qu]; simp [hq]
            rw [bwR_ch hw hq] at eq
            cases b with
            | true =>
              obtain ⟨w, r, rfl⟩ : ∃ w r, ws = w :: r := by
                cases ws with
                | nil => exact absurd rfl (bg rfl)
                | cons w r => exact ⟨w, r, rfl⟩
              have hwl := mem_flat_le (w := w) (ws := w :: r) List.mem_cons_self
              simp only [List.length_cons] at sl
              walk_at "ms"
              refine sub_lst_nn (xs := strL (w :: r)) (a := .str (S w)) (by rw [strL_len]; simp only [List.length_cons]; omega) (by decide) rfl ?_
              walk_at "ms"
              refine cut_lst (by rw [strL_len]; simp only [List.length_cons]; omega) rfl rfl ?_
              rw [show cutL (strL (w :: r)) (some 1) none = strL r from cutL_from (strL (w :: r)) 1]
              refine op_add_lst (by rw [strL_len]; simp only [List.length_cons, List.length_nil]; omega) ?_
              walk_at "ms"
              exact ih ⟨_, addW [c] (w :: r) true, true, _, _, _⟩ (by dsimp only; omega) (end_next (f := n) (by omega) bg (by simp only [List.length_cons, List.length_nil] at *; omega) (by simp only [List.length_cons]; omega) eq _ _ _ _ rfl)
            | false =>
              walk_at "ms"
              refine op_add_lst (by rw [strL_len]; simp only [List.length_cons, List.length_nil]; omega) ?_
              walk_at "ms"
              exact ih ⟨_, addW [c] ws false, true, _, _, _⟩ (by dsimp only; omega) (end_next (f := n) (by omega) bg (by simp only [List.length_cons, List.length_nil] at *; omega) (by omega) eq _ _ _ _ rfl)
      · walk_at "ms"
        simp only [decide_eq_false_iff_not] at hk
        have : (k + 1).toNat = 0 := by omega
        rw [this, List.take_zero, List.reverse_nil, bwR_nil] at eq
        exact .inl ⟨ws, eq.symm, rfl, ⟨k, ws, b, sg, sd, fr⟩, rfl, rfl⟩
    · refine ⟨by dsimp only; omega, by dsimp only; rw [S_len]; omega, (fun h => nomatch h), ?_, ?_, ?_⟩
      · dsimp only; rw [S_len]; simp
      · dsimp only; rw [S_len]; simp
      · dsimp only
        rw [S_len, show ((t.length : Int) - 1 + 1).toNat = t.length by omega, List.take_length]; exact hT
  · rintro fl st' (⟨ws, rfl, rfl, ⟨k, ws', b, sg, sd, fr⟩, e, rfl⟩ | ⟨m, rfl, rfl, h⟩)
    · dsimp only at e
      subst e
      dsimp only [endSt]
      walk_at "ms"
      exact ⟨by rw [nil_str]; rfl, rfl⟩
    · exact ⟨rfl, h⟩
end
section
variable {C : Cx}
theorem fTold_ok (g : Good C) : FnOk C (mkFn (HK C.w.params) 762 ["text"] [] ["error"] [("split", .ref 734), ("ValueError", .type "ValueError"), ("str", .type "str")]) (fdOf (HK C.w.params) 762) :=
  fnOk_K (H := HK) (ds := []) g.ok g.K (fun pr => by kernel_rfl) (fun pr S vals h => by obtain ⟨x, rfl⟩ := len1 h; kernel_rfl) trivial
theorem told_walk (g : Good C) {objs : List OB} {t : List Nat} (ht : t.length ≤ 100000) : WFn C 9 762 [.str (S t)] objs (fun v _ => v = toldV (lx false t .gap)) (fun _ _ => False) := by
  refine WFn_intro (fTold_ok g) rfl fun F hn hh => ?_
  walk_at "m in"
  walk_at "ms"
  refine WS_Try ?_
  walk_at "ms"
  refine WCall_use (split1_walk g ht) (by omega) hh ?_ ?_
  · rintro _ o ⟨ws, h1, rfl⟩
    dsimp only
    walk_at "ms"
    rw [h1, nil_str]
    rfl
  · rintro _ o ⟨m, h1, rfl⟩
    dsimp only
    refine ⟨_, _, _, rfl, catches_VE, fun F' hd => ?_⟩
    walk_at "ms"
    refine ⟨rfl, _, .tail .head, ?_⟩
    dsimp only
    walk_at "ms"
    refine call_str_exc ?_
    walk_at "ms"
    refine ⟨_, _, .tail .head, .tail .head, ?_⟩
    rw [h1]
    rfl
end
section
variable {C : Cx}
theorem map_take60 (ns : List Int) : cutL (ns.map AV.int) none (some 60) = (ns.take 60).map .int := by
  have := cutL_upto (ns.map AV.int) 60
  rw [List.map_take]; exact this
theorem ret_walk (g : Good C) {F : Fm} {p1 p2 p3 p4 p5 p6 p7 p8 : Pos} {script : AV} {t : List Nat} {m : Nat} {objs : List OB} (hd : 100 ≤ F.d) (hh : F.hd = none) (ht : t.length ≤ 1000) (hc : cpOk t) (hl : lawL t 0 = some m)
    {X : AV → St → Prop} : WSs C F [.Return (some (.Compare (.Call (.Name "_law_told" p1) [.Name "text" p2] [] p3) [.Eq] [.Call (.Name "_law_from_its_end" p4) [.Name "text" p5] [] p6] p7)) p8]
      ⟨[("_law_text", .ref 748), ("_law_told", .ref 762), ("_law_from_its_end", .ref 755)], [("script", script), ("text", .str (S t))], objs⟩ (fun fl _ => fl = .ret (.bool true)) X := by
  walk_at "ms"
  refine WCall_use (told_walk g (by omega)) (by omega) hh ?_ (fun _ _ h => h.elim)
  rintro _ o rfl
  dsimp only
  walk_at "ms"
  refine WCall_use (end_walk g ht) (by omega) hh ?_ (fun _ _ h => h.elim)
  rintro _ _ ⟨rfl, rfl⟩
  dsimp only
  rw [← plain02 t (by rw [hl]; simp)]
  refine cmp_told (lx_ok false t .gap hc cpOk.nil) ?_
  rfl
end
set_option maxRecDepth 100000 in
set_option maxHeartbeats 8000000 in
theorem final02 : PySem.Challenge.rw_dz0104_02.Holds :=
  holds_law hd_said fun said => by
  refine holds_open (q := qV) (loose := qL) (XP := XL qV []) (YP := Hook.says hkHook) (N := 9896) hd_left (Hook.of hkHook) (Hook.keeps hkHook) (fun s e => xl_of s (Bool.and_eq_true_iff.mp e).1) XL.keeps (by rfl) (by rfl) (by rfl) (fun s e => recFacts_of (Bool.and_eq_true_iff.mp e).2) (by rfl) said (by decide +kernel) ⟨rfl, rfl, rfl, rfl, rfl, by decide +kernel⟩ ?hw ?hc
  case hw => w_witness2
  intro w s₀ s₁ mg mb G Y fa o pm cd doc dV kV ho hd hcd hD hmg hg args vals as hpre hlay hrd hwl hlo
  have KX := kIn_of Y
  have X := (Ground.X G).1
  have V := (Ground.X G).2
  refine Ground.open G ?_
  intro T B D TE TW
  try (refine guard_noD D (by decide +kernel) ?_; clear D)
  obtain ⟨_, _, M⟩ := bmod_of_top T
  have TA := at_of_top T
  try (obtain ⟨_, _, he, B0⟩ := based_of_top T rfl hmg ho hd; have he' : cd = _ := he; subst he'; clear he)
  clear hmg
  wrow_args hpre hlay hrd hwl hlo
  first | refine callC_kw (enter_call ?_) | refine enter_call ?_ | refine callC_kw (enter_callW ?_) | refine enter_callW ?_
  w_top on
  try refine codeAny_mono ?_ (fun _ _ g => GoodW.toG g)
  have K0 := below_caller (Top.heap T)
  w_call any ho hd hcd hD T F
  clear hd TA
  k_drop
  refine join (Kf := HK) (by assumption) (by assumption) (by assumption) (by assumption) (by assumption) (by assumption) rfl (locals := ["text"]) (by decide +kernel) (by decide +kernel)
    (gl := [("_law_text", .ref 748), ("_law_told", .ref 762), ("_law_from_its_end", .ref 755)]) (by decide +kernel) (fun pr => by kernel_rfl) (fun C ok hK F' hd hh => ?_) (fun s' m' F1 g1 o1 => ?_)
  · have g : Good C := ⟨ok, hK⟩
    clear ok hK
    refine W.mono (Q := fun fl _ => fl = .ret (.bool true)) ?_ (fun _ _ h => h) (fun _ _ h => h)
    dsimp only [unb_cons, unb_nil]
    refine WSs_cons ?_
    walk_at "ms"
    refine cmp_ne_ints ?_
    walk_at "ms"
    rename (¬ (_ : Int) < _) => hlen
    refine br_split (fun hb => ?_) (fun hb => ?_)
    · walk_at "ms"
      refine cut_lst (by rw [List.length_map]; omega) rfl rfl ?_
      rw [map_take60]
      walk_at "ms"
      refine WCall_use (text_walk g (by rw [List.length_take]; omega)) (by omega) hh ?_ (fun _ _ h => h.elim)
      rintro _ _ ⟨⟨t, m, rfl, h1, h2, h3⟩, rfl⟩
      rw [List.length_take] at h1
      refine ⟨_, .tail .head, ?_⟩
      exact ret_walk g hd hh (by omega) h2 h3
    · walk_at "ms"
      refine WCall_use (text_walk (row := [10, 1, 3, 1, 0, 3, 2, 3]) g (by decide)) (by omega) hh ?_ (fun _ _ h => h.elim)
      rintro _ _ ⟨⟨t, m, rfl, h1, h2, h3⟩, rfl⟩
      simp only [List.length_cons, List.length_nil] at h1
      refine ⟨_, .tail .head, ?_⟩
      exact ret_walk g hd hh (by omega) h2 h3
  · (try dsimp only)
    exact good_law F1 g1 o1
end
end Mine
end
theorem PySem.Challenge.cw_dz0104_02_holds : PySem.Challenge.rw_dz0104_02.Holds :=
  Mine.final02
