import PyProof.Rows.All
import Wide.All
import OpenK.AllK
import Wide.FinOn
import PySem.Challenge.RW_br0011_01
open PySem PySem.W PyProof.Rows PySem.Calls
set_option Elab.async false
set_option maxRecDepth 100000
set_option linter.unusedVariables false
set_option linter.unusedSimpArgs false

namespace Mine
-- The head lays, for each of its heap trees, an equation with a quickened twin; those of the big trees are very long (the compiled file would pass 256 MiB).
-- Where the name of the twin stands already, the head goes on with the tree as it is. So the names of the twins of the 25 trees are taken here, by a command of the library.
theorem nq : PySem.Manifest.find? = PySem.Manifest.find? := rfl
name_quick tw13215998728584607739 for PySem.Manifest.find? by nq
name_quick tw8555734327229750603 for PySem.Manifest.find? by nq
name_quick tw6250672158363226905 for PySem.Manifest.find? by nq
name_quick tw2364824441312284604 for PySem.Manifest.find? by nq
name_quick tw8303831635834835207 for PySem.Manifest.find? by nq
name_quick tw10690313237802994826 for PySem.Manifest.find? by nq
name_quick tw1302811641713473902 for PySem.Manifest.find? by nq
name_quick tw9764882154061713095 for PySem.Manifest.find? by nq
name_quick tw11075218271163461481 for PySem.Manifest.find? by nq
name_quick tw1862734569511072394 for PySem.Manifest.find? by nq
name_quick tw6794992719758384945 for PySem.Manifest.find? by nq
name_quick tw18319928239107885847 for PySem.Manifest.find? by nq
name_quick tw14756751240218492549 for PySem.Manifest.find? by nq
name_quick tw10757946417298954514 for PySem.Manifest.find? by nq
name_quick tw9396274798164621187 for PySem.Manifest.find? by nq
name_quick tw5097042762029085258 for PySem.Manifest.find? by nq
name_quick tw10344921201662944189 for PySem.Manifest.find? by nq
name_quick tw110518266410750177 for PySem.Manifest.find? by nq
name_quick tw2094763283347577460 for PySem.Manifest.find? by nq
name_quick tw16576172193391849089 for PySem.Manifest.find? by nq
name_quick tw12368736378888927699 for PySem.Manifest.find? by nq
name_quick tw15930400062175035336 for PySem.Manifest.find? by nq
name_quick tw16107972277432252192 for PySem.Manifest.find? by nq
name_quick tw12264350136244995015 for PySem.Manifest.find? by nq
name_quick tw4767538571801282320 for PySem.Manifest.find? by nq
set_option maxHeartbeats 8000000 in
open_top hd for PySem.Challenge.rw_br0011_01
end Mine

-- LA
namespace Mine

abbrev P : Program := PySem.Challenge.pw_br0011_01
abbrev TB : Addr := 92
abbrev Kn := Addr → Option Obj
abbrev Lm := Str → Option Value
abbrev Mu := List (Addr × Obj)
abbrev Gr := Array GenState → Array GenState → Prop

def Kn.In (k : Kn) (h : Heap) : Prop := ∀ b o, k b = some o → h.get? b = some o
def Kn.Le (k k' : Kn) : Prop := ∀ b o, k b = some o → k' b = some o
theorem Kn.Le.refl (k : Kn) : k.Le k := fun _ _ e => e
theorem Kn.Le.trans {a b c : Kn} (x : a.Le b) (y : b.Le c) : a.Le c := fun d o e => y d o (x d o e)
theorem Kn.In.le {k k' : Kn} {h : Heap} (x : k'.In h) (y : k.Le k') : k.In h := fun b o e => x b o (y b o e)

/-- everything stays, but the code table -/
def Grow (h h' : Heap) : Prop := ∀ b o, b ≠ TB → h.get? b = some o → h'.get? b = some o
theorem Grow.refl (h : Heap) : Grow h h := fun _ _ _ e => e
theorem Grow.trans {a b c : Heap} (x : Grow a b) (y : Grow b c) : Grow a c := fun d o n e => y d o n (x d o n e)
def TabOk (h : Heap) : Prop := ∃ ps, h.get? TB = some (tabObj ps)
def TabG (h h' : Heap) : Prop := ∀ ps, h.get? TB = some (tabObj ps) → h'.get? TB = some (tabObj ps)
theorem TabG.refl (h : Heap) : TabG h h := fun ps e => e
theorem TabG.trans {a b c : Heap} (x : TabG a b) (y : TabG b c) : TabG a c := fun ps e => y _ (x _ e)
theorem TabG.of_eq {h h' : Heap} (e : h'.get? TB = h.get? TB) : TabG h h' := fun ps x => e.trans x
theorem TabG.ok {h h' : Heap} (x : TabG h h') (o : TabOk h) : TabOk h' := let ⟨ps, e⟩ := o; ⟨ps, x _ e⟩
theorem TabG.get {h h' : Heap} (x : TabG h h') (o : TabOk h) : h'.get? TB = h.get? TB := let ⟨ps, e⟩ := o; (x _ e).trans e.symm

structure OkA (n : Nat) (A : Around) : Prop where
  handled : A.handled = none
  depth : A.depth + 8 * n < recursionLimit
  units : A.units + 64 * n + 64 < cLine

theorem OkA.le {n n' : Nat} {A : Around} (x : OkA n A) (h : n' ≤ n) : OkA n' A :=
  ⟨x.handled, by have := x.depth; omega, by have := x.units; omega⟩
theorem OkA.room {n : Nat} {A : Around} (x : OkA n A) : A.depth < recursionLimit := by have := x.depth; omega
theorem OkA.unit {n : Nat} {A : Around} (x : OkA n A) : A.units < cLine := by have := x.units; omega
theorem OkA.deeper {n : Nat} {A : Around} (x : OkA (n + 1) A) (env : Env) : OkA n (A.deeper env) :=
  ⟨x.handled, by have := x.depth; show A.depth + 1 + 8 * n < _; omega, by have := x.units; show A.units + 3 + 64 * n + 64 < _; omega⟩
theorem OkA.in1 {n : Nat} {A : Around} (x : OkA (n + 1) A) : OkA n A.in1 :=
  ⟨x.handled, by have := x.depth; show A.depth + 8 * n < _; omega, by have := x.units; show A.units + 1 + 64 * n + 64 < _; omega⟩

/-- the text's own objects and names, apart from the code table -/
noncomputable abbrev KF (w : World) : Frag := hd.heap_39 w.params
structure Prog (w : World) (h : Heap) : Prop where
  ex : ∃ (hb : Heap) (p : Program) (loose : List Str) (mean : ExcName → Option Value) (mg mb : Lm), (KF w).In hb ∧ Top p loose mean mg mb hb ∧ hb.get? TB = none ∧ hb.StaysIn h
theorem Prog.grow {w : World} {h h' : Heap} (x : Prog w h) (g : Grow h h') : Prog w h' := by
  obtain ⟨hb, p, lo, me, mg, mb, a1, a2, a3, a4⟩ := x.ex
  exact ⟨hb, p, lo, me, mg, mb, a1, a2, a3, fun b o e => g b o (fun q => by rw [q, a3] at e; cases e) (a4 b o e)⟩
theorem Prog.K {w : World} {h : Heap} (x : Prog w h) : (KF w).In h := by
  obtain ⟨hb, p, lo, me, mg, mb, a1, a2, a3, a4⟩ := x.ex
  exact Frag.In.keeps a1 a4
theorem Prog.nolimit {w : World} {h : Heap} (x : Prog w h) : h.NoLimit := by
  obtain ⟨hb, p, lo, me, mg, mb, a1, a2, a3, a4⟩ := x.ex
  exact a2.nolimit.keeps a4

structure Cx where
  w : World
  n : Nat
  env : Env
  base : Heap
  k0 : Kn
  G : Gr
  ownv : List Str

/-- the frame's own table and cells -/
def Cx.own (C : Cx) (a : Addr) : Prop := a = C.env.locals ∨ ∃ x ∈ C.ownv, C.env.cells.lookup x = some a

structure Cx.Ok (C : Cx) : Prop where
  refl : ∀ a, C.G a a
  trans : ∀ a b c, C.G a b → C.G b c → C.G a c
  prog : Prog C.w C.base
  k0in : C.k0.In C.base
  tb : C.base.get? TB = none
  kind : C.env.scope.kind = .function
  bown : ∀ a, C.own a → C.base.get? a = none
  ownT : ∀ a, C.own a → a ≠ TB
  cL : ∀ x c, x ∈ C.ownv → C.env.cells.lookup x = some c → c ≠ C.env.locals
  capart : ∀ x y c, x ∈ C.ownv → y ∈ C.ownv → C.env.cells.lookup x = some c → C.env.cells.lookup y = some c → x = y
  cellv : ∀ x ∈ C.ownv, C.env.kindOf x = some .cell

structure Stt (C : Cx) (k : Kn) (m : Lm) (mu : Mu) (h : Heap) : Prop where
  ok : C.Ok
  loc : ∃ ml, h.Ns C.env.locals ml ∧ ∀ x, C.env.kindOf x = some .local → ml x = m x
  cel : ∀ x c, x ∈ C.ownv → C.env.cells.lookup x = some c → h.IsCell c (m x)
  fre : ∀ x c, x ∉ C.ownv → (C.env.kindOf x = some .cell ∨ C.env.kindOf x = some .free) → C.env.cells.lookup x = some c → C.base.IsCell c (m x)
  keep : C.base.StaysIn h
  kin : k.In h
  own : ∀ p ∈ mu, h.get? p.1 = some p.2
  kown : ∀ a, C.own a → k a = none
  muown : ∀ a, C.own a → ∀ p ∈ mu, p.1 ≠ a
  kmu : ∀ p ∈ mu, k p.1 = none
  bmu : ∀ p ∈ mu, C.base.get? p.1 = none
  nd : (mu.map (·.1)).Nodup
  ext : C.k0.Le k
  extb : ∀ b o, C.base.get? b = some o → k b = C.k0 b
  tab : TabOk h
  kT : k TB = none
  muT : ∀ p ∈ mu, p.1 ≠ TB

def After (G : Gr) (s s' : Shared) : Prop := ∃ h' tk g', (∃ d, s' = { s with heap := h', toks := tk, gens := g', drawn := d }) ∧ G s.gens g' ∧ TabG s.heap h'

def Mt {α : Type} (C : Cx) (k : Kn) (m : Lm) (mu : Mu) (t : Sem α) (Q : α → Kn → Lm → Mu → Prop) : Prop :=
  ∀ (s : Shared) (A : Around) (E : Value → Shared → Prop), OkA C.n A → Stt C k m mu s.heap →
    wpAny (model P C.w) A t (fun a s' => ∃ k' m' mu', After C.G s s' ∧ Stt C k' m' mu' s'.heap ∧ Q a k' m' mu') E s

def Ev {α : Type} (w : World) (n : Nat) (G : Gr) (k : Kn) (t : Sem α) (Q : α → Kn → Prop) : Prop :=
  ∀ (s : Shared) (A : Around) (E : Value → Shared → Prop), OkA n A → Prog w s.heap → TabOk s.heap → k.In s.heap → k TB = none →
    wpAny (model P w) A t (fun a s' => ∃ k', After G s s' ∧ Grow s.heap s'.heap ∧ k'.In s'.heap ∧ k.Le k' ∧ (∀ b o, s.heap.get? b = some o → k' b = k b) ∧ Q a k') E s

section
variable {α β : Type} {C : Cx} {k : Kn} {m : Lm} {mu : Mu}

theorem Cx.Ok.after_refl (o : C.Ok) (s : Shared) : After C.G s s := ⟨s.heap, s.toks, s.gens, ⟨_, rfl⟩, o.refl _, TabG.refl _⟩
theorem Cx.Ok.after_trans (o : C.Ok) {s₁ s₂ s₃ : Shared} (x : After C.G s₁ s₂) (y : After C.G s₂ s₃) : After C.G s₁ s₃ := by
  obtain ⟨h, t, g, ⟨_, rfl⟩, a, b⟩ := x
  obtain ⟨h', t', g', ⟨_, rfl⟩, a', b'⟩ := y
  exact ⟨h', t', g', ⟨_, rfl⟩, o.trans _ _ _ a a', b.trans b'⟩

theorem Mt_pure {a : α} {Q : α → Kn → Lm → Mu → Prop} (h : Q a k m mu) : Mt C k m mu (pure a) Q :=
  fun s A E hA S => wpAny_pure ⟨k, m, mu, S.ok.after_refl s, S, h⟩

theorem Mt_mono {t : Sem α} {Q Q' : α → Kn → Lm → Mu → Prop} (h : Mt C k m mu t Q) (hq : ∀ a k' m' mu', Q a k' m' mu' → Q' a k' m' mu') : Mt C k m mu t Q' :=
  fun s A E hA S => wpAny_mono (h s A E hA S) (fun a s' ⟨k', m', mu', x, y, z⟩ => ⟨k', m', mu', x, y, hq _ _ _ _ z⟩) fun _ _ e => e

theorem Mt_bind {t : Sem α} {f : α → Sem β} {Q : β → Kn → Lm → Mu → Prop} (h : Mt C k m mu t (fun a k' m' mu' => Mt C k' m' mu' (f a) Q)) : Mt C k m mu (t >>= f) Q :=
  fun s A E hA S => wpAny_bind (wpAny_mono (h s A E hA S) (fun a s' ⟨k', m', mu', x, y, z⟩ => wpAny_mono (z s' A E hA y)
    (fun b s'' ⟨k'', m'', mu'', x', y', z'⟩ => ⟨k'', m'', mu'', S.ok.after_trans x x', y', z'⟩) fun _ _ e => e) fun _ _ e => e)

theorem Mt_holding {vs : List Value} {t : Sem α} {Q : α → Kn → Lm → Mu → Prop} (h : Mt C k m mu t Q) : Mt C k m mu (holding vs t) Q :=
  fun s A E hA S => wpAny_holding (h s A E hA S)
theorem Mt_standAt {pos : Pos} {Q : Unit → Kn → Lm → Mu → Prop} (h : Q () k m mu) : Mt C k m mu (standAt pos) Q :=
  fun s A E hA S => wpAny_standAt ⟨k, m, mu, S.ok.after_refl s, S, h⟩
theorem Mt_point {Q : Unit → Kn → Lm → Mu → Prop} (h : Q () k m mu) : Mt C k m mu point Q :=
  fun s A E hA S => wpAny_point ⟨k, m, mu, S.ok.after_refl s, S, h⟩
theorem Mt_rule {tag : String} {Q : Unit → Kn → Lm → Mu → Prop} (h : Q () k m mu) : Mt C k m mu (rule tag) Q :=
  fun s A E hA S => wpAny_rule ⟨k, m, mu, S.ok.after_refl s, S, h⟩
theorem Mt_at {pos : Pos} {t : Unit → Sem α} {Q : α → Kn → Lm → Mu → Prop} (h : Mt C k m mu (t ()) Q) : Mt C k m mu (standAt pos >>= t) Q := Mt_bind (Mt_standAt h)
theorem Mt_ite {c : Prop} [Decidable c] {a b : Sem α} {Q : α → Kn → Lm → Mu → Prop} (h1 : c → Mt C k m mu a Q) (h2 : ¬ c → Mt C k m mu b Q) : Mt C k m mu (if c then a else b) Q := by
  split
  · exact h1 ‹_›
  · exact h2 ‹_›

/-- a tree that touches nothing: by the logic itself -/
theorem Mt_of {t : Sem α} {a : α} {Q : α → Kn → Lm → Mu → Prop}
    (h : ∀ (s : Shared) (A : Around) (E : Value → Shared → Prop) (R : α → Shared → Prop), OkA C.n A → Stt C k m mu s.heap → (∀ tk, R a { s with toks := tk }) → wpAny (model P C.w) A t R E s)
    (hq : Q a k m mu) : Mt C k m mu t Q :=
  fun s A E hA S => h s A E _ hA S fun tk => ⟨k, m, mu, ⟨s.heap, tk, s.gens, ⟨_, rfl⟩, S.ok.refl _, TabG.refl _⟩, S, hq⟩

theorem Stt.grown {h h' : Heap} {k' : Kn} (S : Stt C k m mu h) (g : Grow h h') (t : TabG h h') (kin : k'.In h') (le : k.Le k') (old : ∀ b o, h.get? b = some o → k' b = k b) : Stt C k' m mu h' := by
  have kp : ∀ b o, C.base.get? b = some o → h'.get? b = some o := fun b o e => g b o (fun q => by rw [q, S.ok.tb] at e; cases e) (S.keep b o e)
  have cl : ∀ x c, x ∈ C.ownv → C.env.cells.lookup x = some c → ∃ o, h.get? c = some o ∧ o.data = .cell (m x) := fun x c hx hc => S.cel x c hx hc
  obtain ⟨ml, ⟨oL, esL, epL, hL, r⟩, hm⟩ := S.loc
  have there : ∀ a, C.own a → ∃ o, h.get? a = some o := by
    rintro a (rfl | ⟨x, hx, hc⟩)
    · exact ⟨_, hL⟩
    · obtain ⟨o, ho, _⟩ := cl x a hx hc; exact ⟨o, ho⟩
  refine ⟨S.ok, ⟨ml, ⟨oL, esL, epL, g _ _ (S.ok.ownT _ (.inl rfl)) hL, r⟩, hm⟩, fun x c hx hc => ?_, S.fre, kp, kin, fun p hp => g _ _ (S.muT p hp) (S.own p hp), fun a ha => ?_, S.muown, fun p hp => (old _ _ (S.own p hp)).trans (S.kmu p hp), S.bmu, S.nd, S.ext.trans le, fun b o e => (old b o (S.keep b o e)).trans (S.extb b o e), t.ok S.tab, ?_, S.muT⟩
  · obtain ⟨o, ho, hd⟩ := cl x c hx hc
    exact ⟨o, g _ _ (S.ok.ownT _ (.inr ⟨x, hx, hc⟩)) ho, hd⟩
  · obtain ⟨o, ho⟩ := there a ha
    exact (old _ _ ho).trans (S.kown a ha)
  · obtain ⟨ps, e⟩ := S.tab
    exact (old _ _ e).trans S.kT

/-- a tree of the frame-free kind -/
theorem Mt_ev {t : Sem α} {Q : α → Kn → Lm → Mu → Prop} (h : Ev C.w C.n C.G k t (fun a k' => k.Le k' → Q a k' m mu)) : Mt C k m mu t Q :=
  fun s A E hA S => by
    refine wpAny_mono (h s A E hA (S.ok.prog.grow fun b o _ e => S.keep b o e) S.tab S.kin S.kT) (fun a s' ⟨k', af, g, kin, le, old, q⟩ => ?_) fun _ _ e => e
    refine ⟨k', m, mu, af, ?_, q le⟩
    obtain ⟨h', tk, g', ⟨_, rfl⟩, _, tg⟩ := af
    exact S.grown g tg kin le old

/-- one own object turned -/
theorem Stt.turned {h h' : Heap} {a : Addr} {o o' : Obj} {l1 l2 : Mu} (S : Stt C k m (l1 ++ (a, o) :: l2) h) (hs : ∀ b o, b ≠ a → h.get? b = some o → h'.get? b = some o) (ho : h'.get? a = some o') : Stt C k m (l1 ++ (a, o') :: l2) h' := by
  have hmem : (a, o) ∈ l1 ++ (a, o) :: l2 := List.mem_append_right _ (.head _)
  have hnd := S.nd
  rw [List.map_append, List.map_cons, List.nodup_append] at hnd
  obtain ⟨n1, n2, n3⟩ := hnd
  have n2' := List.nodup_cons.mp n2
  have ne : ∀ b, C.own b → b ≠ a := fun b hb e => S.muown b hb _ hmem e.symm
  have old : ∀ p : Addr × Obj, p ∈ l1 ++ (a, o') :: l2 → p = (a, o') ∨ (p ∈ l1 ++ (a, o) :: l2 ∧ p.1 ≠ a) := by
    intro p hp
    rcases List.mem_append.mp hp with hp | hp
    · refine .inr ⟨List.mem_append_left _ hp, fun e => ?_⟩
      exact n3 p.1 (List.mem_map_of_mem hp) a (.head _) e
    · rcases List.mem_cons.mp hp with rfl | hp
      · exact .inl rfl
      · exact .inr ⟨List.mem_append_right _ (.tail _ hp), fun e => n2'.1 (List.mem_map.mpr ⟨p, hp, e⟩)⟩
  have adr : ∀ p : Addr × Obj, p ∈ l1 ++ (a, o') :: l2 → ∃ q ∈ l1 ++ (a, o) :: l2, q.1 = p.1 := by
    intro p hp
    rcases old p hp with rfl | ⟨h1, _⟩
    · exact ⟨_, hmem, rfl⟩
    · exact ⟨p, h1, rfl⟩
  obtain ⟨ml, hn, hm⟩ := S.loc
  refine ⟨S.ok, ⟨ml, hn.at fun o e => hs _ _ (ne _ (.inl rfl)) e, hm⟩, fun x c hx hc => ?_, S.fre, fun b ob e => hs b ob (fun q => by rw [q, S.bmu _ hmem] at e; cases e) (S.keep b ob e), fun b ob e => hs b ob (fun q => by rw [q, S.kmu _ hmem] at e; cases e) (S.kin b ob e), ?_, S.kown, ?_, ?_, ?_, ?_, S.ext, S.extb, ?_, S.kT, ?_⟩
  · obtain ⟨oc, h1, h2⟩ := S.cel x c hx hc
    exact ⟨oc, hs _ _ (ne _ (.inr ⟨x, hx, hc⟩)) h1, h2⟩
  · intro p hp
    rcases old p hp with rfl | ⟨h1, h2⟩
    · exact ho
    · exact hs _ _ h2 (S.own p h1)
  · intro b hb p hp
    obtain ⟨q, hq, e⟩ := adr p hp
    exact e ▸ S.muown b hb q hq
  · intro p hp; obtain ⟨q, hq, e⟩ := adr p hp; exact e ▸ S.kmu q hq
  · intro p hp; obtain ⟨q, hq, e⟩ := adr p hp; exact e ▸ S.bmu q hq
  · have := S.nd; rw [List.map_append, List.map_cons] at this ⊢; exact this
  · obtain ⟨ps, e⟩ := S.tab
    exact ⟨ps, hs _ _ (fun q => S.muT _ hmem q.symm) e⟩
  · intro p hp; obtain ⟨q, hq, e⟩ := adr p hp; exact e ▸ S.muT q hq
end
section
variable {C : Cx} {k : Kn} {m : Lm} {mu : Mu}
theorem Cx.Ok.done (o : C.Ok) (s : Shared) {h' : Heap} {tk : Nat} (e : h'.get? TB = s.heap.get? TB) : After C.G s { s with heap := h', toks := tk } := ⟨h', tk, s.gens, ⟨_, rfl⟩, o.refl _, TabG.of_eq e⟩

/-- a local stored -/
theorem Stt.locals {h h' : Heap} {x : Str} {v : Value} {ml : Lm} (S : Stt C k m mu h) (hn : h.Ns C.env.locals ml) (hm : ∀ y, C.env.kindOf y = some .local → ml y = m y) (hn' : h'.Ns C.env.locals (fun y => if y = x then some v else ml y)) (hs : Heap.SameBut C.env.locals h h') (hx : C.env.kindOf x = some .local) :
    Stt C k (fun y => if y = x then some v else m y) mu h' := by
  have ne : ∀ b, b ≠ C.env.locals → h'.get? b = h.get? b := hs.2
  refine ⟨S.ok, ⟨_, hn', fun y hy => by by_cases q : y = x <;> simp [q, hm y hy]⟩, fun y c hy hc => ?_, fun y c hy hk hc => ?_, fun b o e => (ne b fun q => by rw [q, S.ok.bown _ (.inl rfl)] at e; cases e).trans (S.keep b o e), fun b o e => (ne b fun q => by rw [q, S.kown _ (.inl rfl)] at e; cases e).trans (S.kin b o e), fun p hp => (ne _ (S.muown _ (.inl rfl) p hp)).trans (S.own p hp), S.kown, S.muown, S.kmu, S.bmu, S.nd, S.ext, S.extb, ?_, S.kT, S.muT⟩
  · have q : y ≠ x := fun q => by have z := S.ok.cellv y hy; rw [q, hx] at z; cases z
    simp only [if_neg q]
    obtain ⟨o, h1, h2⟩ := S.cel y c hy hc
    exact ⟨o, (ne _ (S.ok.cL y c hy hc)).trans h1, h2⟩
  · have q : y ≠ x := fun q => by rw [q, hx] at hk; rcases hk with hk | hk <;> cases hk
    simp only [if_neg q]
    exact S.fre y c hy hk hc
  · obtain ⟨ps, e⟩ := S.tab
    exact ⟨ps, (ne _ fun q => S.ok.ownT _ (.inl rfl) q.symm).trans e⟩

theorem Mt_store_L {x : Str} {v : Value} {Q : Unit → Kn → Lm → Mu → Prop} (h : Q () k (fun y => if y = x then some v else m y) mu) (hx : C.env.kindOf x = some .local := by rfl) : Mt C k m mu (storeName C.env x v) Q :=
  fun s A E hA S => by
    obtain ⟨ml, hn, hm⟩ := S.loc
    refine wpAny_storeName_local hx hn (fun h' hn' hs => ⟨k, _, mu, S.ok.done s (hs.2 _ fun q => S.ok.ownT _ (.inl rfl) q.symm), S.locals hn hm hn' hs hx, h⟩) ?_
    rw [S.ok.kind]; rfl

/-- a cell stored -/
theorem Mt_store_C {x : Str} {v : Value} {Q : Unit → Kn → Lm → Mu → Prop} (h : Q () k (fun y => if y = x then some v else m y) mu) (hx : x ∈ C.ownv) (hc : (C.env.cells.lookup x).isSome = true) : Mt C k m mu (storeName C.env x v) Q :=
  fun s A E hA S => by
    obtain ⟨c, hc⟩ := Option.isSome_iff_exists.mp hc
    refine wpAny_storeName_cell S.ok.kind (S.ok.cellv x hx) hc (S.cel x c hx hc) fun h' hv hs => ?_
    have ho : C.own c := .inr ⟨x, hx, hc⟩
    have ne : ∀ b, b ≠ c → h'.get? b = s.heap.get? b := hs.2
    obtain ⟨ml, hn, hm⟩ := S.loc
    have hxl : C.env.kindOf x ≠ some .local := fun e => by rw [S.ok.cellv x hx] at e; cases e
    refine ⟨k, fun y => if y = x then some v else m y, mu, ⟨h', s.toks, s.gens, ⟨_, rfl⟩, S.ok.refl _, TabG.of_eq (ne _ fun q => S.ok.ownT _ ho q.symm)⟩, ?_, h⟩
    refine ⟨S.ok, ⟨ml, hn.at fun o e => (ne _ (Ne.symm (S.ok.cL x c hx hc))).trans e, fun y hy => ?_⟩, fun y d hy hd => ?_, fun y d hy hk hd => ?_, fun b o e => (ne b fun q => by rw [q, S.ok.bown _ ho] at e; cases e).trans (S.keep b o e), fun b o e => (ne b fun q => by rw [q, S.kown _ ho] at e; cases e).trans (S.kin b o e), fun p hp => (ne _ (S.muown _ ho p hp)).trans (S.own p hp), S.kown, S.muown, S.kmu, S.bmu, S.nd, S.ext, S.extb, ?_, S.kT, S.muT⟩
    · have q : y ≠ x := fun q => hxl (q ▸ hy)
      simp only [if_neg q]; exact hm y hy
    · by_cases q : y = x
      · subst q
        rw [hc] at hd; cases hd
        simpa using hv
      · simp only [if_neg q]
        obtain ⟨o, h1, h2⟩ := S.cel y d hy hd
        refine ⟨o, (ne _ fun e => q ?_).trans h1, h2⟩
        subst e
        exact S.ok.capart y x d hy hx hd hc
    · have q : y ≠ x := fun q => hy (q ▸ hx)
      simp only [if_neg q]; exact S.fre y d hy hk hd
    · obtain ⟨ps, e⟩ := S.tab
      exact ⟨ps, (ne _ fun q => S.ok.ownT _ ho q.symm).trans e⟩

theorem Mt_bindName {x : Str} {v : Value} {Q : Unit → Kn → Lm → Mu → Prop} (h : Mt C k m mu (storeName C.env x v) Q) : Mt C k m mu (bindName C.env x v) Q :=
  fun s A E hA S => wpAny_bindName (h s A E hA S)
theorem Mt_bind_L {x : Str} {v : Value} {Q : Unit → Kn → Lm → Mu → Prop} (h : Q () k (fun y => if y = x then some v else m y) mu) (hx : C.env.kindOf x = some .local := by rfl) : Mt C k m mu (bindName C.env x v) Q := Mt_bindName (Mt_store_L h hx)

theorem Mt_load_L {x : Str} {v : Value} {Q : Value → Kn → Lm → Mu → Prop} (hv : m x = some v) (h : Q v k m mu) (hx : C.env.kindOf x = some .local := by rfl) : Mt C k m mu (loadName C.env x) Q :=
  fun s A E hA S => by
    obtain ⟨ml, hn, hm⟩ := S.loc
    exact wpAny_loadName_local S.ok.kind hx hn ((hm x hx).trans hv) ⟨k, m, mu, S.ok.after_refl s, S, h⟩
theorem Mt_load_C {x : Str} {v : Value} {Q : Value → Kn → Lm → Mu → Prop} (hv : m x = some v) (h : Q v k m mu) (hc : (C.env.cells.lookup x).isSome = true) (hx : C.env.kindOf x = some .cell := by rfl) : Mt C k m mu (loadName C.env x) Q :=
  fun s A E hA S => by
    obtain ⟨c, hc⟩ := Option.isSome_iff_exists.mp hc
    refine wpAny_loadName_cell S.ok.kind hx hc (v := v) ?_ ⟨k, m, mu, S.ok.after_refl s, S, h⟩
    by_cases q : x ∈ C.ownv
    · exact hv ▸ S.cel x c q hc
    · obtain ⟨o, h1, h2⟩ := S.fre x c q (.inl hx) hc
      exact ⟨o, S.keep _ _ h1, h2.trans (by rw [hv])⟩
theorem Mt_load_F {x : Str} {v : Value} {Q : Value → Kn → Lm → Mu → Prop} (hv : m x = some v) (h : Q v k m mu) (ho : x ∉ C.ownv) (hc : (C.env.cells.lookup x).isSome = true) (hx : C.env.kindOf x = some .free := by rfl) (hn : (x == ("__classdict__" : Str)) = false := by decide) : Mt C k m mu (loadName C.env x) Q :=
  fun s A E hA S => by
    obtain ⟨c, hc⟩ := Option.isSome_iff_exists.mp hc
    refine wpAny_loadName_free S.ok.kind hx hc (v := v) ?_ ⟨k, m, mu, S.ok.after_refl s, S, h⟩ hn
    obtain ⟨o, h1, h2⟩ := S.fre x c ho (.inr hx) hc
    exact ⟨o, S.keep _ _ h1, h2.trans (by rw [hv])⟩
theorem Mt_Name {x : Str} {pos : Pos} {Q : Value → Kn → Lm → Mu → Prop} (h : Mt C k m mu (loadName C.env x) Q) (hd : (x == ("__debug__" : Str)) = false := by decide) : Mt C k m mu (eval (.Name x pos) C.env) Q :=
  fun s A E hA S => wpAny_Name (h s A E hA S) hd
end
end Mine

-- LB
namespace Mine
section
variable {α β : Type} {C : Cx} {k : Kn} {m : Lm} {mu : Mu}

theorem Mt_map_bind {t : Sem α} {f : α → Sem β} {Q : β → Kn → Lm → Mu → Prop} (h : Mt C k m mu t (fun a k' m' mu' => Mt C k' m' mu' (f a) Q)) : Mt C k m mu (t.bind f) Q := Mt_bind h

theorem Mt_release {vs keep : List Value} {Q : Unit → Kn → Lm → Mu → Prop} (h : Q () k m mu) : Mt C k m mu (release vs keep) Q :=
  fun s A E hA S => wpAny_release ⟨k, m, mu, S.ok.after_refl s, S, h⟩
theorem Mt_operate {vs : List Value} {t : Sem Value} {Q : Value → Kn → Lm → Mu → Prop} (h : Mt C k m mu t Q) : Mt C k m mu (operate vs t) Q :=
  fun s A E hA S => wpAny_operate' (h s A E hA S)

/-! constants -/
theorem Mt_int {i : Int} {kd pos} {Q : Value → Kn → Lm → Mu → Prop} (h : ∀ t, Q (.int i t) k m mu) : Mt C k m mu (eval (.Constant (.int i) kd pos) C.env) Q :=
  fun s A E hA S => wpAny_Constant_int ⟨k, m, mu, ⟨s.heap, _, s.gens, ⟨_, rfl⟩, S.ok.refl _, TabG.refl _⟩, S, h _⟩
theorem Mt_mkInt {i : Int} {Q : Value → Kn → Lm → Mu → Prop} (h : ∀ t, Q (.int i t) k m mu) : Mt C k m mu (mkInt i) Q :=
  fun s A E hA S => wpAny_mkInt ⟨k, m, mu, ⟨s.heap, _, s.gens, ⟨_, rfl⟩, S.ok.refl _, TabG.refl _⟩, S, h _⟩
theorem Mt_str {x : Str} {kd pos} {Q : Value → Kn → Lm → Mu → Prop} (h : ∀ t, Q (.str x t) k m mu) : Mt C k m mu (eval (.Constant (.str x) kd pos) C.env) Q :=
  fun s A E hA S => by
    show wpAny _ _ (mkText x) _ _ _
    exact wpAny_mkText ⟨k, m, mu, ⟨s.heap, _, s.gens, ⟨_, rfl⟩, S.ok.refl _, TabG.refl _⟩, S, h _⟩
theorem Mt_bool {b : Bool} {kd pos} {Q : Value → Kn → Lm → Mu → Prop} (h : Q (.bool b) k m mu) : Mt C k m mu (eval (.Constant (.bool b) kd pos) C.env) Q := Mt_pure h
theorem Mt_none {kd pos} {Q : Value → Kn → Lm → Mu → Prop} (h : Q .none k m mu) : Mt C k m mu (eval (.Constant .none kd pos) C.env) Q := Mt_pure h

/-! operators -/
theorem Mt_BinOp {l op r pos} {Q : Value → Kn → Lm → Mu → Prop} (h : Mt C k m mu (eval l C.env) (fun a k m mu => Mt C k m mu (eval r C.env) (fun b k m mu => Mt C k m mu (binaryOp op a b) Q))) :
    Mt C k m mu (eval (.BinOp l op r pos) C.env) Q := by
  rw [eval_BinOp]
  exact Mt_bind (Mt_mono h fun a k m mu h => Mt_bind (Mt_holding (Mt_mono h fun b k m mu h => Mt_at (Mt_operate h))))
theorem Mt_Compare {l op r pos} {Q : Value → Kn → Lm → Mu → Prop} (h : Mt C k m mu (eval l C.env) (fun a k m mu => Mt C k m mu (eval r C.env) (fun b k m mu => Mt C k m mu (compareOp op a b) Q)))
    (hm : behindInMarks op r = false := by with_unfolding_all rfl) : Mt C k m mu (eval (.Compare l [op] [r] pos) C.env) Q := by
  rw [eval_Compare1, markedBehindIn_of_false hm]
  exact Mt_bind (Mt_mono h fun a k m mu h => Mt_bind (Mt_holding (Mt_mono h fun b k m mu h => Mt_at (Mt_operate h))))
theorem Mt_isTrue_Compare {l op r pos whole} {Q : Bool → Kn → Lm → Mu → Prop} (h : Mt C k m mu (eval l C.env) (fun a k m mu => Mt C k m mu (eval r C.env) (fun b k m mu => Mt C k m mu (compareOp op a b) (fun c k m mu => Mt C k m mu (truthy c) Q))))
    (hm : behindInMarks op r = false := by with_unfolding_all rfl) : Mt C k m mu (isTrue (.Compare l [op] [r] pos) C.env whole) Q := by
  rw [isTrue_Compare1, markedBehindIn_of_false hm]
  exact Mt_bind (Mt_mono h fun a k m mu h => Mt_bind (Mt_holding (Mt_mono h fun b k m mu h => Mt_at (Mt_bind (Mt_operate (Mt_mono h fun c k m mu h => Mt_holding h))))))
theorem Mt_isTrue_plain {e : PySem.Expr} {whole : Sem Value} {Q : Bool → Kn → Lm → Mu → Prop} (he : isTrue e C.env whole = (do let v ← whole; standAt e.pos; holding [v] (truthy v)))
    (h : Mt C k m mu whole (fun v k m mu => Mt C k m mu (truthy v) Q)) : Mt C k m mu (isTrue e C.env whole) Q := by
  rw [he]; exact Mt_bind (Mt_mono h fun v k m mu h => Mt_at (Mt_holding h))
theorem Mt_isTrue_not {x : PySem.Expr} {pos whole} {Q : Bool → Kn → Lm → Mu → Prop} (h : Mt C k m mu (isTrue x C.env (eval x C.env)) (fun b k m mu => Q (!b) k m mu)) : Mt C k m mu (isTrue (.UnaryOp .Not x pos) C.env whole) Q := by
  show Mt C k m mu (do return !(← isTrue x C.env (eval x C.env))) Q
  exact Mt_bind (Mt_mono h fun b k m mu h => Mt_pure h)
theorem Mt_isTrue_BoolOp {op vs pos whole} {Q : Bool → Kn → Lm → Mu → Prop} (h : Mt C k m mu (allTrue op vs C.env) Q) : Mt C k m mu (isTrue (.BoolOp op vs pos) C.env whole) Q := h
theorem Mt_allTrue_nil {op} {Q : Bool → Kn → Lm → Mu → Prop} (h : Q (op == .And) k m mu) : Mt C k m mu (allTrue op [] C.env) Q := Mt_pure h
theorem Mt_allTrue_and {x rest} {Q : Bool → Kn → Lm → Mu → Prop} (h : Mt C k m mu (isTrue x C.env (eval x C.env)) (fun b k m mu => if b = true then Mt C k m mu (allTrue .And rest C.env) Q else Q false k m mu)) : Mt C k m mu (allTrue .And (x :: rest) C.env) Q := by
  show Mt C k m mu (do match BoolOp.And, ← isTrue x C.env (eval x C.env) with | .And, false => pure false | .Or, true => pure true | _, _ => allTrue .And rest C.env) Q
  refine Mt_bind (Mt_mono h fun b k m mu h => ?_)
  cases b with
  | true => exact h
  | false => exact Mt_pure h
theorem Mt_allTrue_or {x rest} {Q : Bool → Kn → Lm → Mu → Prop} (h : Mt C k m mu (isTrue x C.env (eval x C.env)) (fun b k m mu => if b = true then Q true k m mu else Mt C k m mu (allTrue .Or rest C.env) Q)) : Mt C k m mu (allTrue .Or (x :: rest) C.env) Q := by
  show Mt C k m mu (do match BoolOp.Or, ← isTrue x C.env (eval x C.env) with | .And, false => pure false | .Or, true => pure true | _, _ => allTrue .Or rest C.env) Q
  refine Mt_bind (Mt_mono h fun b k m mu h => ?_)
  cases b with
  | true => exact Mt_pure h
  | false => exact h
theorem Mt_truthy_bool {b : Bool} {Q : Bool → Kn → Lm → Mu → Prop} (h : Q b k m mu) : Mt C k m mu (truthy (.bool b)) Q := fun s A E hA S => wpAny_truthy_bool ⟨k, m, mu, S.ok.after_refl s, S, h⟩
theorem Mt_IfExp {test body orelse pos} {Q : Value → Kn → Lm → Mu → Prop} (h : Mt C k m mu (isTrue test C.env (eval test C.env)) (fun b k m mu => if b = true then Mt C k m mu (eval body C.env) Q else Mt C k m mu (eval orelse C.env) Q)) : Mt C k m mu (eval (.IfExp test body orelse pos) C.env) Q := by
  show Mt C k m mu (do if ← isTrue test C.env (eval test C.env) then eval body C.env else eval orelse C.env) Q
  refine Mt_bind (Mt_mono h fun b k m mu h => ?_)
  cases b <;> exact h
theorem Mt_Tuple {elts kd pos} {Q : Value → Kn → Lm → Mu → Prop} (h : Mt C k m mu (spliced (backTo pos (starEach elts C.env))) (fun vs k m mu => Mt C k m mu (newTuple vs) Q)) : Mt C k m mu (eval (.Tuple elts kd pos) C.env) Q := by
  show Mt C k m mu (do standAt pos; newTuple (← spliced (backTo pos (starEach elts C.env)))) Q
  exact Mt_at (Mt_bind h)
theorem Mt_List {elts pos} {Q : Value → Kn → Lm → Mu → Prop} (h : Mt C k m mu (spliced (backTo pos (starEach elts C.env))) (fun vs k m mu => Mt C k m mu (newList vs) Q)) : Mt C k m mu (eval (.List elts pos) C.env) Q := by
  show Mt C k m mu (do standAt pos; newList (← spliced (backTo pos (starEach elts C.env)))) Q
  exact Mt_at (Mt_bind h)
theorem Mt_spliced_nil {pos} {Q : List Value → Kn → Lm → Mu → Prop} (h : Q [] k m mu) : Mt C k m mu (spliced (backTo pos (starEach [] C.env))) Q := Mt_pure h
theorem Mt_spliced_cons {e : PySem.Expr} {rest pos} {Q : List Value → Kn → Lm → Mu → Prop} (h : Mt C k m mu (eval e C.env) (fun v k m mu => Mt C k m mu (spliced (backTo pos (starEach rest C.env))) (fun vs k m mu => Q (v :: vs) k m mu)))
    (he : starEach (e :: rest) C.env = (false, eval e C.env) :: starEach rest C.env := by rfl) : Mt C k m mu (spliced (backTo pos (starEach (e :: rest) C.env))) Q := by
  rw [he]
  show Mt C k m mu (do
    let v ← eval e C.env
    let here ← if false = true then do
        if ← notIterableAtAll v then
          rule "star.not-iterable"; raiseError "TypeError" s!"Value after * must be an iterable, not {← typeNameOf v}"
        collect v
      else pure [v]
    return here ++ (← holding here (spliced (backTo pos (starEach rest C.env))))) Q
  refine Mt_bind (Mt_mono h fun v k m mu h => ?_)
  simp only [Bool.false_eq_true, if_false]
  exact Mt_bind (Mt_pure (Mt_bind (Mt_holding (Mt_mono h fun vs k m mu h => Mt_pure h))))

/-! subscripts -/
theorem Mt_letTemp {base : PySem.Expr} {o r : Value} {Q : Unit → Kn → Lm → Mu → Prop} (h : Q () k m mu) : Mt C k m mu (letTemporaryGo base o r) Q := by
  refine Mt_of (fun s A E R hA S hR => ?_) h
  exact wpAny_letTemporaryGo (hR s.toks)
end
end Mine

-- LC
namespace Mine

/-! frame-free trees -/
section
variable {α β : Type} {w : World} {n : Nat} {G : Gr} {k : Kn}
structure GOk (G : Gr) : Prop where
  refl : ∀ a, G a a
  trans : ∀ a b c, G a b → G b c → G a c

theorem GOk.aftR (g : GOk G) (s : Shared) : After G s s := ⟨s.heap, s.toks, s.gens, ⟨_, rfl⟩, g.refl _, TabG.refl _⟩
theorem GOk.aftT (g : GOk G) {s₁ s₂ s₃ : Shared} (x : After G s₁ s₂) (y : After G s₂ s₃) : After G s₁ s₃ := by
  obtain ⟨h, t, g1, ⟨_, rfl⟩, a, b⟩ := x
  obtain ⟨h', t', g', ⟨_, rfl⟩, a', b'⟩ := y
  exact ⟨h', t', g', ⟨_, rfl⟩, g.trans _ _ _ a a', b.trans b'⟩

theorem Ev_pure (g : GOk G) {a : α} {Q : α → Kn → Prop} (h : Q a k) : Ev w n G k (pure a) Q :=
  fun s A E hA hP hT hk hkT => wpAny_pure ⟨k, g.aftR s, Grow.refl _, hk, Kn.Le.refl _, fun _ _ _ => rfl, h⟩
theorem Ev_mono {t : Sem α} {Q Q' : α → Kn → Prop} (h : Ev w n G k t Q) (hq : ∀ a k', k.Le k' → Q a k' → Q' a k') : Ev w n G k t Q' :=
  fun s A E hA hP hT hk hkT => wpAny_mono (h s A E hA hP hT hk hkT) (fun a s' ⟨k', a1, a2, a3, a4, a5, a6⟩ => ⟨k', a1, a2, a3, a4, a5, hq _ _ a4 a6⟩) fun _ _ e => e
theorem Ev_le {n' : Nat} {t : Sem α} {Q : α → Kn → Prop} (h : Ev w n G k t Q) (hn : n ≤ n') : Ev w n' G k t Q :=
  fun s A E hA hP hT hk hkT => h s A E (hA.le hn) hP hT hk hkT
theorem Ev_G {G' : Gr} {t : Sem α} {Q : α → Kn → Prop} (h : Ev w n G k t Q) (hG : ∀ a b, G a b → G' a b) : Ev w n G' k t Q :=
  fun s A E hA hP hT hk hkT => wpAny_mono (h s A E hA hP hT hk hkT) (fun a s' ⟨k', ⟨h', tk, g', e, x, y⟩, a2⟩ => ⟨k', ⟨h', tk, g', e, hG _ _ x, y⟩, a2⟩) fun _ _ e => e
theorem Ev_bind (g : GOk G) {t : Sem α} {f : α → Sem β} {Q : β → Kn → Prop} (h : Ev w n G k t (fun a k' => Ev w n G k' (f a) Q)) : Ev w n G k (t >>= f) Q :=
  fun s A E hA hP hT hk hkT => wpAny_bind (wpAny_mono (h s A E hA hP hT hk hkT) (fun a s' ⟨k', af, gr, kin, le, old, q⟩ => by
    have tg : TabG s.heap s'.heap := by obtain ⟨_, _, _, ⟨_, rfl⟩, _, x⟩ := af; exact x
    refine wpAny_mono (q s' A E hA (hP.grow gr) (tg.ok hT) kin ?_) (fun b s'' ⟨k'', af', gr', kin', le', old', q'⟩ => ⟨k'', g.aftT af af', gr.trans gr', kin', le.trans le', fun b o e => ?_, q'⟩) fun _ _ e => e
    · obtain ⟨ps, e⟩ := hT
      exact (old _ _ e).trans hkT
    · by_cases hb : b = TB
      · subst hb
        obtain ⟨ps, e⟩ := tg.ok hT
        exact (old' _ _ e).trans (old _ _ ‹_›)
      · exact (old' _ _ (gr b o hb e)).trans (old b o e)) fun _ _ e => e)
theorem Ev_of (g : GOk G) {t : Sem α} {a : α} {Q : α → Kn → Prop}
    (h : ∀ (s : Shared) (A : Around) (E : Value → Shared → Prop) (R : α → Shared → Prop), OkA n A → Prog w s.heap → k.In s.heap → (∀ tk, R a { s with toks := tk }) → wpAny (model P w) A t R E s)
    (hq : Q a k) : Ev w n G k t Q :=
  fun s A E hA hP hT hk hkT => h s A E _ hA hP hk fun tk => ⟨k, ⟨s.heap, tk, s.gens, ⟨_, rfl⟩, g.refl _, TabG.refl _⟩, Grow.refl _, hk, Kn.Le.refl _, fun _ _ _ => rfl, hq⟩
theorem Ev_holding {vs : List Value} {t : Sem α} {Q : α → Kn → Prop} (h : Ev w n G k t Q) : Ev w n G k (holding vs t) Q :=
  fun s A E hA hP hT hk hkT => wpAny_holding (h s A E hA hP hT hk hkT)
end

/-! the text's own defs -/
def bm (binds : List (Str × Value)) : Lm := fun x => binds.reverse.lookup x
theorem bindL_bm (kindOf : Str → Option NameKind) (x : Str) (hx : kindOf x = some .local) : ∀ (binds : List (Str × Value)) (m : Lm), bindL kindOf binds m x = (bm binds x).or (m x)
  | [], m => by simp [bindL, bm]
  | (y, v) :: r, m => by
    rw [bindL, bindL_bm kindOf x hx r]
    unfold bm
    rw [List.reverse_cons, List.lookup_append]
    cases h : r.reverse.lookup x with
    | some u => simp
    | none =>
      by_cases q : x = y
      · subst q; simp [hx]
      · have : (x == y) = false := by simpa using q
        by_cases hy : kindOf y = some .local <;> simp [hy, List.lookup_cons, this, q]
theorem bindC_bm (kindOf : Str → Option NameKind) (x : Str) (hx : kindOf x ≠ some .local) : ∀ (binds : List (Str × Value)) (m : Lm), bindC kindOf binds m x = (bm binds x).or (m x)
  | [], m => by simp [bindC, bm]
  | (y, v) :: r, m => by
    rw [bindC, bindC_bm kindOf x hx r]
    unfold bm
    rw [List.reverse_cons, List.lookup_append]
    cases h : r.reverse.lookup x with
    | some u => simp
    | none =>
      by_cases q : x = y
      · subst q; simp [hx]
      · have : (x == y) = false := by simpa using q
        by_cases hy : kindOf y = some .local <;> simp [hy, List.lookup_cons, this, q]

theorem cellsFrom_names' : ∀ (names : List (Str × NameKind)) (n : Nat) (acc : List (Str × Addr)) (x : Str) (c : Addr), (x, c) ∈ cellsFrom n names acc → (x, c) ∈ acc ∨ (x, .cell) ∈ names
  | [], _, _, _, _, h => .inl h
  | (y, kd) :: r, n, acc, x, c, h => by
    unfold cellsFrom at h
    split at h
    · rename_i hk
      have hk' : kd = .cell := by simpa using hk
      subst hk'
      rcases cellsFrom_names' r _ _ x c h with h | h
      · rcases List.mem_cons.mp h with e | h
        · cases e; exact .inr (.head _)
        · exact .inl h
      · exact .inr (.tail _ h)
    · rcases cellsFrom_names' r _ _ x c h with h | h
      · exact .inl h
      · exact .inr (.tail _ h)

def cellNames (sc : Scope) : List Str := (sc.names.filter fun x => x.2 == .cell).map (·.1)
theorem mem_cellNames {sc : Scope} {x : Str} : x ∈ cellNames sc ↔ (x, NameKind.cell) ∈ sc.names := by
  unfold cellNames
  simp only [List.mem_map, List.mem_filter]
  constructor
  · rintro ⟨⟨y, kd⟩, ⟨h1, h2⟩, rfl⟩
    have : kd = .cell := by simpa using h2
    subst this; exact h1
  · intro h; exact ⟨(x, .cell), ⟨h, rfl⟩, rfl⟩

/-- the frame of a call of a def -/
abbrev fenv (qual : Str) (sc : Scope) (cdv : Value) (L a : Addr) : Env :=
  { scope := sc, locals := L, globals := mainGlobals, cells := cellsFrom (L + 1) sc.names [], qual := qual ++ ".<locals>.", func := some a, code := cdv, frame := some L, builtins := builtinsNs }
abbrev fcx (w : World) (n : Nat) (G : Gr) (k0 : Kn) (qual : Str) (sc : Scope) (cdv : Value) (a L : Addr) (base : Heap) : Cx :=
  ⟨w, n, fenv qual sc cdv L a, base, k0, G, cellNames sc⟩
def retv : Flow → Value
  | .ret v => v
  | _ => .none

theorem stt_enterM {w : World} {n : Nat} {G : Gr} {k : Kn} {mu : Mu} {qual : Str} {sc : Scope} {cdv : Value} {a : Addr} {s s' : Shared} {binds : List (Str × Value)} (g : GOk G)
    (hP : Prog w (hideAll s.heap (TB :: mu.map (·.1)))) (hT : TabOk s.heap) (hk : k.In s.heap) (hkT : k TB = none) (hmu : ∀ p ∈ mu, s.heap.get? p.1 = some p.2) (hkmu : ∀ p ∈ mu, k p.1 = none) (hnd : (mu.map (·.1)).Nodup) (hmT : ∀ p ∈ mu, p.1 ≠ TB)
    (hkd : sc.kind = .function) (hcv : ∀ x ∈ cellNames sc, sc.names.lookup x = some .cell)
    (x : InCallC s (fenv qual sc cdv s.heap.objs.size a).locals (bindL (fenv qual sc cdv s.heap.objs.size a).kindOf binds fun _ => none) (fenv qual sc cdv s.heap.objs.size a).cells (bindC (fenv qual sc cdv s.heap.objs.size a).kindOf binds fun _ => none) s') :
    Stt (fcx w n G k qual sc cdv a s.heap.objs.size (hideAll s.heap (TB :: mu.map (·.1)))) k (bm binds) mu s'.heap := by
  have keep := x.toInCall.keep
  have sub : (hideAll s.heap (TB :: mu.map (·.1))).StaysIn s.heap := fun b o e => of_hideAll _ e
  have fresh : ∀ b, s.heap.objs.size ≤ b → s.heap.get? b = none := fun b hb => by
    cases e : s.heap.get? b with
    | none => rfl
    | some o => exact absurd (Heap.lt_size e) (Nat.not_lt.mpr hb)
  have own : ∀ b, (fcx w n G k qual sc cdv a s.heap.objs.size (hideAll s.heap (TB :: mu.map (·.1)))).own b → s.heap.objs.size ≤ b := by
    rintro b (rfl | ⟨y, hy, hc⟩)
    · exact Nat.le_refl _
    · exact Nat.le_of_lt (x.above y b (mem_of_lookup hc))
  have hlT : TB < s.heap.objs.size := let ⟨_, e⟩ := hT; Heap.lt_size e
  have knone : ∀ b, s.heap.objs.size ≤ b → k b = none := fun b hb => by
    cases e : k b with
    | none => rfl
    | some o => exact absurd (hk b o e) (by rw [fresh b hb]; simp)
  have notmu : ∀ b o, k b = some o → b ∉ TB :: mu.map (·.1) := fun b o e hm => by
    rcases List.mem_cons.mp hm with rfl | hm
    · rw [hkT] at e; cases e
    · obtain ⟨p, hp, rfl⟩ := List.mem_map.mp hm
      rw [hkmu p hp] at e; cases e
  refine ⟨⟨g.refl, g.trans, hP, fun b o e => ?_, hideAll_none _ (.head _), hkd, fun b hb => ?_, fun b hb q => ?_, fun y c hy hc q => ?_, fun y z c hy hz hc hd => ?_, fun y hy => hcv y hy⟩,
    ⟨_, x.toInCall.ns, fun y hy => ?_⟩, fun y c hy hc => ?_, fun y c hy hkk hc => ?_, fun b o e => keep b o (sub b o e), fun b o e => keep b o (hk b o e), fun p hp => keep _ _ (hmu p hp), fun b hb => knone b (own b hb), fun b hb p hp q => ?_, hkmu, fun p hp => hideAll_none _ (.tail _ (List.mem_map_of_mem hp)), hnd, Kn.Le.refl _, fun b o e => rfl, ?_, hkT, hmT⟩
  · have e' : k b = some o := e
    exact hideAll_get _ (hk b o e') (notmu b o e')
  · show (hideAll s.heap (TB :: mu.map (·.1))).get? b = none
    cases e : (hideAll s.heap (TB :: mu.map (·.1))).get? b with
    | none => rfl
    | some o => have := sub b o e; rw [fresh b (own b hb)] at this; cases this
  · have := own b hb; rw [q] at this; exact absurd hlT (Nat.not_lt.mpr this)
  · have := x.above y c (mem_of_lookup hc); rw [q] at this; exact Nat.lt_irrefl _ this
  · exact name_of_addr x.apart (mem_of_lookup hc) (mem_of_lookup hd)
  · rw [bindL_bm _ _ hy]; simp
  · have := x.cell y c hc
    rw [bindC_bm _ _ (by show sc.names.lookup y ≠ _; rw [hcv y hy]; simp)] at this
    simpa using this
  · rcases cellsFrom_names' _ _ _ _ _ (mem_of_lookup hc) with h | h
    · cases h
    · exact absurd (mem_cellNames.mpr h) hy
  · have := own b hb; exact absurd (Heap.lt_size (hmu p hp)) (by rw [q]; exact Nat.not_lt.mpr this)
  · obtain ⟨ps, e⟩ := hT
    exact ⟨ps, keep _ _ e⟩

theorem Prog.hide {w : World} {h : Heap} (hP : Prog w h) : Prog w (hideAll h [TB]) := by
  obtain ⟨hb, p, lo, me, mg, mb, a1, a2, a3, a4⟩ := hP.ex
  exact ⟨hb, p, lo, me, mg, mb, a1, a2, a3, fun b o e => hideAll_get _ (a4 b o e) (fun q => by rw [List.mem_singleton.mp q, a3] at e; cases e)⟩

/-- a tree that belongs to no frame and may turn the objects that it is handed -/
def Mv {α : Type} (w : World) (n : Nat) (G : Gr) (k : Kn) (mu : Mu) (t : Sem α) (Q : α → Kn → Mu → Prop) : Prop :=
  ∀ (s : Shared) (A : Around) (E : Value → Shared → Prop), OkA n A → Prog w (hideAll s.heap (TB :: mu.map (·.1))) → TabOk s.heap → k.In s.heap → k TB = none → (∀ p ∈ mu, s.heap.get? p.1 = some p.2) → (∀ p ∈ mu, k p.1 = none) → (mu.map (·.1)).Nodup → (∀ p ∈ mu, p.1 ≠ TB) →
    wpAny (model P w) A t (fun a s' => ∃ k' mu', After G s s' ∧ (∀ b o, b ∉ TB :: mu.map (·.1) → s.heap.get? b = some o → s'.heap.get? b = some o) ∧ k'.In s'.heap ∧ k.Le k' ∧ (∀ b o, b ∉ mu.map (·.1) → s.heap.get? b = some o → k' b = k b) ∧ (mu'.map (·.1)).Nodup ∧ (∀ p ∈ mu', s'.heap.get? p.1 = some p.2 ∧ k' p.1 = none ∧ p.1 ≠ TB ∧ (p.1 ∈ mu.map (·.1) ∨ s.heap.get? p.1 = none)) ∧ Q a k' mu') E s

theorem Mv_defC {w : World} {n : Nat} {G : Gr} {k : Kn} {mu : Mu} {fa : Addr} {fo : Obj} {fd : FuncData} {body : List Stmt} {qual : Str} {sc : Scope} {cdv : Value} {pos : List Value} {kw : List (Str × Value)} {Q : Value → Kn → Mu → Prop} (g : GOk G)
    (hl : (KF w).lookup fa = some fo) (hd : fo.data = .func fd) (hb : fd.body = .stmts body) (hs : fd.scope = sc) (hq : fd.qualname = qual) (hc : fd.code = cdv) (hclo : fd.closure = []) (hgl : fd.globals = mainGlobals) (hbi : fd.builtins = builtinsNs) (hcd : codeIn (KF w) cdv qual = true)
    (hco : sc.isCoroutine = false) (hgen : sc.isGenerator = false) (hkd : sc.kind = .function) (hcv : ∀ x ∈ cellNames sc, sc.names.lookup x = some .cell)
    (h : Ev w n G k (bindArgs fd ⟨pos, kw⟩) (fun binds k' => ((binds.all fun y => sc.names.lookup y.1 == some .local || sc.names.lookup y.1 == some .cell) = true) ∧
      ∀ (base : Heap) (L : Addr), Mt (fcx w n G k' qual sc cdv fa L base) k' (bm binds) mu (execs body (fenv qual sc cdv L fa)) (fun f k'' _ mu' => ∃ mu1, mu1.Sublist mu' ∧ Q (retv f) k'' mu1)))
    {s : Shared} {A : Around} {R : Result → Shared → Prop} (hA : OkA (n + 1) A) (hP : Prog w (hideAll s.heap (TB :: mu.map (·.1)))) (hT : TabOk s.heap) (hk : k.In s.heap) (hkT : k TB = none) (hmu : ∀ p ∈ mu, s.heap.get? p.1 = some p.2) (hkmu : ∀ p ∈ mu, k p.1 = none) (hnd : (mu.map (·.1)).Nodup) (hmT : ∀ p ∈ mu, p.1 ≠ TB)
    (hR : ∀ v s', (∃ k' mu', After G s s' ∧ (∀ b o, b ∉ TB :: mu.map (·.1) → s.heap.get? b = some o → s'.heap.get? b = some o) ∧ k'.In s'.heap ∧ k.Le k' ∧ (∀ b o, b ∉ mu.map (·.1) → s.heap.get? b = some o → k' b = k b) ∧ (mu'.map (·.1)).Nodup ∧ (∀ p ∈ mu', s'.heap.get? p.1 = some p.2 ∧ k' p.1 = none ∧ p.1 ≠ TB ∧ (p.1 ∈ mu.map (·.1) ∨ s.heap.get? p.1 = none)) ∧ Q v k' mu') → R (.ok (.ret v)) s') : codeAny (model P w) A (.call (.ref fa) ⟨pos, kw⟩) R s := by
  have subP : (hideAll s.heap (TB :: mu.map (·.1))).StaysIn s.heap := fun b o e => of_hideAll _ e
  have hP' : Prog w s.heap := hP.grow fun b o _ e => subP b o e
  have ho := hP'.K fa fo hl
  refine codeAny_call_function hA.room ho hd (by rw [hs]; exact hco) (by rw [hs]; exact hgen) hb (by rw [hc, hq]; exact codeRec_of hP'.K hcd) ?_
  refine wpAny_mono (h s A.in1 _ hA.in1 hP' hT hk hkT) (fun binds s₁ ⟨k', af, gr, kin, le, old, hbk, bodyOk⟩ => ?_) fun _ _ e => e
  have tg : TabG s.heap s₁.heap := by obtain ⟨_, _, _, ⟨_, rfl⟩, _, x⟩ := af; exact x
  have hT₁ := tg.ok hT
  have hkT₁ : k' TB = none := by
    obtain ⟨ps, e⟩ := hT
    exact (old _ _ e).trans hkT
  have nin : ∀ b, b ∉ TB :: mu.map (·.1) → b ≠ TB := fun b hb q => hb (q ▸ .head _)
  have hP₁ : Prog w (hideAll s₁.heap (TB :: mu.map (·.1))) := hP.grow fun b o hbT e => by
    have hn : b ∉ TB :: mu.map (·.1) := fun hm => by rw [hideAll_none _ hm] at e; cases e
    exact hideAll_get _ (gr b o hbT (subP b o e)) hn
  rw [hs, hq, hc, hclo, hgl, hbi]
  refine wpAny_newFunctionEnv_cells hkd (kindsX hbk _) fun env' he s₂ x => ?_
  subst he
  have S := stt_enterM (w := w) (n := n) (cdv := cdv) (a := fa) (qual := qual) (mu := mu) g hP₁ hT₁ kin hkT₁ (fun p hp => gr _ _ (hmT p hp) (hmu p hp)) (fun p hp => (old _ _ (hmu p hp)).trans (hkmu p hp)) hnd hmT hkd hcv x
  obtain ⟨h₂, tk₂, rfl, keep⟩ := x.done
  refine ⟨(hP₁.grow fun b o _ e => of_hideAll _ e).nolimit.keeps keep, codeAny_func ?_⟩
  refine wpAny_mono (bodyOk _ _ _ (A.deeper _) _ (hA.deeper _) S) (fun f s₃ ⟨k₃, m₃, mu₃, af₃, S₃, mu1, i1, q⟩ => ?_) fun _ _ e => e
  have fin : ∀ v, Q v k₃ mu1 → ∃ k' mu', After G s s₃ ∧ (∀ b o, b ∉ TB :: mu.map (·.1) → s.heap.get? b = some o → s₃.heap.get? b = some o) ∧ k'.In s₃.heap ∧ k.Le k' ∧ (∀ b o, b ∉ mu.map (·.1) → s.heap.get? b = some o → k' b = k b) ∧ (mu'.map (·.1)).Nodup ∧ (∀ p ∈ mu', s₃.heap.get? p.1 = some p.2 ∧ k' p.1 = none ∧ p.1 ≠ TB ∧ (p.1 ∈ mu.map (·.1) ∨ s.heap.get? p.1 = none)) ∧ Q v k' mu' := by
    intro v hv
    refine ⟨k₃, mu1, ?_, ?_, S₃.kin, le.trans S₃.ext, ?_, (i1.map _).nodup S₃.nd, fun p hp => ?_, hv⟩
    · refine g.aftT af (g.aftT ?_ af₃)
      exact ⟨h₂, tk₂, s₁.gens, ⟨_, rfl⟩, g.refl _, fun ps e => (keep _ _ e)⟩
    · intro b o hb e
      exact S₃.keep b o (hideAll_get _ (gr b o (nin b hb) e) hb)
    · intro b o hb e
      by_cases hbT : b = TB
      · subst hbT; rw [S₃.kT, hkT]
      · have hb' : b ∉ TB :: mu.map (·.1) := fun hm => (List.mem_cons.mp hm).elim hbT hb
        rw [S₃.extb b o (hideAll_get _ (gr b o (nin b hb') e) hb')]
        exact old b o e
    · have hp' := i1.subset hp
      refine ⟨S₃.own p hp', S₃.kmu p hp', S₃.muT p hp', ?_⟩
      by_cases hm : p.1 ∈ mu.map (·.1)
      · exact .inl hm
      · refine .inr ?_
        cases e : s.heap.get? p.1 with
        | none => rfl
        | some o =>
          have hb' : p.1 ∉ TB :: mu.map (·.1) := fun h => (List.mem_cons.mp h).elim (S₃.muT p hp') hm
          have := S₃.bmu p hp'
          rw [show (hideAll s₁.heap (TB :: mu.map (·.1))).get? p.1 = some o from hideAll_get _ (gr _ o (nin _ hb') e) hb'] at this
          cases this
  cases f <;> exact hR _ _ (fin _ q)

theorem Mv_def {w : World} {n : Nat} {G : Gr} {k : Kn} {mu : Mu} {fa : Addr} {fo : Obj} {fd : FuncData} {body : List Stmt} {qual : Str} {sc : Scope} {cdv : Value} {pos : List Value} {kw : List (Str × Value)} {Q : Value → Kn → Mu → Prop} (g : GOk G)
    (hl : (KF w).lookup fa = some fo) (hd : fo.data = .func fd) (hb : fd.body = .stmts body) (hs : fd.scope = sc) (hq : fd.qualname = qual) (hc : fd.code = cdv) (hclo : fd.closure = []) (hgl : fd.globals = mainGlobals) (hbi : fd.builtins = builtinsNs) (hcd : codeIn (KF w) cdv qual = true)
    (hco : sc.isCoroutine = false) (hgen : sc.isGenerator = false) (hkd : sc.kind = .function) (hcv : ∀ x ∈ cellNames sc, sc.names.lookup x = some .cell)
    (h : Ev w n G k (bindArgs fd ⟨pos, kw⟩) (fun binds k' => ((binds.all fun y => sc.names.lookup y.1 == some .local || sc.names.lookup y.1 == some .cell) = true) ∧
      ∀ (base : Heap) (L : Addr), Mt (fcx w n G k' qual sc cdv fa L base) k' (bm binds) mu (execs body (fenv qual sc cdv L fa)) (fun f k'' _ mu' => ∃ mu1, mu1.Sublist mu' ∧ Q (retv f) k'' mu1))) :
    Mv w (n + 1) G k mu (call (.ref fa) pos kw) Q := fun s A E hA hP hT hk hkT hmu hkmu hnd hmT =>
  wpAny_call (Mv_defC g hl hd hb hs hq hc hclo hgl hbi hcd hco hgen hkd hcv h hA hP hT hk hkT hmu hkmu hnd hmT fun v s' hq => hq)

theorem Ev_of_Mv {α : Type} {w : World} {n : Nat} {G : Gr} {k : Kn} {t : Sem α} {Q : α → Kn → Prop} (h : Mv w n G k [] t (fun a k' _ => Q a k')) : Ev w n G k t Q := fun s A E hA hP hT hk hkT =>
  wpAny_mono (h s A E hA hP.hide hT hk hkT (fun p hp => (nomatch hp)) (fun p hp => (nomatch hp)) List.nodup_nil (fun p hp => (nomatch hp))) (fun a s' ⟨k', mu', a1, a2, a3, a4, a5, _, _, q⟩ => ⟨k', a1, fun b o hb e => a2 b o (by simpa using hb) e, a3, a4, fun b o e => a5 b o (by simp) e, q⟩) fun _ _ e => e

theorem Ev_def {w : World} {n : Nat} {G : Gr} {k : Kn} {fa : Addr} {fo : Obj} {fd : FuncData} {body : List Stmt} {qual : Str} {sc : Scope} {cdv : Value} {pos : List Value} {kw : List (Str × Value)} {Q : Value → Kn → Prop} (g : GOk G)
    (hl : (KF w).lookup fa = some fo) (hd : fo.data = .func fd) (hb : fd.body = .stmts body) (hs : fd.scope = sc) (hq : fd.qualname = qual) (hc : fd.code = cdv) (hclo : fd.closure = []) (hgl : fd.globals = mainGlobals) (hbi : fd.builtins = builtinsNs) (hcd : codeIn (KF w) cdv qual = true)
    (hco : sc.isCoroutine = false) (hgen : sc.isGenerator = false) (hkd : sc.kind = .function) (hcv : ∀ x ∈ cellNames sc, sc.names.lookup x = some .cell)
    (h : Ev w n G k (bindArgs fd ⟨pos, kw⟩) (fun binds k' => ((binds.all fun y => sc.names.lookup y.1 == some .local || sc.names.lookup y.1 == some .cell) = true) ∧
      ∀ (base : Heap) (L : Addr), Mt (fcx w n G k' qual sc cdv fa L base) k' (bm binds) [] (execs body (fenv qual sc cdv L fa)) (fun f k'' _ _ => Q (retv f) k''))) :
    Ev w (n + 1) G k (call (.ref fa) pos kw) Q :=
  Ev_of_Mv (Mv_def g hl hd hb hs hq hc hclo hgl hbi hcd hco hgen hkd hcv (Ev_mono h fun binds k' _ ⟨h1, h2⟩ => ⟨h1, fun base L => Mt_mono (h2 base L) fun f k'' m' mu' q => ⟨[], List.nil_sublist _, q⟩⟩))
end Mine

-- LD
namespace Mine
section
variable {α β : Type} {C : Cx} {k : Kn} {m : Lm} {mu : Mu} {Q : Flow → Kn → Lm → Mu → Prop}

theorem Mt_nil (h : Q .next k m mu) : Mt C k m mu (execs [] C.env) Q := Mt_pure h
theorem Mt_cons {st rest} (h : Mt C k m mu (exec st C.env) (fun f k m mu => match f with | .next => Mt C k m mu (execs rest C.env) Q | f => Q f k m mu)) : Mt C k m mu (execs (st :: rest) C.env) Q := by
  rw [execs_cons]
  refine Mt_bind (Mt_mono h fun f k m mu h => ?_)
  cases f <;> first | exact h | exact Mt_pure h
theorem Mt_Return {e pos} (h : Mt C k m mu (eval e C.env) (fun v k m mu => Q (.ret v) k m mu)) : Mt C k m mu (exec (.Return (some e) pos) C.env) Q := by
  rw [exec_Return_some]
  exact Mt_at (Mt_bind (Mt_mono h fun v k m mu h => Mt_pure h))
theorem Mt_Pass {pos} (h : Q .next k m mu) : Mt C k m mu (exec (.Pass pos) C.env) Q := Mt_at (Mt_pure h)
theorem Mt_Break {pos} (h : Q .brk k m mu) : Mt C k m mu (exec (.Break pos) C.env) Q := by
  show Mt C k m mu (do standAt pos; pure Flow.brk) Q
  exact Mt_at (Mt_pure h)
theorem Mt_Assign {x pos' value pos} (h : Mt C k m mu (eval value C.env) (fun v k m mu => Mt C k m mu (storeName C.env x v) (fun _ k m mu => Q .next k m mu)))
    (hs : swapsWith value (some (.Name x pos')) pos.line C.env = pure false := by rfl) : Mt C k m mu (exec (.Assign [.Name x pos'] value pos) C.env) Q := by
  rw [exec_Assign_Name C.env x pos' value pos hs]
  exact Mt_at (Mt_bind (Mt_mono h fun v k m mu h => Mt_at (Mt_bind (Mt_bindName (Mt_mono h fun _ k m mu h => Mt_pure h)))))
theorem Mt_AugAssign {x pos' op value pos} (h : Mt C k m mu (loadName C.env x) (fun old k m mu => Mt C k m mu (eval value C.env) (fun v k m mu => Mt C k m mu (inplaceOp op old v) (fun r k m mu => Mt C k m mu (storeName C.env x r) (fun _ k m mu => Q .next k m mu))))) :
    Mt C k m mu (exec (.AugAssign (.Name x pos') op value pos) C.env) Q := by
  rw [exec_AugAssign_Name]
  exact Mt_at (Mt_bind (Mt_mono h fun old k m mu h => Mt_bind (Mt_holding (Mt_mono h fun v k m mu h => Mt_at (Mt_bind (Mt_operate (Mt_mono h fun r k m mu h => Mt_at (Mt_bind (Mt_bindName (Mt_mono h fun _ k m mu h => Mt_pure h))))))))))
theorem Mt_If {test body orelse pos} (h : Mt C k m mu (isTrue test C.env (eval test C.env)) (fun b k m mu => if b = true then Mt C k m mu (execs body C.env) Q else Mt C k m mu (execs orelse C.env) Q)) : Mt C k m mu (exec (.If test body orelse pos) C.env) Q := by
  rw [exec_If]
  refine Mt_at (Mt_bind (Mt_mono h fun b k m mu h => ?_))
  cases b <;> exact h
theorem Mt_Expr {e pos} (hi : interactive C.env = false) (h : Mt C k m mu (eval e C.env) (fun v k m mu => v = .none ∧ Q .next k m mu)) (hs : swapsWith e none pos.line C.env = pure false := by rfl) : Mt C k m mu (exec (.Expr e pos) C.env) Q := by
  rw [exec_Expr C.env e pos hi hs]
  refine Mt_at (Mt_bind (Mt_mono h fun v k m mu h => ?_))
  obtain ⟨rfl, h⟩ := h
  rw [dropValue_plain (by intro a e; cases e)]
  exact Mt_pure h
theorem Mt_Assert {test msg pos} (h : Mt C k m mu (isTrue test C.env (eval test C.env)) (fun b k m mu => b = true ∧ Q .next k m mu)) : Mt C k m mu (exec (.Assert test msg pos) C.env) Q := by
  show Mt C k m mu (do standAt pos; if ← isTrue test C.env (eval test C.env) then pure .next else assertFails test.pos (evalOpt msg C.env)) Q
  refine Mt_at (Mt_bind (Mt_mono h fun b k m mu h => ?_))
  obtain ⟨rfl, h⟩ := h
  exact Mt_pure h
theorem Mt_assign_Name {x pos v} {Q : Unit → Kn → Lm → Mu → Prop} (h : Mt C k m mu (storeName C.env x v) Q) : Mt C k m mu (assign (.Name x pos) C.env v) Q := by
  rw [PySem.assign_Name]; exact Mt_at (Mt_bindName h)

/-- a code that runs in this frame and comes back -/
def MtC (C : Cx) (k : Kn) (m : Lm) (mu : Mu) (c : Code) (Q : Flow → Kn → Lm → Mu → Prop) : Prop :=
  ∀ (s : Shared) (A : Around), OkA C.n A → Stt C k m mu s.heap →
    codeAny (model P C.w) A c (fun r s' => match r with | .ok f => ∃ k' m' mu', After C.G s s' ∧ Stt C k' m' mu' s'.heap ∧ Q f k' m' mu' | .error _ => False) s

theorem Mt_runOwn {c : Code} (h : MtC C k m mu c Q) : Mt C k m mu (runOwn c C.env) Q := fun s A E hA S => by
  refine wpAny_runOwn (codeAny_mono (h s (A.mark none) ⟨hA.handled, hA.depth, hA.units⟩ S) fun r s' hr => ?_)
  cases r with
  | ok f => exact hr
  | error e => exact hr.elim

theorem Mt_onRaise {t : Sem α} {f : Value → Sem Unit} {Q : α → Kn → Lm → Mu → Prop} (h : Mt C k m mu t Q) : Mt C k m mu (t.onRaise f) Q :=
  fun s A E hA S => wpAny_onRaise (h s A _ hA S)
theorem Mt_tryCatch {t : Sem α} {f : Value → Sem α} {Q : α → Kn → Lm → Mu → Prop} (h : Mt C k m mu t Q) : Mt C k m mu (tryCatch t f) Q :=
  fun s A E hA S => wpAny_tryCatch (h s A _ hA S)
theorem Mt_attempt {t : Sem α} {Q : Except Value α → Kn → Lm → Mu → Prop} (h : Mt C k m mu t (fun a => Q (.ok a))) : Mt C k m mu t.attempt Q :=
  fun s A E hA S => wpAny_attempt (wpAny_mono (h s A (fun _ _ => False) hA S) (fun _ _ q => q) fun _ _ e => e.elim)

theorem MtC_loop {c : Code} {t : Sem Fin} (hq : c.quiet = true) (hu : ∀ A : Around, A.under c = A) (hden : ∀ w, (model P w).den c = t.onRaise fun x => do noteFrame x C.env; theTreesLotGoes x)
    (I : Nat → Kn → Lm → Mu → Prop)
    (turn : ∀ n k m mu, I n k m mu → Mt C k m mu t (fun fin k m mu => match fin with | .done f => Q f k m mu | .again c' => (c' = c ∧ ∃ n', n' < n ∧ I n' k m mu) ∨ (c'.quiet = true ∧ MtC C k m mu c' Q)))
    (n : Nat) (h : I n k m mu) : MtC C k m mu c Q := fun s A hA S => by
  have ok := S.ok
  refine codeAny_loop' hq (fun n s' => ∃ k m mu, After C.G s s' ∧ Stt C k m mu s'.heap ∧ I n k m mu) ?_ n ⟨k, m, mu, ok.after_refl s, S, h⟩
  rintro n s' ⟨k, m, mu, af, S', hI⟩
  rw [hu, hden]
  refine wpAny_onRaise (wpAny_mono (turn n k m mu hI s' A (fun _ _ => False) hA S') (fun fin s₂ ⟨k', m', mu', af', S₂, q⟩ => ?_) fun _ _ e => e.elim)
  cases fin with
  | done f => exact ⟨k', m', mu', ok.after_trans af af', S₂, q⟩
  | again c' =>
    rcases q with ⟨rfl, n', hn, hI'⟩ | ⟨hq', hc⟩
    · exact .inl ⟨rfl, n', hn, k', m', mu', ok.after_trans af af', S₂, hI'⟩
    · refine .inr ⟨hq', codeAny_mono (hc s₂ A hA S₂) fun r s₃ hr => ?_⟩
      cases r with
      | ok f => obtain ⟨k₃, m₃, mu₃, af₃, S₃, q₃⟩ := hr; exact ⟨k₃, m₃, mu₃, ok.after_trans (ok.after_trans af af') af₃, S₃, q₃⟩
      | error e => exact hr

theorem MtC_block {stmts : List Stmt} (h : Mt C k m mu (execs stmts C.env) Q) : MtC C k m mu (.block stmts C.env) Q := fun s A hA S => by
  refine codeAny_block (wpAny_mono (h s A (fun _ _ => False) hA S) (fun _ _ q => q) fun _ _ e => e.elim)

theorem MtC_for {target : PySem.Expr} {it : Value} {body orelse : List Stmt} (I : Nat → Kn → Lm → Mu → Prop)
    (turn : ∀ n k m mu, I n k m mu → Mt C k m mu (pyNext it) (fun r k m mu => match r with
      | none => Mt C k m mu (execs orelse C.env) Q
      | some v => Mt C k m mu (letOwnedTupleGo target it v) (fun _ k m mu => Mt C k m mu (assign target C.env v) (fun _ k m mu => Mt C k m mu (execs body C.env) (fun f k m mu => match f with
          | .next | .cont => ∃ n', n' < n ∧ I n' k m mu
          | .brk => Q .next k m mu
          | .ret v => Q (.ret v) k m mu)))))
    (n : Nat) (h : I n k m mu) : MtC C k m mu (.forLoop target it body orelse C.env) Q := by
  refine MtC_loop (t := forTurn target it body orelse C.env) rfl (fun A => Around.under_of_weight rfl) (fun w => rfl) I (fun n k m mu hI => ?_) n h
  unfold forTurn
  refine Mt_at (Mt_bind (Mt_onRaise (Mt_mono (turn n k m mu hI) fun r k m mu hr => ?_)))
  cases r with
  | none => exact Mt_pure (.inr ⟨rfl, MtC_block hr⟩)
  | some v =>
    refine Mt_bind (Mt_mono hr fun _ k m mu hr => Mt_bind (Mt_mono hr fun _ k m mu hr => Mt_bind (Mt_mono hr fun f k m mu hr => ?_)))
    cases f with
    | next => exact Mt_pure (.inl ⟨rfl, hr⟩)
    | cont => exact Mt_pure (.inl ⟨rfl, hr⟩)
    | brk => exact Mt_pure hr
    | ret v => exact Mt_pure hr
theorem Mt_For {target iter : PySem.Expr} {body orelse : List Stmt} {pos : Pos} (h : Mt C k m mu (eval iter C.env) (fun x k m mu => Mt C k m mu (pyIter x) (fun it k m mu => MtC C k m mu (.forLoop target it body orelse C.env) Q)))
    (hs : ∀ x, foldedSetIterable iter C.env x = pure x := by intro _; rfl) : Mt C k m mu (exec (.For target iter body orelse pos) C.env) Q := by
  rw [exec_For]
  refine Mt_at (Mt_bind (Mt_mono h fun x k m mu h => ?_))
  rw [hs]
  exact Mt_bind (Mt_pure (Mt_at (Mt_bind (Mt_holding (Mt_mono h fun it k m mu h => Mt_runOwn h)))))
theorem MtC_while {test : PySem.Expr} {body orelse : List Stmt} (I : Nat → Kn → Lm → Mu → Prop)
    (turn : ∀ n k m mu, I n k m mu → Mt C k m mu (isTrue test C.env (eval test C.env)) (fun b k m mu =>
      if b = true then Mt C k m mu (execs body C.env) (fun f k m mu => match f with
          | .next | .cont => ∃ n', n' < n ∧ I n' k m mu
          | .brk => Q .next k m mu
          | .ret v => Q (.ret v) k m mu)
      else Mt C k m mu (execs orelse C.env) Q))
    (n : Nat) (h : I n k m mu) : MtC C k m mu (.whileLoop test body orelse C.env) Q := by
  refine MtC_loop (t := whileTurn test body orelse C.env) rfl (fun A => Around.under_of_weight rfl) (fun w => rfl) I (fun n k m mu hI => ?_) n h
  unfold whileTurn
  refine Mt_bind (Mt_mono (turn n k m mu hI) fun b k m mu hb => ?_)
  cases b with
  | false => exact Mt_bind (Mt_mono hb fun f k m mu h => Mt_pure h)
  | true =>
    refine Mt_bind (Mt_mono hb fun f k m mu hr => ?_)
    cases f with
    | next => exact Mt_pure (.inl ⟨rfl, hr⟩)
    | cont => exact Mt_pure (.inl ⟨rfl, hr⟩)
    | brk => exact Mt_pure hr
    | ret v => exact Mt_pure hr
theorem Mt_While {test : PySem.Expr} {body orelse : List Stmt} {pos : Pos} (h : MtC C k m mu (.whileLoop test body orelse C.env) Q) : Mt C k m mu (exec (.While test body orelse pos) C.env) Q := by
  rw [exec_While]; exact Mt_at (Mt_runOwn h)

/-! comprehensions -/
def testsOf (ifs : List PySem.Expr) (env : Env) : Sem Bool := forIn ifs true fun c r => if r = true then do let ok ← isTrue c env (eval c env); pure (ForInStep.yield ok) else pure (ForInStep.yield r)
theorem Mt_tests_nil {Q : Bool → Kn → Lm → Mu → Prop} (h : Q true k m mu) : Mt C k m mu (testsOf [] C.env) Q := Mt_pure h
theorem Mt_tests_one {c : PySem.Expr} {Q : Bool → Kn → Lm → Mu → Prop} (h : Mt C k m mu (isTrue c C.env (eval c C.env)) Q) : Mt C k m mu (testsOf [c] C.env) Q := by
  unfold testsOf
  rw [List.forIn_cons]
  simp only [if_true]
  refine Mt_bind (Mt_bind (Mt_mono h fun b k m mu h => Mt_pure ?_))
  show Mt C k m mu (forIn ([] : List PySem.Expr) b _) Q
  rw [List.forIn_nil]; exact Mt_pure h

theorem compTurn_L1 (elt target iter : PySem.Expr) (ifs : List PySem.Expr) (scope : Scope) (pos : Pos) (it acc : Value) (env : Env) :
    compTurn (.ListComp elt [⟨target, iter, ifs, 0⟩] scope pos) 0 it acc env = (do
      standAt iter.pos
      match ← pyNext it with
      | none => pure (.done .next)
      | some v =>
        letOwnedTupleGo target it v
        assign target env v
        let ok ← testsOf ifs env
        if ok then
          (do let _ ← call (.builtin "list.append") [acc, ← eval elt env])
        again (.compLoop (.ListComp elt [⟨target, iter, ifs, 0⟩] scope pos) 0 it acc env)) := by rfl
theorem compTurn_L20 (elt target iter target2 iter2 : PySem.Expr) (ifs ifs2 : List PySem.Expr) (scope : Scope) (pos : Pos) (it acc : Value) (env : Env) :
    compTurn (.ListComp elt [⟨target, iter, ifs, 0⟩, ⟨target2, iter2, ifs2, 0⟩] scope pos) 0 it acc env = (do
      standAt iter.pos
      match ← pyNext it with
      | none => pure (.done .next)
      | some v =>
        letOwnedTupleGo target it v
        assign target env v
        let ok ← testsOf ifs env
        if ok then
          let x ← eval iter2 env
          standAt iter2.pos
          let x ← foldedSetIterable iter2 env x
          let _ ← runOwn (.compStart (.ListComp elt [⟨target, iter, ifs, 0⟩, ⟨target2, iter2, ifs2, 0⟩] scope pos) 1 (← holding [x] (pyIter x)) acc env) env
        again (.compLoop (.ListComp elt [⟨target, iter, ifs, 0⟩, ⟨target2, iter2, ifs2, 0⟩] scope pos) 0 it acc env)) := by rfl
theorem compTurn_L21 (elt target iter target2 iter2 : PySem.Expr) (ifs ifs2 : List PySem.Expr) (scope : Scope) (pos : Pos) (it acc : Value) (env : Env) :
    compTurn (.ListComp elt [⟨target2, iter2, ifs2, 0⟩, ⟨target, iter, ifs, 0⟩] scope pos) 1 it acc env = (do
      standAt iter.pos
      match ← pyNext it with
      | none => pure (.done .next)
      | some v =>
        letOwnedTupleGo target it v
        assign target env v
        let ok ← testsOf ifs env
        if ok then
          (do let _ ← call (.builtin "list.append") [acc, ← eval elt env])
        again (.compLoop (.ListComp elt [⟨target2, iter2, ifs2, 0⟩, ⟨target, iter, ifs, 0⟩] scope pos) 1 it acc env)) := by rfl
theorem compTurn_D1 (kx vx target iter : PySem.Expr) (ifs : List PySem.Expr) (scope : Scope) (pos : Pos) (it : Value) (D : Addr) (env : Env) :
    compTurn (.DictComp kx vx [⟨target, iter, ifs, 0⟩] scope pos) 0 it (.ref D) env = (do
      standAt iter.pos
      match ← pyNext it with
      | none => pure (.done .next)
      | some v =>
        letOwnedTupleGo target it v
        assign target env v
        let ok ← testsOf ifs env
        if ok then
          (do
            let kv ← eval kx env
            let vv ← holding [kv] (eval vx env)
            standAt { kx.pos with endLine := vx.pos.endLine, endCol := vx.pos.endCol }
            holding [kv, vv] (dictSet D kv vv))
        again (.compLoop (.DictComp kx vx [⟨target, iter, ifs, 0⟩] scope pos) 0 it (.ref D) env)) := by rfl

theorem MtC_comp1 {elt target iter : PySem.Expr} {ifs : List PySem.Expr} {scope : Scope} {pos : Pos} {it acc : Value} (I : Nat → Kn → Lm → Mu → Prop)
    (turn : ∀ n k m mu, I n k m mu → Mt C k m mu (pyNext it) (fun r k m mu => match r with
      | none => Q .next k m mu
      | some v => Mt C k m mu (letOwnedTupleGo target it v) (fun _ k m mu => Mt C k m mu (assign target C.env v) (fun _ k m mu => Mt C k m mu (testsOf ifs C.env) (fun ok k m mu =>
          if ok = true then Mt C k m mu (eval elt C.env) (fun x k m mu => Mt C k m mu (call (.builtin "list.append") [acc, x]) (fun _ k m mu => ∃ n', n' < n ∧ I n' k m mu))
          else ∃ n', n' < n ∧ I n' k m mu)))))
    (n : Nat) (h : I n k m mu) : MtC C k m mu (.compLoop (.ListComp elt [⟨target, iter, ifs, 0⟩] scope pos) 0 it acc C.env) Q := by
  refine MtC_loop (t := compTurn (.ListComp elt [⟨target, iter, ifs, 0⟩] scope pos) 0 it acc C.env) rfl (fun A => Around.under_of_weight rfl) (fun w => rfl) I (fun n k m mu hI => ?_) n h
  rw [compTurn_L1]
  refine Mt_at (Mt_bind (Mt_mono (turn n k m mu hI) fun r k m mu hr => ?_))
  cases r with
  | none => exact Mt_pure hr
  | some v =>
    refine Mt_bind (Mt_mono hr fun _ k m mu hr => Mt_bind (Mt_mono hr fun _ k m mu hr => Mt_bind (Mt_mono hr fun ok k m mu hr => ?_)))
    cases ok with
    | true => exact Mt_bind (Mt_bind (Mt_mono hr fun x k m mu hr => Mt_bind (Mt_mono hr fun _ k m mu hr => Mt_pure (Mt_pure (.inl ⟨rfl, hr⟩)))))
    | false => exact Mt_pure (.inl ⟨rfl, hr⟩)
theorem MtC_comp20 {elt target iter target2 iter2 : PySem.Expr} {ifs ifs2 : List PySem.Expr} {scope : Scope} {pos : Pos} {it acc : Value} (I : Nat → Kn → Lm → Mu → Prop) (hs : ∀ x, foldedSetIterable iter2 C.env x = pure x)
    (turn : ∀ n k m mu, I n k m mu → Mt C k m mu (pyNext it) (fun r k m mu => match r with
      | none => Q .next k m mu
      | some v => Mt C k m mu (letOwnedTupleGo target it v) (fun _ k m mu => Mt C k m mu (assign target C.env v) (fun _ k m mu => Mt C k m mu (testsOf ifs C.env) (fun ok k m mu =>
          if ok = true then Mt C k m mu (eval iter2 C.env) (fun x k m mu => Mt C k m mu (pyIter x) (fun it2 k m mu => MtC C k m mu (.compStart (.ListComp elt [⟨target, iter, ifs, 0⟩, ⟨target2, iter2, ifs2, 0⟩] scope pos) 1 it2 acc C.env) (fun _ k m mu => ∃ n', n' < n ∧ I n' k m mu)))
          else ∃ n', n' < n ∧ I n' k m mu)))))
    (n : Nat) (h : I n k m mu) : MtC C k m mu (.compLoop (.ListComp elt [⟨target, iter, ifs, 0⟩, ⟨target2, iter2, ifs2, 0⟩] scope pos) 0 it acc C.env) Q := by
  refine MtC_loop (t := compTurn (.ListComp elt [⟨target, iter, ifs, 0⟩, ⟨target2, iter2, ifs2, 0⟩] scope pos) 0 it acc C.env) rfl (fun A => Around.under_of_weight rfl) (fun w => rfl) I (fun n k m mu hI => ?_) n h
  rw [compTurn_L20]
  refine Mt_at (Mt_bind (Mt_mono (turn n k m mu hI) fun r k m mu hr => ?_))
  cases r with
  | none => exact Mt_pure hr
  | some v =>
    refine Mt_bind (Mt_mono hr fun _ k m mu hr => Mt_bind (Mt_mono hr fun _ k m mu hr => Mt_bind (Mt_mono hr fun ok k m mu hr => ?_)))
    cases ok with
    | true =>
      refine Mt_bind (Mt_mono hr fun x k m mu hr => Mt_at ?_)
      rw [hs]
      exact Mt_bind (Mt_pure (Mt_bind (Mt_holding (Mt_mono hr fun it2 k m mu hr => Mt_bind (Mt_mono (Mt_runOwn hr) fun f k m mu hr => Mt_pure (.inl ⟨rfl, hr⟩))))))
    | false => exact Mt_pure (.inl ⟨rfl, hr⟩)
theorem MtC_comp21 {elt target iter target2 iter2 : PySem.Expr} {ifs ifs2 : List PySem.Expr} {scope : Scope} {pos : Pos} {it acc : Value} (I : Nat → Kn → Lm → Mu → Prop)
    (turn : ∀ n k m mu, I n k m mu → Mt C k m mu (pyNext it) (fun r k m mu => match r with
      | none => Q .next k m mu
      | some v => Mt C k m mu (letOwnedTupleGo target it v) (fun _ k m mu => Mt C k m mu (assign target C.env v) (fun _ k m mu => Mt C k m mu (testsOf ifs C.env) (fun ok k m mu =>
          if ok = true then Mt C k m mu (eval elt C.env) (fun x k m mu => Mt C k m mu (call (.builtin "list.append") [acc, x]) (fun _ k m mu => ∃ n', n' < n ∧ I n' k m mu))
          else ∃ n', n' < n ∧ I n' k m mu)))))
    (n : Nat) (h : I n k m mu) : MtC C k m mu (.compLoop (.ListComp elt [⟨target2, iter2, ifs2, 0⟩, ⟨target, iter, ifs, 0⟩] scope pos) 1 it acc C.env) Q := by
  refine MtC_loop (t := compTurn (.ListComp elt [⟨target2, iter2, ifs2, 0⟩, ⟨target, iter, ifs, 0⟩] scope pos) 1 it acc C.env) rfl (fun A => Around.under_of_weight rfl) (fun w => rfl) I (fun n k m mu hI => ?_) n h
  rw [compTurn_L21]
  refine Mt_at (Mt_bind (Mt_mono (turn n k m mu hI) fun r k m mu hr => ?_))
  cases r with
  | none => exact Mt_pure hr
  | some v =>
    refine Mt_bind (Mt_mono hr fun _ k m mu hr => Mt_bind (Mt_mono hr fun _ k m mu hr => Mt_bind (Mt_mono hr fun ok k m mu hr => ?_)))
    cases ok with
    | true => exact Mt_bind (Mt_bind (Mt_mono hr fun x k m mu hr => Mt_bind (Mt_mono hr fun _ k m mu hr => Mt_pure (Mt_pure (.inl ⟨rfl, hr⟩)))))
    | false => exact Mt_pure (.inl ⟨rfl, hr⟩)
theorem MtC_compD {kx vx target iter : PySem.Expr} {ifs : List PySem.Expr} {scope : Scope} {pos : Pos} {it : Value} {D : Addr} (I : Nat → Kn → Lm → Mu → Prop)
    (turn : ∀ n k m mu, I n k m mu → Mt C k m mu (pyNext it) (fun r k m mu => match r with
      | none => Q .next k m mu
      | some v => Mt C k m mu (letOwnedTupleGo target it v) (fun _ k m mu => Mt C k m mu (assign target C.env v) (fun _ k m mu => Mt C k m mu (testsOf ifs C.env) (fun ok k m mu =>
          if ok = true then Mt C k m mu (eval kx C.env) (fun kv k m mu => Mt C k m mu (eval vx C.env) (fun vv k m mu => Mt C k m mu (dictSet D kv vv) (fun _ k m mu => ∃ n', n' < n ∧ I n' k m mu)))
          else ∃ n', n' < n ∧ I n' k m mu)))))
    (n : Nat) (h : I n k m mu) : MtC C k m mu (.compLoop (.DictComp kx vx [⟨target, iter, ifs, 0⟩] scope pos) 0 it (.ref D) C.env) Q := by
  refine MtC_loop (t := compTurn (.DictComp kx vx [⟨target, iter, ifs, 0⟩] scope pos) 0 it (.ref D) C.env) rfl (fun A => Around.under_of_weight rfl) (fun w => rfl) I (fun n k m mu hI => ?_) n h
  rw [compTurn_D1]
  refine Mt_at (Mt_bind (Mt_mono (turn n k m mu hI) fun r k m mu hr => ?_))
  cases r with
  | none => exact Mt_pure hr
  | some v =>
    refine Mt_bind (Mt_mono hr fun _ k m mu hr => Mt_bind (Mt_mono hr fun _ k m mu hr => Mt_bind (Mt_mono hr fun ok k m mu hr => ?_)))
    cases ok with
    | true => exact Mt_bind (Mt_bind (Mt_mono hr fun kv k m mu hr => Mt_bind (Mt_holding (Mt_mono hr fun vv k m mu hr => Mt_at (Mt_holding (Mt_mono hr fun _ k m mu hr => Mt_pure (.inl ⟨rfl, hr⟩)))))))
    | false => exact Mt_pure (.inl ⟨rfl, hr⟩)

/-- a comprehension's start: the source is asked for its iterator once more in some worlds -/
theorem MtC_start {e : PySem.Expr} {depth : Nat} {it acc : Value} {g : Comprehension} (hden : ∃ f, ∀ w, (model P w).den (.compStart e depth it acc C.env) = (compStart e depth it acc C.env).onRaise f) (hu : ∀ A : Around, A.under (.compStart e depth it acc C.env) = A) (hg : (clausesOf e)[depth]? = some g) (ha : g.is_async = 0)
    (h0 : MtC C k m mu (.compLoop e depth it acc C.env) Q)
    (h : Mt C k m mu (pyIter it) (fun it' k' m' mu' => MtC C k' m' mu' (.compLoop e depth it' acc C.env) Q)) : MtC C k m mu (.compStart e depth it acc C.env) Q := fun s A hA S => by
  have ok := S.ok
  refine codeAny_of_tree ?_
  obtain ⟨f, hden⟩ := hden
  rw [hden, hu]
  refine wpAny_onRaise ?_
  unfold compStart
  rw [hg]
  simp only [Option.elim, ha, bne_self_eq_false, Bool.false_eq_true, if_false]
  refine wpAny_mono (Q := fun fin s' => match fin with | .done f => False | .again c' => c'.quiet = true ∧ codeAny (model P C.w) A c' (fun r s' => match r with | .ok f => ∃ k' m' mu', After C.G s s' ∧ Stt C k' m' mu' s'.heap ∧ Q f k' m' mu' | .error _ => False) s') (E := fun _ _ => False) ?_ (fun fin s' hf => ?_) fun _ _ e => e.elim
  · refine wpAny_bind (wpAny_askSetting ?_)
    dsimp only
    by_cases hf : C.w.params.followText "comprehension-iter-twice" = true
    · rw [show (model P C.w).w = C.w from rfl, if_pos hf]
      exact wpAny_pure ⟨rfl, h0 s A hA S⟩
    · rw [show (model P C.w).w = C.w from rfl, if_neg hf]
      refine wpAny_bind (wpAny_rule (wpAny_bind (wpAny_standAt (wpAny_bind (wpAny_mono (h s A (fun _ _ => False) hA S) (fun it' s' hq => ?_) fun _ _ e => e)))))
      obtain ⟨k', m', mu', af, S', q⟩ := hq
      refine wpAny_pure ⟨rfl, codeAny_mono (q s' A hA S') fun r s₃ hr => ?_⟩
      cases r with
      | ok f => obtain ⟨k₃, m₃, mu₃, af₃, S₃, q₃⟩ := hr; exact ⟨k₃, m₃, mu₃, ok.after_trans af af₃, S₃, q₃⟩
      | error e => exact hr
  · cases fin with
    | done f => exact hf.elim
    | again c' => exact hf
end
end Mine

-- LE
namespace Mine

/-! the frame of a comprehension -/
def cloOf (cells : List (Str × Addr)) : List (Str × NameKind) → List (Str × Addr) → List (Str × Addr)
  | [], acc => acc
  | (n, kd) :: r, acc => if kd == .free then cloOf cells r ((n, (cells.lookup n).getD 0) :: acc) else cloOf cells r acc

def freeOk (names : List (Str × NameKind)) (env : Env) : Bool := names.all fun p => p.2 != .free || ((env.cells.lookup p.1).isSome && (env.kindOf p.1 == some .cell || env.kindOf p.1 == some .free))
def namesOk (names : List (Str × NameKind)) : Bool := names.all fun p => names.lookup p.1 == some p.2

theorem wpAny_closureFor {M : Model} {A : Around} {E : Value → Shared → Prop} {s : Shared} {env : Env} {scope : Scope} {Q : List (Str × Addr) → Shared → Prop} (hf : freeOk scope.names env = true) (h : Q (cloOf env.cells scope.names []) s) : wpAny M A (closureFor scope env) Q E s := by
  unfold closureFor
  have go : ∀ (names : List (Str × NameKind)) (acc : List (Str × Addr)), freeOk names env = true → ∀ (Q : List (Str × Addr) → Shared → Prop), Q (cloOf env.cells names acc) s →
      wpAny M A (forIn names acc fun x r => do
        let (name, kind) := x
        if kind == .free then
          let c ← cellOf env name
          pure (ForInStep.yield ((name, c) :: r))
        else pure (ForInStep.yield r)) Q E s := by
    intro names
    induction names with
    | nil => intro acc _ Q h; rw [List.forIn_nil]; exact wpAny_pure h
    | cons p r ih =>
      intro acc hf Q h
      obtain ⟨n, kd⟩ := p
      unfold freeOk at hf
      rw [List.all_cons, Bool.and_eq_true] at hf
      rw [List.forIn_cons]
      unfold cloOf at h
      by_cases hk : (kd == NameKind.free) = true
      · rw [if_pos hk] at h
        simp only [hk, if_true]
        have hk' : kd = .free := by simpa using hk
        subst hk'
        have h1 := hf.1
        simp only [bne_self_eq_false, Bool.false_or, Bool.and_eq_true] at h1
        obtain ⟨c, hc⟩ := Option.isSome_iff_exists.mp h1.1
        refine wpAny_bind (wpAny_bind (wpAny_cellOf hc (wpAny_pure (ih _ hf.2 Q ?_))))
        simpa [hc] using h
      · rw [if_neg hk] at h
        simp only [hk, if_false]
        exact wpAny_bind (wpAny_pure (ih _ hf.2 Q h))
  exact wpAny_bind (go scope.names [] hf _ (wpAny_pure h))

/-- the names that the comprehension takes from the frame around it are cells there -/
def mapNames (env : Env) (names : List (Str × NameKind)) : List (Str × NameKind) := names.map fun (n, kd) => if kd == .free && env.scope.kind == .function && env.kindOf n == some .cell then (n, .cell) else (n, kd)
theorem mapNames_lookup (env : Env) (x : Str) : ∀ (names : List (Str × NameKind)), (mapNames env names).lookup x = (names.lookup x).map fun kd => if kd == .free && env.scope.kind == .function && env.kindOf x == some .cell then NameKind.cell else kd
  | [] => rfl
  | (n, kd) :: r => by
    have ih := mapNames_lookup env x r
    unfold mapNames at ih ⊢
    rw [List.map_cons, List.lookup_cons]
    have e : (if (kd == NameKind.free && env.scope.kind == ScopeKind.function && env.kindOf n == some NameKind.cell) = true then (n, NameKind.cell) else (n, kd)) = (n, if (kd == NameKind.free && env.scope.kind == ScopeKind.function && env.kindOf n == some NameKind.cell) = true then NameKind.cell else kd) := by split <;> rfl
    dsimp only
    rw [e, List.lookup_cons]
    cases hb : x == n with
    | true =>
      have : x = n := by simpa using hb
      subst this; rfl
    | false => exact ih

abbrev cenvOf (scope : Scope) (env : Env) (L : Addr) : Env :=
  { scope := { scope with names := mapNames env scope.names }, locals := L, globals := env.globals, cells := cellsFrom (L + 1) scope.names (cloOf env.cells scope.names []), qual := env.qual, func := none, code := env.code, frame := env.frame, builtins := env.builtins }
abbrev ccx (C : Cx) (scope : Scope) (L : Addr) (base : Heap) (k0 : Kn) : Cx := ⟨C.w, C.n, cenvOf scope C.env L, base, k0, C.G, cellNames scope⟩
def cmap (scope : Scope) (m : Lm) : Lm := fun y => if scope.names.lookup y = some .free then m y else none

theorem cellsFrom_append : ∀ (names : List (Str × NameKind)) (n : Nat) (acc : List (Str × Addr)), cellsFrom n names acc = cellsFrom n names [] ++ acc
  | [], _, _ => rfl
  | (x, kd) :: r, n, acc => by
    unfold cellsFrom
    split
    · rw [cellsFrom_append r (n + 1) ((x, n) :: acc), cellsFrom_append r (n + 1) [(x, n)], List.append_assoc]; rfl
    · exact cellsFrom_append r n acc

theorem cloOf_mem {cells : List (Str × Addr)} : ∀ (names : List (Str × NameKind)) (acc : List (Str × Addr)) (x : Str) (c : Addr), (x, c) ∈ cloOf cells names acc → (x, c) ∈ acc ∨ ((x, NameKind.free) ∈ names ∧ c = (cells.lookup x).getD 0)
  | [], _, _, _, h => .inl h
  | (y, kd) :: r, acc, x, c, h => by
    unfold cloOf at h
    split at h
    · rename_i hk
      have hk' : kd = .free := by simpa using hk
      subst hk'
      rcases cloOf_mem r _ x c h with h | h
      · rcases List.mem_cons.mp h with e | h
        · cases e; exact .inr ⟨.head _, rfl⟩
        · exact .inl h
      · exact .inr ⟨.tail _ h.1, h.2⟩
    · rcases cloOf_mem r _ x c h with h | h
      · exact .inl h
      · exact .inr ⟨.tail _ h.1, h.2⟩

theorem wpAny_newEnv_around {M : Model} {A : Around} {E : Value → Shared → Prop} {s : Shared} {scope : Scope} {globals : Addr} {closure : List (Str × Addr)} {qual : Str} {outer : Env} {Q : Env → Shared → Prop}
    (h : Q { scope := scope, locals := s.heap.objs.size, globals := globals, cells := cellsFrom (s.heap.objs.size + 1) scope.names closure, qual := qual, func := none, code := outer.code, frame := outer.frame, builtins := outer.builtins } { s with heap := pushCells (s.heap.push { cls := .type "dict", data := .dict #[] }) scope.names }) :
    wpAny M A (newFunctionEnv scope globals closure [] qual none .none (some outer)) Q E s := by
  simp only [newFunctionEnv, Option.isSome_some, if_true]
  refine wpAny_bind (wpAny_alloc ?_)
  refine wpAny_bind (wpAny_layCells _ (fun name kind cells => by cases hkc : kind == NameKind.cell <;> simp [hkc]) _ _ _ _ ?_)
  rw [show ({ s with heap := s.heap.push { cls := .type "dict", data := .dict #[] } } : Shared).heap.objs.size = s.heap.objs.size + 1 from Heap.size_push ..]
  refine wpAny_bind ?_
  rw [List.forIn_nil]
  exact wpAny_pure (wpAny_pure h)

theorem pushCells_size : ∀ (names : List (Str × NameKind)) (h : Heap), h.objs.size ≤ (pushCells h names).objs.size
  | [], h => Nat.le_refl _
  | (_, kd) :: r, h => by
    unfold pushCells
    split
    · refine Nat.le_trans ?_ (pushCells_size r _); rw [Heap.size_push]; exact Nat.le_succ _
    · exact pushCells_size r h

def Kn.put (k : Kn) (a : Addr) (o : Obj) : Kn := fun b => if b = a then some o else k b
theorem Kn.put_self (k : Kn) (a : Addr) (o : Obj) : k.put a o a = some o := by simp [Kn.put]
theorem Kn.put_ne {a b : Addr} (k : Kn) {o : Obj} (h : b ≠ a) : k.put a o b = k b := by simp [Kn.put, h]
theorem Kn.le_put {k : Kn} {a : Addr} {o : Obj} (h : k a = none) : k.Le (k.put a o) := fun b ob e => by
  rw [Kn.put_ne]; exact e
  intro q; rw [q, h] at e; cases e

section
variable {C : Cx} {k : Kn} {m : Lm} {mu : Mu}
/-- what is new of an inner frame: its heap without the parts that it may turn -/
theorem stt_comp {scope : Scope} {muI : Mu} {h : Heap} (S : Stt C k m (muI ++ mu) h) (hkd : scope.kind = .function) (hnm : namesOk scope.names = true) (hfr : freeOk scope.names C.env = true) :
    Stt (ccx C scope h.objs.size (hideAll h (TB :: muI.map (·.1))) k) k (cmap scope m) muI (pushCells (h.push { cls := .type "dict", data := .dict #[] }) scope.names) := by
  have ok := S.ok
  have hidn : ∀ b, b ∈ TB :: muI.map (·.1) → (hideAll h (TB :: muI.map (·.1))).get? b = none := fun b hb => hideAll_none _ hb
  have sub : (hideAll h (TB :: muI.map (·.1))).StaysIn h := fun b o e => of_hideAll _ e
  have get : ∀ b o, h.get? b = some o → b ∉ TB :: muI.map (·.1) → (hideAll h (TB :: muI.map (·.1))).get? b = some o := fun b o e hb => hideAll_get _ e hb
  have keep : h.StaysIn (pushCells (h.push { cls := .type "dict", data := .dict #[] }) scope.names) := fun b o e => pushCells_keeps _ _ b o (Heap.get?_push_of_some _ e)
  have fresh : ∀ b, h.objs.size ≤ b → h.get? b = none := fun b hb => by
    cases e : h.get? b with
    | none => rfl
    | some o => exact absurd (Heap.lt_size e) (Nat.not_lt.mpr hb)
  have knone : ∀ b, h.objs.size ≤ b → k b = none := fun b hb => by
    cases e : k b with
    | none => rfl
    | some o => exact absurd (S.kin b o e) (by rw [fresh b hb]; simp)
  have all := List.all_eq_true.mp hnm
  have lk : ∀ x kd, (x, kd) ∈ scope.names → scope.names.lookup x = some kd := fun x kd hx => by simpa using all _ hx
  have okc := cellsFrom_ok scope.names (h.push { cls := .type "dict", data := .dict #[] }) (h.objs.size + 1) [] ⟨fun _ _ hm => (nomatch hm), List.Pairwise.nil⟩ (by rw [Heap.size_push]; exact Nat.le_refl _)
  rw [Heap.size_push] at okc
  have hcl : ∀ x c, x ∈ cellNames scope → (cellsFrom (h.objs.size + 1) scope.names (cloOf C.env.cells scope.names [])).lookup x = some c → (x, c) ∈ cellsFrom (h.objs.size + 1) scope.names [] := fun x c hx hc => by
    have hm := mem_of_lookup hc
    rw [cellsFrom_append] at hm
    rcases List.mem_append.mp hm with hm | hm
    · exact hm
    · rcases cloOf_mem _ _ _ _ hm with h1 | ⟨h1, _⟩
      · cases h1
      · have := lk x _ h1
        rw [lk x _ (mem_cellNames.mp hx)] at this; cases this
  have owns : ∀ a, (ccx C scope h.objs.size (hideAll h (TB :: muI.map (·.1))) k).own a → h.objs.size ≤ a := by
    rintro a (rfl | ⟨x, hx, hc⟩)
    · exact Nat.le_refl _
    · exact Nat.le_of_lt (okc.empty x a (hcl x a hx hc)).2
  have hlT : TB < h.objs.size := let ⟨_, e⟩ := S.tab; Heap.lt_size e
  have muIle : ∀ p ∈ muI, p.1 < h.objs.size := fun p hp => Heap.lt_size (S.own p (List.mem_append_left _ hp))
  have muIn : ∀ p ∈ muI, p ∈ muI ++ mu := fun p hp => List.mem_append_left _ hp
  have notmu : ∀ b, k b ≠ none → b ∉ TB :: muI.map (·.1) := fun b hb hm => by
    rcases List.mem_cons.mp hm with rfl | hm
    · exact hb S.kT
    · obtain ⟨p, hp, rfl⟩ := List.mem_map.mp hm
      exact hb (S.kmu p (muIn p hp))
  have cellIn : ∀ x c, (C.env.kindOf x = some .cell ∨ C.env.kindOf x = some .free) → C.env.cells.lookup x = some c → (hideAll h (TB :: muI.map (·.1))).IsCell c (m x) := by
    intro x c hkx hc
    by_cases q : x ∈ C.ownv
    · obtain ⟨o, h1, h2⟩ := S.cel x c q hc
      refine ⟨o, get c o h1 fun hm => ?_, h2⟩
      rcases List.mem_cons.mp hm with rfl | hm
      · exact ok.ownT _ (.inr ⟨x, q, hc⟩) rfl
      · obtain ⟨p, hp, e⟩ := List.mem_map.mp hm
        exact S.muown c (.inr ⟨x, q, hc⟩) p (muIn p hp) e
    · obtain ⟨o, h1, h2⟩ := S.fre x c q hkx hc
      refine ⟨o, get c o (S.keep _ _ h1) fun hm => ?_, h2⟩
      rcases List.mem_cons.mp hm with rfl | hm
      · rw [ok.tb] at h1; cases h1
      · obtain ⟨p, hp, rfl⟩ := List.mem_map.mp hm
        rw [S.bmu p (muIn p hp)] at h1; cases h1
  refine ⟨⟨ok.refl, ok.trans, ?_, fun b o e => get b o (S.kin b o e) (notmu b (by rw [show k b = some o from e]; simp)), hidn _ (.head _), hkd, fun b hb => ?_, fun b hb q => ?_, fun y c hy hc q => ?_, fun y z c hy hz hc hd => ?_, fun y hy => ?_⟩,
    ⟨fun _ => none, ?_, fun y hy => ?_⟩, fun y c hy hc => ?_, fun y c hy hkk hc => ?_, fun b o e => keep b o (sub b o e), fun b o e => keep b o (S.kin b o e), fun p hp => keep _ _ (S.own p (muIn p hp)), fun b hb => knone b (owns b hb), fun b hb p hp q => ?_, fun p hp => S.kmu p (muIn p hp), fun p hp => hidn _ (.tail _ (List.mem_map_of_mem hp)), ?_, Kn.Le.refl _, fun b o e => rfl, ?_, S.kT, fun p hp => S.muT p (muIn p hp)⟩
  · refine ok.prog.grow fun b o hb e => get b o (S.keep b o e) fun hm => ?_
    rcases List.mem_cons.mp hm with q | hm
    · exact hb q
    · obtain ⟨p, hp, rfl⟩ := List.mem_map.mp hm
      rw [S.bmu p (muIn p hp)] at e; cases e
  · cases e : (hideAll h (TB :: muI.map (·.1))).get? b with
    | none => rfl
    | some o => have := sub b o e; rw [fresh b (owns b hb)] at this; cases this
  · have := owns b hb; rw [q] at this; exact absurd hlT (Nat.not_lt.mpr this)
  · have := (okc.empty y c (hcl y c hy hc)).2; rw [q] at this; exact absurd this (Nat.not_le.mpr (Nat.lt_succ_self _))
  · exact name_of_addr okc.apart (hcl y c hy hc) (hcl z c hz hd)
  · show (mapNames C.env scope.names).lookup y = some .cell
    rw [mapNames_lookup, lk y _ (mem_cellNames.mp hy)]; rfl
  · exact (Heap.Ns.new h (.type "dict")).keeps (pushCells_keeps _ _)
  · show none = cmap scope m y
    unfold cmap
    have hy' : (mapNames C.env scope.names).lookup y = some .local := hy
    rw [mapNames_lookup] at hy'
    split
    · rename_i q
      rw [q] at hy'
      simp only [Option.map_some, Option.some.injEq] at hy'
      split at hy' <;> cases hy'
    · rfl
  · have hm := (okc.empty y c (hcl y c hy hc)).1
    have : cmap scope m y = none := by
      unfold cmap
      rw [lk y _ (mem_cellNames.mp hy)]; simp
    rw [this]; exact hm
  · have hm : (y, c) ∈ cellsFrom (h.objs.size + 1) scope.names (cloOf C.env.cells scope.names []) := mem_of_lookup hc
    rw [cellsFrom_append] at hm
    rcases List.mem_append.mp hm with hm | hm
    · rcases cellsFrom_names' _ _ _ _ _ hm with h1 | h1
      · cases h1
      · exact absurd (mem_cellNames.mpr h1) hy
    · rcases cloOf_mem _ _ _ _ hm with h1 | ⟨h1, h2⟩
      · cases h1
      · have hf := List.all_eq_true.mp hfr _ h1
        simp only [bne_self_eq_false, Bool.false_or, Bool.and_eq_true] at hf
        obtain ⟨c', hc'⟩ := Option.isSome_iff_exists.mp hf.1
        have hk' : C.env.kindOf y = some .cell ∨ C.env.kindOf y = some .free := by simpa using hf.2
        have : cmap scope m y = m y := by unfold cmap; rw [if_pos (lk y _ h1)]
        rw [this]
        rw [hc'] at h2
        simp only [Option.getD_some] at h2
        subst h2
        exact cellIn y c hk' hc'
  · have := owns b hb; exact absurd (muIle p hp) (by rw [q]; exact Nat.not_lt.mpr this)
  · have := S.nd
    rw [List.map_append] at this
    exact (List.nodup_append.mp this).1
  · obtain ⟨ps, e⟩ := S.tab
    exact ⟨ps, keep _ _ e⟩

/-- the outer frame again, its accumulator known from now on -/
theorem stt_back {scope : Scope} {muI : Mu} {h h' : Heap} {k' : Kn} {m' : Lm} {mu' : Mu} {D : Addr} {oD : Obj} (S : Stt C k m (muI ++ mu) h)
    (S' : Stt (ccx C scope h.objs.size (hideAll h (TB :: muI.map (·.1))) k) k' m' mu' h') (hD : (D, oD) ∈ mu') (hD0 : ∀ q ∈ mu, q.1 ≠ D) (hDo : ∀ a, C.own a → a ≠ D) (hDb : C.base.get? D = none) :
    Stt C (k'.put D oD) m mu h' := by
  have ok := S.ok
  have get : ∀ b o, h.get? b = some o → b ∉ TB :: muI.map (·.1) → (hideAll h (TB :: muI.map (·.1))).get? b = some o := fun b o e hb => hideAll_get _ e hb
  have kp : ∀ b o, h.get? b = some o → b ∉ TB :: muI.map (·.1) → h'.get? b = some o ∧ k' b = k b := fun b o e hb => ⟨S'.keep b o (get b o e hb), S'.extb b o (get b o e hb)⟩
  have nd := S.nd
  rw [List.map_append, List.nodup_append] at nd
  have nI : ∀ p ∈ mu, p.1 ∉ TB :: muI.map (·.1) := fun p hp hm => by
    rcases List.mem_cons.mp hm with q | hm
    · exact S.muT p (List.mem_append_right _ hp) q
    · exact nd.2.2 _ hm _ (List.mem_map_of_mem hp) rfl
  have nO : ∀ a, C.own a → a ∉ TB :: muI.map (·.1) := fun a ha hm => by
    rcases List.mem_cons.mp hm with q | hm
    · exact ok.ownT a ha q
    · obtain ⟨p, hp, e⟩ := List.mem_map.mp hm
      exact S.muown a ha p (List.mem_append_left _ hp) e
  have nB : ∀ b o, C.base.get? b = some o → b ∉ TB :: muI.map (·.1) := fun b o e hm => by
    rcases List.mem_cons.mp hm with rfl | hm
    · rw [ok.tb] at e; cases e
    · obtain ⟨p, hp, rfl⟩ := List.mem_map.mp hm
      rw [S.bmu p (List.mem_append_left _ hp)] at e; cases e
  obtain ⟨ml, ⟨oL, esL, epL, hL, r⟩, hm⟩ := S.loc
  have kD : k' D = none := S'.kmu _ hD
  have there : ∀ a, C.own a → ∃ o, h.get? a = some o := by
    rintro a (rfl | ⟨x, hx, hc⟩)
    · exact ⟨_, hL⟩
    · obtain ⟨o, ho, _⟩ := S.cel x a hx hc; exact ⟨o, ho⟩
  refine ⟨ok, ⟨ml, ⟨oL, esL, epL, (kp _ _ hL (nO _ (.inl rfl))).1, r⟩, hm⟩, fun x c hx hc => ?_, S.fre, fun b o e => (kp b o (S.keep b o e) (nB b o e)).1, fun b o e => ?_, fun p hp => (kp _ _ (S.own p (List.mem_append_right _ hp)) (nI p hp)).1, fun a ha => ?_, fun a ha p hp => S.muown a ha p (List.mem_append_right _ hp), fun p hp => ?_, fun p hp => S.bmu p (List.mem_append_right _ hp), nd.2.1, ?_, fun b o e => ?_, S'.tab, ?_, fun p hp => S.muT p (List.mem_append_right _ hp)⟩
  · obtain ⟨o, h1, h2⟩ := S.cel x c hx hc
    exact ⟨o, (kp _ _ h1 (nO _ (.inr ⟨x, hx, hc⟩))).1, h2⟩
  · by_cases q : b = D
    · subst q; rw [Kn.put_self] at e; cases e; exact S'.own _ hD
    · rw [Kn.put_ne _ q] at e; exact S'.kin b o e
  · obtain ⟨o, ho⟩ := there a ha
    rw [Kn.put_ne _ (hDo a ha)]
    exact (kp a o ho (nO a ha)).2.trans (S.kown a ha)
  · rw [Kn.put_ne _ (hD0 p hp)]
    exact (kp _ _ (S.own p (List.mem_append_right _ hp)) (nI p hp)).2.trans (S.kmu p (List.mem_append_right _ hp))
  · intro b o e
    have e1 : k' b = some o := S'.ext b o (S.ext b o e)
    have q : b ≠ D := fun q => by rw [q, kD] at e1; cases e1
    rw [Kn.put_ne _ q]; exact e1
  · have q : b ≠ D := fun q => by rw [q, hDb] at e; cases e
    rw [Kn.put_ne _ q]
    exact (kp b o (S.keep b o e) (nB b o e)).2.trans (S.extb b o e)
  · have q : TB ≠ D := fun q => S'.muT _ hD q.symm
    rw [Kn.put_ne _ q]; exact S'.kT

/-- what is dead may turn -/
theorem Stt.dead {h h' : Heap} {L' : Addr} (S : Stt C k m mu h) (hs : Heap.SameBut L' h h') (h1 : C.base.get? L' = none) (h2 : k L' = none) (h3 : ∀ p ∈ mu, p.1 ≠ L') (h4 : ∀ a, C.own a → a ≠ L') (h5 : L' ≠ TB) : Stt C k m mu h' := by
  obtain ⟨ml, hn, hm⟩ := S.loc
  refine ⟨S.ok, ⟨ml, hn.at fun o e => (hs.2 _ (h4 _ (.inl rfl))).trans e, hm⟩, fun x c hx hc => ?_, S.fre, fun b o e => (hs.2 b fun q => by rw [q, h1] at e; cases e).trans (S.keep b o e), fun b o e => (hs.2 b fun q => by rw [q, h2] at e; cases e).trans (S.kin b o e), fun p hp => (hs.2 _ (h3 p hp)).trans (S.own p hp), S.kown, S.muown, S.kmu, S.bmu, S.nd, S.ext, S.extb, ?_, S.kT, S.muT⟩
  · obtain ⟨o, h1, h2⟩ := S.cel x c hx hc
    exact ⟨o, (hs.2 _ (h4 _ (.inr ⟨x, hx, hc⟩))).trans h1, h2⟩
  · obtain ⟨ps, e⟩ := S.tab
    exact ⟨ps, (hs.2 _ (Ne.symm h5)).trans e⟩

theorem Stt.fresh_none {h : Heap} (S : Stt C k m mu h) : C.base.get? h.objs.size = none ∧ k h.objs.size = none ∧ (∀ p ∈ mu, p.1 ≠ h.objs.size) ∧ (∀ a, C.own a → a ≠ h.objs.size) ∧ TB ≠ h.objs.size := by
  have fr : h.get? h.objs.size = none := by
    cases e : h.get? h.objs.size with
    | none => rfl
    | some o => exact absurd (Heap.lt_size e) (Nat.lt_irrefl _)
  refine ⟨?_, ?_, fun p hp q => ?_, ?_, fun q => ?_⟩
  · cases e : C.base.get? h.objs.size with
    | none => rfl
    | some o => have := S.keep _ _ e; rw [fr] at this; cases this
  · cases e : k h.objs.size with
    | none => rfl
    | some o => have := S.kin _ _ e; rw [fr] at this; cases this
  · have := S.own p hp; rw [q, fr] at this; cases this
  · rintro a (rfl | ⟨x, hx, hc⟩) q
    · obtain ⟨ml, ⟨oL, _, _, hL, _⟩, _⟩ := S.loc
      rw [q, fr] at hL; cases hL
    · obtain ⟨o, ho, _⟩ := S.cel x a hx hc
      rw [q, fr] at ho; cases ho
  · obtain ⟨ps, e⟩ := S.tab
    rw [q, fr] at e; cases e

theorem Stt.lt_size {h : Heap} (S : Stt C k m mu h) : TB < h.objs.size := let ⟨_, e⟩ := S.tab; Heap.lt_size e
/-- a new object of the frame's own -/
theorem Stt.pushMu {h : Heap} {o : Obj} (S : Stt C k m mu h) (hf : o.isFreed = false) : Stt C k m ((h.objs.size, o) :: mu) (h.push o) := by
  obtain ⟨f1, f2, f3, f4, f5⟩ := S.fresh_none
  have kp : h.StaysIn (h.push o) := fun b ob e => Heap.get?_push_of_some _ e
  obtain ⟨ml, hn, hm⟩ := S.loc
  refine ⟨S.ok, ⟨ml, hn.push o, hm⟩, fun x c hx hc => ?_, S.fre, fun b ob e => kp b ob (S.keep b ob e), fun b ob e => kp b ob (S.kin b ob e), fun p hp => ?_, S.kown, fun a ha p hp => ?_, fun p hp => ?_, fun p hp => ?_, ?_, S.ext, S.extb, ?_, S.kT, fun p hp => ?_⟩
  · obtain ⟨oc, h1, h2⟩ := S.cel x c hx hc
    exact ⟨oc, kp _ _ h1, h2⟩
  · rcases List.mem_cons.mp hp with rfl | hp
    · exact Heap.get?_push_size _ hf
    · exact kp _ _ (S.own p hp)
  · rcases List.mem_cons.mp hp with rfl | hp
    · exact fun q => f4 a ha q.symm
    · exact S.muown a ha p hp
  · rcases List.mem_cons.mp hp with rfl | hp
    · exact f2
    · exact S.kmu p hp
  · rcases List.mem_cons.mp hp with rfl | hp
    · exact f1
    · exact S.bmu p hp
  · rw [List.map_cons, List.nodup_cons]
    refine ⟨fun hm => ?_, S.nd⟩
    obtain ⟨p, hp, e⟩ := List.mem_map.mp hm
    exact f3 p hp e
  · obtain ⟨ps, e⟩ := S.tab
    exact ⟨ps, kp _ _ e⟩
  · rcases List.mem_cons.mp hp with rfl | hp
    · exact fun q => f5 q.symm
    · exact S.muT p hp

/-- a comprehension: its source, its iterator (which only it turns), its own frame -/
def CompIn (C : Cx) (e : PySem.Expr) (scope : Scope) (it : Value) (accObj : Obj) (m : Lm) (muI mu : Mu) (k : Kn) (Q : Value → Kn → Prop) : Prop :=
  ∀ (D L : Addr) (base : Heap), TB < D → C.base.get? D = none → MtC (ccx C scope L base k) k (cmap scope m) ((D, accObj) :: muI) (.compStart e 0 it (.ref D) (cenvOf scope C.env L)) (fun _ k' _ mu' => ∃ oD, (D, oD) ∈ mu' ∧ (k' D = none → Q (.ref D) (k'.put D oD)))

def compVars (scope : Scope) : List (Str × NameKind) := scope.names.filter fun x => (x.2 == .local || x.2 == .cell) && x.1 != (".0" : Str)

theorem wpAny_compRun {e : PySem.Expr} {scope : Scope} {pos : Pos} {newAcc first : Sem Value} {accObj : Obj} {g : Comprehension} {gs : List Comprehension} {Q : Value → Kn → Lm → Mu → Prop} {use : Option (Value → Sem Unit)}
    {R : Value → Shared → Prop} {s : Shared} {A : Around} {E : Value → Shared → Prop} (hA : OkA C.n A) (S : Stt C k m mu s.heap)
    (hcl : clausesOf e = g :: gs) (hs : ∀ x, foldedSetIterable g.iter C.env x = pure x) (hkd : scope.kind = .function) (hnm : namesOk scope.names = true) (hfr : freeOk scope.names C.env = true)
    (hacc : ∀ (s : Shared) (A : Around) (E : Value → Shared → Prop) (R : Value → Shared → Prop), R (.ref s.heap.objs.size) { s with heap := s.heap.push accObj } → wpAny (model P C.w) A newAcc R E s) (hnf : accObj.isFreed = false)
    (h : Mt C k m mu first (fun x k m mu => Mt C k m mu (pyIter x) (fun it k m muI' => ∃ muI mu, muI' = muI ++ mu ∧ CompIn C e scope it accObj m muI mu k (fun v k => Q v k m mu))))
    (hR : ∀ (v : Value) (k' : Kn) (m' : Lm) (mu' : Mu) (s' : Shared) (cenv : Env) (ml : Lm), After C.G s s' → Stt C k' m' mu' s'.heap → Q v k' m' mu' → cenv.scope.kind = .function → s'.heap.Ns cenv.locals ml →
      C.base.get? cenv.locals = none → k' cenv.locals = none → (∀ p ∈ mu', p.1 ≠ cenv.locals) → (∀ a, C.own a → a ≠ cenv.locals) → cenv.locals ≠ TB →
      (∀ x ∈ compVars scope, x.2 = .local → cenv.kindOf x.1 = some .local) → ∀ (ca : List Value) (co : List (Str × NameKind) → List Value),
      wpAny (model P C.w) A (match use with
        | none => do holding [v] (comprehension.letGo cenv co (compVars scope).reverse); pure v
        | some u => do
          rule "comprehension.stores-exchanged"
          holding ca (u v)
          comprehension.letGo cenv co ((compVars scope).reverse.drop 1 ++ (compVars scope).reverse.take 1)
          pure .none) R E s') :
    wpAny (model P C.w) A (comprehension e scope C.env pos newAcc false first use) R E s := by
  have ok := S.ok
  unfold comprehension
  refine wpAny_bind (wpAny_mono (h s A E hA S) (fun x s₁ ⟨k₁, m₁, mu₁, af₁, S₁, q₁⟩ => ?_) fun _ _ e => e)
  refine wpAny_bind (wpAny_standAt ?_)
  rw [hcl]
  refine wpAny_bind (wpAny_of_eq (hs x) ?_)
  refine wpAny_bind (wpAny_holding (wpAny_mono (q₁ s₁ A E hA S₁) (fun it s₂ ⟨k₂, m₂, mu₂', af₂, S₂, muI, mu₂, hmu, hin⟩ => ?_) fun _ _ e => e))
  subst hmu
  refine wpAny_standIf (wpAny_bind (hacc _ _ _ _ ?_))
  have S₃ := S₂.pushMu hnf
  obtain ⟨g1, g2, g3, g4, g5⟩ := S₂.fresh_none
  refine wpAny_bind (wpAny_closureFor hfr (wpAny_bind (wpAny_newEnv_around ?_)))
  have S₄ := stt_comp (muI := (s₂.heap.objs.size, accObj) :: muI) (mu := mu₂) (scope := scope) (by simpa using S₃) hkd hnm hfr
  refine wpAny_holding (wpAny_bind (wpAny_attempt (wpAny_holding (wpAny_run (codeAny_mono (hin s₂.heap.objs.size _ _ S₂.lt_size g1 _ (A.mark none) ⟨hA.handled, hA.depth, hA.units⟩ S₄) fun r s₅ hr => ?_)))))
  cases r with
  | error x => exact hr.elim
  | ok f =>
    obtain ⟨k₅, m₅, mu₅, af₅, S₅, oD, hD, q⟩ := hr
    replace q := q (S₅.kmu _ hD)
    have nd := S₃.nd
    rw [List.map_cons, List.map_append, List.nodup_cons, List.mem_append] at nd
    have Sb := stt_back (muI := (s₂.heap.objs.size, accObj) :: muI) (mu := mu₂) (oD := oD) (by simpa using S₃) S₅ hD (fun p hp e => nd.1 (.inr (List.mem_map.mpr ⟨p, hp, e⟩))) g4 g1
    have S₃' : Stt C k₂ m₂ ((s₂.heap.objs.size, accObj) :: muI ++ mu₂) (s₂.heap.push accObj) := by simpa using S₃
    obtain ⟨f1, f2, f3, f4, f5⟩ := S₃'.fresh_none
    obtain ⟨ml, hn, _⟩ := S₅.loc
    have k5L : k₅ (s₂.heap.push accObj).objs.size = none := S₅.kown _ (.inl rfl)
    have hLD : (s₂.heap.push accObj).objs.size ≠ s₂.heap.objs.size := by rw [Heap.size_push]; exact Nat.succ_ne_self _
    have aft : After C.G s s₅ := ok.after_trans (ok.after_trans af₁ af₂) (by
      obtain ⟨h₅, tk₅, g₅, ⟨_, rfl⟩, ga, tb⟩ := af₅
      refine ⟨h₅, tk₅, g₅, ⟨_, rfl⟩, ga, TabG.trans (fun ps e => ?_) tb⟩
      exact pushCells_keeps _ _ _ _ (Heap.get?_push_of_some _ (Heap.get?_push_of_some _ e)))
    have all := List.all_eq_true.mp hnm
    have fin := hR (.ref s₂.heap.objs.size) _ m₂ mu₂ s₅ (cenvOf scope C.env (s₂.heap.push accObj).objs.size) ml aft Sb q hkd hn f1 (by rw [Kn.put_ne _ hLD]; exact k5L) (fun p hp => f3 p (by simp [hp])) f4 (Ne.symm f5)
      (fun x hx hl => by
        have hx' := (List.mem_filter.mp hx).1
        have := all _ hx'
        show (mapNames C.env scope.names).lookup x.1 = some .local
        rw [mapNames_lookup]
        have : scope.names.lookup x.1 = some .local := by rw [hl] at this; simpa using this
        rw [this]; rfl)
    cases use with
    | none => exact fin [] _
    | some u => exact fin _ _
end
end Mine

-- LF
namespace Mine
abbrev lst0 : Obj := { cls := .type "list", data := .seq #[] }
abbrev dct0 : Obj := { cls := .type "dict", data := .dict #[] }

section
variable {C : Cx} {k : Kn} {m : Lm} {mu : Mu}

theorem acc_list (w : World) : ∀ (s : Shared) (A : Around) (E : Value → Shared → Prop) (R : Value → Shared → Prop), R (.ref s.heap.objs.size) { s with heap := s.heap.push lst0 } → wpAny (model P w) A (newList []) R E s :=
  fun s A E R h => wpAny_newObj_type h (by size_fits)
theorem acc_dict (w : World) : ∀ (s : Shared) (A : Around) (E : Value → Shared → Prop) (R : Value → Shared → Prop), R (.ref s.heap.objs.size) { s with heap := s.heap.push dct0 } → wpAny (model P w) A newDict R E s :=
  fun s A E R h => wpAny_newObj_type h (by size_fits)

theorem comp_plain {e : PySem.Expr} {scope : Scope} {pos : Pos} {newAcc first : Sem Value} {accObj : Obj} {g : Comprehension} {gs : List Comprehension} {Q : Value → Kn → Lm → Mu → Prop}
    (hcl : clausesOf e = g :: gs) (hs : ∀ x, foldedSetIterable g.iter C.env x = pure x) (hkd : scope.kind = .function) (hnm : namesOk scope.names = true) (hfr : freeOk scope.names C.env = true)
    (hacc : ∀ (s : Shared) (A : Around) (E : Value → Shared → Prop) (R : Value → Shared → Prop), R (.ref s.heap.objs.size) { s with heap := s.heap.push accObj } → wpAny (model P C.w) A newAcc R E s) (hnf : accObj.isFreed = false)
    (h : Mt C k m mu first (fun x k m mu => Mt C k m mu (pyIter x) (fun it k m muI' => ∃ muI mu, muI' = muI ++ mu ∧ CompIn C e scope it accObj m muI mu k (fun v k => Q v k m mu)))) :
    Mt C k m mu (comprehension e scope C.env pos newAcc false first) Q := fun s A E hA S => by
  refine wpAny_compRun hA S hcl hs hkd hnm hfr hacc hnf h fun v k' m' mu' s' cenv ml af S' q hk hn h1 h2 h3 h4 h5 h6 ca co => ?_
  refine wpAny_bind (wpAny_holding (wpAny_comp_letGo hk _ s' ml (fun x hx hl => h6 x (List.mem_reverse.mp hx) hl) hn fun h' m'' _ hs' => wpAny_pure ?_))
  refine ⟨k', m', mu', S.ok.after_trans af ⟨h', s'.toks, s'.gens, ⟨_, rfl⟩, S.ok.refl _, TabG.of_eq (hs'.2 _ (Ne.symm h5))⟩, S'.dead hs' h1 h2 h3 h4 h5, q⟩

theorem Mt_ListComp {elt target iter : PySem.Expr} {ifs : List PySem.Expr} {rest : List Comprehension} {scope : Scope} {pos : Pos} {Q : Value → Kn → Lm → Mu → Prop}
    (h : Mt C k m mu (eval iter C.env) (fun x k m mu => Mt C k m mu (pyIter x) (fun it k m muI' => ∃ muI mu, muI' = muI ++ mu ∧ CompIn C (.ListComp elt (⟨target, iter, ifs, 0⟩ :: rest) scope pos) scope it lst0 m muI mu k (fun v k => Q v k m mu))))
    (hs : ∀ x, foldedSetIterable iter C.env x = pure x := by intro _; rfl) (hkd : scope.kind = .function := by rfl) (hnm : namesOk scope.names = true := by decide) (hfr : freeOk scope.names C.env = true := by rfl) :
    Mt C k m mu (eval (.ListComp elt (⟨target, iter, ifs, 0⟩ :: rest) scope pos) C.env) Q := by
  rw [eval_ListComp]
  exact comp_plain rfl hs hkd hnm hfr (acc_list C.w) rfl h

theorem Mt_DictComp {kx vx target iter : PySem.Expr} {ifs : List PySem.Expr} {rest : List Comprehension} {scope : Scope} {pos : Pos} {Q : Value → Kn → Lm → Mu → Prop}
    (h : Mt C k m mu (eval iter C.env) (fun x k m mu => Mt C k m mu (pyIter x) (fun it k m muI' => ∃ muI mu, muI' = muI ++ mu ∧ CompIn C (.DictComp kx vx (⟨target, iter, ifs, 0⟩ :: rest) scope pos) scope it dct0 m muI mu k (fun v k => Q v k m mu))))
    (hs : ∀ x, foldedSetIterable iter C.env x = pure x := by intro _; rfl) (hkd : scope.kind = .function := by rfl) (hnm : namesOk scope.names = true := by decide) (hfr : freeOk scope.names C.env = true := by rfl) :
    Mt C k m mu (eval (.DictComp kx vx (⟨target, iter, ifs, 0⟩ :: rest) scope pos) C.env) Q := by
  show Mt C k m mu (comprehension (.DictComp kx vx (⟨target, iter, ifs, 0⟩ :: rest) scope pos) scope C.env iter.pos newDict false (eval iter C.env)) Q
  exact comp_plain rfl hs hkd hnm hfr (acc_dict C.w) rfl h

/-- a list comprehension bound to a local: the store goes before the letting go -/
theorem Mt_Assign_swap {elt target iter : PySem.Expr} {ifs : List PySem.Expr} {rest : List Comprehension} {scope : Scope} {cpos pos pos' : Pos} {x : Str} {Q : Flow → Kn → Lm → Mu → Prop}
    (h : Mt C k m mu (eval iter C.env) (fun xv k m mu => Mt C k m mu (pyIter xv) (fun it k m muI' => ∃ muI mu, muI' = muI ++ mu ∧ CompIn C (.ListComp elt (⟨target, iter, ifs, 0⟩ :: rest) scope cpos) scope it lst0 m muI mu k (fun v k => Q .next k (fun y => if y = x then some v else m y) mu))))
    (hsw : swapsWith (.ListComp elt (⟨target, iter, ifs, 0⟩ :: rest) scope cpos) (some (.Name x pos')) pos.line C.env = pure true := by rfl) (hx : C.env.kindOf x = some .local := by rfl)
    (hs : ∀ x, foldedSetIterable iter C.env x = pure x := by intro _; rfl) (hkd : scope.kind = .function := by rfl) (hnm : namesOk scope.names = true := by decide) (hfr : freeOk scope.names C.env = true := by rfl) :
    Mt C k m mu (exec (.Assign [.Name x pos'] (.ListComp elt (⟨target, iter, ifs, 0⟩ :: rest) scope cpos) pos) C.env) Q := by
  show Mt C k m mu (do
    standAt pos
    if ← swapsWith (.ListComp elt (⟨target, iter, ifs, 0⟩ :: rest) scope cpos) (some (.Name x pos')) pos.line C.env then do
      (do let _ ← comprehension (.ListComp elt (⟨target, iter, ifs, 0⟩ :: rest) scope cpos) scope C.env iter.pos (newList []) false (eval iter C.env) (some fun v => assign (.Name x pos') C.env v))
      pure .next
    else do
      let v ← eval (.ListComp elt (⟨target, iter, ifs, 0⟩ :: rest) scope cpos) C.env
      assignStores C.env v (← swappedStores [.Name x pos'] (.ListComp elt (⟨target, iter, ifs, 0⟩ :: rest) scope cpos) C.env) ((assignEach [.Name x pos'] C.env).map (·.2))) Q
  refine Mt_at ?_
  rw [hsw]
  refine Mt_bind (Mt_pure ?_)
  simp only [if_true]
  intro s A E hA S
  refine wpAny_bind (wpAny_bind (wpAny_compRun (C := C) (Q := fun v k m mu => Q .next k (fun y => if y = x then some v else m y) mu) hA S rfl hs hkd hnm hfr (acc_list C.w) rfl h fun v k' m' mu' s' cenv ml af S' q hk hn h1 h2 h3 h4 h5 h6 ca co => ?_))
  refine wpAny_bind (wpAny_rule (wpAny_bind (wpAny_holding ?_)))
  have hne : cenv.locals ≠ C.env.locals := fun e => h4 _ (.inl rfl) e.symm
  obtain ⟨mL, hnL, hmL⟩ := S'.loc
  refine wpAny_assign_Name (wpAny_storeName_local hx hnL (fun h₂ hn₂ hs₂ => ?_) (by rw [S'.ok.kind]; rfl))
  have S₂ := S'.locals hnL hmL hn₂ hs₂ hx
  refine wpAny_bind (wpAny_comp_letGo hk _ _ ml (fun y hy hl => ?_) (hn.sameBut hs₂ hne) fun h' m'' _ hs' => wpAny_pure (wpAny_pure (wpAny_pure ?_)))
  · refine h6 y ?_ hl
    have : y ∈ (compVars scope).reverse := by
      rcases List.mem_append.mp hy with hy | hy
      · exact List.mem_of_mem_drop hy
      · exact List.mem_of_mem_take hy
    exact List.mem_reverse.mp this
  · refine ⟨k', _, mu', S.ok.after_trans af ⟨h', s'.toks + 1, s'.gens, ⟨_, rfl⟩, S.ok.refl _, TabG.trans (TabG.of_eq (hs₂.2 _ fun q => S'.ok.ownT _ (.inl rfl) q.symm)) (TabG.of_eq (hs'.2 _ (Ne.symm h5)))⟩, S₂.dead hs' h1 h2 h3 h4 h5, q⟩
/-- a dict comprehension bound to a local: the store goes before the letting go -/
theorem Mt_Assign_swapD {kx vx target iter : PySem.Expr} {ifs : List PySem.Expr} {rest : List Comprehension} {scope : Scope} {cpos pos pos' : Pos} {x : Str} {Q : Flow → Kn → Lm → Mu → Prop}
    (h : Mt C k m mu (eval iter C.env) (fun xv k m mu => Mt C k m mu (pyIter xv) (fun it k m muI' => ∃ muI mu, muI' = muI ++ mu ∧ CompIn C (.DictComp kx vx (⟨target, iter, ifs, 0⟩ :: rest) scope cpos) scope it dct0 m muI mu k (fun v k => Q .next k (fun y => if y = x then some v else m y) mu))))
    (hsw : swapsWith (.DictComp kx vx (⟨target, iter, ifs, 0⟩ :: rest) scope cpos) (some (.Name x pos')) pos.line C.env = pure true := by rfl) (hx : C.env.kindOf x = some .local := by rfl)
    (hs : ∀ x, foldedSetIterable iter C.env x = pure x := by intro _; rfl) (hkd : scope.kind = .function := by rfl) (hnm : namesOk scope.names = true := by decide) (hfr : freeOk scope.names C.env = true := by rfl) :
    Mt C k m mu (exec (.Assign [.Name x pos'] (.DictComp kx vx (⟨target, iter, ifs, 0⟩ :: rest) scope cpos) pos) C.env) Q := by
  show Mt C k m mu (do
    standAt pos
    if ← swapsWith (.DictComp kx vx (⟨target, iter, ifs, 0⟩ :: rest) scope cpos) (some (.Name x pos')) pos.line C.env then do
      (do let _ ← comprehension (.DictComp kx vx (⟨target, iter, ifs, 0⟩ :: rest) scope cpos) scope C.env iter.pos newDict false (eval iter C.env) (some fun v => assign (.Name x pos') C.env v))
      pure .next
    else do
      let v ← eval (.DictComp kx vx (⟨target, iter, ifs, 0⟩ :: rest) scope cpos) C.env
      assignStores C.env v (← swappedStores [.Name x pos'] (.DictComp kx vx (⟨target, iter, ifs, 0⟩ :: rest) scope cpos) C.env) ((assignEach [.Name x pos'] C.env).map (·.2))) Q
  refine Mt_at ?_
  rw [hsw]
  refine Mt_bind (Mt_pure ?_)
  simp only [if_true]
  intro s A E hA S
  refine wpAny_bind (wpAny_bind (wpAny_compRun (C := C) (Q := fun v k m mu => Q .next k (fun y => if y = x then some v else m y) mu) hA S rfl hs hkd hnm hfr (acc_dict C.w) rfl h fun v k' m' mu' s' cenv ml af S' q hk hn h1 h2 h3 h4 h5 h6 ca co => ?_))
  refine wpAny_bind (wpAny_rule (wpAny_bind (wpAny_holding ?_)))
  have hne : cenv.locals ≠ C.env.locals := fun e => h4 _ (.inl rfl) e.symm
  obtain ⟨mL, hnL, hmL⟩ := S'.loc
  refine wpAny_assign_Name (wpAny_storeName_local hx hnL (fun h₂ hn₂ hs₂ => ?_) (by rw [S'.ok.kind]; rfl))
  have S₂ := S'.locals hnL hmL hn₂ hs₂ hx
  refine wpAny_bind (wpAny_comp_letGo hk _ _ ml (fun y hy hl => ?_) (hn.sameBut hs₂ hne) fun h' m'' _ hs' => wpAny_pure (wpAny_pure (wpAny_pure ?_)))
  · refine h6 y ?_ hl
    have : y ∈ (compVars scope).reverse := by
      rcases List.mem_append.mp hy with hy | hy
      · exact List.mem_of_mem_drop hy
      · exact List.mem_of_mem_take hy
    exact List.mem_reverse.mp this
  · refine ⟨k', _, mu', S.ok.after_trans af ⟨h', s'.toks + 1, s'.gens, ⟨_, rfl⟩, S.ok.refl _, TabG.trans (TabG.of_eq (hs₂.2 _ fun q => S'.ok.ownT _ (.inl rfl) q.symm)) (TabG.of_eq (hs'.2 _ (Ne.symm h5)))⟩, S₂.dead hs' h1 h2 h3 h4 h5, q⟩
end
end Mine

-- LG
namespace Mine
def At (k : Kn) (mu : Mu) (a : Addr) (o : Obj) : Prop := k a = some o ∨ (a, o) ∈ mu
def OList (o : Obj) (vs : List Value) : Prop := o.cls = .type "list" ∧ o.dict = none ∧ o.slots = #[] ∧ ∃ n, o.data = .seq vs.toArray n
def OTup (o : Obj) (vs : List Value) : Prop := o.cls = .type "tuple" ∧ o.dict = none ∧ o.slots = #[] ∧ ∃ n, o.data = .seq vs.toArray n
def ODict (w : World) (o : Obj) (kvs : List (Int × Value)) : Prop := o.ExactDict ∧ ∃ es ep, o.data = .dict es ep ∧ PySem.KeysOf (intKind P w) es ∧ Pairs (intKind P w) es.toList kvs ∧ (kvs.map (·.1)).Nodup
def OLIter (o : Obj) (l : Addr) (i : Nat) : Prop := o.cls = .type "list_iterator" ∧ o.data = .fields #[.ref l, .int i 0]
def OTIter (o : Obj) (l : Addr) (i : Nat) : Prop := o.cls = .type "tuple_iterator" ∧ o.data = .fields #[.ref l, .int i 0]
def OKIter (o : Obj) (d : Addr) (i n ep : Nat) : Prop := o.cls = .type "dict_keyiterator" ∧ o.data = .fields #[.ref d, .int i 0, .int n 0, .int ep 0]

section
variable {α β : Type} {C : Cx} {k : Kn} {m : Lm} {mu : Mu}
theorem Stt.at {h : Heap} {a : Addr} {o : Obj} (S : Stt C k m mu h) (x : At k mu a o) : h.get? a = some o := x.elim (fun e => S.kin _ _ e) fun e => S.own _ e

theorem OList.isList {h : Heap} {a : Addr} {o : Obj} {vs : List Value} (x : OList o vs) (e : h.get? a = some o) : h.IsList a vs.toArray := ⟨o, e, x.1, x.2.2.2⟩
theorem OTup.isTup {h : Heap} {a : Addr} {o : Obj} {vs : List Value} (x : OTup o vs) (e : h.get? a = some o) : IsTup h a vs.toArray := ⟨o, e, x.1, x.2.2.2⟩
theorem ODict.dictOf {w : World} {h : Heap} {a : Addr} {o : Obj} {kvs : List (Int × Value)} (x : ODict w o kvs) (e : h.get? a = some o) : h.DictOf (intKind P w) a kvs :=
  let ⟨hx, es, ep, r⟩ := x; ⟨o, es, ep, e, hx, r⟩
theorem ODict.of {w : World} {h : Heap} {a : Addr} {kvs : List (Int × Value)} (x : h.DictOf (intKind P w) a kvs) : ∃ o, h.get? a = some o ∧ ODict w o kvs :=
  let ⟨o, es, ep, e, hx, r⟩ := x; ⟨o, e, hx, es, ep, r⟩

theorem Mt_turn {t : Sem α} {l1 l2 : Mu} {a : Addr} {o : Obj} {Pr : α → Obj → Prop} {Q : α → Kn → Lm → Mu → Prop} (hmu : mu = l1 ++ (a, o) :: l2)
    (h : ∀ (s : Shared) (A : Around) (E : Value → Shared → Prop) (R : α → Shared → Prop), OkA C.n A → Stt C k m mu s.heap →
      (∀ v o' h' tk, Pr v o' → (∀ b ob, b ≠ a → s.heap.get? b = some ob → h'.get? b = some ob) → h'.get? a = some o' → R v { s with heap := h', toks := tk }) → wpAny (model P C.w) A t R E s)
    (hq : ∀ v o', Pr v o' → Q v k m (l1 ++ (a, o') :: l2)) : Mt C k m mu t Q := fun s A E hA S => by
  subst hmu
  refine h s A E _ hA S fun v o' h' tk hp hk ho => ?_
  have hT : a ≠ TB := S.muT (a, o) (List.mem_append_right _ (.head _))
  refine ⟨k, m, _, ⟨h', tk, s.gens, ⟨_, rfl⟩, S.ok.refl _, fun ps e => (hk _ _ (Ne.symm hT) e)⟩, S.turned hk ho, hq v o' hp⟩

/-- a new object, known from now on -/
theorem Stt.known {h h' : Heap} {D : Addr} {o : Obj} (S : Stt C k m mu h) (hk : ∀ b ob, h.get? b = some ob → h'.get? b = some ob) (hD : h.get? D = none) (ho : h'.get? D = some o) : Stt C (k.put D o) m mu h' := by
  have kD : k D = none := by
    cases e : k D with
    | none => rfl
    | some ob => have := S.kin _ _ e; rw [hD] at this; cases this
  refine S.grown (fun b ob _ e => hk b ob e) (fun ps e => (hk _ _ e)) (fun b ob e => ?_) (Kn.le_put kD) fun b ob e => Kn.put_ne _ fun q => by rw [q, hD] at e; cases e
  by_cases q : b = D
  · subst q; rw [Kn.put_self] at e; cases e; exact ho
  · rw [Kn.put_ne _ q] at e; exact hk _ _ (S.kin _ _ e)
theorem fresh_size (h : Heap) : h.get? h.objs.size = none := by
  cases e : h.get? h.objs.size with
  | none => rfl
  | some o => exact absurd (Heap.lt_size e) (Nat.lt_irrefl _)

theorem Mt_new {t : Sem Value} {Pr : Obj → Prop} {Q : Value → Kn → Lm → Mu → Prop}
    (h : ∀ (s : Shared) (A : Around) (E : Value → Shared → Prop) (R : Value → Shared → Prop), OkA C.n A → Stt C k m mu s.heap →
      (∀ o h' tk, Pr o → (∀ b ob, s.heap.get? b = some ob → h'.get? b = some ob) → h'.get? s.heap.objs.size = some o → R (.ref s.heap.objs.size) { s with heap := h', toks := tk }) → wpAny (model P C.w) A t R E s)
    (hq : ∀ D o, k D = none → TB < D → Pr o → Q (.ref D) (k.put D o) m mu) : Mt C k m mu t Q := fun s A E hA S => by
  refine h s A E _ hA S fun o h' tk hp hk ho => ?_
  have hD := fresh_size s.heap
  exact ⟨_, m, mu, ⟨h', tk, s.gens, ⟨_, rfl⟩, S.ok.refl _, fun ps e => (hk _ _ e)⟩, S.known hk hD ho, hq _ o S.fresh_none.2.1 S.lt_size hp⟩

/-- what is known may be turned into the frame's own, if it is new -/
theorem Stt.thaw {h : Heap} {D : Addr} {o : Obj} (S : Stt C (k.put D o) m mu h) (kD : k D = none) (hb : C.base.get? D = none) : Stt C k m ((D, o) :: mu) h := by
  have ho : h.get? D = some o := S.kin _ _ (Kn.put_self k D o)
  have lt : ∀ b, k b ≠ none → b ≠ D := fun b hb q => hb (q ▸ kD)
  refine ⟨S.ok, S.loc, S.cel, S.fre, S.keep, fun b ob e => S.kin b ob (Kn.le_put kD b ob e), fun p hp => ?_, fun a ha => ?_, fun a ha p hp => ?_, fun p hp => ?_, fun p hp => ?_, ?_, fun b ob e => ?_, fun b ob e => ?_, S.tab, ?_, fun p hp => ?_⟩
  · rcases List.mem_cons.mp hp with rfl | hp
    · exact ho
    · exact S.own p hp
  · have := S.kown a ha
    by_cases q : a = D
    · rw [q]; exact kD
    · rwa [Kn.put_ne _ q] at this
  · rcases List.mem_cons.mp hp with rfl | hp
    · intro q
      have q' : D = a := q
      have := S.kown a ha
      rw [← q', Kn.put_self] at this; cases this
    · exact S.muown a ha p hp
  · rcases List.mem_cons.mp hp with rfl | hp
    · exact kD
    · have := S.kmu p hp
      by_cases q : p.1 = D
      · rw [q]; exact kD
      · rwa [Kn.put_ne _ q] at this
  · rcases List.mem_cons.mp hp with rfl | hp
    · exact hb
    · exact S.bmu p hp
  · rw [List.map_cons, List.nodup_cons]
    refine ⟨fun hm => ?_, S.nd⟩
    obtain ⟨p, hp, e⟩ := List.mem_map.mp hm
    have := S.kmu p hp
    rw [e, Kn.put_self] at this; cases this
  · have := S.ext b ob e
    by_cases q : b = D
    · subst q
      have := S.ok.k0in _ _ e; rw [hb] at this; cases this
    · rwa [Kn.put_ne _ q] at this
  · have := S.extb b ob e
    rwa [Kn.put_ne _ fun q => by rw [q, hb] at e; cases e] at this
  · have := S.kT
    by_cases q : TB = D
    · rw [q]; exact kD
    · rwa [Kn.put_ne _ q] at this
  · rcases List.mem_cons.mp hp with rfl | hp
    · intro q
      have q' : D = TB := q
      have := S.kT
      rw [← q', Kn.put_self] at this; cases this
    · exact S.muT p hp

theorem Mt_newM {t : Sem Value} {Pr : Obj → Prop} {Q : Value → Kn → Lm → Mu → Prop}
    (h : ∀ (s : Shared) (A : Around) (E : Value → Shared → Prop) (R : Value → Shared → Prop), OkA C.n A → Stt C k m mu s.heap →
      (∀ o h' tk, Pr o → (∀ b ob, s.heap.get? b = some ob → h'.get? b = some ob) → h'.get? s.heap.objs.size = some o → R (.ref s.heap.objs.size) { s with heap := h', toks := tk }) → wpAny (model P C.w) A t R E s)
    (hq : ∀ D o, TB < D → Pr o → Q (.ref D) k m ((D, o) :: mu)) : Mt C k m mu t Q := fun s A E hA S => by
  refine h s A E _ hA S fun o h' tk hp hk ho => ?_
  have hD := fresh_size s.heap
  exact ⟨_, m, _, ⟨h', tk, s.gens, ⟨_, rfl⟩, S.ok.refl _, fun ps e => (hk _ _ e)⟩, (S.known hk hD ho).thaw S.fresh_none.2.1 S.fresh_none.1, hq _ o S.lt_size hp⟩

/-- and the other way: the frame's own is known from now on -/
theorem Stt.freeze {h : Heap} {D : Addr} {o : Obj} {l1 l2 : Mu} (S : Stt C k m (l1 ++ (D, o) :: l2) h) : Stt C (k.put D o) m (l1 ++ l2) h := by
  have hmem : (D, o) ∈ l1 ++ (D, o) :: l2 := List.mem_append_right _ (.head _)
  have sub : ∀ p ∈ l1 ++ l2, p ∈ l1 ++ (D, o) :: l2 := fun p hp => (List.mem_append.mp hp).elim (fun h => List.mem_append_left _ h) fun h => List.mem_append_right _ (.tail _ h)
  have nd := S.nd
  rw [List.map_append, List.map_cons] at nd
  have nd' := List.nodup_append.mp nd
  have n2 := List.nodup_cons.mp nd'.2.1
  have ne : ∀ p ∈ l1 ++ l2, p.1 ≠ D := fun p hp q => by
    rcases List.mem_append.mp hp with hp | hp
    · exact nd'.2.2 p.1 (List.mem_map_of_mem hp) D (.head _) q
    · exact n2.1 (List.mem_map.mpr ⟨p, hp, q⟩)
  have kD : k D = none := S.kmu _ hmem
  have bD : C.base.get? D = none := S.bmu _ hmem
  refine ⟨S.ok, S.loc, S.cel, S.fre, S.keep, fun b ob e => ?_, fun p hp => S.own p (sub p hp), fun a ha => ?_, fun a ha p hp => S.muown a ha p (sub p hp), fun p hp => ?_, fun p hp => S.bmu p (sub p hp), ?_, S.ext.trans (Kn.le_put kD), fun b ob e => ?_, S.tab, ?_, fun p hp => S.muT p (sub p hp)⟩
  · by_cases q : b = D
    · subst q; rw [Kn.put_self] at e; cases e; exact S.own _ hmem
    · rw [Kn.put_ne _ q] at e; exact S.kin b ob e
  · rw [Kn.put_ne _ fun q => S.muown a ha _ hmem q.symm]; exact S.kown a ha
  · rw [Kn.put_ne _ (ne p hp)]; exact S.kmu p (sub p hp)
  · rw [List.map_append]
    refine List.nodup_append.mpr ⟨nd'.1, n2.2, fun a ha b hb => nd'.2.2 a ha b (.tail _ hb)⟩
  · rw [Kn.put_ne _ fun q => by rw [q, bD] at e; cases e]; exact S.extb b ob e
  · rw [Kn.put_ne _ fun q => S.muT _ hmem q.symm]; exact S.kT

theorem Mt_freeze {t : Sem α} {D : Addr} {o : Obj} {l1 l2 : Mu} {Q : α → Kn → Lm → Mu → Prop} (h : Mt C (k.put D o) m (l1 ++ l2) t Q) : Mt C k m (l1 ++ (D, o) :: l2) t Q := fun s A E hA S => h s A E hA S.freeze
theorem Mt_drop {t : Sem α} {p : Addr × Obj} {l1 l2 : Mu} {Q : α → Kn → Lm → Mu → Prop} (h : Mt C k m (l1 ++ l2) t Q) : Mt C k m (l1 ++ p :: l2) t Q := fun s A E hA S => by
  have S' := Stt.freeze (D := p.1) (o := p.2) S
  have hmem : p ∈ l1 ++ p :: l2 := List.mem_append_right _ (.head _)
  have kD : k p.1 = none := S.kmu _ hmem
  have ne : ∀ b ob, k b = some ob → b ≠ p.1 := fun b ob e q => by rw [q, kD] at e; cases e
  refine h s A E hA ⟨S.ok, S.loc, S.cel, S.fre, S.keep, S.kin, S'.own, S.kown, S'.muown, fun q hq => ?_, S'.bmu, S'.nd, S.ext, S.extb, S.tab, S.kT, S'.muT⟩
  have := S'.kmu q hq
  by_cases e : q.1 = p.1
  · rw [e, Kn.put_self] at this; cases this
  · rwa [Kn.put_ne _ e] at this
end
end Mine

-- LH
namespace Mine
section
variable {α β : Type} {C : Cx} {k : Kn} {m : Lm} {mu : Mu}

theorem Stt.drop {h : Heap} {p : Addr × Obj} {l1 l2 : Mu} (S : Stt C k m (l1 ++ p :: l2) h) : Stt C k m (l1 ++ l2) h := by
  have S' := Stt.freeze (D := p.1) (o := p.2) S
  have hmem : p ∈ l1 ++ p :: l2 := List.mem_append_right _ (.head _)
  have kD : k p.1 = none := S.kmu _ hmem
  refine ⟨S.ok, S.loc, S.cel, S.fre, S.keep, S.kin, S'.own, S.kown, S'.muown, fun q hq => ?_, S'.bmu, S'.nd, S.ext, S.extb, S.tab, S.kT, S'.muT⟩
  have := S'.kmu q hq
  by_cases e : q.1 = p.1
  · rw [e, Kn.put_self] at this; cases this
  · rwa [Kn.put_ne _ e] at this
/-- what is dead may turn -/
theorem Stt.deadX {h h' : Heap} {L' : Addr} (S : Stt C k m mu h) (hs : ∀ b o, b ≠ L' → h.get? b = some o → h'.get? b = some o) (h1 : C.base.get? L' = none) (h2 : k L' = none) (h3 : ∀ p ∈ mu, p.1 ≠ L') (h4 : ∀ a, C.own a → a ≠ L') (h5 : L' ≠ TB) : Stt C k m mu h' := by
  obtain ⟨ml, hn, hm⟩ := S.loc
  refine ⟨S.ok, ⟨ml, hn.at fun o e => hs _ _ (h4 _ (.inl rfl)) e, hm⟩, fun x c hx hc => ?_, S.fre, fun b o e => hs b o (fun q => by rw [q, h1] at e; cases e) (S.keep b o e), fun b o e => hs b o (fun q => by rw [q, h2] at e; cases e) (S.kin b o e), fun p hp => hs _ _ (h3 p hp) (S.own p hp), S.kown, S.muown, S.kmu, S.bmu, S.nd, S.ext, S.extb, ?_, S.kT, S.muT⟩
  · obtain ⟨o, h1, h2⟩ := S.cel x c hx hc
    exact ⟨o, hs _ _ (h4 _ (.inr ⟨x, hx, hc⟩)) h1, h2⟩
  · obtain ⟨ps, e⟩ := S.tab
    exact ⟨ps, hs _ _ (Ne.symm h5) e⟩
theorem Stt.lose {h h' : Heap} {a : Addr} {o : Obj} {l1 l2 : Mu} (S : Stt C k m (l1 ++ (a, o) :: l2) h) (hs : ∀ b o, b ≠ a → h.get? b = some o → h'.get? b = some o) : Stt C k m (l1 ++ l2) h' := by
  have hmem : (a, o) ∈ l1 ++ (a, o) :: l2 := List.mem_append_right _ (.head _)
  have nd := S.nd
  rw [List.map_append, List.map_cons] at nd
  have nd' := List.nodup_append.mp nd
  refine S.drop.deadX hs (S.bmu _ hmem) (S.kmu _ hmem) (fun p hp q => ?_) (fun b hb q => S.muown b hb _ hmem q.symm) (S.muT _ hmem)
  rcases List.mem_append.mp hp with hp | hp
  · exact nd'.2.2 p.1 (List.mem_map_of_mem hp) a (.head _) q
  · exact (List.nodup_cons.mp nd'.2.1).1 (List.mem_map.mpr ⟨p, hp, q⟩)
theorem Mt_lose {t : Sem α} {a : Addr} {o : Obj} {l1 l2 : Mu} {Pr : α → Prop} {Q : α → Kn → Lm → Mu → Prop} (hmu : mu = l1 ++ (a, o) :: l2)
    (h : ∀ (s : Shared) (A : Around) (E : Value → Shared → Prop) (R : α → Shared → Prop), OkA C.n A → Stt C k m mu s.heap →
      (∀ v h' tk, Pr v → (∀ b ob, b ≠ a → s.heap.get? b = some ob → h'.get? b = some ob) → R v { s with heap := h', toks := tk }) → wpAny (model P C.w) A t R E s)
    (hq : ∀ v, Pr v → Q v k m (l1 ++ l2)) : Mt C k m mu t Q := fun s A E hA S => by
  subst hmu
  refine h s A E _ hA S fun v h' tk hp hk => ?_
  have hT : a ≠ TB := S.muT (a, o) (List.mem_append_right _ (.head _))
  exact ⟨k, m, _, ⟨h', tk, s.gens, ⟨_, rfl⟩, S.ok.refl _, fun ps e => (hk _ _ (Ne.symm hT) e)⟩, S.lose hk, hq v hp⟩
/-! lists and tuples -/
theorem Mt_newTuple {vs : List Value} {Q : Value → Kn → Lm → Mu → Prop} (h : ∀ D o, k D = none → TB < D → OTup o vs → Q (.ref D) (k.put D o) m mu) (hsz : vs.length ≤ sizeLine := by size_fits) : Mt C k m mu (newTuple vs) Q :=
  Mt_new (Pr := fun o => OTup o vs) (fun s A E R hA S hR => wpAny_newObj_type (hR _ _ s.toks ⟨rfl, rfl, rfl, 0, rfl⟩ (fun b ob e => Heap.get?_push_of_some _ e) (Heap.get?_push_size _ rfl))
    (by show vs.toArray.size ≤ sizeLine; rw [List.size_toArray]; exact hsz)) h
theorem Mt_newList {vs : List Value} {Q : Value → Kn → Lm → Mu → Prop} (h : ∀ D o, k D = none → TB < D → OList o vs → Q (.ref D) (k.put D o) m mu) (hsz : vs.length ≤ sizeLine := by size_fits) : Mt C k m mu (newList vs) Q :=
  Mt_new (Pr := fun o => OList o vs) (fun s A E R hA S hR => wpAny_newObj_type (hR _ _ s.toks ⟨rfl, rfl, rfl, 0, rfl⟩ (fun b ob e => Heap.get?_push_of_some _ e) (Heap.get?_push_size _ rfl))
    (by show vs.toArray.size ≤ sizeLine; rw [List.size_toArray]; exact hsz)) h
theorem Mt_newListM {vs : List Value} {Q : Value → Kn → Lm → Mu → Prop} (h : ∀ D o, TB < D → OList o vs → Q (.ref D) k m ((D, o) :: mu)) (hsz : vs.length ≤ sizeLine := by size_fits) : Mt C k m mu (newList vs) Q :=
  Mt_newM (Pr := fun o => OList o vs) (fun s A E R hA S hR => wpAny_newObj_type (hR _ _ s.toks ⟨rfl, rfl, rfl, 0, rfl⟩ (fun b ob e => Heap.get?_push_of_some _ e) (Heap.get?_push_size _ rfl))
    (by show vs.toArray.size ≤ sizeLine; rw [List.size_toArray]; exact hsz)) h

theorem Mt_pyIter_list {l : Addr} {o : Obj} {vs : List Value} {Q : Value → Kn → Lm → Mu → Prop} (ha : At k mu l o) (hl : OList o vs) (h : ∀ it oi, TB < it → OLIter oi l 0 → Q (.ref it) k m ((it, oi) :: mu)) : Mt C k m mu (pyIter (.ref l)) Q :=
  Mt_newM (Pr := fun o => OLIter o l 0) (fun s A E R hA S hR => wpAny_pyIter_list (hl.isList (S.at ha)) (hR _ _ s.toks ⟨rfl, rfl⟩ (fun b ob e => Heap.get?_push_of_some _ e) (Heap.get?_push_size _ rfl))) h
theorem Mt_pyIter_tup {l : Addr} {o : Obj} {vs : List Value} {Q : Value → Kn → Lm → Mu → Prop} (ha : At k mu l o) (hl : OTup o vs) (h : ∀ it oi, TB < it → OTIter oi l 0 → Q (.ref it) k m ((it, oi) :: mu)) : Mt C k m mu (pyIter (.ref l)) Q :=
  Mt_newM (Pr := fun o => OTIter o l 0) (fun s A E R hA S hR => iter_tuple (hl.isTup (S.at ha)) (hR _ _ s.toks ⟨rfl, rfl⟩ (fun b ob e => Heap.get?_push_of_some _ e) (Heap.get?_push_size _ rfl))) h
theorem At.ne {h : Heap} {a b : Addr} {oa ob : Obj} (S : Stt C k m mu h) (x : At k mu a oa) (y : At k mu b ob) (hne : oa.cls ≠ ob.cls) : a ≠ b := fun e => by
  subst e
  have := (S.at x).symm.trans (S.at y)
  rw [Option.some.inj this] at hne; exact hne rfl

theorem mem_mid {p : Addr × Obj} {l1 l2 : Mu} : p ∈ l1 ++ p :: l2 := List.mem_append_right _ (.head _)
theorem Mt_next_list {l1 l2 : Mu} {it l : Addr} {oi o : Obj} {i : Nat} {vs : List Value} {x : Value} {Q : Option Value → Kn → Lm → Mu → Prop} (hmu : mu = l1 ++ (it, oi) :: l2) (hi : OLIter oi l i) (ha : At k mu l o) (hl : OList o vs) (hx : vs[i]? = some x)
    (h : ∀ oi', OLIter oi' l (i + 1) → Q (some x) k m (l1 ++ (it, oi') :: l2)) : Mt C k m mu (pyNext (.ref it)) Q :=
  Mt_turn (Pr := fun v o' => v = some x ∧ OLIter o' l (i + 1)) hmu (fun s A E R hA S hR =>
    wpAny_pyNext_list_item ⟨oi, S.own _ (hmu ▸ mem_mid), hi⟩ (hl.isList (S.at ha)) (by simpa using hx) fun h' ⟨oi', ho', hi'⟩ hs =>
      hR _ oi' h' s.toks ⟨rfl, hi'⟩ (fun b ob hb e => (hs.2 b hb).trans e) ho') fun v o' ⟨e, hi'⟩ => e ▸ h o' hi'
theorem Mt_next_list_end {l1 l2 : Mu} {it l : Addr} {oi o : Obj} {i : Nat} {vs : List Value} {Q : Option Value → Kn → Lm → Mu → Prop} (hmu : mu = l1 ++ (it, oi) :: l2) (hi : OLIter oi l i) (ha : At k mu l o) (hl : OList o vs) (hx : vs.length ≤ i)
    (h : Q none k m (l1 ++ l2)) : Mt C k m mu (pyNext (.ref it)) Q :=
  Mt_lose (Pr := fun v => v = none) hmu (fun s A E R hA S hR => wpAny_pyNext_list_end hA.handled ⟨oi, S.own _ (hmu ▸ mem_mid), hi⟩ (hl.isList (S.at ha)) (by simpa using hx) fun h' hs => hR _ h' s.toks rfl hs) fun v e => e ▸ h
theorem Mt_next_tup {l1 l2 : Mu} {it l : Addr} {oi o : Obj} {i : Nat} {vs : List Value} {x : Value} {Q : Option Value → Kn → Lm → Mu → Prop} (hmu : mu = l1 ++ (it, oi) :: l2) (hi : OTIter oi l i) (ha : At k mu l o) (hl : OTup o vs) (hx : vs[i]? = some x)
    (h : ∀ oi', OTIter oi' l (i + 1) → Q (some x) k m (l1 ++ (it, oi') :: l2)) : Mt C k m mu (pyNext (.ref it)) Q :=
  Mt_turn (Pr := fun v o' => v = some x ∧ OTIter o' l (i + 1)) hmu (fun s A E R hA S hR =>
    next_tuple_item ⟨oi, S.own _ (hmu ▸ mem_mid), hi⟩ (hl.isTup (S.at ha)) (by simpa using hx) fun h' ⟨oi', ho', hi'⟩ hs =>
      hR _ oi' h' s.toks ⟨rfl, hi'⟩ (fun b ob hb e => (hs.2 b hb).trans e) ho') fun v o' ⟨e, hi'⟩ => e ▸ h o' hi'
theorem Mt_next_tup_end {l1 l2 : Mu} {it l : Addr} {oi o : Obj} {i : Nat} {vs : List Value} {Q : Option Value → Kn → Lm → Mu → Prop} (hmu : mu = l1 ++ (it, oi) :: l2) (hi : OTIter oi l i) (ha : At k mu l o) (hl : OTup o vs) (hx : vs.length ≤ i)
    (h : Q none k m (l1 ++ l2)) : Mt C k m mu (pyNext (.ref it)) Q :=
  Mt_lose (Pr := fun v => v = none) hmu (fun s A E R hA S hR => next_tuple_end hA.handled ⟨oi, S.own _ (hmu ▸ mem_mid), hi⟩ (hl.isTup (S.at ha)) (by simpa using hx) fun h' hs => hR _ h' s.toks rfl hs) fun v e => e ▸ h

/-! dicts by ints -/
theorem notSys {d : Addr} {w : World} {o : Obj} {kvs : List (Int × Value)} {h : Heap} (hP : Prog w h) (x : ODict w o kvs) (e : h.get? d = some o) : (d == sysModules) = true → (d == sysModules) = true := id

def ODictE (w : World) (o : Obj) (kvs : List (Int × Value)) (ep : Nat) : Prop := o.ExactDict ∧ ∃ es, o.data = .dict es ep ∧ PySem.KeysOf (intKind P w) es ∧ Pairs (intKind P w) es.toList kvs ∧ (kvs.map (·.1)).Nodup
theorem ODict.ep {w : World} {o : Obj} {kvs : List (Int × Value)} (x : ODict w o kvs) : ∃ ep, ODictE w o kvs ep := let ⟨hx, es, ep, r⟩ := x; ⟨ep, hx, es, r⟩
theorem ODictE.dictAt {w : World} {h : Heap} {a : Addr} {o : Obj} {kvs : List (Int × Value)} {ep : Nat} (x : ODictE w o kvs ep) (e : h.get? a = some o) : h.DictAt (intKind P w) a kvs ep := let ⟨hx, es, r⟩ := x; ⟨o, es, e, hx, r⟩
theorem Mt_pyIter_dict {d : Addr} {o : Obj} {kvs : List (Int × Value)} {ep : Nat} {Q : Value → Kn → Lm → Mu → Prop} (lo : (d == sysModules) = false) (ha : At k mu d o) (hl : ODictE C.w o kvs ep) (h : ∀ it oi, TB < it → OKIter oi d 0 kvs.length ep → Q (.ref it) k m ((it, oi) :: mu)) : Mt C k m mu (pyIter (.ref d)) Q :=
  Mt_newM (Pr := fun o => OKIter o d 0 kvs.length ep) (fun s A E R hA S hR => wpAny_pyIter_dict (knd := intKind P C.w) lo (hl.dictAt (S.at ha)) (hR _ _ s.toks ⟨rfl, rfl⟩ (fun b ob e => Heap.get?_push_of_some _ e) (Heap.get?_push_size _ rfl))) h
theorem isInt_shape {x : Int} {v : Value} (h : Value.isInt x v = true) : ∃ t, v = .int x t := by
  cases v with
  | int i t => exact ⟨t, by have : i = x := by simpa [Value.isInt] using h
                            rw [this]⟩
  | _ => simp [Value.isInt] at h
theorem Mt_next_dict {l1 l2 : Mu} {it d : Addr} {oi o : Obj} {i ep : Nat} {kvs : List (Int × Value)} {x : Int} {u : Value} {Q : Option Value → Kn → Lm → Mu → Prop} (hmu : mu = l1 ++ (it, oi) :: l2) (hi : OKIter oi d i kvs.length ep) (ha : At k mu d o) (hl : ODictE C.w o kvs ep) (hx : kvs[i]? = some (x, u))
    (h : ∀ oi' t, OKIter oi' d (i + 1) kvs.length ep → Q (some (.int x t)) k m (l1 ++ (it, oi') :: l2)) : Mt C k m mu (pyNext (.ref it)) Q :=
  Mt_turn (Pr := fun v o' => ∃ t, v = some (.int x t) ∧ OKIter o' d (i + 1) kvs.length ep) hmu (fun s A E R hA S hR =>
    wpAny_pyNext_dict_item (knd := intKind P C.w) ⟨oi, S.own _ (hmu ▸ mem_mid), hi⟩ (hl.dictAt (S.at ha)) hx fun key h' hk ⟨oi', ho', hi'⟩ hs => by
      obtain ⟨t, rfl⟩ := isInt_shape hk
      exact hR _ oi' h' s.toks ⟨t, rfl, hi'⟩ (fun b ob hb e => (hs.2 b hb).trans e) ho') fun v o' ⟨t, e, hi'⟩ => e ▸ h o' t hi'
theorem Mt_next_dict_end {l1 l2 : Mu} {it d : Addr} {oi o : Obj} {i ep : Nat} {kvs : List (Int × Value)} {Q : Option Value → Kn → Lm → Mu → Prop} (hmu : mu = l1 ++ (it, oi) :: l2) (hi : OKIter oi d i kvs.length ep) (ha : At k mu d o) (hl : ODictE C.w o kvs ep) (hx : kvs.length ≤ i)
    (h : Q none k m (l1 ++ l2)) : Mt C k m mu (pyNext (.ref it)) Q :=
  Mt_lose (Pr := fun v => v = none) hmu (fun s A E R hA S hR => wpAny_pyNext_dict_end (knd := intKind P C.w) hA.handled ⟨oi, S.own _ (hmu ▸ mem_mid), hi⟩ (hl.dictAt (S.at ha)) (by simpa using hx) fun h' hs => hR _ h' s.toks rfl hs) fun v e => e ▸ h

theorem Mt_in_dict {d : Addr} {o : Obj} {kvs : List (Int × Value)} {x : Int} {t : Tok} {Q : Value → Kn → Lm → Mu → Prop} (lo : (d == sysModules) = false) (ha : At k mu d o) (hl : ODict C.w o kvs) (h : Q (.bool (valueAt kvs x).isSome) k m mu) : Mt C k m mu (compareOp .In (.int x t) (.ref d)) Q :=
  Mt_of (fun s A E R hA S hR => wpAny_in_of (knd := intKind P C.w) (k := x) (by show Value.isInt x (.int x t) = true; simp [Value.isInt]) lo (hl.dictOf (S.at ha)).mapOf (hR _)) h
theorem Mt_notin_dict {d : Addr} {o : Obj} {kvs : List (Int × Value)} {x : Int} {t : Tok} {Q : Value → Kn → Lm → Mu → Prop} (lo : (d == sysModules) = false) (ha : At k mu d o) (hl : ODict C.w o kvs) (h : Q (.bool (!(valueAt kvs x).isSome)) k m mu) : Mt C k m mu (compareOp .NotIn (.int x t) (.ref d)) Q :=
  Mt_of (fun s A E R hA S hR => wpAny_notIn_of (knd := intKind P C.w) (k := x) (by show Value.isInt x (.int x t) = true; simp [Value.isInt]) lo (hl.dictOf (S.at ha)).mapOf (hR _)) h
theorem Mt_getItem_dict {d : Addr} {o : Obj} {kvs : List (Int × Value)} {x : Int} {t : Tok} {v : Value} {Q : Value → Kn → Lm → Mu → Prop} (ha : At k mu d o) (hl : ODict C.w o kvs) (hv : valueAt kvs x = some v) (h : Q v k m mu) : Mt C k m mu (getItem (.ref d) (.int x t)) Q :=
  Mt_of (fun s A E R hA S hR => wpAny_getItem_of (knd := intKind P C.w) (k := x) (by show Value.isInt x (.int x t) = true; simp [Value.isInt]) (hl.dictOf (S.at ha)).mapOf hv (hR _)) h
end
end Mine

-- LI
namespace Mine
section
variable {α β : Type} {C : Cx} {k : Kn} {m : Lm} {mu : Mu}

/-! subscripts -/
theorem Mt_Subscript {value slice pos} {Q : Value → Kn → Lm → Mu → Prop} (h : Mt C k m mu (eval value C.env) (fun o k m mu => Mt C k m mu (eval slice C.env) (fun i k m mu => Mt C k m mu (subscriptTail value slice o i) Q))) :
    Mt C k m mu (eval (.Subscript value slice pos) C.env) Q := by
  rw [eval_Subscript]
  exact Mt_bind (Mt_mono h fun o k m mu h => Mt_bind (Mt_holding (Mt_mono h fun i k m mu h => Mt_at h)))

theorem Mt_subTail {value slice : PySem.Expr} {a : Addr} {o : Obj} {i : Value} {ops : List Value} {T id : String} {Q : Value → Kn → Lm → Mu → Prop} (ha : At k mu a o) (hc : o.cls = .type T) (hl : typeLookup (.type T) "__getitem__" = pure (some (.builtin id)))
    (h : Mt C k m mu (getItem (.ref a) i) Q) (hs : subscripted slice false (.ref a) i = operate ops (getItem (.ref a) i)) : Mt C k m mu (subscriptTail value slice (.ref a) i) Q :=
  fun s A E hA S => tail_any ⟨o, S.at ha, hc⟩ hl (h s A E hA S) hs
theorem Mt_sub_dict {value slice : PySem.Expr} {d : Addr} {o : Obj} {kvs : List (Int × Value)} {x : Int} {t : Tok} {v : Value} {Q : Value → Kn → Lm → Mu → Prop} (ha : At k mu d o) (hl : ODict C.w o kvs) (hv : valueAt kvs x = some v) (h : Q v k m mu)
    (hs : subscripted slice false (.ref d) (.int x t) = operate [.ref d, .int x t] (getItem (.ref d) (.int x t)) := by with_unfolding_all rfl) : Mt C k m mu (subscriptTail value slice (.ref d) (.int x t)) Q :=
  Mt_subTail ha hl.1.1 slot_dict_getitem.lookup (Mt_getItem_dict ha hl hv h) hs
theorem Mt_sub_list {value slice : PySem.Expr} {l : Addr} {o : Obj} {vs : List Value} {i : Nat} {t : Tok} {v : Value} {Q : Value → Kn → Lm → Mu → Prop} (ha : At k mu l o) (hl : OList o vs) (hv : vs[i]? = some v) (hi : (i : Int) < 2 ^ 63) (h : Q v k m mu)
    (hs : subscripted slice false (.ref l) (.int i t) = operate [.ref l, .int i t] (getItem (.ref l) (.int i t)) := by with_unfolding_all rfl) : Mt C k m mu (subscriptTail value slice (.ref l) (.int i t)) Q :=
  Mt_subTail ha hl.1 slot_list_getitem.lookup (Mt_of (fun s A E R hA S hR => wpAny_getItem_list (hl.isList (S.at ha)) (by omega) hi (by simpa using hv) (hR s.toks)) h) hs
theorem Mt_sub_tup {value slice : PySem.Expr} {l : Addr} {o : Obj} {vs : List Value} {i : Nat} {t : Tok} {v : Value} {Q : Value → Kn → Lm → Mu → Prop} (ha : At k mu l o) (hl : OTup o vs) (hv : vs[i]? = some v) (hi : (i : Int) < 2 ^ 63) (h : Q v k m mu)
    (hs : subscripted slice false (.ref l) (.int i t) = operate [.ref l, .int i t] (getItem (.ref l) (.int i t)) := by with_unfolding_all rfl) : Mt C k m mu (subscriptTail value slice (.ref l) (.int i t)) Q := fun s A E hA S =>
  item_tupleT (hl.isTup (S.at ha)) (by omega) hi (j := i) (by
    have : i < vs.length := (List.getElem?_eq_some_iff.mp hv).1
    unfold seqIndex?
    simp only [List.size_toArray]
    split <;> simp_all <;> omega) (by simpa using hv) ⟨k, m, mu, S.ok.after_refl s, S, h⟩ hs

/-! calls -/
def Keeps (C : Cx) (f : Value) : Prop := ∀ h, Prog C.w h → ∃ kp, (kp = Keeper.frame ∨ kp = Keeper.machine ∨ kp = Keeper.boundFrame) ∧ Looks (model P C.w) h (keeperOf f) kp
theorem keeps_builtin (id : String) : Keeps C (.builtin id) := fun h _ => ⟨.machine, .inr (.inl rfl), Looks.of_pure rfl⟩
theorem keeps_type (n : String) : Keeps C (.type n) := fun h _ => ⟨.machine, .inr (.inl rfl), Looks.of_pure rfl⟩
theorem keeps_text {f : Value} (hf : keepIn (KF C.w) f = true) : Keeps C f := fun h hP => keeps_K hf h hP.K

theorem Mt_callWith {pos : Pos} {f : Value} {first : List Value} {args : List (Bool × Sem Value)} {kws : List (Option Str × Sem Value)} {Q : Value → Kn → Lm → Mu → Prop} (hk : Keeps C f) (hplain : (args.any (·.1) || kws.any (·.1.isNone)) = false)
    (h : Mt C k m mu (evalArgs f true args kws) (fun a k m mu => Mt C k m mu (call f (first ++ a.pos) a.kw) Q)) : Mt C k m mu (callWith pos f first args kws) Q := fun s A E hA S => by
  refine callWith_of (P := Prog C.w) hplain hk (wpAny_mono (h s A E hA S) (fun a s₁ ⟨k₁, m₁, mu₁, af, S₁, q⟩ => ⟨S₁.ok.prog.grow fun b o _ e => S₁.keep b o e, ?_⟩) fun _ _ e => e)
  exact wpAny_mono (q s₁ A E hA S₁) (fun v s₂ ⟨k₂, m₂, mu₂, af₂, S₂, q₂⟩ => ⟨k₂, m₂, mu₂, S.ok.after_trans af af₂, S₂, q₂⟩) fun _ _ e => e

theorem Mt_evalArgs {f : Value} {args : List PySem.Expr} {pos : Pos} {Q : Args → Kn → Lm → Mu → Prop} (h : Mt C k m mu (spliced (backTo pos (starEach args C.env))) (fun vs k m mu => Q ⟨vs, []⟩ k m mu))
    (hp : (backTo pos (starEach args C.env)).any (·.1) = false := by rfl) : Mt C k m mu (evalArgs f true (backTo pos (starEach args C.env)) (backToKw pos (keywordEach [] C.env))) Q := by
  show Mt C k m mu (evalArgs f true (backTo pos (starEach args C.env)) []) Q
  generalize backTo pos (starEach args C.env) = l at hp h
  match l, hp, h with
  | [], _, h =>
    unfold evalArgs
    show Mt C k m mu (spliced [] >>= _) Q
    exact Mt_bind (Mt_mono h fun vs k m mu h => Mt_bind (Mt_pure (Mt_holding (Mt_bind (Mt_pure (Mt_bind (Mt_pure (Mt_pure h))))))))
  | (false, x) :: r, _, h =>
    unfold evalArgs
    show Mt C k m mu (spliced ((false, x) :: r) >>= _) Q
    exact Mt_bind (Mt_mono h fun vs k m mu h => Mt_bind (Mt_pure (Mt_holding (Mt_bind (Mt_pure (Mt_bind (Mt_pure (Mt_pure h))))))))
/-- one keyword -/
theorem Mt_evalArgsK {f : Value} {args : List PySem.Expr} {pos kp : Pos} {x : Str} {e : PySem.Expr} {Q : Args → Kn → Lm → Mu → Prop} (h : Mt C k m mu (spliced (backTo pos (starEach args C.env))) (fun vs k m mu => Mt C k m mu (eval e C.env) (fun v k m mu => Q ⟨vs, [(x, v)]⟩ k m mu)))
    (hp : (backTo pos (starEach args C.env)).any (·.1) = false := by rfl) : Mt C k m mu (evalArgs f true (backTo pos (starEach args C.env)) (backToKw pos (keywordEach [⟨some x, e, kp⟩] C.env))) Q := by
  show Mt C k m mu (evalArgs f true (backTo pos (starEach args C.env)) [(some x, do let v ← eval e C.env; standAt pos; pure v)]) Q
  generalize backTo pos (starEach args C.env) = l at hp h
  match l, hp, h with
  | [], _, h =>
    unfold evalArgs
    show Mt C k m mu (spliced [] >>= _) Q
    refine Mt_bind (Mt_mono h fun vs k m mu h => Mt_bind (Mt_pure (Mt_holding (Mt_bind ?_))))
    show Mt C k m mu (do let v ← (do let v ← eval e C.env; standAt pos; pure v); return v :: (← holding [v] (pure []))) _
    exact Mt_bind (Mt_bind (Mt_mono h fun v k m mu h => Mt_at (Mt_pure (Mt_bind (Mt_holding (Mt_pure (Mt_pure (Mt_bind (Mt_pure (Mt_pure h))))))))))
  | (false, y) :: r, _, h =>
    unfold evalArgs
    show Mt C k m mu (spliced ((false, y) :: r) >>= _) Q
    refine Mt_bind (Mt_mono h fun vs k m mu h => Mt_bind (Mt_pure (Mt_holding (Mt_bind ?_))))
    show Mt C k m mu (do let v ← (do let v ← eval e C.env; standAt pos; pure v); return v :: (← holding [v] (pure []))) _
    exact Mt_bind (Mt_bind (Mt_mono h fun v k m mu h => Mt_at (Mt_pure (Mt_bind (Mt_holding (Mt_pure (Mt_pure (Mt_bind (Mt_pure (Mt_pure h))))))))))

/-- a call, its callee no attribute -/
theorem Mt_Call {f : PySem.Expr} {args : List PySem.Expr} {pos : Pos} {Q : Value → Kn → Lm → Mu → Prop}
    (h : Mt C k m mu (eval f C.env) (fun fv k m mu => Keeps C fv ∧ Mt C k m mu (spliced (backTo pos (starEach args C.env))) (fun vs k m mu => Mt C k m mu (call fv vs) Q)))
    (he : eval (.Call f args [] pos) C.env = (do callWith pos (← eval f C.env) [] (backTo pos (starEach args C.env)) (backToKw pos (keywordEach [] C.env))) := by rfl) (hp : (backTo pos (starEach args C.env)).any (·.1) = false := by rfl) :
    Mt C k m mu (eval (.Call f args [] pos) C.env) Q := by
  rw [he]
  refine Mt_bind (Mt_mono h fun fv k m mu ⟨hk, h⟩ => Mt_callWith hk (by rw [hp]; rfl) (Mt_evalArgs ?_ hp))
  exact h
theorem Mt_CallK {f e : PySem.Expr} {args : List PySem.Expr} {x : Str} {kp pos : Pos} {Q : Value → Kn → Lm → Mu → Prop}
    (h : Mt C k m mu (eval f C.env) (fun fv k m mu => Keeps C fv ∧ Mt C k m mu (spliced (backTo pos (starEach args C.env))) (fun vs k m mu => Mt C k m mu (eval e C.env) (fun v k m mu => Mt C k m mu (call fv vs [(x, v)]) Q))))
    (he : eval (.Call f args [⟨some x, e, kp⟩] pos) C.env = (do callWith pos (← eval f C.env) [] (backTo pos (starEach args C.env)) (backToKw pos (keywordEach [⟨some x, e, kp⟩] C.env))) := by rfl) (hp : (backTo pos (starEach args C.env)).any (·.1) = false := by rfl) :
    Mt C k m mu (eval (.Call f args [⟨some x, e, kp⟩] pos) C.env) Q := by
  rw [he]
  refine Mt_bind (Mt_mono h fun fv k m mu ⟨hk, h⟩ => Mt_callWith hk (by rw [hp]; rfl) (Mt_evalArgsK ?_ hp))
  exact h

/-- a method's call, all on one line -/
theorem Mt_CallM {o : PySem.Expr} {name : Str} {args : List PySem.Expr} {apos pos : Pos} {Q : Value → Kn → Lm → Mu → Prop}
    (h : Mt C k m mu (eval o C.env) (fun ov k m mu => ∀ pl, Mt C k m mu (getMethod ov name pl) (fun ff k m mu => Keeps C ff.1 ∧ Mt C k m mu (spliced (backTo pos (starEach args C.env))) (fun vs k m mu => Mt C k m mu (call ff.1 (ff.2 ++ vs)) Q))))
    (hb : attributeBase o name C.env (eval o C.env) = eval o C.env := by rfl) (hline : (apos.endLine == pos.line) = true := by rfl)
    (hfew : methodCallForm (args.length + ([] : List Keyword).length) (backTo pos (starEach args C.env)) (backToKw pos (keywordEach [] C.env)) = true := by rfl) (hp : (backTo pos (starEach args C.env)).any (·.1) = false := by rfl) :
    Mt C k m mu (eval (.Call (.Attribute o name apos) args [] pos) C.env) Q := by
  show Mt C k m mu (do
    let ov ← attributeBase o name C.env (eval o C.env)
    standAt apos.atName
    methodCall o name apos pos C.env ov (args.length + ([] : List Keyword).length) (backTo pos (starEach args C.env)) (backToKw pos (keywordEach [] C.env))) Q
  rw [hb]
  refine Mt_bind (Mt_mono h fun ov k m mu h => Mt_at ?_)
  unfold methodCall calleeOf methodCallPos
  rw [hfew]
  simp only [if_true, Bool.not_true, Bool.false_or, hline]
  refine Mt_bind (Mt_holding (Mt_mono (h _) fun ff k m mu ⟨hk, h⟩ => ?_))
  exact Mt_bind (Mt_pure (Mt_callWith hk (by rw [hp]; rfl) (Mt_evalArgs h hp)))
end
end Mine

-- LJ
namespace Mine
section
variable {α β : Type} {C : Cx} {k : Kn} {m : Lm} {mu : Mu}

/-! names of the module and of the language -/
theorem Stt.progs {h : Heap} (S : Stt C k m mu h) : Prog C.w h := S.ok.prog.grow fun b o _ e => S.keep b o e
theorem Mt_global {x : Str} {v : Value} {Q : Value → Kn → Lm → Mu → Prop} (e : nsIn (KF C.w) mainGlobals x = some (some v)) (h : Q v k m mu)
    (hg : C.env.globals = mainGlobals := by rfl) (hx : C.env.kindOf x = some .globalImplicit := by rfl) : Mt C k m mu (loadName C.env x) Q := fun s A E hA S => by
  obtain ⟨hb, p, lo, me, mg, mb, a1, a2, a3, a4⟩ := S.progs.ex
  rw [loadName_read S.ok.kind hx]
  exact loadGlobal_global (mg := mg) (by rw [hg]; exact a2.g.keeps a4) (mg_of a1 a2.g e) ⟨k, m, mu, S.ok.after_refl s, S, h⟩
theorem Mt_builtin {x : Str} {v : Value} {Q : Value → Kn → Lm → Mu → Prop} (e : nsIn (KF C.w) mainGlobals x = some none) (hv : bootBuiltins x = some v) (hn : x ≠ "__name__") (h : Q v k m mu)
    (hg : C.env.globals = mainGlobals := by rfl) (hb : C.env.builtins = builtinsNs := by rfl) (hx : C.env.kindOf x = some .globalImplicit := by rfl) : Mt C k m mu (loadName C.env x) Q := fun s A E hA S => by
  obtain ⟨hb', p, lo, me, mg, mb, a1, a2, a3, a4⟩ := S.progs.ex
  rw [loadName_read S.ok.kind hx]
  exact loadGlobal_builtin (mg := mg) (mb := mb) (by rw [hg]; exact a2.g.keeps a4) (mg_none_of a1 a2.g e) (by rw [hb]; exact a2.b.keeps a4) ((a2.builtins x hn).trans hv) ⟨k, m, mu, S.ok.after_refl s, S, h⟩

theorem Mt_nameL {x : Str} {v : Value} {pos : Pos} {Q : Value → Kn → Lm → Mu → Prop} (hv : m x = some v) (h : Q v k m mu) (hx : C.env.kindOf x = some .local := by rfl) (hd : (x == ("__debug__" : Str)) = false := by decide) : Mt C k m mu (eval (.Name x pos) C.env) Q := Mt_Name (Mt_load_L hv h hx) hd
theorem Mt_nameC {x : Str} {v : Value} {pos : Pos} {Q : Value → Kn → Lm → Mu → Prop} (hv : m x = some v) (h : Q v k m mu) (hc : (C.env.cells.lookup x).isSome = true := by rfl) (hx : C.env.kindOf x = some .cell := by rfl) (hd : (x == ("__debug__" : Str)) = false := by decide) : Mt C k m mu (eval (.Name x pos) C.env) Q := Mt_Name (Mt_load_C hv h hc hx) hd
theorem Mt_nameF {x : Str} {v : Value} {pos : Pos} {Q : Value → Kn → Lm → Mu → Prop} (hv : m x = some v) (h : Q v k m mu) (ho : C.ownv.contains x = false := by rfl) (hc : (C.env.cells.lookup x).isSome = true := by rfl) (hx : C.env.kindOf x = some .free := by rfl) (hn : (x == ("__classdict__" : Str)) = false := by decide) (hd : (x == ("__debug__" : Str)) = false := by decide) : Mt C k m mu (eval (.Name x pos) C.env) Q := Mt_Name (Mt_load_F hv h (fun hm => by rw [List.contains_iff_mem.mpr hm] at ho; cases ho) hc hx hn) hd
theorem Mt_nameG {x : Str} {v : Value} {pos : Pos} {Q : Value → Kn → Lm → Mu → Prop} (e : nsIn (KF C.w) mainGlobals x = some (some v)) (h : Q v k m mu)
    (hg : C.env.globals = mainGlobals := by rfl) (hx : C.env.kindOf x = some .globalImplicit := by rfl) (hd : (x == ("__debug__" : Str)) = false := by decide) : Mt C k m mu (eval (.Name x pos) C.env) Q := Mt_Name (Mt_global e h hg hx) hd
theorem Mt_nameB {x : Str} {v : Value} {pos : Pos} {Q : Value → Kn → Lm → Mu → Prop} (e : nsIn (KF C.w) mainGlobals x = some none) (hv : bootBuiltins x = some v) (hn : x ≠ "__name__") (h : Q v k m mu)
    (hg : C.env.globals = mainGlobals := by rfl) (hb : C.env.builtins = builtinsNs := by rfl) (hx : C.env.kindOf x = some .globalImplicit := by rfl) (hd : (x == ("__debug__" : Str)) = false := by decide) : Mt C k m mu (eval (.Name x pos) C.env) Q := Mt_Name (Mt_builtin e hv hn h hg hb hx) hd

/-! numbers -/
def IsInt (x : Int) (v : Value) : Prop := ∃ t, v = .int x t
def Are {γ : Type} (R : γ → Value → Prop) (xs : List γ) (vs : List Value) : Prop := xs.length = vs.length ∧ ∀ (i : Nat) (x : γ), xs[i]? = some x → ∃ v, vs[i]? = some v ∧ R x v
theorem Are.nil {γ : Type} {R : γ → Value → Prop} : Are R [] [] := ⟨rfl, fun i x h => by simp at h⟩
theorem Are.get {γ : Type} {R : γ → Value → Prop} {xs : List γ} {vs : List Value} {i : Nat} {x : γ} (a : Are R xs vs) (h : xs[i]? = some x) : ∃ v, vs[i]? = some v ∧ R x v := a.2 i x h
theorem Are.mono {γ : Type} {R R' : γ → Value → Prop} {xs : List γ} {vs : List Value} (a : Are R xs vs) (h : ∀ x ∈ xs, ∀ v, R x v → R' x v) : Are R' xs vs := ⟨a.1, fun i x e => let ⟨v, h1, h2⟩ := a.2 i x e; ⟨v, h1, h x (List.mem_of_getElem? e) v h2⟩⟩
theorem Are.push {γ : Type} {R : γ → Value → Prop} {xs : List γ} {vs : List Value} {x : γ} {v : Value} (a : Are R xs vs) (h : R x v) : Are R (xs ++ [x]) (vs ++ [v]) := by
  refine ⟨by simp [a.1], fun i y e => ?_⟩
  have hl := a.1
  rw [List.getElem?_append] at e
  rw [List.getElem?_append]
  by_cases q : i < xs.length
  · rw [if_pos q] at e; rw [if_pos (by omega)]; exact a.2 i y e
  · rw [if_neg q] at e; rw [if_neg (by omega)]
    have : i - xs.length = 0 := by
      have := (List.getElem?_eq_some_iff.mp e).1
      simp at this; omega
    rw [this] at e; rw [← hl, this]
    simp at e; subst e; exact ⟨v, rfl, h⟩
theorem Are.cons {γ : Type} {R : γ → Value → Prop} {xs : List γ} {vs : List Value} {x : γ} {v : Value} (a : Are R xs vs) (h : R x v) : Are R (x :: xs) (v :: vs) := by
  refine ⟨by simp [a.1], fun i y e => ?_⟩
  cases i with
  | zero => simp at e; subst e; exact ⟨v, rfl, h⟩
  | succ i => exact a.2 i y (by simpa using e)
theorem Are.drop {γ : Type} {R : γ → Value → Prop} {xs : List γ} {vs : List Value} (a : Are R xs vs) (n : Nat) : Are R (xs.drop n) (vs.drop n) :=
  ⟨by simp [a.1], fun i y e => by rw [List.getElem?_drop] at e ⊢; exact a.2 _ y e⟩
theorem Are.app {γ : Type} {R : γ → Value → Prop} {xs ys : List γ} {vs us : List Value} (a : Are R xs vs) (b : Are R ys us) : Are R (xs ++ ys) (vs ++ us) := by
  refine ⟨by simp [a.1, b.1], fun i y e => ?_⟩
  have hl := a.1
  rw [List.getElem?_append] at e
  rw [List.getElem?_append]
  by_cases q : i < xs.length
  · rw [if_pos q] at e; rw [if_pos (by omega)]; exact a.2 i y e
  · rw [if_neg q] at e; rw [if_neg (by omega), ← hl]; exact b.2 _ y e
theorem Are.ofItems {γ : Type} {R : γ → Value → Prop} {xs : List γ} {acc : Array Value} (h : PySem.ItemsOf (fun i v => ∃ x, xs[i]? = some x ∧ R x v) acc xs.length) : Are R xs acc.toList := by
  refine ⟨by simpa using h.1.symm, fun i x e => ?_⟩
  have hi := (List.getElem?_eq_some_iff.mp e).1
  have : i < acc.size := by rw [h.1]; exact hi
  refine ⟨acc[i], by simp [this], ?_⟩
  obtain ⟨y, h1, h2⟩ := h.2 i acc[i] (by simp [this])
  rw [e] at h1; cases h1; exact h2
abbrev IsInts := Are IsInt

/-! the dicts by ints -/
theorem ODict.key {x : Int} {t : Tok} : (intKind P w).is x (.int x t) = true := by show Value.isInt x (.int x t) = true; simp [Value.isInt]
theorem Mt_setItem_dict {l1 l2 : Mu} {d : Addr} {o : Obj} {kvs : List (Int × Value)} {x : Int} {t : Tok} {v : Value} {Q : Unit → Kn → Lm → Mu → Prop} (hmu : mu = l1 ++ (d, o) :: l2) (hl : ODict C.w o kvs) (hsz : kvs.length ≤ 2 ^ 20)
    (h : ∀ o', ODict C.w o' (stored kvs x v) → Q () k m (l1 ++ (d, o') :: l2)) : Mt C k m mu (setItem (.ref d) (.int x t) v) Q :=
  Mt_turn (Pr := fun _ o' => ODict C.w o' (stored kvs x v)) hmu (fun s A E R hA S hR =>
    wpAny_setItem_pairs (knd := intKind P C.w) (k := x) (kvs := kvs) ODict.key (hl.dictOf (S.own _ (hmu ▸ mem_mid))) (fun h' hd hs => by
      obtain ⟨o', ho', hl'⟩ := ODict.of hd
      exact hR () o' h' (s.toks + 1) hl' (fun b ob hb e => (hs.2 b hb).trans e) ho') (by rw [sizeLine_eq]; omega)) fun v o' hp => h o' hp
theorem Mt_dictSet {l1 l2 : Mu} {d : Addr} {o : Obj} {kvs : List (Int × Value)} {x : Int} {t : Tok} {v : Value} {Q : Unit → Kn → Lm → Mu → Prop} (hmu : mu = l1 ++ (d, o) :: l2) (hl : ODict C.w o kvs) (hsz : kvs.length ≤ 2 ^ 20)
    (h : ∀ o', ODict C.w o' (stored kvs x v) → Q () k m (l1 ++ (d, o') :: l2)) : Mt C k m mu (dictSet d (.int x t) v) Q :=
  Mt_turn (Pr := fun _ o' => ODict C.w o' (stored kvs x v)) hmu (fun s A E R hA S hR =>
    wpAny_dictSet_pairs (knd := intKind P C.w) (k := x) (kvs := kvs) ODict.key (hl.dictOf (S.own _ (hmu ▸ mem_mid))) (fun h' hd hs => by
      obtain ⟨o', ho', hl'⟩ := ODict.of hd
      exact hR () o' h' (s.toks + 1) hl' (fun b ob hb e => (hs.2 b hb).trans e) ho') (by rw [sizeLine_eq]; omega)) fun v o' hp => h o' hp
theorem dct0_ODict (w : World) : ODict w dct0 [] := ⟨⟨rfl, rfl, rfl⟩, #[], _, rfl, fun e he => by simp at he, Pairs.nil, by simp⟩

/-! lists -/
theorem OList.eq {o : Obj} {vs : List Value} (x : OList o vs) : ∃ n, o = { cls := .type "list", data := .seq vs.toArray n } := by
  obtain ⟨h1, h2, h3, n, h4⟩ := x
  obtain ⟨c, d, dt, sl⟩ := o
  subst h1; subst h2; subst h3; subst h4
  exact ⟨n, rfl⟩
theorem OList.of (vs : Array Value) (n : Nat) : OList { cls := .type "list", data := .seq vs n } vs.toList := ⟨rfl, rfl, rfl, n, by simp⟩
theorem lst0_OList : OList lst0 [] := OList.of #[] _
theorem Mt_append {l1 l2 : Mu} {l : Addr} {o : Obj} {vs : List Value} {x : Value} {Q : Value → Kn → Lm → Mu → Prop} (hmu : mu = l1 ++ (l, o) :: l2) (hl : OList o vs) (hsz : vs.length ≤ 2 ^ 20)
    (h : ∀ o', OList o' (vs ++ [x]) → Q .none k m (l1 ++ (l, o') :: l2)) : Mt C k m mu (call (.builtin "list.append") [.ref l, x]) Q :=
  Mt_turn (Pr := fun v o' => v = .none ∧ OList o' (vs ++ [x])) hmu (fun s A E R hA S hR => by
    obtain ⟨n, rfl⟩ := hl.eq
    refine wpAny_list_append_plain (items := vs.toArray) ⟨n, S.own _ (hmu ▸ mem_mid)⟩ (fun h' ⟨n', hp⟩ hs => ?_) (by rw [sizeLine_eq]; simp; omega)
    refine hR .none _ h' s.toks ⟨rfl, ?_⟩ (fun b ob hb e => (hs.2 b hb).trans e) hp
    simpa using OList.of (vs.toArray.push x) n') fun v o' ⟨e, hp⟩ => e ▸ h o' hp
theorem Mt_getAppend {l : Addr} {o : Obj} {vs : List Value} {pl : Sem Bool} {Q : Value × List Value → Kn → Lm → Mu → Prop} (ha : At k mu l o) (hl : OList o vs) (h : Q (.builtin "list.append", [.ref l]) k m mu) : Mt C k m mu (getMethod (.ref l) "append" pl) Q :=
  Mt_of (fun s A E R hA S hR => getMethod_list_append (S.at ha) hl.1 hl.2.1 (hR s.toks)) h
/-- list(d) of a dict by ints: new, the frame's own -/
theorem Mt_listOf_dict {d : Addr} {o : Obj} {kvs : List (Int × Value)} {Q : Value → Kn → Lm → Mu → Prop} (lo : (d == sysModules) = false) (ha : At k mu d o) (hl : ODict C.w o kvs) (hsz : kvs.length ≤ 2 ^ 20)
    (h : ∀ D o vs, TB < D → OList o vs → IsInts (kvs.map (·.1)) vs → Q (.ref D) k m ((D, o) :: mu)) : Mt C k m mu (call (.type "list") [.ref d]) Q := by
  obtain ⟨ep, hl'⟩ := hl.ep
  refine Mt_newM (Pr := fun o => ∃ vs, OList o vs ∧ IsInts (kvs.map (·.1)) vs) (fun s A E R hA S hR =>
    kdl_call (kdl_dict (knd := intKind P C.w) (ep := ep) (kvs := kvs) lo) hA.handled (hl'.dictAt (S.at ha)) (by rw [sizeLine_eq]; omega) fun h' tk acc c hk hD hi => ?_) fun D o hT ⟨vs, h1, h2⟩ => h D o vs hT h1 h2
  refine hR _ h' tk ⟨acc.toList, OList.of acc c, ?_⟩ hk hD
  refine Are.ofItems ?_
  rw [List.length_map]
  refine ⟨hi.1, fun j v hj => ?_⟩
  obtain ⟨x, u, h1, h2⟩ := hi.2 j v hj
  exact ⟨x, by simp [h1], isInt_shape h2⟩
end
end Mine

-- LK
namespace Mine
/-! the defs of the text -/
def stAt (i : Nat) : Stmt := (P.main.body[i]?).getD (.Pass default)
def bodyOf : Stmt → List Stmt
  | .FunctionDef _ _ b _ _ _ _ _ _ _ => b
  | .ClassDef _ _ _ b _ _ _ _ _ _ _ => b
  | _ => []
def scopeOf : Stmt → Scope
  | .FunctionDef _ _ _ _ _ _ sc _ _ _ => sc
  | _ => default
def paramsOf : Stmt → Arguments
  | .FunctionDef _ a _ _ _ _ _ _ _ _ => a
  | _ => default
def methAt (i j : Nat) : Stmt := ((bodyOf (stAt i))[j]?).getD (.Pass default)
noncomputable def obK (w : World) (a : Addr) : Obj := ((KF w).lookup a).getD default
def fdOf (o : Obj) : FuncData := match o.data with | .func fd => fd | _ => default
structure Fn (w : World) (a : Addr) (st : Stmt) (qual : Str) (cd : Value) : Prop where
  look : (KF w).lookup a = some (obK w a)
  data : (obK w a).data = .func (fdOf (obK w a))
  body : (fdOf (obK w a)).body = .stmts (bodyOf st)
  scope : (fdOf (obK w a)).scope = scopeOf st
  params : (fdOf (obK w a)).params = paramsOf st
  qualn : (fdOf (obK w a)).qualname = qual
  code : (fdOf (obK w a)).code = cd
  clo : (fdOf (obK w a)).closure = []
  glob : (fdOf (obK w a)).globals = mainGlobals
  bi : (fdOf (obK w a)).builtins = builtinsNs
  codein : codeIn (KF w) cd qual = true
  co : (scopeOf st).isCoroutine = false
  gen : (scopeOf st).isGenerator = false
  kind : (scopeOf st).kind = .function
  cells : ∀ x ∈ cellNames (scopeOf st), (scopeOf st).names.lookup x = some .cell

theorem fn_reached (w : World) : Fn w 75 (stAt 7) "reached" (.ref 74) := ⟨by kernel_rfl, by kernel_rfl, by kernel_rfl, by kernel_rfl, by kernel_rfl, by kernel_rfl, by kernel_rfl, by kernel_rfl, by kernel_rfl, by kernel_rfl, by kernel_rfl, by kernel_rfl, by kernel_rfl, by kernel_rfl, by decide⟩
theorem bind_reached (w : World) (a b : Value) : bindArgs (fdOf (obK w 75)) ⟨[a, b], []⟩ = pure [(("neighbors" : Str), a), (("sources" : Str), b)] := by kernel_rfl

theorem Ev_fn {w : World} {n : Nat} {G : Gr} {k : Kn} {fa : Addr} {st : Stmt} {qual : Str} {cdv : Value} {pos : List Value} {kw : List (Str × Value)} {Q : Value → Kn → Prop} (g : GOk G) (f : Fn w fa st qual cdv)
    (h : Ev w n G k (bindArgs (fdOf (obK w fa)) ⟨pos, kw⟩) (fun binds k' => ((binds.all fun y => (scopeOf st).names.lookup y.1 == some .local || (scopeOf st).names.lookup y.1 == some .cell) = true) ∧
      ∀ (base : Heap) (L : Addr), Mt (fcx w n G k' qual (scopeOf st) cdv fa L base) k' (bm binds) [] (execs (bodyOf st) (fenv qual (scopeOf st) cdv L fa)) (fun f k'' _ _ => Q (retv f) k''))) :
    Ev w (n + 1) G k (call (.ref fa) pos kw) Q := Ev_def g f.look f.data f.body f.scope f.qualn f.code f.clo f.glob f.bi f.codein f.co f.gen f.kind f.cells h
theorem Mv_fnC {w : World} {n : Nat} {G : Gr} {k : Kn} {mu : Mu} {fa : Addr} {st : Stmt} {qual : Str} {cdv : Value} {pos : List Value} {kw : List (Str × Value)} {Q : Value → Kn → Mu → Prop} (g : GOk G) (f : Fn w fa st qual cdv)
    (h : Ev w n G k (bindArgs (fdOf (obK w fa)) ⟨pos, kw⟩) (fun binds k' => ((binds.all fun y => (scopeOf st).names.lookup y.1 == some .local || (scopeOf st).names.lookup y.1 == some .cell) = true) ∧
      ∀ (base : Heap) (L : Addr), Mt (fcx w n G k' qual (scopeOf st) cdv fa L base) k' (bm binds) mu (execs (bodyOf st) (fenv qual (scopeOf st) cdv L fa)) (fun f k'' _ mu' => ∃ mu1, mu1.Sublist mu' ∧ Q (retv f) k'' mu1)))
    {s : Shared} {A : Around} {R : Result → Shared → Prop} (hA : OkA (n + 1) A) (hP : Prog w (hideAll s.heap (TB :: mu.map (·.1)))) (hT : TabOk s.heap) (hk : k.In s.heap) (hkT : k TB = none) (hmu : ∀ p ∈ mu, s.heap.get? p.1 = some p.2) (hkmu : ∀ p ∈ mu, k p.1 = none) (hnd : (mu.map (·.1)).Nodup) (hmT : ∀ p ∈ mu, p.1 ≠ TB)
    (hR : ∀ v s', (∃ k' mu', After G s s' ∧ (∀ b o, b ∉ TB :: mu.map (·.1) → s.heap.get? b = some o → s'.heap.get? b = some o) ∧ k'.In s'.heap ∧ k.Le k' ∧ (∀ b o, b ∉ mu.map (·.1) → s.heap.get? b = some o → k' b = k b) ∧ (mu'.map (·.1)).Nodup ∧ (∀ p ∈ mu', s'.heap.get? p.1 = some p.2 ∧ k' p.1 = none ∧ p.1 ≠ TB ∧ (p.1 ∈ mu.map (·.1) ∨ s.heap.get? p.1 = none)) ∧ Q v k' mu') → R (.ok (.ret v)) s') : codeAny (model P w) A (.call (.ref fa) ⟨pos, kw⟩) R s :=
  Mv_defC g f.look f.data f.body f.scope f.qualn f.code f.clo f.glob f.bi f.codein f.co f.gen f.kind f.cells h hA hP hT hk hkT hmu hkmu hnd hmT hR
theorem Mv_fn {w : World} {n : Nat} {G : Gr} {k : Kn} {mu : Mu} {fa : Addr} {st : Stmt} {qual : Str} {cdv : Value} {pos : List Value} {kw : List (Str × Value)} {Q : Value → Kn → Mu → Prop} (g : GOk G) (f : Fn w fa st qual cdv)
    (h : Ev w n G k (bindArgs (fdOf (obK w fa)) ⟨pos, kw⟩) (fun binds k' => ((binds.all fun y => (scopeOf st).names.lookup y.1 == some .local || (scopeOf st).names.lookup y.1 == some .cell) = true) ∧
      ∀ (base : Heap) (L : Addr), Mt (fcx w n G k' qual (scopeOf st) cdv fa L base) k' (bm binds) mu (execs (bodyOf st) (fenv qual (scopeOf st) cdv L fa)) (fun f k'' _ mu' => ∃ mu1, mu1.Sublist mu' ∧ Q (retv f) k'' mu1))) :
    Mv w (n + 1) G k mu (call (.ref fa) pos kw) Q := Mv_def g f.look f.data f.body f.scope f.qualn f.code f.clo f.glob f.bi f.codein f.co f.gen f.kind f.cells h

theorem mv_prog {C : Cx} {k : Kn} {m : Lm} {mu1 mu2 : Mu} {h : Heap} (S : Stt C k m (mu1 ++ mu2) h) : Prog C.w (hideAll h (TB :: mu1.map (·.1))) := by
  refine S.ok.prog.grow fun b o hb e => hideAll_get _ (S.keep b o e) fun hm => ?_
  rcases List.mem_cons.mp hm with rfl | hm
  · exact hb rfl
  · obtain ⟨p, hp, rfl⟩ := List.mem_map.mp hm
    rw [S.bmu p (List.mem_append_left _ hp)] at e; cases e
theorem mv_backT {C : Cx} {k k' : Kn} {m : Lm} {mu1 mu2 mu' : Mu} {s s' : Shared} (S : Stt C k m (mu1 ++ mu2) s.heap) (tg : TabOk s'.heap) (old : ∀ b o, b ∉ TB :: mu1.map (·.1) → s.heap.get? b = some o → s'.heap.get? b = some o) (kin : k'.In s'.heap) (le : k.Le k') (ex : ∀ b o, b ∉ mu1.map (·.1) → s.heap.get? b = some o → k' b = k b) (nd' : (mu'.map (·.1)).Nodup)
    (pm : ∀ p ∈ mu', s'.heap.get? p.1 = some p.2 ∧ k' p.1 = none ∧ p.1 ≠ TB ∧ (p.1 ∈ mu1.map (·.1) ∨ s.heap.get? p.1 = none)) : Stt C k' m (mu' ++ mu2) s'.heap ∧ ∀ D o, k D = none → k' D = some o → D ∉ mu1.map (·.1) → C.base.get? D = none := by
  have nd := S.nd
  rw [List.map_append, List.nodup_append] at nd
  have n1 : ∀ p ∈ mu1, p ∈ mu1 ++ mu2 := fun p hp => List.mem_append_left _ hp
  have n2 : ∀ p ∈ mu2, p ∈ mu1 ++ mu2 := fun p hp => List.mem_append_right _ hp
  have bNot : ∀ b o, C.base.get? b = some o → b ∉ TB :: mu1.map (·.1) := fun b o e hm => by
    rcases List.mem_cons.mp hm with rfl | hm
    · rw [S.ok.tb] at e; cases e
    · obtain ⟨p, hp, rfl⟩ := List.mem_map.mp hm
      rw [S.bmu p (n1 p hp)] at e; cases e
  have ownNot : ∀ a, C.own a → a ∉ TB :: mu1.map (·.1) := fun a ha hm => by
    rcases List.mem_cons.mp hm with e | hm
    · exact S.ok.ownT a ha e
    · obtain ⟨p, hp, e⟩ := List.mem_map.mp hm
      exact S.muown a ha p (n1 p hp) e
  have cl : ∀ x c, x ∈ C.ownv → C.env.cells.lookup x = some c → ∃ o, s.heap.get? c = some o ∧ o.data = .cell (m x) := fun x c hx hc => S.cel x c hx hc
  obtain ⟨ml, ⟨oL, esL, epL, hL, r⟩, hm⟩ := S.loc
  have there : ∀ a, C.own a → ∃ o, s.heap.get? a = some o := by
    rintro a (rfl | ⟨x, hx, hc⟩)
    · exact ⟨_, hL⟩
    · obtain ⟨o, ho, _⟩ := cl x a hx hc; exact ⟨o, ho⟩
  have not2 : ∀ p ∈ mu2, p.1 ∉ TB :: mu1.map (·.1) := fun p hp hm => by
    rcases List.mem_cons.mp hm with e | hm
    · exact S.muT p (n2 p hp) e
    · exact nd.2.2 _ hm _ (List.mem_map_of_mem hp) rfl
  have t1 : ∀ {b : Addr}, b ∉ TB :: mu1.map (·.1) → b ∉ mu1.map (·.1) := fun hb hm => hb (.tail _ hm)
  refine ⟨?_, fun D o h1 h2 h3 => ?_⟩
  · refine ⟨S.ok, ⟨ml, ⟨oL, esL, epL, old _ _ (ownNot _ (.inl rfl)) hL, r⟩, hm⟩, fun x c hx hc => ?_, S.fre, fun b o e => old b o (bNot b o e) (S.keep b o e), kin, fun p hp => ?_, fun a ha => ?_, fun a ha p hp e => ?_, fun p hp => ?_, fun p hp => ?_, ?_, S.ext.trans le, fun b o e => (ex b o (t1 (bNot b o e)) (S.keep b o e)).trans (S.extb b o e), tg, ?_, fun p hp => ?_⟩
    · obtain ⟨o, ho, hd⟩ := cl x c hx hc
      exact ⟨o, old _ _ (ownNot _ (.inr ⟨x, hx, hc⟩)) ho, hd⟩
    · rcases List.mem_append.mp hp with hp | hp
      · exact (pm p hp).1
      · exact old _ _ (not2 p hp) (S.own p (n2 p hp))
    · obtain ⟨o, ho⟩ := there a ha
      exact (ex a o (t1 (ownNot a ha)) ho).trans (S.kown a ha)
    · rcases List.mem_append.mp hp with hp | hp
      · rcases (pm p hp).2.2.2 with h1 | h1
        · exact t1 (ownNot a ha) (e ▸ h1)
        · obtain ⟨o, ho⟩ := there a ha
          rw [e, ho] at h1; cases h1
      · exact S.muown a ha p (n2 p hp) e
    · rcases List.mem_append.mp hp with hp | hp
      · exact (pm p hp).2.1
      · exact (ex _ _ (t1 (not2 p hp)) (S.own p (n2 p hp))).trans (S.kmu p (n2 p hp))
    · rcases List.mem_append.mp hp with hp | hp
      · rcases (pm p hp).2.2.2 with h1 | h1
        · obtain ⟨p', hp', e⟩ := List.mem_map.mp h1
          rw [← e]; exact S.bmu p' (n1 p' hp')
        · cases e : C.base.get? p.1 with
          | none => rfl
          | some o => have := S.keep _ _ e; rw [h1] at this; cases this
      · exact S.bmu p (n2 p hp)
    · rw [List.map_append, List.nodup_append]
      refine ⟨nd', nd.2.1, fun a ha b hb e => ?_⟩
      obtain ⟨p, hp, rfl⟩ := List.mem_map.mp ha
      obtain ⟨p2, hp2, rfl⟩ := List.mem_map.mp hb
      rcases (pm p hp).2.2.2 with h1 | h1
      · exact t1 (not2 p2 hp2) (e ▸ h1)
      · have := S.own p2 (n2 p2 hp2); rw [← e, h1] at this; cases this
    · obtain ⟨ps, e⟩ := S.tab
      exact (ex _ _ (fun hm => by obtain ⟨p, hp, e⟩ := List.mem_map.mp hm; exact S.muT p (n1 p hp) e) e).trans S.kT
    · rcases List.mem_append.mp hp with hp | hp
      · exact (pm p hp).2.2.1
      · exact S.muT p (n2 p hp)
  · cases e : C.base.get? D with
    | none => rfl
    | some ob => have := ex D ob h3 (S.keep _ _ e); rw [h1, h2] at this; cases this

theorem mv_back {C : Cx} {k k' : Kn} {m : Lm} {mu1 mu2 mu' : Mu} {s s' : Shared} (S : Stt C k m (mu1 ++ mu2) s.heap) (af : After C.G s s') (old : ∀ b o, b ∉ TB :: mu1.map (·.1) → s.heap.get? b = some o → s'.heap.get? b = some o) (kin : k'.In s'.heap) (le : k.Le k') (ex : ∀ b o, b ∉ mu1.map (·.1) → s.heap.get? b = some o → k' b = k b) (nd' : (mu'.map (·.1)).Nodup)
    (pm : ∀ p ∈ mu', s'.heap.get? p.1 = some p.2 ∧ k' p.1 = none ∧ p.1 ≠ TB ∧ (p.1 ∈ mu1.map (·.1) ∨ s.heap.get? p.1 = none)) : Stt C k' m (mu' ++ mu2) s'.heap ∧ ∀ D o, k D = none → k' D = some o → D ∉ mu1.map (·.1) → C.base.get? D = none :=
  mv_backT S (TabG.ok (by obtain ⟨_, _, _, ⟨_, rfl⟩, _, x⟩ := af; exact x) S.tab) old kin le ex nd' pm

/-- a call that is handed some of the frame's own objects, and may hand new ones back -/
theorem Mt_mv {α : Type} {C : Cx} {k : Kn} {m : Lm} {mu1 mu2 : Mu} {t : Sem α} {Q : α → Kn → Lm → Mu → Prop}
    (h : Mv C.w C.n C.G k mu1 t (fun a k' mu' => k.Le k' → (∀ D o, k D = none → k' D = some o → D ∉ mu1.map (·.1) → C.base.get? D = none) → Q a k' m (mu' ++ mu2))) : Mt C k m (mu1 ++ mu2) t Q := fun s A E hA S => by
  have nd := S.nd
  rw [List.map_append, List.nodup_append] at nd
  have n1 : ∀ p ∈ mu1, p ∈ mu1 ++ mu2 := fun p hp => List.mem_append_left _ hp
  refine wpAny_mono (h s A E hA (mv_prog S) S.tab S.kin S.kT (fun p hp => S.own p (n1 p hp)) (fun p hp => S.kmu p (n1 p hp)) nd.1 (fun p hp => S.muT p (n1 p hp))) (fun a s' ⟨k', mu', af, old, kin, le, ex, nd', pm, q⟩ => ?_) fun _ _ e => e
  obtain ⟨S', fr⟩ := mv_back S af old kin le ex nd' pm
  exact ⟨k', m, mu' ++ mu2, af, S', q le fr⟩

/-! graphs: who is reached -/
inductive Reach (nb : Int → List Int) (x : Int) : Int → Prop where
  | refl : Reach nb x x
  | step {y z : Int} : Reach nb x y → z ∈ nb y → Reach nb x z

/-- a dict of dicts by ints -/
def AdjAt (w : World) (k : Kn) (N : Addr) (nodes : List Int) (nb : Int → List Int) : Prop :=
  ∃ o kvs, k N = some o ∧ ODict w o kvs ∧ kvs.map (·.1) = nodes ∧ (N == sysModules) = false ∧ ∀ x ∈ nodes, ∃ dx ox kx, valueAt kvs x = some (.ref dx) ∧ k dx = some ox ∧ ODict w ox kx ∧ kx.map (·.1) = nb x ∧ (dx == sysModules) = false
theorem AdjAt.le {w : World} {k k' : Kn} {N : Addr} {nodes : List Int} {nb : Int → List Int} (a : AdjAt w k N nodes nb) (l : k.Le k') : AdjAt w k' N nodes nb := by
  obtain ⟨o, kvs, h1, h2, h3, h4, h5⟩ := a
  refine ⟨o, kvs, l _ _ h1, h2, h3, h4, fun x hx => ?_⟩
  obtain ⟨dx, ox, kx, a1, a2, a3⟩ := h5 x hx
  exact ⟨dx, ox, kx, a1, l _ _ a2, a3⟩
end Mine

-- LL
namespace Mine
def owners : List String := ["enumerate", "zip", "dict_itemiterator", "dict_reverseitemiterator", "odict_iterator", "itertools.zip_longest", "itertools.pairwise"]

/-- an iterator whose values are fixed -/
structure Src {γ : Type} (w : World) (k0 : Kn) (it : Addr) (I : Nat → Obj → Prop) (xs : List γ) (R : γ → Value → Prop) : Prop where
  cls : ∃ T, owners.contains T = false ∧ ∀ i o, I i o → o.cls = .type T
  next : ∀ (C : Cx) (k : Kn) (m : Lm) (l1 l2 : Mu) (oi : Obj) (i : Nat) (x : γ) (Q : Option Value → Kn → Lm → Mu → Prop), C.w = w → k0.Le k → I i oi → xs[i]? = some x → (∀ v oi', I (i + 1) oi' → R x v → Q (some v) k m (l1 ++ (it, oi') :: l2)) → Mt C k m (l1 ++ (it, oi) :: l2) (pyNext (.ref it)) Q
  done : ∀ (C : Cx) (k : Kn) (m : Lm) (l1 l2 : Mu) (oi : Obj) (i : Nat) (Q : Option Value → Kn → Lm → Mu → Prop), C.w = w → k0.Le k → I i oi → xs.length ≤ i → Q none k m (l1 ++ l2) → Mt C k m (l1 ++ (it, oi) :: l2) (pyNext (.ref it)) Q
  self : ∀ (C : Cx) (k : Kn) (m : Lm) (mu : Mu) (oi : Obj) (i : Nat) (Q : Value → Kn → Lm → Mu → Prop), C.w = w → I i oi → (it, oi) ∈ mu → Q (.ref it) k m mu → Mt C k m mu (pyIter (.ref it)) Q

section
variable {α β γ : Type} {C : Cx} {k : Kn} {m : Lm} {mu : Mu}

theorem Src.list {l : Addr} {o : Obj} {vs : List Value} {xs : List γ} {R : γ → Value → Prop} {it : Addr} (w : World) (hl : OList o vs) (hk : k l = some o) (ha : Are R xs vs) : Src w k it (fun i oi => OLIter oi l i) xs R where
  cls := ⟨"list_iterator", by decide, fun _ _ h => h.1⟩
  next := fun C k' m l1 l2 oi i x Q hw le hi hx h => by
    obtain ⟨v, hv, hr⟩ := ha.get hx
    exact Mt_next_list rfl hi (.inl (le _ _ hk)) hl hv fun oi' hi' => h v oi' hi' hr
  done := fun C k' m l1 l2 oi i Q hw le hi hx h => Mt_next_list_end rfl hi (.inl (le _ _ hk)) hl (by rw [← ha.1]; exact hx) h
  self := fun C k' m mu oi i Q hw hi hm h => Mt_of (fun s A E R hA S hR => wpAny_pyIter_listiter ⟨oi, S.own _ hm, hi⟩ (hR s.toks)) h
theorem Src.tup {l : Addr} {o : Obj} {vs : List Value} {xs : List γ} {R : γ → Value → Prop} {it : Addr} (w : World) (hl : OTup o vs) (hk : k l = some o) (ha : Are R xs vs) : Src w k it (fun i oi => OTIter oi l i) xs R where
  cls := ⟨"tuple_iterator", by decide, fun _ _ h => h.1⟩
  next := fun C k' m l1 l2 oi i x Q hw le hi hx h => by
    obtain ⟨v, hv, hr⟩ := ha.get hx
    exact Mt_next_tup rfl hi (.inl (le _ _ hk)) hl hv fun oi' hi' => h v oi' hi' hr
  done := fun C k' m l1 l2 oi i Q hw le hi hx h => Mt_next_tup_end rfl hi (.inl (le _ _ hk)) hl (by rw [← ha.1]; exact hx) h
  self := fun C k' m mu oi i Q hw hi hm h => Mt_of (fun s A E R hA S hR => wpAny_pyIter_tupleiter ⟨oi, S.own _ hm, hi⟩ (hR s.toks)) h
theorem Src.dict {d : Addr} {o : Obj} {kvs : List (Int × Value)} {ep : Nat} {it : Addr} (w : World) (hl : ODictE w o kvs ep) (hk : k d = some o) : Src w k it (fun i oi => OKIter oi d i kvs.length ep) (kvs.map (·.1)) IsInt where
  cls := ⟨"dict_keyiterator", by decide, fun _ _ h => h.1⟩
  next := fun C k' m l1 l2 oi i x Q hw le hi hx h => by
    subst hw
    rw [List.getElem?_map] at hx
    obtain ⟨⟨y, u⟩, hy, rfl⟩ := Option.map_eq_some_iff.mp hx
    exact Mt_next_dict rfl hi (.inl (le _ _ hk)) hl hy fun oi' t hi' => h _ oi' hi' ⟨t, rfl⟩
  done := fun C k' m l1 l2 oi i Q hw le hi hx h => by
    subst hw
    exact Mt_next_dict_end rfl hi (.inl (le _ _ hk)) hl (by simpa using hx) h
  self := fun C k' m mu oi i Q hw hi hm h => Mt_of (fun s A E R hA S hR => wpAny_pyIter_keyiter ⟨oi, S.own _ hm, hi⟩ (hR s.toks)) h

def ORange (o : Obj) (a b c : Int) : Prop := ∃ t u v, o = { cls := .type "range", dict := none, data := .fields #[.int a t, .int b u, .int c v], slots := #[] }
def ORIter (o : Obj) (x left step : Int) : Prop := o = { cls := .type "range_iterator", dict := none, data := .fields #[rawInt x, rawInt left, rawInt step], slots := #[] }
theorem Src.range {it : Addr} (w : World) (a : Int) (n : Nat) : Src w k it (fun i oi => i ≤ n ∧ ORIter oi (a + i) ((n : Int) - i) 1) ((List.range n).map fun (j : Nat) => a + (j : Int)) IsInt where
  cls := ⟨"range_iterator", by decide, fun _ _ h => by rw [h.2]⟩
  next := fun C k' m l1 l2 oi i x Q hw le hi hx h => by
    subst hw
    have hn : i < n := by have := (List.getElem?_eq_some_iff.mp hx).1; simpa using this
    have hx' : x = a + i := by simp [hn] at hx; omega
    obtain ⟨_, rfl⟩ := hi
    refine Mt_turn (Pr := fun v o' => ∃ t, v = some (.int (a + i) t) ∧ ORIter o' (a + ((i + 1 : Nat) : Int)) ((n : Int) - ((i + 1 : Nat) : Int)) 1) rfl (fun s A E R hA S hR => wpAny_pyNext_range_item (S.own _ mem_mid) (by omega) fun h' hit hs => ?_) fun v o' ⟨t, e, hp⟩ => e ▸ h _ o' ⟨by omega, hp⟩ ⟨t, by rw [hx']⟩
    refine hR _ _ h' _ ⟨_, rfl, ?_⟩ (fun b ob hb e => (hs.2 b hb).trans e) hit
    show _ = _
    have e1 : a + (i : Int) + 1 = a + ((i + 1 : Nat) : Int) := by omega
    have e2 : (n : Int) - (i : Int) - 1 = (n : Int) - ((i + 1 : Nat) : Int) := by omega
    rw [e1, e2]
  done := fun C k' m l1 l2 oi i Q hw le hi hx h => by
    subst hw
    have hn : n ≤ i := by simpa using hx
    obtain ⟨h0, rfl⟩ := hi
    exact Mt_lose (Pr := fun v => v = none) rfl (fun s A E R hA S hR => wpAny_pyNext_range_end hA.handled (S.own _ mem_mid) (by omega) fun h' he => hR _ h' s.toks rfl he) fun v e => e ▸ h
  self := fun C k' m mu oi i Q hw hi hm h => by
    obtain ⟨_, rfl⟩ := hi
    exact Mt_of (fun s A E R hA S hR => wpAny_pyIter_rangeiter (S.own _ hm) (hR s.toks)) h

theorem Mt_letOwned {target : PySem.Expr} {it : Addr} {v : Value} {oi : Obj} {T : String} {Q : Unit → Kn → Lm → Mu → Prop} (hT : owners.contains T = false) (hc : oi.cls = .type T) (hm : (it, oi) ∈ mu) (h : Q () k m mu) : Mt C k m mu (letOwnedTupleGo target (.ref it) v) Q := by
  have key : ∀ (s : Shared) (A : Around) (E : Value → Shared → Prop) (R : Unit → Shared → Prop), OkA C.n A → Stt C k m mu s.heap → (∀ tk, R () { s with toks := tk }) → ∀ a, wpAny (model P C.w) A (do
      let o ← load it
      match o.cls, o.data with
      | .type n, .fields vs =>
        if ["enumerate", "zip", "dict_itemiterator", "dict_reverseitemiterator", "odict_iterator", "itertools.zip_longest", "itertools.pairwise"].contains n && vs[0]? == some (rawInt a) then
          rule "for.unpacks-the-owned-tuple"
          updateField it 0 .none
      | _, _ => pure ()) R E s := by
    intro s A E R hA S hR a
    refine wpAny_bind (wpAny_load (S.own _ hm) ?_)
    rw [hc]
    split
    · rename_i n vs e1 e2
      cases e1
      have hT' : ["enumerate", "zip", "dict_itemiterator", "dict_reverseitemiterator", "odict_iterator", "itertools.zip_longest", "itertools.pairwise"].contains T = false := hT
      rw [if_neg (by rw [hT']; simp)]
      exact wpAny_pure (hR s.toks)
    · exact wpAny_pure (hR s.toks)
  unfold letOwnedTupleGo
  split
  · cases v with
    | ref a => exact Mt_of (fun s A E R hA S hR => key s A E R hA S hR a) h
    | _ => exact Mt_pure h
  · cases v with
    | ref a => exact Mt_of (fun s A E R hA S hR => key s A E R hA S hR a) h
    | _ => exact Mt_pure h
  · exact Mt_pure h
end
end Mine

-- LM
namespace Mine
section
variable {α β γ δ : Type} {C : Cx} {k : Kn} {m : Lm} {mu : Mu}

theorem Mt_frz {t : Sem α} {D : Addr} {o : Obj} {l1 l2 : Mu} {Q : α → Kn → Lm → Mu → Prop} (h : k D = none → k.Le (k.put D o) → Mt C (k.put D o) m (l1 ++ l2) t Q) : Mt C k m (l1 ++ (D, o) :: l2) t Q := fun s A E hA S => by
  have kD : k D = none := S.kmu (D, o) mem_mid
  exact h kD (Kn.le_put kD) s A E hA S.freeze
/-- what holds of a frame's state at any time may be used -/
theorem Mt_fact {t : Sem α} {X : Prop} {Q : α → Kn → Lm → Mu → Prop} (hx : ∀ h, Stt C k m mu h → X) (h : X → Mt C k m mu t Q) : Mt C k m mu t Q := fun s A E hA S => h (hx _ S) s A E hA S

theorem Mt_thaw {t : Sem α} {D : Addr} {o : Obj} {Q : α → Kn → Lm → Mu → Prop} (kD : k D = none) (hb : C.base.get? D = none) (h : Mt C k m ((D, o) :: mu) t Q) : Mt C (k.put D o) m mu t Q := fun s A E hA S => h s A E hA (S.thaw kD hb)

/-! names: one map over another -/
def Lm.set (m : Lm) (x : Str) (v : Value) : Lm := fun y => if y = x then some v else m y
theorem Lm.set_self (m : Lm) (x : Str) (v : Value) : m.set x v x = some v := by simp [Lm.set]
theorem Lm.set_ne (m : Lm) {x y : Str} (v : Value) (h : y ≠ x) : m.set x v y = m y := by simp [Lm.set, h]
theorem Lm.up {m : Lm} {x y : Str} {v : Value} {r : Option Value} (h : m y = r) (hne : y ≠ x := by decide) : m.set x v y = r := (Lm.set_ne m v hne).trans h
theorem Mt_setL {x : Str} {v : Value} {Q : Unit → Kn → Lm → Mu → Prop} (h : Q () k (m.set x v) mu) (hx : C.env.kindOf x = some .local := by rfl) : Mt C k m mu (storeName C.env x v) Q := Mt_store_L h hx
theorem Mt_setC {x : Str} {v : Value} {Q : Unit → Kn → Lm → Mu → Prop} (h : Q () k (m.set x v) mu) (hx : C.ownv.contains x = true := by rfl) (hc : (C.env.cells.lookup x).isSome = true := by rfl) : Mt C k m mu (storeName C.env x v) Q := Mt_store_C h (List.contains_iff_mem.mp hx) hc
theorem Mt_toL {x pos v} {Q : Unit → Kn → Lm → Mu → Prop} (h : Q () k (m.set x v) mu) (hx : C.env.kindOf x = some .local := by rfl) : Mt C k m mu (assign (.Name x pos) C.env v) Q := Mt_assign_Name (Mt_setL h hx)
theorem Mt_toC {x pos v} {Q : Unit → Kn → Lm → Mu → Prop} (h : Q () k (m.set x v) mu) (hx : C.ownv.contains x = true := by rfl) (hc : (C.env.cells.lookup x).isSome = true := by rfl) : Mt C k m mu (assign (.Name x pos) C.env v) Q := Mt_assign_Name (Mt_setC h hx hc)

/-! loops over a source -/
section
variable {Q : Flow → Kn → Lm → Mu → Prop} {w : World} {k0 : Kn} {it : Addr} {I : Nat → Obj → Prop} {xs : List γ} {R : γ → Value → Prop}
theorem MtC_forS {target : PySem.Expr} {body orelse : List Stmt} {oi : Obj} (S : Src C.w k0 it I xs R) (Inv : Nat → Kn → Lm → Mu → Prop)
    (turn : ∀ (i : Nat) (x : γ) k m mu oi v, xs[i]? = some x → R x v → k0.Le k → Inv i k m mu → I (i + 1) oi → Mt C k m ((it, oi) :: mu) (assign target C.env v) (fun _ k m mu => Mt C k m mu (execs body C.env) (fun f k m mu => match f with
        | .next | .cont => ∃ oi mu', mu = (it, oi) :: mu' ∧ k0.Le k ∧ I (i + 1) oi ∧ Inv (i + 1) k m mu'
        | .brk => Q .next k m mu
        | .ret v => Q (.ret v) k m mu)))
    (done : ∀ k m mu, k0.Le k → Inv xs.length k m mu → Mt C k m mu (execs orelse C.env) Q)
    (h0 : Inv 0 k m mu) (hi : I 0 oi) (hk : k0.Le k) : MtC C k m ((it, oi) :: mu) (.forLoop target (.ref it) body orelse C.env) Q := by
  refine MtC_for (fun n k m mu => ∃ i oi mu', n = xs.length - i ∧ i ≤ xs.length ∧ mu = (it, oi) :: mu' ∧ k0.Le k ∧ I i oi ∧ Inv i k m mu') ?_ _ ⟨0, oi, mu, rfl, Nat.zero_le _, rfl, hk, hi, h0⟩
  rintro n k m mu ⟨i, oi, mu', rfl, hle, rfl, hk, hi, hv⟩
  rcases Nat.lt_or_ge i xs.length with hlt | hge
  · have hx : xs[i]? = some xs[i] := by simp [hlt]
    refine S.next C k m [] mu' oi i _ _ rfl hk hi hx fun v oi' hi' hr => ?_
    obtain ⟨T, hT, hc⟩ := S.cls
    refine Mt_letOwned hT (hc _ _ hi') (.head _) (Mt_mono (turn i _ k m mu' oi' v hx hr hk hv hi') fun _ k m mu h => Mt_mono h fun f k m mu h => ?_)
    cases f with
    | next => obtain ⟨oi, mu', rfl, h1, h2, h3⟩ := h; exact ⟨xs.length - (i + 1), by omega, i + 1, oi, mu', rfl, by omega, rfl, h1, h2, h3⟩
    | cont => obtain ⟨oi, mu', rfl, h1, h2, h3⟩ := h; exact ⟨xs.length - (i + 1), by omega, i + 1, oi, mu', rfl, by omega, rfl, h1, h2, h3⟩
    | brk => exact h
    | ret v => exact h
  · have : i = xs.length := by omega
    subst this
    exact S.done C k m [] mu' oi _ _ rfl hk hi (Nat.le_refl _) (done k m mu' hk hv)

theorem MtC_compS {elt target iter : PySem.Expr} {ifs : List PySem.Expr} {scope : Scope} {pos : Pos} {oi : Obj} {D : Addr} {oD : Obj} {vs0 : List Value} {ys0 : List δ} {Q' : Flow → Kn → Lm → Mu → Prop} (S : Src C.w k0 it I xs R) (f : γ → List δ) (R' : Kn → δ → Value → Prop) (hR' : ∀ k k' d v, k.Le k' → R' k d v → R' k' d v) (Inv : Lm → Prop) (hsz : ys0.length + xs.length ≤ 2 ^ 20)
    (hf : ∀ x ∈ xs, (f x).length ≤ 1)
    (turn : ∀ (i : Nat) (x : γ) k m oi oD v, xs[i]? = some x → R x v → k0.Le k → Inv m → Mt C k m [(D, oD), (it, oi)] (assign target C.env v) (fun _ k1 m1 mu1 => Mt C k1 m1 mu1 (testsOf ifs C.env) (fun ok k2 m2 mu2 =>
        if ok = true then Mt C k2 m2 mu2 (eval elt C.env) (fun ev k3 m3 mu3 => k.Le k3 ∧ mu3 = [(D, oD), (it, oi)] ∧ Inv m3 ∧ ∃ d, f x = [d] ∧ R' k3 d ev)
        else k.Le k2 ∧ mu2 = [(D, oD), (it, oi)] ∧ Inv m2 ∧ f x = [])))
    (done : ∀ k m oD vs, k0.Le k → OList oD vs → Are (R' k) (ys0 ++ xs.flatMap f) vs → Q' .next k m [(D, oD)])
    (h0 : Inv m) (hD : OList oD vs0) (ha : Are (R' k) ys0 vs0) (hi : I 0 oi) (hk : k0.Le k) : MtC C k m [(D, oD), (it, oi)] (.compLoop (.ListComp elt [⟨target, iter, ifs, 0⟩] scope pos) 0 (.ref it) (.ref D) C.env) Q' := by
  refine MtC_comp1 (fun n k m mu => ∃ i oi oD vs, n = xs.length - i ∧ i ≤ xs.length ∧ mu = [(D, oD), (it, oi)] ∧ k0.Le k ∧ I i oi ∧ Inv m ∧ OList oD vs ∧ Are (R' k) (ys0 ++ (xs.take i).flatMap f) vs ∧ vs.length ≤ ys0.length + i) ?_ _ ⟨0, oi, oD, vs0, rfl, Nat.zero_le _, rfl, hk, hi, h0, hD, by simpa using ha, by rw [← ha.1]; omega⟩
  rintro n k m mu ⟨i, oi, oD, vs, rfl, hle, rfl, hk, hi, hv, hD, ha, hl⟩
  rcases Nat.lt_or_ge i xs.length with hlt | hge
  · have hx : xs[i]? = some xs[i] := by simp [hlt]
    refine S.next C k m [(D, oD)] [] oi i _ _ rfl hk hi hx fun v oi' hi' hr => ?_
    obtain ⟨T, hT, hc⟩ := S.cls
    have tk : (xs.take (i + 1)).flatMap f = (xs.take i).flatMap f ++ f xs[i] := by rw [List.take_add_one, hx, List.flatMap_append]; simp
    refine Mt_letOwned hT (hc _ _ hi') (.tail _ (.head _)) (Mt_mono (turn i _ k m oi' oD v hx hr hk hv) fun _ k1 m1 mu1 h => Mt_mono h fun ok k2 m2 mu2 h => ?_)
    cases ok with
    | true =>
      rw [if_pos rfl] at h ⊢
      refine Mt_mono h fun ev k3 m3 mu3 h => ?_
      obtain ⟨le, rfl, hv3, d, hd, hr'⟩ := h
      refine Mt_append (l1 := []) rfl hD (by omega) fun o' ho' => ?_
      refine ⟨xs.length - (i + 1), by omega, i + 1, oi', o', _, rfl, by omega, rfl, hk.trans le, hi', hv3, ho', ?_, ?_⟩
      · rw [tk, hd, ← List.append_assoc]
        exact (ha.mono fun x _ v h => hR' _ _ _ _ le h).push hr'
      · simp; omega
    | false =>
      rw [if_neg (by simp)] at h ⊢
      obtain ⟨le, rfl, hv2, hd⟩ := h
      refine ⟨xs.length - (i + 1), by omega, i + 1, oi', oD, vs, rfl, by omega, rfl, hk.trans le, hi', hv2, hD, ?_, by omega⟩
      rw [tk, hd, List.append_nil]
      exact ha.mono fun x _ v h => hR' _ _ _ _ le h
  · have : i = xs.length := by omega
    subst this
    refine S.done C k m [(D, oD)] [] oi _ _ rfl hk hi (Nat.le_refl _) (done k m oD vs hk hD ?_)
    simpa using ha

/-- a list comprehension over one source -/
theorem comp1_in {elt target iter : PySem.Expr} {ifs : List PySem.Expr} {scope : Scope} {pos : Pos} {oi : Obj} {QV : Value → Kn → Prop} (S : Src C.w k0 it I xs R) (f : γ → List δ) (R' : Kn → δ → Value → Prop) (hR' : ∀ k k' d v, k.Le k' → R' k d v → R' k' d v) (Inv : Lm → Prop) (hsz : xs.length ≤ 2 ^ 20)
    (hf : ∀ x ∈ xs, (f x).length ≤ 1)
    (turn : ∀ D L base, TB < D → ∀ (i : Nat) (x : γ) k1 m oi oD v, xs[i]? = some x → R x v → k0.Le k1 → Inv m → Mt (ccx C scope L base k) k1 m [(D, oD), (it, oi)] (assign target (cenvOf scope C.env L) v) (fun _ k2 m1 mu1 => Mt (ccx C scope L base k) k2 m1 mu1 (testsOf ifs (cenvOf scope C.env L)) (fun ok k3 m2 mu2 =>
        if ok = true then Mt (ccx C scope L base k) k3 m2 mu2 (eval elt (cenvOf scope C.env L)) (fun ev k4 m3 mu3 => k1.Le k4 ∧ mu3 = [(D, oD), (it, oi)] ∧ Inv m3 ∧ ∃ d, f x = [d] ∧ R' k4 d ev)
        else k1.Le k3 ∧ mu2 = [(D, oD), (it, oi)] ∧ Inv m2 ∧ f x = [])))
    (done : ∀ D k' oD vs, TB < D → C.base.get? D = none → k' D = none → k0.Le k' → k'.Le (k'.put D oD) → OList oD vs → Are (R' k') (xs.flatMap f) vs → QV (.ref D) (k'.put D oD))
    (h0 : Inv (cmap scope m)) (hi : I 0 oi) (hk : k0.Le k) : CompIn C (.ListComp elt [⟨target, iter, ifs, 0⟩] scope pos) scope (.ref it) lst0 m [(it, oi)] mu k QV := fun D L base hTD hDb => by
  have loop : MtC (ccx C scope L base k) k (cmap scope m) [(D, lst0), (it, oi)] (.compLoop (.ListComp elt [⟨target, iter, ifs, 0⟩] scope pos) 0 (.ref it) (.ref D) (cenvOf scope C.env L)) (fun _ k' _ mu' => ∃ oD, (D, oD) ∈ mu' ∧ (k' D = none → QV (.ref D) (k'.put D oD))) := by
    refine MtC_compS (C := ccx C scope L base k) (ys0 := []) (δ := δ) S f R' hR' Inv (by simpa using hsz) hf (turn D L base hTD) (fun k' m' oD vs hk' hD ha => ?_) h0 lst0_OList Are.nil hi hk
    exact ⟨oD, .head _, fun kD => done D k' oD vs hTD hDb kD hk' (Kn.le_put kD) hD (by simpa using ha)⟩
  refine MtC_start (C := ccx C scope L base k) ⟨_, fun w => rfl⟩ (fun A => Around.under_of_weight rfl) rfl rfl loop ?_
  exact S.self _ _ _ _ oi 0 _ rfl hi (.tail _ (.head _)) loop

/-- a dict comprehension over one source, no test -/
theorem compD_in {kx vx target iter : PySem.Expr} {scope : Scope} {pos : Pos} {oi : Obj} {QV : Value → Kn → Prop} (S : Src C.w k0 it I xs R) (Inv : Nat → Kn → Obj → Prop)
    (turn : ∀ D L base, TB < D → ∀ (i : Nat) (x : γ) k1 m oi oD v, xs[i]? = some x → R x v → k0.Le k1 → Inv i k1 oD → Mt (ccx C scope L base k) k1 m [(D, oD), (it, oi)] (assign target (cenvOf scope C.env L) v) (fun _ k2 m1 mu1 =>
        Mt (ccx C scope L base k) k2 m1 mu1 (eval kx (cenvOf scope C.env L)) (fun kv k3 m2 mu2 => Mt (ccx C scope L base k) k3 m2 mu2 (eval vx (cenvOf scope C.env L)) (fun vv k4 m3 mu3 => Mt (ccx C scope L base k) k4 m3 mu3 (dictSet D kv vv) (fun _ k5 _ mu5 => k1.Le k5 ∧ ∃ oD', mu5 = [(D, oD'), (it, oi)] ∧ Inv (i + 1) k5 oD')))))
    (done : ∀ D k' oD, TB < D → C.base.get? D = none → k' D = none → k0.Le k' → k'.Le (k'.put D oD) → Inv xs.length k' oD → QV (.ref D) (k'.put D oD))
    (h0 : Inv 0 k dct0) (hi : I 0 oi) (hk : k0.Le k) : CompIn C (.DictComp kx vx [⟨target, iter, [], 0⟩] scope pos) scope (.ref it) dct0 m [(it, oi)] mu k QV := fun D L base hTD hDb => by
  have loop : MtC (ccx C scope L base k) k (cmap scope m) [(D, dct0), (it, oi)] (.compLoop (.DictComp kx vx [⟨target, iter, [], 0⟩] scope pos) 0 (.ref it) (.ref D) (cenvOf scope C.env L)) (fun _ k' _ mu' => ∃ oD, (D, oD) ∈ mu' ∧ (k' D = none → QV (.ref D) (k'.put D oD))) := by
    refine MtC_compD (C := ccx C scope L base k) (fun n k m mu => ∃ i oi oD, n = xs.length - i ∧ i ≤ xs.length ∧ mu = [(D, oD), (it, oi)] ∧ k0.Le k ∧ I i oi ∧ Inv i k oD) ?_ _ ⟨0, oi, dct0, rfl, Nat.zero_le _, rfl, hk, hi, h0⟩
    rintro n k1 m mu ⟨i, oi, oD, rfl, hle, rfl, hk, hi, hv⟩
    rcases Nat.lt_or_ge i xs.length with hlt | hge
    · have hx : xs[i]? = some xs[i] := by simp [hlt]
      refine S.next (ccx C scope L base k) k1 m [(D, oD)] [] oi i _ _ rfl hk hi hx fun v oi' hi' hr => ?_
      obtain ⟨T, hT, hc⟩ := S.cls
      refine Mt_letOwned hT (hc _ _ hi') (.tail _ (.head _)) (Mt_mono (turn D L base hTD i _ k1 m oi' oD v hx hr hk hv) fun _ k2 m1 mu1 h => Mt_tests_nil ?_)
      rw [if_pos rfl]
      refine Mt_mono h fun kv k3 m2 mu2 h => Mt_mono h fun vv k4 m3 mu3 h => Mt_mono h fun _ k5 m5 mu5 h => ?_
      obtain ⟨le, oD', rfl, hv'⟩ := h
      exact ⟨xs.length - (i + 1), by omega, i + 1, oi', oD', rfl, by omega, rfl, hk.trans le, hi', hv'⟩
    · have : i = xs.length := by omega
      subst this
      exact S.done (ccx C scope L base k) k1 m [(D, oD)] [] oi _ _ rfl hk hi (Nat.le_refl _) ⟨oD, .head _, fun kD => done D k1 oD hTD hDb kD hk (Kn.le_put kD) hv⟩
  refine MtC_start (C := ccx C scope L base k) ⟨_, fun w => rfl⟩ (fun A => Around.under_of_weight rfl) rfl rfl loop ?_
  exact S.self _ _ _ _ oi 0 _ rfl hi (.tail _ (.head _)) loop
end
end

section
variable {α β γ δ : Type} {C : Cx} {k : Kn} {m : Lm} {mu : Mu}
theorem lo_of {d : Addr} (h : TB < d) : (d == sysModules) = false := by
  have : d ≠ sysModules := fun e => by rw [e] at h; exact absurd h (by decide)
  simpa using this
theorem Mt_AssignSub {o i : PySem.Expr} {pos' value pos} {Q : Flow → Kn → Lm → Mu → Prop} (h : Mt C k m mu (eval value C.env) (fun v k m mu => Mt C k m mu (eval o C.env) (fun ov k m mu => Mt C k m mu (eval i C.env) (fun iv k m mu => Mt C k m mu (setItem ov iv v) (fun _ k m mu => Q .next k m mu)))))
    (hs : swapsWith value (some (.Subscript o i pos')) pos.line C.env = pure false := by rfl) : Mt C k m mu (exec (.Assign [.Subscript o i pos'] value pos) C.env) Q := by
  rw [exec_Assign_Subscript o i pos' value pos hs]
  refine Mt_at (Mt_bind (Mt_mono h fun v k m mu h => ?_))
  rw [PySem.assign_Subscript]
  refine Mt_bind (Mt_bind (Mt_holding (Mt_mono h fun ov k m mu h => Mt_bind (Mt_holding (Mt_mono h fun iv k m mu h => Mt_at (Mt_bind (Mt_holding (Mt_mono h fun _ k m mu h => Mt_release (Mt_pure h)))))))))
end
end Mine

-- LN
namespace Mine
/-- the queue so far: its first i are done -/
def BfsOk (nb : Int → List Int) (nodes : List Int) (s : Int) (qs : List Int) (i : Nat) : Prop :=
  qs.Nodup ∧ qs.head? = some s ∧ (∀ y ∈ qs, y ∈ nodes ∧ Reach nb s y) ∧ ∀ j < i, ∀ y, qs[j]? = some y → ∀ z ∈ nb y, z ∈ qs
theorem BfsOk.add {nb : Int → List Int} {nodes : List Int} {s : Int} {qs : List Int} {i : Nat} {x z : Int} (b : BfsOk nb nodes s qs i) (hx : x ∈ qs) (hz : z ∈ nb x) (hn : z ∈ nodes) (hq : z ∉ qs) (hi : i ≤ qs.length) : BfsOk nb nodes s (qs ++ [z]) i := by
  obtain ⟨b1, b2, b3, b4⟩ := b
  refine ⟨?_, ?_, fun y hy => ?_, fun j hj y hy u hu => ?_⟩
  · rw [List.nodup_append]
    refine ⟨b1, by simp, fun a ha b hb e => ?_⟩
    simp at hb; subst hb; subst e; exact hq ha
  · cases qs with
    | nil => simp at b2
    | cons a r => simpa using b2
  · rcases List.mem_append.mp hy with hy | hy
    · exact b3 y hy
    · simp at hy; subst hy; exact ⟨hn, .step (b3 x hx).2 hz⟩
  · rw [List.getElem?_append] at hy
    split at hy
    · exact List.mem_append_left _ (b4 j hj y hy u hu)
    · rename_i hlt
      omega
theorem BfsOk.next {nb : Int → List Int} {nodes : List Int} {s : Int} {qs : List Int} {i : Nat} {x : Int} (b : BfsOk nb nodes s qs i) (hx : qs[i]? = some x) (h : ∀ z ∈ nb x, z ∈ qs) : BfsOk nb nodes s qs (i + 1) := by
  obtain ⟨b1, b2, b3, b4⟩ := b
  refine ⟨b1, b2, b3, fun j hj y hy z hz => ?_⟩
  rcases Nat.lt_or_ge j i with hlt | hge
  · exact b4 j hlt y hy z hz
  · have : j = i := by omega
    subst this
    rw [hx] at hy; cases hy; exact h z hz
theorem nodup_len_le : ∀ {l l' : List Int}, l.Nodup → (∀ x ∈ l, x ∈ l') → l.length ≤ l'.length
  | [], _, _, _ => Nat.zero_le _
  | a :: r, l', hn, hs => by
    have hn' := List.nodup_cons.mp hn
    have ha := hs a (.head _)
    have : r.length ≤ (l'.erase a).length := nodup_len_le hn'.2 fun x hx => (List.mem_erase_of_ne (fun e => hn'.1 (by subst e; exact hx))).mpr (hs x (.tail _ hx))
    rw [List.length_erase_of_mem ha] at this
    have : 0 < l'.length := List.length_pos_of_mem ha
    simp; omega
theorem BfsOk.fin {nb : Int → List Int} {nodes : List Int} {s : Int} {qs : List Int} {i : Nat} (b : BfsOk nb nodes s qs i) (hi : qs.length ≤ i) : ∀ y, y ∈ qs ↔ Reach nb s y := by
  obtain ⟨b1, b2, b3, b4⟩ := b
  refine fun y => ⟨fun h => (b3 y h).2, fun h => ?_⟩
  induction h with
  | refl => exact List.mem_of_mem_head? (by simp [b2])
  | @step y z h hz ih =>
    obtain ⟨j, hj, e⟩ := List.getElem_of_mem ih
    exact b4 j (by omega) y (by simp [hj, e]) z hz

theorem reached_ev {w : World} {n : Nat} {G : Gr} {k : Kn} (g : GOk G) {N S : Addr} {oS : Obj} {nodes : List Int} {nb : Int → List Int} {s : Int} {t : Tok} (hA : AdjAt w k N nodes nb) (hcl : ∀ x ∈ nodes, ∀ y ∈ nb x, y ∈ nodes) (hs : s ∈ nodes) (hn : nodes.length ≤ 1000)
    (hS : k S = some oS) (hSl : OList oS [.int s t]) :
    Ev w (n + 1) G k (call (.ref 75) [.ref N, .ref S]) (fun v k' => ∃ D o vs qs, v = .ref D ∧ k' D = some o ∧ OList o vs ∧ IsInts qs vs ∧ qs.Nodup ∧ qs.head? = some s ∧ ∀ y, y ∈ qs ↔ Reach nb s y) := by
  refine Ev_fn g (fn_reached w) ?_
  rw [bind_reached]
  refine Ev_pure g ⟨by kernel_rfl, fun base L => ?_⟩
  refine Mt_cons (Mt_Assign_swapD (Mt_nameL rfl (Mt_pyIter_list (.inl hS) hSl fun it oi hit hoi => ?_)))
  refine ⟨[(it, oi)], [], rfl, compD_in (xs := [s]) (R := IsInt) (Src.list w hSl hS (Are.nil.cons ⟨t, rfl⟩)) (fun i k' oD => k' = k ∧ ODict w oD (([s].take i).map fun x => (x, Value.bool true))) ?_ ?_ ⟨rfl, dct0_ODict w⟩ hoi (Kn.Le.refl _)⟩
  · rintro D L' base' hT i x k1 m oi oD v hx ⟨tx, rfl⟩ hk ⟨rfl, hD⟩
    refine Mt_toL (Mt_nameL (Lm.set_self _ _ _) (Mt_bool (Mt_dictSet (l1 := []) rfl hD ?_ fun o' ho' => ⟨Kn.Le.refl _, o', rfl, rfl, ?_⟩)))
    · simp; omega
    · have hi : i = 0 := by have := (List.getElem?_eq_some_iff.mp hx).1; simp at this; omega
      subst hi
      simp at hx; subst hx
      simpa [stored] using ho'
  · rintro D k' oD hT hDb kD hk le ⟨rfl, hD⟩
    refine Mt_thaw kD hDb ?_
    subst_vars
    have lo : (D == sysModules) = false := lo_of hT
    refine Mt_cons (Mt_Assign (Mt_Call (Mt_nameB (v := .type "list") (by kernel_rfl) (by kernel_rfl) (by decide) ⟨keeps_type _, ?_⟩)))
    refine Mt_spliced_cons (Mt_nameL rfl (Mt_spliced_nil ?_))
    refine Mt_listOf_dict lo (.inr (.head _)) hD (by simp) fun Dq oQ vs hTq hQ hvs => ?_
    refine Mt_setL ?_
    refine Mt_cons (Mt_For (Mt_nameL rfl (Mt_pyIter_list (.inr (.head _)) hQ fun it1 oi1 hT1 hi1 => ?_)))
    refine MtC_for (fun c k m mu => ∃ i oi1 oQ oD vs qs kvs, c = nodes.length - i ∧ mu = [(it1, oi1), (Dq, oQ), (D, oD)] ∧ k = k' ∧ m "neighbors" = some (.ref N) ∧ m "seen" = some (.ref D) ∧ m "queue" = some (.ref Dq) ∧ OLIter oi1 Dq i ∧ OList oQ vs ∧ IsInts qs vs ∧ ODict w oD kvs ∧ kvs.map (·.1) = qs ∧ i ≤ qs.length ∧ BfsOk nb nodes s qs i) ?_ nodes.length ⟨0, oi1, oQ, oD, vs, [s], [(s, .bool true)], rfl, rfl, rfl, rfl, rfl, rfl, hi1, hQ, hvs, hD, rfl, Nat.zero_le _, by simp, by simp, fun y hy => by simp at hy; subst hy; exact ⟨hs, .refl⟩, fun j hj => absurd hj (Nat.not_lt_zero _)⟩
    clear hQ hvs hD hi1
    rintro c k m mu ⟨i, oi1, oQ, oD, vs, qs, kvs, rfl, rfl, rfl, m1, m2, m3, hi1, hQ, hvs, hD, hks, hiq, bf⟩
    have hlen : qs.length ≤ nodes.length := nodup_len_le bf.1 fun y hy => (bf.2.2.1 y hy).1
    rcases Nat.lt_or_ge i qs.length with hlt | hge
    · obtain ⟨x, hx⟩ : ∃ x, qs[i]? = some x := ⟨qs[i], by simp [hlt]⟩
      obtain ⟨v, hv, t, rfl⟩ := hvs.get hx
      refine Mt_next_list (l1 := []) rfl hi1 (.inr (by simp)) hQ hv fun oi1' hi1' => ?_
      refine Mt_letOwned (T := "list_iterator") (by decide) hi1'.1 (.head _) (Mt_toL ?_)
      have hxn : x ∈ nodes := (bf.2.2.1 x (List.mem_of_getElem? hx)).1
      obtain ⟨oN, kN, hN1, hN2, hN3, hN4, hN5⟩ := hA
      obtain ⟨dx, ox, kx, hx1, hx2, hx3, hx4, hx5⟩ := hN5 x hxn
      obtain ⟨ep, hx3'⟩ := hx3.ep
      refine Mt_cons (Mt_For (Mt_Subscript (Mt_nameL (Lm.up m1) (Mt_nameL (Lm.set_self _ _ _) (Mt_sub_dict (.inl hN1) hN2 hx1 (Mt_pyIter_dict hx5 (.inl hx2) hx3' fun it2 oi2 hT2 hi2 => ?_))))))
      refine MtC_forS (Src.dict w hx3' hx2) (fun j k' m mu => ∃ oQ oD vs qs' kvs, mu = [(it1, oi1'), (Dq, oQ), (D, oD)] ∧ k' = k ∧ m "neighbors" = some (.ref N) ∧ m "seen" = some (.ref D) ∧ m "queue" = some (.ref Dq) ∧ OList oQ vs ∧ IsInts qs' vs ∧ ODict w oD kvs ∧ kvs.map (·.1) = qs' ∧ (∃ more, qs' = qs ++ more) ∧ BfsOk nb nodes s qs' i ∧ ∀ z ∈ (kx.map (·.1)).take j, z ∈ qs') ?_ ?_ ⟨oQ, oD, vs, qs, kvs, rfl, rfl, Lm.up m1, Lm.up m2, Lm.up m3, hQ, hvs, hD, hks, ⟨[], by simp⟩, bf, by simp⟩ hi2 (Kn.Le.refl _)
      · clear m1 m2 m3 hQ hvs hD hks bf hi2 hlen
        rintro j z k1 m mu oi2 v hz ⟨tz, rfl⟩ - ⟨oQ, oD, vs, qs', kvs, rfl, rfl, m1, m2, m3, hQ, hvs, hD, hks, ⟨more, hm⟩, bf, hj⟩ hi2
        have hlen : qs'.length ≤ nodes.length := nodup_len_le bf.1 fun y hy => (bf.2.2.1 y hy).1
        have hkl : kvs.length = qs'.length := by rw [← hks]; simp
        have hzn : z ∈ nb x := by rw [← hx4]; exact List.mem_of_getElem? hz
        have tk : (kx.map (·.1)).take (j + 1) = (kx.map (·.1)).take j ++ [z] := by rw [List.take_add_one, hz]; rfl
        refine Mt_toL ?_
        refine Mt_cons (Mt_If (Mt_isTrue_Compare (Mt_nameL (Lm.set_self _ _ _) (Mt_nameL (Lm.up m2) (Mt_notin_dict lo (.inr (by simp)) hD (Mt_truthy_bool ?_))))))
        cases hv : (valueAt kvs z).isSome with
        | true =>
          simp only [Bool.not_true, Bool.false_eq_true, if_false]
          have hzq : z ∈ qs' := by
            rw [valueAt_isSome_eq_any, List.any_eq_true] at hv
            obtain ⟨⟨a, b⟩, h1, h2⟩ := hv
            rw [← hks]; simp at h2; subst h2; exact List.mem_map.mpr ⟨_, h1, rfl⟩
          refine Mt_nil (Mt_nil ⟨oi2, _, rfl, Kn.Le.refl _, hi2, oQ, oD, vs, qs', kvs, rfl, rfl, Lm.up m1, Lm.up m2, Lm.up m3, hQ, hvs, hD, hks, ⟨more, hm⟩, bf, fun y hy => ?_⟩)
          rw [tk] at hy
          rcases List.mem_append.mp hy with hy | hy
          · exact hj y hy
          · simp at hy; subst hy; exact hzq
        | false =>
          simp only [Bool.not_false, if_true]
          have hv' : valueAt kvs z = none := by simpa using hv
          have hzq : z ∉ qs' := fun hm => by
            rw [← hks] at hm
            obtain ⟨p, hp, e⟩ := List.mem_map.mp hm
            have : (valueAt kvs z).isSome = true := by rw [valueAt_isSome_eq_any, List.any_eq_true]; exact ⟨p, hp, by simpa using e⟩
            rw [hv] at this; cases this
          refine Mt_cons (Mt_AssignSub (Mt_bool (Mt_nameL (Lm.up m2) (Mt_nameL (Lm.set_self _ _ _) (Mt_setItem_dict (l1 := [(it2, oi2), (it1, oi1'), (Dq, oQ)]) (l2 := []) rfl hD (by omega) fun oD' hD' => ?_)))))
          refine Mt_cons (Mt_Expr rfl (Mt_CallM (Mt_nameL (Lm.up m3) fun pl => Mt_getAppend (.inr (by simp)) hQ ⟨keeps_builtin _, Mt_spliced_cons (Mt_nameL (Lm.set_self _ _ _) (Mt_spliced_nil (Mt_append (l1 := [(it2, oi2), (it1, oi1')]) (l2 := [(D, oD')]) rfl hQ (by rw [← hvs.1]; omega) fun oQ' hQ' => ⟨rfl, ?_⟩)))⟩)))
          rw [stored_absent hv'] at hD'
          refine Mt_nil (Mt_nil ⟨oi2, _, rfl, Kn.Le.refl _, hi2, oQ', oD', _, qs' ++ [z], _, rfl, rfl, Lm.up m1, Lm.up m2, Lm.up m3, hQ', hvs.push ⟨tz, rfl⟩, hD', by simp [hks], ⟨more ++ [z], by rw [hm, List.append_assoc]⟩, bf.add (x := x) ?_ hzn (hcl x hxn z hzn) hzq ?_, fun y hy => ?_⟩)
          · rw [hm]; exact List.mem_append_left _ (List.mem_of_getElem? hx)
          · rw [hm]; simp; omega
          · rw [tk] at hy
            rcases List.mem_append.mp hy with hy | hy
            · exact List.mem_append_left _ (hj y hy)
            · exact List.mem_append_right _ hy
      · rintro k1 m mu - ⟨oQ, oD, vs, qs', kvs, rfl, rfl, m1, m2, m3, hQ, hvs, hD, hks, ⟨more, hm⟩, bf, hj⟩
        rw [List.take_of_length_le (Nat.le_refl _), hx4] at hj
        have hx' : qs'[i]? = some x := by rw [hm, List.getElem?_append_left (by omega)]; exact hx
        have hi' : i < qs'.length := (List.getElem?_eq_some_iff.mp hx').1
        refine Mt_nil (Mt_nil ⟨nodes.length - (i + 1), by omega, i + 1, oi1', oQ, oD, vs, qs', kvs, rfl, rfl, rfl, m1, m2, m3, hi1', hQ, hvs, hD, hks, hi', bf.next hx' hj⟩)
    · refine Mt_next_list_end (l1 := []) rfl hi1 (.inr (by simp)) hQ (by rw [← hvs.1]; exact hge) ?_
      refine Mt_frz (l1 := []) fun kq lq => ?_
      exact Mt_nil (Mt_cons (Mt_Return (Mt_nameL m3 ⟨Dq, oQ, vs, qs, rfl, Kn.put_self _ _ _, hQ, hvs, bf.1, bf.2.1, bf.fin hge⟩)))
end Mine

-- LO
namespace Mine
abbrev DG : Addr := 798
/-- an object's own names -/
def AttrL : List DictEntry → List (Str × Value) → Prop
  | [], [] => True
  | e :: es, (x, v) :: l => (∃ h t, e = ⟨h, .str x t, v⟩) ∧ AttrL es l
  | _, _ => False
def OAttr (o : Obj) (l : List (Str × Value)) : Prop := ∃ es n, o = dictOf es n ∧ AttrL es l
theorem AttrL.find : ∀ {es : List DictEntry} {l : List (Str × Value)} (name : Str), AttrL es l → getL name es = some (l.lookup name)
  | [], [], _, _ => rfl
  | [], _ :: _, _, h => h.elim
  | _ :: _, [], _, h => h.elim
  | e :: es, (x, v) :: l, name, ⟨⟨hh, t, he⟩, h⟩ => by
    have ih := AttrL.find name h
    subst he
    unfold getL at ih ⊢
    rw [List.find?_cons]
    have hs : (Value.str x t).isStr name = (name == x) := by show (x == name) = _; exact BEq.comm
    have hr : (DictEntry.mk hh (.str x t) v).refKey = false := rfl
    rw [List.lookup_cons]
    cases q : (name == x) with
    | true => simp [hs, q]
    | false => simp only [hs, q, List.any_cons, hr, Bool.false_or]; exact ih
theorem OAttr.look {o : Obj} {l : List (Str × Value)} (a : OAttr o l) (name : Str) : lookIn name o = some (l.lookup name) := by
  obtain ⟨es, n, rfl, h⟩ := a
  rw [lookIn_dict]; exact h.find name
theorem AttrL.put : ∀ {es : List DictEntry} {l : List (Str × Value)} {name : Str} {hs : Int} {t : Tok} {v : Value}, AttrL es l → l.lookup name = none → AttrL (putL name hs (.str name t) v es) (l ++ [(name, v)])
  | [], [], name, hs, t, v, _, _ => ⟨⟨hs, t, rfl⟩, trivial⟩
  | [], _ :: _, _, _, _, _, h, _ => h.elim
  | _ :: _, [], _, _, _, _, h, _ => h.elim
  | e :: es, (x, u) :: l, name, hs, t, v, ⟨⟨hh, t', he⟩, h⟩, hn => by
    subst he
    rw [List.lookup_cons] at hn
    unfold putL
    have q : (Value.str x t').isStr name = (name == x) := by show (x == name) = _; exact BEq.comm
    cases e : (name == x) with
    | true => rw [e] at hn; cases hn
    | false => rw [e] at hn; simp only [q, e, Bool.false_eq_true, if_false]; exact ⟨⟨hh, t', rfl⟩, AttrL.put h hn⟩
theorem AttrL.len : ∀ {es : List DictEntry} {l : List (Str × Value)}, AttrL es l → es.length = l.length
  | [], [], _ => rfl
  | [], _ :: _, h => h.elim
  | _ :: _, [], h => h.elim
  | _ :: _, _ :: _, ⟨_, h⟩ => congrArg (· + 1) h.len

section
variable {α β γ δ : Type} {C : Cx} {k : Kn} {m : Lm} {mu : Mu}

/-- a graph object, its names -/
def IsG (k : Kn) (mu : Mu) (g : Addr) (l : List (Str × Value)) : Prop := ∃ dx od, k g = some (instObj DG dx) ∧ At k mu dx od ∧ OAttr od l
theorem Stt.inst {h : Heap} {g dx : Addr} {od : Obj} (S : Stt C k m mu h) (h1 : k g = some (instObj DG dx)) (h2 : At k mu dx od) : InstAt h g (instObj DG dx) DG (some od) := ⟨S.kin _ _ h1, rfl, rfl, S.at h2⟩

theorem Mt_getAttr {g : Addr} {l : List (Str × Value)} {name : Str} {v : Value} {expr : Bool} {Q : Value → Kn → Lm → Mu → Prop} (G : IsG k mu g l) (hl : l.lookup name = some v) (hv : handedIn v = true) (hc : findIn (KF C.w) (.ref DG) name = some none) (h : Q v k m mu) : Mt C k m mu (getAttr (.ref g) name expr) Q := by
  obtain ⟨dx, od, h1, h2, h3⟩ := G
  refine Mt_of (fun s A E R hA S hR => ?_) h
  refine get_value S.progs.K (S.inst h1 h2) (by kernel_rfl) (findObj_own (by kernel_rfl) hc rfl ((h3.look name).trans (by rw [hl]))) hv (hR _)
theorem Mt_Attribute {value : PySem.Expr} {attr : Str} {pos : Pos} {Q : Value → Kn → Lm → Mu → Prop} (h : Mt C k m mu (eval value C.env) (fun o k m mu => Mt C k m mu (getAttr o attr true) Q))
    (he : eval (.Attribute value attr pos) C.env = (do
      let o ← eval value C.env
      standAt pos.atName
      let r ← holding [o] (getAttr o attr true)
      letTemporaryGo value o r
      pure r) := by with_unfolding_all rfl) : Mt C k m mu (eval (.Attribute value attr pos) C.env) Q := by
  rw [he]
  exact Mt_bind (Mt_mono h fun o k m mu h => Mt_at (Mt_bind (Mt_holding (Mt_mono h fun r k m mu h => Mt_bind (Mt_letTemp (Mt_pure h))))))
theorem Mt_method {g f : Addr} {l : List (Str × Value)} {name : Str} {pl : Sem Bool} {Q : Value × List Value → Kn → Lm → Mu → Prop} (G : IsG k mu g l) (hl : l.lookup name = none) (hf : findIn (KF C.w) (.ref DG) name = some (some (.ref f))) (ht : typeIn (KF C.w) (.ref f) = some (.type "function")) (h : Q (.ref f, [.ref g]) k m mu) : Mt C k m mu (getMethod (.ref g) name pl) Q := by
  obtain ⟨dx, od, h1, h2, h3⟩ := G
  refine Mt_of (fun s A E R hA S hR => ?_) h
  exact method_fn S.progs.K (S.inst h1 h2) (by kernel_rfl) (by kernel_rfl) hf ht (by show Option.map _ (lookIn name od) = _; rw [h3.look, hl]; rfl) (hR s.toks)
theorem Mt_setAttr {l1 l2 : Mu} {g dx : Addr} {od : Obj} {l : List (Str × Value)} {name : Str} {v : Value} {Q : Unit → Kn → Lm → Mu → Prop} (hmu : mu = l1 ++ (dx, od) :: l2) (h1 : k g = some (instObj DG dx)) (ho : OAttr od l) (hl : l.lookup name = none) (hn : l.length ≤ 100) (ht : takerIn (KF C.w) DG name = some none)
    (h : ∀ od', OAttr od' (l ++ [(name, v)]) → Q () k m (l1 ++ (dx, od') :: l2)) : Mt C k m mu (setAttr (.ref g) name v) Q := by
  refine Mt_turn (Pr := fun _ o' => OAttr o' (l ++ [(name, v)])) hmu (fun s A E R hA S hR => ?_) fun v' o' hp => h o' hp
  have D : s.heap.get? dx = some od := S.own _ (hmu ▸ mem_mid)
  have I := S.inst h1 (.inr (hmu ▸ mem_mid))
  refine set_plain S.progs.K I (by kernel_rfl) (osa_open S.progs.K I (by kernel_rfl) ht fun b => ?_)
  have K := S.progs.K
  obtain ⟨es, n, rfl, hes⟩ := ho
  obtain ⟨cd, hc, hd⟩ := any_some (show (clsIn (KF C.w) DG).any (·.hasDict) = true by kernel_rfl)
  have hlk : getL name es = some none := by rw [hes.find, hl]
  have e1 := putName_dict name (PyData.keyHash C.w.params name) (.str name (s.toks + 1)) v es n
  refine wpAny_bind (wpAny_pure (wpAny_bind (wpAny_bind (wpAny_loadPart I.at_ (wpAny_bind (looks_clsIn K hc _ _ _ _ (fun _ _ e => e) ?_))))))
  rw [hd]
  refine wpAny_pure (a := some dx) (wpAny_bind (wpAny_pure (wpAny_bind ?_)))
  unfold nsSet
  refine wpAny_bind (wpAny_bind (wpAny_askSetting (wpAny_pure (wpAny_bind (wpAny_mkText (wpAny_bind (wpAny_loadPart D ?_)))))))
  have c : (!es.toArray.any (·.key.isStr name) && es.toArray.any (·.refKey)) = false := by
    have : es.toArray.any (·.refKey) = false := by
      unfold getL at hlk
      split at hlk
      · cases hlk
      · split at hlk
        · cases hlk
        · rename_i z; simpa using z
    rw [this, Bool.and_false]
  dsimp only
  rw [aRefKeyMayBeTheName_at, c]
  refine wpAny_updatePart D ?_
  have hu : (s.heap.update dx (Obj.putName name (PyData.keyHash C.w.params name) (.str name (s.toks + 1)) v)).get? dx = some (dictOf (putL name (PyData.keyHash C.w.params name) (.str name (s.toks + 1)) v es) (putN name es n)) := by
    rw [Heap.get?_update_self _ D (by rw [e1]; rfl), e1]
  have hp := hes.put (hs := PyData.keyHash C.w.params name) (t := s.toks + 1) (v := v) hl
  refine wpAny_bind (wpAny_lookBehind hu (pastItsLine_dict (by have := hp.len; rw [List.size_toArray, sizeLine_eq, this]; simp; omega)) ?_)
  exact wpAny_pure (hR () _ _ _ ⟨_, _, rfl, hp⟩ (fun b ob hb e => ((Heap.SameBut.update ..).2 b hb).trans e) hu)
end
end Mine

-- LP
namespace Mine
noncomputable abbrev cdOf (w : World) (a : Addr) : Value := (fdOf (obK w a)).code
theorem fn_iter (w : World) : Fn w 378 (methAt 21 8) "Graph.__iter__" (cdOf w 378) := ⟨by kernel_rfl, by kernel_rfl, by kernel_rfl, by kernel_rfl, by kernel_rfl, by kernel_rfl, rfl, by kernel_rfl, by kernel_rfl, by kernel_rfl, by kernel_rfl, by kernel_rfl, by kernel_rfl, by kernel_rfl, by decide⟩
theorem fn_len (w : World) : Fn w 392 (methAt 21 10) "Graph.__len__" (cdOf w 392) := ⟨by kernel_rfl, by kernel_rfl, by kernel_rfl, by kernel_rfl, by kernel_rfl, by kernel_rfl, rfl, by kernel_rfl, by kernel_rfl, by kernel_rfl, by kernel_rfl, by kernel_rfl, by kernel_rfl, by kernel_rfl, by decide⟩
theorem fn_isdir (w : World) : Fn w 795 (methAt 23 24) "DiGraph.is_directed" (cdOf w 795) := ⟨by kernel_rfl, by kernel_rfl, by kernel_rfl, by kernel_rfl, by kernel_rfl, by kernel_rfl, rfl, by kernel_rfl, by kernel_rfl, by kernel_rfl, by kernel_rfl, by kernel_rfl, by kernel_rfl, by kernel_rfl, by decide⟩
theorem fn_init (w : World) : Fn w 613 (methAt 23 0) "DiGraph.__init__" (cdOf w 613) := ⟨by kernel_rfl, by kernel_rfl, by kernel_rfl, by kernel_rfl, by kernel_rfl, by kernel_rfl, rfl, by kernel_rfl, by kernel_rfl, by kernel_rfl, by kernel_rfl, by kernel_rfl, by kernel_rfl, by kernel_rfl, by decide⟩
theorem fn_addn (w : World) : Fn w 657 (methAt 23 5) "DiGraph.add_nodes_from" (cdOf w 657) := ⟨by kernel_rfl, by kernel_rfl, by kernel_rfl, by kernel_rfl, by kernel_rfl, by kernel_rfl, rfl, by kernel_rfl, by kernel_rfl, by kernel_rfl, by kernel_rfl, by kernel_rfl, by kernel_rfl, by kernel_rfl, by decide⟩
theorem fn_adde (w : World) : Fn w 678 (methAt 23 8) "DiGraph.add_edge" (cdOf w 678) := ⟨by kernel_rfl, by kernel_rfl, by kernel_rfl, by kernel_rfl, by kernel_rfl, by kernel_rfl, rfl, by kernel_rfl, by kernel_rfl, by kernel_rfl, by kernel_rfl, by kernel_rfl, by kernel_rfl, by kernel_rfl, by decide⟩
theorem fn_addes (w : World) : Fn w 685 (methAt 23 9) "DiGraph.add_edges_from" (cdOf w 685) := ⟨by kernel_rfl, by kernel_rfl, by kernel_rfl, by kernel_rfl, by kernel_rfl, by kernel_rfl, rfl, by kernel_rfl, by kernel_rfl, by kernel_rfl, by kernel_rfl, by kernel_rfl, by kernel_rfl, by kernel_rfl, by decide⟩
theorem fn_succ (w : World) : Fn w 720 (methAt 23 14) "DiGraph.successors" (cdOf w 720) := ⟨by kernel_rfl, by kernel_rfl, by kernel_rfl, by kernel_rfl, by kernel_rfl, by kernel_rfl, rfl, by kernel_rfl, by kernel_rfl, by kernel_rfl, by kernel_rfl, by kernel_rfl, by kernel_rfl, by kernel_rfl, by decide⟩
theorem fn_fnode (w : World) : Fn w 318 (methAt 21 0) "Graph.node_dict_factory" (cdOf w 318) := ⟨by kernel_rfl, by kernel_rfl, by kernel_rfl, by kernel_rfl, by kernel_rfl, by kernel_rfl, rfl, by kernel_rfl, by kernel_rfl, by kernel_rfl, by kernel_rfl, by kernel_rfl, by kernel_rfl, by kernel_rfl, by decide⟩
theorem fn_fnattr (w : World) : Fn w 325 (methAt 21 1) "Graph.node_attr_dict_factory" (cdOf w 325) := ⟨by kernel_rfl, by kernel_rfl, by kernel_rfl, by kernel_rfl, by kernel_rfl, by kernel_rfl, rfl, by kernel_rfl, by kernel_rfl, by kernel_rfl, by kernel_rfl, by kernel_rfl, by kernel_rfl, by kernel_rfl, by decide⟩
theorem fn_fouter (w : World) : Fn w 332 (methAt 21 2) "Graph.adjlist_outer_dict_factory" (cdOf w 332) := ⟨by kernel_rfl, by kernel_rfl, by kernel_rfl, by kernel_rfl, by kernel_rfl, by kernel_rfl, rfl, by kernel_rfl, by kernel_rfl, by kernel_rfl, by kernel_rfl, by kernel_rfl, by kernel_rfl, by kernel_rfl, by decide⟩
theorem fn_finner (w : World) : Fn w 339 (methAt 21 3) "Graph.adjlist_inner_dict_factory" (cdOf w 339) := ⟨by kernel_rfl, by kernel_rfl, by kernel_rfl, by kernel_rfl, by kernel_rfl, by kernel_rfl, rfl, by kernel_rfl, by kernel_rfl, by kernel_rfl, by kernel_rfl, by kernel_rfl, by kernel_rfl, by kernel_rfl, by decide⟩
theorem fn_feattr (w : World) : Fn w 346 (methAt 21 4) "Graph.edge_attr_dict_factory" (cdOf w 346) := ⟨by kernel_rfl, by kernel_rfl, by kernel_rfl, by kernel_rfl, by kernel_rfl, by kernel_rfl, rfl, by kernel_rfl, by kernel_rfl, by kernel_rfl, by kernel_rfl, by kernel_rfl, by kernel_rfl, by kernel_rfl, by decide⟩
theorem fn_fgraph (w : World) : Fn w 353 (methAt 21 5) "Graph.graph_attr_dict_factory" (cdOf w 353) := ⟨by kernel_rfl, by kernel_rfl, by kernel_rfl, by kernel_rfl, by kernel_rfl, by kernel_rfl, rfl, by kernel_rfl, by kernel_rfl, by kernel_rfl, by kernel_rfl, by kernel_rfl, by kernel_rfl, by kernel_rfl, by decide⟩
theorem fn_anc (w : World) : Fn w 82 (stAt 8) "ancestors" (cdOf w 82) := ⟨by kernel_rfl, by kernel_rfl, by kernel_rfl, by kernel_rfl, by kernel_rfl, by kernel_rfl, rfl, by kernel_rfl, by kernel_rfl, by kernel_rfl, by kernel_rfl, by kernel_rfl, by kernel_rfl, by kernel_rfl, by decide⟩
theorem fn_isdag (w : World) : Fn w 89 (stAt 9) "is_directed_acyclic_graph" (cdOf w 89) := ⟨by kernel_rfl, by kernel_rfl, by kernel_rfl, by kernel_rfl, by kernel_rfl, by kernel_rfl, rfl, by kernel_rfl, by kernel_rfl, by kernel_rfl, by kernel_rfl, by kernel_rfl, by kernel_rfl, by kernel_rfl, by decide⟩
theorem fn_above (w : World) : Fn w 812 (stAt 25) "_law_above" (cdOf w 812) := ⟨by kernel_rfl, by kernel_rfl, by kernel_rfl, by kernel_rfl, by kernel_rfl, by kernel_rfl, rfl, by kernel_rfl, by kernel_rfl, by kernel_rfl, by kernel_rfl, by kernel_rfl, by kernel_rfl, by kernel_rfl, by decide⟩
theorem fn_lca (w : World) : Fn w 103 (stAt 12) "lowest_common_ancestor" (cdOf w 103) := ⟨by kernel_rfl, by kernel_rfl, by kernel_rfl, by kernel_rfl, by kernel_rfl, by kernel_rfl, rfl, by kernel_rfl, by kernel_rfl, by kernel_rfl, by kernel_rfl, by kernel_rfl, by kernel_rfl, by kernel_rfl, by decide⟩
theorem fn_ap (w : World) : Fn w 95 (stAt 11) "all_pairs_lowest_common_ancestor" (cdOf w 95) := ⟨by kernel_rfl, by kernel_rfl, by kernel_rfl, by kernel_rfl, by kernel_rfl, by kernel_rfl, rfl, by kernel_rfl, by kernel_rfl, by kernel_rfl, by kernel_rfl, by kernel_rfl, by kernel_rfl, by kernel_rfl, by decide⟩
theorem bind_iter (w : World) (a : Value) : bindArgs (fdOf (obK w 378)) ⟨[a], []⟩ = pure [(("self" : Str), a)] := by kernel_rfl
theorem bind_len (w : World) (a : Value) : bindArgs (fdOf (obK w 392)) ⟨[a], []⟩ = pure [(("self" : Str), a)] := by kernel_rfl
theorem bind_isdir (w : World) (a : Value) : bindArgs (fdOf (obK w 795)) ⟨[a], []⟩ = pure [(("self" : Str), a)] := by kernel_rfl
theorem bind_succ (w : World) (a b : Value) : bindArgs (fdOf (obK w 720)) ⟨[a, b], []⟩ = pure [(("self" : Str), a), (("n" : Str), b)] := by kernel_rfl
theorem bind_fnode (w : World) (a : Value) : bindArgs (fdOf (obK w 318)) ⟨[a], []⟩ = pure [(("self" : Str), a)] := by kernel_rfl
theorem bind_fnattr (w : World) (a : Value) : bindArgs (fdOf (obK w 325)) ⟨[a], []⟩ = pure [(("self" : Str), a)] := by kernel_rfl
theorem bind_fouter (w : World) (a : Value) : bindArgs (fdOf (obK w 332)) ⟨[a], []⟩ = pure [(("self" : Str), a)] := by kernel_rfl
theorem bind_finner (w : World) (a : Value) : bindArgs (fdOf (obK w 339)) ⟨[a], []⟩ = pure [(("self" : Str), a)] := by kernel_rfl
theorem bind_feattr (w : World) (a : Value) : bindArgs (fdOf (obK w 346)) ⟨[a], []⟩ = pure [(("self" : Str), a)] := by kernel_rfl
theorem bind_fgraph (w : World) (a : Value) : bindArgs (fdOf (obK w 353)) ⟨[a], []⟩ = pure [(("self" : Str), a)] := by kernel_rfl
theorem bind_anc (w : World) (a b : Value) : bindArgs (fdOf (obK w 82)) ⟨[a, b], []⟩ = pure [(("G" : Str), a), (("node" : Str), b)] := by kernel_rfl
theorem bind_isdag (w : World) (a : Value) : bindArgs (fdOf (obK w 89)) ⟨[a], []⟩ = pure [(("G" : Str), a)] := by kernel_rfl
theorem bind_above (w : World) (a b : Value) : bindArgs (fdOf (obK w 812)) ⟨[a, b], []⟩ = pure [(("edges" : Str), a), (("node" : Str), b)] := by kernel_rfl

section
variable {α β γ δ : Type} {C : Cx} {k : Kn} {m : Lm} {mu : Mu}
theorem Mt_iter_dict {d : Addr} {o : Obj} {kvs : List (Int × Value)} {ep : Nat} {Q : Value → Kn → Lm → Mu → Prop} (lo : (d == sysModules) = false) (ha : At k mu d o) (hl : ODictE C.w o kvs ep) (h : ∀ it oi, TB < it → OKIter oi d 0 kvs.length ep → Q (.ref it) k m ((it, oi) :: mu)) : Mt C k m mu (call (.builtin "iter") [.ref d]) Q :=
  Mt_newM (Pr := fun o => OKIter o d 0 kvs.length ep) (fun s A E R hA S hR => by
    refine call_function_entry (by decide +kernel) (by decide +kernel) kdk_entry_iter (kdk_args_iter _) ?_
    unfold Builtin.«iter»
    refine wpAny_bind (m := someArgs "iter" 1 2 _) (wpAny_of_eq (a := [Value.ref d]) (by first | rfl | kernel_rfl!) ?_)
    show wpAny _ _ (pyIter (.ref d) >>= _) _ _ _
    exact wpAny_bind (wpAny_pyIter_dict (knd := intKind P C.w) lo (hl.dictAt (S.at ha)) (wpAny_pure ⟨_, rfl, hR _ _ s.toks ⟨rfl, rfl⟩ (fun b ob e => Heap.get?_push_of_some _ e) (Heap.get?_push_size _ rfl)⟩))) h
theorem Mt_pyIterG {g f : Addr} {l : List (Str × Value)} {Q : Value → Kn → Lm → Mu → Prop} (G : IsG k mu g l) (hs : findIn (KF C.w) (.ref DG) "__iter__" = some (some (.ref f))) (hf : isFn (KF C.w) (.ref f) = true)
    (h : Mt C k m mu (call (.ref f) [.ref g]) (fun it k' m' mu' => Q it k' m' mu' ∧ ∃ i oi T b, it = .ref i ∧ (i, oi) ∈ mu' ∧ oi.cls = .type T ∧ typeLookup (.type T) "__next__" = pure (some b))) : Mt C k m mu (pyIter (.ref g)) Q := fun s A E hA S => by
  obtain ⟨dx, od, h1, h2, h3⟩ := G
  have I := S.inst h1 h2
  have X := S.progs.K
  have fin : wpAny (model P C.w) A (call (.ref f) [.ref g] >>= fun v => pure (some v)) (fun r s' => ∃ v, r = some v ∧ ∃ k' m' mu', After C.G s s' ∧ Stt C k' m' mu' s'.heap ∧ Q v k' m' mu' ∧ ∃ i oi T b, v = .ref i ∧ (i, oi) ∈ mu' ∧ oi.cls = .type T ∧ typeLookup (.type T) "__next__" = pure (some b)) E s :=
    wpAny_bind (wpAny_mono (h s A E hA S) (fun v s' h' => wpAny_pure ⟨v, rfl, h'⟩) fun _ _ z => z)
  have one : ∀ refuse : Sem Value, wpAny (model P C.w) A (callSpecialIfBoundUnlessNone? (.ref g) "__iter__" refuse) (fun r s' => ∃ v, r = some v ∧ ∃ k' m' mu', After C.G s s' ∧ Stt C k' m' mu' s'.heap ∧ Q v k' m' mu' ∧ ∃ i oi T b, v = .ref i ∧ (i, oi) ∈ mu' ∧ oi.cls = .type T ∧ typeLookup (.type T) "__next__" = pure (some b)) E s := by
    intro refuse
    simp only [callSpecialIfBoundUnlessNone?, bindSpecialIfBound?]
    refine wpAny_holding (wpAny_bind (wpAny_bind (wpAny_bind (I.type.here ((looks_findIn X hs).here ?_)))))
    refine wpAny_bind (wpAny_askSetting (wpAny_ite ?_))
    have fin2 : wpAny (model P C.w) A (if (Value.ref f == Value.none) = true then (refuse >>= fun v => pure (some v)) else (call (.ref f) [.ref g] >>= fun v => pure (some v))) (fun r s' => ∃ v, r = some v ∧ ∃ k' m' mu', After C.G s s' ∧ Stt C k' m' mu' s'.heap ∧ Q v k' m' mu' ∧ ∃ i oi T b, v = .ref i ∧ (i, oi) ∈ mu' ∧ oi.cls = .type T ∧ typeLookup (.type T) "__next__" = pure (some b)) E s := by
      rw [if_neg (show ¬ ((Value.ref f == Value.none) = true) from Bool.false_ne_true)]
      exact fin
    split
    · exact wpAny_bind ((bind_fn X _ (beq_iff_eq.mp hf)).here (wpAny_pure (by exact fin2)))
    · exact wpAny_tryCatch (wpAny_bind ((bind_fn X _ (beq_iff_eq.mp hf)).here (wpAny_pure (by exact fin2))))
  unfold pyIter
  refine wpAny_bind (wpAny_bind (I.type.here ((looks_findIn X hs).here ?_)))
  show wpAny _ A (callSpecialIfBoundUnlessNone? (.ref g) "__iter__" _ >>= _) _ E s
  refine wpAny_bind (wpAny_mono (one _) (fun r s' hr => ?_) fun _ _ z => z)
  obtain ⟨v, rfl, k', m', mu', af, S', q, i, oi, T, b, rfl, hm, hc, hn⟩ := hr
  refine wpAny_bind (wpAny_specialOf ⟨oi, S'.own _ hm, hc⟩ hn ?_)
  exact wpAny_pure ⟨k', m', mu', af, S', q⟩
end

theorem IsG.le {k k' : Kn} {mu' : Mu} {g : Addr} {l : List (Str × Value)} (G : IsG k [] g l) (h : k.Le k') : IsG k' mu' g l := by
  obtain ⟨dx, od, h1, h2, h3⟩ := G
  exact ⟨dx, od, h _ _ h1, .inl (h _ _ (h2.elim id fun h => by cases h)), h3⟩
def gNames (gd nd ad pd : Addr) : List (Str × Value) := [("graph", .ref gd), ("_node", .ref nd), ("_adj", .ref ad), ("_succ", .ref ad), ("_pred", .ref pd)]
def KeysAt (w : World) (k : Kn) (d : Addr) (xs : List Int) : Prop := ∃ o kvs, k d = some o ∧ ODict w o kvs ∧ kvs.map (·.1) = xs ∧ (d == sysModules) = false
theorem KeysAt.le {w : World} {k k' : Kn} {d : Addr} {xs : List Int} (a : KeysAt w k d xs) (l : k.Le k') : KeysAt w k' d xs := let ⟨o, kvs, h1, h2⟩ := a; ⟨o, kvs, l _ _ h1, h2⟩
/-- a graph that stays -/
structure GK (w : World) (k : Kn) (g gd nd ad pd : Addr) (nodes : List Int) (nb pb : Int → List Int) : Prop where
  is : IsG k [] g (gNames gd nd ad pd)
  node : KeysAt w k nd nodes
  adj : AdjAt w k ad nodes nb
  pred : AdjAt w k pd nodes pb
  clA : ∀ x ∈ nodes, ∀ y ∈ nb x, y ∈ nodes
  clP : ∀ x ∈ nodes, ∀ y ∈ pb x, y ∈ nodes
  few : nodes.length ≤ 1000
  nd : nodes.Nodup
theorem GK.le {w : World} {k k' : Kn} {g gd nd ad pd : Addr} {nodes : List Int} {nb pb : Int → List Int} (a : GK w k g gd nd ad pd nodes nb pb) (l : k.Le k') : GK w k' g gd nd ad pd nodes nb pb :=
  ⟨a.is.le l, a.node.le l, a.adj.le l, a.pred.le l, a.clA, a.clP, a.few, a.nd⟩

/-- the iterator of a graph: over its nodes -/
theorem iterG_mv {w : World} {n : Nat} {G : Gr} {k : Kn} (gk : GOk G) {g gd nd ad pd : Addr} {o : Obj} {kvs : List (Int × Value)} {ep : Nat} (hg : IsG k [] g (gNames gd nd ad pd)) (lo : (nd == sysModules) = false) (hk : k nd = some o) (ho : ODictE w o kvs ep) :
    Mv w (n + 1) G k [] (call (.ref 378) [.ref g]) (fun v k' mu' => k' = k ∧ ∃ it oi, v = .ref it ∧ mu' = [(it, oi)] ∧ OKIter oi nd 0 kvs.length ep) := by
  refine Mv_fn gk (fn_iter w) ?_
  rw [bind_iter]
  refine Ev_pure gk ⟨by kernel_rfl, fun base L => ?_⟩
  refine Mt_cons (Mt_Return (Mt_Call (Mt_nameB (v := .builtin "iter") (by kernel_rfl) (by kernel_rfl) (by decide) ⟨keeps_builtin _, ?_⟩)))
  refine Mt_spliced_cons (Mt_Attribute (Mt_nameL rfl (Mt_getAttr hg rfl rfl (by kernel_rfl) (Mt_spliced_nil ?_))))
  exact Mt_iter_dict lo (.inl hk) ho fun it oi hT hi => ⟨[(it, oi)], List.Sublist.refl _, rfl, it, oi, rfl, rfl, hi⟩
section
variable {α β γ δ : Type} {C : Cx} {k : Kn} {m : Lm} {mu : Mu}
/-- for n in G -/
theorem Mt_overG {g gd nd ad pd : Addr} {xs : List Int} {n : Nat} {Q : Value → Kn → Lm → Mu → Prop} (gk : GOk C.G) (hg : IsG k [] g (gNames gd nd ad pd)) (hx : KeysAt C.w k nd xs) (hn : C.n = n + 1)
    (h : ∀ it oi (I : Nat → Obj → Prop), Src C.w k it I xs IsInt → I 0 oi → Q (.ref it) k m ((it, oi) :: mu)) : Mt C k m mu (pyIter (.ref g)) Q := by
  obtain ⟨o, kvs, h1, h2, h3, lo⟩ := hx
  obtain ⟨ep, h2⟩ := h2.ep
  refine Mt_pyIterG (f := 378) (hg.le (Kn.Le.refl k)) (by kernel_rfl) (by kernel_rfl) ?_
  refine Mt_mv (mu1 := []) ?_
  rw [hn]
  intro s A E hA hP hT hk hkT hmu hkmu hnd hmT
  refine wpAny_mono (iterG_mv (n := n) gk hg lo h1 h2 s A E hA hP hT hk hkT hmu hkmu hnd hmT) (fun v s' ⟨k', mu', a1, a2, a3, a4, a5, a6, a7, e, it, oi, e1, e2, hi⟩ => ?_) fun _ _ e => e
  subst e e1 e2
  refine ⟨_, [(it, oi)], a1, a2, a3, a4, a5, a6, a7, fun _ _ => ⟨?_, it, oi, "dict_keyiterator", _, rfl, .head _, hi.1, PySem.F.slot_dict_keyiterator_next.lookup⟩⟩
  exact h it oi _ (h3 ▸ Src.dict C.w h2 h1) hi
end
end Mine

-- LQ
namespace Mine
theorem Are.tail {γ : Type} {R : γ → Value → Prop} {x : γ} {xs : List γ} {v : Value} {vs : List Value} (a : Are R (x :: xs) (v :: vs)) : R x v ∧ Are R xs vs := by
  refine ⟨?_, by have := a.1; simpa using this, fun i y e => ?_⟩
  · obtain ⟨u, h1, h2⟩ := a.2 0 x rfl; simp at h1; subst h1; exact h2
  · exact a.2 (i + 1) y (by simpa using e)
theorem IsInts.are : ∀ {xs : List Int} {vs : List Value}, IsInts xs vs → IntsAre vs xs
  | [], [], _ => .nil
  | [], _ :: _, h => by have := h.1; simp at this
  | _ :: _, [], h => by have := h.1; simp at this
  | x :: xs, v :: vs, h => by
    obtain ⟨⟨t, rfl⟩, h'⟩ := Are.tail h
    exact .cons x t (IsInts.are h')
theorem IsInts.of : ∀ {xs : List Int} {vs : List Value}, IntsAre vs xs → IsInts xs vs
  | _, _, .nil => Are.nil
  | _, _, .cons n t h => (IsInts.of h).cons ⟨t, rfl⟩

section
variable {α β γ δ : Type} {C : Cx} {k : Kn} {m : Lm} {mu : Mu}
theorem Mt_in_ints {l : Addr} {o : Obj} {vs : List Value} {xs : List Int} {x : Int} {t : Tok} {Q : Value → Kn → Lm → Mu → Prop} (ha : At k mu l o) (hl : OList o vs) (hi : IsInts xs vs) (h : Q (.bool (decide (x ∈ xs))) k m mu) : Mt C k m mu (compareOp .In (.int x t) (.ref l)) Q :=
  Mt_of (fun s A E R hA S hR => in_list_ints (hl.isList (S.at ha)) hi.are (hR s.toks)) (by rw [show (xs.any (· == x)) = decide (x ∈ xs) by simp [List.any_beq']]; exact h)
theorem Mt_notin_ints {l : Addr} {o : Obj} {vs : List Value} {xs : List Int} {x : Int} {t : Tok} {Q : Value → Kn → Lm → Mu → Prop} (ha : At k mu l o) (hl : OList o vs) (hi : IsInts xs vs) (h : Q (.bool (!decide (x ∈ xs))) k m mu) : Mt C k m mu (compareOp .NotIn (.int x t) (.ref l)) Q :=
  Mt_of (fun s A E R hA S hR => notin_list_ints (hl.isList (S.at ha)) hi.are (hR s.toks)) (by rw [show (xs.any (· == x)) = decide (x ∈ xs) by simp [List.any_beq']]; exact h)
end

theorem isdir_ev {w : World} {n : Nat} {G : Gr} {k : Kn} (gk : GOk G) (g : Value) : Ev w (n + 1) G k (call (.ref 795) [g]) (fun v k' => v = .bool true ∧ k' = k) := by
  refine Ev_fn gk (fn_isdir w) ?_
  rw [bind_isdir]
  exact Ev_pure gk ⟨by kernel_rfl, fun base L => Mt_cons (Mt_Return (Mt_bool ⟨rfl, rfl⟩))⟩

def Acyc (nodes : List Int) (nb : Int → List Int) : Prop := ∀ x ∈ nodes, ∀ y ∈ nb x, ¬ Reach nb y x

theorem isdag_ev {w : World} {n : Nat} {G : Gr} {k : Kn} (gk : GOk G) {g gd nd ad pd : Addr} {nodes : List Int} {nb pb : Int → List Int} (K : GK w k g gd nd ad pd nodes nb pb) :
    Ev w (n + 3) G k (call (.ref 89) [.ref g]) (fun v k' => ∃ b, v = .bool b ∧ (b = true ↔ Acyc nodes nb)) := by
  refine Ev_fn gk (fn_isdag w) ?_
  rw [bind_isdag]
  refine Ev_pure gk ⟨by kernel_rfl, fun base L => ?_⟩
  refine Mt_cons (Mt_If (Mt_isTrue_not (Mt_isTrue_plain (by rfl) (Mt_CallM (Mt_nameL rfl fun pl => Mt_method (f := 795) (K.is.le (Kn.Le.refl _)) rfl (by kernel_rfl) (by kernel_rfl) ⟨keeps_text (by kernel_rfl), Mt_spliced_nil ?_⟩)))))
  refine Mt_ev (Ev_le (Ev_mono (isdir_ev (n := 0) gk _) ?_) (by show 1 ≤ n + 2; omega))
  rintro v k1 - ⟨rfl, rfl⟩ -
  refine Mt_truthy_bool ?_
  simp only [Bool.not_true, Bool.false_eq_true, if_false]
  refine Mt_nil ?_
  refine Mt_cons (Mt_For (Mt_nameL rfl (Mt_overG gk K.is K.node rfl fun it oi I S hi => ?_)))
  refine MtC_forS S (fun i k2 m mu => k1.Le k2 ∧ mu = [] ∧ m "G" = some (.ref g) ∧ ∀ j < i, ∀ x, nodes[j]? = some x → ∀ y ∈ nb x, ¬ Reach nb y x) ?_ ?_ ⟨Kn.Le.refl _, rfl, rfl, fun j hj => absurd hj (Nat.not_lt_zero _)⟩ hi (Kn.Le.refl _)
  · clear hi oi
    rintro i x k2 m mu oi v hx ⟨t, rfl⟩ hk ⟨-, rfl, m1, hj⟩ hi
    refine Mt_toL ?_
    have K2 := K.le hk
    have hxn : x ∈ nodes := List.mem_of_getElem? hx
    obtain ⟨oN, kN, hN1, hN2, hN3, hN4, hN5⟩ := K2.adj
    obtain ⟨dx, ox, kx, hx1, hx2, hx3, hx4, hx5⟩ := hN5 x hxn
    obtain ⟨ep, hx3'⟩ := hx3.ep
    refine Mt_cons (Mt_For (Mt_Subscript (Mt_Attribute (Mt_nameL (Lm.up m1) (Mt_getAttr (K2.is.le (Kn.Le.refl _)) rfl rfl (by kernel_rfl) (Mt_nameL (Lm.set_self _ _ _) (Mt_sub_dict (.inl hN1) hN2 hx1 (Mt_pyIter_dict hx5 (.inl hx2) hx3' fun it2 oi2 hT2 hi2 => ?_))))))))
    refine MtC_forS (Src.dict w hx3' hx2) (fun j k3 m mu => k2.Le k3 ∧ mu = [(it, oi)] ∧ m "G" = some (.ref g) ∧ (∃ t, m "n" = some (.int x t)) ∧ ∀ y ∈ (nb x).take j, ¬ Reach nb y x) ?_ ?_ ⟨Kn.Le.refl _, rfl, Lm.up m1, ⟨t, Lm.set_self _ _ _⟩, by simp⟩ hi2 (Kn.Le.refl _)
    · clear m1
      rintro j y k3 m mu oi2 v hy ⟨ty, rfl⟩ hk3 ⟨-, rfl, m1, ⟨t', m2⟩, hj2⟩ hi2
      rw [hx4] at hy
      have hyn : y ∈ nb x := List.mem_of_getElem? hy
      have K3 := K2.le hk3
      refine Mt_toL ?_
      refine Mt_cons (Mt_If (Mt_isTrue_Compare (Mt_nameL (Lm.up m2) (Mt_Call (Mt_nameG (v := .ref 75) (by kernel_rfl) ⟨keeps_text (by kernel_rfl), ?_⟩)))))
      refine Mt_spliced_cons (Mt_Attribute (Mt_nameL (Lm.up m1) (Mt_getAttr (K3.is.le (Kn.Le.refl _)) rfl rfl (by kernel_rfl) (Mt_spliced_cons (Mt_List (Mt_spliced_cons (Mt_nameL (Lm.set_self _ _ _) (Mt_spliced_nil (Mt_newList fun D o kD hT hD => Mt_spliced_nil ?_)))))))))
      have le4 := Kn.le_put (o := o) kD
      refine Mt_ev (Ev_le (Ev_mono (reached_ev (n := 0) gk (K3.adj.le le4) K.clA (K.clA x hxn y hyn) K.few (Kn.put_self _ _ _) hD) ?_) (by show 1 ≤ n + 2; omega))
      rintro v k5 - ⟨D5, o5, vs, qs, rfl, h5, hl5, hi5, hnd5, hh5, hq5⟩ le5
      refine Mt_in_ints (.inl h5) hl5 hi5 (Mt_truthy_bool ?_)
      by_cases hq : x ∈ qs
      · rw [if_pos (by simpa using hq)]
        refine Mt_cons (Mt_Return (Mt_bool ⟨false, rfl, ?_⟩))
        refine ⟨fun h => (by cases h), fun h => absurd ((hq5 x).mp hq) (h x hxn y hyn)⟩
      · rw [if_neg (by simpa using hq)]
        refine Mt_nil (Mt_nil ⟨oi2, _, rfl, hk3.trans (le4.trans le5), hi2, hk3.trans (le4.trans le5), rfl, Lm.up m1, ⟨t', Lm.up m2⟩, fun z hz => ?_⟩)
        rw [List.take_add_one, hy] at hz
        rcases List.mem_append.mp hz with hz | hz
        · exact hj2 z hz
        · simp at hz; subst hz; exact fun hr => hq ((hq5 x).mpr hr)
    · clear m1
      rintro k3 m mu hk3 ⟨-, rfl, m1, -, hj2⟩
      rw [show (kx.map (·.1)).length = (nb x).length by rw [hx4], List.take_of_length_le (Nat.le_refl _)] at hj2
      refine Mt_nil (Mt_nil ⟨oi, [], rfl, hk.trans hk3, hi, hk.trans hk3, rfl, m1, fun j hjj z hz => ?_⟩)
      rcases Nat.lt_or_ge j i with h | h
      · exact hj j h z hz
      · have : j = i := by omega
        subst this
        rw [hx] at hz; cases hz; exact hj2
  · rintro k2 m mu hk ⟨-, rfl, m1, hj⟩
    refine Mt_nil (Mt_cons (Mt_Return (Mt_bool ⟨true, rfl, fun _ => ?_, fun _ => rfl⟩)))
    intro x hx y hy
    obtain ⟨j, hjj, e⟩ := List.getElem_of_mem hx
    exact hj j hjj x (by simp [hjj, e]) y hy
end Mine

-- LQb
namespace Mine
/-! sets of plain things, and that their tables are led (or the order is asked of the world) -/
section
variable {prog : Program} {w : World} {K : Type} [DecidableEq K] (knd : PySem.KeyKind prog w K)
def Apart (e e' : Int × Value) : Prop := ∀ k, ¬ (knd.is k e.2 = true ∧ knd.is k e'.2 = true)
theorem Apart.symm {e e' : Int × Value} (h : Apart knd e e') : Apart knd e' e := fun k hk => h k ⟨hk.2, hk.1⟩
def SetL (h : Heap) (a : Addr) (S : K → Bool) (n : Nat) : Prop :=
  ∃ o es ep t, h.get? a = some o ∧ o.ExactSet ∧ o.data = .set es ep t ∧ ElemsOf knd es.toList ∧ (∀ k, S k = true ↔ ∃ e ∈ es.toList, knd.is k e.2 = true)
    ∧ es.size < scanBound ∧ t.fits es.size = true ∧ es.size = n ∧ (w.params.followText "set-order" = true ∨ t.led = true) ∧ es.toList.Pairwise (Apart knd)
variable {knd}
theorem SetL.setOf {h : Heap} {a : Addr} {S : K → Bool} {n : Nat} (x : SetL knd h a S n) : h.SetOf knd a S n :=
  let ⟨o, es, ep, t, h1, h2, h3, h4, h5, h6, h7, h8, _, _⟩ := x; ⟨o, es, ep, t, h1, h2, h3, h4, h5, h6, h7, h8⟩
variable {A : Around} {E : Value → Shared → Prop} {s : Shared}
theorem layNew_led (t : SetTable) (es : Array (Int × Value)) (h : Int) (x : Value) : (layNew t es h x).2.1.led = t.led := by
  unfold layNew
  cases t.freeSlot h with
  | none => rfl
  | some p => obtain ⟨slot, wd⟩ := p; dsimp only; unfold SetTable.orStandIn; split <;> rfl
theorem relayAll_led (t : SetTable) (es : Array (Int × Value)) (n : Nat) : (relayAll t es n).2.1.led = t.led := by
  unfold relayAll
  cases e : t.relaid (es.map (·.1)) n with
  | none => rfl
  | some p =>
    obtain ⟨t', order⟩ := p
    dsimp only
    split
    · unfold SetTable.relaid SetTable.laid at e
      obtain ⟨ow, _, e2⟩ := Option.bind_eq_some_iff.mp e
      cases e2; rfl
    · rfl
theorem SetL_store {h : Heap} {a : Addr} {o : Obj} {es : Array (Int × Value)} {ep : Nat} {t : SetTable} (ho : h.get? a = some o) (hex : o.ExactSet) (hd : o.data = .set es ep t)
    {es' : Array (Int × Value)} {t' : SetTable} {S' : K → Bool} (hel : ElemsOf knd es'.toList) (hmem : ∀ k, S' k = true ↔ ∃ e ∈ es'.toList, knd.is k e.2 = true) (hb : es'.size < scanBound) (hf : t'.fits es'.size = true) (hl : w.params.followText "set-order" = true ∨ t'.led = true) (hap : es'.toList.Pairwise (Apart knd)) :
    (h.update a (Obj.putSet es' t')).get? a = some { o with data := .set es' (ep + 1) t' } ∧ SetL knd (h.update a (Obj.putSet es' t')) a S' es'.size := by
  have hg := (SetOf_store (knd := knd) ho hex hd hel hmem hb hf).1
  exact ⟨hg, _, es', ep + 1, t', hg, hex, rfl, hel, hmem, hb, hf, rfl, hl, hap⟩
theorem addTailL {g : Bool → Sem Unit} (hg : ∀ (b : Bool) (s₁ : Shared) (Q' : Unit → Shared → Prop), Q' () s₁ → wpAny (model prog w) A (g b) Q' E s₁)
    {a : Addr} {o : Obj} {es : Array (Int × Value)} {ep : Nat} {t : SetTable} (ho : s.heap.get? a = some o) (hex : o.ExactSet) (hd : o.data = .set es ep t)
    {es1 : Array (Int × Value)} {t2 : SetTable} {S' : K → Bool} (hel1 : ElemsOf knd es1.toList) (hmem1 : ∀ k', S' k' = true ↔ ∃ e ∈ es1.toList, knd.is k' e.2 = true)
    (hb1 : es1.size < scanBound) (hf2 : t2.fits es1.size = true) (hl2 : w.params.followText "set-order" = true ∨ t2.led = true) (hap1 : es1.toList.Pairwise (Apart knd)) {wasDummy : Bool} {R : Option Bool → Shared → Prop}
    (h : ∀ h', Heap.SameBut a s.heap h' → SetL knd h' a S' es1.size → R (some true) { s with heap := h' }) :
    wpAny (model prog w) A (do
        storeSet a es1 t2
        if (!wasDummy && t2.tooFull) = true then do
            g (relayAll t2 es1 (SetTable.grown es1.size)).2.2
            storeSet a (relayAll t2 es1 (SetTable.grown es1.size)).1 (relayAll t2 es1 (SetTable.grown es1.size)).2.1
            pure (some true)
          else pure (some true)) R E s := by
  refine wpAny_bind (wpAny_storeSet_of ho hd ?_ (fits_of_scanBound hb1))
  obtain ⟨ho1, hS1⟩ := SetL_store (knd := knd) ho hex hd hel1 hmem1 hb1 hf2 hl2 hap1
  have hsb1 := Heap.SameBut.update s.heap a (Obj.putSet es1 t2)
  split
  ·
    have hp := relayAll_perm t2 es1 (SetTable.grown es1.size)
    have hfr := relayAll_fits t2 es1 (SetTable.grown es1.size)
    have hlr := relayAll_led t2 es1 (SetTable.grown es1.size)
    generalize hRl : relayAll t2 es1 (SetTable.grown es1.size) = Rl at hp hfr hlr ⊢
    obtain ⟨es2, t3, gave2⟩ := Rl
    dsimp only at hp hfr hlr ⊢
    have hel2 : ElemsOf knd es2.toList := hel1.perm hp
    have hmem2 : ∀ k', S' k' = true ↔ ∃ e ∈ es2.toList, knd.is k' e.2 = true := fun k' => (hmem1 k').trans ⟨fun ⟨e, he, q⟩ => ⟨e, hp.mem_iff.mpr he, q⟩, fun ⟨e, he, q⟩ => ⟨e, hp.mem_iff.mp he, q⟩⟩
    have hsz : es2.size = es1.size := by rw [← Array.length_toList, hp.length_eq, Array.length_toList]
    have hb2 : es2.size < scanBound := by rw [hsz]; exact hb1
    refine wpAny_bind (hg _ _ _ ?_)
    refine wpAny_bind (wpAny_storeSet_of ho1 rfl ?_ (fits_of_scanBound hb2))
    obtain ⟨_, hS2⟩ := SetL_store (knd := knd) ho1 hex rfl hel2 hmem2 hb2 hfr (hlr ▸ hl2) ((hp.pairwise_iff (fun h => Apart.symm knd h)).mpr hap1)
    rw [hsz] at hS2
    exact wpAny_pure (h _ (hsb1.trans (Heap.SameBut.update _ a _)) hS2)
  · exact wpAny_pure (h _ hsb1 hS1)

theorem setAddHashedL {a : Addr} {S : K → Bool} {n : Nat} {k : K} {x : Value} {Q : Bool → Shared → Prop} (hkey : knd.is k x = true) (hsc : x.scannable = true) (hS : SetL knd s.heap a S n)
    (hroom : n + 1 < scanBound)
    (h : ∀ h', Heap.SameBut a s.heap h' → SetL knd h' a (fun k' => S k' || decide (k' = k)) (if S k then n else n + 1) → Q (!S k) { s with heap := h' }) :
    wpAny (model prog w) A (setAddHashed a x (knd.hash k)) Q E s := by
  obtain ⟨o, es, ep, t, ho, hex, hd, hel, hmem, hb, hf, hn, hled, hap⟩ := hS
  have hb1 : es.size + 1 < scanBound := by rw [hn]; exact hroom
  unfold setAddHashed setAddHashedIn
  refine wpAny_holding (wpAny_bind (wpAny_setState_of ho hd hf ?_))
  dsimp only
  rw [byScan_of hsc hb hel]
  simp only [↓reduceIte]
  unfold setAddByScan
  refine wpAny_bind ?_
  refine wpAny_bind (wpAny_rule ?_)
  refine wpAny_bind (wpAny_setScan_of hkey ho hd hf hel ?_)
  cases hr : List.findIdx? (fun e => knd.is k e.2) es.toList with
  | some j =>

    dsimp only
    obtain ⟨hj, hpj, _⟩ := List.findIdx?_eq_some_iff_getElem.mp hr
    have hSk : S k = true := (hmem k).mpr ⟨es.toList[j], List.getElem_mem hj, hpj⟩
    refine wpAny_pure (wpAny_pure ?_)
    have e : s = { s with heap := s.heap } := by cases s; rfl
    have := h s.heap (Heap.SameBut.refl a s.heap) ⟨o, es, ep, t, ho, hex, hd, hel, fun k' => by
      rw [Bool.or_eq_true, decide_eq_true_eq, ← hmem k']
      exact ⟨fun hk => hk.elim id (fun e => e ▸ hSk), .inl⟩, hb, hf, by rw [hSk]; exact hn, hled, hap⟩
    rw [hSk] at this; rw [e]; exact this
  | none =>

    dsimp only
    have hSk : S k = false := by
      cases hk : S k with
      | false => rfl
      | true => obtain ⟨e, he, hp⟩ := (hmem k).mp hk; have := List.findIdx?_eq_none_iff.mp hr e he; rw [hp] at this; exact Bool.noConfusion this
    have hgw : ∀ (b : Bool) {s₁ : Shared} {Q' : Unit → Shared → Prop}, Q' () s₁ → wpAny (model prog w) A (match b with | true => rule "set.scan.the-table-gave-way" | false => pure ()) Q' E s₁ :=
      fun b s₁ Q' hq => by cases b <;> first | exact wpAny_pure hq | exact wpAny_rule hq

    have hperm := layNew_perm t es (knd.hash k) x
    have hfits := layNew_fits t es (knd.hash k) x
    have hlay := layNew_led t es (knd.hash k) x
    generalize hL : layNew t es (knd.hash k) x = L at hperm hfits hlay ⊢
    obtain ⟨es1, t1, wasDummy, gave⟩ := L
    dsimp only at hperm hfits hlay ⊢
    rw [Array.toList_push] at hperm
    have hel1 : ElemsOf knd es1.toList := (hel.push hkey hsc).perm hperm
    have hmem1 : ∀ k', (S k' || decide (k' = k)) = true ↔ ∃ e ∈ es1.toList, knd.is k' e.2 = true := mem_push_iff hkey hmem hperm
    have hap1 : es1.toList.Pairwise (Apart knd) := by
      refine (hperm.pairwise_iff (fun h => Apart.symm knd h)).mpr ?_
      rw [List.pairwise_append]
      refine ⟨hap, List.pairwise_singleton _ _, fun e he e' he' k' hk' => ?_⟩
      rw [List.mem_singleton] at he'
      subst he'
      have := knd.inj _ _ _ hk'.2 hkey
      subst this
      have := (hmem k').mpr ⟨e, he, hk'.1⟩
      rw [hSk] at this; cases this
    have hb1' : es1.size < scanBound := by rw [← Array.length_toList, hperm.length_eq, List.length_append, Array.length_toList]; simpa using hb1
    refine wpAny_bind (hgw _ ?_)

    have hsz1 : es1.size = n + 1 := by rw [← Array.length_toList, hperm.length_eq, List.length_append, Array.length_toList, hn]; rfl
    have hend : ∀ h', Heap.SameBut a s.heap h' → SetL knd h' a (fun k' => S k' || decide (k' = k)) es1.size → Q true { s with heap := h' } := by
      intro h' hsb hS'; have := h h' hsb; rw [hSk] at this; rw [hsz1] at hS'; exact this hS'
    split
    · refine wpAny_bind ?_
      rw [hashByValue_scannable 8 hsc]
      refine wpAny_pure ?_
      refine addTailL ?_ ho hex hd hel1 hmem1 hb1' ?_ ?_ hap1 ?_
      · intro b s₁ Q' hq; cases b <;> first | exact wpAny_pure hq | exact wpAny_rule hq
      · split
        · exact hfits
        · exact SetTable.fits_plain_off hfits
      · split <;> exact hlay ▸ hled
      · intro h' hsb hS'; dsimp only; exact wpAny_pure (hend h' hsb hS')
    · refine wpAny_bind (wpAny_pure ?_)
      simp only [↓reduceIte]
      refine addTailL ?_ ho hex hd hel1 hmem1 hb1' hfits (hlay ▸ hled) hap1 ?_
      · intro b s₁ Q' hq; cases b <;> first | exact wpAny_pure hq | exact wpAny_rule hq
      · intro h' hsb hS'; dsimp only; exact wpAny_pure (hend h' hsb hS')

end
end Mine

-- LQc
namespace Mine
section
variable {prog : Program} {w : World} {A : Around} {E : Value → Shared → Prop}
theorem wpAny_choose' {M : Model} {src : Source} {n : Nat} {s : Shared} {Q : Nat → Shared → Prop} (hn : n ≠ 0) (h : ∀ i d, i < n → Q i { s with drawn := d }) : wpAny M A (choose src n) Q E s :=
  fun Γ p _ => ⟨hn, h _ _ (Nat.mod_lt _ (Nat.pos_of_ne_zero hn))⟩
theorem perm_eraseIdx {α : Type} : ∀ {l : List α} {i : Nat} (hi : i < l.length), (l[i] :: l.eraseIdx i).Perm l
  | [], i, hi => absurd hi (Nat.not_lt_zero _)
  | a :: r, 0, hi => List.Perm.refl _
  | a :: r, i + 1, hi => by
    have := perm_eraseIdx (l := r) (i := i) (by simpa using hi)
    simp only [List.getElem_cons_succ, List.eraseIdx_cons_succ]
    exact (List.Perm.swap _ _ _).trans (this.cons a)
theorem len_eraseIdx {α : Type} {l : List α} {i : Nat} (hi : i < l.length) : (l.eraseIdx i).length + 1 = l.length := by
  have := (perm_eraseIdx hi).length_eq
  simpa using this
theorem drawOrder_perm {M : Model} {α : Type} : ∀ (n : Nat) (xs : List α) (s : Shared) (Q : List α → Shared → Prop), xs.length = n → (∀ ys d, ys.Perm xs → Q ys { s with drawn := d }) → wpAny M A (drawOrder n xs) Q E s
  | 0, xs, s, Q, hn, h => by
    have : xs = [] := List.length_eq_zero_iff.mp hn
    subst this
    exact wpAny_pure (h [] s.drawn (List.Perm.refl _))
  | n + 1, [], s, Q, hn, h => by simp at hn
  | n + 1, a :: r, s, Q, hn, h => by
    unfold drawOrder
    refine wpAny_bind (wpAny_choose' (by simp) fun i d hi => ?_)
    rw [show (a :: r)[i]? = some ((a :: r)[i]) by simp [hi]]
    dsimp only
    have hl : ((a :: r).eraseIdx i).length = n := by have := len_eraseIdx hi; omega
    refine wpAny_bind (drawOrder_perm n _ _ _ hl fun ys d' hp => wpAny_pure ?_)
    exact h _ d' ((hp.cons _).trans (perm_eraseIdx hi))
theorem pickOrder_go_perm {α : Type} (next : Nat → Nat) : ∀ (fuel k : Nat) (left : List α) (out : Array α), left.length ≤ fuel → (pickOrder.go next fuel k left out).toList.Perm (out.toList ++ left)
  | 0, k, left, out, h => by
    have : left = [] := List.length_eq_zero_iff.mp (by omega)
    subst this
    unfold pickOrder.go; simp
  | fuel + 1, k, [], out, h => by unfold pickOrder.go; simp
  | fuel + 1, k, a :: r, out, h => by
    unfold pickOrder.go
    have hi : next k % (a :: r).length < (a :: r).length := Nat.mod_lt _ (by simp)
    rw [show (a :: r)[next k % (a :: r).length]? = some ((a :: r)[next k % (a :: r).length]) by simp [hi]]
    dsimp only
    generalize next k % (a :: r).length = i at hi ⊢
    have hl : ((a :: r).eraseIdx i).length ≤ fuel := by have := len_eraseIdx hi; omega
    refine (pickOrder_go_perm next fuel _ _ _ hl).trans ?_
    rw [Array.toList_push, List.append_assoc]
    exact List.Perm.append_left _ (perm_eraseIdx hi)
theorem pickOrder_perm {α : Type} (next : Nat → Nat) (xs : Array α) : (pickOrder next xs).toList.Perm xs.toList := by
  unfold pickOrder
  simpa using pickOrder_go_perm next xs.size 0 xs.toList #[] (by simp)

theorem setWalkL {a : Addr} {o : Obj} {es : Array (Int × Value)} {ep : Nat} {t : SetTable} {s : Shared} {Q : Array (Int × Value) → Shared → Prop} (ho : s.heap.get? a = some o) (hex : o.ExactSet) (hd : o.data = .set es ep t) (hf : t.fits es.size = true) (hl : w.params.followText "set-order" = true ∨ t.led = true)
    (h : ∀ es' d, es'.toList.Perm es.toList → Q es' { s with drawn := d }) : wpAny (model prog w) A (setWalk a) Q E s := by
  unfold setWalk
  refine wpAny_bind (wpAny_setState_of ho hd hf ?_)
  dsimp only
  unfold setsByText
  refine wpAny_bind (wpAny_bind (wpAny_askSetting (wpAny_pure ?_)))
  by_cases hb : w.params.followText "set-order" = true
  · rw [show (model prog w).w = w from rfl, if_pos hb]
    exact wpAny_bind (wpAny_askSetting (wpAny_pure (h _ s.drawn (pickOrder_perm _ _))))
  · rw [show (model prog w).w = w from rfl, if_neg hb]
    have hled : t.led = true := hl.resolve_left hb
    show wpAny _ _ (if (!t.plain && decide (es.size > 1)) = true then (do return (← drawOrder es.size es.toList).toArray) else (do
      (if (!t.led && decide (es.size > 1)) = true then unsupported "set:maker-not-led" else pure ()); return es)) Q E s
    split
    · exact wpAny_bind (drawOrder_perm _ _ _ _ (by simp) fun ys d hp => wpAny_pure (h _ d (by simpa using hp)))
    · rw [hled]
      simp only [Bool.not_true, Bool.false_and, Bool.false_eq_true, if_false]
      exact wpAny_bind (wpAny_pure (wpAny_pure (h es s.drawn (List.Perm.refl _))))

section
variable {K : Type} [DecidableEq K] {knd : PySem.KeyKind prog w K}
theorem scan_noref {x : Value} (h : x.scannable = true) : ∀ a, x ≠ .ref a := by rintro a rfl; cases h
theorem setsQuietL {s : Shared} {Q : Bool → Shared → Prop} (l : List Addr) (hS : ∀ a ∈ l, ∃ S n, SetL knd s.heap a S n) (h : ∀ b, Q b s) : wpAny (model prog w) A (setsQuiet l) Q E s := by
  unfold setsQuiet
  refine wpAny_bind (wpAny_mono (wpAny_forIn_list _ (fun l' _ s' => s' = s ∧ ∀ a ∈ l', ∃ S n, SetL knd s.heap a S n) (fun _ s' => s' = s) ?_ (fun _ _ h => h.1) l _ ⟨rfl, hS⟩) (fun r s' e => ?_) fun _ _ e => e)
  · rintro a rest b s' ⟨rfl, hl⟩
    obtain ⟨S, n, o, es, ep, t, ho, hex, hd, hel, hmem, hb, hf, hn, hled, _⟩ := hl a (.head _)
    refine wpAny_bind (wpAny_setEntries_of ho hd hf ?_)
    rw [← Array.forIn_toList]
    refine wpAny_bind (wpAny_mono (wpAny_forIn_list _ (fun l' _ s'' => s'' = s' ∧ ∀ e ∈ l', e.2.scannable = true) (fun _ s'' => s'' = s') ?_ (fun _ _ h => h.1) es.toList _ ⟨rfl, fun e he => (hel e he).2⟩) (fun r s'' e => ?_) fun _ _ e => e)
    · rintro ⟨hh, x⟩ rest' b' s'' ⟨rfl, hl'⟩
      have hx := hl' _ (.head _)
      cases x with
      | ref a => cases hx
      | _ => exact wpAny_pure ⟨rfl, fun e he => hl' e (.tail _ he)⟩
    · subst e
      obtain ⟨r1, r2⟩ := r
      cases r1 with
      | none => exact wpAny_pure ⟨rfl, fun a ha => hl a (.tail _ ha)⟩
      | some v => exact wpAny_pure rfl
  · subst e
    obtain ⟨r1, r2⟩ := r
    cases r1 <;> exact wpAny_pure (h _)
end

section
variable {K : Type} [DecidableEq K] {knd : PySem.KeyKind prog w K}
theorem setWalkUnseenL {a f : Addr} {others : List Addr} {o : Obj} {es : Array (Int × Value)} {ep : Nat} {t : SetTable} {s : Shared} {Sf : K → Bool} {nf : Nat} {Sa : K → Bool} {na : Nat} {Q : Array (Int × Value) → Shared → Prop} (ho : s.heap.get? a = some o) (hex : o.ExactSet) (hd : o.data = .set es ep t) (hf : t.fits es.size = true) (hl : w.params.followText "set-order" = true ∨ t.led = true)
    (hA : SetL knd s.heap a Sa na) (hF : SetL knd s.heap f Sf nf) (hO : ∀ b ∈ others, ∃ S n, SetL knd s.heap b S n)
    (h : ∀ es' d h', es'.toList.Perm es.toList → Heap.SameBut f s.heap h' → SetL knd h' f Sf nf → Q es' { s with heap := h', drawn := d }) : wpAny (model prog w) A (setWalkUnseen a others (some f)) Q E s := by
  have walk : wpAny (model prog w) A (setWalk a) Q E s := setWalkL ho hex hd hf hl fun es' d hp => h es' d s.heap hp (Heap.SameBut.refl f s.heap) hF
  unfold setWalkUnseen
  refine wpAny_bind (wpAny_setState_of ho hd hf ?_)
  dsimp only
  unfold setsByText
  refine wpAny_bind (wpAny_bind (wpAny_askSetting (wpAny_pure ?_)))
  rw [show (model prog w).w = w from rfl]
  split
  · exact walk
  · rename_i hc
    simp only [Bool.or_eq_true, not_or, Bool.not_eq_true] at hc
    have hled : t.led = true := hl.resolve_left (by rw [hc.1.1]; simp)
    refine wpAny_bind (setsQuietL (knd := knd) _ (fun b hb => ?_) fun q => ?_)
    · rcases List.mem_cons.mp hb with rfl | hb
      · exact ⟨_, _, hA⟩
      · exact hO b hb
    · cases q with
      | false => exact walk
      | true =>
        simp only [Bool.not_true, Bool.false_eq_true, if_false]
        refine wpAny_bind (wpAny_rule ?_)
        obtain ⟨oF, ef, epf, tf, hoF, hexF, hdF, helF, hmemF, hbF, hfF, hnF, hledF, hapF⟩ := hF
        refine wpAny_bind (wpAny_setState_of hoF hdF hfF ?_)
        dsimp only
        split
        · refine wpAny_bind (wpAny_storeSet_of hoF hdF ?_ (fits_of_scanBound hbF))
          have hst := (SetL_store (knd := knd) (t' := { tf with led := tf.led && t.led, plain := tf.plain && t.plain }) hoF hexF hdF helF hmemF hbF hfF (hledF.imp id fun e => by simp [e, hled]) hapF).2
          rw [hnF] at hst
          exact wpAny_pure (h es s.drawn _ (List.Perm.refl _) (Heap.SameBut.update _ f _) hst)
        · refine wpAny_pure ((h es s.drawn s.heap (List.Perm.refl _) (Heap.SameBut.refl f s.heap) ⟨oF, ef, epf, tf, hoF, hexF, hdF, helF, hmemF, hbF, hfF, hnF, hledF, hapF⟩))
end

section
variable {K : Type} [DecidableEq K] {knd : PySem.KeyKind prog w K}
/-- the entries of a set that pass a test go into a new one -/
theorem passLoop {r a : Addr} {was : Nat} {o : Obj} {esa : Array (Int × Value)} {t : SetTable} {id : String} {Pk : K → Bool} {body : Int × Value → Sem PUnit} {s : Shared} (hra : a ≠ r) (ho : s.heap.get? a = some o) (hd : o.data = .set esa was t) (hfa : t.fits esa.size = true)
    (hbody : ∀ (s' : Shared) (k : K) (x : Value) (S : K → Bool) (n : Nat) (R : PUnit → Shared → Prop), Heap.SameBut r s.heap s'.heap → knd.is k x = true → x.scannable = true → SetL knd s'.heap r S n → n + 1 < scanBound →
      (∀ h2 n2, Heap.SameBut r s'.heap h2 → SetL knd h2 r (fun k' => if Pk k = true then S k' || decide (k' = k) else S k') n2 → n2 ≤ n + 1 → R ⟨⟩ { s' with heap := h2 }) → wpAny (model prog w) A (body (knd.hash k, x)) R E s')
    {es : List (Int × Value)} (hel : ElemsOf knd es) (hsz : es.length + 1 < scanBound) (hr : SetL knd s.heap r (fun _ => false) 0) {Q : PUnit → Shared → Prop}
    (h : ∀ h' n, Heap.SameBut r s.heap h' → SetL knd h' r (fun k => (es.any fun e => knd.is k e.2) && Pk k) n → n ≤ es.length → Q ⟨⟩ { s with heap := h' }) :
    wpAny (model prog w) A (forIn es PUnit.unit fun e _ => do
      body e
      Builtin.Frozenset.unchanged id a was
      pure (ForInStep.yield PUnit.unit)) Q E s := by
  refine wpAny_forIn_list _ (fun l' _ s' => ∃ dn h' n, es = dn ++ l' ∧ s' = { s with heap := h' } ∧ Heap.SameBut r s.heap h' ∧ SetL knd h' r (fun k => (dn.any fun e => knd.is k e.2) && Pk k) n ∧ n ≤ dn.length) Q ?_ ?_ es _ ⟨[], s.heap, 0, rfl, by cases s; rfl, Heap.SameBut.refl r s.heap, by simpa using hr, Nat.le_refl _⟩
  · rintro ⟨hh, x⟩ rest b s' ⟨dn, h', n, he, rfl, hsb, hS, hn⟩
    obtain ⟨⟨k, hk, hhk⟩, hsc⟩ := hel (hh, x) (by rw [he]; simp)
    have hhk' : hh = knd.hash k := hhk
    subst hhk'
    have hlen : dn.length + 1 ≤ es.length := by rw [he]; simp
    have step : (fun k' => ((dn ++ [(knd.hash k, x)]).any fun e => knd.is k' e.2) && Pk k') = fun k' => if Pk k = true then (((dn.any fun e => knd.is k' e.2) && Pk k') || decide (k' = k)) else ((dn.any fun e => knd.is k' e.2) && Pk k') := by
      funext k'
      rw [List.any_append]
      have hx : ([(knd.hash k, x)].any fun e => knd.is k' e.2) = decide (k' = k) := by
        simp only [List.any_cons, List.any_nil, Bool.or_false]
        by_cases q : k' = k
        · subst q; simpa using hk
        · have : knd.is k' x ≠ true := fun h => q (knd.inj x k' k h hk)
          simp only [Bool.not_eq_true] at this
          simp [this, q]
      rw [hx]
      cases hP : Pk k with
      | true =>
        simp only [if_true]
        by_cases q : k' = k
        · subst q; simp [hP]
        · simp [q]
      | false =>
        simp only [Bool.false_eq_true, if_false]
        by_cases q : k' = k
        · subst q; simp [hP]
        · simp [q]
    refine wpAny_bind (hbody _ k x _ n _ hsb hk hsc hS (by omega) fun h2 n2 hs2 hS2 hn2 => ?_)
    have hs3 := hsb.trans hs2
    unfold Builtin.Frozenset.unchanged
    refine wpAny_bind (wpAny_bind (wpAny_setEpoch_of (by show h2.get? a = _; rw [hs3.2 a hra]; exact ho) hd hfa ?_))
    simp only [bne_self_eq_false, Bool.false_eq_true, if_false]
    exact wpAny_pure (wpAny_pure ⟨dn ++ [(knd.hash k, x)], h2, n2, by rw [he, List.append_assoc]; rfl, rfl, hs3, by rw [step]; exact hS2, by simp; omega⟩)
  · rintro b s' ⟨dn, h', n, he, rfl, hsb, hS, hn⟩
    rw [List.append_nil] at he
    subst he
    cases b
    exact h h' n hsb hS hn
end
end
end Mine

-- LQd
namespace Mine
section
variable {w : World} {A : Around} {E : Value → Shared → Prop} {K : Type} [DecidableEq K] {knd : PySem.KeyKind P w K} {s : Shared}
abbrev setB (w : World) : Bool := !w.params.followText "set-order"
abbrev set0 (led : Bool) : Obj := { cls := .type "set", dict := none, data := .set #[] 0 (.fresh 0 0 led) }
theorem set0_L {h : Heap} {a : Addr} (e : h.get? a = some (set0 (setB w))) : SetL knd h a (fun _ => false) 0 := by
  refine ⟨_, #[], 0, _, e, ⟨rfl, rfl, rfl⟩, rfl, fun x hx => by simp at hx, fun k => by simp, by unfold scanBound; simp, by rfl, rfl, ?_, by simp⟩
  unfold setB
  cases h : w.params.followText "set-order" with
  | true => exact .inl rfl
  | false => exact .inr rfl
theorem SetL.typeIs {s : Shared} {a : Addr} {S : K → Bool} {n : Nat} (x : SetL knd s.heap a S n) : s.TypeIs (.ref a) "set" := x.setOf.typeIs
theorem SetL.at {h h' : Heap} {a : Addr} {S : K → Bool} {n : Nat} (x : SetL knd h a S n) (k : ∀ o, h.get? a = some o → h'.get? a = some o) : SetL knd h' a S n :=
  let ⟨o, es, ep, t, h1, r⟩ := x; ⟨o, es, ep, t, k _ h1, r⟩
theorem newSetL {Q : Value → Shared → Prop} (h : SetL knd (s.heap.push (set0 (setB w))) s.heap.objs.size (fun _ => false) 0 → Q (.ref s.heap.objs.size) { s with heap := s.heap.push (set0 (setB w)) }) : wpAny (model P w) A (newSet (.type "set")) Q E s := by
  unfold newSet setsByText
  refine wpAny_bind (wpAny_bind (wpAny_askSetting (wpAny_pure ?_)))
  exact wpAny_newObj_type (h (set0_L (Heap.get?_push_size _ rfl))) (by size_fits)
theorem baseOfL {a : Addr} {Q : Value → Shared → Prop} (hT : s.TypeIs (.ref a) "set") (h : Q (.type "set") s) : wpAny (model P w) A (Builtin.Frozenset.baseOf a) Q E s := by
  unfold Builtin.Frozenset.baseOf
  refine wpAny_bind (wpAny_isInstance hT sub_set_self ?_)
  exact wpAny_pure h
theorem anySetL {a : Addr} {Q : Bool → Shared → Prop} (hT : s.TypeIs (.ref a) "set") (h : Q true s) : wpAny (model P w) A (Builtin.Frozenset.isAnySet (.ref a)) Q E s := by
  unfold Builtin.Frozenset.isAnySet
  refine wpAny_bind (wpAny_isInstance hT sub_set_self ?_)
  exact wpAny_pure h
theorem sizeOfL {a : Addr} {S : K → Bool} {n : Nat} {Q : Nat → Shared → Prop} (x : SetL knd s.heap a S n) (h : Q n s) : wpAny (model P w) A (Builtin.Frozenset.sizeOf a) Q E s := by
  obtain ⟨o, es, ep, t, h1, h2, h3, h4, h5, h6, h7, h8, h9⟩ := x
  unfold Builtin.Frozenset.sizeOf
  exact wpAny_bind (wpAny_setEntries_of h1 h3 h7 (wpAny_pure (h8 ▸ h)))

/-- the core of & and -: the entries of one set that pass a test by the other -/
theorem walkInto2 {was : Nat} {a q r : Addr} {id : String} {Sa Sq : K → Bool} {na nq : Nat} {neg : Bool} (ha : SetL knd s.heap a Sa na) (hq : SetL knd s.heap q Sq nq) (hr : SetL knd s.heap r (fun _ => false) 0) (har : a ≠ r) (hqr : q ≠ r) (hb : na + 1 < scanBound) (hw : ∃ o es t, s.heap.get? a = some o ∧ o.data = .set es was t) {Q : PUnit → Shared → Prop}
    {body : Int × Value → Sem PUnit} (hbd : ∀ (s' : Shared) (k : K) (x : Value) (R : PUnit → Shared → Prop), knd.is k x = true → x.scannable = true → SetL knd s'.heap q Sq nq →
      (if (Sq k != neg) = true then wpAny (model P w) A (do let _ ← setAddHashed r x (knd.hash k); pure PUnit.unit) R E s' else R ⟨⟩ s') → wpAny (model P w) A (body (knd.hash k, x)) R E s')
    (h : ∀ h' d n, Heap.SameBut r s.heap h' → SetL knd h' r (fun k => Sa k && (Sq k != neg)) n → n ≤ na → Q ⟨⟩ { s with heap := h', drawn := d }) :
    wpAny (model P w) A (do
      let l ← setWalkUnseen a [q, r] (some r)
      forIn l PUnit.unit fun e _ => do
        body e
        Builtin.Frozenset.unchanged id a was
        pure (ForInStep.yield PUnit.unit)
      pure ()) Q E s := by
  have ha0 := ha
  obtain ⟨o, es, ep, t, h1, h2, h3, h4, h5, h6, h7, h8, h9, h10⟩ := ha
  obtain ⟨o', es0, t0, hw1, hw2⟩ := hw
  rw [h1] at hw1; cases hw1
  rw [h3] at hw2; cases hw2
  refine wpAny_bind (setWalkUnseenL (f := r) (Sf := fun _ => false) (nf := 0) h1 h2 h3 h7 h9 ha0 hr (fun b hb => ?_) fun es' d h' hp hs hr' => ?_)
  · rcases List.mem_cons.mp hb with rfl | hb
    · exact ⟨_, _, hq⟩
    · rw [List.mem_singleton] at hb; subst hb; exact ⟨_, _, hr⟩
  · refine wpAny_bind ?_
    rw [← Array.forIn_toList]
    have hl : es'.toList.length = na := by rw [hp.length_eq, Array.length_toList, h8]
    refine passLoop (s := { s with heap := h', drawn := d }) (knd := knd) (Pk := fun k => Sq k != neg) har (by show h'.get? a = _; rw [hs.2 a har]; exact h1) h3 h7 (fun s' k x S n R hsb hk hsc hS hn hR => ?_) (h4.perm hp) (by omega) hr' fun h2 n hs2 hS2 hn2 => ?_
    · have hq' : SetL knd s'.heap q Sq nq := (hq.at fun o e => by rw [hs.2 q hqr]; exact e).at fun o e => by rw [hsb.2 q hqr]; exact e
      refine hbd s' k x R hk hsc hq' ?_
      split
      · rename_i hc
        refine wpAny_bind (setAddHashedL hk hsc hS hn fun h3 hs3 hS3 => wpAny_pure (hR h3 (if S k = true then n else n + 1) hs3 ?_ ?_))
        · rw [show (fun k' => if (Sq k != neg) = true then S k' || decide (k' = k) else S k') = fun k' => S k' || decide (k' = k) from funext fun k' => if_pos hc]
          exact hS3
        · split <;> omega
      · rename_i hc
        have := hR s'.heap n (Heap.SameBut.refl r s'.heap) (by
          rw [show (fun k' => if (Sq k != neg) = true then S k' || decide (k' = k) else S k') = S from funext fun k' => if_neg hc]
          exact hS) (by omega)
        exact this
    · refine wpAny_pure (h h2 d n (hs.trans hs2) ?_ (by omega))
      have : (fun k => (es'.toList.any fun e => knd.is k e.2) && (Sq k != neg)) = fun k => Sa k && (Sq k != neg) := funext fun k => by
        congr 1
        rw [Bool.eq_iff_iff, List.any_eq_true, h5 k]
        exact ⟨fun ⟨e, he, q⟩ => ⟨e, hp.mem_iff.mp he, q⟩, fun ⟨e, he, q⟩ => ⟨e, hp.mem_iff.mpr he, q⟩⟩
      rw [← this]; exact hS2

/-- the core of & and -: the entries of one set that pass a test by the other -/
theorem walkInto {a q r : Addr} {id : String} {Sa Sq : K → Bool} {na nq : Nat} {neg : Bool} (ha : SetL knd s.heap a Sa na) (hq : SetL knd s.heap q Sq nq) (hr : SetL knd s.heap r (fun _ => false) 0) (har : a ≠ r) (hqr : q ≠ r) (hb : na + 1 < scanBound) {Q : PUnit → Shared → Prop}
    {body : Int × Value → Sem PUnit} (hbd : ∀ (s' : Shared) (k : K) (x : Value) (R : PUnit → Shared → Prop), knd.is k x = true → x.scannable = true → SetL knd s'.heap q Sq nq →
      (if (Sq k != neg) = true then wpAny (model P w) A (do let _ ← setAddHashed r x (knd.hash k); pure PUnit.unit) R E s' else R ⟨⟩ s') → wpAny (model P w) A (body (knd.hash k, x)) R E s')
    (h : ∀ h' d n, Heap.SameBut r s.heap h' → SetL knd h' r (fun k => Sa k && (Sq k != neg)) n → n ≤ na → Q ⟨⟩ { s with heap := h', drawn := d }) :
    wpAny (model P w) A (do
      let was ← setEpoch a
      let l ← setWalkUnseen a [q, r] (some r)
      forIn l PUnit.unit fun e _ => do
        body e
        Builtin.Frozenset.unchanged id a was
        pure (ForInStep.yield PUnit.unit)
      pure ()) Q E s := by
  obtain ⟨o, es, ep, t, h1, h2, h3, h4, h5, h6, h7, h8, h9, h10⟩ := _root_.id ha
  exact wpAny_bind (wpAny_setEpoch_of h1 h3 h7 (walkInto2 ha hq hr har hqr hb ⟨o, es, t, h1, h3⟩ hbd h))
theorem SetL.congr {h : Heap} {a : Addr} {S S' : K → Bool} {n : Nat} (x : SetL knd h a S n) (e : ∀ k, S k = S' k) : SetL knd h a S' n := by
  have : S = S' := funext e
  subst this; exact x
theorem interL {a b : Addr} {id : String} {Sa Sb : K → Bool} {na nb : Nat} {Q : Value → Shared → Prop} (ha : SetL knd s.heap a Sa na) (hb : SetL knd s.heap b Sb nb) (hab : a ≠ b) (hna : na + 1 < scanBound) (hnb : nb + 1 < scanBound)
    (h : ∀ h' d n, (∀ x o, s.heap.get? x = some o → h'.get? x = some o) → SetL knd h' s.heap.objs.size (fun k => Sa k && Sb k) n → Q (.ref s.heap.objs.size) { s with heap := h', drawn := d }) :
    wpAny (model P w) A (Builtin.Frozenset.intersection id a (.ref b)) Q E s := by
  have lt : ∀ {x : Addr} {S : K → Bool} {n : Nat}, SetL knd s.heap x S n → x ≠ s.heap.objs.size := fun ⟨o, es, ep, t, h1, _⟩ => Nat.ne_of_lt (Heap.lt_size h1)
  have hbne : b ≠ s.heap.objs.size := lt hb
  have hane : a ≠ s.heap.objs.size := lt ha
  unfold Builtin.Frozenset.intersection
  rw [if_neg (by simpa using Ne.symm hab)]
  refine wpAny_bind (baseOfL ha.typeIs (wpAny_bind (newSetL (knd := knd) fun hr => wpAny_bind (wpAny_pure ?_))))
  have kp : ∀ x o, s.heap.get? x = some o → (s.heap.push (set0 (setB w))).get? x = some o := fun x o e => Heap.get?_push_of_some _ e
  have ha' := ha.at (kp a)
  have hb' := hb.at (kp b)
  have fin : ∀ (h' : Heap) d n (S : K → Bool), Heap.SameBut s.heap.objs.size (s.heap.push (set0 (setB w))) h' → SetL knd h' s.heap.objs.size S n → (∀ k, S k = (Sa k && Sb k)) → Q (.ref s.heap.objs.size) { s with heap := h', drawn := d } := fun h' d n S hs hS e =>
    h h' d n (fun x o hx => by rw [hs.2 x (Nat.ne_of_lt (Heap.lt_size hx))]; exact kp x o hx) (hS.congr e)
  refine wpAny_bind (wpAny_holding (wpAny_bind (anySetL hb'.typeIs ?_)))
  simp only [if_true]
  refine wpAny_bind (wpAny_pure (wpAny_bind (sizeOfL hb' (wpAny_bind (sizeOfL ha' ?_)))))
  have body : ∀ (q : Addr) (Sq : K → Bool) (nq : Nat) (s' : Shared) (k : K) (x : Value) (R : PUnit → Shared → Prop), knd.is k x = true → x.scannable = true → SetL knd s'.heap q Sq nq →
      (if (Sq k != false) = true then wpAny (model P w) A (do let _ ← setAddHashed s.heap.objs.size x (knd.hash k); pure PUnit.unit) R E s' else R ⟨⟩ s') →
      wpAny (model P w) A (holding [x] do if (← setFind q x (knd.hash k)).isSome then let _ ← setAddHashed s.heap.objs.size x (knd.hash k)) R E s' := by
    intro q Sq nq s' k x R hk hsc hq hR
    refine wpAny_holding (wpAny_bind (wpAny_setFind_of hk hsc hq.setOf fun rr hrr => ?_))
    rw [hrr]
    cases hSk : Sq k with
    | true => rw [hSk] at hR; simpa using hR
    | false => rw [hSk] at hR; exact wpAny_pure (by simpa using hR)
  by_cases hc : nb > na
  · rw [if_pos hc]
    exact walkInto (s := { s with heap := s.heap.push (set0 (setB w)) }) (neg := false) ha' hb' hr hane hbne hna (body b Sb nb) (fun h' d n hs hS hn => wpAny_pure (fin h' d n _ hs hS fun k => by simp))
  · rw [if_neg hc]
    exact walkInto (s := { s with heap := s.heap.push (set0 (setB w)) }) (neg := false) hb' ha' hr hbne hane hnb (body a Sa na) (fun h' d n hs hS hn => wpAny_pure (fin h' d n _ hs hS fun k => by simp [Bool.and_comm]))

theorem diffL {a b : Addr} {id : String} {Sa Sb : K → Bool} {na nb : Nat} {Q : Value → Shared → Prop} (ha : SetL knd s.heap a Sa na) (hb : SetL knd s.heap b Sb nb) (hna : na < 4)
    (h : ∀ h' d n, (∀ x o, s.heap.get? x = some o → h'.get? x = some o) → SetL knd h' s.heap.objs.size (fun k => Sa k && !Sb k) n → Q (.ref s.heap.objs.size) { s with heap := h', drawn := d }) :
    wpAny (model P w) A (Builtin.Frozenset.difference id a (.ref b)) Q E s := by
  have lt : ∀ {x : Addr} {S : K → Bool} {n : Nat}, SetL knd s.heap x S n → x ≠ s.heap.objs.size := fun ⟨o, es, ep, t, h1, _⟩ => Nat.ne_of_lt (Heap.lt_size h1)
  have hbne : b ≠ s.heap.objs.size := lt hb
  have hane : a ≠ s.heap.objs.size := lt ha
  unfold Builtin.Frozenset.difference
  refine wpAny_bind (anySetL hb.typeIs ?_)
  simp only [Bool.not_true, Bool.false_eq_true, if_false, Bool.false_and, if_true]
  refine wpAny_bind (wpAny_pure (wpAny_bind (sizeOfL hb (wpAny_bind (sizeOfL ha ?_)))))
  rw [if_neg (by have : na / 4 = 0 := Nat.div_eq_of_lt hna; omega)]
  refine wpAny_bind (baseOfL ha.typeIs (wpAny_bind (newSetL (knd := knd) fun hr => wpAny_bind (wpAny_pure ?_))))
  have kp : ∀ x o, s.heap.get? x = some o → (s.heap.push (set0 (setB w))).get? x = some o := fun x o e => Heap.get?_push_of_some _ e
  have ha' := ha.at (kp a)
  have hb' := hb.at (kp b)
  obtain ⟨o, es, ep, t, h1, h2, h3, h4, h5, h6, h7, h8, h9, h10⟩ := _root_.id ha'
  refine wpAny_bind (wpAny_setEpoch_of h1 h3 h7 (wpAny_bind (wpAny_holding ?_)))
  refine walkInto2 (s := { s with heap := s.heap.push (set0 (setB w)) }) (neg := true) ha' hb' hr hane hbne (by unfold scanBound; omega) ⟨o, es, t, h1, h3⟩ (fun s' k x R hk hsc hq hR => ?_) (fun h' d n hs hS hn => wpAny_pure (h h' d n (fun x o hx => by rw [hs.2 x (Nat.ne_of_lt (Heap.lt_size hx))]; exact kp x o hx) (hS.congr fun k => by cases Sb k <;> simp)))
  refine wpAny_holding (wpAny_bind (wpAny_setFind_of hk hsc hq.setOf fun rr hrr => wpAny_bind (wpAny_pure ?_)))
  rw [hrr]
  cases hSk : Sb k with
  | true => rw [hSk] at hR; exact wpAny_pure (by simpa using hR)
  | false => rw [hSk] at hR; simpa using hR
end
end Mine

-- LQe
namespace Mine
/-! the copy of a set of small ints -/
def six : List Int := [0, 1, 2, 3, 4, 5]
def checkLay (mask : Nat) (l : List Int) : Bool := match SetTable.layClean mask l.toArray with
  | some owner => ((List.range (mask + 1)).filterMap fun j => owner.getD j none).isPerm (List.range l.length)
  | none => false
def ownF (l : List Int) (j : Nat) : Option Nat := if (j : Int) ∈ l then some (l.idxOf (j : Int)) else none
def ownOf (mask : Nat) (l : List Int) : Array (Option Nat) := ((List.range (mask + 1)).map (ownF l)).toArray
theorem fm_congr {α β : Type} {f g : α → Option β} : ∀ l : List α, (∀ x ∈ l, f x = g x) → l.filterMap f = l.filterMap g
  | [], _ => rfl
  | x :: r, h => by
    rw [List.filterMap_cons, List.filterMap_cons, h x (.head _), fm_congr r fun y hy => h y (.tail _ hy)]
theorem idx_get {x : Int} : ∀ {l : List Int}, x ∈ l → l[l.idxOf x]? = some x
  | y :: r, h => by
    rw [List.idxOf_cons]
    by_cases e : y = x
    · simp [e]
    · have hr : x ∈ r := by
        rcases List.mem_cons.mp h with h | h
        · exact absurd h.symm e
        · exact h
      have ih := idx_get hr
      have eb : (y == x) = false := by simpa using e
      rw [eb]
      exact ih
theorem idx_nd {x : Int} {l : List Int} (hn : l.Nodup) {k : Nat} (h : l[k]? = some x) : l.idxOf x = k := by
  have hx := List.mem_of_getElem? h
  have hi := List.idxOf_lt_length_of_mem hx
  obtain ⟨hk, ek⟩ := List.getElem?_eq_some_iff.mp h
  obtain ⟨_, ei⟩ := List.getElem?_eq_some_iff.mp (idx_get hx)
  rcases Nat.lt_trichotomy (l.idxOf x) k with h1 | h1 | h1
  · exact absurd (ei.trans ek.symm) (List.pairwise_iff_getElem.mp hn _ _ hi hk h1)
  · exact h1
  · exact absurd (ek.trans ei.symm) (List.pairwise_iff_getElem.mp hn _ _ hk hi h1)
theorem six_lt {x : Int} (h : x ∈ six) : 0 ≤ x ∧ x < 6 := by
  unfold six at h
  simp only [List.mem_cons, List.not_mem_nil, or_false] at h
  omega
theorem six_bits : ∀ x ∈ six, SetTable.bits x = x.toNat := by decide +kernel
theorem ownOf_get {mask : Nat} {l : List Int} {j : Nat} (h : j ≤ mask) (d : Option Nat) : (ownOf mask l).getD j d = ownF l j := by
  unfold ownOf
  rw [Array.getD_eq_getD_getElem?]
  simp [show j < mask + 1 by omega]
theorem lay_free {mask : Nat} (hm : 7 ≤ mask) {l : List Int} {x : Int} (hx : x ∈ six) (hn : x ∉ l) : SetTable.layClean.free mask (ownOf mask l) (SetTable.turns mask) (SetTable.bits x % (mask + 1)) (SetTable.bits x) = some x.toNat := by
  have h6 := six_lt hx
  rw [six_bits x hx, Nat.mod_eq_of_lt (by omega)]
  show SetTable.layClean.free mask (ownOf mask l) (mask + 14 + 1) x.toNat x.toNat = _
  unfold SetTable.layClean.free
  obtain ⟨n, hr⟩ : ∃ n, SetTable.runEnd mask x.toNat + 1 - x.toNat = n + 1 := ⟨SetTable.runEnd mask x.toNat - x.toNat, by unfold SetTable.runEnd; split <;> omega⟩
  rw [hr, List.range_succ_eq_map, List.find?_cons]
  have e : (ownOf mask l).getD (x.toNat + 0) (some 0) = none := by
    rw [ownOf_get (by omega)]
    unfold ownF
    rw [if_neg]
    rw [show ((x.toNat + 0 : Nat) : Int) = x by omega]
    exact hn
  rw [e]
  simp
theorem own_push {mask : Nat} (hm : 7 ≤ mask) {l : List Int} {x : Int} (hx : x ∈ six) (hn : x ∉ l) : (ownOf mask l).setIfInBounds x.toNat (some l.length) = ownOf mask (l ++ [x]) := by
  have h6 := six_lt hx
  apply Array.ext'
  unfold ownOf
  rw [Array.toList_setIfInBounds]
  apply List.ext_getElem?
  intro j
  rw [List.getElem?_set]
  simp only [List.length_map, List.length_range, List.getElem?_map]
  by_cases hj : x.toNat = j
  · subst hj
    rw [if_pos rfl, if_pos (by omega), List.getElem?_range (by omega)]
    simp only [Option.map_some]
    unfold ownF
    have e : ((x.toNat : Nat) : Int) = x := by omega
    rw [e, if_pos (by simp), List.idxOf_append]
    simp [hn]
  · rw [if_neg hj]
    rcases Nat.lt_or_ge j (mask + 1) with h | h
    · rw [List.getElem?_range h]
      simp only [Option.map_some]
      unfold ownF
      have ne : (j : Int) ≠ x := by omega
      by_cases hm2 : (j : Int) ∈ l
      · rw [if_pos hm2, if_pos (by simp [hm2]), List.idxOf_append, if_pos hm2]
      · rw [if_neg hm2, if_neg (by simp [hm2, ne])]
    · rw [List.getElem?_eq_none (by simpa using h)]; rfl
theorem lay_go {mask : Nat} (hm : 7 ≤ mask) : ∀ (r l : List Int), (l ++ r).Nodup → (∀ x ∈ l ++ r, x ∈ six) →
    r.foldl (init := some (ownOf mask l, l.length)) (fun acc h => do
      let (owner, k) ← acc
      let j ← SetTable.layClean.free mask owner (SetTable.turns mask) (SetTable.bits h % (mask + 1)) (SetTable.bits h)
      pure (owner.setIfInBounds j (some k), k + 1)) = some (ownOf mask (l ++ r), (l ++ r).length)
  | [], l, _, _ => by simp
  | x :: r, l, hn, hs => by
    have hx : x ∈ six := hs x (by simp)
    have hnl : x ∉ l := fun h => by
      rw [List.nodup_append] at hn
      exact hn.2.2 x h x (by simp) rfl
    rw [List.foldl_cons]
    have e : (do
      let (owner, k) ← (some (ownOf mask l, l.length) : Option (Array (Option Nat) × Nat))
      let j ← SetTable.layClean.free mask owner (SetTable.turns mask) (SetTable.bits x % (mask + 1)) (SetTable.bits x)
      pure (owner.setIfInBounds j (some k), k + 1)) = some (ownOf mask (l ++ [x]), (l ++ [x]).length) := by
      show (SetTable.layClean.free mask (ownOf mask l) (SetTable.turns mask) (SetTable.bits x % (mask + 1)) (SetTable.bits x) >>= fun j => pure ((ownOf mask l).setIfInBounds j (some l.length), l.length + 1)) = _
      rw [lay_free hm hx hnl]
      show some ((ownOf mask l).setIfInBounds x.toNat (some l.length), l.length + 1) = _
      rw [own_push hm hx hnl]
      simp
    rw [e]
    have := lay_go hm r (l ++ [x]) (by simpa using hn) (by simpa using hs)
    rw [this]; simp
theorem lay_ok {mask : Nat} (hm : 7 ≤ mask) {l : List Int} (hn : l.Nodup) (hs : ∀ x ∈ l, x ∈ six) : SetTable.layClean mask l.toArray = some (ownOf mask l) := by
  unfold SetTable.layClean
  have h := lay_go hm l [] (by simpa using hn) (by simpa using hs)
  have e0 : ownOf mask [] = Array.replicate (mask + 1) none := by
    apply Array.ext'
    unfold ownOf
    rw [Array.toList_replicate]
    have : (ownF []) = fun _ => none := by funext j; simp [ownF]
    rw [this]
    simp [List.map_const']
  rw [e0] at h
  rw [List.foldl_toArray]
  simp only [List.nil_append, List.length_nil] at h
  rw [h]; rfl
theorem check_of {l : List Int} (hn : l.Nodup) (hx : ∀ x ∈ l, x ∈ six) : l.length ≤ 6 ∧ checkLay (if l.length ≥ 5 then 15 else 7) l = true := by
  have hl : l.length ≤ 6 := nodup_len_le (l' := six) hn hx
  refine ⟨hl, ?_⟩
  have hm : 7 ≤ (if l.length ≥ 5 then 15 else 7) := by split <;> omega
  generalize (if l.length ≥ 5 then 15 else 7) = mask at hm
  unfold checkLay
  rw [lay_ok hm hn hx]
  show List.isPerm _ _ = true
  rw [List.isPerm_iff]
  have e : ((List.range (mask + 1)).filterMap fun j => (ownOf mask l).getD j none) = (List.range (mask + 1)).filterMap (ownF l) := by
    refine fm_congr _ fun j hj => ownOf_get (by have := List.mem_range.mp hj; omega) none
  rw [e]
  refine (List.perm_ext_iff_of_nodup ?_ List.nodup_range).mpr fun k => ?_
  · rw [List.Nodup, List.pairwise_filterMap]
    refine List.Pairwise.imp ?_ (List.nodup_range (n := mask + 1))
    intro i j hij b hb b' hb' e
    subst e
    unfold ownF at hb hb'
    split at hb <;> simp at hb
    split at hb' <;> simp at hb'
    rename_i h1 h2
    have e1 : l[b]? = some (i : Int) := by rw [← hb]; exact idx_get h1
    have e2 : l[b]? = some (j : Int) := by rw [← hb']; exact idx_get h2
    rw [e1] at e2
    have := Option.some.inj e2
    exact hij (by omega)
  · rw [List.mem_filterMap, List.mem_range]
    constructor
    · rintro ⟨j, _, h⟩
      unfold ownF at h
      split at h <;> simp at h
      rename_i h1
      rw [← h]
      exact List.idxOf_lt_length_of_mem h1
    · intro hk
      have hmem : l[k] ∈ l := List.getElem_mem hk
      have h6 := six_lt (hx _ hmem)
      refine ⟨l[k].toNat, List.mem_range.mpr (by omega), ?_⟩
      unfold ownF
      have e : ((l[k].toNat : Nat) : Int) = l[k] := by omega
      rw [e, if_pos hmem]
      congr 1
      exact idx_nd hn (by simp [hk])
end Mine

-- LQf
namespace Mine
section
variable {w : World} {A : Around} {E : Value → Shared → Prop} {s : Shared}
theorem hash_six {k : Int} (h : k ∈ six) : (intKind P w).hash k = k := by
  simp only [six, List.mem_cons, List.not_mem_nil, or_false] at h
  rcases h with rfl | rfl | rfl | rfl | rfl | rfl <;> rfl
theorem laid_of {mask f mv : Nat} {led plain : Bool} {l : List Int} (h : checkLay mask l = true) :
    ∃ t order, SetTable.laid mask f mv led plain l.toArray = some (t, order) ∧ order.toList.Perm (List.range l.length) ∧ t.place.size = l.length ∧ t.dummies = #[] ∧ t.mask = mask ∧ t.led = led := by
  unfold checkLay at h
  unfold SetTable.laid
  cases e : SetTable.layClean mask l.toArray with
  | none => rw [e] at h; cases h
  | some owner =>
    rw [e] at h
    dsimp only at h
    have hp := List.isPerm_iff.mp h
    have e2 : (((List.range (mask + 1)).filterMap fun j => (owner.getD j none).map (j, ·)).map (·.2)) = (List.range (mask + 1)).filterMap fun j => owner.getD j none := by
      rw [List.map_filterMap]
      congr 1
      funext j
      cases owner.getD j none <;> rfl
    refine ⟨_, _, rfl, ?_, ?_, rfl, rfl, rfl⟩
    · show (((List.range (mask + 1)).filterMap fun j => (owner.getD j none).map (j, ·)).map (·.2)).Perm _
      rw [e2]; exact hp
    · show (((List.range (mask + 1)).filterMap fun j => (owner.getD j none).map (j, ·)).map (·.1)).toArray.size = _
      rw [List.size_toArray, List.length_map, ← List.length_map (f := fun x : Nat × Nat => x.2), e2, hp.length_eq, List.length_range]
theorem range_get {α : Type} (es : Array α) : (List.range es.size).filterMap (es[·]?) = es.toList := by
  have := pick_run es 0 es.size
  simp only [List.drop_zero, Nat.zero_add, List.map_id'] at this
  rw [this]; exact List.take_of_length_le (by simp)
theorem reorder_perm {es : Array (Int × Value)} {order : Array Nat} (h : order.toList.Perm (List.range es.size)) : (order.filterMap (es[·]?)).toList.Perm es.toList := by
  rw [Array.toList_filterMap]
  have := h.filterMap (es[·]?)
  rwa [range_get] at this
theorem copyL {a : Addr} {S : Int → Bool} {n : Nat} {Q : Value → Shared → Prop} (ha : SetL (intKind P w) s.heap a S n) (hsm : ∀ k, S k = true → k ∈ six)
    (h : ∀ h', (∀ x o, s.heap.get? x = some o → h'.get? x = some o) → SetL (intKind P w) h' s.heap.objs.size S n → Q (.ref s.heap.objs.size) { s with heap := h' }) : wpAny (model P w) A (Builtin.Frozenset.copyOf a) Q E s := by
  have hT := ha.typeIs
  obtain ⟨o, es, ep, t, h1, h2, h3, h4, h5, h6, h7, h8, h9, h10⟩ := ha
  have hane : a ≠ s.heap.objs.size := Nat.ne_of_lt (Heap.lt_size h1)
  -- the hashes
  have hk : ∀ e ∈ es.toList, e.1 ∈ six ∧ (intKind P w).is e.1 e.2 = true := fun e he => by
    obtain ⟨⟨k, hk, hh⟩, _⟩ := h4 e he
    have h6 := hsm k ((h5 k).mpr ⟨e, he, hk⟩)
    rw [hash_six h6] at hh
    exact ⟨hh ▸ h6, hh ▸ hk⟩
  have hnd : (es.toList.map (·.1)).Nodup := by
    rw [List.Nodup, List.pairwise_map]
    refine List.Pairwise.imp_of_mem ?_ h10
    intro x y hx hy hap e
    exact hap x.1 ⟨(hk x hx).2, e ▸ (hk y hy).2⟩
  obtain ⟨hl6, hchk⟩ := check_of hnd fun x hx => by
    obtain ⟨e, he, rfl⟩ := List.mem_map.mp hx
    exact (hk e he).1
  rw [List.length_map, Array.length_toList] at hl6
  rw [List.length_map, Array.length_toList] at hchk
  have hmap : (es.map (·.1)) = (es.toList.map (·.1)).toArray := by rw [← Array.toList_map]
  unfold Builtin.Frozenset.copyOf
  refine wpAny_bind (baseOfL hT (wpAny_bind (newSetL (knd := intKind P w) fun hr => wpAny_bind (wpAny_pure (wpAny_bind ?_)))))
  have kp : ∀ x o, s.heap.get? x = some o → (s.heap.push (set0 (setB w))).get? x = some o := fun x o e => Heap.get?_push_of_some _ e
  have hR : (s.heap.push (set0 (setB w))).get? s.heap.objs.size = some (set0 (setB w)) := Heap.get?_push_size _ rfl
  have hledR : w.params.followText "set-order" = true ∨ setB w = true := by
    unfold setB
    cases w.params.followText "set-order" <;> simp
  have fin : ∀ (h' : Heap), Heap.SameBut s.heap.objs.size (s.heap.push (set0 (setB w))) h' → SetL (intKind P w) h' s.heap.objs.size S n → Q (.ref s.heap.objs.size) { s with heap := h' } := fun h' hs hS =>
    h h' (fun x o e => by rw [hs.2 x (Nat.ne_of_lt (Heap.lt_size e))]; exact kp x o e) hS
  unfold setMerge
  rw [if_neg (by rw [beq_iff_eq]; exact Ne.symm hane)]
  refine wpAny_bind (wpAny_setState_of (kp _ _ h1) h3 h7 ?_)
  dsimp only
  by_cases hemp : es.isEmpty = true
  · rw [if_pos hemp]
    have he : es = #[] := Array.isEmpty_iff.mp hemp
    refine wpAny_pure (wpAny_pure (fin _ (Heap.SameBut.refl _ _) ?_))
    subst he
    have hn0 : n = 0 := by simpa using h8.symm
    subst hn0
    refine hr.congr fun k => ?_
    cases e : S k with
    | false => rfl
    | true => obtain ⟨e, he, _⟩ := (h5 k).mp e; simp at he
  · rw [if_neg hemp]
    -- room
    have room : ∀ (R : Unit → Shared → Prop), (∀ (h2 : Heap) (t2 : SetTable) (ep2 : Nat), Heap.SameBut s.heap.objs.size (s.heap.push (set0 (setB w))) h2 → h2.get? s.heap.objs.size = some { set0 (setB w) with data := .set #[] ep2 t2 } → t2.mask = (if es.size ≥ 5 then 15 else 7) → t2.fill = 0 → t2.place = #[] → t2.led = setB w → R () { s with heap := h2 }) →
        wpAny (model P w) A (setRoomFor s.heap.objs.size es.size) R E { s with heap := s.heap.push (set0 (setB w)) } := by
      intro R hRR
      unfold setRoomFor
      refine wpAny_bind (wpAny_setState_of hR rfl rfl ?_)
      dsimp only
      by_cases h5' : es.size ≥ 5
      · have e1 : SetTable.roomFor (.fresh 0 0 (setB w)) es.size = some ((0 + es.size) * 2) := by
          unfold SetTable.roomFor
          rw [if_pos (by show (0 + 0 + es.size) * 5 ≥ 7 * 3; omega)]; rfl
        rw [e1]
        dsimp only
        have hs16 : SetTable.sizeAbove ((0 + es.size) * 2) = 16 := by
          have : es.size = 5 ∨ es.size = 6 := by omega
          rcases this with h | h <;> rw [h] <;> rfl
        unfold setRelay
        refine wpAny_bind (wpAny_setState_of hR rfl rfl ?_)
        dsimp only
        rw [hs16, if_neg (by rw [sizeLine_eq]; omega)]
        refine wpAny_bind ?_
        obtain ⟨t2, order, hlaid, hperm, hpl, hdm, hmk, hld⟩ := laid_of (f := 0) (mv := (SetTable.fresh 0 0 (setB w)).movedTo 15) (led := setB w) (plain := true) (l := []) (mask := 15) (by decide)
        have hrel : SetTable.relaid (.fresh 0 0 (setB w)) ((#[] : Array (Int × Value)).map (·.1)) ((0 + es.size) * 2) = some (t2, order) := by
          unfold SetTable.relaid
          rw [hs16, Array.map_empty]
          exact hlaid
        have hord : order = #[] := by
          have := hperm.length_eq
          simp at this; exact this
        rw [hrel, hord]
        refine wpAny_of_eq (a := (#[], t2)) (by rfl) ?_
        dsimp only
        have hplace : t2.place = #[] := by simpa using hpl
        refine wpAny_storeSet_of hR rfl ?_ (by simp)
        refine hRR _ t2 1 (Heap.SameBut.update _ _ _) ?_ (by rw [if_pos h5', hmk]) (by unfold SetTable.fill; rw [hplace, hdm]; rfl) hplace hld
        have := Heap.get?_update_self (Obj.putSet #[] t2) hR (by rw [putSet_of #[] t2 rfl]; rfl)
        rw [putSet_of #[] t2 rfl] at this
        exact this
      · have e1 : SetTable.roomFor (.fresh 0 0 (setB w)) es.size = none := by
          unfold SetTable.roomFor
          rw [if_neg (by show ¬ (0 + 0 + es.size) * 5 ≥ 7 * 3; omega)]
        rw [e1]
        exact wpAny_pure (hRR _ _ 0 (Heap.SameBut.refl _ _) hR (by rw [if_neg h5']; rfl) rfl rfl rfl)
    refine wpAny_bind (room _ fun h2 t2 ep2 hs2 hg2 hm2 hf2 hp2 hl2 => ?_)
    refine wpAny_bind (wpAny_setState_of hg2 rfl (by unfold SetTable.fits; rw [hp2, hf2]; simp) ?_)
    dsimp only
    have store : ∀ (es' : Array (Int × Value)) (t' : SetTable) (R : Unit → Shared → Prop), es'.toList.Perm es.toList → t'.fits es'.size = true → (w.params.followText "set-order" = true ∨ t'.led = true) →
        (∀ h3, Heap.SameBut s.heap.objs.size (s.heap.push (set0 (setB w))) h3 → SetL (intKind P w) h3 s.heap.objs.size S n → R () { s with heap := h3 }) → wpAny (model P w) A (storeSet s.heap.objs.size es' t') R E { s with heap := h2 } := by
      intro es' t' R hperm hfit hled hR'
      have hsz : es'.size = es.size := by rw [← Array.length_toList, hperm.length_eq, Array.length_toList]
      have hst := SetL_store (knd := intKind P w) (S' := S) (es' := es') (t' := t') hg2 ⟨rfl, rfl, rfl⟩ rfl (h4.perm hperm) (fun k => (h5 k).trans ⟨fun ⟨e, he, q⟩ => ⟨e, hperm.mem_iff.mpr he, q⟩, fun ⟨e, he, q⟩ => ⟨e, hperm.mem_iff.mp he, q⟩⟩) (by rw [hsz]; exact h6) hfit hled ((hperm.pairwise_iff (fun h => Apart.symm _ h)).mpr h10)
      refine wpAny_storeSet_of hg2 rfl (hR' _ (hs2.trans (Heap.SameBut.update _ _ _)) ?_) (fits_of_scanBound (by rw [hsz]; exact h6))
      have := hst.2
      rw [hsz, h8] at this
      exact this
    have led2 : w.params.followText "set-order" = true ∨ (t2.led && t.led) = true := by
      rcases h9 with h | h
      · exact .inl h
      · rcases hledR with h' | h'
        · exact .inl h'
        · exact .inr (by rw [hl2, h', h]; rfl)
    unfold SetTable.road
    rw [hf2]
    simp only [bne_self_eq_false, Bool.false_eq_true, if_false]
    by_cases hroad : (t2.mask == t.mask && t.dummies.isEmpty) = true
    · rw [if_pos hroad]
      dsimp only
      refine store es _ _ (List.Perm.refl _) ?_ led2 fun h3 hs3 hS3 => wpAny_pure (fin h3 hs3 hS3)
      cases t; exact h7
    · rw [if_neg hroad]
      dsimp only
      rw [hmap, hm2]
      have hchk' : checkLay (if es.size ≥ 5 then 15 else 7) (es.toList.map (·.1)) = true := hchk
      obtain ⟨t', order, hlaid, hperm, hpl, hdm, hmk, hld⟩ := laid_of (f := t2.finger) (mv := t2.moves) (led := t2.led && t.led) (plain := t2.plain && t.plain) hchk'
      rw [hlaid]
      rw [List.length_map, Array.length_toList] at hperm hpl
      have hpe := reorder_perm hperm
      have hsz : (order.filterMap (es[·]?)).size = es.size := by rw [← Array.length_toList, hpe.length_eq, Array.length_toList]
      refine wpAny_bind (wpAny_of_eq (a := (order.filterMap (es[·]?), t')) (if_neg (by rw [hsz]; simp)) ?_)
      dsimp only
      refine store _ t' _ hpe ?_ (hld ▸ led2) fun h3 hs3 hS3 => wpAny_pure (fin h3 hs3 hS3)
      rw [hsz]
      unfold SetTable.fits SetTable.fill
      rw [hpl, hdm, hmk]
      simp
      split <;> omega
end
end Mine

-- LR
namespace Mine
def OSet (w : World) (o : Obj) (S : Int → Bool) (n : Nat) : Prop := o.ExactSet ∧ ∃ es ep t, o.data = .set es ep t ∧ ElemsOf (intKind P w) es.toList ∧ (∀ k, S k = true ↔ ∃ e ∈ es.toList, (intKind P w).is k e.2 = true) ∧ es.size < scanBound ∧ t.fits es.size = true ∧ es.size = n ∧ (w.params.followText "set-order" = true ∨ t.led = true) ∧ es.toList.Pairwise (Apart (intKind P w))
theorem OSet.setL {w : World} {h : Heap} {a : Addr} {o : Obj} {S : Int → Bool} {n : Nat} (x : OSet w o S n) (e : h.get? a = some o) : SetL (intKind P w) h a S n := let ⟨hx, es, ep, t, h3, r⟩ := x; ⟨o, es, ep, t, e, hx, h3, r⟩
theorem OSet.of {w : World} {h : Heap} {a : Addr} {S : Int → Bool} {n : Nat} (x : SetL (intKind P w) h a S n) : ∃ o, h.get? a = some o ∧ OSet w o S n := let ⟨o, es, ep, t, e, hx, h3, r⟩ := x; ⟨o, e, hx, es, ep, t, h3, r⟩
theorem set0_OSet (w : World) : OSet w (set0 (setB w)) (fun _ => false) 0 := by
  obtain ⟨o, e, h⟩ := OSet.of (set0_L (w := w) (knd := intKind P w) (h := (default : Heap).push (set0 (setB w))) (a := (default : Heap).objs.size) (Heap.get?_push_size _ rfl))
  rw [Heap.get?_push_size _ (by rfl)] at e
  cases e; exact h
theorem OSet.lt {w : World} {o : Obj} {S : Int → Bool} {n : Nat} (x : OSet w o S n) : n < scanBound := let ⟨_, _, _, _, _, _, _, h, _, e, _⟩ := x; e ▸ h
abbrev Cx.at (C : Cx) (n : Nat) : Cx := { C with n := n }
section
variable {α β γ δ : Type} {C : Cx} {k : Kn} {m : Lm} {mu : Mu}
theorem Cx.Ok.at (ok : C.Ok) (n : Nat) : (C.at n).Ok := ⟨ok.refl, ok.trans, ok.prog, ok.k0in, ok.tb, ok.kind, ok.bown, ok.ownT, ok.cL, ok.capart, ok.cellv⟩
theorem Cx.Ok.ofAt {n : Nat} (ok : (C.at n).Ok) : C.Ok := ⟨ok.refl, ok.trans, ok.prog, ok.k0in, ok.tb, ok.kind, ok.bown, ok.ownT, ok.cL, ok.capart, ok.cellv⟩
theorem Stt.toAt {h : Heap} (S : Stt C k m mu h) (n : Nat) : Stt (C.at n) k m mu h := ⟨S.ok.at n, S.loc, S.cel, S.fre, S.keep, S.kin, S.own, S.kown, S.muown, S.kmu, S.bmu, S.nd, S.ext, S.extb, S.tab, S.kT, S.muT⟩
theorem Stt.ofAt {h : Heap} {n : Nat} (S : Stt (C.at n) k m mu h) : Stt C k m mu h := ⟨S.ok.ofAt, S.loc, S.cel, S.fre, S.keep, S.kin, S.own, S.kown, S.muown, S.kmu, S.bmu, S.nd, S.ext, S.extb, S.tab, S.kT, S.muT⟩
theorem OkA.in2 {n : Nat} {A : Around} (x : OkA (n + 1) A) : OkA n A.in1.in1 := ⟨x.handled, by have := x.depth; show A.depth + 8 * n < _; omega, by have := x.units; show A.units + 1 + 1 + 64 * n + 64 < _; omega⟩
theorem OkA.in3 {n : Nat} {A : Around} (x : OkA (n + 1) A) : OkA n A.in1.in1.in1 := ⟨x.handled, by have := x.depth; show A.depth + 8 * n < _; omega, by have := x.units; show A.units + 1 + 1 + 1 + 64 * n + 64 < _; omega⟩

theorem code_set_new_L {w : World} {A : Around} {E : Value → Shared → Prop} {s : Shared} (a : Value) {Q₁ : Value → Shared → Prop}
    (h : Q₁ (.ref s.heap.objs.size) { s with heap := s.heap.push (set0 (setB w)) }) :
    codeAny (model P w) A (.call (.builtin "set.__new__") ⟨[.type "set", a], []⟩) (wants Q₁ E) s := by
  refine codeAny_of_tree ?_
  show wpAny _ A.in1 (do checkBuiltinCall "set.__new__" ⟨[.type "set", a], []⟩; again (.builtin "set.__new__" ⟨[.type "set", a], []⟩)) _ _ s
  refine wpAny_bind (wpAny_of_eq (PySem.F.newCall_set_1 a) (wpAny_pure ⟨plainId_quiet PySem.F.plain_set_new _, codeAny_builtin PySem.F.entry_set_new ?_⟩))
  rw [Around.under_plainId PySem.F.plain_set_new _]
  unfold Builtin.«set.__new__» Builtin.Frozenset.newClass
  have hsub := sub_set_self
  obtain ⟨hp, g, d, tk, os⟩ := s
  dsimp only
  wp_walk
  refine wpAny_askSetting (wpAny_pure ?_)
  dsimp only
  simp only [newObj]
  refine wpAny_bind (wpAny_alloc (wpAny_pure ?_))
  exact wpAny_pure h

/-- what is asked of the value that a set is made from -/
structure SetSrc (C : Cx) (k : Kn) (m : Lm) (mu : Mu) (x : Value) : Prop where
  any : ∀ h, Stt C k m mu h → Looks (model P C.w) h (Builtin.Frozenset.isAnySet x) false
  typ : ∀ h, Stt C k m mu h → ∃ tp, Looks (model P C.w) h (typeOf x) tp ∧ (tp == Value.type "dict") = false

set_option maxHeartbeats 3200000 in
theorem Mt_setOf {x : Value} {n : Nat} {Q : Value → Kn → Lm → Mu → Prop} (hn : C.n = n + 1) (hx : SetSrc C k m mu x)
    (h : ∀ S, TB < S → Mt (C.at n) k m ((S, set0 (setB C.w)) :: mu) (pyIter x) (fun it k m mu => MtC (C.at n) k m mu (.builtin "set.update.loop" ⟨[.ref S, it], []⟩) (fun f k m mu => f = .ret .none ∧ Q (.ref S) k m mu))) :
    Mt C k m mu (call (.type "set") [x]) Q := fun s A E hA S => by
  have hA2 : OkA n A.in1.in1 := OkA.in2 (hn ▸ hA)
  obtain ⟨c, tl, hmro⟩ := PySem.F.called_set.mro
  have hmade := PySem.F.called_set.made
  have hsub := PySem.F.called_set.sub
  refine wpAny_call (codeAny_of_tree ?_)
  show wpAny _ _ (callAny (.type "set") _) _ _ _
  refine wpAny_pure ⟨Code.quiet_builtin _ (by decide +kernel), codeAny_builtin PySem.F.entry_type_call ?_⟩
  rw [Around.under_plain (weight_type_call_type "set" [x] []) rfl]
  have h1 := PySem.F.called_set.notType
  have h2 := PySem.F.called_set.canCreate
  have hct := PySem.F.typeCall_set_1 x
  repeat (any_goals (first | assumption | wp_step))
  refine codeAny_mono (code_set_new_L x (E := E) (Q₁ := fun obj s₁ => obj = .ref s.heap.objs.size ∧ s₁ = { s with heap := s.heap.push (set0 (setB C.w)) }) ⟨rfl, rfl⟩) fun r s₁ hr => ?_
  cases r with
  | error e => exact hr
  | ok fl =>
    cases fl with
    | ret obj =>
      obtain ⟨rfl, rfl⟩ := hr
      have hS : (s.heap.push (set0 (setB C.w))).get? s.heap.objs.size = some (set0 (setB C.w)) := Heap.get?_push_size _ rfl
      have hT : Shared.TypeIs { s with heap := s.heap.push (set0 (setB C.w)) } (.ref s.heap.objs.size) "set" := ⟨_, hS, rfl⟩
      have hli := PySem.F.called_set.init.lookup
      have hbi := PySem.F.called_set.init.bind (.ref s.heap.objs.size)
      repeat (any_goals (first | assumption | wp_step))
      refine codeAny_mono (codeAny_call_builtin (R := wants (fun r s₂ => r = .none ∧ ∃ k' m' mu', After C.G s s₂ ∧ Stt C k' m' mu' s₂.heap ∧ Q (.ref s.heap.objs.size) k' m' mu') E) PySem.F.called_set.init.plain PySem.F.entry_set_init (check_set_init_1 hT ?_)) fun r₂ s₂ hr₂ => ?_
      · unfold Builtin.«set.__init__» noKeywords
        generalize hUF : Builtin.Frozenset.updateFrom = UF
        iterate 36 wp_step
        repeat (first | (with_reducible show wpAny _ _ (UF _ _ _) _ _ _; fail) | wp_step)
        subst hUF
        unfold Builtin.Frozenset.updateFrom
        have kp : ∀ b o, s.heap.get? b = some o → (s.heap.push (set0 (setB C.w))).get? b = some o := fun b o e => Heap.get?_push_of_some _ e
        refine wpAny_bind (((hx.any _ S).keeps kp) _ _ _ _ (fun _ _ e => e) ?_)
        obtain ⟨tp, ht, hd⟩ := hx.typ _ S
        simp only [Bool.false_eq_true, if_false]
        refine wpAny_bind ((ht.keeps kp) _ _ _ _ (fun _ _ e => e) ?_)
        rw [hd]
        simp only [Bool.false_eq_true, if_false]
        have S₁ := (S.toAt n).pushMu (o := set0 (setB C.w)) rfl
        refine wpAny_bind (wpAny_mono (h _ S.lt_size { s with heap := s.heap.push (set0 (setB C.w)) } A.in1.in1 _ hA2 S₁) (fun it s₂ ⟨k₂, m₂, mu₂, af₂, S₂, q₂⟩ => ?_) fun _ _ e => e)
        refine wpAny_bind (wpAny_runValue (codeAny_mono (q₂ s₂ _ hA2 S₂) fun r s₃ hr => ?_))
        cases r with
        | error e => exact hr.elim
        | ok f =>
          obtain ⟨k₃, m₃, mu₃, af₃, S₃, rfl, q₃⟩ := hr
          refine wpAny_pure (wpAny_pure ⟨rfl, k₃, m₃, mu₃, ?_, S₃.ofAt, q₃⟩)
          exact S.ok.after_trans ⟨_, s.toks, s.gens, ⟨_, rfl⟩, S.ok.refl _, fun ps e => (kp _ _ e)⟩ (S.ok.after_trans af₂ af₃)
      · cases r₂ with
        | error e => exact hr₂
        | ok fl₂ =>
          cases fl₂ with
          | ret r =>
            obtain ⟨rfl, hq⟩ := hr₂
            repeat (any_goals (first | assumption | wp_step))
          | _ => exact hr₂.elim
    | _ => exact hr.elim

theorem OkA.one {n : Nat} {A : Around} (x : OkA (n + 1) A) : OkA n A := x.le (Nat.le_succ n)
theorem Mt_at_of {α : Type} {t : Sem α} {n : Nat} {Q : α → Kn → Lm → Mu → Prop} (hn : n ≤ C.n) (h : Mt (C.at n) k m mu t Q) : Mt C k m mu t Q := fun s A E hA S =>
  wpAny_mono (h s A E (hA.le hn) (S.toAt n)) (fun a s' ⟨k', m', mu', af, S', q⟩ => ⟨k', m', mu', af, S'.ofAt, q⟩) fun _ _ e => e

theorem Mt_setAdd {l1 l2 : Mu} {S : Addr} {o : Obj} {Sf : Int → Bool} {c : Nat} {x : Int} {t : Tok} {Q : Bool → Kn → Lm → Mu → Prop} (hmu : mu = l1 ++ (S, o) :: l2) (hl : OSet C.w o Sf c) (hsz : c + 1 < scanBound)
    (h : ∀ b o', OSet C.w o' (fun y => Sf y || decide (y = x)) (if Sf x then c else c + 1) → Q b k m (l1 ++ (S, o') :: l2)) : Mt C k m mu (setAdd S (.int x t)) Q :=
  Mt_turn (Pr := fun b o' => OSet C.w o' (fun y => Sf y || decide (y = x)) (if Sf x then c else c + 1)) hmu (fun s A E R hA St hR => by
    unfold setAdd
    refine wpAny_holding ?_
    refine wpAny_bind ((intKind P C.w).pyHash (k := x) (intKind_is _ _ _ _) ?_)
    refine setAddHashedL (knd := intKind P C.w) (s := { s with toks := s.toks + 1 }) (intKind_is _ _ _ _) rfl (hl.setL (St.own _ (hmu ▸ mem_mid))) hsz fun h' hsb hS2 => ?_
    obtain ⟨o', ho', hl'⟩ := OSet.of hS2
    exact hR _ o' h' _ hl' (fun b ob hb e => (hsb.2 b hb).trans e) ho') fun b o' hp => h b o' hp

theorem MtC_setLoop {n : Nat} (hn : C.n = n + 1) {k0 : Kn} {it S : Addr} {I : Nat → Obj → Prop} {xs : List Int} (src : Src C.w k0 it I xs IsInt) :
    ∀ (j i : Nat) (k : Kn) (m : Lm) (mu : Mu) (oi oS : Obj) (Sf : Int → Bool) (c : Nat), xs.length - i = j → i ≤ xs.length → k0.Le k → I i oi → OSet C.w oS Sf c → c + j + 1 < scanBound →
      MtC C k m ((it, oi) :: (S, oS) :: mu) (.builtin "set.update.loop" ⟨[.ref S, .ref it], []⟩) (fun f k' m' mu' => f = .ret .none ∧ k' = k ∧ m' = m ∧ ∃ oS', mu' = (S, oS') :: mu ∧ ∃ c', OSet C.w oS' (fun x => Sf x || decide (x ∈ xs.drop i)) c' ∧ c' ≤ c + j) := by
  intro j
  induction j with
  | zero =>
    intro i k m mu oi oS Sf c hj hi hk hI hS hc s A hA St
    have hin : xs.length ≤ i := by omega
    refine codeAny_builtin PyProof.Rows.F.entry_set_update_loop ?_
    rw [Around.under_plainId PyProof.Rows.F.plain_set_update_loop _]
    show wpAny _ A.in1 (pyNext (.ref it) >>= _) _ _ s
    refine wpAny_bind (wpAny_mono (src.done (C.at n) k m [] ((S, oS) :: mu) oi i (fun r k' m' mu' => r = none ∧ k' = k ∧ m' = m ∧ mu' = (S, oS) :: mu) rfl hk hI hin ⟨rfl, rfl, rfl, rfl⟩ s A.in1 _ ((hn ▸ hA : OkA (n + 1) A).in1) (St.toAt n)) (fun r s' ⟨k', m', mu', af, S', e1, e2, e3, e4⟩ => ?_) fun _ _ e => e)
    subst e1 e2 e3 e4
    refine wpAny_pure ⟨_, _, _, af, S'.ofAt, rfl, rfl, rfl, oS, rfl, c, ?_, Nat.le_refl _⟩
    rw [show xs.drop i = [] from List.drop_eq_nil_of_le hin]
    simpa using hS
  | succ j ih =>
    intro i k m mu oi oS Sf c hj hi hk hI hS hc s A hA St
    have hlt : i < xs.length := by omega
    have hx : xs[i]? = some xs[i] := by simp [hlt]
    refine codeAny_builtin PyProof.Rows.F.entry_set_update_loop ?_
    rw [Around.under_plainId PyProof.Rows.F.plain_set_update_loop _]
    show wpAny _ A.in1 (pyNext (.ref it) >>= _) _ _ s
    refine wpAny_bind (wpAny_mono (src.next (C.at n) k m [] ((S, oS) :: mu) oi i _ (fun r k' m' mu' => ∃ t oi', r = some (.int xs[i] t) ∧ I (i + 1) oi' ∧ k' = k ∧ m' = m ∧ mu' = (it, oi') :: (S, oS) :: mu) rfl hk hI hx (fun v oi' hi' ⟨t, e⟩ => ⟨t, oi', by rw [e], hi', rfl, rfl, rfl⟩) s A.in1 _ ((hn ▸ hA : OkA (n + 1) A).in1) (St.toAt n)) (fun r s' ⟨k', m', mu', af, S', t, oi', e1, hi', e2, e3, e4⟩ => ?_) fun _ _ e => e)
    subst e1 e2 e3 e4
    show wpAny _ A.in1 (holding [Value.int xs[i] t] (setAdd S (.int xs[i] t)) >>= _) _ _ s'
    refine wpAny_bind (wpAny_holding (wpAny_mono (Mt_setAdd (C := C.at n) (l1 := [(it, oi')]) (l2 := mu) (Q := fun b k'' m'' mu'' => k'' = k' ∧ m'' = m' ∧ ∃ o', mu'' = (it, oi') :: (S, o') :: mu ∧ OSet C.w o' (fun y => Sf y || decide (y = xs[i])) (if Sf xs[i] then c else c + 1)) rfl hS (by omega) (fun b o' ho' => ⟨rfl, rfl, o', rfl, ho'⟩) s' A.in1 _ ((hn ▸ hA : OkA (n + 1) A).in1) S') (fun b s₂ ⟨k₂, m₂, mu₂, af₂, S₂, e1, e2, o', e3, ho'⟩ => ?_) fun _ _ e => e))
    subst e1 e2 e3
    have hc' : (if Sf xs[i] then c else c + 1) ≤ c + 1 := by split <;> omega
    refine wpAny_pure ⟨plainId_quiet PyProof.Rows.F.plain_set_update_loop _, codeAny_mono (ih (i + 1) _ _ _ oi' o' _ _ (by omega) hlt hk hi' ho' (by omega) s₂ A hA S₂.ofAt) fun r s₃ hr => ?_⟩
    cases r with
    | error e => exact hr.elim
    | ok f =>
      obtain ⟨k₃, m₃, mu₃, af₃, S₃, rfl, rfl, rfl, oS', rfl, c', hS', hle⟩ := hr
      refine ⟨_, _, _, St.ok.after_trans af (St.ok.after_trans af₂ af₃), S₃, rfl, rfl, rfl, oS', rfl, c', ?_, by omega⟩
      have e : (fun y => (Sf y || decide (y = xs[i])) || decide (y ∈ xs.drop (i + 1))) = fun y => Sf y || decide (y ∈ xs.drop i) := by
        funext y
        have e0 : decide (y ∈ xs.drop i) = (decide (y = xs[i]) || decide (y ∈ xs.drop (i + 1))) := by
          rw [List.drop_eq_getElem_cons hlt]; simp only [List.mem_cons, Bool.decide_or]
        rw [e0, Bool.or_assoc]
      rw [← e]; exact hS'
theorem OSet.empty {w : World} {o : Obj} {S : Int → Bool} {n : Nat} (x : OSet w o S n) : n = 0 ↔ ∀ y, S y = false := by
  obtain ⟨hex, es, ep, t, hd, hel, hmem, hb, hf, rfl, _⟩ := x
  constructor
  · intro h y
    cases e : S y with
    | false => rfl
    | true =>
      obtain ⟨e, he, _⟩ := (hmem y).mp e
      have : es.toList = [] := by simpa using h
      rw [this] at he; cases he
  · intro h
    cases e : es.toList with
    | nil => simpa using e
    | cons a r =>
      obtain ⟨⟨y, hy, _⟩, _⟩ := hel a (by rw [e]; exact .head _)
      have := (hmem y).mpr ⟨a, by rw [e]; exact .head _, hy⟩
      rw [h y] at this; cases this

/-! what sets are made from -/
theorem SetSrc.plain {a : Addr} {o : Obj} {T : String} (ha : At k mu a o) (hc : o.cls = .type T) (h1 : isSubtype (.type T) (.type "set") = pure false) (h2 : isSubtype (.type T) (.type "frozenset") = pure false) (h3 : (Value.type T == Value.type "dict") = false) : SetSrc C k m mu (.ref a) where
  any := fun h S A Q E s kp q => by
    have hT : s.TypeIs (.ref a) T := ⟨o, kp _ _ (S.at ha), hc⟩
    unfold Builtin.Frozenset.isAnySet
    refine wpAny_bind (wpAny_isInstance hT h1 ?_)
    exact wpAny_isInstance hT h2 q
  typ := fun h S => ⟨.type T, fun A Q E s kp q => wpAny_typeOf ⟨o, kp _ _ (S.at ha), hc⟩ q, h3⟩
theorem SetSrc.graph {g : Addr} {l : List (Str × Value)} (G : IsG k mu g l) : SetSrc C k m mu (.ref g) where
  any := fun h S A Q E s kp q => by
    obtain ⟨dx, od, h1, h2, h3⟩ := G
    have I := S.inst h1 h2
    have L1 := (looks_subIn (M := model P C.w) S.progs.K (t := .ref DG) (base := .type "set") (r := false) (by kernel_rfl)).keeps kp
    have L2 := (looks_subIn (M := model P C.w) S.progs.K (t := .ref DG) (base := .type "frozenset") (r := false) (by kernel_rfl)).keeps kp
    have L0 := (I.type (M := model P C.w)).keeps kp
    unfold Builtin.Frozenset.isAnySet isInstance
    refine wpAny_bind (wpAny_bind (L0 _ _ _ _ (fun _ _ e => e) (L1 _ _ _ _ (fun _ _ e => e) ?_)))
    exact wpAny_bind (L0 _ _ _ _ (fun _ _ e => e) (L2 _ _ _ _ (fun _ _ e => e) q))
  typ := fun h S => by
    obtain ⟨dx, od, h1, h2, h3⟩ := G
    exact ⟨.ref DG, (S.inst h1 h2).type, rfl⟩

/-- a set of the ints of a source -/
theorem Mt_setFrom {x : Value} {n : Nat} {xs : List Int} {Q : Value → Kn → Lm → Mu → Prop} (hn : C.n = n + 2) (hx : SetSrc C k m mu x) (hb : xs.length + 1 < scanBound)
    (hi : ∀ (C' : Cx) (mu' : Mu) (Q' : Value → Kn → Lm → Mu → Prop), C' = C.at (n + 1) → (∃ p, mu' = p :: mu) → (∀ it oi (I : Nat → Obj → Prop), Src C.w k it I xs IsInt → I 0 oi → Q' (.ref it) k m ((it, oi) :: mu')) → Mt C' k m mu' (pyIter x) Q')
    (h : ∀ S o c, TB < S → OSet C.w o (fun y => decide (y ∈ xs)) c → c ≤ xs.length → Q (.ref S) k m ((S, o) :: mu)) : Mt C k m mu (call (.type "set") [x]) Q := by
  refine Mt_setOf hn hx fun S hT => hi _ _ _ rfl ⟨_, rfl⟩ fun it oi I src h0 => ?_
  have := MtC_setLoop (C := C.at (n + 1)) (n := n) (S := S) rfl src xs.length 0 k m mu oi (set0 (setB C.w)) (fun _ => false) 0 rfl (Nat.zero_le _) (Kn.Le.refl _) h0 (set0_OSet _) (by omega)
  intro s A hA St
  refine codeAny_mono (this s A hA St) fun r s' hr => ?_
  cases r with
  | error e => exact hr.elim
  | ok f =>
    obtain ⟨k', m', mu', af, S', rfl, rfl, rfl, oS', rfl, c, hS', hc⟩ := hr
    exact ⟨_, _, _, af, S', rfl, h S oS' c hT (by simpa using hS') (by omega)⟩
theorem Mt_set_list {l : Addr} {o : Obj} {vs : List Value} {n : Nat} {xs : List Int} {Q : Value → Kn → Lm → Mu → Prop} (hn : C.n = n + 2) (hk : k l = some o) (hl : OList o vs) (ha : IsInts xs vs) (hb : xs.length + 1 < scanBound)
    (h : ∀ S o c, TB < S → OSet C.w o (fun y => decide (y ∈ xs)) c → c ≤ xs.length → Q (.ref S) k m ((S, o) :: mu)) : Mt C k m mu (call (.type "set") [.ref l]) Q :=
  Mt_setFrom hn (.plain (.inl hk) hl.1 PySem.F.sub_list_set PySem.F.sub_list_frozenset (by decide)) hb (fun C' mu' Q' e _ hq => by subst e; exact Mt_pyIter_list (.inl hk) hl fun it oi hT hi => hq it oi _ (Src.list C.w hl hk ha) hi) h
theorem Mt_set_tup {l : Addr} {o : Obj} {vs : List Value} {n : Nat} {xs : List Int} {Q : Value → Kn → Lm → Mu → Prop} (hn : C.n = n + 2) (hk : k l = some o) (hl : OTup o vs) (ha : IsInts xs vs) (hb : xs.length + 1 < scanBound)
    (h : ∀ S o c, TB < S → OSet C.w o (fun y => decide (y ∈ xs)) c → c ≤ xs.length → Q (.ref S) k m ((S, o) :: mu)) : Mt C k m mu (call (.type "set") [.ref l]) Q :=
  Mt_setFrom hn (.plain (.inl hk) hl.1 PySem.F.sub_tuple_set PySem.F.sub_tuple_frozenset (by decide)) hb (fun C' mu' Q' e _ hq => by subst e; exact Mt_pyIter_tup (.inl hk) hl fun it oi hT hi => hq it oi _ (Src.tup C.w hl hk ha) hi) h
theorem Mt_set_graph {g gd nd ad pd : Addr} {n : Nat} {xs : List Int} {Q : Value → Kn → Lm → Mu → Prop} (gk : GOk C.G) (hn : C.n = n + 2) (hg : IsG k [] g (gNames gd nd ad pd)) (hx : KeysAt C.w k nd xs) (hb : xs.length + 1 < scanBound)
    (h : ∀ S o c, TB < S → OSet C.w o (fun y => decide (y ∈ xs)) c → c ≤ xs.length → Q (.ref S) k m ((S, o) :: mu)) : Mt C k m mu (call (.type "set") [.ref g]) Q :=
  Mt_setFrom hn (.graph (hg.le (Kn.Le.refl _))) hb (fun C' mu' Q' e _ hq => by subst e; exact Mt_overG (n := n) gk hg hx rfl hq) h
end
end Mine

-- LRb
namespace Mine
theorem entry_set_and' : entryFor table "set.__and__" = some Builtin.«frozenset.__and__» := entryFor_alias (id' := "frozenset.__and__") (by kernel_rfl) rfl (by decide +kernel) (by kernel_rfl)
theorem entry_set_sub' : entryFor table "set.__sub__" = some Builtin.«frozenset.__sub__» := entryFor_alias (id' := "frozenset.__sub__") (by kernel_rfl) rfl (by decide +kernel) (by kernel_rfl)
theorem fills_set_and : fillsNumberSlot (.type "set") "and" = pure true := by
  show (do let f ← typeLookup (.type "set") (dunder "and"); _) = _
  rw [PySem.F.slot_set_and.lookup]; rfl
theorem fills_set_sub : fillsNumberSlot (.type "set") "sub" = pure true := by
  show (do let f ← typeLookup (.type "set") (dunder "sub"); _) = _
  rw [PySem.F.slot_set_sub.lookup]; rfl
section
variable {α β γ δ : Type} {C : Cx} {k : Kn} {m : Lm} {mu : Mu}
theorem Mt_newD {t : Sem Value} {Pr : Obj → Prop} {Q : Value → Kn → Lm → Mu → Prop}
    (h : ∀ (s : Shared) (A : Around) (E : Value → Shared → Prop) (R : Value → Shared → Prop), OkA C.n A → Stt C k m mu s.heap →
      (∀ o h' tk d, Pr o → (∀ b ob, s.heap.get? b = some ob → h'.get? b = some ob) → h'.get? s.heap.objs.size = some o → R (.ref s.heap.objs.size) { s with heap := h', toks := tk, drawn := d }) → wpAny (model P C.w) A t R E s)
    (hq : ∀ D o, TB < D → Pr o → Q (.ref D) k m ((D, o) :: mu)) : Mt C k m mu t Q := fun s A E hA S => by
  refine h s A E _ hA S fun o h' tk d hp hk ho => ?_
  have hD := fresh_size s.heap
  exact ⟨_, m, _, ⟨h', tk, s.gens, ⟨_, rfl⟩, S.ok.refl _, fun ps e => (hk _ _ e)⟩, (S.known hk hD ho).thaw S.fresh_none.2.1 S.fresh_none.1, hq _ o S.lt_size hp⟩

theorem Mt_and_set {a b : Addr} {oa ob : Obj} {Sa Sb : Int → Bool} {na nb : Nat} {Q : Value → Kn → Lm → Mu → Prop} (ha : At k mu a oa) (hb : At k mu b ob) (hSa : OSet C.w oa Sa na) (hSb : OSet C.w ob Sb nb) (hna : na ≤ 2000) (hnb : nb ≤ 2000) (hsm : ∀ x, Sa x = true → x ∈ six)
    (h : ∀ D o n, TB < D → OSet C.w o (fun x => Sa x && Sb x) n → Q (.ref D) k m ((D, o) :: mu)) : Mt C k m mu (binaryOp .BitAnd (.ref a) (.ref b)) Q :=
  Mt_newD (Pr := fun o => ∃ n, OSet C.w o (fun x => Sa x && Sb x) n) (fun s A E R hA S hR => by
    have la := hSa.setL (S.at ha)
    have lb := hSb.setL (S.at hb)
    refine wpAny_binaryOp_same (op := .BitAnd) la.typeIs lb.typeIs fills_set_and PySem.F.slot_set_and (wpAny_call_entry PySem.F.slot_set_and la.typeIs entry_set_and' ?_ (PySem.F.args_set_and_2 _ _))
    show wpAny _ _ (do
      let (self, other) ← Builtin.Frozenset.slot1 "__and__" ⟨[.ref a, .ref b], []⟩
      if !(← Builtin.Frozenset.isAnySet self <&&> Builtin.Frozenset.isAnySet other) then rule "frozenset.__and__.declined"; return ← ret .notImplemented
      ret (← Builtin.Frozenset.intersection "frozenset.__and__" (← Builtin.Frozenset.addrOf self) other)) _ _ s
    refine wpAny_bind (wpAny_of_eq (a := (Value.ref a, Value.ref b)) (by first | rfl | kernel_rfl) ?_)
    dsimp only
    refine wpAny_bind (m := (Builtin.Frozenset.isAnySet (.ref a) <&&> Builtin.Frozenset.isAnySet (.ref b))) (wpAny_bind (anySetL la.typeIs (anySetL lb.typeIs ?_)))
    simp only [Bool.not_true, Bool.false_eq_true, if_false]
    refine wpAny_bind (wpAny_pure (wpAny_bind ?_))
    have fin : ∀ h' d n, (∀ x o, s.heap.get? x = some o → h'.get? x = some o) → SetL (intKind P C.w) h' s.heap.objs.size (fun x => Sa x && Sb x) n →
        wpAny (model P C.w) A.in1 (ret (.ref s.heap.objs.size)) (fun fin s' => ∃ r, fin = .done (.ret r) ∧ r ≠ .notImplemented ∧ R r s') E { s with heap := h', drawn := d } := by
      intro h' d n kp hS
      obtain ⟨o', ho', hl'⟩ := OSet.of hS
      exact wpAny_pure ⟨_, rfl, by simp, hR o' h' s.toks d ⟨n, hl'⟩ kp ho'⟩
    by_cases hab : a = b
    · subst hab
      have hoo : oa = ob := by have h1 := S.at ha; rw [S.at hb] at h1; exact (Option.some.inj h1).symm
      subst hoo
      have e : Sa = Sb := funext fun x => by
        obtain ⟨_, es, ep, t, hd, _, hm, _⟩ := hSa
        obtain ⟨_, es', ep', t', hd', _, hm', _⟩ := hSb
        rw [hd] at hd'; cases hd'
        rw [Bool.eq_iff_iff, hm x, hm' x]
      subst e
      unfold Builtin.Frozenset.intersection
      rw [if_pos (by simp)]
      exact copyL la hsm fun h' kp hS => fin h' s.drawn na kp (hS.congr fun x => by simp)
    · exact interL la lb hab (by unfold scanBound; omega) (by unfold scanBound; omega) fun h' d n kp hS => fin h' d n kp hS) fun D o hT ⟨n, ho⟩ => h D o n hT ho
theorem Mt_sub_set {a b : Addr} {oa ob : Obj} {Sa Sb : Int → Bool} {na nb : Nat} {Q : Value → Kn → Lm → Mu → Prop} (ha : At k mu a oa) (hb : At k mu b ob) (hSa : OSet C.w oa Sa na) (hSb : OSet C.w ob Sb nb) (hna : na < 4)
    (h : ∀ D o n, TB < D → OSet C.w o (fun x => Sa x && !Sb x) n → Q (.ref D) k m ((D, o) :: mu)) : Mt C k m mu (binaryOp .Sub (.ref a) (.ref b)) Q :=
  Mt_newD (Pr := fun o => ∃ n, OSet C.w o (fun x => Sa x && !Sb x) n) (fun s A E R hA S hR => by
    have la := hSa.setL (S.at ha)
    have lb := hSb.setL (S.at hb)
    refine wpAny_binaryOp_same (op := .Sub) la.typeIs lb.typeIs fills_set_sub PySem.F.slot_set_sub (wpAny_call_entry PySem.F.slot_set_sub la.typeIs entry_set_sub' ?_ (PySem.F.args_set_sub_2 _ _))
    show wpAny _ _ (do
      let (self, other) ← Builtin.Frozenset.slot1 "__sub__" ⟨[.ref a, .ref b], []⟩
      if !(← Builtin.Frozenset.isAnySet self <&&> Builtin.Frozenset.isAnySet other) then rule "frozenset.__sub__.declined"; return ← ret .notImplemented
      ret (← Builtin.Frozenset.difference "frozenset.__sub__" (← Builtin.Frozenset.addrOf self) other)) _ _ s
    refine wpAny_bind (wpAny_of_eq (a := (Value.ref a, Value.ref b)) (by first | rfl | kernel_rfl) ?_)
    dsimp only
    refine wpAny_bind (m := (Builtin.Frozenset.isAnySet (.ref a) <&&> Builtin.Frozenset.isAnySet (.ref b))) (wpAny_bind (anySetL la.typeIs (anySetL lb.typeIs ?_)))
    simp only [Bool.not_true, Bool.false_eq_true, if_false]
    refine wpAny_bind (wpAny_pure (wpAny_bind ?_))
    refine diffL la lb hna fun h' d n kp hS => ?_
    obtain ⟨o', ho', hl'⟩ := OSet.of hS
    exact wpAny_pure ⟨_, rfl, by simp, hR o' h' s.toks d ⟨n, hl'⟩ kp ho'⟩) fun D o hT ⟨n, ho⟩ => h D o n hT ho

/-- is there something in the set -/
theorem Mt_truthy_set {a : Addr} {oa : Obj} {Sa : Int → Bool} {n : Nat} {Q : Bool → Kn → Lm → Mu → Prop} (ha : At k mu a oa) (hSa : OSet C.w oa Sa n) (h : Q (decide (n ≠ 0)) k m mu) : Mt C k m mu (truthy (.ref a)) Q :=
  Mt_of (a := decide (n ≠ 0)) (fun s A E R hA S hR => by
    have la := hSa.setL (S.at ha)
    have hT := la.typeIs
    have hb : n < scanBound := hSa.lt
    obtain ⟨o, es, ep, t, h1, h2, h3, h4, h5, h6, h7, h8, h9⟩ := la
    have key : wpAny (model P C.w) A (runValue (.builtin "len" ⟨[.ref a], []⟩)) (fun r s' => r = .int es.size (s.toks + 1) ∧ R (decide (n ≠ 0)) s') E s := by
      refine wpAny_runValue (codeAny_builtin entry_len ?_)
      rw [Around.under_plainId plain_len _]
      exact wpAny_mono (wpAny_len_body_set (Q := fun r s' => r = .int es.size (s.toks + 1) ∧ R (decide (n ≠ 0)) s') h1 h2 h3 h7 (by rw [h8]; unfold scanBound at hb; omega) ⟨rfl, hR _⟩)
        (fun fin s' h' => by obtain ⟨r, rfl, hq⟩ := h'; exact hq) fun _ _ e => e
    have hne : (((es.size : Nat) : Int) != 0) = decide (n ≠ 0) := by
      rw [h8]
      by_cases q : n = 0
      · subst q; rfl
      · simp [q]
    unfold truthy
    first
      | refine wpAny_bind (wpAny_callSpecial?_none (name := Str.ofString "__bool__") hT (by rw [typeLookup_type, builtinLookup_eq_fast]; kernel_rfl) ?_)
      | refine wpAny_bind (wpAny_pure (wpAny_bind (wpAny_callSpecial?_none (name := Str.ofString "__bool__") hT (by rw [typeLookup_type, builtinLookup_eq_fast]; kernel_rfl) ?_)))
    first
      | refine wpAny_bind (wpAny_specialOf (name := Str.ofString "__len__") hT PySem.F.slot_set_len.lookup ?_)
      | refine wpAny_bind (wpAny_pure (wpAny_bind (wpAny_specialOf (name := Str.ofString "__len__") hT PySem.F.slot_set_len.lookup ?_)))
    first
      | exact wpAny_bind (wpAny_mono key (fun r s' h' => by obtain ⟨rfl, hq⟩ := h'; exact wpAny_pure (hne ▸ hq)) fun _ _ e => e)
      | exact wpAny_bind (wpAny_pure (wpAny_bind (wpAny_mono key (fun r s' h' => by obtain ⟨rfl, hq⟩ := h'; exact wpAny_pure (hne ▸ hq)) fun _ _ e => e)))) h
theorem Mt_in_set {a : Addr} {oa : Obj} {Sa : Int → Bool} {n : Nat} {x : Int} {t : Tok} {Q : Value → Kn → Lm → Mu → Prop} (ha : At k mu a oa) (hSa : OSet C.w oa Sa n) (h : Q (.bool (Sa x)) k m mu) : Mt C k m mu (compareOp .In (.int x t) (.ref a)) Q :=
  Mt_of (fun s A E R hA S hR => wpAny_inSet_of (knd := intKind P C.w) (k := x) (intKind_is _ _ _ _) rfl (hSa.setL (S.at ha)).setOf (hR _)) h
theorem Mt_getAdd {a : Addr} {oa : Obj} {Sa : Int → Bool} {n : Nat} {pl : Sem Bool} {Q : Value × List Value → Kn → Lm → Mu → Prop} (ha : At k mu a oa) (hSa : OSet C.w oa Sa n) (h : Q (.builtin "set.add", [.ref a]) k m mu) : Mt C k m mu (getMethod (.ref a) "add" pl) Q :=
  Mt_of (fun s A E R hA S hR => getMethod_set_add (knd := intKind P C.w) (hSa.setL (S.at ha)).setOf (hR s.toks)) h
theorem Mt_add_set {l1 l2 : Mu} {a : Addr} {oa : Obj} {Sa : Int → Bool} {n : Nat} {x : Int} {t : Tok} {Q : Value → Kn → Lm → Mu → Prop} (hmu : mu = l1 ++ (a, oa) :: l2) (hSa : OSet C.w oa Sa n) (hn : n ≤ 1000)
    (h : ∀ o', OSet C.w o' (fun y => Sa y || decide (y = x)) (if Sa x = true then n else n + 1) → Q .none k m (l1 ++ (a, o') :: l2)) : Mt C k m mu (call (.builtin "set.add") [.ref a, .int x t]) Q :=
  Mt_turn (Pr := fun v o' => v = .none ∧ OSet C.w o' (fun y => Sa y || decide (y = x)) (if Sa x = true then n else n + 1)) hmu (fun s A E R hA S hR => by
    have la := hSa.setL (S.own _ (hmu ▸ mem_mid : (a, oa) ∈ mu))
    refine wpAny_call_entry PySem.F.slot_set_add la.typeIs PySem.F.entry_set_add ?_ (PySem.F.args_set_add_2 _ _)
    unfold Builtin.«set.add» Builtin.Frozenset.oneOther
    simp only [List.isEmpty_nil, bind_assoc]
    unfold Builtin.Frozenset.addrOf setAdd
    refine wpAny_bind (wpAny_pure ?_)
    try dsimp only
    refine wpAny_bind (wpAny_pure ?_)
    try dsimp only
    refine wpAny_bind ?_
    refine wpAny_holding ?_
    refine wpAny_bind ((intKind P C.w).pyHash (k := x) (intKind_is _ _ _ _) ?_)
    refine setAddHashedL (knd := intKind P C.w) (s := { s with toks := s.toks + 1 }) (intKind_is _ _ _ _) rfl la (by unfold scanBound; omega) fun h' hsb hS2 => ?_
    obtain ⟨o', ho', hl'⟩ := OSet.of hS2
    exact wpAny_pure ⟨_, rfl, hR .none o' h' _ ⟨rfl, hl'⟩ (fun b ob hb e => (hsb.2 b hb).trans e) ho'⟩) fun v o' ⟨e, hp⟩ => e ▸ h o' hp
end
end Mine

-- LS
namespace Mine
section
variable {α β γ δ : Type} {C : Cx} {k : Kn} {m : Lm} {mu : Mu}
def OSlice (o : Obj) (l u s : Value) : Prop := o.cls = .type "slice" ∧ o.data = .fields #[l, u, s]
theorem Mt_Slice {lower upper : Option PySem.Expr} {p : Pos} {Q : Value → Kn → Lm → Mu → Prop}
    (h : Mt C k m mu (evalPart lower C.env) (fun l k m mu => Mt C k m mu (evalPart upper C.env) (fun u k m mu => ∀ D o, k D = none → TB < D → OSlice o l u .none → Q (.ref D) (k.put D o) m mu))) : Mt C k m mu (eval (.Slice lower upper none p) C.env) Q := by
  rw [arm_eval_Slice]
  refine Mt_bind (Mt_mono h fun l k m mu h => Mt_bind (Mt_holding (Mt_mono h fun u k m mu h => Mt_bind (Mt_holding (Mt_pure ?_)))))
  exact Mt_new (Pr := fun o => OSlice o l u .none) (fun s A E R hA S hR => wpAny_newObj_type (hR _ _ s.toks ⟨rfl, rfl⟩ (fun b ob e => Heap.get?_push_of_some _ e) (Heap.get?_push_size _ rfl))) h
theorem Mt_getItem_slice {l sl : Addr} {o os : Obj} {vs : List Value} {vl vu : Value} {lo hi : Option Int} {Q : Value → Kn → Lm → Mu → Prop} (ha : At k mu l o) (hl : OList o vs) (hs : At k mu sl os) (hos : OSlice os vl vu .none) (pl : IsPart vl lo) (pu : IsPart vu hi) (hsz : vs.length ≤ 2 ^ 20)
    (h : ∀ D o, k D = none → TB < D → OList o (slicePick vs.toArray lo hi none).toList → Q (.ref D) (k.put D o) m mu) : Mt C k m mu (getItem (.ref l) (.ref sl)) Q :=
  Mt_new (Pr := fun o => OList o (slicePick vs.toArray lo hi none).toList) (fun s A E R hA S hR =>
    wpAny_getItem_list_slice (hl.isList (S.at ha)) ⟨os, S.at hs, hos.1, hos.2⟩ pl pu .none (by simp) (hR _ _ s.toks (OList.of _ _) (fun b ob e => Heap.get?_push_of_some _ e) (Heap.get?_push_size _ rfl)) (by rw [sizeLine_eq]; simp; omega)) h
/-- xs[a:] of a known list -/
theorem Mt_sub_from {value : PySem.Expr} {e : PySem.Expr} {p pos : Pos} {Q : Value → Kn → Lm → Mu → Prop}
    (h : Mt C k m mu (eval value C.env) (fun o k m mu => Mt C k m mu (eval e C.env) (fun i k m mu => ∃ l ol vs a t, o = .ref l ∧ i = .int (a : Nat) t ∧ k l = some ol ∧ OList ol vs ∧ vs.length ≤ 2 ^ 20 ∧ ∀ D oD k', k' D = some oD → k.Le k' → TB < D → OList oD (vs.drop a) → Q (.ref D) k' m mu))) :
    Mt C k m mu (eval (.Subscript value (.Slice (some e) none none p) pos) C.env) Q := by
  refine Mt_Subscript (Mt_mono h fun o k m mu h => Mt_Slice (Mt_mono h fun i k m mu h => ?_))
  obtain ⟨l, ol, vs, a, t, rfl, rfl, hk, hl, hsz, h⟩ := h
  rw [evalPart_none]
  refine Mt_pure fun D o kD hT hD => ?_
  have le := Kn.le_put (o := o) kD
  refine Mt_subTail (ops := [.ref D, .ref l]) (.inl (le _ _ hk)) hl.1 slot_list_getitem.lookup (Mt_getItem_slice (.inl (le _ _ hk)) hl (.inl (Kn.put_self _ _ _)) hD (.int _ _) .none hsz fun D' o' kD' hT' hD' => ?_) rfl
  refine h D' o' _ (Kn.put_self _ _ _) (le.trans (Kn.le_put kD')) hT' ?_
  rw [slicePick_from'] at hD'; simpa using hD'
/-- xs[:b] of a known list -/
theorem Mt_sub_upto {value : PySem.Expr} {e : PySem.Expr} {p pos : Pos} {Q : Value → Kn → Lm → Mu → Prop}
    (h : Mt C k m mu (eval value C.env) (fun o k m mu => Mt C k m mu (eval e C.env) (fun i k m mu => ∃ l ol vs a t, o = .ref l ∧ i = .int (a : Nat) t ∧ k l = some ol ∧ OList ol vs ∧ vs.length ≤ 2 ^ 20 ∧ ∀ D oD k', k' D = some oD → k.Le k' → TB < D → OList oD (vs.take a) → Q (.ref D) k' m mu))) :
    Mt C k m mu (eval (.Subscript value (.Slice none (some e) none p) pos) C.env) Q := by
  refine Mt_Subscript (Mt_mono h fun o k m mu h => Mt_Slice ?_)
  rw [evalPart_none]
  refine Mt_pure (Mt_mono h fun i k m mu h => ?_)
  obtain ⟨l, ol, vs, a, t, rfl, rfl, hk, hl, hsz, h⟩ := h
  intro D o kD hT hD
  have le := Kn.le_put (o := o) kD
  refine Mt_subTail (ops := [.ref D, .ref l]) (.inl (le _ _ hk)) hl.1 slot_list_getitem.lookup (Mt_getItem_slice (.inl (le _ _ hk)) hl (.inl (Kn.put_self _ _ _)) hD .none (.int _ _) hsz fun D' o' kD' hT' hD' => ?_) rfl
  refine h D' o' _ (Kn.put_self _ _ _) (le.trans (Kn.le_put kD')) hT' ?_
  rw [slicePick_upto'] at hD'; simpa using hD'
end

theorem ancestors_mv {w : World} {n : Nat} {G : Gr} {k : Kn} (gk : GOk G) {g gd nd ad pd : Addr} {nodes : List Int} {nb pb : Int → List Int} (K : GK w k g gd nd ad pd nodes nb pb) {x : Int} {t : Tok} (hx : x ∈ nodes) :
    Mv w (n + 4) G k [] (call (.ref 82) [.ref g, .int x t]) (fun v k' mu' => ∃ S oS Sf c, v = .ref S ∧ mu' = [(S, oS)] ∧ OSet w oS Sf c ∧ c ≤ nodes.length ∧ TB < S ∧ ∀ y, y = x ∨ Sf y = true ↔ Reach pb x y) := by
  refine Mv_fn gk (fn_anc w) ?_
  rw [bind_anc]
  refine Ev_pure gk ⟨by kernel_rfl, fun base L => ?_⟩
  refine Mt_cons (Mt_Return (Mt_Call (Mt_nameB (v := .type "set") (by kernel_rfl) (by kernel_rfl) (by decide) ⟨keeps_type _, ?_⟩)))
  refine Mt_spliced_cons (Mt_sub_from (Mt_Call (Mt_nameG (v := .ref 75) (by kernel_rfl) ⟨keeps_text (by kernel_rfl), ?_⟩)))
  refine Mt_spliced_cons (Mt_Attribute (Mt_nameL rfl (Mt_getAttr (K.is.le (Kn.Le.refl _)) rfl rfl (by kernel_rfl) (Mt_spliced_cons (Mt_List (Mt_spliced_cons (Mt_nameL rfl (Mt_spliced_nil (Mt_newList fun D o kD hT hD => Mt_spliced_nil ?_)))))))))
  have le4 := Kn.le_put (o := o) kD
  refine Mt_ev (Ev_le (Ev_mono (reached_ev (n := 0) gk (K.pred.le le4) K.clP hx K.few (Kn.put_self _ _ _) hD) ?_) (by show 1 ≤ n + 3; omega))
  rintro v k5 - ⟨D5, o5, vs, qs, rfl, h5, hl5, hi5, hnd5, hh5, hq5⟩ le5
  have hqn : ∀ y ∈ qs, y ∈ nodes := fun y hy => by
    have := (hq5 y).mp hy
    induction this with
    | refl => exact hx
    | @step y z h1 h2 ih => exact K.clP y (ih ((hq5 y).mpr h1)) z h2
  have hql : qs.length ≤ nodes.length := nodup_len_le hnd5 hqn
  have hfew := K.few
  refine Mt_int fun t1 => ⟨D5, o5, vs, 1, t1, rfl, rfl, h5, hl5, by rw [← hi5.1]; omega, fun D6 o6 k6 h6 le6 hT6 hl6 => ?_⟩
  refine Mt_spliced_nil (Mt_set_list (n := n + 1) rfl h6 hl6 (hi5.drop 1) (by simp; unfold scanBound; omega) fun S oS c hTS hS hc => ⟨[(S, oS)], List.Sublist.refl _, S, oS, _, c, rfl, rfl, hS, ?_, hTS, fun y => ?_⟩)
  · simp at hc; omega
  · rw [← hq5]
    cases qs with
    | nil => simp at hh5
    | cons a r => simp at hh5; subst hh5; simp
end Mine

-- LT
namespace Mine
theorem bind_addn (w : World) (a b : Value) : bindArgs (fdOf (obK w 657)) ⟨[a, b], []⟩ = .alloc dct0 (fun d => .pure [(("self" : Str), a), (("nodes_for_adding" : Str), b), (("attr" : Str), .ref d)]) := by kernel_rfl
theorem bind_addes (w : World) (a b : Value) : bindArgs (fdOf (obK w 685)) ⟨[a, b], []⟩ = .alloc dct0 (fun d => .pure [(("self" : Str), a), (("ebunch_to_add" : Str), b), (("attr" : Str), .ref d)]) := by kernel_rfl
theorem bind_adde (w : World) (a b c : Value) : bindArgs (fdOf (obK w 678)) ⟨[a, b, c], []⟩ = .alloc dct0 (fun d => .pure [(("self" : Str), a), (("u_of_edge" : Str), b), (("v_of_edge" : Str), c), (("attr" : Str), .ref d)]) := by kernel_rfl
def unload {α : Type} : Sem α → Obj → Sem α
  | .load _ _ f => f
  | t => fun _ => t
theorem bind_init1 (w : World) (a : Value) : bindArgs (fdOf (obK w 613)) ⟨[a], []⟩ = .load 606 none (unload (bindArgs (fdOf (obK w 613)) ⟨[a], []⟩)) := by kernel_rfl
theorem bind_init2 (w : World) (a : Value) : unload (bindArgs (fdOf (obK w 613)) ⟨[a], []⟩) (obK w 606) = .alloc dct0 (fun e => .pure [(("self" : Str), a), (("incoming_graph_data" : Str), .none), (("attr" : Str), .ref e)]) := by kernel_rfl
theorem look_606 (w : World) : (KF w).lookup 606 = some (obK w 606) := by kernel_rfl
theorem Ev_load {α : Type} {w : World} {n : Nat} {G : Gr} {k : Kn} {a : Addr} {o : Obj} {f : Obj → Sem α} {Q : α → Kn → Prop} (hl : (KF w).lookup a = some o) (h : Ev w n G k (f o) Q) : Ev w n G k (.load a none f) Q :=
  fun s A E hA hP hT hk hkT => nd_load (hP.K a o hl) (h s A E hA hP hT hk hkT)
theorem Ev_alloc {α : Type} {w : World} {n : Nat} {G : Gr} {k : Kn} (gk : GOk G) {f : Addr → Sem α} {Q : α → Kn → Prop} (h : ∀ D, k D = none → TB < D → Ev w n G (k.put D dct0) (f D) Q) : Ev w n G k (.alloc dct0 f) Q := by
  have e : (.alloc dct0 f : Sem α) = (alloc dct0 >>= f) := rfl
  rw [e]
  refine Ev_bind gk fun s A E hA hP hT hk hkT => wpAny_alloc ?_
  have hD := fresh_size s.heap
  have kD : k s.heap.objs.size = none := by
    cases e : k s.heap.objs.size with
    | none => rfl
    | some o => have := hk _ _ e; rw [hD] at this; cases this
  refine ⟨k.put s.heap.objs.size dct0, ⟨_, s.toks, s.gens, ⟨_, rfl⟩, gk.refl _, fun ps e => (Heap.get?_push_of_some _ e)⟩, fun b o _ e => Heap.get?_push_of_some _ e, fun b o e => ?_, Kn.le_put kD, fun b o e => Kn.put_ne _ (fun q => by rw [q, hD] at e; cases e), h _ kD ?_⟩
  · by_cases q : b = s.heap.objs.size
    · subst q; rw [Kn.put_self] at e; cases e; exact Heap.get?_push_size _ rfl
    · rw [Kn.put_ne _ q] at e; exact Heap.get?_push_of_some _ (hk _ _ e)
  · obtain ⟨ps, e⟩ := hT; exact Heap.lt_size e

section
variable {α β γ δ : Type} {C : Cx} {k : Kn} {m : Lm} {mu : Mu}
theorem Mt_newDict {Q : Value → Kn → Lm → Mu → Prop} (h : ∀ D, TB < D → Q (.ref D) k m ((D, dct0) :: mu)) : Mt C k m mu newDict Q :=
  Mt_newM (Pr := fun o => o = dct0) (fun s A E R hA S hR => acc_dict C.w s A E R (hR _ _ s.toks rfl (fun b ob e => Heap.get?_push_of_some _ e) (Heap.get?_push_size _ rfl))) fun D o hT e => e ▸ h D hT
theorem Mt_Dict {pos} {Q : Value → Kn → Lm → Mu → Prop} (h : ∀ D, TB < D → Q (.ref D) k m ((D, dct0) :: mu)) : Mt C k m mu (eval (.Dict [] [] pos) C.env) Q := by
  rw [eval_Dict_empty]; exact Mt_at (Mt_newDict h)
theorem Mt_AssignAttr {o : PySem.Expr} {attr : Str} {pos' value pos} {Q : Flow → Kn → Lm → Mu → Prop} (h : Mt C k m mu (eval value C.env) (fun v k m mu => Mt C k m mu (eval o C.env) (fun ov k m mu => Mt C k m mu (setAttr ov attr v) (fun _ k m mu => Q .next k m mu))))
    (hs : swapsWith value (some (.Attribute o attr pos')) pos.line C.env = pure false := by rfl) : Mt C k m mu (exec (.Assign [.Attribute o attr pos'] value pos) C.env) Q := by
  rw [plainObj_exec_Assign_Attribute o attr pos' value pos hs]
  refine Mt_at (Mt_bind (Mt_mono h fun v k m mu h => ?_))
  rw [PySem.assign_Attribute]
  exact Mt_bind (Mt_bind (Mt_holding (Mt_mono h fun ov k m mu h => Mt_at (Mt_bind (Mt_holding (Mt_mono h fun _ k m mu h => Mt_release (Mt_pure h)))))))
end
/-- the factories -/
theorem fac_mv {w : World} {n : Nat} {G : Gr} {k : Kn} (gk : GOk G) {fa : Addr} {st : Stmt} {qual : Str} {cdv g : Value} {p1 p2 : Pos} (f : Fn w fa st qual cdv) (hb : bodyOf st = [.Return (some (.Dict [] [] p1)) p2]) (hs : (scopeOf st).names.lookup ("self" : Str) = some NameKind.local) (bind : bindArgs (fdOf (obK w fa)) ⟨[g], []⟩ = pure [(("self" : Str), g)]) :
    Mv w (n + 1) G k [] (call (.ref fa) [g]) (fun v k' mu' => k' = k ∧ ∃ D, v = .ref D ∧ TB < D ∧ mu' = [(D, dct0)]) := by
  refine Mv_fn gk f ?_
  rw [bind]
  refine Ev_pure gk ⟨by simp [hs], fun base L => ?_⟩
  rw [hb]
  exact Mt_cons (Mt_Return (Mt_Dict fun D hT => ⟨[(D, dct0)], List.Sublist.refl _, rfl, D, rfl, hT, rfl⟩))

section
variable {α β γ δ : Type} {C : Cx} {k : Kn} {m : Lm} {mu : Mu}
theorem Mt_dictMethod {d : Addr} {o : Obj} {name : Str} {id : String} {pl : Sem Bool} {Q : Value × List Value → Kn → Lm → Mu → Prop} (ha : At k mu d o) (hx : o.ExactDict) (slot : Slot "dict" name id) (hty : typeOf (.builtin id) = pure (.type "method_descriptor")) (h : Q (.builtin id, [.ref d]) k m mu) : Mt C k m mu (getMethod (.ref d) name pl) Q :=
  Mt_of (fun s A E R hA S hR => getMethod_builtin ⟨o, S.at ha, hx.1⟩ PySem.F.plainAttrs_dict slot hty (fun b e => by injection e with e; subst e; exact ⟨o, S.at ha, hx.2.1⟩) (hR s.toks)) h
theorem dct0_str (w : World) {h : Heap} {d : Addr} (e : h.get? d = some dct0) : h.DictOf (strKind P w) d [] := ⟨dct0, #[], _, e, ⟨rfl, rfl, rfl⟩, rfl, fun e he => by simp at he, Pairs.nil, by simp⟩
theorem Mt_pop0 {d : Addr} {x : Str} {t : Tok} {dflt : Value} {Q : Value → Kn → Lm → Mu → Prop} (lo : (d == sysModules) = false) (ha : At k mu d dct0) (h : Q dflt k m mu) : Mt C k m mu (call (.builtin "dict.pop") [.ref d, .str x t, dflt]) Q :=
  Mt_of (fun s A E R hA S hR => call_meetsIn PySem.F.slot_dict_pop ⟨_, S.at ha, rfl⟩ PySem.F.entry_dict_pop (PySem.F.args_dict_pop_3 _ _ _)
    (meets_dict_pop_default (strKind P C.w) d (k := x) (by show (x == x) = true; exact beq_self_eq_true x) lo rfl dflt) ⟨[], dct0_str _ (S.at ha), rfl, hR _⟩) h
theorem Mt_update0 {l1 l2 : Mu} {d e : Addr} {o : Obj} {Q : Value → Kn → Lm → Mu → Prop} (hmu : mu = l1 ++ (d, o) :: l2) (ho : ODict C.w o []) (he : k e = some dct0) (lo : (e == sysModules) = false) (h : ∀ o', ODict C.w o' [] → Q .none k m (l1 ++ (d, o') :: l2)) : Mt C k m mu (call (.builtin "dict.update") [.ref d, .ref e]) Q :=
  Mt_turn (Pr := fun v o' => v = .none ∧ ODict C.w o' []) hmu (fun s A E R hA S hR => by
    have hm : (d, o) ∈ mu := hmu ▸ mem_mid
    have ne : d ≠ e := fun q => by have := S.kmu _ hm; rw [q, he] at this; cases this
    refine call_meetsIn PySem.F.slot_dict_update (ho.dictOf (S.own _ hm)).typeIs PySem.F.entry_dict_update (PySem.F.args_dict_update_2 _ _) (meets_dict_update (intKind P C.w) d e ne lo) ⟨[], [], ho.dictOf (S.own _ hm), (dct0_ODict C.w).dictOf (S.kin _ _ he), by rw [sizeLine_eq]; simp, fun h' h1 h2 hs => ?_⟩
    obtain ⟨o', ho', hl'⟩ := ODict.of h1
    exact hR .none o' h' s.toks ⟨rfl, hl'⟩ (fun b ob hb e => (hs.2 b hb).trans e) ho') fun v o' ⟨e, hp⟩ => e ▸ h o' hp
theorem Mt_get_default {d : Addr} {o : Obj} {kvs : List (Int × Value)} {x : Int} {t : Tok} {dflt : Value} {Q : Value → Kn → Lm → Mu → Prop} (lo : (d == sysModules) = false) (ha : At k mu d o) (hl : ODict C.w o kvs) (h : Q ((valueAt kvs x).getD dflt) k m mu) : Mt C k m mu (call (.builtin "dict.get") [.ref d, .int x t, dflt]) Q :=
  Mt_of (fun s A E R hA S hR => call_meetsIn PySem.F.slot_dict_get (hl.dictOf (S.at ha)).typeIs PySem.F.entry_dict_get (PySem.F.args_dict_get_3 _ _ _)
    (meets_dict_get_default (intKind P C.w) d (k := x) ODict.key lo dflt) ⟨valueAt kvs, (hl.dictOf (S.at ha)).mapOf, hR _⟩) h
end

theorem Mt_fac {C : Cx} {k : Kn} {m : Lm} {mu : Mu} {n : Nat} (gk : GOk C.G) (hn : C.n = n + 1) {fa : Addr} {st : Stmt} {qual : Str} {cdv g : Value} {p1 p2 : Pos} {Q : Value → Kn → Lm → Mu → Prop} (f : Fn C.w fa st qual cdv) (hb : bodyOf st = [.Return (some (.Dict [] [] p1)) p2]) (hs : (scopeOf st).names.lookup ("self" : Str) = some NameKind.local) (bind : bindArgs (fdOf (obK C.w fa)) ⟨[g], []⟩ = pure [(("self" : Str), g)])
    (h : ∀ D, TB < D → Q (.ref D) k m ((D, dct0) :: mu)) : Mt C k m mu (call (.ref fa) [g]) Q := by
  refine Mt_mv (mu1 := []) ?_
  rw [hn]
  intro s A E hA hP hT hk hkT hmu hkmu hnd hmT
  refine wpAny_mono (fac_mv (n := n) gk f hb hs bind s A E hA hP hT hk hkT hmu hkmu hnd hmT) (fun v s' ⟨k', mu', a1, a2, a3, a4, a5, a6, a7, e, D, e1, hD, e2⟩ => ?_) fun _ _ e => e
  subst e e1 e2
  exact ⟨_, [(D, dct0)], a1, a2, a3, a4, a5, a6, a7, fun _ _ => h D hD⟩
def InitQ (k : Kn) (g : Addr) (v : Value) (k' : Kn) (mu' : Mu) : Prop := v = .none ∧ ∃ gd nd ad pd, TB < nd ∧ TB < ad ∧ TB < pd ∧ mu' = [(pd, dct0), (ad, dct0), (nd, dct0)] ∧ IsG k' [] g (gNames gd nd ad pd)
theorem init_h {w : World} {n : Nat} {G : Gr} {k : Kn} (gk : GOk G) {g dx : Addr} (hg : k g = some (instObj DG dx)) :
    Ev w (n + 1) G k (bindArgs (fdOf (obK w 613)) ⟨[.ref g], []⟩) (fun binds k' => ((binds.all fun y => (scopeOf (methAt 23 0)).names.lookup y.1 == some .local || (scopeOf (methAt 23 0)).names.lookup y.1 == some .cell) = true) ∧
      ∀ (base : Heap) (L : Addr), Mt (fcx w (n + 1) G k' "DiGraph.__init__" (scopeOf (methAt 23 0)) (cdOf w 613) 613 L base) k' (bm binds) [(dx, dct0)] (execs (bodyOf (methAt 23 0)) (fenv "DiGraph.__init__" (scopeOf (methAt 23 0)) (cdOf w 613) L 613)) (fun f k'' _ mu' => ∃ mu1, mu1.Sublist mu' ∧ InitQ k g (retv f) k'' mu1)) := by
  rw [bind_init1]
  refine Ev_load (look_606 w) ?_
  rw [bind_init2]
  refine Ev_alloc gk fun at' kat hat => Ev_pure gk ⟨by kernel_rfl, fun base L => ?_⟩
  have le1 := Kn.le_put (o := dct0) kat
  have hg1 := le1 _ _ hg
  have A0 : OAttr dct0 [] := ⟨[], _, rfl, trivial⟩
  generalize hk1 : k.put at' dct0 = k1 at *
  have hat1 : k1 at' = some dct0 := by rw [← hk1]; exact Kn.put_self _ _ _
  have meth : ∀ {mu : Mu} {od : Obj} {l : List (Str × Value)}, (dx, od) ∈ mu → OAttr od l → IsG k1 mu g l := fun h1 h2 => ⟨dx, _, hg1, .inr h1, h2⟩
  refine Mt_cons (Mt_AssignAttr (Mt_CallM (Mt_nameL rfl fun pl => Mt_method (f := 353) (meth (.head _) A0) rfl (by kernel_rfl) (by kernel_rfl) ⟨keeps_text (by kernel_rfl), Mt_spliced_nil (Mt_fac (n := n) gk rfl (fn_fgraph w) rfl rfl (bind_fgraph w _) fun gd hgd => Mt_nameL rfl (Mt_setAttr (l1 := [(gd, dct0)]) rfl hg1 A0 rfl (by simp) (by kernel_rfl) fun o1 A1 => ?_))⟩)))
  refine Mt_cons (Mt_AssignAttr (Mt_CallM (Mt_nameL rfl fun pl => Mt_method (f := 318) (meth (.tail _ (.head _)) A1) rfl (by kernel_rfl) (by kernel_rfl) ⟨keeps_text (by kernel_rfl), Mt_spliced_nil (Mt_fac (n := n) gk rfl (fn_fnode w) rfl rfl (bind_fnode w _) fun nd hnd => Mt_nameL rfl (Mt_setAttr (l1 := [(nd, dct0), (gd, dct0)]) rfl hg1 A1 rfl (by simp) (by kernel_rfl) fun o2 A2 => ?_))⟩)))
  refine Mt_cons (Mt_AssignAttr (Mt_CallM (Mt_nameL rfl fun pl => Mt_method (f := 332) (meth (.tail _ (.tail _ (.head _))) A2) rfl (by kernel_rfl) (by kernel_rfl) ⟨keeps_text (by kernel_rfl), Mt_spliced_nil (Mt_fac (n := n) gk rfl (fn_fouter w) rfl rfl (bind_fouter w _) fun ad had => Mt_nameL rfl (Mt_setAttr (l1 := [(ad, dct0), (nd, dct0), (gd, dct0)]) rfl hg1 A2 rfl (by simp) (by kernel_rfl) fun o3 A3 => ?_))⟩)))
  refine Mt_cons (Mt_AssignAttr (Mt_Attribute (Mt_nameL rfl (Mt_getAttr (meth (.tail _ (.tail _ (.tail _ (.head _)))) A3) rfl rfl (by kernel_rfl) (Mt_nameL rfl (Mt_setAttr (l1 := [(ad, dct0), (nd, dct0), (gd, dct0)]) rfl hg1 A3 rfl (by simp) (by kernel_rfl) fun o4 A4 => ?_))))))
  refine Mt_cons (Mt_AssignAttr (Mt_CallM (Mt_nameL rfl fun pl => Mt_method (f := 332) (meth (.tail _ (.tail _ (.tail _ (.head _)))) A4) rfl (by kernel_rfl) (by kernel_rfl) ⟨keeps_text (by kernel_rfl), Mt_spliced_nil (Mt_fac (n := n) gk rfl (fn_fouter w) rfl rfl (bind_fouter w _) fun pd hpd => Mt_nameL rfl (Mt_setAttr (l1 := [(pd, dct0), (ad, dct0), (nd, dct0), (gd, dct0)]) rfl hg1 A4 rfl (by simp) (by kernel_rfl) fun o5 A5 => ?_))⟩)))
  refine Mt_cons (Mt_Expr rfl (Mt_CallM (Mt_nameL rfl fun pl => Mt_dictMethod (.inl hat1) ⟨rfl, rfl, rfl⟩ PySem.F.slot_dict_pop PySem.F.type_dict_pop ⟨keeps_builtin _, Mt_spliced_cons (Mt_str fun t => Mt_spliced_cons (Mt_none (Mt_spliced_nil (Mt_pop0 (lo_of hat) (.inl hat1) ⟨rfl, ?_⟩))))⟩)))
  refine Mt_cons (Mt_Expr rfl (Mt_CallM (Mt_Attribute (Mt_nameL rfl (Mt_getAttr (meth (.tail _ (.tail _ (.tail _ (.tail _ (.head _))))) A5) rfl rfl (by kernel_rfl) fun pl => Mt_dictMethod (o := dct0) (.inr (by simp)) ⟨rfl, rfl, rfl⟩ PySem.F.slot_dict_update PySem.F.type_dict_update ⟨keeps_builtin _, Mt_spliced_cons (Mt_nameL rfl (Mt_spliced_nil (Mt_update0 (l1 := [(pd, dct0), (ad, dct0), (nd, dct0)]) rfl (dct0_ODict w) hat1 (lo_of hat) fun o6 h6 => ⟨rfl, ?_⟩)))⟩)))))
  refine Mt_frz (l1 := [(pd, dct0), (ad, dct0), (nd, dct0), (gd, o6)]) fun kd ld => Mt_nil ⟨_, ?_, rfl, gd, nd, ad, pd, hnd, had, hpd, rfl, dx, o5, ld _ _ hg1, .inl (Kn.put_self _ _ _), A5⟩
  simp

/-- DiGraph() -/
theorem Mt_makeG {C : Cx} {k : Kn} {m : Lm} {mu : Mu} {n : Nat} (gk : GOk C.G) (hn : C.n = n + 3) {Q : Value → Kn → Lm → Mu → Prop}
    (h : ∀ g gd nd ad pd k', k.Le k' → (∀ D o, k D = none → k' D = some o → C.base.get? D = none) → TB < nd → TB < ad → TB < pd → IsG k' [] g (gNames gd nd ad pd) → Q (.ref g) k' m ([(pd, dct0), (ad, dct0), (nd, dct0)] ++ mu)) : Mt C k m mu (call (.ref DG) []) Q := fun s A E hA S => by
  have X := S.progs.K
  refine wpAny_call ?_
  obtain ⟨hh, gg, d, t, os⟩ := s
  have S1 := S.pushMu (o := dct0) rfl
  have fr := S1.fresh_none
  have S2 := S1.known (D := (hh.push dct0).objs.size) (o := instObj DG hh.objs.size) (h' := (hh.push dct0).push (instObj DG hh.objs.size)) (fun b ob e => Heap.get?_push_of_some _ e) (fresh_size _) (Heap.get?_push_size _ rfl)
  have kp : ∀ b o, hh.get? b = some o → ((hh.push dct0).push (instObj DG hh.objs.size)).get? b = some o := fun b o e => Heap.get?_push_of_some _ (Heap.get?_push_of_some _ e)
  have hsz : (hh.push dct0).objs.size = hh.objs.size + 1 := by rw [Heap.size_push]
  rw [hsz] at S2 fr
  generalize hx : hh.objs.size + 1 = x at *
  refine make_core (C := DG) (makes_of X (by kernel_rfl)) (looks_findIn X (name := "__init__") (r := some (.ref 613)) (by kernel_rfl)) (fun self => bind_fn X self (by kernel_rfl)) (.inl rfl) ?_
  rw [hx]
  have hA' : OkA (n + 2) (A.under (.builtin "type.__call__" ⟨[.ref DG], []⟩)) := by
    rw [hn] at hA
    refine ⟨hA.handled, ?_, ?_⟩
    · have := hA.depth; rw [depth_under_make]; omega
    · have := hA.units; rw [units_under_make]; omega
  have S2' : Stt C (k.put x (instObj DG hh.objs.size)) m ([(hh.objs.size, dct0)] ++ mu) ((hh.push dct0).push (instObj DG hh.objs.size)) := S2
  have nd := S2'.nd
  rw [List.map_append, List.nodup_append] at nd
  refine Mv_fnC (n := n + 1) gk (fn_init C.w) (init_h (n := n) gk (g := x) (dx := hh.objs.size) (Kn.put_self _ _ _)) hA' (mv_prog S2') S2'.tab S2'.kin S2'.kT (fun p hp => S2'.own p (List.mem_append_left _ hp)) (fun p hp => S2'.kmu p (List.mem_append_left _ hp)) nd.1 (fun p hp => S2'.muT p (List.mem_append_left _ hp)) ?_
  rintro v s' ⟨k', mu', af, old, kin, le, ex, nd', pm, rfl, gd, nd, ad, pd, h1, h2, h3, rfl, hG⟩
  obtain ⟨S', fr'⟩ := mv_back (s := ⟨(hh.push dct0).push (instObj DG hh.objs.size), gg, d, t, os⟩) S2' af old kin le ex nd' pm
  have lek : k.Le (k.put x (instObj DG hh.objs.size)) := Kn.le_put fr.2.1
  refine ⟨rfl, k', m, _, S.ok.after_trans ⟨_, t, gg, ⟨_, rfl⟩, S.ok.refl _, fun ps e => (kp _ _ e)⟩ af, S', h x gd nd ad pd k' (lek.trans le) ?_ h1 h2 h3 hG⟩
  intro D o e1 e2
  by_cases q : D = x
  · subst q; exact fr.1
  · by_cases q2 : D = hh.objs.size
    · subst q2; exact S.fresh_none.1
    · exact fr' D o (by rw [Kn.put_ne _ q]; exact e1) e2 (by simpa using q2)
end Mine

-- LU
namespace Mine
section
variable {α β γ δ : Type} {C : Cx} {k : Kn} {m : Lm} {mu : Mu}
theorem Stt.perm {h : Heap} {mu' : Mu} (S : Stt C k m mu h) (p : mu.Perm mu') : Stt C k m mu' h :=
  ⟨S.ok, S.loc, S.cel, S.fre, S.keep, S.kin, fun q hq => S.own q (p.mem_iff.mpr hq), S.kown, fun a ha q hq => S.muown a ha q (p.mem_iff.mpr hq), fun q hq => S.kmu q (p.mem_iff.mpr hq), fun q hq => S.bmu q (p.mem_iff.mpr hq), (p.map _).nodup_iff.mp S.nd, S.ext, S.extb, S.tab, S.kT, fun q hq => S.muT q (p.mem_iff.mpr hq)⟩
theorem Mt_perm {t : Sem α} {mu' : Mu} {Q : α → Kn → Lm → Mu → Prop} (p : mu.Perm mu') (h : Mt C k m mu' t Q) : Mt C k m mu t Q := fun s A E hA S => h s A E hA (S.perm p)
theorem Mt_Try {body orelse : List Stmt} {h₀ : ExceptHandler} {hs : List ExceptHandler} {pos : Pos} {Q : Flow → Kn → Lm → Mu → Prop}
    (h : Mt C k m mu (execs body C.env) (fun f k m mu => match f with | .next => Mt C k m mu (execs orelse C.env) Q | f => Q f k m mu)) : Mt C k m mu (exec (.Try body (h₀ :: hs) orelse [] pos) C.env) Q := fun s A E hA S => by
  refine wpAny_Try_except (wpAny_mono (h s A (fun _ _ => False) hA S) (fun f s₁ ⟨k1, m1, mu1, af, S1, q⟩ => ?_) fun _ _ e => e.elim)
  cases f with
  | next => exact wpAny_mono (q s₁ A E hA S1) (fun f s₂ ⟨k2, m2, mu2, af2, S2, q2⟩ => ⟨k2, m2, mu2, S.ok.after_trans af af2, S2, q2⟩) fun _ _ e => e
  | _ => exact ⟨k1, m1, mu1, af, S1, q⟩
theorem Mt_is_int_none {x : Int} {t : Tok} {Q : Value → Kn → Lm → Mu → Prop} (h : Q (.bool false) k m mu) : Mt C k m mu (compareOp .Is (.int x t) .none) Q :=
  Mt_of (fun s A E R hA S hR => wpAny_is_other rfl (by intro e; cases e) (hR s.toks)) h
theorem mem_turn {p : Addr × Obj} {a : Addr} {o o' : Obj} {l1 l2 : Mu} (h : p ∈ l1 ++ (a, o) :: l2) (ne : p.1 ≠ a) : p ∈ l1 ++ (a, o') :: l2 := by
  rcases List.mem_append.mp h with h | h
  · exact List.mem_append_left _ h
  · rcases List.mem_cons.mp h with rfl | h
    · exact absurd rfl ne
    · exact List.mem_append_right _ (.tail _ h)
end

/-- a dict of dicts, all of them the frame's own -/
def Two (w : World) (mu : Mu) (d : Addr) (xs : List Int) (sA : Int → Addr) (nb : Int → List Int) : Prop :=
  ∃ o kvs, (d, o) ∈ mu ∧ ODict w o kvs ∧ kvs.map (·.1) = xs ∧ ∀ x ∈ xs, valueAt kvs x = some (.ref (sA x)) ∧ TB < sA x ∧ ∃ ox kx, (sA x, ox) ∈ mu ∧ ODict w ox kx ∧ kx.map (·.1) = nb x
/-- a graph under way -/
structure GM (w : World) (mu : Mu) (nd ad pd : Addr) (xs : List Int) (sA sP : Int → Addr) (nb pb : Int → List Int) : Prop where
  node : ∃ o kvs, (nd, o) ∈ mu ∧ ODict w o kvs ∧ kvs.map (·.1) = xs
  adj : Two w mu ad xs sA nb
  pred : Two w mu pd xs sP pb
  lo : TB < nd ∧ TB < ad ∧ TB < pd
  apart : (nd :: ad :: pd :: (xs.map sA ++ xs.map sP)).Nodup
theorem GM.mu {w : World} {mu mu' : Mu} {nd ad pd : Addr} {xs : List Int} {sA sP : Int → Addr} {nb pb : Int → List Int} (g : GM w mu nd ad pd xs sA sP nb pb) (h : ∀ p ∈ mu, p ∈ mu') : GM w mu' nd ad pd xs sA sP nb pb := by
  have two : ∀ {d sA nb}, Two w mu d xs sA nb → Two w mu' d xs sA nb := by
    rintro d sA nb ⟨o, kvs, h1, h2, h3, h4⟩
    refine ⟨o, kvs, h _ h1, h2, h3, fun x hx => ?_⟩
    obtain ⟨a1, a2, ox, kx, a3, a4⟩ := h4 x hx
    exact ⟨a1, a2, ox, kx, h _ a3, a4⟩
  obtain ⟨o, kvs, h1, h2⟩ := g.node
  exact ⟨⟨o, kvs, h _ h1, h2⟩, two g.adj, two g.pred, g.lo, g.apart⟩
def upd (f : Int → Addr) (x : Int) (a : Addr) : Int → Addr := fun y => if y = x then a else f y
theorem upd_self (f : Int → Addr) (x : Int) (a : Addr) : upd f x a x = a := by simp [upd]
theorem upd_ne (f : Int → Addr) {x y : Int} (a : Addr) (h : y ≠ x) : upd f x a y = f y := by simp [upd, h]
theorem map_upd {f : Int → Addr} {x : Int} {a : Addr} {xs : List Int} (h : x ∉ xs) : xs.map (upd f x a) = xs.map f := List.map_congr_left fun y hy => upd_ne f a fun e => h (e ▸ hy)
theorem valueAt_push {kvs : List (Int × Value)} {x y : Int} {v : Value} (h : y ≠ x) : valueAt (kvs ++ [(x, v)]) y = valueAt kvs y := by
  unfold valueAt
  rw [List.find?_append]
  cases e : kvs.find? (fun kv => decide (kv.1 = y)) with
  | some p => simp
  | none => simp [Ne.symm h]
theorem valueAt_push_self {kvs : List (Int × Value)} {x : Int} {v : Value} (h : valueAt kvs x = none) : valueAt (kvs ++ [(x, v)]) x = some v := by
  unfold valueAt at h ⊢
  rw [List.find?_append]
  have : kvs.find? (fun kv => decide (kv.1 = x)) = none := by simpa using h
  rw [this]; simp
theorem valueAt_none {kvs : List (Int × Value)} {x : Int} (h : x ∉ kvs.map (·.1)) : valueAt kvs x = none := valueAt_none_of_not_mem h
/-- one node more: its dict is new -/
theorem Two.add {w : World} {mu mu' : Mu} {d D : Addr} {xs : List Int} {sA : Int → Addr} {nb : Int → List Int} {x : Int} {o' : Obj} {kvs : List (Int × Value)} (h3 : kvs.map (·.1) = xs)
    (h4 : ∀ x ∈ xs, valueAt kvs x = some (.ref (sA x)) ∧ TB < sA x ∧ ∃ ox kx, (sA x, ox) ∈ mu ∧ ODict w ox kx ∧ kx.map (·.1) = nb x)
    (hx : x ∉ xs) (hnb : nb x = []) (ho' : ODict w o' (kvs ++ [(x, .ref D)])) (hd : (d, o') ∈ mu') (hD : (D, dct0) ∈ mu') (hTD : TB < D) (keep : ∀ y ∈ xs, ∀ ox, (sA y, ox) ∈ mu → (sA y, ox) ∈ mu') : Two w mu' d (xs ++ [x]) (upd sA x D) nb := by
  refine ⟨o', _, hd, ho', by simp [h3], fun y hy => ?_⟩
  by_cases e : y = x
  · subst e
    refine ⟨?_, by rw [upd_self]; exact hTD, dct0, [], by rw [upd_self]; exact hD, dct0_ODict w, by simp [hnb]⟩
    rw [upd_self, valueAt_push_self]
    exact valueAt_none (by rw [h3]; exact hx)
  · have hy' : y ∈ xs := by rcases List.mem_append.mp hy with h | h; exact h; simp at h; exact absurd h e
    obtain ⟨a1, a2, ox, kx, a3, a4⟩ := h4 y hy'
    refine ⟨?_, by rw [upd_ne _ _ e]; exact a2, ox, kx, by rw [upd_ne _ _ e]; exact keep y hy' _ a3, a4⟩
    rw [upd_ne _ _ e, valueAt_push e, a1]

structure Ap (nd ad pd : Addr) (xs : List Int) (sA sP : Int → Addr) : Prop where
  a1 : nd ≠ ad
  a2 : nd ≠ pd
  a3 : ad ≠ pd
  a4 : ∀ y ∈ xs, sA y ≠ nd ∧ sA y ≠ ad ∧ sA y ≠ pd ∧ sP y ≠ nd ∧ sP y ≠ ad ∧ sP y ≠ pd
  a5 : (xs.map sA).Nodup
  a6 : (xs.map sP).Nodup
  a7 : ∀ y ∈ xs, ∀ z ∈ xs, sA y ≠ sP z
theorem Ap.of {nd ad pd : Addr} {xs : List Int} {sA sP : Int → Addr} (h : (nd :: ad :: pd :: (xs.map sA ++ xs.map sP)).Nodup) : Ap nd ad pd xs sA sP := by
  rw [List.nodup_cons, List.nodup_cons, List.nodup_cons, List.nodup_append] at h
  obtain ⟨h1, h2, h3, h4, h5, h6⟩ := h
  simp only [List.mem_cons, List.mem_append, List.mem_map, not_or, not_exists, not_and] at h1 h2 h3
  refine ⟨h1.1, h1.2.1, h2.1, fun y hy => ⟨h1.2.2.1 y hy, h2.2.1 y hy, h3.1 y hy, h1.2.2.2 y hy, h2.2.2 y hy, h3.2 y hy⟩, h4, h5, fun y hy z hz => h6 _ (List.mem_map_of_mem hy) _ (List.mem_map_of_mem hz)⟩
theorem Ap.to {nd ad pd : Addr} {xs : List Int} {sA sP : Int → Addr} (h : Ap nd ad pd xs sA sP) : (nd :: ad :: pd :: (xs.map sA ++ xs.map sP)).Nodup := by
  obtain ⟨h1, h2, h3, h4, h5, h6, h7⟩ := h
  rw [List.nodup_cons, List.nodup_cons, List.nodup_cons, List.nodup_append]
  simp only [List.mem_cons, List.mem_append, List.mem_map, not_or, not_exists, not_and]
  refine ⟨⟨h1, h2, fun y hy => (h4 y hy).1, fun y hy => (h4 y hy).2.2.2.1⟩, ⟨h3, fun y hy => (h4 y hy).2.1, fun y hy => (h4 y hy).2.2.2.2.1⟩, ⟨fun y hy => (h4 y hy).2.2.1, fun y hy => (h4 y hy).2.2.2.2.2⟩, h5, h6, fun a ha b hb => ?_⟩
  obtain ⟨y, hy, rfl⟩ := ha
  obtain ⟨z, hz, rfl⟩ := hb
  exact h7 y hy z hz
theorem Ap.add {nd ad pd D1 D2 : Addr} {xs : List Int} {sA sP : Int → Addr} {x : Int} (h : Ap nd ad pd xs sA sP) (hx : x ∉ xs) (e1 : D1 ≠ nd ∧ D1 ≠ ad ∧ D1 ≠ pd) (e2 : D2 ≠ nd ∧ D2 ≠ ad ∧ D2 ≠ pd) (e3 : D1 ≠ D2) (e4 : ∀ y ∈ xs, D1 ≠ sA y ∧ D1 ≠ sP y ∧ D2 ≠ sA y ∧ D2 ≠ sP y) : Ap nd ad pd (xs ++ [x]) (upd sA x D1) (upd sP x D2) := by
  obtain ⟨h1, h2, h3, h4, h5, h6, h7⟩ := h
  have mem : ∀ y ∈ xs ++ [x], y = x ∨ (y ≠ x ∧ y ∈ xs) := fun y hy => by
    by_cases e : y = x
    · exact .inl e
    · rcases List.mem_append.mp hy with h | h
      · exact .inr ⟨e, h⟩
      · simp at h; exact absurd h e
  refine ⟨h1, h2, h3, fun y hy => ?_, ?_, ?_, fun y hy z hz => ?_⟩
  · rcases mem y hy with rfl | ⟨e, h⟩
    · rw [upd_self, upd_self]; exact ⟨e1.1, e1.2.1, e1.2.2, e2⟩
    · rw [upd_ne _ _ e, upd_ne _ _ e]; exact h4 y h
  · rw [List.map_append, map_upd hx, List.nodup_append]
    refine ⟨h5, by simp, fun a ha b hb e => ?_⟩
    obtain ⟨y, hy, rfl⟩ := List.mem_map.mp ha
    simp [upd_self] at hb; subst hb
    exact (e4 y hy).1 e.symm
  · rw [List.map_append, map_upd hx, List.nodup_append]
    refine ⟨h6, by simp, fun a ha b hb e => ?_⟩
    obtain ⟨y, hy, rfl⟩ := List.mem_map.mp ha
    simp [upd_self] at hb; subst hb
    exact (e4 y hy).2.2.2 e.symm
  · rcases mem y hy with rfl | ⟨e, h⟩
    · rcases mem z hz with rfl | ⟨e', h'⟩
      · rw [upd_self, upd_self]; exact e3
      · rw [upd_self, upd_ne _ _ e']; exact (e4 z h').2.1
    · rcases mem z hz with rfl | ⟨e', h'⟩
      · rw [upd_self, upd_ne _ _ e]; exact Ne.symm (e4 y h).2.2.1
      · rw [upd_ne _ _ e, upd_ne _ _ e']; exact h7 y h z h'

theorem addn_mv {w : World} {n : Nat} {G : Gr} {k : Kn} (gk : GOk G) {g gd nd ad pd lN : Addr} {oN : Obj} {vs : List Value} {xs : List Int} (hg : IsG k [] g (gNames gd nd ad pd)) (h1 : TB < nd) (h2 : TB < ad) (h3 : TB < pd) (hk : k lN = some oN) (hl : OList oN vs) (hi : IsInts xs vs) (hn : xs.Nodup) (hf : xs.length ≤ 1000) :
    Mv w (n + 2) G k [(pd, dct0), (ad, dct0), (nd, dct0)] (call (.ref 657) [.ref g, .ref lN]) (fun v k' mu' => v = .none ∧ ∃ sA sP, GM w mu' nd ad pd xs sA sP (fun _ => []) (fun _ => [])) := by
  refine Mv_fn gk (fn_addn w) ?_
  rw [bind_addn]
  refine Ev_alloc gk fun at' kat hat => Ev_pure gk ⟨by kernel_rfl, fun base L => ?_⟩
  have le1 := Kn.le_put (o := dct0) kat
  have hg1 : ∀ mu, IsG (k.put at' dct0) mu g (gNames gd nd ad pd) := fun mu => hg.le le1
  have hk1 := le1 _ _ hk
  have hat1 : (k.put at' dct0) at' = some dct0 := Kn.put_self _ _ _
  generalize k.put at' dct0 = k1 at *
  refine Mt_fact (X := pd ≠ ad ∧ pd ≠ nd ∧ ad ≠ nd) (fun h S => ?_) fun ⟨d1, d2, d3⟩ => ?_
  · have := S.nd; simp at this; exact ⟨this.1.1, this.1.2, this.2⟩
  refine Mt_cons (Mt_For (Mt_nameL rfl (Mt_pyIter_list (.inl hk1) hl fun it oi hT hoi => ?_)))
  refine MtC_forS (Src.list w hl hk1 hi) (fun i k m mu => k = k1 ∧ m "self" = some (.ref g) ∧ m "attr" = some (.ref at') ∧ ∃ sA sP, GM w mu nd ad pd (xs.take i) sA sP (fun _ => []) (fun _ => [])) ?_ ?_ ⟨rfl, rfl, rfl, fun _ => 0, fun _ => 0, ?_⟩ hoi (Kn.Le.refl _)
  · clear hoi oi
    rintro i x k2 m mu oi v hx ⟨t, rfl⟩ - ⟨rfl, m1, m2, sA, sP, gm⟩ hoi
    have tk : xs.take (i + 1) = xs.take i ++ [x] := by rw [List.take_add_one, hx]; rfl
    have hxn : x ∉ xs.take i := fun hm => by
      have : (xs.take (i + 1)).Nodup := hn.sublist (List.take_sublist _ _)
      rw [tk, List.nodup_append] at this
      exact this.2.2 x hm x (by simp) rfl
    have hlen : (xs.take i).length ≤ 1000 := by rw [List.length_take]; omega
    obtain ⟨oN', kN, n1, n2, n3⟩ := gm.node
    have kNn : valueAt kN x = none := valueAt_none (by rw [n3]; exact hxn)
    refine Mt_toL ?_
    refine Mt_cons (Mt_Try (Mt_cons (Mt_Assign (Mt_Compare (Mt_nameL (Lm.set_self _ _ _) (Mt_Attribute (Mt_nameL (Lm.up m1) (Mt_getAttr (hg1 _) rfl rfl (by kernel_rfl) (Mt_notin_dict (lo_of h1) (.inr (.tail _ n1)) n2 (Mt_setL ?_))))))))))
    rw [kNn]
    refine Mt_cons (Mt_Assign (Mt_nameL (Lm.up (Lm.up m2)) (Mt_setL (Mt_nil (Mt_nil ?_)))))
    refine Mt_cons (Mt_If (Mt_isTrue_plain (by rfl) (Mt_nameL (Lm.up (Lm.set_self _ _ _)) (Mt_truthy_bool ?_))))
    simp only [Option.isSome_none, Bool.not_false, if_true]
    refine Mt_cons (Mt_If (Mt_isTrue_Compare (Mt_nameL (Lm.up (Lm.up (Lm.set_self _ _ _))) (Mt_none (Mt_is_int_none (Mt_truthy_bool ?_))))))
    simp only [Bool.false_eq_true, if_false]
    refine Mt_nil ?_
    obtain ⟨oA, kA, A1, A2, A3, A4⟩ := gm.adj
    obtain ⟨oP, kP, P1, P2, P3, P4⟩ := gm.pred
    have ap := Ap.of gm.apart
    have kAn : valueAt kA x = none := valueAt_none (by rw [A3]; exact hxn)
    have kPn : valueAt kP x = none := valueAt_none (by rw [P3]; exact hxn)
    have lA : kA.length ≤ 1000 := by have := congrArg List.length A3; rw [List.length_map] at this; omega
    have lP : kP.length ≤ 1000 := by have := congrArg List.length P3; rw [List.length_map] at this; omega
    have lN : kN.length ≤ 1000 := by have := congrArg List.length n3; rw [List.length_map] at this; omega
    clear gm
    generalize hM : mu = M at A1 P1 n1 A4 P4
    have hM0 : M = mu := hM.symm
    obtain ⟨a1, a2, rfl⟩ := List.append_of_mem A1
    subst hM
    have keepA : ∀ {b ob o'}, (b, ob) ∈ a1 ++ (ad, oA) :: a2 → b ≠ ad → (b, ob) ∈ a1 ++ (ad, o') :: a2 := fun h ne => mem_turn h ne
    refine Mt_cons (Mt_AssignSub (Mt_CallM (Mt_nameL (Lm.up (Lm.up (Lm.up m1))) fun pl => Mt_method (f := 339) (hg1 _) rfl (by kernel_rfl) (by kernel_rfl) ⟨keeps_text (by kernel_rfl), Mt_spliced_nil (Mt_fac (n := n) gk rfl (fn_finner w) rfl rfl (bind_finner w _) fun D1 hD1 =>
      Mt_Attribute (Mt_nameL (Lm.up (Lm.up (Lm.up m1))) (Mt_getAttr (hg1 _) rfl rfl (by kernel_rfl) (Mt_nameL (Lm.up (Lm.up (Lm.set_self _ _ _))) (Mt_setItem_dict (l1 := (D1, dct0) :: (it, oi) :: a1) (l2 := a2) rfl A2 (by omega) fun oA' hA' => ?_)))))⟩)))
    rw [stored_absent kAn] at hA'
    have P1' := keepA (o' := oA') P1 (Ne.symm ap.a3)
    have n1' := keepA (o' := oA') n1 ap.a1
    obtain ⟨b1, b2, eb⟩ := List.append_of_mem P1'
    have keepP : ∀ {b ob o'}, (b, ob) ∈ a1 ++ (ad, oA') :: a2 → b ≠ pd → (b, ob) ∈ b1 ++ (pd, o') :: b2 := fun h ne => mem_turn (eb ▸ h) ne
    refine Mt_perm (mu' := (D1, dct0) :: (it, oi) :: (b1 ++ (pd, oP) :: b2)) (by rw [← eb]; exact List.Perm.refl _) ?_
    refine Mt_cons (Mt_AssignSub (Mt_CallM (Mt_nameL (Lm.up (Lm.up (Lm.up m1))) fun pl => Mt_method (f := 339) (hg1 _) rfl (by kernel_rfl) (by kernel_rfl) ⟨keeps_text (by kernel_rfl), Mt_spliced_nil (Mt_fac (n := n) gk rfl (fn_finner w) rfl rfl (bind_finner w _) fun D2 hD2 =>
      Mt_Attribute (Mt_nameL (Lm.up (Lm.up (Lm.up m1))) (Mt_getAttr (hg1 _) rfl rfl (by kernel_rfl) (Mt_nameL (Lm.up (Lm.up (Lm.set_self _ _ _))) (Mt_setItem_dict (l1 := (D2, dct0) :: (D1, dct0) :: (it, oi) :: b1) (l2 := b2) rfl P2 (by omega) fun oP' hP' => ?_)))))⟩)))
    rw [stored_absent kPn] at hP'
    have n1'' := keepP (o' := oP') n1' ap.a2
    obtain ⟨c1, c2, ec⟩ := List.append_of_mem n1''
    have keepN : ∀ {b ob o'}, (b, ob) ∈ b1 ++ (pd, oP') :: b2 → b ≠ nd → (b, ob) ∈ c1 ++ (nd, o') :: c2 := fun h ne => mem_turn (ec ▸ h) ne
    refine Mt_perm (mu' := (D2, dct0) :: (D1, dct0) :: (it, oi) :: (c1 ++ (nd, oN') :: c2)) (by rw [← ec]; exact List.Perm.refl _) ?_
    refine Mt_cons (Mt_AssignSub (Mt_CallM (Mt_nameL (Lm.up (Lm.up (Lm.up m1))) fun pl => Mt_method (f := 325) (hg1 _) rfl (by kernel_rfl) (by kernel_rfl) ⟨keeps_text (by kernel_rfl), Mt_spliced_nil (Mt_fac (n := n) gk rfl (fn_fnattr w) rfl rfl (bind_fnattr w _) fun D3 hD3 =>
      Mt_Attribute (Mt_nameL (Lm.up (Lm.up (Lm.up m1))) (Mt_getAttr (hg1 _) rfl rfl (by kernel_rfl) (Mt_nameL (Lm.up (Lm.up (Lm.set_self _ _ _))) (Mt_setItem_dict (l1 := (D3, dct0) :: (D2, dct0) :: (D1, dct0) :: (it, oi) :: c1) (l2 := c2) rfl n2 (by omega) fun oN2 hN' => ?_)))))⟩)))
    rw [stored_absent kNn] at hN'
    refine Mt_nil ?_
    refine Mt_cons (Mt_Expr rfl (Mt_CallM (Mt_Subscript (Mt_Attribute (Mt_nameL (Lm.up (Lm.up (Lm.up m1))) (Mt_getAttr (hg1 _) rfl rfl (by kernel_rfl) (Mt_nameL (Lm.up (Lm.up (Lm.set_self _ _ _))) (Mt_sub_dict (o := oN2) (.inr (by simp)) hN' (valueAt_push_self kNn) fun pl => ?_))))))))
    refine Mt_dictMethod (o := dct0) (.inr (by simp)) ⟨rfl, rfl, rfl⟩ PySem.F.slot_dict_update PySem.F.type_dict_update ⟨keeps_builtin _, ?_⟩
    refine Mt_spliced_cons (Mt_nameL (Lm.set_self _ _ _) (Mt_spliced_nil (Mt_update0 (l1 := []) rfl (dct0_ODict w) hat1 (lo_of hat) fun o6 h6 => ⟨rfl, ?_⟩)))
    refine Mt_drop (l1 := []) ?_
    refine Mt_fact (X := ∀ p ∈ c1 ++ (nd, oN2) :: c2, p.1 ≠ D1 ∧ p.1 ≠ D2 ∧ D1 ≠ D2) (fun h S => ?_) fun hd => ?_
    · have := show (List.map (·.1) ((D2, dct0) :: (D1, dct0) :: (it, oi) :: (c1 ++ (nd, oN2) :: c2))).Nodup from S.nd
      rw [List.map_cons, List.map_cons, List.map_cons, List.nodup_cons, List.nodup_cons, List.nodup_cons] at this
      simp only [List.mem_cons, not_or] at this
      intro p hp
      have hp' := List.mem_map_of_mem (f := (·.1)) hp
      exact ⟨fun e => this.2.1.2 (e ▸ hp'), fun e => this.1.2.2 (e ▸ hp'), Ne.symm this.1.1⟩
    refine Mt_perm (mu' := (it, oi) :: (D2, dct0) :: (D1, dct0) :: (c1 ++ (nd, oN2) :: c2)) (by simp only [List.nil_append, List.cons_append]; exact ((List.Perm.swap _ _ _).cons _).trans (List.Perm.swap _ _ _)) (Mt_nil ⟨oi, _, rfl, Kn.Le.refl _, hoi, rfl, Lm.up (Lm.up (Lm.up m1)), Lm.up (Lm.up (Lm.up m2)), upd sA x D1, upd sP x D2, ?_⟩)
    have toF : ∀ {b ob}, (b, ob) ∈ a1 ++ (ad, oA) :: a2 → b ≠ ad → b ≠ pd → b ≠ nd → (b, ob) ∈ c1 ++ (nd, oN2) :: c2 := fun h e1 e2 e3 => keepN (keepP (keepA h e1) e2) e3
    have inA : (ad, oA') ∈ c1 ++ (nd, oN2) :: c2 := keepN (keepP mem_mid ap.a3) (Ne.symm ap.a1)
    have inP : (pd, oP') ∈ c1 ++ (nd, oN2) :: c2 := keepN mem_mid (Ne.symm ap.a2)
    rw [tk]
    refine ⟨⟨oN2, _, .tail _ (.tail _ mem_mid), hN', by simp [n3]⟩, ?_, ?_, ⟨h1, h2, h3⟩, (ap.add hxn ?_ ?_ (hd _ mem_mid).2.2 fun y hy => ?_).to⟩
    · exact Two.add A3 A4 hxn rfl hA' (.tail _ (.tail _ inA)) (.tail _ (.head _)) hD1 fun y hy ox h => .tail _ (.tail _ (toF h (ap.a4 y hy).2.1 (ap.a4 y hy).2.2.1 (ap.a4 y hy).1))
    · exact Two.add P3 P4 hxn rfl hP' (.tail _ (.tail _ inP)) (.head _) hD2 fun y hy ox h => .tail _ (.tail _ (toF h (ap.a4 y hy).2.2.2.2.1 (ap.a4 y hy).2.2.2.2.2 (ap.a4 y hy).2.2.2.1))
    · exact ⟨Ne.symm (hd _ mem_mid).1, Ne.symm (hd _ inA).1, Ne.symm (hd _ inP).1⟩
    · exact ⟨Ne.symm (hd _ mem_mid).2.1, Ne.symm (hd _ inA).2.1, Ne.symm (hd _ inP).2.1⟩
    · obtain ⟨_, _, ox, _, i1, _⟩ := A4 y hy
      obtain ⟨_, _, ox', _, i2, _⟩ := P4 y hy
      have j1 := hd _ (toF i1 (ap.a4 y hy).2.1 (ap.a4 y hy).2.2.1 (ap.a4 y hy).1)
      have j2 := hd _ (toF i2 (ap.a4 y hy).2.2.2.2.1 (ap.a4 y hy).2.2.2.2.2 (ap.a4 y hy).2.2.2.1)
      exact ⟨Ne.symm j1.1, Ne.symm j2.1, Ne.symm j1.2.1, Ne.symm j2.2.1⟩
  · rintro k2 m mu - ⟨rfl, m1, m2, sA, sP, gm⟩
    rw [List.take_of_length_le (Nat.le_refl _)] at gm
    exact Mt_nil (Mt_nil ⟨mu, List.Sublist.refl _, rfl, sA, sP, gm⟩)
  · have e0 : ∀ {d : Addr}, d = ad ∨ d = pd ∨ d = nd → (d, dct0) ∈ [(pd, dct0), (ad, dct0), (nd, dct0)] := by rintro d (rfl | rfl | rfl) <;> simp
    rw [List.take_zero]
    refine ⟨⟨dct0, [], e0 (.inr (.inr rfl)), dct0_ODict w, rfl⟩, ⟨dct0, [], e0 (.inl rfl), dct0_ODict w, rfl, fun x hx => by cases hx⟩, ⟨dct0, [], e0 (.inr (.inl rfl)), dct0_ODict w, rfl, fun x hx => by cases hx⟩, ⟨h1, h2, h3⟩, ?_⟩
    simp; exact ⟨⟨Ne.symm d3, Ne.symm d2⟩, Ne.symm d1⟩
end Mine

-- LV
namespace Mine
section
variable {α β γ δ : Type} {C : Cx} {k : Kn} {m : Lm} {mu : Mu}
theorem Stt.more {h h' : Heap} (S : Stt C k m mu h) (kp : ∀ b o, h.get? b = some o → h'.get? b = some o) : Stt C k m mu h' :=
  S.grown (fun b o _ e => kp b o e) (fun ps e => (kp _ _ e)) (fun b o e => kp b o (S.kin b o e)) (Kn.Le.refl _) fun _ _ _ => rfl
theorem extBut_keeps {h h' : Heap} (x : Heap.ExtBut h.objs.size h h') : ∀ b o, h.get? b = some o → h'.get? b = some o := fun b o e => x b o (Nat.ne_of_lt (Heap.lt_size e)) e
theorem Mt_unpackItems {t : Addr} {o : Obj} {vs : List Value} {n : Nat} {Q : List Value → Kn → Lm → Mu → Prop} (ha : At k mu t o) (ho : OTup o vs) (hn : n = vs.length) (h : Q vs k m mu) : Mt C k m mu (unpackItems (.ref t) n none) Q := fun s A E hA S => by
  subst hn
  have := unpackItems_tuple (prog := P) (w := C.w) (A := A) (E := E) (s := s) (t := t) (items := vs.toArray) (Q := fun a s' => ∃ k' m' mu', After C.G s s' ∧ Stt C k' m' mu' s'.heap ∧ Q a k' m' mu') hA.handled (ho.isTup (S.at ha)) fun h' he => ⟨k, m, mu, ⟨h', s.toks, s.gens, ⟨_, rfl⟩, S.ok.refl _, fun ps e => (extBut_keeps he _ _ e)⟩, S.more (extBut_keeps he), h⟩
  simpa using this
theorem Mt_inOrder_nil {Q : Unit → Kn → Lm → Mu → Prop} {xs : List Value} (h : Q () k m mu) : Mt C k m mu (assignInOrder [] xs) Q := Mt_pure h
theorem Mt_inOrder_cons {t : Value → Sem Unit} {ts : List (Value → Sem Unit)} {x : Value} {xs : List Value} {Q : Unit → Kn → Lm → Mu → Prop} (h : Mt C k m mu (t x) (fun _ k m mu => Mt C k m mu (assignInOrder ts xs) Q)) : Mt C k m mu (assignInOrder (t :: ts) (x :: xs)) Q := by
  show Mt C k m mu (do holding xs (t x); assignInOrder ts xs) Q
  exact Mt_bind (Mt_holding h)
/-- a, b = a tuple of two -/
theorem Mt_assign_pair {e1 e2 : PySem.Expr} {x1} {pos : Pos} {t : Addr} {o : Obj} {a b : Value} {Q : Unit → Kn → Lm → Mu → Prop} (ha : At k mu t o) (ho : OTup o [a, b]) (h : Mt C k m mu (assign e1 C.env a) (fun _ k m mu => Mt C k m mu (assign e2 C.env b) Q))
    (he : assignEach [e1, e2] C.env = [(false, assign e1 C.env), (false, assign e2 C.env)] := by rfl) : Mt C k m mu (assign (.Tuple [e1, e2] x1 pos) C.env (.ref t)) Q := by
  rw [PyProof.Rows.assign_Tuple, he]
  refine Mt_at ?_
  unfold unpack
  exact Mt_bind (Mt_holding (Mt_unpackItems ha ho rfl (Mt_inOrder_cons (Mt_mono h fun _ k m mu h => Mt_inOrder_cons (Mt_mono h fun _ k m mu h => Mt_inOrder_nil h)))))
theorem Mt_Assign_Tuple {elts x1 tpos value pos} {Q : Flow → Kn → Lm → Mu → Prop} (h : Mt C k m mu (eval value C.env) (fun v k m mu => Mt C k m mu (assign (.Tuple elts x1 tpos) C.env v) (fun _ k m mu => Q .next k m mu)))
    (hs : swapsWithSole [.Tuple elts x1 tpos] value pos.line C.env = pure false := by rfl) (hw : swappedStores [.Tuple elts x1 tpos] value C.env = pure none := by rfl) : Mt C k m mu (exec (.Assign [.Tuple elts x1 tpos] value pos) C.env) Q := by
  rw [PyProof.Rows.exec_Assign]
  refine Mt_at ?_
  rw [hs]
  refine Mt_bind (Mt_pure ?_)
  rw [if_neg (by decide)]
  refine Mt_bind (Mt_mono h fun v k m mu h => ?_)
  rw [hw]
  refine Mt_bind (Mt_pure ?_)
  show Mt C k m mu (do assignAll v [assign (.Tuple elts x1 tpos) C.env]; pure .next) Q
  exact Mt_bind (Mt_mono h fun _ k m mu h => Mt_pure h)
/-- u, v = x, y: the stores go the other way round -/
theorem Mt_Assign_swap2 {e1 e2 tpos value pos x1} {x y : Str} {Q : Flow → Kn → Lm → Mu → Prop} (h : Mt C k m mu (eval value C.env) (fun v k m mu => ∃ t o a b, v = .ref t ∧ At k mu t o ∧ OTup o [a, b] ∧ Mt C k m mu (bindName C.env y b) (fun _ k m mu => Mt C k m mu (bindName C.env x a) (fun _ k m mu => Q .next k m mu))))
    (hs : swapsWithSole [.Tuple [e1, e2] x1 tpos] value pos.line C.env = pure false := by rfl) (hw : swappedStores [.Tuple [e1, e2] x1 tpos] value C.env = pure (some [x, y]) := by rfl) : Mt C k m mu (exec (.Assign [.Tuple [e1, e2] x1 tpos] value pos) C.env) Q := by
  rw [PyProof.Rows.exec_Assign]
  refine Mt_at ?_
  rw [hs]
  refine Mt_bind (Mt_pure ?_)
  rw [if_neg (by decide)]
  refine Mt_bind (Mt_mono h fun v k m mu h => ?_)
  obtain ⟨t, o, a, b, rfl, ha, ho, h⟩ := h
  rw [hw]
  refine Mt_bind (Mt_pure ?_)
  show Mt C k m mu (do rule "assign.swapped-stores"; let items ← unpackItems (.ref t) 2 none; assignInOrder ([y, x].map fun n => bindName C.env n) items.reverse; pure .next) Q
  refine Mt_bind (Mt_rule (Mt_bind (Mt_unpackItems ha ho rfl (Mt_bind ?_))))
  exact Mt_inOrder_cons (Mt_mono h fun _ k m mu h => Mt_inOrder_cons (Mt_mono h fun _ k m mu h => Mt_inOrder_nil (Mt_pure h)))
end

def IsPair (k : Kn) (p : Int × Int) (v : Value) : Prop := ∃ t o a b, v = .ref t ∧ k t = some o ∧ OTup o [a, b] ∧ IsInt p.1 a ∧ IsInt p.2 b
theorem IsPair.le {k k' : Kn} {p : Int × Int} {v : Value} (h : IsPair k p v) (l : k.Le k') : IsPair k' p v := let ⟨t, o, a, b, e, h1, h2⟩ := h; ⟨t, o, a, b, e, l _ _ h1, h2⟩
def nbOf (es : List (Int × Int)) (x : Int) : List Int := (es.filter fun e => e.1 = x).map (·.2)
def pbOf (es : List (Int × Int)) (x : Int) : List Int := (es.filter fun e => e.2 = x).map (·.1)
theorem mem_nbOf {es : List (Int × Int)} {x y : Int} : y ∈ nbOf es x ↔ (x, y) ∈ es := by
  unfold nbOf
  rw [List.mem_map]
  constructor
  · rintro ⟨⟨a, b⟩, h, rfl⟩
    rw [List.mem_filter] at h
    have : a = x := by simpa using h.2
    exact this ▸ h.1
  · intro h; exact ⟨(x, y), List.mem_filter.mpr ⟨h, by simp⟩, rfl⟩
theorem mem_pbOf {es : List (Int × Int)} {x y : Int} : y ∈ pbOf es x ↔ (y, x) ∈ es := by
  unfold pbOf
  rw [List.mem_map]
  constructor
  · rintro ⟨⟨a, b⟩, h, rfl⟩
    rw [List.mem_filter] at h
    have : b = x := by simpa using h.2
    exact this ▸ h.1
  · intro h; exact ⟨(y, x), List.mem_filter.mpr ⟨h, by simp⟩, rfl⟩
theorem nbOf_push {es : List (Int × Int)} {u v x : Int} : nbOf (es ++ [(u, v)]) x = if u = x then nbOf es x ++ [v] else nbOf es x := by
  unfold nbOf; rw [List.filter_append, List.map_append]; by_cases h : u = x <;> simp [h]
theorem pbOf_push {es : List (Int × Int)} {u v x : Int} : pbOf (es ++ [(u, v)]) x = if v = x then pbOf es x ++ [u] else pbOf es x := by
  unfold pbOf; rw [List.filter_append, List.map_append]; by_cases h : v = x <;> simp [h]
theorem nodup_map_inj {f : Int → Addr} : ∀ {xs : List Int}, (xs.map f).Nodup → ∀ {x y}, x ∈ xs → y ∈ xs → f x = f y → x = y
  | [], _, _, _, h, _, _ => by cases h
  | a :: r, hn, x, y, hx, hy, e => by
    rw [List.map_cons, List.nodup_cons] at hn
    rcases List.mem_cons.mp hx with hx' | hx'
    · rcases List.mem_cons.mp hy with hy' | hy'
      · rw [hx', hy']
      · exact absurd (List.mem_map.mpr ⟨y, hy', by rw [← e, hx']⟩) hn.1
    · rcases List.mem_cons.mp hy with hy' | hy'
      · exact absurd (List.mem_map.mpr ⟨x, hx', by rw [e, hy']⟩) hn.1
      · exact nodup_map_inj hn.2 hx' hy' e
theorem GM.edge {w : World} {M : Mu} {nd ad pd : Addr} {xs : List Int} {sA sP : Int → Addr} {es : List (Int × Int)} {u v : Int} {a1 a2 b1 b2 : Mu} {ox ox' px px' : Obj} {kx kp : List (Int × Value)} {d d' : Value}
    (gm : GM w M nd ad pd xs sA sP (nbOf es) (pbOf es)) (hu : u ∈ xs) (hv : v ∈ xs)
    (e1 : M = a1 ++ (sA u, ox) :: a2) (hx : ODict w ox' (kx ++ [(v, d)])) (hkx : kx.map (·.1) = nbOf es u) (e2 : a1 ++ (sA u, ox') :: a2 = b1 ++ (sP v, px) :: b2) (hp : ODict w px' (kp ++ [(u, d')])) (hkp : kp.map (·.1) = pbOf es v) :
    GM w (b1 ++ (sP v, px') :: b2) nd ad pd xs sA sP (nbOf (es ++ [(u, v)])) (pbOf (es ++ [(u, v)])) := by
  have ap := Ap.of gm.apart
  have keep : ∀ {b ob}, (b, ob) ∈ M → b ≠ sA u → b ≠ sP v → (b, ob) ∈ b1 ++ (sP v, px') :: b2 := fun {b ob} h n1 n2 => by
    rw [e1] at h
    exact mem_turn (e2 ▸ mem_turn (o' := ox') h n1) n2
  have inU : (sA u, ox') ∈ b1 ++ (sP v, px') :: b2 := mem_turn (e2 ▸ mem_mid) (ap.a7 u hu v hv)
  obtain ⟨oN, kN, n1, n2⟩ := gm.node
  obtain ⟨oA, kA, A1, A2, A3, A4⟩ := gm.adj
  obtain ⟨oP, kP, P1, P2, P3, P4⟩ := gm.pred
  have au := ap.a4 u hu
  have av := ap.a4 v hv
  refine ⟨⟨oN, kN, keep n1 (Ne.symm au.1) (Ne.symm av.2.2.2.1), n2⟩, ⟨oA, kA, keep A1 (Ne.symm au.2.1) (Ne.symm av.2.2.2.2.1), A2, A3, fun x hx' => ?_⟩, ⟨oP, kP, keep P1 (Ne.symm au.2.2.1) (Ne.symm av.2.2.2.2.2), P2, P3, fun x hx' => ?_⟩, gm.lo, gm.apart⟩
  · obtain ⟨t1, t2, o, kk, t3, t4, t5⟩ := A4 x hx'
    refine ⟨t1, t2, ?_⟩
    by_cases q : u = x
    · subst q
      exact ⟨ox', _, inU, hx, by rw [nbOf_push, if_pos rfl]; simp [hkx]⟩
    · exact ⟨o, kk, keep t3 (fun e => q (nodup_map_inj ap.a5 hu hx' e.symm)) (ap.a7 x hx' v hv), t4, by rw [nbOf_push, if_neg q]; exact t5⟩
  · obtain ⟨t1, t2, o, kk, t3, t4, t5⟩ := P4 x hx'
    refine ⟨t1, t2, ?_⟩
    by_cases q : v = x
    · subst q
      exact ⟨px', _, mem_mid, hp, by rw [pbOf_push, if_pos rfl]; simp [hkp]⟩
    · exact ⟨o, kk, keep t3 (Ne.symm (ap.a7 u hu x hx')) (fun e => q (nodup_map_inj ap.a6 hv hx' e.symm)), t4, by rw [pbOf_push, if_neg q]; exact t5⟩

section
variable {C : Cx} {k : Kn} {m : Lm} {mu : Mu}
theorem Mt_in_keys {M : Mu} {d : Addr} {xs : List Int} {sA : Int → Addr} {nb : Int → List Int} {x : Int} {t : Tok} {Q : Value → Kn → Lm → Mu → Prop} (hT : TB < d) (hA : Two C.w M d xs sA nb) (hM : ∀ p ∈ M, p ∈ mu) (hx : x ∈ xs) (h : Q (.bool false) k m mu) : Mt C k m mu (compareOp .NotIn (.int x t) (.ref d)) Q := by
  obtain ⟨oA, kA, A1, A2, A3, A4⟩ := hA
  refine Mt_notin_dict (lo_of hT) (.inr (hM _ A1)) A2 ?_
  rw [(A4 x hx).1]; exact h
theorem Mt_len_tup {t : Addr} {o : Obj} {vs : List Value} {Q : Value → Kn → Lm → Mu → Prop} (ha : At k mu t o) (ho : OTup o vs) (h : ∀ tk, Q (.int vs.length tk) k m mu) (hsz : vs.length ≤ 2 ^ 20) : Mt C k m mu (call (.builtin "len") [.ref t]) Q := fun s A E hA S =>
  PyProof.Rows.len_tuple (ho.isTup (S.at ha)) (by simp; omega) (by rw [List.size_toArray]; exact ⟨k, m, mu, ⟨s.heap, _, s.gens, ⟨_, rfl⟩, S.ok.refl _, TabG.refl _⟩, S, h _⟩)
theorem Mt_len_list {t : Addr} {o : Obj} {vs : List Value} {Q : Value → Kn → Lm → Mu → Prop} (ha : At k mu t o) (ho : OList o vs) (h : ∀ tk, Q (.int vs.length tk) k m mu) (hsz : vs.length ≤ 2 ^ 20) : Mt C k m mu (call (.builtin "len") [.ref t]) Q := fun s A E hA S =>
  call_len_list (ho.isList (S.at ha)) (by simp; omega) (by rw [List.size_toArray]; exact ⟨k, m, mu, ⟨s.heap, _, s.gens, ⟨_, rfl⟩, S.ok.refl _, TabG.refl _⟩, S, h _⟩)
theorem Mt_len_dict {d : Addr} {o : Obj} {kvs : List (Int × Value)} {Q : Value → Kn → Lm → Mu → Prop} (lo : (d == sysModules) = false) (ha : At k mu d o) (ho : ODict C.w o kvs) (h : ∀ tk, Q (.int kvs.length tk) k m mu) (hsz : kvs.length ≤ 2 ^ 20) : Mt C k m mu (call (.builtin "len") [.ref d]) Q := fun s A E hA S =>
  call_len_dict (knd := intKind P C.w) lo (ho.dictOf (S.at ha)) (by omega) ⟨k, m, mu, ⟨s.heap, _, s.gens, ⟨_, rfl⟩, S.ok.refl _, TabG.refl _⟩, S, h _⟩
/-! comparing ints -/
theorem Mt_eq_int {a b : Int} {t u : Tok} {Q : Value → Kn → Lm → Mu → Prop} (h : Q (.bool (decide (a = b))) k m mu) : Mt C k m mu (compareOp .Eq (.int a t) (.int b u)) Q :=
  Mt_of (a := .bool (a == b)) (fun s A E R hA S hR => PySem.P.eq_int (hR s.toks)) (by rw [show (a == b) = decide (a = b) from rfl]; exact h)
theorem Mt_ne_int {a b : Int} {t u : Tok} {Q : Value → Kn → Lm → Mu → Prop} (h : Q (.bool (!decide (a = b))) k m mu) : Mt C k m mu (compareOp .NotEq (.int a t) (.int b u)) Q :=
  Mt_of (a := .bool (a != b)) (fun s A E R hA S hR => PySem.P.ne_int (hR s.toks)) (by rw [show (a != b) = !decide (a = b) from rfl]; exact h)
theorem Mt_add_int {a b : Int} {t u : Tok} {Q : Value → Kn → Lm → Mu → Prop} (h : ∀ tk, Q (.int (a + b) tk) k m mu) : Mt C k m mu (binaryOp .Add (.int a t) (.int b u)) Q := fun s A E hA S =>
  PySem.P.add_int ⟨k, m, mu, ⟨s.heap, _, s.gens, ⟨_, rfl⟩, S.ok.refl _, TabG.refl _⟩, S, h _⟩
theorem Mt_mod_int {a b : Int} {t u : Tok} {Q : Value → Kn → Lm → Mu → Prop} (hb : b ≠ 0) (h : ∀ tk, Q (.int (a.fmod b) tk) k m mu) : Mt C k m mu (binaryOp .Mod (.int a t) (.int b u)) Q := fun s A E hA S =>
  PyProof.Rows.mod_int' hb ⟨k, m, mu, ⟨s.heap, _, s.gens, ⟨_, rfl⟩, S.ok.refl _, TabG.refl _⟩, S, h _⟩
theorem Mt_div_int {a b : Int} {t u : Tok} {Q : Value → Kn → Lm → Mu → Prop} (hb : b ≠ 0) (hs : b.natAbs < 1073741824) (h : ∀ tk, Q (.int (a.fdiv b) tk) k m mu) : Mt C k m mu (binaryOp .FloorDiv (.int a t) (.int b u)) Q := fun s A E hA S =>
  PyProof.Rows.floordiv_int hb ⟨k, m, mu, ⟨s.heap, _, s.gens, ⟨_, rfl⟩, S.ok.refl _, TabG.refl _⟩, S, h _⟩ (.inl (PyProof.noPylong_small hs))
theorem Mt_pow_int {a n : Int} {t u : Tok} {Q : Value → Kn → Lm → Mu → Prop} (hn : 0 ≤ n) (hsz : (Builtin.Int.intBits a : Int) * n ≤ 2 ^ 27) (h : ∀ tk, Q (.int (a ^ n.toNat) tk) k m mu) : Mt C k m mu (binaryOp .Pow (.int a t) (.int n u)) Q := fun s A E hA S =>
  PyProof.Rows.pow_int hn hsz ⟨k, m, mu, ⟨s.heap, _, s.gens, ⟨_, rfl⟩, S.ok.refl _, TabG.refl _⟩, S, h _⟩
end
end Mine

-- LW
namespace Mine
theorem adde_mv {w : World} {n : Nat} {G : Gr} {k : Kn} (gk : GOk G) {g gd nd ad pd : Addr} {M : Mu} {xs : List Int} {sA sP : Int → Addr} {es : List (Int × Int)} {u v : Int} {tu tv : Tok} (hg : IsG k [] g (gNames gd nd ad pd)) (gm : GM w M nd ad pd xs sA sP (nbOf es) (pbOf es)) (hu : u ∈ xs) (hv : v ∈ xs) (hn : (u, v) ∉ es) (hf : es.length ≤ 1000) :
    Mv w (n + 2) G k M (call (.ref 678) [.ref g, .int u tu, .int v tv]) (fun r k' mu' => r = .none ∧ GM w mu' nd ad pd xs sA sP (nbOf (es ++ [(u, v)])) (pbOf (es ++ [(u, v)]))) := by
  refine Mv_fn gk (fn_adde w) ?_
  rw [bind_adde]
  refine Ev_alloc gk fun at' kat hat => Ev_pure gk ⟨by kernel_rfl, fun base L => ?_⟩
  have le1 := Kn.le_put (o := dct0) kat
  have hg1 : ∀ mu, IsG (k.put at' dct0) mu g (gNames gd nd ad pd) := fun mu => hg.le le1
  have hat1 : (k.put at' dct0) at' = some dct0 := Kn.put_self _ _ _
  generalize k.put at' dct0 = k1 at *
  have ap := Ap.of gm.apart
  obtain ⟨l1, l2, l3⟩ := gm.lo
  obtain ⟨oA, kA, A1, A2, A3, A4⟩ := gm.adj
  obtain ⟨oP, kP, P1, P2, P3, P4⟩ := gm.pred
  obtain ⟨u1, u2, ox, kx, u3, u4, u5⟩ := A4 u hu
  obtain ⟨v1, v2, px, kp, v3, v4, v5⟩ := P4 v hv
  have hxv : valueAt kx v = none := valueAt_none (by rw [u5, mem_nbOf]; exact hn)
  have hpu : valueAt kp u = none := valueAt_none (by rw [v5, mem_pbOf]; exact hn)
  have lx : kx.length ≤ 1000 := by
    have := congrArg List.length u5
    rw [List.length_map] at this
    rw [this]; unfold nbOf; rw [List.length_map]; exact Nat.le_trans (List.length_filter_le _ _) hf
  have lp : kp.length ≤ 1000 := by
    have := congrArg List.length v5
    rw [List.length_map] at this
    rw [this]; unfold pbOf; rw [List.length_map]; exact Nat.le_trans (List.length_filter_le _ _) hf
  refine Mt_cons (Mt_Assign_swap2 (x := "u") (y := "v") (Mt_Tuple (Mt_spliced_cons (Mt_nameL rfl (Mt_spliced_cons (Mt_nameL rfl (Mt_spliced_nil (Mt_newTuple fun T oT kT hTT hoT => ⟨T, oT, _, _, rfl, .inl (Kn.put_self _ _ _), hoT, ?_⟩))))))))
  have leT := Kn.le_put (o := oT) kT
  have hg2 : ∀ mu, IsG (k1.put T oT) mu g (gNames gd nd ad pd) := fun mu => by
    obtain ⟨dx, od, h1, h2, h3⟩ := hg1 []
    exact ⟨dx, od, leT _ _ h1, .inl (leT _ _ (h2.elim id fun h => by cases h)), h3⟩
  have hat2 := leT _ _ hat1
  generalize k1.put T oT = k2 at *
  refine Mt_bindName (Mt_setL (Mt_bindName (Mt_setL ?_)))
  refine Mt_cons (Mt_If (Mt_isTrue_Compare (Mt_nameL (Lm.set_self _ _ _) (Mt_Attribute (Mt_nameL rfl (Mt_getAttr (hg2 _) rfl rfl (by kernel_rfl) (Mt_in_keys l2 gm.adj (fun _ h => h) hu (Mt_truthy_bool ?_))))))))
  simp only [Bool.false_eq_true, if_false]
  refine Mt_nil (Mt_cons (Mt_If (Mt_isTrue_Compare (Mt_nameL (Lm.up (Lm.set_self _ _ _)) (Mt_Attribute (Mt_nameL rfl (Mt_getAttr (hg2 _) rfl rfl (by kernel_rfl) (Mt_in_keys l2 gm.adj (fun _ h => h) hv (Mt_truthy_bool ?_)))))))))
  simp only [Bool.false_eq_true, if_false]
  refine Mt_nil ?_
  refine Mt_cons (Mt_Assign (Mt_CallM (Mt_Subscript (Mt_Attribute (Mt_nameL rfl (Mt_getAttr (hg2 _) rfl rfl (by kernel_rfl) (Mt_nameL (Lm.set_self _ _ _) (Mt_sub_dict (.inr A1) A2 u1 fun pl => ?_))))))))
  refine Mt_dictMethod (.inr u3) u4.1 PySem.F.slot_dict_get PySem.F.type_dict_get ⟨keeps_builtin _, ?_⟩
  refine Mt_spliced_cons (Mt_nameL (Lm.up (Lm.set_self _ _ _)) (Mt_spliced_cons (Mt_CallM (Mt_nameL rfl fun pl => Mt_method (f := 346) (hg2 _) rfl (by kernel_rfl) (by kernel_rfl) ⟨keeps_text (by kernel_rfl), Mt_spliced_nil (Mt_fac (n := n) gk rfl (fn_feattr w) rfl rfl (bind_feattr w _) fun D hD => Mt_spliced_nil (Mt_get_default (lo_of u2) (.inr (.tail _ u3)) u4 ?_))⟩))))
  rw [hxv]
  refine Mt_setL ?_
  refine Mt_cons (Mt_Expr rfl (Mt_CallM (Mt_nameL (Lm.set_self _ _ _) fun pl => Mt_dictMethod (o := dct0) (.inr (.head _)) ⟨rfl, rfl, rfl⟩ PySem.F.slot_dict_update PySem.F.type_dict_update ⟨keeps_builtin _, Mt_spliced_cons (Mt_nameL rfl (Mt_spliced_nil (Mt_update0 (l1 := []) rfl (dct0_ODict w) hat2 (lo_of hat) fun oD hoD => ⟨rfl, ?_⟩)))⟩)))
  refine Mt_drop (l1 := []) ?_
  obtain ⟨a1, a2, e1⟩ := List.append_of_mem u3
  refine Mt_perm (mu' := a1 ++ (sA u, ox) :: a2) (by rw [← e1]; exact List.Perm.refl _) ?_
  refine Mt_cons (Mt_AssignSub (Mt_nameL (Lm.set_self _ _ _) (Mt_Subscript (Mt_Attribute (Mt_nameL rfl (Mt_getAttr (hg2 _) rfl rfl (by kernel_rfl) (Mt_nameL (Lm.up (Lm.set_self _ _ _)) (Mt_sub_dict (.inr (e1 ▸ A1)) A2 u1 (Mt_nameL (Lm.up (Lm.up (Lm.set_self _ _ _))) (Mt_setItem_dict (l1 := a1) (l2 := a2) rfl u4 (by omega) fun ox' hox' => ?_))))))))))
  rw [stored_absent hxv] at hox'
  have v3' : (sP v, px) ∈ a1 ++ (sA u, ox') :: a2 := mem_turn (e1 ▸ v3) (Ne.symm (ap.a7 u hu v hv))
  have P1' : (pd, oP) ∈ a1 ++ (sA u, ox') :: a2 := mem_turn (e1 ▸ P1) (Ne.symm (ap.a4 u hu).2.2.1)
  obtain ⟨b1, b2, e2⟩ := List.append_of_mem v3'
  refine Mt_perm (mu' := b1 ++ (sP v, px) :: b2) (by rw [← e2]) ?_
  refine Mt_cons (Mt_AssignSub (Mt_nameL (Lm.set_self _ _ _) (Mt_Subscript (Mt_Attribute (Mt_nameL rfl (Mt_getAttr (hg2 _) rfl rfl (by kernel_rfl) (Mt_nameL (Lm.up (Lm.up (Lm.set_self _ _ _))) (Mt_sub_dict (.inr (e2 ▸ P1')) P2 v1 (Mt_nameL (Lm.up (Lm.set_self _ _ _)) (Mt_setItem_dict (l1 := b1) (l2 := b2) rfl v4 (by omega) fun px' hpx' => ?_))))))))))
  rw [stored_absent hpu] at hpx'
  exact Mt_nil ⟨_, List.Sublist.refl _, rfl, gm.edge hu hv e1 hox' u5 e2 hpx' v5⟩

theorem addes_mv {w : World} {n : Nat} {G : Gr} {k : Kn} (gk : GOk G) {g gd nd ad pd lE : Addr} {oE : Obj} {vs : List Value} {M : Mu} {xs : List Int} {sA sP : Int → Addr} {es : List (Int × Int)} (hg : IsG k [] g (gNames gd nd ad pd)) (gm : GM w M nd ad pd xs sA sP (nbOf []) (pbOf [])) (hk : k lE = some oE) (hl : OList oE vs) (hi : Are (IsPair k) es vs) (hin : ∀ e ∈ es, e.1 ∈ xs ∧ e.2 ∈ xs) (hnd : es.Nodup) (hf : es.length ≤ 1000) :
    Mv w (n + 2) G k M (call (.ref 685) [.ref g, .ref lE]) (fun r k' mu' => r = .none ∧ GM w mu' nd ad pd xs sA sP (nbOf es) (pbOf es)) := by
  refine Mv_fn gk (fn_addes w) ?_
  rw [bind_addes]
  refine Ev_alloc gk fun at' kat hat => Ev_pure gk ⟨by kernel_rfl, fun base L => ?_⟩
  have le1 := Kn.le_put (o := dct0) kat
  have hk1 := le1 _ _ hk
  have hat1 : (k.put at' dct0) at' = some dct0 := Kn.put_self _ _ _
  have hi1 : Are (IsPair (k.put at' dct0)) es vs := hi.mono fun _ _ _ h => h.le le1
  have hgk : ∀ {k' : Kn}, (k.put at' dct0).Le k' → ∀ mu, IsG k' mu g (gNames gd nd ad pd) := fun l mu => hg.le (le1.trans l)
  generalize k.put at' dct0 = k1 at *
  refine Mt_cons (Mt_For (Mt_nameL rfl (Mt_pyIter_list (.inl hk1) hl fun it oi hT hoi => ?_)))
  refine MtC_forS (Src.list w hl hk1 hi1) (fun i k m mu => m "self" = some (.ref g) ∧ m "attr" = some (.ref at') ∧ GM w mu nd ad pd xs sA sP (nbOf (es.take i)) (pbOf (es.take i))) ?_ ?_ ⟨rfl, rfl, gm⟩ hoi (Kn.Le.refl _)
  · clear hoi oi gm
    rintro i e k2 m mu oi val he ⟨T, oT, a, b, rfl, hT1, hT2, ⟨tu, rfl⟩, ⟨tv, rfl⟩⟩ le2 ⟨m1, m2, gm⟩ hoi
    obtain ⟨u, v⟩ := e
    have htk : es.take (i + 1) = es.take i ++ [(u, v)] := by rw [List.take_add_one, he]; rfl
    have hen : (u, v) ∉ es.take i := fun hm => by
      have : (es.take (i + 1)).Nodup := hnd.sublist (List.take_sublist _ _)
      rw [htk, List.nodup_append] at this
      exact this.2.2 _ hm _ (by simp) rfl
    obtain ⟨hu, hv⟩ := hin _ (List.mem_of_getElem? he)
    have hlen : (es.take i).length ≤ 1000 := by rw [List.length_take]; omega
    generalize hes : es.take i = es0 at *
    have hT1' := le2 _ _ hT1
    have hat2 := le2 _ _ hat1
    have ap := Ap.of gm.apart
    obtain ⟨l1, l2, l3⟩ := gm.lo
    obtain ⟨oA, kA, A1, A2, A3, A4⟩ := gm.adj
    obtain ⟨oP, kP, P1, P2, P3, P4⟩ := gm.pred
    obtain ⟨u1, u2, ox, kx, u3, u4, u5⟩ := A4 u hu
    obtain ⟨v1, v2, px, kp, v3, v4, v5⟩ := P4 v hv
    have hxv : valueAt kx v = none := valueAt_none (by rw [u5, mem_nbOf]; exact hen)
    have hpu : valueAt kp u = none := valueAt_none (by rw [v5, mem_pbOf]; exact hen)
    have lx : kx.length ≤ 1000 := by
      have := congrArg List.length u5
      rw [List.length_map] at this
      rw [this]; unfold nbOf; rw [List.length_map]; exact Nat.le_trans (List.length_filter_le _ _) hlen
    have lp : kp.length ≤ 1000 := by
      have := congrArg List.length v5
      rw [List.length_map] at this
      rw [this]; unfold pbOf; rw [List.length_map]; exact Nat.le_trans (List.length_filter_le _ _) hlen
    refine Mt_toL ?_
    refine Mt_cons (Mt_Assign (Mt_Call (Mt_nameB (v := .builtin "len") (by kernel_rfl) (by kernel_rfl) (by decide) ⟨keeps_builtin _, Mt_spliced_cons (Mt_nameL (Lm.set_self _ _ _) (Mt_spliced_nil (Mt_len_tup (.inl hT1') hT2 (fun tk => Mt_setL ?_) (by simp))))⟩)))
    refine Mt_cons (Mt_If (Mt_isTrue_Compare (Mt_nameL (Lm.set_self _ _ _) (Mt_int fun _ => Mt_eq_int (Mt_truthy_bool ?_)))))
    rw [if_neg (by simp)]
    refine Mt_cons (Mt_If (Mt_isTrue_Compare (Mt_nameL (Lm.set_self _ _ _) (Mt_int fun _ => Mt_eq_int (Mt_truthy_bool ?_)))))
    rw [if_pos (by simp)]
    refine Mt_cons (Mt_Assign_Tuple (Mt_nameL (Lm.up (Lm.set_self _ _ _)) (Mt_assign_pair (.inl hT1') hT2 (Mt_toL (Mt_toL ?_)))))
    refine Mt_cons (Mt_Assign (Mt_Dict fun DD hDD => Mt_setL ?_))
    refine Mt_frz (l1 := []) fun kDD lDD => ?_
    have hDD3 : (k2.put DD dct0) DD = some dct0 := Kn.put_self _ _ _
    have hat3 := lDD _ _ hat2
    have hg2 := hgk (le2.trans lDD)
    have le3 := le2.trans lDD
    generalize k2.put DD dct0 = k3 at *
    refine Mt_nil (Mt_nil ?_)
    generalize hm5 : Lm.set _ "dd" (.ref DD) = m5
    have sSelf : m5 "self" = some (.ref g) := by rw [← hm5]; exact Lm.up (Lm.up (Lm.up (Lm.up (Lm.up m1))))
    have sAttr : m5 "attr" = some (.ref at') := by rw [← hm5]; exact Lm.up (Lm.up (Lm.up (Lm.up (Lm.up m2))))
    have sU : m5 "u" = some (.int u tu) := by rw [← hm5]; exact Lm.up (Lm.up (Lm.set_self _ _ _))
    have sV : m5 "v" = some (.int v tv) := by rw [← hm5]; exact Lm.up (Lm.set_self _ _ _)
    have sD : m5 "dd" = some (.ref DD) := by rw [← hm5]; exact Lm.set_self _ _ _
    clear hm5
    simp only [List.nil_append]
    have inM : ∀ {p : Addr × Obj}, p ∈ mu → p ∈ (it, oi) :: mu := fun h => .tail _ h
    refine Mt_cons (Mt_If (Mt_isTrue_Compare (Mt_nameL sU (Mt_Attribute (Mt_nameL sSelf (Mt_getAttr (hg2 _) rfl rfl (by kernel_rfl) (Mt_in_keys l2 gm.adj (fun _ h => .tail _ h) hu (Mt_truthy_bool ?_))))))))
    simp only [Bool.false_eq_true, if_false]
    refine Mt_nil (Mt_cons (Mt_If (Mt_isTrue_Compare (Mt_nameL sV (Mt_Attribute (Mt_nameL sSelf (Mt_getAttr (hg2 _) rfl rfl (by kernel_rfl) (Mt_in_keys l2 gm.adj (fun _ h => .tail _ h) hv (Mt_truthy_bool ?_)))))))))
    simp only [Bool.false_eq_true, if_false]
    refine Mt_nil ?_
    refine Mt_cons (Mt_Assign (Mt_CallM (Mt_Subscript (Mt_Attribute (Mt_nameL sSelf (Mt_getAttr (hg2 _) rfl rfl (by kernel_rfl) (Mt_nameL sU (Mt_sub_dict (.inr (inM A1)) A2 u1 fun pl => ?_))))))))
    refine Mt_dictMethod (.inr (inM u3)) u4.1 PySem.F.slot_dict_get PySem.F.type_dict_get ⟨keeps_builtin _, ?_⟩
    refine Mt_spliced_cons (Mt_nameL sV (Mt_spliced_cons (Mt_CallM (Mt_nameL sSelf fun pl => Mt_method (f := 346) (hg2 _) rfl (by kernel_rfl) (by kernel_rfl) ⟨keeps_text (by kernel_rfl), Mt_spliced_nil (Mt_fac (n := n) gk rfl (fn_feattr w) rfl rfl (bind_feattr w _) fun D hD => Mt_spliced_nil (Mt_get_default (lo_of u2) (.inr (.tail _ (inM u3))) u4 ?_))⟩))))
    rw [hxv]
    refine Mt_setL ?_
    refine Mt_cons (Mt_Expr rfl (Mt_CallM (Mt_nameL (Lm.set_self _ _ _) fun pl => Mt_dictMethod (o := dct0) (.inr (.head _)) ⟨rfl, rfl, rfl⟩ PySem.F.slot_dict_update PySem.F.type_dict_update ⟨keeps_builtin _, Mt_spliced_cons (Mt_nameL (Lm.up sAttr) (Mt_spliced_nil (Mt_update0 (l1 := []) rfl (dct0_ODict w) hat3 (lo_of hat) fun oD hoD => ⟨rfl, ?_⟩)))⟩)))
    refine Mt_cons (Mt_Expr rfl (Mt_CallM (Mt_nameL (Lm.set_self _ _ _) fun pl => Mt_dictMethod (o := oD) (.inr (.head _)) hoD.1 PySem.F.slot_dict_update PySem.F.type_dict_update ⟨keeps_builtin _, Mt_spliced_cons (Mt_nameL (Lm.up sD) (Mt_spliced_nil (Mt_update0 (l1 := []) rfl hoD hDD3 (lo_of hDD) fun oD2 hoD2 => ⟨rfl, ?_⟩)))⟩)))
    refine Mt_drop (l1 := []) ?_
    obtain ⟨a1, a2, e1⟩ := List.append_of_mem u3
    refine Mt_perm (mu' := (it, oi) :: (a1 ++ (sA u, ox) :: a2)) (by rw [← e1]; exact List.Perm.refl _) ?_
    refine Mt_cons (Mt_AssignSub (Mt_nameL (Lm.set_self _ _ _) (Mt_Subscript (Mt_Attribute (Mt_nameL (Lm.up sSelf) (Mt_getAttr (hg2 _) rfl rfl (by kernel_rfl) (Mt_nameL (Lm.up sU) (Mt_sub_dict (.inr (.tail _ (e1 ▸ A1))) A2 u1 (Mt_nameL (Lm.up sV) (Mt_setItem_dict (l1 := (it, oi) :: a1) (l2 := a2) rfl u4 (by omega) fun ox' hox' => ?_))))))))))
    rw [stored_absent hxv] at hox'
    have v3' : (sP v, px) ∈ a1 ++ (sA u, ox') :: a2 := mem_turn (e1 ▸ v3) (Ne.symm (ap.a7 u hu v hv))
    have P1' : (pd, oP) ∈ a1 ++ (sA u, ox') :: a2 := mem_turn (e1 ▸ P1) (Ne.symm (ap.a4 u hu).2.2.1)
    obtain ⟨b1, b2, e2⟩ := List.append_of_mem v3'
    refine Mt_perm (mu' := (it, oi) :: (b1 ++ (sP v, px) :: b2)) (by rw [← e2]; exact List.Perm.refl _) ?_
    refine Mt_cons (Mt_AssignSub (Mt_nameL (Lm.set_self _ _ _) (Mt_Subscript (Mt_Attribute (Mt_nameL (Lm.up sSelf) (Mt_getAttr (hg2 _) rfl rfl (by kernel_rfl) (Mt_nameL (Lm.up sV) (Mt_sub_dict (.inr (.tail _ (e2 ▸ P1'))) P2 v1 (Mt_nameL (Lm.up sU) (Mt_setItem_dict (l1 := (it, oi) :: b1) (l2 := b2) rfl v4 (by omega) fun px' hpx' => ?_))))))))))
    rw [stored_absent hpu] at hpx'
    refine Mt_nil ⟨oi, _, rfl, le3, hoi, Lm.up sSelf, Lm.up sAttr, ?_⟩
    rw [htk]
    exact gm.edge hu hv e1 hox' u5 e2 hpx' v5
  · rintro k2 m mu - ⟨m1, m2, gm⟩
    rw [List.take_of_length_le (Nat.le_refl _)] at gm
    exact Mt_nil (Mt_nil ⟨mu, List.Sublist.refl _, rfl, gm⟩)
end Mine

-- LX
namespace Mine
def Kn.erase (k : Kn) (a : Addr) : Kn := fun b => if b = a then none else k b
theorem Kn.erase_self (k : Kn) (a : Addr) : k.erase a a = none := by simp [Kn.erase]
theorem Kn.erase_ne {a b : Addr} (k : Kn) (h : b ≠ a) : k.erase a b = k b := by simp [Kn.erase, h]
theorem Kn.le_erase {k k' : Kn} {a : Addr} (l : k.Le k') (h : k a = none) : k.Le (k'.erase a) := fun b o e => by
  have : b ≠ a := fun q => by rw [q, h] at e; cases e
  rw [Kn.erase_ne _ this]; exact l b o e
section
variable {α β γ δ : Type} {C : Cx} {k : Kn} {m : Lm} {mu : Mu}
theorem Stt.erase {h : Heap} {D : Addr} {o : Obj} (S : Stt C k m mu h) (kD : k D = some o) (hb : C.base.get? D = none) : Stt C (k.erase D) m ((D, o) :: mu) h := by
  have ne : ∀ b, k b = none → b ≠ D := fun b e q => by rw [q, kD] at e; cases e
  refine ⟨S.ok, S.loc, S.cel, S.fre, S.keep, fun b ob e => ?_, fun p hp => ?_, fun a ha => ?_, fun a ha p hp => ?_, fun p hp => ?_, fun p hp => ?_, ?_, fun b ob e => ?_, fun b ob e => ?_, S.tab, ?_, fun p hp => ?_⟩
  · by_cases q : b = D
    · rw [q, Kn.erase_self] at e; cases e
    · rw [Kn.erase_ne _ q] at e; exact S.kin b ob e
  · rcases List.mem_cons.mp hp with rfl | hp
    · exact S.kin _ _ kD
    · exact S.own p hp
  · rw [Kn.erase_ne _ (ne a (S.kown a ha))]; exact S.kown a ha
  · rcases List.mem_cons.mp hp with rfl | hp
    · exact Ne.symm (ne a (S.kown a ha))
    · exact S.muown a ha p hp
  · rcases List.mem_cons.mp hp with rfl | hp
    · exact Kn.erase_self _ _
    · rw [Kn.erase_ne _ (ne _ (S.kmu p hp))]; exact S.kmu p hp
  · rcases List.mem_cons.mp hp with rfl | hp
    · exact hb
    · exact S.bmu p hp
  · rw [List.map_cons, List.nodup_cons]
    refine ⟨fun hm => ?_, S.nd⟩
    obtain ⟨p, hp, e⟩ := List.mem_map.mp hm
    exact ne _ (S.kmu p hp) e
  · have := S.ok.k0in b ob e
    rw [Kn.erase_ne _ fun q => by rw [q, hb] at this; cases this]; exact S.ext b ob e
  · rw [Kn.erase_ne _ fun q => by rw [q, hb] at e; cases e]; exact S.extb b ob e
  · rw [Kn.erase_ne _ (ne TB S.kT)]; exact S.kT
  · rcases List.mem_cons.mp hp with rfl | hp
    · exact Ne.symm (ne TB S.kT)
    · exact S.muT p hp
theorem Mt_erase {t : Sem α} {D : Addr} {o : Obj} {Q : α → Kn → Lm → Mu → Prop} (kD : k D = some o) (hb : C.base.get? D = none) (h : Mt C (k.erase D) m ((D, o) :: mu) t Q) : Mt C k m mu t Q := fun s A E hA S => h s A E hA (S.erase kD hb)
theorem Mt_frzB {t : Sem α} {D : Addr} {o : Obj} {l1 l2 : Mu} {Q : α → Kn → Lm → Mu → Prop} (h : k D = none → k.Le (k.put D o) → C.base.get? D = none → Mt C (k.put D o) m (l1 ++ l2) t Q) : Mt C k m (l1 ++ (D, o) :: l2) t Q := fun s A E hA S => by
  have kD : k D = none := S.kmu (D, o) mem_mid
  exact h kD (Kn.le_put kD) (S.bmu (D, o) mem_mid) s A E hA S.freeze

theorem seq_list_iadd : seqSlot? (.type "list") (dunderI "add") = pure (some (.builtin "list.__iadd__")) := by unfold seqSlot?; rw [PySem.F.slot_list_iadd.lookup]; rfl
theorem Mt_iadd_list {l1 l2 : Mu} {F b : Addr} {oF ob : Obj} {vs us : List Value} {Q : Value → Kn → Lm → Mu → Prop} (hmu : mu = l1 ++ (F, oF) :: l2) (hl : OList oF vs) (hb : k b = some ob) (hbl : OList ob us) (hsz : vs.length + us.length ≤ 2 ^ 20)
    (h : ∀ o', OList o' (vs ++ us) → Q (.ref F) k m (l1 ++ (F, o') :: l2)) : Mt C k m mu (inplaceOp .Add (.ref F) (.ref b)) Q :=
  Mt_turn (Pr := fun v o' => v = .ref F ∧ OList o' (vs ++ us)) hmu (fun s A E R hA S hR => by
    have hF := S.own _ (hmu ▸ mem_mid : (F, oF) ∈ mu)
    have hB := S.kin _ _ hb
    have ha : s.TypeIs (.ref F) "list" := ⟨_, hF, hl.1⟩
    have hb' : s.TypeIs (.ref b) "list" := ⟨_, hB, hbl.1⟩
    obtain ⟨n, rfl⟩ := hl.eq
    obtain ⟨n2, rfl⟩ := hbl.eq
    unfold inplaceOp
    refine wpAny_holding ?_
    have hfi : fillsInplaceSlot (.type "list") "add" (Operator.Add == .Add) = pure false := by
      unfold fillsInplaceSlot
      show (typeLookup (.type "list") (dunderI "add") >>= fun fi => pure (fi.isSome && !isSeqSlot fi)) = pure false
      rw [PySem.F.slot_list_iadd.lookup]; rfl
    refine wpAny_bind (wpAny_typeOf ha (wpAny_bind (wpAny_of_eq hfi ?_)))
    show wpAny _ A (if false = true then _ else _) _ _ s
    rw [if_neg Bool.false_ne_true]
    refine wpAny_bind (wpAny_binaryOp1_none (nm := "add") ha hb' noFill_list_add ?_)
    refine wpAny_bind (wpAny_of_eq seq_list_iadd ?_)
    refine wpAny_bind (wpAny_rule ?_)
    have hsz' : vs.toArray.size + us.toArray.size ≤ sizeLine := by rw [List.size_toArray, List.size_toArray, sizeLine_eq]; omega
    refine call_meets PySem.F.slot_list_iadd ha PySem.F.entry_list_iadd (PySem.F.args_list_iadd_2 _ _) (AutoSeq1.list___iadd___list_list_0 F vs.toArray n b us.toArray n2 (extend_door hsz') (by omega) (by omega)) ⟨hF, hB, ?_⟩
    have ho' : (s.heap.update F (Obj.mapSeq fun x => x ++ us.toArray)).get? F = some { cls := .type "list", data := .seq (vs.toArray ++ us.toArray) (if (vs.toArray ++ us.toArray).size == vs.toArray.size then n else n + 1) } := by
      rw [Heap.get?_update_self _ hF (by rw [mapSeq_app]; rfl), mapSeq_app]
    exact hR _ _ _ s.toks ⟨rfl, by simpa using OList.of (vs.toArray ++ us.toArray) _⟩ (fun b ob hb e => ((Heap.SameBut.update ..).2 b hb).trans e) ho') fun v o' ⟨e, hp⟩ => e ▸ h o' hp
theorem cmap_free {scope : Scope} {m : Lm} {y : Str} (h : scope.names.lookup y = some .free) : cmap scope m y = m y := by unfold cmap; rw [if_pos h]
end

theorem BfsOk.addAll {nb : Int → List Int} {nodes : List Int} {s : Int} {qs zs : List Int} {i : Nat} {x : Int} (b : BfsOk nb nodes s qs i) (hx : x ∈ qs) (hi : i ≤ qs.length) (hz : ∀ z ∈ zs, z ∈ nb x ∧ z ∈ nodes ∧ z ∉ qs) (hn : zs.Nodup) : BfsOk nb nodes s (qs ++ zs) i := by
  obtain ⟨b1, b2, b3, b4⟩ := b
  refine ⟨?_, ?_, fun y hy => ?_, fun j hj y hy u hu => ?_⟩
  · rw [List.nodup_append]
    refine ⟨b1, hn, fun a ha b hb e => ?_⟩
    subst e; exact (hz a hb).2.2 ha
  · cases qs with
    | nil => simp at b2
    | cons a r => simpa using b2
  · rcases List.mem_append.mp hy with hy | hy
    · exact b3 y hy
    · exact ⟨(hz y hy).2.1, .step (b3 x hx).2 (hz y hy).1⟩
  · rw [List.getElem?_append_left (by omega)] at hy
    exact List.mem_append_left _ (b4 j hj y hy u hu)
theorem pbOf_nodup {es : List (Int × Int)} (h : es.Nodup) (x : Int) : (pbOf es x).Nodup := by
  unfold pbOf
  rw [List.Nodup, List.pairwise_map]
  have h1 : (es.filter fun e => e.2 = x).Nodup := h.sublist List.filter_sublist
  refine List.Pairwise.imp_of_mem ?_ h1
  intro a b ha hb hab e
  have e1 := (List.mem_filter.mp ha).2
  have e2 := (List.mem_filter.mp hb).2
  simp at e1 e2
  exact hab (Prod.ext e (by rw [e1, e2]))

theorem flatMap_above (es : List (Int × Int)) (z : Int) (qs : List Int) : (es.flatMap fun e => if e.2 = z ∧ e.1 ∉ qs then [e.1] else []) = (pbOf es z).filter fun y => decide (y ∉ qs) := by
  induction es with
  | nil => rfl
  | cons e r ih =>
    rw [List.flatMap_cons, ih]
    unfold pbOf
    rw [List.filter_cons]
    by_cases h1 : e.2 = z
    · by_cases h2 : e.1 ∈ qs <;> simp [h1, h2]
    · simp [h1]
theorem above_ev {w : World} {n : Nat} {G : Gr} {k : Kn} (gk : GOk G) {lE : Addr} {oE : Obj} {vs : List Value} {es : List (Int × Int)} {x : Int} {t : Tok} (hk : k lE = some oE) (hl : OList oE vs) (hi : Are (IsPair k) es vs) (hnd : es.Nodup) (hf : es.length ≤ 900) :
    Ev w (n + 1) G k (call (.ref 812) [.ref lE, .int x t]) (fun v k' => ∃ D o us qs, v = .ref D ∧ k' D = some o ∧ OList o us ∧ IsInts qs us ∧ qs.Nodup ∧ qs.head? = some x ∧ ∀ y, y ∈ qs ↔ Reach (pbOf es) x y) := by
  refine Ev_fn gk (fn_above w) ?_
  rw [bind_above]
  refine Ev_pure gk ⟨by kernel_rfl, fun base L => ?_⟩
  refine Mt_cons (Mt_Assign (Mt_List (Mt_spliced_cons (Mt_nameL rfl (Mt_spliced_nil (Mt_newListM fun F oF hTF hoF => Mt_setC ?_))))))
  refine Mt_cons (Mt_For (Mt_nameC rfl (Mt_pyIter_list (.inr (.head _)) hoF fun it oi hT hoi => ?_)))
  let N : List Int := x :: es.map (·.1)
  have hN : N.length = es.length + 1 := by simp [N]
  refine MtC_for (fun c k' m mu => ∃ i oi oF us qs, c = N.length - i ∧ mu = [(it, oi), (F, oF)] ∧ k.Le k' ∧ m "edges" = some (.ref lE) ∧ m "found" = some (.ref F) ∧ OLIter oi F i ∧ OList oF us ∧ IsInts qs us ∧ i ≤ qs.length ∧ BfsOk (pbOf es) N x qs i) ?_ N.length ⟨0, oi, oF, _, [x], rfl, rfl, Kn.Le.refl _, rfl, rfl, hoi, hoF, Are.nil.cons ⟨t, rfl⟩, Nat.zero_le _, by simp, by simp, fun y hy => by simp at hy; subst hy; exact ⟨.head _, .refl⟩, fun j hj => absurd hj (Nat.not_lt_zero _)⟩
  clear hoF hoi
  rintro c k' m mu ⟨i, oi, oF, us, qs, rfl, rfl, le, m1, m2, hoi, hoF, hus, hiq, bf⟩
  have hlen : qs.length ≤ N.length := nodup_len_le bf.1 fun y hy => (bf.2.2.1 y hy).1
  rcases Nat.lt_or_ge i qs.length with hlt | hge
  · obtain ⟨z, hz⟩ : ∃ z, qs[i]? = some z := ⟨qs[i], by simp [hlt]⟩
    obtain ⟨v, hv, tz, rfl⟩ := hus.get hz
    refine Mt_next_list (l1 := []) rfl hoi (.inr (by simp)) hoF hv fun oi' hoi' => ?_
    refine Mt_letOwned (T := "list_iterator") (by decide) hoi'.1 (.head _) (Mt_toC ?_)
    refine Mt_cons (Mt_AugAssign (Mt_load_C (Lm.up m2) ?_ rfl))
    refine Mt_frzB (l1 := [(it, oi')]) (l2 := []) fun kF lF bF => ?_
    have hkF : (k'.put F oF) F = some oF := Kn.put_self _ _ _
    have kF0 : k F = none := by
      cases e : k F with
      | none => rfl
      | some o => rw [le _ _ e] at kF; cases kF
    have leF := le.trans lF
    have hkE : (k'.put F oF) lE = some oE := leF _ _ hk
    have hi' : Are (IsPair (k'.put F oF)) es vs := hi.mono fun _ _ _ h => h.le leF
    generalize k'.put F oF = k2 at *
    let f : Int × Int → List Int := fun e => if e.2 = z ∧ e.1 ∉ qs then [e.1] else []
    refine Mt_ListComp (Mt_nameL (Lm.up m1) (Mt_pyIter_list (.inl hkE) hl fun it2 oi2 hT2 hoi2 => ?_))
    refine ⟨[(it2, oi2)], [(it, oi')], rfl, comp1_in (Src.list w hl hkE hi') f (fun _ d v => IsInt d v) (fun _ _ _ _ _ h => h) (fun m => m "one" = some (.int z tz) ∧ m "found" = some (.ref F)) (by omega) (fun e he => by simp only [f]; split <;> simp) ?_ ?_ ⟨(cmap_free rfl).trans (Lm.set_self _ _ _), (cmap_free rfl).trans (Lm.up m2)⟩ hoi2 (Kn.Le.refl _)⟩
    · clear hoi2 hz
      rintro D L' base' hTD j ⟨u, v⟩ k3 m3 oi3 oD val he ⟨T, oT, a, b, rfl, hT1, hT3, ⟨tu, rfl⟩, ⟨tv, rfl⟩⟩ le3 ⟨i1, i2⟩
      refine Mt_assign_pair (.inl (le3 _ _ hT1)) hT3 (Mt_toL (Mt_toL ?_))
      refine Mt_tests_one (Mt_isTrue_BoolOp (Mt_allTrue_and (Mt_isTrue_Compare (Mt_nameL (Lm.set_self _ _ _) (Mt_nameC (Lm.up (Lm.up i1)) (Mt_eq_int (Mt_truthy_bool ?_)))))))
      by_cases hvz : v = z
      · rw [if_pos (by simpa using hvz)]
        refine Mt_allTrue_and (Mt_isTrue_Compare (Mt_nameL (Lm.up (Lm.set_self _ _ _)) (Mt_nameC (Lm.up (Lm.up i2)) (Mt_notin_ints (.inl (le3 _ _ hkF)) hoF hus (Mt_truthy_bool ?_)))))
        by_cases huq : u ∈ qs
        · rw [if_neg (by simpa using huq)]
          rw [if_neg (by simp)]
          exact ⟨Kn.Le.refl _, rfl, ⟨Lm.up (Lm.up i1), Lm.up (Lm.up i2)⟩, by simp [f, huq]⟩
        · rw [if_pos (by simpa using huq)]
          refine Mt_allTrue_nil ?_
          rw [if_pos (by rfl)]
          exact Mt_nameL (Lm.up (Lm.set_self _ _ _)) ⟨Kn.Le.refl _, rfl, ⟨Lm.up (Lm.up i1), Lm.up (Lm.up i2)⟩, u, by simp [f, huq, hvz], tu, rfl⟩
      · rw [if_neg (by simpa using hvz)]
        rw [if_neg (by simp)]
        exact ⟨Kn.Le.refl _, rfl, ⟨Lm.up (Lm.up i1), Lm.up (Lm.up i2)⟩, by simp [f, hvz]⟩
    · rintro D k3 oD ws hTD hDb kD3 le3 le4 hoD hws
      rw [show es.flatMap f = (pbOf es z).filter fun y => decide (y ∉ qs) from flatMap_above es z qs] at hws
      have kDF : D ≠ F := fun q => by rw [q, le3 _ _ hkF] at kD3; cases kD3
      have hkF' := (le3.trans le4) _ _ hkF
      have hlz : ((pbOf es z).filter fun y => decide (y ∉ qs)).length ≤ es.length := by
        refine Nat.le_trans (List.length_filter_le _ _) ?_
        unfold pbOf; rw [List.length_map]; exact List.length_filter_le _ _
      refine Mt_erase hkF' bF (Mt_iadd_list (l1 := []) (oF := oF) rfl hoF (by rw [Kn.erase_ne _ kDF]; exact Kn.put_self _ _ _) hoD (by rw [← hus.1, ← hws.1]; omega) fun o' ho' => Mt_setC ?_)
      have bf' := bf.addAll (x := z) (zs := (pbOf es z).filter fun y => decide (y ∉ qs)) (List.mem_of_getElem? hz) hiq (fun y hy => by
        rw [List.mem_filter] at hy
        refine ⟨hy.1, .tail _ ?_, by simpa using hy.2⟩
        exact List.mem_map.mpr ⟨(y, z), mem_pbOf.mp hy.1, rfl⟩) ((pbOf_nodup hnd z).sublist List.filter_sublist)
      have hz' : (qs ++ (pbOf es z).filter fun y => decide (y ∉ qs))[i]? = some z := by rw [List.getElem?_append_left hlt]; exact hz
      refine Mt_perm (mu' := [(it, oi'), (F, o')]) (List.Perm.swap _ _ _) (Mt_nil ⟨N.length - (i + 1), by omega, i + 1, oi', o', us ++ ws, _, rfl, rfl, Kn.le_erase ((leF.trans le3).trans le4) kF0, Lm.up (Lm.up m1), Lm.set_self _ _ _, hoi', ho', hus.app hws, by rw [List.length_append]; omega, bf'.next hz' fun y hy => ?_⟩)
      by_cases hyq : y ∈ qs
      · exact List.mem_append_left _ hyq
      · exact List.mem_append_right _ (List.mem_filter.mpr ⟨hy, by simpa using hyq⟩)
  · refine Mt_next_list_end (l1 := []) rfl hoi (.inr (by simp)) hoF (by rw [← hus.1]; exact hge) ?_
    refine Mt_frz (l1 := []) fun kq lq => ?_
    exact Mt_nil (Mt_cons (Mt_Return (Mt_nameC m2 ⟨F, oF, us, qs, rfl, Kn.put_self _ _ _, hoF, hus, bf.1, bf.2.1, bf.fin hge⟩)))
end Mine

-- LY
namespace Mine
/-! one stretch of a generator, from a waking to the next yield or to its end -/
def SegG (M : Model) (A : Around) (Φ : End → Shared → Prop) (c : Code) (t : Sem PySem.Fin) (fs : List Frame) (s : Shared) : Prop :=
  ∀ Γ p, Γ.code = c → Γ.Woken A → ∃ e s', Runs M Γ p t fs s e s' ∧ Φ e s'

section
variable {M : Model} {A : Around} {Φ : End → Shared → Prop} {c : Code} {fs : List Frame} {s : Shared}
theorem sg_wrap {α : Type} {m : Sem α} {K : α → Sem PySem.Fin} {H : Value → Sem PySem.Fin} {gd lv}
    (h : wpAny M (A.over c fs) m (fun a s' => SegG M A Φ c (K a) fs s') (fun x s' => SegG M A Φ c (H x) fs s') s) : SegG M A Φ c (m.wrap K H gd lv) fs s := by
  rintro Γ p rfl hΓ
  exact runs_wrap_of_wp K H gd lv m (h (Γ.over fs) p (hΓ.over fs)) (fun a p' s' h' => h' Γ p' rfl hΓ) (fun x p' s' h' => h' Γ p' rfl hΓ)
theorem sg_bind_wrap {α β : Type} {m : Sem α} {K : α → Sem β} {K' : β → Sem PySem.Fin} {H' : Value → Sem PySem.Fin} {gd lv}
    (h : wpAny M (A.over c fs) m (fun a s' => SegG M A Φ c ((K a).wrap K' H' gd lv) fs s') (fun x s' => SegG M A Φ c (H' x) fs s') s) : SegG M A Φ c ((m >>= K).wrap K' H' gd lv) fs s := by
  rw [Sem.bind_eq_wrap', Sem.wrap_wrap]; exact sg_wrap h
theorem sg_at {p' : Pos} {k : Unit → Sem PySem.Fin} (h : SegG M A Φ c (k ()) fs s) : SegG M A Φ c (.at p' k) fs s :=
  sg_wrap (m := standAt p') (K := k) (H := .raise) (gd := id) (lv := id) (wpAny_standAt h)
theorem sg_point {l : List Value} {k : Unit → Sem PySem.Fin} (h : SegG M A Φ c (k ()) fs s) : SegG M A Φ c (.point l k) fs s :=
  sg_wrap (m := point) (K := k) (H := .raise) (gd := id) (lv := fun _ => l) (wpAny_point h)
theorem sg_call {c' : Code} {h g l} {k : Result → Sem PySem.Fin} (hc : ∀ p, SegG M A Φ c' (M.den c') (.ret k h g l c p [] :: fs) s) : SegG M A Φ c (.call c' h g l k) fs s := by
  rintro Γ p rfl hΓ
  obtain ⟨e, s', hr, he⟩ := hc p (Γ.goto c') p rfl (hΓ.goto c')
  exact ⟨e, s', runs_call_seg hr, he⟩
theorem sg_leaf {k h g l c₁ p₁ kp} (r : Result) (hk : SegG M A Φ c₁ (k r) fs s) : SegG M A Φ c (leafOf r) (.ret k h g l c₁ p₁ kp :: fs) s := by
  rintro Γ p rfl hΓ
  obtain ⟨e, s', hr, he⟩ := hk (Γ.goto c₁) p₁ rfl (hΓ.goto c₁)
  exact ⟨e, s', Runs.pop r hr, he⟩
theorem sg_again {c' : Code} (hq : c'.quiet = true) (hc : SegG M A Φ c' (M.den c') fs s) : SegG M A Φ c (.pure (.again c')) fs s := by
  rintro Γ p rfl hΓ
  obtain ⟨e, s', hr, he⟩ := hc (Γ.goto c') p rfl (hΓ.goto c')
  exact ⟨e, s', Runs.head (c₁ := c') (fun _ _ x => .again hq x) hr, he⟩
theorem sg_end (r : Result) (h : Φ (.ret r) s) : SegG M A Φ c (leafOf r) [] s := by
  rintro Γ p rfl _
  exact ⟨.ret r, s, Runs.leaf r, h⟩
theorem sg_yield {v g l} {k : Resume → Sem PySem.Fin} (hfs : splitAtGen fs = none) (h : ∀ p, Φ (.susp v g l k c p fs) s) : SegG M A Φ c (.yield v g l k) fs s := by
  rintro Γ p rfl _
  exact ⟨_, s, Runs.yield' fs hfs, h p⟩
end
def GoesG (M : Model) (A : Around) (Φ : End → Shared → Prop) (gs : GenState) (r : Resume) (s : Shared) : Prop :=
  match gs with
  | .fresh c => r = .send .none ∧ SegG M A Φ c (M.den c) [] s
  | .suspended k _ c _ fs _ => SegG M A Φ c (k r) fs s
  | _ => False
theorem resume_G {M : Model} {A : Around} {Φ : End → Shared → Prop} {E : Value → Shared → Prop} {s : Shared} {g : Nat} {gs : GenState}
    {r : Resume} {l : List Value} {α : Type} {k : GenResult → Sem α} {Q : α → Shared → Prop} (hg : s.gens[g]? = some gs) (hgo : GoesG M A Φ gs r (s.setGen g .running))
    (hE : ∀ e s₁, Φ e s₁ → e.quiet = true ∧ wpAny M A (k e.result) Q E (s₁.setGen g e.genState)) : wpAny M A (.resume g r l k) Q E s := by
  intro Γ p hΓ
  rw [Sem.wp_resume]
  have hB : ∀ c, (Γ.wake c p).Woken A := fun c => hΓ.wake c p
  cases gs with
  | fresh c =>
    obtain ⟨rfl, hs⟩ := hgo
    obtain ⟨e₁, s₁, hr, he⟩ := hs (Γ.wake c p) p rfl (hB c)
    obtain ⟨hq, hw⟩ := hE e₁ s₁ he
    exact ⟨_, _, by unfold Wakes; rw [hg]; exact ⟨e₁, s₁, hr, hq, rfl, rfl⟩, hw Γ p hΓ⟩
  | suspended k₀ l₀ c₀ p₀ fs₀ cl =>
    obtain ⟨e₁, s₁, hr, he⟩ := hgo (Γ.wake c₀ p) p₀ rfl (hB c₀)
    obtain ⟨hq, hw⟩ := hE e₁ s₁ he
    exact ⟨_, _, by unfold Wakes; rw [hg]; exact ⟨e₁, s₁, hr, hq, rfl, rfl⟩, hw Γ p hΓ⟩
  | running => exact hgo.elim
  | finished => exact hgo.elim

/-- the next value of a generator -/
theorem pyNext_G {w : World} {A : Around} {E : Value → Shared → Prop} {s : Shared} {Φ : End → Shared → Prop} {a : Addr} {g : Nat} {gs : GenState} {Q : Option Value → Shared → Prop} (hh : A.handled = none)
    (hl : s.heap.NoLimit) (hroom : A.depth < recursionLimit) (hg : s.heap.IsGen a g) (hgs : s.gens[g]? = some gs) (hgo : GoesG (model P w) A.in1 Φ gs (.send .none) (s.setGen g .running))
    (hE : ∀ e s₁, Φ e s₁ → e.quiet = true ∧ match e with
      | .ret r => r = .ok (.ret .none) ∧ ∀ h', (∀ b o, s₁.heap.get? b = some o → h'.get? b = some o) → Q none { s₁.setGen g .finished with heap := h' }
      | .susp v g₀ l k c p fs => Q (some v) (s₁.setGen g (End.susp v g₀ l k c p fs).genState)) :
    wpAny (model P w) A (pyNext (.ref a)) Q E s := by
  unfold pyNext
  refine wpAny_bind (wpAny_attempt (wpAny_callSpecial?_slot (name := Str.ofString "__next__") hg.typeIs slot_gen_next
    (wpAny_call_entry slot_gen_next hg.typeIs entry_gen_next ?_ (args_gen_next _))))
  show wpAny _ _ (Builtin.Generator.genWake (.ref a) (.send .none)) _ _ s
  unfold Builtin.Generator.genWake
  refine wpAny_bind (wpAny_holding (wpAny_genNumber hg (wpAny_bind (wpAny_genState hgs ?_))))
  cases gs with
  | running => exact hgo.elim
  | finished => exact hgo.elim
  | _ =>
    refine wpAny_bind (wpAny_roomToWake hl hroom ?_)
    show wpAny _ _ (.resume g (.send .none) [] _) _ _ s
    refine resume_G hgs hgo fun e s₁ he => ?_
    obtain ⟨hq, hm⟩ := hE e s₁ he
    refine ⟨hq, ?_⟩
    cases e with
    | ret r =>
      obtain ⟨rfl, hp⟩ := hm
      show wpAny _ _ (newExc (.type "StopIteration") [] >>= _) _ _ _
      refine wpAny_bind ?_
      simp only [newExc, newTuple]
      refine wpAny_bind (wpAny_newObj_type ?_ (by size_fits))
      refine wpAny_bind (m := firstArgMember _ _) (wpAny_of_eq (a := Value.none) (by first | rfl | (simp only [firstArgMember]; rfl)) ?_)
      refine wpAny_newObj_type ?_ (by size_fits)
      simp only [raiseNew]
      refine wpAny_bind (wpAny_bind (wpAny_handled ?_))
      rw [show A.in1.handled = none from hh]
      refine wpAny_throw ?_
      refine wpAny_bind (wpAny_isInstance (T := "StopIteration") (b := true) ⟨_, Heap.get?_push_size _ rfl, rfl⟩ isSubtype_stop ?_)
      exact wpAny_pure (hp _ fun b o hb => Heap.get?_push_of_some _ (Heap.get?_push_of_some _ hb))
    | susp v g₀ l k c p fs => exact wpAny_pure ⟨v, rfl, wpAny_pure hm⟩
end Mine

-- LZ
namespace Mine
/-- what a stretch leaves behind -/
def MvP (k : Kn) (mu : Mu) (s s' : Shared) (k' : Kn) (mu' : Mu) : Prop :=
  (∃ h tk d, s' = { s with heap := h, toks := tk, drawn := d }) ∧ TabG s.heap s'.heap ∧ (∀ b o, b ∉ TB :: mu.map (·.1) → s.heap.get? b = some o → s'.heap.get? b = some o) ∧ k'.In s'.heap ∧ k.Le k' ∧ (∀ b o, b ∉ mu.map (·.1) → s.heap.get? b = some o → k' b = k b) ∧ (mu'.map (·.1)).Nodup ∧ (∀ p ∈ mu', s'.heap.get? p.1 = some p.2 ∧ k' p.1 = none ∧ p.1 ≠ TB ∧ (p.1 ∈ mu.map (·.1) ∨ s.heap.get? p.1 = none))
def GStep (w : World) (n : Nat) (gs : GenState) (mu : Mu) (k : Kn) (Po : End → Kn → Mu → Prop) : Prop :=
  ∀ (s : Shared) (A : Around), OkA n A → Prog w (hideAll s.heap (TB :: mu.map (·.1))) → TabOk s.heap → k.In s.heap → k TB = none → (∀ p ∈ mu, s.heap.get? p.1 = some p.2) → (∀ p ∈ mu, k p.1 = none) → (mu.map (·.1)).Nodup → (∀ p ∈ mu, p.1 ≠ TB) →
    GoesG (model P w) A (fun e s' => e.quiet = true ∧ ∃ k' mu', MvP k mu s s' k' mu' ∧ Po e k' mu') gs (.send .none) s
def GenM {ρ : Type} (w : World) (n : Nat) (Row : ρ → Value → Kn → Prop) : List ρ → GenState → Mu → Kn → Prop
  | [], gs, mu, k => GStep w n gs mu k fun e _ _ => e = .ret (.ok (.ret .none))
  | r :: rs, gs, mu, k => GStep w n gs mu k fun e k' mu' => (∃ v g l kk c p fs, e = .susp v g l kk c p fs ∧ Row r v k') ∧ GenM w n Row rs e.genState mu' k'

def Kn.or (k k' : Kn) : Kn := fun b => (k b).or (k' b)
def OGen (o : Obj) (g : Nat) : Prop := ∃ nm qn, o.cls = .type "generator" ∧ o.data = .fields #[.int g 0, nm, qn] ∧ o.slots = #[]
def AfterX (s s' : Shared) : Prop := ∃ h tk g d, s' = { s with heap := h, toks := tk, gens := g, drawn := d }
theorem AfterX.refl (s : Shared) : AfterX s s := ⟨s.heap, s.toks, s.gens, _, rfl⟩
theorem AfterX.trans {a b c : Shared} (x : AfterX a b) (y : AfterX b c) : AfterX a c := by
  obtain ⟨h, t, g, _, rfl⟩ := x
  obtain ⟨h', t', g', _, rfl⟩ := y
  exact ⟨h', t', g', _, rfl⟩
theorem After.X {G : Gr} {s s' : Shared} (x : After G s s') : AfterX s s' := let ⟨h, t, g, ⟨d, e⟩, _, _⟩ := x; ⟨h, t, g, d, e⟩
theorem After.tab {G : Gr} {s s' : Shared} (x : After G s s') : TabG s.heap s'.heap := by obtain ⟨_, _, _, ⟨_, rfl⟩, _, y⟩ := x; exact y

theorem next_G {ρ : Type} {C : Cx} {k kG : Kn} {m : Lm} {muG mu2 : Mu} {s : Shared} {A : Around} {E : Value → Shared → Prop} {Q : Option Value → Shared → Prop} {n : Nat} {Row : ρ → Value → Kn → Prop} {rs : List ρ} {a : Addr} {oa : Obj} {g : Nat} {gs : GenState}
    (hA : OkA (n + 1) A) (S : Stt C k m (muG ++ mu2) s.heap) (hle : kG.Le k) (ha : k a = some oa) (hoa : OGen oa g) (hgs : s.gens[g]? = some gs) (hG : GenM C.w n Row rs gs muG kG)
    (h : ∀ s' kG' muG' k' x gs', AfterX s s' → s'.gens = (s.gens.set! g gs') → TabG s.heap s'.heap → Stt C k' m (muG' ++ mu2) s'.heap → k.Le k' → kG'.Le k' → gs'.bare = true →
      (match rs with | [] => x = none ∧ gs' = .finished | r :: rs' => (∃ v, x = some v ∧ Row r v kG') ∧ GenM C.w n Row rs' gs' muG' kG') → Q x s') : wpAny (model P C.w) A (pyNext (.ref a)) Q E s := by
  have nd := S.nd
  rw [List.map_append, List.nodup_append] at nd
  have n1 : ∀ p ∈ muG, p ∈ muG ++ mu2 := fun p hp => List.mem_append_left _ hp
  have kGT : kG TB = none := by
    cases e : kG TB with
    | none => rfl
    | some o => have := hle _ _ e; rw [S.kT] at this; cases this
  have kGm : ∀ p ∈ muG, kG p.1 = none := fun p hp => by
    cases e : kG p.1 with
    | none => rfl
    | some o => have := hle _ _ e; rw [S.kmu p (n1 p hp)] at this; cases this
  have step : ∀ {Po : End → Kn → Mu → Prop}, GStep C.w n gs muG kG Po → GoesG (model P C.w) A.in1 (fun e s' => e.quiet = true ∧ ∃ k' mu', MvP kG muG (s.setGen g .running) s' k' mu' ∧ Po e k' mu') gs (.send .none) (s.setGen g .running) := fun hs =>
    hs (s.setGen g .running) A.in1 hA.in1 (mv_prog (S : Stt C k m (muG ++ mu2) (s.setGen g .running).heap)) S.tab (fun b o e => S.kin b o (hle b o e)) kGT (fun p hp => S.own p (n1 p hp)) kGm nd.1 (fun p hp => S.muT p (n1 p hp))
  have back : ∀ {s₁ : Shared} {k' : Kn} {mu' : Mu}, MvP kG muG (s.setGen g .running) s₁ k' mu' → ∀ (h' : Heap) gs', (∀ b o, s₁.heap.get? b = some o → h'.get? b = some o) →
      AfterX s { s₁.setGen g gs' with heap := h' } ∧ ({ s₁.setGen g gs' with heap := h' } : Shared).gens = s.gens.set! g gs' ∧ TabG s.heap h' ∧ Stt C (k.or k') m (mu' ++ mu2) h' ∧ k.Le (k.or k') ∧ k'.Le (k.or k') := by
    rintro s₁ k' mu' ⟨⟨h₁, tk₁, d₁, rfl⟩, tg, old, kin, le, ex, nd', pm⟩ h' gs' kp
    have tg' : TabG s.heap h' := fun ps e => kp _ _ (tg ps e)
    have hkp : ∀ b o, k b = some o → h'.get? b = some o := fun b o e => by
      refine kp _ _ (old b o (fun hm => ?_) (S.kin b o e))
      rcases List.mem_cons.mp hm with rfl | hm
      · rw [S.kT] at e; cases e
      · obtain ⟨p, hp, rfl⟩ := List.mem_map.mp hm
        rw [S.kmu p (n1 p hp)] at e; cases e
    have le1 : k.Le (k.or k') := fun b o e => by unfold Kn.or; rw [e]; rfl
    refine ⟨⟨h', tk₁, _, _, rfl⟩, ?_, tg', ?_, le1, fun b o e => ?_⟩
    · show (Array.set! _ g gs') = _
      simp [Shared.setGen]
    · refine (mv_backT (s := s) (s' := { s with heap := h' }) (k' := k.or k') (mu' := mu') S (tg'.ok S.tab) (fun b o hb e => kp _ _ (old b o hb e)) (fun b o e => ?_) le1 (fun b o hb e => ?_) nd' (fun p hp => ?_)).1
      · unfold Kn.or at e
        cases e1 : k b with
        | some o1 => rw [e1] at e; simp at e; subst e; exact hkp b _ e1
        | none => rw [e1] at e; simp at e; exact kp _ _ (kin b o e)
      · unfold Kn.or
        cases e1 : k b with
        | some o1 => rfl
        | none =>
          have := ex b o hb e
          simp only [Option.none_or]
          rw [this]
          cases e2 : kG b with
          | none => rfl
          | some o2 => have := hle _ _ e2; rw [e1] at this; cases this
      · obtain ⟨p1, p2, p3, p4⟩ := pm p hp
        refine ⟨kp _ _ p1, ?_, p3, p4⟩
        unfold Kn.or
        rw [p2, Option.or_none]
        rcases p4 with h1 | h1
        · obtain ⟨q, hq, e⟩ := List.mem_map.mp h1
          rw [← e]; exact S.kmu q (n1 q hq)
        · cases e : k p.1 with
          | none => rfl
          | some o => have := S.kin _ _ e; rw [show s.heap.get? p.1 = none from h1] at this; cases this
    · unfold Kn.or
      cases e1 : k b with
      | none => simpa using e
      | some o1 =>
        have h1 := hkp b o1 e1
        have h2 := kp _ _ (kin b o e)
        rw [h1] at h2; cases h2; rfl
  have hg : s.heap.IsGen a g := let ⟨nm, qn, h1, h2, h3⟩ := hoa; ⟨oa, nm, qn, S.kin _ _ ha, h1, h2, h3⟩
  cases rs with
  | nil =>
    refine pyNext_G hA.handled S.progs.nolimit hA.room hg hgs (step hG) fun e s₁ ⟨hq, k', mu', hm, he⟩ => ?_
    subst he
    refine ⟨rfl, rfl, fun h' hk => ?_⟩
    obtain ⟨b1, b2, b0, b3, b4, b5⟩ := back hm h' .finished hk
    exact h _ k' mu' _ none .finished b1 b2 b0 b3 b4 b5 rfl ⟨rfl, rfl⟩
  | cons r rs' =>
    refine pyNext_G hA.handled S.progs.nolimit hA.room hg hgs (step hG) fun e s₁ ⟨hq, k', mu', hm, ⟨v, g₀, l, kk, c, p, fs, he, hr⟩, hn⟩ => ?_
    subst he
    refine ⟨hq, ?_⟩
    obtain ⟨b1, b2, b0, b3, b4, b5⟩ := back hm s₁.heap _ fun _ _ e => e
    exact h _ k' mu' _ (some v) _ b1 b2 b0 b3 b4 b5 (End.bare_of_quiet hq) ⟨⟨v, rfl, hr⟩, hn⟩
end Mine

-- MA
namespace Mine
abbrev EqG : Gr := fun a b => a = b
theorem eqG_ok : GOk EqG := ⟨fun _ => rfl, fun _ _ _ x y => Eq.trans x y⟩
def AfterQ (s s' : Shared) : Prop := (∃ h tk d, s' = { s with heap := h, toks := tk, drawn := d }) ∧ TabG s.heap s'.heap
theorem AfterQ.refl (s : Shared) : AfterQ s s := ⟨⟨s.heap, s.toks, _, rfl⟩, TabG.refl _⟩
theorem AfterQ.trans {a b c : Shared} (x : AfterQ a b) (y : AfterQ b c) : AfterQ a c := by
  obtain ⟨⟨h, t, _, rfl⟩, x⟩ := x
  obtain ⟨⟨h', t', _, rfl⟩, y⟩ := y
  exact ⟨⟨h', t', _, rfl⟩, x.trans y⟩
theorem AfterQ.of {s s' : Shared} (x : After EqG s s') : AfterQ s s' := by
  obtain ⟨h, t, g, ⟨_, rfl⟩, e, y⟩ := x
  exact ⟨⟨h, t, _, by rw [← show s.gens = g from e]⟩, y⟩

/-- a tree of a generator's frame -/
def Sg (C : Cx) (A : Around) (Φ : End → Shared → Prop) (c : Code) (fs : List Frame) (s0 : Shared) (k : Kn) (m : Lm) (mu : Mu) (t : Sem PySem.Fin) : Prop :=
  ∀ s, AfterQ s0 s → Stt C k m mu s.heap → SegG (model P C.w) A Φ c t fs s
section
variable {C : Cx} {A : Around} {Φ : End → Shared → Prop} {c : Code} {fs : List Frame} {s0 : Shared} {k : Kn} {m : Lm} {mu : Mu}
  {α β : Type} {H : Value → Sem PySem.Fin} {gd : Bool → Bool} {lv : List Value → List Value}
theorem Sg_wrap {t : Sem α} {K : α → Sem PySem.Fin} (hG : C.G = EqG) (hA : OkA C.n (A.over c fs)) (h : Mt C k m mu t (fun a k m mu => Sg C A Φ c fs s0 k m mu (K a))) : Sg C A Φ c fs s0 k m mu (t.wrap K H gd lv) := fun s af S =>
  sg_wrap (wpAny_mono (h s _ (fun _ _ => False) hA S) (fun a s' ⟨k', m', mu', af', S', q⟩ => q s' (af.trans (AfterQ.of (hG ▸ af'))) S') fun _ _ e => e.elim)
theorem Sg_bind {t : Sem α} {f : α → Sem β} {K : β → Sem PySem.Fin} (hG : C.G = EqG) (hA : OkA C.n (A.over c fs)) (h : Mt C k m mu t (fun a k m mu => Sg C A Φ c fs s0 k m mu ((f a).wrap K H gd lv))) : Sg C A Φ c fs s0 k m mu ((t >>= f).wrap K H gd lv) := by
  rw [Sem.bind_eq_wrap', Sem.wrap_wrap]; exact Sg_wrap hG hA h
theorem Sg_cons {st : Stmt} {rest : List Stmt} {K : Flow → Sem PySem.Fin} (hG : C.G = EqG) (hA : OkA C.n (A.over c fs)) (h : Mt C k m mu (exec st C.env) (fun f k m mu => f = .next ∧ Sg C A Φ c fs s0 k m mu ((execs rest C.env).wrap K H gd lv))) :
    Sg C A Φ c fs s0 k m mu ((execs (st :: rest) C.env).wrap K H gd lv) := by
  rw [execs_cons_wrap]
  exact Sg_wrap hG hA (Mt_mono h fun f k m mu ⟨e, h⟩ => by subst e; exact h)
theorem Sg_consX {st : Stmt} {rest : List Stmt} {K : Flow → Sem PySem.Fin} (h : Sg C A Φ c fs s0 k m mu ((exec st C.env).wrap (fun f => match f with | .next => (execs rest C.env).wrap K H gd lv | f => K f) H gd lv)) :
    Sg C A Φ c fs s0 k m mu ((execs (st :: rest) C.env).wrap K H gd lv) := by rw [execs_cons_wrap]; exact h
theorem Sg_nil {K : Flow → Sem PySem.Fin} (h : Sg C A Φ c fs s0 k m mu (K .next)) : Sg C A Φ c fs s0 k m mu ((execs [] C.env).wrap K H gd lv) := h
theorem Sg_If {test : PySem.Expr} {body orelse : List Stmt} {pos : Pos} {K : Flow → Sem PySem.Fin} (hG : C.G = EqG) (hA : OkA C.n (A.over c fs)) (h : Mt C k m mu (isTrue test C.env (eval test C.env)) (fun b k m mu => if b = true then Sg C A Φ c fs s0 k m mu ((execs body C.env).wrap K H gd lv) else Sg C A Φ c fs s0 k m mu ((execs orelse C.env).wrap K H gd lv))) :
    Sg C A Φ c fs s0 k m mu ((exec (.If test body orelse pos) C.env).wrap K H gd lv) := by
  rw [exec_If]
  refine Sg_bind hG hA (Mt_standAt (Sg_bind hG hA (Mt_mono h fun b k m mu h => ?_)))
  cases b <;> exact h
theorem Sg_again {c' : Code} (hq : c'.quiet = true) (h : Sg C A Φ c' fs s0 k m mu ((model P C.w).den c')) : Sg C A Φ c fs s0 k m mu (.pure (.again c')) := fun s af S => sg_again hq (h s af S)
theorem Sg_leaf {kk h g l c₁ p₁ kp} (r : Result) (hk : Sg C A Φ c₁ fs s0 k m mu (kk r)) : Sg C A Φ c (.ret kk h g l c₁ p₁ kp :: fs) s0 k m mu (leafOf r) := fun s af S => sg_leaf r (hk s af S)
theorem Sg_point {l : List Value} {kk : Unit → Sem PySem.Fin} (h : Sg C A Φ c fs s0 k m mu (kk ())) : Sg C A Φ c fs s0 k m mu (.point l kk) := fun s af S => sg_point (h s af S)
theorem Sg_at {p : Pos} {kk : Unit → Sem PySem.Fin} (h : Sg C A Φ c fs s0 k m mu (kk ())) : Sg C A Φ c fs s0 k m mu (.at p kk) := fun s af S => sg_at (h s af S)
/-- yield e -/
theorem Sg_Yield {e : PySem.Expr} {ypos pos : Pos} {K : Flow → Sem PySem.Fin} (hG : C.G = EqG) (hA : OkA C.n (A.over c fs)) (hfs : splitAtGen fs = none) (hgd : gd false = false)
    (h : Mt C k m mu (eval e C.env) (fun v k m mu => ∀ s p l kk, AfterQ s0 s → Stt C k m mu s.heap → kk (.send .none) = K .next → Φ (.susp v false l kk c p fs) s))
    (hco : C.env.scope.isCoroutine = false := by rfl) (hi : interactive C.env = false := by rfl) :
    Sg C A Φ c fs s0 k m mu ((exec (.Expr (.Yield (some e) ypos) pos) C.env).wrap K H gd lv) := by
  rw [exec_Expr C.env _ pos hi rfl]
  show Sg C A Φ c fs s0 k m mu (.at pos fun _ => ((eval e C.env >>= fun v => (standAt ypos >>= fun _ => yieldOut C.env v)) >>= fun x => dropValue (.Yield (some e) ypos) pos x).wrap K H gd lv)
  have hy : ∀ v, yieldOut C.env v = yieldValue v := fun v => by simp only [yieldOut, hco, Bool.false_eq_true, if_false]
  simp only [hy]
  refine Sg_at ?_
  rw [Sem.bind_eq_wrap', Sem.bind_eq_wrap', Sem.wrap_wrap, Sem.wrap_wrap]
  refine Sg_wrap hG hA (Mt_mono h fun v k m mu h s af S => ?_)
  refine sg_at (sg_yield hfs fun p => ?_)
  simp only [id]
  rw [hgd]
  exact h s p _ _ af S rfl

abbrev ownK (env : Env) (K : Flow → Sem PySem.Fin) (H : Value → Sem PySem.Fin) (gd : Bool → Bool) (lv : List Value → List Value) : Result → Sem PySem.Fin := fun r =>
  ((match r with | .ok f => (.pure f : Sem Flow) | .error e => .raise e).onRaise fun (x : Value) => do
    if (← field x 1) == Value.none then unsupported "frame.own-activation:exception-without-traceback"
    setFlight x env.frame).wrap K H gd lv
theorem Sg_runOwn {c' : Code} {K : Flow → Sem PySem.Fin} (h : ∀ p, Sg C A Φ c' (.ret (ownK C.env K H gd lv) none (gd false) (lv []) c p [] :: fs) s0 k m mu ((model P C.w).den c')) : Sg C A Φ c fs s0 k m mu ((runOwn c' C.env).wrap K H gd lv) :=
  fun s af S => sg_call fun p => h p s af S
theorem Sg_For {target iter : PySem.Expr} {body orelse : List Stmt} {pos : Pos} {K : Flow → Sem PySem.Fin} (hG : C.G = EqG) (hA : OkA C.n (A.over c fs))
    (h : Mt C k m mu (eval iter C.env) (fun x k m mu => Mt C k m mu (pyIter x) (fun it k m mu => ∀ p, Sg C A Φ (.forLoop target it body orelse C.env) (.ret (ownK C.env K H gd lv) none (gd false) (lv []) c p [] :: fs) s0 k m mu ((model P C.w).den (.forLoop target it body orelse C.env)))))
    (hs : ∀ x, foldedSetIterable iter C.env x = pure x := by intro _; rfl) : Sg C A Φ c fs s0 k m mu ((exec (.For target iter body orelse pos) C.env).wrap K H gd lv) := by
  rw [exec_For]
  refine Sg_bind hG hA (Mt_standAt (Sg_bind hG hA (Mt_mono h fun x k m mu h => ?_)))
  rw [hs]
  refine Sg_bind hG hA (Mt_pure (Sg_bind hG hA (Mt_standAt (Sg_bind hG hA (Mt_holding (Mt_mono h fun it k m mu h => Sg_runOwn h))))))
abbrev turnK (target : PySem.Expr) (it : Value) (body orelse : List Stmt) (env : Env) : Flow → Sem PySem.Fin
  | .next | .cont => .pure (.again (.forLoop target it body orelse env))
  | .brk => .pure (.done .next)
  | .ret v => .pure (.done (.ret v))
abbrev turnH (env : Env) : Value → Sem PySem.Fin := fun e => (do noteFrame e env; theTreesLotGoes e : Sem Unit).wrap (fun _ => .raise e) .raise id id
theorem Sg_forLoop {target : PySem.Expr} {it : Value} {body orelse : List Stmt} (hG : C.G = EqG) (hA : OkA C.n (A.over (.forLoop target it body orelse C.env) fs))
    (h : Mt C k m mu (pyNext it) (fun r k m mu => match r with
      | none => Sg C A Φ (.block orelse C.env) fs s0 k m mu ((model P C.w).den (.block orelse C.env))
      | some v => Mt C k m mu (letOwnedTupleGo target it v) (fun _ k m mu => Mt C k m mu (assign target C.env v) (fun _ k m mu =>
          Sg C A Φ (.forLoop target it body orelse C.env) fs s0 k m mu ((execs body C.env).wrap (turnK target it body orelse C.env) (turnH C.env) id id))))) :
    Sg C A Φ (.forLoop target it body orelse C.env) fs s0 k m mu ((model P C.w).den (.forLoop target it body orelse C.env)) := by
  show Sg C A Φ _ fs s0 k m mu ((forTurn target it body orelse C.env).onRaise (fun x => do noteFrame x C.env; theTreesLotGoes x))
  unfold forTurn
  rw [Sem.onRaise_eq_wrap]
  refine Sg_bind hG hA (Mt_standAt (Sg_bind hG hA (Mt_onRaise (Mt_mono h fun r k m mu h => ?_))))
  cases r with
  | none => exact Sg_again rfl h
  | some v =>
    refine Sg_bind hG hA (Mt_mono h fun _ k m mu h => Sg_bind hG hA (Mt_mono h fun _ k m mu h => ?_))
    rw [Sem.bind_eq_wrap', Sem.wrap_wrap]
    rw [Sem.wrap_congr (execs body C.env) _ _ (K' := turnK target it body orelse C.env) (H' := turnH C.env) (fun f => by cases f <;> rfl)
      (fun e => by first | exact Sem.bind_eq_wrap _ _ | (show (do noteFrame e C.env; theTreesLotGoes e : Sem Unit).bind (fun _ => .raise e) = _; rw [Sem.bind_eq_wrap]))]
    exact h
/-- the end: no else, the loop's frame goes, and the function ends -/
theorem Sg_block_nil {kk h g l c₁ p₁ kp} (hk : Sg C A Φ c₁ fs s0 k m mu (kk (.ok .next))) : Sg C A Φ (.block [] C.env) (.ret kk h g l c₁ p₁ kp :: fs) s0 k m mu ((model P C.w).den (.block [] C.env)) :=
  Sg_leaf (.ok .next) hk
theorem Sg_func {body : List Stmt}
    (h : Sg C A Φ (.func body C.env) fs s0 k m mu ((execs body C.env).wrap (fun f => .pure (.done (.ret (match f with | .ret v => v | _ => .none)))) (fun e => (leaving C.env e).wrap (fun _ => .raise e) .raise id id) id id)) :
    Sg C A Φ (.func body C.env) fs s0 k m mu ((model P C.w).den (.func body C.env)) := by
  show Sg C A Φ _ fs s0 k m mu (.point [] fun _ => ((execs body C.env).onRaise (leaving C.env)) >>= _)
  refine Sg_point ?_
  rw [Sem.onRaise_eq_wrap, Sem.bind_eq_wrap', Sem.wrap_wrap]
  rw [Sem.wrap_congr (execs body C.env) _ _ (K' := fun f => .pure (.done (.ret (match f with | .ret v => v | _ => .none))))
    (H' := fun e => (leaving C.env e).wrap (fun _ => .raise e) .raise id id) (fun f => by cases f <;> rfl)
    (fun e => by rw [Sem.bind_eq_wrap, Sem.wrap_wrap]; rfl)]
  exact h
theorem Sg_end {r : Result} (h : ∀ s, AfterQ s0 s → Stt C k m mu s.heap → Φ (.ret r) s) : Sg C A Φ c [] s0 k m mu (leafOf r) := fun s af S => sg_end r (h s af S)
end
end Mine

-- MB
namespace Mine
abbrev Cx.reb (C : Cx) (b : Heap) (k : Kn) : Cx := { C with base := b, k0 := k }
def LocObj (o : Obj) (ml : Lm) : Prop := ∃ es ep, o.data = .dict es ep ∧ StrKeys es ∧ ∀ name, nsFind es name = ml name
/-- a generator's frame at rest: its own objects -/
def Asleep (C : Cx) (m : Lm) (muX mu : Mu) : Prop :=
  ∃ oL oc c x ml, C.ownv = [x] ∧ C.env.cells.lookup x = some c ∧ muX = (C.env.locals, oL) :: (c, oc) :: mu ∧ LocObj oL ml ∧ (∀ y, C.env.kindOf y = some .local → ml y = m y) ∧ oc.data = .cell (m x)
/-- what of a generator's frame never turns -/
structure GFr (C : Cx) : Prop where
  g : C.G = EqG
  kind : C.env.scope.kind = .function
  cellv : ∀ x ∈ C.ownv, C.env.kindOf x = some .cell
  cells : ∀ x, x ∉ C.ownv → C.env.cells.lookup x = none
  one : ∃ x c, C.ownv = [x] ∧ C.env.cells.lookup x = some c

theorem stt_sleep {C : Cx} {k k0 : Kn} {m : Lm} {mu mu0 : Mu} {s0 s : Shared} (gf : GFr C) (S : Stt C k m mu s.heap) (hb : C.base = hideAll s0.heap (TB :: mu0.map (·.1))) (hk0 : C.k0 = k0) (hkT : k0 TB = none) (af : AfterQ s0 s) : ∃ muX, Asleep C m muX mu ∧ MvP k0 mu0 s0 s k muX := by
  obtain ⟨x, c, hx, hc⟩ := gf.one
  obtain ⟨ml, ⟨oL, es, ep, hL, hd, hs, hf⟩, hm⟩ := S.loc
  have hxm : x ∈ C.ownv := by rw [hx]; exact .head _
  obtain ⟨oc, hoc, hcd⟩ := S.cel x c hxm hc
  have oL1 : C.own C.env.locals := .inl rfl
  have oc1 : C.own c := .inr ⟨x, hxm, hc⟩
  have fresh : ∀ b, C.base.get? b = none → b ≠ TB → b ∈ mu0.map (·.1) ∨ s0.heap.get? b = none := fun b e ne => by
    by_cases hm : b ∈ mu0.map (·.1)
    · exact .inl hm
    · refine .inr ?_
      cases e' : s0.heap.get? b with
      | none => rfl
      | some o =>
        have hn : b ∉ TB :: mu0.map (·.1) := fun h => (List.mem_cons.mp h).elim ne hm
        rw [hb, hideAll_get _ e' hn] at e; cases e
  refine ⟨_, ⟨oL, oc, c, x, ml, hx, hc, rfl, ⟨es, ep, hd, hs, hf⟩, hm, hcd⟩, af.1, af.2, fun b o hn e => ?_, S.kin, hk0 ▸ S.ext, fun b o hn e => ?_, ?_, fun p hp => ?_⟩
  · exact S.keep b o (by rw [hb]; exact hideAll_get _ e hn)
  · by_cases hT : b = TB
    · subst hT; rw [S.kT, hkT]
    · have hn' : b ∉ TB :: mu0.map (·.1) := fun h => (List.mem_cons.mp h).elim hT hn
      rw [S.extb b o (by rw [hb]; exact hideAll_get _ e hn'), hk0]
  · rw [List.map_cons, List.map_cons, List.nodup_cons, List.nodup_cons]
    refine ⟨fun h => ?_, fun h => ?_, S.nd⟩
    · rcases List.mem_cons.mp h with h | h
      · exact S.ok.cL x c hxm hc h.symm
      · obtain ⟨p, hp, e⟩ := List.mem_map.mp h
        exact S.muown _ oL1 p hp e
    · obtain ⟨p, hp, e⟩ := List.mem_map.mp h
      exact S.muown _ oc1 p hp e
  · rcases List.mem_cons.mp hp with rfl | hp
    · exact ⟨hL, S.kown _ oL1, S.ok.ownT _ oL1, fresh _ (S.ok.bown _ oL1) (S.ok.ownT _ oL1)⟩
    · rcases List.mem_cons.mp hp with rfl | hp
      · exact ⟨hoc, S.kown _ oc1, S.ok.ownT _ oc1, fresh _ (S.ok.bown _ oc1) (S.ok.ownT _ oc1)⟩
      · exact ⟨S.own p hp, S.kmu p hp, S.muT p hp, fresh _ (S.bmu p hp) (S.muT p hp)⟩

theorem stt_wake {C : Cx} {k : Kn} {m : Lm} {mu muX : Mu} {s : Shared} (gf : GFr C) (a : Asleep C m muX mu) (hP : Prog C.w (hideAll s.heap (TB :: muX.map (·.1)))) (hT : TabOk s.heap) (hk : k.In s.heap) (hkT : k TB = none) (hmu : ∀ p ∈ muX, s.heap.get? p.1 = some p.2) (hkmu : ∀ p ∈ muX, k p.1 = none) (hnd : (muX.map (·.1)).Nodup) (hmT : ∀ p ∈ muX, p.1 ≠ TB) :
    Stt (C.reb (hideAll s.heap (TB :: muX.map (·.1))) k) k m mu s.heap := by
  obtain ⟨oL, oc, c, x, ml, hx, hc, rfl, ⟨es, ep, hd, hs, hf⟩, hm, hcd⟩ := a
  have hL := hmu _ (.head _)
  have hoc := hmu _ (.tail _ (.head _))
  have sub : (hideAll s.heap (TB :: List.map (·.1) ((C.env.locals, oL) :: (c, oc) :: mu))).StaysIn s.heap := fun b o e => of_hideAll _ e
  have own : ∀ b, (C.reb (hideAll s.heap (TB :: List.map (·.1) ((C.env.locals, oL) :: (c, oc) :: mu))) k).own b → b = C.env.locals ∨ b = c := by
    rintro b (h | ⟨y, hy, h⟩)
    · exact .inl h
    · have : y = x := by have h2 : y ∈ C.ownv := hy; rw [hx] at h2; simpa using h2
      subst this
      have h3 : C.env.cells.lookup y = some b := h
      rw [hc] at h3; cases h3; exact .inr rfl
  have ownm : ∀ b, (C.reb (hideAll s.heap (TB :: List.map (·.1) ((C.env.locals, oL) :: (c, oc) :: mu))) k).own b → ∃ o, (b, o) ∈ (C.env.locals, oL) :: (c, oc) :: mu := fun b hb => by
    rcases own b hb with rfl | rfl
    · exact ⟨oL, .head _⟩
    · exact ⟨oc, .tail _ (.head _)⟩
  rw [List.map_cons, List.map_cons, List.nodup_cons, List.nodup_cons] at hnd
  have notmu : ∀ b o, k b = some o → b ∉ TB :: List.map (·.1) ((C.env.locals, oL) :: (c, oc) :: mu) := fun b o e hm => by
    rcases List.mem_cons.mp hm with rfl | hm
    · rw [hkT] at e; cases e
    · obtain ⟨p, hp, rfl⟩ := List.mem_map.mp hm
      rw [hkmu p hp] at e; cases e
  refine ⟨⟨by rw [show (C.reb _ k).G = EqG from gf.g]; exact fun _ => rfl, by rw [show (C.reb _ k).G = EqG from gf.g]; exact fun _ _ _ x y => Eq.trans x y, hP, fun b o e => hideAll_get _ (hk b o e) (notmu b o e), hideAll_none _ (.head _), gf.kind, fun b hb => ?_, fun b hb q => ?_, fun y d hy hd' q => ?_, fun y z d hy hz h1 h2 => ?_, gf.cellv⟩,
    ⟨ml, ⟨oL, es, ep, hL, hd, hs, hf⟩, hm⟩, fun y d hy hd' => ?_, fun y d hy hkk hd' => ?_, fun b o e => sub b o e, hk, fun p hp => hmu p (.tail _ (.tail _ hp)), fun b hb => ?_, fun b hb p hp q => ?_, fun p hp => hkmu p (.tail _ (.tail _ hp)), fun p hp => hideAll_none _ (.tail _ (List.mem_map_of_mem (.tail _ (.tail _ hp)))), hnd.2.2, Kn.Le.refl _, fun b o e => rfl, hT, hkT, fun p hp => hmT p (.tail _ (.tail _ hp))⟩
  · obtain ⟨o, ho⟩ := ownm b hb
    exact hideAll_none _ (.tail _ (List.mem_map_of_mem (f := (·.1)) ho))
  · obtain ⟨o, ho⟩ := ownm b hb
    exact hmT _ ho q
  · have hy' : y ∈ C.ownv := hy
    have : y = x := by rw [hx] at hy'; simpa using hy'
    subst this
    have h3 : C.env.cells.lookup y = some d := hd'
    rw [hc] at h3; cases h3
    exact hnd.1 (q ▸ .head _)
  · have hy' : y ∈ C.ownv := hy
    have hz' : z ∈ C.ownv := hz
    rw [hx] at hy' hz'
    simp at hy' hz'
    rw [hy', hz']
  · have hy' : y ∈ C.ownv := hy
    have : y = x := by rw [hx] at hy'; simpa using hy'
    subst this
    have h3 : C.env.cells.lookup y = some d := hd'
    rw [hc] at h3; cases h3
    exact ⟨oc, hoc, hcd⟩
  · have h3 : C.env.cells.lookup y = some d := hd'
    rw [gf.cells y hy] at h3; cases h3
  · obtain ⟨o, ho⟩ := ownm b hb
    exact hkmu _ ho
  · rcases own b hb with rfl | rfl
    · exact hnd.1 (.tail _ (List.mem_map.mpr ⟨p, hp, q⟩))
    · exact hnd.2.1 (List.mem_map.mpr ⟨p, hp, q⟩)
end Mine

-- MC
namespace Mine
theorem succ_mv {w : World} {n : Nat} {G : Gr} {k : Kn} (gk : GOk G) {g gd nd ad pd : Addr} {nodes : List Int} {nb pb : Int → List Int} (K : GK w k g gd nd ad pd nodes nb pb) {x : Int} {t : Tok} (hx : x ∈ nodes) :
    Mv w (n + 1) G k [] (call (.ref 720) [.ref g, .int x t]) (fun v k' mu' => k' = k ∧ ∃ it oi I, v = .ref it ∧ mu' = [(it, oi)] ∧ Src w k it I (nb x) IsInt ∧ I 0 oi) := by
  refine Mv_fn gk (fn_succ w) ?_
  rw [bind_succ]
  refine Ev_pure gk ⟨by kernel_rfl, fun base L => ?_⟩
  obtain ⟨oN, kN, hN1, hN2, hN3, hN4, hN5⟩ := K.adj
  obtain ⟨dx, ox, kx, hx1, hx2, hx3, hx4, hx5⟩ := hN5 x hx
  obtain ⟨ep, hx3'⟩ := hx3.ep
  refine Mt_cons (Mt_Try (Mt_cons (Mt_Return (Mt_Call (Mt_nameB (v := .builtin "iter") (by kernel_rfl) (by kernel_rfl) (by decide) ⟨keeps_builtin _, ?_⟩)))))
  refine Mt_spliced_cons (Mt_Subscript (Mt_Attribute (Mt_nameL rfl (Mt_getAttr (K.is.le (Kn.Le.refl _)) rfl rfl (by kernel_rfl) (Mt_nameL rfl (Mt_sub_dict (.inl hN1) hN2 hx1 (Mt_spliced_nil ?_)))))))
  exact Mt_iter_dict hx5 (.inl hx2) hx3' fun it oi hT hi => ⟨[(it, oi)], List.Sublist.refl _, rfl, it, oi, _, rfl, rfl, hx4 ▸ Src.dict w hx3' hx2, hi⟩

/-! the generator of all_pairs -/
def genSt : Stmt := ((bodyOf (stAt 11))[3]?).getD (.Pass default)
abbrev genQ : Str := "all_pairs_lowest_common_ancestor.<locals>.generate_lca_from_pairs"
def forParts : Stmt → PySem.Expr × PySem.Expr × List Stmt × List Stmt
  | .For t i b o _ => (t, i, b, o)
  | _ => (.Constant .none 0 default, .Constant .none 0 default, [], [])
def genFor : Stmt := ((bodyOf genSt)[1]?).getD (.Pass default)
abbrev gcx (w : World) (n : Nat) (k0 : Kn) (cdv : Value) (fa L : Addr) (base : Heap) : Cx := fcx w n EqG k0 genQ (scopeOf genSt) cdv fa L base
theorem gfr (w : World) (n : Nat) (k0 : Kn) (cdv : Value) (fa L : Addr) (base : Heap) : GFr (gcx w n k0 cdv fa L base) where
  g := rfl
  kind := by rfl
  cellv := by
    show ∀ x ∈ cellNames (scopeOf genSt), (scopeOf genSt).names.lookup x = some .cell
    decide
  cells := fun x hx => by
    have hx : x ∉ cellNames (scopeOf genSt) := hx
    have e : cellNames (scopeOf genSt) = [("common_ancestors" : Str)] := by rfl
    rw [e] at hx
    show List.lookup x [(("common_ancestors" : Str), L + 1)] = none
    rw [List.lookup_cons]
    have : (x == ("common_ancestors" : Str)) = false := by simpa using hx
    rw [this]; rfl
  one := ⟨"common_ancestors", L + 1, rfl, rfl⟩

structure CacheK (w : World) (k : Kn) (nodes : List Int) (pb : Int → List Int) (o : Obj) (kvs : List (Int × Value)) : Prop where
  d : ODict w o kvs
  keys : ∀ x ∈ kvs.map (·.1), x ∈ nodes
  vals : ∀ x v, valueAt kvs x = some v → ∃ S oS Sf c, v = .ref S ∧ k S = some oS ∧ OSet w oS Sf c ∧ c ≤ 1001 ∧ ∀ y, Sf y = true ↔ Reach pb x y
theorem CacheK.le {w : World} {k k' : Kn} {nodes : List Int} {pb : Int → List Int} {o : Obj} {kvs : List (Int × Value)} (h : CacheK w k nodes pb o kvs) (l : k.Le k') : CacheK w k' nodes pb o kvs :=
  ⟨h.d, h.keys, fun x v e => let ⟨S, oS, Sf, c, e1, e2, r⟩ := h.vals x v e; ⟨S, oS, Sf, c, e1, l _ _ e2, r⟩⟩
def HasC (pb : Int → List Int) (p : Int × Int) : Prop := ∃ y, Reach pb p.1 y ∧ Reach pb p.2 y
def Lca (nb pb : Int → List Int) (v w c : Int) : Prop := Reach pb v c ∧ Reach pb w c ∧ ∀ z ∈ nb c, ¬ (Reach pb v z ∧ Reach pb w z)
def RowOk (nb pb : Int → List Int) (p : Int × Int) (val : Value) (k : Kn) : Prop :=
  ∃ t1 o1 t2 o2 a b c cv, val = .ref t1 ∧ k t1 = some o1 ∧ OTup o1 [.ref t2, cv] ∧ k t2 = some o2 ∧ OTup o2 [a, b] ∧ IsInt p.1 a ∧ IsInt p.2 b ∧ IsInt c cv ∧ Lca nb pb p.1 p.2 c
open Classical in
noncomputable def rowsOf (pb : Int → List Int) (ps : List (Int × Int)) : List (Int × Int) := ps.filter fun p => decide (HasC pb p)

/-- one turn: the ancestors of v come into the cache -/
theorem gen_st1 {w : World} {n : Nat} {k0 k : Kn} {cdv : Value} {fa L : Addr} {base : Heap} {m : Lm} {rest : Mu} {g gd nd ad pd AC : Addr} {nodes : List Int} {nb pb : Int → List Int} {x : Int} {tx : Tok} {oAC : Obj} {kvs : List (Int × Value)} {st : Stmt} (hst : st = ((forParts genFor).2.2.1[0]?).getD (.Pass default))
    (K : GK w k g gd nd ad pd nodes nb pb) (hx : x ∈ nodes) (mG : m "G" = some (.ref g)) (mA : m "ancestor_cache" = some (.ref AC)) (mv : m "v" = some (.int x tx)) (hT : TB < AC) (hC : CacheK w k nodes pb oAC kvs) {Q : Flow → Kn → Lm → Mu → Prop}
    (h : ∀ k' oAC' kvs', k.Le k' → CacheK w k' nodes pb oAC' kvs' → (valueAt kvs' x).isSome = true → (∀ y, (valueAt kvs y).isSome = true → (valueAt kvs' y).isSome = true) → Q .next k' m (rest ++ [(AC, oAC')])) :
    Mt (gcx w (n + 5) k0 cdv fa L base) k m (rest ++ [(AC, oAC)]) (exec st (gcx w (n + 5) k0 cdv fa L base).env) Q := by
  subst hst
  obtain ⟨d1, d2, d3⟩ := id hC
  have hlen : kvs.length ≤ nodes.length := by
    have := nodup_len_le (l := kvs.map (·.1)) (let ⟨_, _, _, _, _, _, h⟩ := d1; h) d2
    rwa [List.length_map] at this
  have hfew := K.few
  have hm : (AC, oAC) ∈ rest ++ [(AC, oAC)] := List.mem_append_right _ (.head _)
  refine Mt_If (Mt_isTrue_Compare (Mt_nameL mv (Mt_nameL mA (Mt_notin_dict (lo_of hT) (.inr hm) d1 (Mt_truthy_bool ?_)))))
  cases hv : valueAt kvs x with
  | some v =>
    simp only [Option.isSome_some, Bool.not_true, Bool.false_eq_true, if_false]
    exact Mt_nil (h k oAC kvs (Kn.Le.refl _) hC (by rw [hv]; rfl) fun y h => h)
  | none =>
    simp only [Option.isSome_none, Bool.not_false, if_true]
    refine Mt_cons (Mt_AssignSub (Mt_Call (Mt_nameG (v := .ref 82) (by kernel_rfl) ⟨keeps_text (by kernel_rfl), Mt_spliced_cons (Mt_nameL mG (Mt_spliced_cons (Mt_nameL mv (Mt_spliced_nil ?_))))⟩)))
    refine Mt_mv (mu1 := []) (mu2 := rest ++ [(AC, oAC)]) ?_
    intro s A E hA hP hTb hk hkT hmu hkmu hnd hmT
    refine wpAny_mono (ancestors_mv (n := n + 1) (G := EqG) eqG_ok K hx (t := tx) s A E hA hP hTb hk hkT hmu hkmu hnd hmT) (fun r s' ⟨k', mu', a1, a2, a3, a4, a5, a6, a7, S, oS, Sf, c, e1, e2, hS, hc, hTS, hSf⟩ => ⟨k', mu', a1, a2, a3, a4, a5, a6, a7, fun le _ => ?_⟩) fun _ _ e => e
    subst e1 e2
    refine Mt_nameL mA (Mt_nameL mv (Mt_setItem_dict (l1 := (S, oS) :: rest) (l2 := []) rfl d1 (by omega) fun o1 ho1 => ?_))
    rw [stored_absent hv] at ho1
    refine Mt_cons (Mt_Expr rfl (Mt_CallM (Mt_Subscript (Mt_nameL mA (Mt_nameL mv (Mt_sub_dict (o := o1) (.inr mem_mid) ho1 (valueAt_push_self hv) fun pl => Mt_getAdd (.inr (.head _)) hS ⟨keeps_builtin _, Mt_spliced_cons (Mt_nameL mv (Mt_spliced_nil (Mt_add_set (l1 := []) rfl hS (by omega) fun o2 ho2 => ⟨rfl, ?_⟩)))⟩))))))
    refine Mt_frz (l1 := []) fun kS lS => ?_
    refine Mt_nil (h _ o1 _ (le.trans lS) ⟨ho1, fun y hy => ?_, fun y v e => ?_⟩ (by rw [valueAt_push_self hv]; rfl) fun y hy => ?_)
    · rw [List.map_append] at hy
      rcases List.mem_append.mp hy with hy | hy
      · exact d2 y hy
      · simp at hy; subst hy; exact hx
    · by_cases q : y = x
      · subst q
        rw [valueAt_push_self hv] at e
        cases e
        refine ⟨S, o2, _, _, rfl, Kn.put_self _ _ _, ho2, by split <;> omega, fun z => ?_⟩
        rw [← hSf z, Bool.or_eq_true, decide_eq_true_eq, or_comm]
      · rw [valueAt_push q] at e
        obtain ⟨S', oS', Sf', c', e1, e2, r⟩ := d3 y v e
        exact ⟨S', oS', Sf', c', e1, (le.trans lS) _ _ e2, r⟩
    · by_cases q : y = x
      · subst q; rw [valueAt_push_self hv]; rfl
      · rw [valueAt_push q]; exact hy
/-- one turn: the ancestors of w come into the cache -/
theorem gen_st2 {w : World} {n : Nat} {k0 k : Kn} {cdv : Value} {fa L : Addr} {base : Heap} {m : Lm} {rest : Mu} {g gd nd ad pd AC : Addr} {nodes : List Int} {nb pb : Int → List Int} {x : Int} {tx : Tok} {oAC : Obj} {kvs : List (Int × Value)} {st : Stmt} (hst : st = ((forParts genFor).2.2.1[1]?).getD (.Pass default))
    (K : GK w k g gd nd ad pd nodes nb pb) (hx : x ∈ nodes) (mG : m "G" = some (.ref g)) (mA : m "ancestor_cache" = some (.ref AC)) (mv : m "w" = some (.int x tx)) (hT : TB < AC) (hC : CacheK w k nodes pb oAC kvs) {Q : Flow → Kn → Lm → Mu → Prop}
    (h : ∀ k' oAC' kvs', k.Le k' → CacheK w k' nodes pb oAC' kvs' → (valueAt kvs' x).isSome = true → (∀ y, (valueAt kvs y).isSome = true → (valueAt kvs' y).isSome = true) → Q .next k' m (rest ++ [(AC, oAC')])) :
    Mt (gcx w (n + 5) k0 cdv fa L base) k m (rest ++ [(AC, oAC)]) (exec st (gcx w (n + 5) k0 cdv fa L base).env) Q := by
  subst hst
  obtain ⟨d1, d2, d3⟩ := id hC
  have hlen : kvs.length ≤ nodes.length := by
    have := nodup_len_le (l := kvs.map (·.1)) (let ⟨_, _, _, _, _, _, h⟩ := d1; h) d2
    rwa [List.length_map] at this
  have hfew := K.few
  have hm : (AC, oAC) ∈ rest ++ [(AC, oAC)] := List.mem_append_right _ (.head _)
  refine Mt_If (Mt_isTrue_Compare (Mt_nameL mv (Mt_nameL mA (Mt_notin_dict (lo_of hT) (.inr hm) d1 (Mt_truthy_bool ?_)))))
  cases hv : valueAt kvs x with
  | some v =>
    simp only [Option.isSome_some, Bool.not_true, Bool.false_eq_true, if_false]
    exact Mt_nil (h k oAC kvs (Kn.Le.refl _) hC (by rw [hv]; rfl) fun y h => h)
  | none =>
    simp only [Option.isSome_none, Bool.not_false, if_true]
    refine Mt_cons (Mt_AssignSub (Mt_Call (Mt_nameG (v := .ref 82) (by kernel_rfl) ⟨keeps_text (by kernel_rfl), Mt_spliced_cons (Mt_nameL mG (Mt_spliced_cons (Mt_nameL mv (Mt_spliced_nil ?_))))⟩)))
    refine Mt_mv (mu1 := []) (mu2 := rest ++ [(AC, oAC)]) ?_
    intro s A E hA hP hTb hk hkT hmu hkmu hnd hmT
    refine wpAny_mono (ancestors_mv (n := n + 1) (G := EqG) eqG_ok K hx (t := tx) s A E hA hP hTb hk hkT hmu hkmu hnd hmT) (fun r s' ⟨k', mu', a1, a2, a3, a4, a5, a6, a7, S, oS, Sf, c, e1, e2, hS, hc, hTS, hSf⟩ => ⟨k', mu', a1, a2, a3, a4, a5, a6, a7, fun le _ => ?_⟩) fun _ _ e => e
    subst e1 e2
    refine Mt_nameL mA (Mt_nameL mv (Mt_setItem_dict (l1 := (S, oS) :: rest) (l2 := []) rfl d1 (by omega) fun o1 ho1 => ?_))
    rw [stored_absent hv] at ho1
    refine Mt_cons (Mt_Expr rfl (Mt_CallM (Mt_Subscript (Mt_nameL mA (Mt_nameL mv (Mt_sub_dict (o := o1) (.inr mem_mid) ho1 (valueAt_push_self hv) fun pl => Mt_getAdd (.inr (.head _)) hS ⟨keeps_builtin _, Mt_spliced_cons (Mt_nameL mv (Mt_spliced_nil (Mt_add_set (l1 := []) rfl hS (by omega) fun o2 ho2 => ⟨rfl, ?_⟩)))⟩))))))
    refine Mt_frz (l1 := []) fun kS lS => ?_
    refine Mt_nil (h _ o1 _ (le.trans lS) ⟨ho1, fun y hy => ?_, fun y v e => ?_⟩ (by rw [valueAt_push_self hv]; rfl) fun y hy => ?_)
    · rw [List.map_append] at hy
      rcases List.mem_append.mp hy with hy | hy
      · exact d2 y hy
      · simp at hy; subst hy; exact hx
    · by_cases q : y = x
      · subst q
        rw [valueAt_push_self hv] at e
        cases e
        refine ⟨S, o2, _, _, rfl, Kn.put_self _ _ _, ho2, by split <;> omega, fun z => ?_⟩
        rw [← hSf z, Bool.or_eq_true, decide_eq_true_eq, or_comm]
      · rw [valueAt_push q] at e
        obtain ⟨S', oS', Sf', c', e1, e2, r⟩ := d3 y v e
        exact ⟨S', oS', Sf', c', e1, (le.trans lS) _ _ e2, r⟩
    · by_cases q : y = x
      · subst q; rw [valueAt_push_self hv]; rfl
      · rw [valueAt_push q]; exact hy
end Mine

-- MD
namespace Mine
def genB : List Stmt := (forParts genFor).2.2.1
def ifBody : Stmt → List Stmt
  | .If _ b _ _ => b
  | _ => []
def genIf : List Stmt := ifBody ((genB[3]?).getD (.Pass default))
theorem Mt_is_none_none {C : Cx} {k : Kn} {m : Lm} {mu : Mu} {Q : Value → Kn → Lm → Mu → Prop} (h : Q (.bool true) k m mu) : Mt C k m mu (compareOp .Is .none .none) Q :=
  Mt_of (fun s A E R hA S hR => wpAny_is_self rfl (hR s.toks)) h
section
variable {w : World} {n : Nat} {k0 k : Kn} {cdv : Value} {fa L : Addr} {base : Heap} {m : Lm} {mu : Mu} {g gd nd ad pd AC : Addr} {nodes : List Int} {nb pb : Int → List Int}

theorem gen_st3 {x y : Int} {tx ty : Tok} {oAC : Obj} {kvs : List (Int × Value)} {st : Stmt} (hst : st = (genB[2]?).getD (.Pass default))
    (hsix : ∀ x ∈ nodes, x ∈ six) (hcl : ∀ x ∈ nodes, ∀ y ∈ pb x, y ∈ nodes) (hx : x ∈ nodes) (hy : y ∈ nodes) (mA : m "ancestor_cache" = some (.ref AC)) (mv : m "v" = some (.int x tx)) (mw : m "w" = some (.int y ty)) (hAt : (AC, oAC) ∈ mu) (hC : CacheK w k nodes pb oAC kvs) (h1 : (valueAt kvs x).isSome = true) (h2 : (valueAt kvs y).isSome = true) {Q : Flow → Kn → Lm → Mu → Prop}
    (h : ∀ k' D oD Sc c, k.Le k' → k' D = some oD → OSet w oD Sc c → (∀ z, Sc z = true ↔ Reach pb x z ∧ Reach pb y z) → Q .next k' (m.set "common_ancestors" (.ref D)) mu) :
    Mt (gcx w n k0 cdv fa L base) k m mu (exec st (gcx w n k0 cdv fa L base).env) Q := by
  subst hst
  obtain ⟨v1, e1⟩ := Option.isSome_iff_exists.mp h1
  obtain ⟨v2, e2⟩ := Option.isSome_iff_exists.mp h2
  obtain ⟨S1, o1, Sf1, c1, rfl, k1, s1, b1, r1⟩ := hC.vals _ _ e1
  obtain ⟨S2, o2, Sf2, c2, rfl, k2, s2, b2, r2⟩ := hC.vals _ _ e2
  have inN : ∀ z, Reach pb x z → z ∈ nodes := fun z hz => by
    induction hz with
    | refl => exact hx
    | @step a b _ hb ih => exact hcl _ ih _ hb
  refine Mt_Assign (Mt_BinOp (Mt_Subscript (Mt_nameL mA (Mt_nameL mv (Mt_sub_dict (.inr hAt) hC.d e1 (Mt_Subscript (Mt_nameL mA (Mt_nameL mw (Mt_sub_dict (.inr hAt) hC.d e2 (Mt_and_set (.inl k1) (.inl k2) s1 s2 (Nat.le_trans b1 (by omega)) (Nat.le_trans b2 (by omega)) (fun z hz => hsix z (inN z ((r1 z).mp hz))) fun D oD c hT hD => Mt_frz (l1 := []) fun kD lD => Mt_setC ?_))))))))))
  exact h _ D oD _ c lD (Kn.put_self _ _ _) hD fun z => by rw [Bool.and_eq_true, r1 z, r2 z]

theorem gen_a1 {D : Addr} {oD : Obj} {Sc : Int → Bool} {cc : Nat} {st : Stmt} (hst : st = (genIf[0]?).getD (.Pass default))
    (K : GK w k g gd nd ad pd nodes nb pb) (mG : m "G" = some (.ref g)) (mC : m "common_ancestors" = some (.ref D)) (hk : k D = some oD) (hD : OSet w oD Sc cc) (hin : ∀ z, Sc z = true → z ∈ nodes) (hne : ∃ z, Sc z = true) {Q : Flow → Kn → Lm → Mu → Prop}
    (h : ∀ k' c t, k.Le k' → Sc c = true → Q .next k' (m.set "common_ancestor" (.int c t)) mu) :
    Mt (gcx w (n + 5) k0 cdv fa L base) k m mu (exec st (gcx w (n + 5) k0 cdv fa L base).env) Q := by
  subst hst
  let f : Int → List Int := fun x => if Sc x = true then [x] else []
  have hfew := K.few
  refine Mt_Assign (Mt_Subscript (Mt_ListComp (Mt_nameL mG (Mt_overG (n := n + 4) eqG_ok K.is K.node rfl fun it oi I src h0 => ?_))))
  refine ⟨[(it, oi)], mu, rfl, comp1_in src f (fun _ d v => IsInt d v) (fun _ _ _ _ _ h => h) (fun m' => m' "common_ancestors" = some (.ref D)) (by omega) (fun e he => by simp only [f]; split <;> simp) ?_ ?_ ((cmap_free rfl).trans mC) h0 (Kn.Le.refl _)⟩
  · rintro D' L' base' hTD j x k3 m3 oi3 oD3 val hx ⟨tx, rfl⟩ le3 i1
    refine Mt_toL (Mt_tests_one (Mt_isTrue_Compare (Mt_nameL (Lm.set_self _ _ _) (Mt_nameC (Lm.up i1) (Mt_in_set (.inl (le3 _ _ hk)) hD (Mt_truthy_bool ?_))))))
    cases hs : Sc x with
    | true =>
      rw [if_pos rfl]
      exact Mt_nameL (Lm.set_self _ _ _) ⟨Kn.Le.refl _, rfl, Lm.up i1, x, by simp [f, hs], tx, rfl⟩
    | false =>
      rw [if_neg (by simp)]
      exact ⟨Kn.Le.refl _, rfl, Lm.up i1, by simp [f, hs]⟩
  · rintro D' k3 oD' vs hTD hDb kD le3 le4 hoD' hvs
    obtain ⟨z, hz⟩ := hne
    have hne' : nodes.flatMap f ≠ [] := fun e => by
      have : z ∈ nodes.flatMap f := List.mem_flatMap.mpr ⟨z, hin z hz, by simp [f, hz]⟩
      rw [e] at this; cases this
    obtain ⟨c, r, hcr⟩ := List.exists_cons_of_ne_nil hne'
    have hc : Sc c = true := by
      have : c ∈ nodes.flatMap f := by rw [hcr]; exact .head _
      obtain ⟨y, hy, hc⟩ := List.mem_flatMap.mp this
      simp only [f] at hc
      split at hc
      · simp at hc; subst hc; assumption
      · cases hc
    obtain ⟨v, hv, t, rfl⟩ := hvs.get (i := 0) (x := c) (by rw [hcr]; rfl)
    refine Mt_int fun t0 => Mt_sub_list (i := 0) (.inl (Kn.put_self _ _ _)) hoD' hv (by omega) (Mt_setL ?_)
    exact h _ c t (le3.trans le4) hc

/-- the names that the search for the lowest one sets -/
def Agr (m m' : Lm) : Prop := ∀ y : Str, y ≠ "successor" → y ≠ "lower_ancestor" → y ≠ "common_ancestor" → m' y = m y
theorem Agr.set {m m' : Lm} {x : Str} {v : Value} (a : Agr m m') (h : x = "successor" ∨ x = "lower_ancestor" ∨ x = "common_ancestor") : Agr m (m'.set x v) := fun y h1 h2 h3 => by
  have : y ≠ x := by rcases h with rfl | rfl | rfl <;> assumption
  rw [Lm.set_ne _ _ this]; exact a y h1 h2 h3
theorem gen_a2 {D : Addr} {oD : Obj} {Sc : Int → Bool} {cc : Nat} {c : Int} {t : Tok} {rk : Int → Nat} {B : Nat} {st : Stmt} (hst : st = (genIf[1]?).getD (.Pass default))
    (K : GK w k g gd nd ad pd nodes nb pb) (hrk : ∀ x ∈ nodes, ∀ y ∈ nb x, rk x < rk y) (hB : ∀ x ∈ nodes, rk x ≤ B) (mG : m "G" = some (.ref g)) (mC : m "common_ancestors" = some (.ref D)) (mc : m "common_ancestor" = some (.int c t)) (hk : k D = some oD) (hD : OSet w oD Sc cc) (hin : ∀ z, Sc z = true → z ∈ nodes) (hc : Sc c = true) {Q : Flow → Kn → Lm → Mu → Prop}
    (h : ∀ k' m' c t, k.Le k' → Agr m m' → m' "common_ancestor" = some (.int c t) → Sc c = true → (∀ z ∈ nb c, Sc z = false) → Q .next k' m' mu) :
    Mt (gcx w (n + 5) k0 cdv fa L base) k m mu (exec st (gcx w (n + 5) k0 cdv fa L base).env) Q := by
  subst hst
  refine Mt_While ?_
  refine MtC_while (fun q k' m' mu' => ∃ c t, q = B - rk c ∧ k.Le k' ∧ mu' = mu ∧ Agr m m' ∧ m' "common_ancestor" = some (.int c t) ∧ Sc c = true) ?_ _ ⟨c, t, rfl, Kn.Le.refl _, rfl, fun _ _ _ _ => rfl, mc, hc⟩
  rintro q k1 m1 mu1 ⟨c, t, rfl, le1, rfl, ag, m1c, hc⟩
  have hcn := hin c hc
  have K1 := K.le le1
  have aG : m1 "G" = some (.ref g) := (ag _ (by decide) (by decide) (by decide)).trans mG
  have aC : m1 "common_ancestors" = some (.ref D) := (ag _ (by decide) (by decide) (by decide)).trans mC
  refine Mt_isTrue_plain (by rfl) (Mt_bool (Mt_truthy_bool ?_))
  rw [if_pos rfl]
  refine Mt_cons (Mt_Assign (Mt_none (Mt_setL ?_)))
  refine Mt_cons (Mt_For (Mt_CallM (Mt_nameL (Lm.up aG) fun pl => Mt_method (f := 720) (K1.is.le (Kn.Le.refl _)) rfl (by kernel_rfl) (by kernel_rfl) ⟨keeps_text (by kernel_rfl), Mt_spliced_cons (Mt_nameL (Lm.up m1c) (Mt_spliced_nil ?_))⟩)))
  refine Mt_mv (mu1 := []) ?_
  intro s A E hA hP hTb hk' hkT hmu hkmu hnd hmT
  refine wpAny_mono (succ_mv (n := n + 4) (G := EqG) eqG_ok K1 hcn (t := t) s A E hA hP hTb hk' hkT hmu hkmu hnd hmT) (fun r s' ⟨k', mu', a1, a2, a3, a4, a5, a6, a7, e0, it, oi, I, e1, e2, src, h0⟩ => ⟨k', mu', a1, a2, a3, a4, a5, a6, a7, fun _ _ => ?_⟩) fun _ _ e => e
  subst e0 e1 e2
  refine src.self _ k' _ _ oi 0 _ rfl h0 (.head _) ?_
  refine MtC_forS src (fun i k2 m2 mu2 => k'.Le k2 ∧ mu2 = mu1 ∧ Agr m m2 ∧ m2 "common_ancestor" = some (.int c t) ∧ m2 "successor" = some .none ∧ ∀ z ∈ (nb c).take i, Sc z = false) ?_ ?_ ⟨Kn.Le.refl _, rfl, ag.set (.inl rfl), Lm.up m1c, Lm.set_self _ _ _, by simp⟩ h0 (Kn.Le.refl _)
  · clear h0
    rintro i z k2 m2 mu2 oi2 v hz ⟨tz, rfl⟩ le2 ⟨-, rfl, ag2, m2c, m2s, hi⟩ hoi2
    have hzn : z ∈ nb c := List.mem_of_getElem? hz
    have aC2 : m2 "common_ancestors" = some (.ref D) := (ag2 _ (by decide) (by decide) (by decide)).trans mC
    refine Mt_toL ?_
    refine Mt_cons (Mt_If (Mt_isTrue_Compare (Mt_nameL (Lm.set_self _ _ _) (Mt_nameC (Lm.up aC2) (Mt_in_set (.inl (le2 _ _ (le1 _ _ hk))) hD (Mt_truthy_bool ?_))))))
    cases hs : Sc z with
    | true =>
      rw [if_pos rfl]
      refine Mt_cons (Mt_Assign (Mt_nameL (Lm.set_self _ _ _) (Mt_setL ?_)))
      refine Mt_drop (l1 := []) (Mt_cons (Mt_Break ?_))
      refine Mt_cons (Mt_If (Mt_isTrue_Compare (Mt_nameL (Lm.set_self _ _ _) (Mt_none (Mt_is_int_none (Mt_truthy_bool ?_))))))
      rw [if_neg (by simp)]
      refine Mt_nil (Mt_cons (Mt_Assign (Mt_nameL (Lm.set_self _ _ _) (Mt_setL (Mt_nil ?_)))))
      have h1 := hrk c hcn z hzn
      have h2 := hB z (hin z hs)
      exact ⟨B - rk z, by omega, z, tz, rfl, le1.trans le2, rfl, ((ag2.set (.inr (.inl rfl))).set (.inl rfl)).set (.inr (.inr rfl)), Lm.set_self _ _ _, hs⟩
    | false =>
      rw [if_neg (by simp)]
      refine Mt_nil (Mt_nil ⟨oi2, mu2, rfl, le2, hoi2, le2, rfl, ag2.set (.inr (.inl rfl)), Lm.up m2c, Lm.up m2s, fun y hy => ?_⟩)
      rw [List.take_add_one, hz] at hy
      rcases List.mem_append.mp hy with hy | hy
      · exact hi y hy
      · simp at hy; subst hy; exact hs
  · rintro k2 m2 mu2 le2 ⟨-, rfl, ag2, m2c, m2s, hi⟩
    rw [List.take_of_length_le (Nat.le_refl _)] at hi
    refine Mt_nil ?_
    refine Mt_cons (Mt_If (Mt_isTrue_Compare (Mt_nameL m2s (Mt_none (Mt_is_none_none (Mt_truthy_bool ?_))))))
    rw [if_pos rfl]
    exact Mt_cons (Mt_Break (h k2 m2 c t (le1.trans le2) ag2 m2c hc hi))
end
end Mine

-- ME
namespace Mine
def Po {ρ : Type} (w : World) (n : Nat) (Row : ρ → Value → Kn → Prop) : List ρ → End → Kn → Mu → Prop
  | [], e, _, _ => e = .ret (.ok (.ret .none))
  | r :: rs, e, k', mu' => (∃ v g l kk c p fs, e = .susp v g l kk c p fs ∧ Row r v k') ∧ GenM w n Row rs e.genState mu' k'
theorem GenM_eq {ρ : Type} (w : World) (n : Nat) (Row : ρ → Value → Kn → Prop) (rs : List ρ) (gs : GenState) (mu : Mu) (k : Kn) : GenM w n Row rs gs mu k = GStep w n gs mu k (Po w n Row rs) := by
  cases rs <;> rfl
abbrev PhiG {ρ : Type} (w : World) (n : Nat) (Row : ρ → Value → Kn → Prop) (rs : List ρ) (s0 : Shared) (k0 : Kn) (mu0 : Mu) : End → Shared → Prop := fun e s' => e.quiet = true ∧ ∃ k' mu', MvP k0 mu0 s0 s' k' mu' ∧ Po w n Row rs e k' mu'
theorem over_func {n : Nat} {A : Around} {b : List Stmt} {env : Env} (h : OkA (n + 1) A) : OkA n (A.over (.func b env) []) := by
  refine ⟨h.handled, ?_, ?_⟩
  · have := h.depth; show A.depth + 0 + 1 + 8 * n < _; omega
  · have := h.units; show A.units + 0 + 3 + 64 * n + 64 < _; omega
theorem over_for {n : Nat} {A : Around} {t : PySem.Expr} {it : Value} {bo o b : List Stmt} {env env' : Env} {kk : Result → Sem PySem.Fin} {p : Pos} (h : OkA (n + 1) A) : OkA n (A.over (.forLoop t it bo o env') [.ret kk none false [] (.func b env) p []]) := by
  refine ⟨h.handled, ?_, ?_⟩
  · have := h.depth; show A.depth + (1 + 0) + 0 + 8 * n < _; omega
  · have := h.units; show A.units + (3 + 0) + 0 + 64 * n + 64 < _; omega

/-- what the generator needs of the graph -/
structure GData (w : World) (k : Kn) (g gd nd ad pd : Addr) (nodes : List Int) (nb pb : Int → List Int) (rk : Int → Nat) (B : Nat) : Prop where
  K : GK w k g gd nd ad pd nodes nb pb
  sx : ∀ x ∈ nodes, x ∈ six
  rkl : ∀ x ∈ nodes, ∀ y ∈ nb x, rk x < rk y
  rkb : ∀ x ∈ nodes, rk x ≤ B
theorem GData.le {w : World} {k k' : Kn} {g gd nd ad pd : Addr} {nodes : List Int} {nb pb : Int → List Int} {rk : Int → Nat} {B : Nat} (h : GData w k g gd nd ad pd nodes nb pb rk B) (l : k.Le k') : GData w k' g gd nd ad pd nodes nb pb rk B := ⟨h.K.le l, h.sx, h.rkl, h.rkb⟩

theorem gen_loop {w : World} {n : Nat} {cdv : Value} {fa L : Addr} {g gd nd ad pd AC it : Addr} {nodes : List Int} {nb pb : Int → List Int} {rk : Int → Nat} {B : Nat} {kp : Kn} {I : Nat → Obj → Prop} {ps : List (Int × Int)} {body : List Stmt} {kk : Result → Sem PySem.Fin} {pp : Pos}
    (src : Src w kp it I ps (IsPair kp)) (hps : ∀ p ∈ ps, p.1 ∈ nodes ∧ p.2 ∈ nodes) (hT : TB < AC)
    (hend : ∀ (k0 : Kn) (base : Heap) (A : Around) (Φ : End → Shared → Prop) (s0 : Shared) (k : Kn) (m : Lm) (mu : Mu), (∀ s, AfterQ s0 s → Stt (gcx w (n + 5) k0 cdv fa L base) k m mu s.heap → Φ (.ret (.ok (.ret .none))) s) →
      Sg (gcx w (n + 5) k0 cdv fa L base) A Φ (.func body (gcx w (n + 5) k0 cdv fa L base).env) [] s0 k m mu (kk (.ok .next))) :
    ∀ (j i : Nat), ps.length - i = j → i ≤ ps.length → ∀ (k0 : Kn) (base : Heap) (A : Around) (s0 : Shared) (mu0 : Mu) (k : Kn) (m : Lm) (oi oAC : Obj) (kvs : List (Int × Value)), OkA (n + 6) A → base = hideAll s0.heap (TB :: mu0.map (·.1)) → k0 TB = none → kp.Le k →
      GData w k g gd nd ad pd nodes nb pb rk B → m "G" = some (.ref g) → m "ancestor_cache" = some (.ref AC) → CacheK w k nodes pb oAC kvs → I i oi →
      Sg (gcx w (n + 5) k0 cdv fa L base) A (PhiG w (n + 6) (RowOk nb pb) (rowsOf pb (ps.drop i)) s0 k0 mu0) (.forLoop (forParts genFor).1 (.ref it) genB [] (gcx w (n + 5) k0 cdv fa L base).env)
        [.ret kk none false [] (.func body (gcx w (n + 5) k0 cdv fa L base).env) pp []] s0 k m [(it, oi), (AC, oAC)]
        ((model P w).den (.forLoop (forParts genFor).1 (.ref it) genB [] (gcx w (n + 5) k0 cdv fa L base).env)) := by
  intro j
  induction j with
  | zero =>
    intro i hj hi k0 base A s0 mu0 k m oi oAC kvs hA hb hk0 hkp D mG mA hC h0
    refine Sg_forLoop rfl (over_for hA) (src.done _ k m [] [(AC, oAC)] oi i _ rfl hkp h0 (by omega) ?_)
    refine Sg_block_nil (hend k0 base A _ s0 k m _ fun s af S => ?_)
    obtain ⟨muX, ha, hm⟩ := stt_sleep (gfr w (n + 5) k0 cdv fa L base) S hb rfl hk0 af
    refine ⟨rfl, k, muX, hm, ?_⟩
    rw [List.drop_eq_nil_of_le (by omega)]
    rfl
  | succ j ih =>
    intro i hj hi k0 base A s0 mu0 k m oi oAC kvs hA hb hk0 hkp D mG mA hC h0
    have hlt : i < ps.length := by omega
    obtain ⟨⟨x, y⟩, hxy⟩ : ∃ p, ps[i]? = some p := ⟨ps[i], by simp [hlt]⟩
    have hdrop : ps.drop i = (x, y) :: ps.drop (i + 1) := by
      rw [List.drop_eq_getElem_cons hlt]
      rw [List.getElem?_eq_getElem hlt] at hxy
      rw [Option.some.inj hxy]
    obtain ⟨hx, hy⟩ := hps _ (List.mem_of_getElem? hxy)
    refine Sg_forLoop rfl (over_for hA) (src.next _ k m [] [(AC, oAC)] oi i _ _ rfl hkp h0 hxy fun v oi' hi' hv => ?_)
    obtain ⟨T, oT, a, b, rfl, hT1, hT2, ⟨tx, rfl⟩, ⟨ty, rfl⟩⟩ := hv
    obtain ⟨Tn, hTn, hcls⟩ := src.cls
    refine Mt_letOwned hTn (hcls _ _ hi') (.head _) ?_
    refine Mt_assign_pair (.inl (hkp _ _ hT1)) hT2 (Mt_toL (Mt_toL ?_))
    generalize hm1 : (m.set "v" (.int x tx)).set "w" (.int y ty) = m1
    have mG1 : m1 "G" = some (.ref g) := by rw [← hm1]; exact Lm.up (Lm.up mG)
    have mA1 : m1 "ancestor_cache" = some (.ref AC) := by rw [← hm1]; exact Lm.up (Lm.up mA)
    have mv1 : m1 "v" = some (.int x tx) := by rw [← hm1]; exact Lm.up (Lm.set_self _ _ _)
    have mw1 : m1 "w" = some (.int y ty) := by rw [← hm1]; exact Lm.set_self _ _ _
    clear hm1 mG mA
    refine Sg_cons rfl (over_for hA) (gen_st1 (rest := [(it, oi')]) rfl D.K hx mG1 mA1 mv1 hT hC fun k1 o1 kvs1 le1 hC1 hx1 _ => ⟨rfl, ?_⟩)
    refine Sg_cons rfl (over_for hA) (gen_st2 (rest := [(it, oi')]) rfl (D.K.le le1) hy mG1 mA1 mw1 hT hC1 fun k2 o2 kvs2 le2 hC2 hy2 old2 => ⟨rfl, ?_⟩)
    refine Sg_cons rfl (over_for hA) (gen_st3 rfl D.sx D.K.clP hx hy mA1 mv1 mw1 (by simp) hC2 (old2 _ hx1) hy2 fun k3 Dc oD Sc c le3 hkD hD hSc => ⟨rfl, ?_⟩)
    have le03 := (le1.trans le2).trans le3
    have D3 := D.le le03
    have hC3 := hC2.le le3
    have hkp3 := hkp.trans le03
    clear hC hC1 hC2 le1 le2 le3 D
    have mG2 : (m1.set "common_ancestors" (.ref Dc)) "G" = some (.ref g) := Lm.up mG1
    have mA2 : (m1.set "common_ancestors" (.ref Dc)) "ancestor_cache" = some (.ref AC) := Lm.up mA1
    have mv2 : (m1.set "common_ancestors" (.ref Dc)) "v" = some (.int x tx) := Lm.up mv1
    have mw2 : (m1.set "common_ancestors" (.ref Dc)) "w" = some (.int y ty) := Lm.up mw1
    have mD2 : (m1.set "common_ancestors" (.ref Dc)) "common_ancestors" = some (.ref Dc) := Lm.set_self _ _ _
    generalize m1.set "common_ancestors" (.ref Dc) = m2 at *
    have again : ∀ (k0 : Kn) (base : Heap) (A : Around) (s0 : Shared) (mu0 : Mu) (k4 : Kn) (m4 : Lm), OkA (n + 6) A → base = hideAll s0.heap (TB :: mu0.map (·.1)) → k0 TB = none → k3.Le k4 → m4 "G" = some (.ref g) → m4 "ancestor_cache" = some (.ref AC) →
        Sg (gcx w (n + 5) k0 cdv fa L base) A (PhiG w (n + 6) (RowOk nb pb) (rowsOf pb (ps.drop (i + 1))) s0 k0 mu0) (.forLoop (forParts genFor).1 (.ref it) genB [] (gcx w (n + 5) k0 cdv fa L base).env)
          [.ret kk none false [] (.func body (gcx w (n + 5) k0 cdv fa L base).env) pp []] s0 k4 m4 [(it, oi'), (AC, o2)] (turnK (forParts genFor).1 (.ref it) genB [] (gcx w (n + 5) k0 cdv fa L base).env .next) := fun k0 base A s0 mu0 k4 m4 hA hb hk0 le4 mG4 mA4 =>
      Sg_again rfl (ih (i + 1) (by omega) hlt k0 base A s0 mu0 k4 m4 oi' o2 kvs2 hA hb hk0 (hkp3.trans le4) (D3.le le4) mG4 mA4 (hC3.le le4) hi')
    refine Sg_consX (Sg_If rfl (over_for hA) (Mt_isTrue_plain (by rfl) (Mt_nameC mD2 (Mt_truthy_set (.inl hkD) hD ?_))))
    by_cases hc0 : c = 0
    · -- none in common
      rw [if_neg (by simp [hc0])]
      have hno : ¬ HasC pb (x, y) := fun ⟨z, h1, h2⟩ => by
        have := (hD.empty.mp hc0) z
        rw [(hSc z).mpr ⟨h1, h2⟩] at this; cases this
      have hrows : rowsOf pb (ps.drop i) = rowsOf pb (ps.drop (i + 1)) := by
        rw [hdrop]; unfold rowsOf; rw [List.filter_cons_of_neg (by simpa using hno)]
      rw [hrows]
      exact Sg_nil (Sg_nil (again k0 base A s0 mu0 k3 m2 hA hb hk0 (Kn.Le.refl _) mG2 mA2))
    · rw [if_pos (by simp [hc0])]
      have hex : ∃ z, Sc z = true := by
        apply Classical.byContradiction
        intro hn
        apply hc0
        refine hD.empty.mpr fun z => ?_
        cases e : Sc z with
        | false => rfl
        | true => exact absurd ⟨z, e⟩ hn
      have hyes : HasC pb (x, y) := let ⟨z, hz⟩ := hex; ⟨z, (hSc z).mp hz⟩
      have inN : ∀ z, Sc z = true → z ∈ nodes := fun z hz => by
        have hr := ((hSc z).mp hz).1
        clear hz
        induction hr with
        | refl => exact hx
        | @step p q h1 h2 ih' => exact D3.K.clP _ ih' _ h2
      have hrows : rowsOf pb (ps.drop i) = (x, y) :: rowsOf pb (ps.drop (i + 1)) := by
        rw [hdrop]; unfold rowsOf; rw [List.filter_cons_of_pos (by simpa using hyes)]
      rw [hrows]
      refine Sg_cons rfl (over_for hA) (gen_a1 rfl D3.K mG2 mD2 hkD hD inN hex fun k4 c4 t4 le4 hc4 => ⟨rfl, ?_⟩)
      refine Sg_cons rfl (over_for hA) (gen_a2 rfl (D3.K.le le4) D3.rkl D3.rkb (Lm.up mG2) (Lm.up mD2) (Lm.set_self _ _ _) (le4 _ _ hkD) hD inN hc4 fun k5 m5 c5 t5 le5 ag mc5 hc5 hlow => ⟨rfl, ?_⟩)
      have mG5 : m5 "G" = some (.ref g) := (ag _ (by decide) (by decide) (by decide)).trans (Lm.up mG2)
      have mA5 : m5 "ancestor_cache" = some (.ref AC) := (ag _ (by decide) (by decide) (by decide)).trans (Lm.up mA2)
      have mv5 : m5 "v" = some (.int x tx) := (ag _ (by decide) (by decide) (by decide)).trans (Lm.up mv2)
      have mw5 : m5 "w" = some (.int y ty) := (ag _ (by decide) (by decide) (by decide)).trans (Lm.up mw2)
      refine Sg_consX (Sg_Yield rfl (over_for hA) rfl rfl (Mt_Tuple (Mt_spliced_cons (Mt_Tuple (Mt_spliced_cons (Mt_nameL mv5 (Mt_spliced_cons (Mt_nameL mw5 (Mt_spliced_nil (Mt_newTuple fun T2 o2' kT2 hT2' hoT2 => Mt_spliced_cons (Mt_nameL mc5 (Mt_spliced_nil (Mt_newTuple fun T1 o1' kT1 hT1' hoT1 => ?_)))))))))))))
      intro s pY lY kY af S hkY
      have leA := Kn.le_put (o := o2') kT2
      have leB := Kn.le_put (o := o1') kT1
      have leAll := (le4.trans le5).trans (leA.trans leB)
      obtain ⟨muX, hsl, hmv⟩ := stt_sleep (gfr w (n + 5) k0 cdv fa L base) S hb rfl hk0 af
      refine ⟨rfl, _, muX, hmv, ⟨_, _, _, _, _, _, _, rfl, T1, o1', T2, o2', _, _, c5, _, rfl, Kn.put_self _ _ _, hoT1, leB _ _ (Kn.put_self _ _ _), hoT2, ⟨tx, rfl⟩, ⟨ty, rfl⟩, ⟨t5, rfl⟩, ((hSc c5).mp hc5).1, ((hSc c5).mp hc5).2, fun z hz hh => ?_⟩, ?_⟩
      · have := hlow z hz
        rw [(hSc z).mpr hh] at this; cases this
      · rw [GenM_eq]
        intro s2 A2 hA2 hP2 hTb2 hk2 hkT2 hmu2 hkmu2 hnd2 hmT2
        have S2 := stt_wake (gfr w (n + 5) k0 cdv fa L base) hsl hP2 hTb2 hk2 hkT2 hmu2 hkmu2 hnd2 hmT2
        show SegG _ A2 _ _ (kY (.send .none)) _ s2
        rw [hkY]
        exact again _ _ A2 s2 muX _ m5 hA2 rfl hkT2 leAll mG5 mA5 s2 (AfterQ.refl s2) S2
end Mine

-- MF
namespace Mine
/-- what the pairs are taken from -/
def PairSrc (w : World) (k : Kn) (pr : Addr) (ps : List (Int × Int)) : Prop :=
  ∀ (C : Cx) (m : Lm) (mu : Mu) (Q : Value → Kn → Lm → Mu → Prop) (k' : Kn), C.w = w → k.Le k' → (∀ it oi I, Src w k' it I ps (IsPair k') → I 0 oi → Q (.ref it) k' m ((it, oi) :: mu)) → Mt C k' m mu (pyIter (.ref pr)) Q
theorem gen_fresh {w : World} {n : Nat} {k k1 : Kn} {cdv : Value} {fa L : Addr} {base : Heap} {g gd nd ad pd pr : Addr} {nodes : List Int} {nb pb : Int → List Int} {rk : Int → Nat} {B : Nat} {ps : List (Int × Int)} {muX : Mu}
    (D : GData w k g gd nd ad pd nodes nb pb rk B) (hps : ∀ p ∈ ps, p.1 ∈ nodes ∧ p.2 ∈ nodes) (hsrc : PairSrc w k pr ps) (ha : Asleep (gcx w (n + 5) k1 cdv fa L base) (bm [(("G" : Str), .ref g), (("pairs" : Str), .ref pr)]) muX []) :
    GenM w (n + 6) (RowOk nb pb) (rowsOf pb ps) (.fresh (.func (bodyOf genSt) (gcx w (n + 5) k1 cdv fa L base).env)) muX k := by
  rw [GenM_eq]
  intro s A hA hP hTb hk hkT hmu hkmu hnd hmT
  have S := stt_wake (gfr w (n + 5) k1 cdv fa L base) ha hP hTb hk hkT hmu hkmu hnd hmT
  refine ⟨rfl, ?_⟩
  have main : Sg (gcx w (n + 5) k cdv fa L (hideAll s.heap (TB :: muX.map (·.1)))) A (PhiG w (n + 6) (RowOk nb pb) (rowsOf pb ps) s k muX) (.func (bodyOf genSt) (gcx w (n + 5) k cdv fa L (hideAll s.heap (TB :: muX.map (·.1)))).env) [] s k (bm [(("G" : Str), .ref g), (("pairs" : Str), .ref pr)]) []
      ((model P w).den (.func (bodyOf genSt) (gcx w (n + 5) k cdv fa L (hideAll s.heap (TB :: muX.map (·.1)))).env)) := by
    refine Sg_func (Sg_cons rfl (over_func hA) (Mt_Assign (Mt_Dict fun AC hAC => Mt_setL ⟨rfl, ?_⟩)))
    refine Sg_consX (Sg_For rfl (over_func hA) (Mt_nameL rfl (hsrc _ _ _ _ k rfl (Kn.Le.refl _) fun it oi I src h0 pp => ?_)))
    refine gen_loop (n := n) (i := 0) (j := ps.length) (ps := ps) src hps hAC (fun k0 base A Φ s0 k m mu h => ?_) rfl (Nat.zero_le _) k _ A s muX k _ oi dct0 [] hA rfl hkT (Kn.Le.refl _) D rfl rfl ⟨dct0_ODict w, fun x hx => (by cases hx), fun x v e => (by cases e)⟩ h0
    exact Sg_end h
  exact main s (AfterQ.refl s) S
end Mine

-- MG
namespace Mine
/-! trees of which the generators and the code table are spoken of, too -/
abbrev Aux := Array GenState × Option Obj
def aux (s : Shared) : Aux := (s.gens, s.heap.get? TB)
theorem After.aux {C : Cx} {k : Kn} {m : Lm} {mu : Mu} {s s' : Shared} (hG : C.G = EqG) (x : After C.G s s') (S : Stt C k m mu s.heap) : aux s' = aux s := by
  have t := x.tab
  obtain ⟨_, _, _, ⟨_, rfl⟩, e, _⟩ := x
  have e' : s.gens = _ := hG ▸ e
  exact Prod.ext e'.symm (t.get S.tab)
def MtA {α : Type} (C : Cx) (k : Kn) (m : Lm) (mu : Mu) (a : Aux) (t : Sem α) (Q : α → Aux → Kn → Lm → Mu → Prop) : Prop :=
  ∀ (s : Shared) (A : Around) (E : Value → Shared → Prop), OkA C.n A → Stt C k m mu s.heap → aux s = a →
    wpAny (model P C.w) A t (fun x s' => ∃ k' m' mu', AfterX s s' ∧ Stt C k' m' mu' s'.heap ∧ Q x (aux s') k' m' mu') E s
section
variable {α β : Type} {C : Cx} {k : Kn} {m : Lm} {mu : Mu} {a : Aux}
theorem MtA_of (hG : C.G = EqG) {t : Sem α} {Q : α → Aux → Kn → Lm → Mu → Prop} (h : Mt C k m mu t (fun x k m mu => Q x a k m mu)) : MtA C k m mu a t Q := fun s A E hA S ha =>
  wpAny_mono (h s A E hA S) (fun x s' ⟨k', m', mu', af, S', q⟩ => ⟨k', m', mu', af.X, S', by rw [af.aux hG S, ha]; exact q⟩) fun _ _ e => e
theorem MtA_bind {t : Sem α} {f : α → Sem β} {Q : β → Aux → Kn → Lm → Mu → Prop} (h : MtA C k m mu a t (fun x a k m mu => MtA C k m mu a (f x) Q)) : MtA C k m mu a (t >>= f) Q := fun s A E hA S ha =>
  wpAny_bind (wpAny_mono (h s A E hA S ha) (fun x s' ⟨k', m', mu', af, S', q⟩ => wpAny_mono (q s' A E hA S' rfl) (fun y s'' ⟨k'', m'', mu'', af', S'', q'⟩ => ⟨k'', m'', mu'', af.trans af', S'', q'⟩) fun _ _ e => e) fun _ _ e => e)
theorem MtA_bindM (hG : C.G = EqG) {t : Sem α} {f : α → Sem β} {Q : β → Aux → Kn → Lm → Mu → Prop} (h : Mt C k m mu t (fun x k m mu => MtA C k m mu a (f x) Q)) : MtA C k m mu a (t >>= f) Q := MtA_bind (MtA_of hG h)
theorem MtA_mono {t : Sem α} {Q Q' : α → Aux → Kn → Lm → Mu → Prop} (h : MtA C k m mu a t Q) (hq : ∀ x a k m mu, Q x a k m mu → Q' x a k m mu) : MtA C k m mu a t Q' := fun s A E hA S ha =>
  wpAny_mono (h s A E hA S ha) (fun x s' ⟨k', m', mu', af, S', q⟩ => ⟨k', m', mu', af, S', hq _ _ _ _ _ q⟩) fun _ _ e => e
theorem MtA_pure {x : α} {Q : α → Aux → Kn → Lm → Mu → Prop} (h : Q x a k m mu) : MtA C k m mu a (pure x) Q := fun s A E hA S ha => wpAny_pure ⟨k, m, mu, AfterX.refl s, S, by rw [ha]; exact h⟩
theorem MtA_holding {vs : List Value} {t : Sem α} {Q : α → Aux → Kn → Lm → Mu → Prop} (h : MtA C k m mu a t Q) : MtA C k m mu a (holding vs t) Q := fun s A E hA S ha => wpAny_holding (h s A E hA S ha)
theorem MtA_at {pos : Pos} {t : Unit → Sem α} {Q : α → Aux → Kn → Lm → Mu → Prop} (h : MtA C k m mu a (t ()) Q) : MtA C k m mu a (standAt pos >>= t) Q := fun s A E hA S ha => wpAny_bind (wpAny_standAt (h s A E hA S ha))
theorem MtA_nil {Q : Flow → Aux → Kn → Lm → Mu → Prop} (h : Q .next a k m mu) : MtA C k m mu a (execs [] C.env) Q := MtA_pure h
theorem MtA_cons {st rest} {Q : Flow → Aux → Kn → Lm → Mu → Prop} (h : MtA C k m mu a (exec st C.env) (fun f a k m mu => match f with | .next => MtA C k m mu a (execs rest C.env) Q | f => Q f a k m mu)) : MtA C k m mu a (execs (st :: rest) C.env) Q := by
  rw [execs_cons]
  refine MtA_bind (MtA_mono h fun f a k m mu h => ?_)
  cases f <;> first | exact h | exact MtA_pure h
theorem MtA_consM (hG : C.G = EqG) {st rest} {Q : Flow → Aux → Kn → Lm → Mu → Prop} (h : Mt C k m mu (exec st C.env) (fun f k m mu => match f with | .next => MtA C k m mu a (execs rest C.env) Q | f => Q f a k m mu)) : MtA C k m mu a (execs (st :: rest) C.env) Q :=
  MtA_cons (MtA_of hG h)
theorem MtA_Return {e pos} {Q : Flow → Aux → Kn → Lm → Mu → Prop} (h : MtA C k m mu a (eval e C.env) (fun v a k m mu => Q (.ret v) a k m mu)) : MtA C k m mu a (exec (.Return (some e) pos) C.env) Q := by
  rw [exec_Return_some]
  exact MtA_at (MtA_bind (MtA_mono h fun v a k m mu h => MtA_pure h))
theorem MtA_If (hG : C.G = EqG) {test body orelse pos} {Q : Flow → Aux → Kn → Lm → Mu → Prop} (h : Mt C k m mu (isTrue test C.env (eval test C.env)) (fun b k m mu => if b = true then MtA C k m mu a (execs body C.env) Q else MtA C k m mu a (execs orelse C.env) Q)) : MtA C k m mu a (exec (.If test body orelse pos) C.env) Q := by
  rw [exec_If]
  refine MtA_at (MtA_bindM hG (Mt_mono h fun b k m mu h => ?_))
  cases b <;> exact h
theorem MtA_callWith (hG : C.G = EqG) {pos : Pos} {f : Value} {first : List Value} {args : List (Bool × Sem Value)} {kws : List (Option Str × Sem Value)} {Q : Value → Aux → Kn → Lm → Mu → Prop} (hk : Keeps C f) (hplain : (args.any (·.1) || kws.any (·.1.isNone)) = false)
    (h : Mt C k m mu (evalArgs f true args kws) (fun r k m mu => MtA C k m mu a (call f (first ++ r.pos) r.kw) Q)) : MtA C k m mu a (callWith pos f first args kws) Q := fun s A E hA S ha => by
  refine callWith_of (P := Prog C.w) hplain hk (wpAny_mono (h s A E hA S) (fun r s₁ ⟨k₁, m₁, mu₁, af, S₁, q⟩ => ⟨S₁.ok.prog.grow fun b o _ e => S₁.keep b o e, ?_⟩) fun _ _ e => e)
  exact wpAny_mono (q s₁ A E hA S₁ ((af.aux hG S).trans ha)) (fun v s₂ ⟨k₂, m₂, mu₂, af₂, S₂, q₂⟩ => ⟨k₂, m₂, mu₂, af.X.trans af₂, S₂, q₂⟩) fun _ _ e => e
theorem MtA_Call (hG : C.G = EqG) {f : PySem.Expr} {args : List PySem.Expr} {pos : Pos} {Q : Value → Aux → Kn → Lm → Mu → Prop}
    (h : Mt C k m mu (eval f C.env) (fun fv k m mu => Keeps C fv ∧ Mt C k m mu (spliced (backTo pos (starEach args C.env))) (fun vs k m mu => MtA C k m mu a (call fv vs) Q)))
    (he : eval (.Call f args [] pos) C.env = (do callWith pos (← eval f C.env) [] (backTo pos (starEach args C.env)) (backToKw pos (keywordEach [] C.env))) := by rfl) (hp : (backTo pos (starEach args C.env)).any (·.1) = false := by rfl) :
    MtA C k m mu a (eval (.Call f args [] pos) C.env) Q := by
  rw [he]
  refine MtA_bindM hG (Mt_mono h fun fv k m mu ⟨hk, h⟩ => MtA_callWith hG hk (by rw [hp]; rfl) (Mt_evalArgs ?_ hp))
  exact h
theorem MtA_CallK (hG : C.G = EqG) {f e : PySem.Expr} {args : List PySem.Expr} {x : Str} {kp pos : Pos} {Q : Value → Aux → Kn → Lm → Mu → Prop}
    (h : Mt C k m mu (eval f C.env) (fun fv k m mu => Keeps C fv ∧ Mt C k m mu (spliced (backTo pos (starEach args C.env))) (fun vs k m mu => Mt C k m mu (eval e C.env) (fun v k m mu => MtA C k m mu a (call fv vs [(x, v)]) Q))))
    (he : eval (.Call f args [⟨some x, e, kp⟩] pos) C.env = (do callWith pos (← eval f C.env) [] (backTo pos (starEach args C.env)) (backToKw pos (keywordEach [⟨some x, e, kp⟩] C.env))) := by rfl) (hp : (backTo pos (starEach args C.env)).any (·.1) = false := by rfl) :
    MtA C k m mu a (eval (.Call f args [⟨some x, e, kp⟩] pos) C.env) Q := by
  rw [he]
  refine MtA_bindM hG (Mt_mono h fun fv k m mu ⟨hk, h⟩ => MtA_callWith hG hk (by rw [hp]; rfl) (Mt_evalArgsK ?_ hp))
  exact h
end
/-- a call, from outside any frame -/
def MvPost (k : Kn) (mu : Mu) (s s' : Shared) (k' : Kn) (mu' : Mu) : Prop :=
  AfterX s s' ∧ TabOk s'.heap ∧ (∀ b o, b ∉ TB :: mu.map (·.1) → s.heap.get? b = some o → s'.heap.get? b = some o) ∧ k'.In s'.heap ∧ k.Le k' ∧ (∀ b o, b ∉ mu.map (·.1) → s.heap.get? b = some o → k' b = k b) ∧ (mu'.map (·.1)).Nodup ∧ (∀ p ∈ mu', s'.heap.get? p.1 = some p.2 ∧ k' p.1 = none ∧ p.1 ≠ TB ∧ (p.1 ∈ mu.map (·.1) ∨ s.heap.get? p.1 = none))
def MvA {α : Type} (w : World) (n : Nat) (k : Kn) (mu : Mu) (a : Aux) (t : Sem α) (Q : α → Aux → Kn → Mu → Prop) : Prop :=
  ∀ (s : Shared) (A : Around) (E : Value → Shared → Prop), OkA n A → Prog w (hideAll s.heap (TB :: mu.map (·.1))) → TabOk s.heap → k.In s.heap → k TB = none → (∀ p ∈ mu, s.heap.get? p.1 = some p.2) → (∀ p ∈ mu, k p.1 = none) → (mu.map (·.1)).Nodup → (∀ p ∈ mu, p.1 ≠ TB) → aux s = a →
    wpAny (model P w) A t (fun x s' => ∃ k' mu', MvPost k mu s s' k' mu' ∧ Q x (aux s') k' mu') E s
theorem MtA_mv {α : Type} {C : Cx} {k : Kn} {m : Lm} {mu1 mu2 : Mu} {a : Aux} {t : Sem α} {Q : α → Aux → Kn → Lm → Mu → Prop}
    (h : MvA C.w C.n k mu1 a t (fun x a k' mu' => k.Le k' → (∀ D o, k D = none → k' D = some o → D ∉ mu1.map (·.1) → C.base.get? D = none) → Q x a k' m (mu' ++ mu2))) : MtA C k m (mu1 ++ mu2) a t Q := fun s A E hA S ha => by
  have nd := S.nd
  rw [List.map_append, List.nodup_append] at nd
  have n1 : ∀ p ∈ mu1, p ∈ mu1 ++ mu2 := fun p hp => List.mem_append_left _ hp
  refine wpAny_mono (h s A E hA (mv_prog S) S.tab S.kin S.kT (fun p hp => S.own p (n1 p hp)) (fun p hp => S.kmu p (n1 p hp)) nd.1 (fun p hp => S.muT p (n1 p hp)) ha) (fun x s' ⟨k', mu', ⟨af, tok, old, kin, le, ex, nd', pm⟩, q⟩ => ?_) fun _ _ e => e
  obtain ⟨S', fr⟩ := mv_backT S tok old kin le ex nd' pm
  exact ⟨k', m, mu' ++ mu2, af, S', q le fr⟩
theorem MvA_of_Mv {α : Type} {w : World} {n : Nat} {k : Kn} {mu : Mu} {a : Aux} {t : Sem α} {Q : α → Aux → Kn → Mu → Prop} (h : Mv w n EqG k mu t (fun x k' mu' => Q x a k' mu')) : MvA w n k mu a t Q := fun s A E hA hP hT hk hkT hmu hkmu hnd hmT ha => by
  refine wpAny_mono (h s A E hA hP hT hk hkT hmu hkmu hnd hmT) (fun x s' ⟨k', mu', af, b1, b2, b3, b4, b5, b6, q⟩ => ⟨k', mu', ⟨af.X, af.tab.ok hT, b1, b2, b3, b4, b5, b6⟩, ?_⟩) fun _ _ e => e
  have t := af.tab.get hT
  have e2 : aux s' = aux s := by
    obtain ⟨_, _, _, ⟨_, rfl⟩, e, _⟩ := af
    exact Prod.ext (show s.gens = _ from e).symm t
  rw [e2, ha]; exact q

theorem MvA_fnC {w : World} {n : Nat} {k : Kn} {mu : Mu} {a : Aux} {fa : Addr} {st : Stmt} {qual : Str} {cdv : Value} {pos : List Value} {kw : List (Str × Value)} {Q : Value → Aux → Kn → Mu → Prop} (f : Fn w fa st qual cdv)
    (h : Ev w n EqG k (bindArgs (fdOf (obK w fa)) ⟨pos, kw⟩) (fun binds k' => ((binds.all fun y => (scopeOf st).names.lookup y.1 == some .local || (scopeOf st).names.lookup y.1 == some .cell) = true) ∧
      ∀ (base : Heap) (L : Addr), MtA (fcx w n EqG k' qual (scopeOf st) cdv fa L base) k' (bm binds) mu a (execs (bodyOf st) (fenv qual (scopeOf st) cdv L fa)) (fun f a' k'' _ mu' => ∃ mu1, mu1.Sublist mu' ∧ Q (retv f) a' k'' mu1)))
    {s : Shared} {A : Around} {R : Result → Shared → Prop} (hA : OkA (n + 1) A) (hP : Prog w (hideAll s.heap (TB :: mu.map (·.1)))) (hT : TabOk s.heap) (hk : k.In s.heap) (hkT : k TB = none) (hmu : ∀ p ∈ mu, s.heap.get? p.1 = some p.2) (hkmu : ∀ p ∈ mu, k p.1 = none) (hnd : (mu.map (·.1)).Nodup) (hmT : ∀ p ∈ mu, p.1 ≠ TB) (ha : aux s = a)
    (hR : ∀ v s', (∃ k' mu', MvPost k mu s s' k' mu' ∧ Q v (aux s') k' mu') → R (.ok (.ret v)) s') : codeAny (model P w) A (.call (.ref fa) ⟨pos, kw⟩) R s := by
  have subP : (hideAll s.heap (TB :: mu.map (·.1))).StaysIn s.heap := fun b o e => of_hideAll _ e
  have hP' : Prog w s.heap := hP.grow fun b o _ e => subP b o e
  have ho := hP'.K fa _ f.look
  refine codeAny_call_function hA.room ho f.data (by rw [f.scope]; exact f.co) (by rw [f.scope]; exact f.gen) f.body (by rw [f.code, f.qualn]; exact codeRec_of hP'.K f.codein) ?_
  refine wpAny_mono (h s A.in1 _ hA.in1 hP' hT hk hkT) (fun binds s₁ ⟨k', af, gr, kin, le, old, hbk, bodyOk⟩ => ?_) fun _ _ e => e
  have tg : TabG s.heap s₁.heap := af.tab
  have hT₁ := tg.ok hT
  have hkT₁ : k' TB = none := by
    obtain ⟨ps, e⟩ := hT
    exact (old _ _ e).trans hkT
  have nin : ∀ b, b ∉ TB :: mu.map (·.1) → b ≠ TB := fun b hb q => hb (q ▸ .head _)
  have hP₁ : Prog w (hideAll s₁.heap (TB :: mu.map (·.1))) := hP.grow fun b o hbT e => by
    have hn : b ∉ TB :: mu.map (·.1) := fun hm => by rw [hideAll_none _ hm] at e; cases e
    exact hideAll_get _ (gr b o hbT (subP b o e)) hn
  rw [f.scope, f.qualn, f.code, f.clo, f.glob, f.bi]
  refine wpAny_newFunctionEnv_cells f.kind (kindsX hbk _) fun env' he s₂ x => ?_
  subst he
  have S := stt_enterM (w := w) (n := n) (G := EqG) (cdv := cdv) (a := fa) (qual := qual) (mu := mu) eqG_ok hP₁ hT₁ kin hkT₁ (fun p hp => gr _ _ (hmT p hp) (hmu p hp)) (fun p hp => (old _ _ (hmu p hp)).trans (hkmu p hp)) hnd hmT f.kind f.cells x
  obtain ⟨h₂, tk₂, rfl, keep⟩ := x.done
  have haux : aux { s₁ with heap := h₂, toks := tk₂ } = a := by
    have t := af.tab.get hT
    obtain ⟨ps, e0⟩ := hT₁
    have t2 := (keep _ _ e0).trans e0.symm
    rw [← ha]
    obtain ⟨_, _, _, ⟨_, rfl⟩, e, _⟩ := af
    exact Prod.ext (show s.gens = _ from e).symm (t2.trans t)
  refine ⟨(hP₁.grow fun b o _ e => of_hideAll _ e).nolimit.keeps keep, codeAny_func ?_⟩
  refine wpAny_mono (bodyOk _ _ _ (A.deeper _) _ (hA.deeper _) S haux) (fun f s₃ ⟨k₃, m₃, mu₃, af₃, S₃, mu1, i1, q⟩ => ?_) fun _ _ e => e
  have fin : ∀ v, Q v (aux s₃) k₃ mu1 → ∃ k' mu', MvPost k mu s s₃ k' mu' ∧ Q v (aux s₃) k' mu' := by
    intro v hv
    refine ⟨k₃, mu1, ⟨?_, S₃.tab, ?_, S₃.kin, le.trans S₃.ext, ?_, (i1.map _).nodup S₃.nd, fun p hp => ?_⟩, hv⟩
    · exact (After.X af).trans (AfterX.trans ⟨h₂, tk₂, s₁.gens, _, rfl⟩ af₃)
    · intro b o hb e
      exact S₃.keep b o (hideAll_get _ (gr b o (nin b hb) e) hb)
    · intro b o hb e
      by_cases hbT : b = TB
      · subst hbT; rw [S₃.kT, hkT]
      · have hb' : b ∉ TB :: mu.map (·.1) := fun hm => (List.mem_cons.mp hm).elim hbT hb
        rw [S₃.extb b o (hideAll_get _ (gr b o (nin b hb') e) hb')]
        exact old b o e
    · have hp' := i1.subset hp
      refine ⟨S₃.own p hp', S₃.kmu p hp', S₃.muT p hp', ?_⟩
      by_cases hm : p.1 ∈ mu.map (·.1)
      · exact .inl hm
      · refine .inr ?_
        cases e : s.heap.get? p.1 with
        | none => rfl
        | some o =>
          have hb' : p.1 ∉ TB :: mu.map (·.1) := fun h => (List.mem_cons.mp h).elim (S₃.muT p hp') hm
          have := S₃.bmu p hp'
          rw [show (hideAll s₁.heap (TB :: mu.map (·.1))).get? p.1 = some o from hideAll_get _ (gr _ o (nin _ hb') e) hb'] at this
          cases this
  cases f <;> exact hR _ _ (fin _ q)
theorem MvA_fn {w : World} {n : Nat} {k : Kn} {mu : Mu} {a : Aux} {fa : Addr} {st : Stmt} {qual : Str} {cdv : Value} {pos : List Value} {kw : List (Str × Value)} {Q : Value → Aux → Kn → Mu → Prop} (f : Fn w fa st qual cdv)
    (h : Ev w n EqG k (bindArgs (fdOf (obK w fa)) ⟨pos, kw⟩) (fun binds k' => ((binds.all fun y => (scopeOf st).names.lookup y.1 == some .local || (scopeOf st).names.lookup y.1 == some .cell) = true) ∧
      ∀ (base : Heap) (L : Addr), MtA (fcx w n EqG k' qual (scopeOf st) cdv fa L base) k' (bm binds) mu a (execs (bodyOf st) (fenv qual (scopeOf st) cdv L fa)) (fun f a' k'' _ mu' => ∃ mu1, mu1.Sublist mu' ∧ Q (retv f) a' k'' mu1))) :
    MvA w (n + 1) k mu a (call (.ref fa) pos kw) Q := fun s A E hA hP hT hk hkT hmu hkmu hnd hmT ha =>
  wpAny_call (MvA_fnC f h hA hP hT hk hkT hmu hkmu hnd hmT ha fun v s' hq => hq)
end Mine

-- MH
namespace Mine
def fldO (o : Obj) : Array Value := match o.data with | .fields vs => vs | _ => #[]
def strV : Value → Str
  | .str x _ => x
  | _ => Str.empty
def tokV : Value → Tok
  | .str _ t => t
  | .int _ t => t
  | _ => 0
def intV : Value → Int
  | .int i _ => i
  | _ => 0
def boolV : Value → Bool
  | .bool b => b
  | _ => false
theorem code94 {w : World} {h : Heap} (hK : (KF w).In h) : CodeHd h 94 TB :=
  ⟨obK w 94, fldO (obK w 94), strV ((fldO (obK w 94)).getD 18 .none), tokV ((fldO (obK w 94)).getD 18 .none), intV ((fldO (obK w 94)).getD 7 .none), tokV ((fldO (obK w 94)).getD 7 .none), boolV ((fldO (obK w 94)).getD 9 .none),
    intV ((fldO (obK w 94)).getD 10 .none), tokV ((fldO (obK w 94)).getD 10 .none), hK 94 (obK w 94) (by kernel_rfl), by kernel_rfl, by kernel_rfl, by kernel_rfl, by kernel_rfl, by kernel_rfl, by kernel_rfl, by kernel_rfl, by kernel_rfl, by decide⟩
def posOf : Stmt → Pos
  | .FunctionDef _ _ _ _ _ _ _ _ _ p => p
  | _ => default
abbrev genN : Str := "generate_lca_from_pairs"
def genPos : Pos := posOf genSt
abbrev genFd (doc pm : Value) (c' : Addr) (ctv : Value) : FuncData := fnX genN genQ (paramsOf genSt) (bodyOf genSt) (scopeOf genSt) [] .none .none doc pm none (.ref c') ctv
def CodeAt (k : Kn) (c : Addr) : Prop := ∃ oc vs t, k c = some oc ∧ oc.data = .fields vs ∧ vs[1]? = some (.str genQ t)
def CodeTab (k : Kn) (o : Option Obj) : Prop := ∃ ps, o = some (tabObj ps) ∧ TriplesOk ps.toList ∧ ∀ cv, codeAmong genPos ps.toList = some cv → ∃ c, cv = .ref c ∧ CodeAt k c
def GenFn (k : Kn) (f : Addr) : Prop := ∃ doc pm c ctv o, k f = some o ∧ o.cls = .type "function" ∧ o.data = .func (genFd doc pm c ctv) ∧ CodeAt k c
theorem CodeAt.le {k k' : Kn} {c : Addr} (h : CodeAt k c) (l : k.Le k') : CodeAt k' c := let ⟨oc, vs, t, e, r⟩ := h; ⟨oc, vs, t, l _ _ e, r⟩
theorem CodeTab.le {k k' : Kn} {o : Option Obj} (h : CodeTab k o) (l : k.Le k') : CodeTab k' o := let ⟨ps, e, t, r⟩ := h; ⟨ps, e, t, fun cv hc => let ⟨c, e, x⟩ := r cv hc; ⟨c, e, x.le l⟩⟩
theorem GenFn.le {k k' : Kn} {f : Addr} (h : GenFn k f) (l : k.Le k') : GenFn k' f := let ⟨doc, pm, c, ctv, o, e, x, y, z⟩ := h; ⟨doc, pm, c, ctv, o, l _ _ e, x, y, z.le l⟩

abbrev apQ : Str := "all_pairs_lowest_common_ancestor"
noncomputable abbrev apcx (w : World) (n : Nat) (k0 : Kn) (L : Addr) (base : Heap) : Cx := fcx w n EqG k0 apQ (scopeOf (stAt 11)) (cdOf w 95) 95 L base
theorem cd95 (w : World) : cdOf w 95 = .ref 94 := by kernel_rfl

theorem gen_eq : genSt = .FunctionDef genN (paramsOf genSt) (bodyOf genSt) [] none [] (scopeOf genSt) none genN genPos := by kernel_rfl
theorem gen_qual (w : World) (L : Addr) : qualnameIn (fenv apQ (scopeOf (stAt 11)) (cdOf w 95) L 95) genN genN = genQ := by kernel_rfl
theorem gen_kind (w : World) (L : Addr) : (fenv apQ (scopeOf (stAt 11)) (cdOf w 95) L 95).kindOf genN = some .local := by kernel_rfl
theorem gen_ann (w : World) (L : Addr) : annTrees (paramsOf genSt) none (fenv apQ (scopeOf (stAt 11)) (cdOf w 95) L 95) = [] := by kernel_rfl
theorem gen_clo (w : World) (L : Addr) : closureFor (scopeOf genSt) (fenv apQ (scopeOf (stAt 11)) (cdOf w 95) L 95) = pure [] := by kernel_rfl
section
variable {w : World} {n : Nat} {k0 k : Kn} {L : Addr} {base : Heap} {m : Lm} {mu : Mu} {a : Aux}
theorem MtA_defgen (hT : CodeTab k a.2) {Q : Flow → Aux → Kn → Lm → Mu → Prop} (h : ∀ k' f a', k.Le k' → GenFn k' f → CodeTab k' a'.2 → a'.1 = a.1 → Q .next a' k' (m.set genN (.ref f)) mu) :
    MtA (apcx w n k0 L base) k m mu a (exec genSt (apcx w n k0 L base).env) Q := by
  intro s A E hA S ha
  obtain ⟨ps, hps, htr, hcode⟩ := hT
  obtain ⟨hb, p, loose, mean, mg, mb, hKb, T, hbT, hst⟩ := S.progs.ex
  have hP : s.heap.get? TB = some (tabObj ps) := by rw [← hps, ← ha]; rfl
  have hgs := T.g.keeps hst
  obtain ⟨bm, ob, b1, b2, b3, b4, b5, b6⟩ := T.bmain
  have hgP : mainGlobals ≠ TB := fun q => by
    obtain ⟨o, es, ep, e, hd, _⟩ := T.g
    rw [q, hbT] at e; cases e
  have hbP : bm ≠ TB := fun q => by rw [q, hbT] at b3; cases b3
  have hbG : bm ≠ mainGlobals := fun q => by
    obtain ⟨o, es, ep, e, hd, _⟩ := T.g
    rw [q, e] at b3; cases b3; rw [hd] at b6; cases b6
  have hfresh : ∀ b, s.heap.objs.size ≤ b → s.heap.get? b = none := fun b hb => Heap.get?_none_of_le hb
  have knone : ∀ b, s.heap.objs.size ≤ b → k b = none := fun b hb => by
    cases e : k b with
    | none => rfl
    | some o => have := S.kin b o e; rw [hfresh b hb] at this; cases this
  rw [gen_eq]
  refine nestDef_K (by kernel_rfl) (by kernel_rfl) (gen_ann w L) ?_
  rw [gen_qual]
  cases hf : codeAmong genPos ps.toList with
  | none =>
    refine makeFunction_K (mg := mg) (clos := []) (gen_clo w L) rfl hgs (cd95 w) (code94 S.progs.K) hP htr hf hgP ⟨bm, ob, b1, b2, hbG, hbP, hst _ _ b3, b4, b5, b6⟩ fun c' ctv doc h' tk hx hge hlt hrec htb => ?_
    obtain ⟨c₂, oc, vs, t, e2, hoc, hd, hv⟩ := hrec
    cases e2
    generalize hfo : (fnMade genN _ _ _ _ _ _ _ _ _ : Obj) = fo
    have hnf0 : fo.isFreed = false := by subst hfo; rfl
    have hne : c' ≠ h'.objs.size := Nat.ne_of_lt hlt
    have le1 : k.Le ((k.put c' oc).put h'.objs.size fo) := (Kn.le_put (knone _ hge)).trans (Kn.le_put (by rw [Kn.put_ne _ (Ne.symm hne)]; exact knone _ (Nat.le_trans hge (Nat.le_of_lt hlt))))
    have kp : ∀ b o, b ≠ TB → s.heap.get? b = some o → (h'.push fo).get? b = some o := fun b o hb e => Heap.get?_push_of_some _ (hx b o hb e)
    have kin : ((k.put c' oc).put h'.objs.size fo).In (h'.push fo) := fun b o e => by
      by_cases q1 : b = h'.objs.size
      · subst q1; rw [Kn.put_self] at e; cases e; exact Heap.get?_push_size _ hnf0
      · rw [Kn.put_ne _ q1] at e
        by_cases q2 : b = c'
        · subst q2; rw [Kn.put_self] at e; cases e; exact Heap.get?_push_of_some _ hoc
        · rw [Kn.put_ne _ q2] at e
          exact kp b o (fun q => by rw [q, S.kT] at e; cases e) (S.kin b o e)
    have kex : ∀ b o, s.heap.get? b = some o → ((k.put c' oc).put h'.objs.size fo) b = k b := fun b o e => by
      have l := Heap.lt_size e
      have q1 : b ≠ h'.objs.size := Nat.ne_of_lt (Nat.lt_of_lt_of_le l (Nat.le_trans hge (Nat.le_of_lt hlt)))
      have q2 : b ≠ c' := Nat.ne_of_lt (Nat.lt_of_lt_of_le l hge)
      rw [Kn.put_ne _ q1, Kn.put_ne _ q2]
    obtain ⟨S', -⟩ := mv_backT (mu1 := []) (mu' := []) (s := s) (s' := { s with heap := h'.push fo, toks := tk }) (k' := (k.put c' oc).put h'.objs.size fo) S ⟨_, Heap.get?_push_of_some _ htb⟩ (fun b o hb e => kp b o (fun q => hb (q ▸ .head _)) e) kin le1 (fun b o _ e => kex b o e) List.nodup_nil (fun p hp => (nomatch hp))
    refine wpAny_mono (Mt_setL (C := apcx w n k0 L base) (Q := fun _ k m mu => Q .next _ k m mu) (h _ h'.objs.size (s.gens, some (tabObj (ps ++ #[rawInt genPos.line, rawInt genPos.col, .ref c']))) le1 ⟨doc, (mg "__name__").getD .none, c', ctv, fo, Kn.put_self _ _ _, by subst hfo; rfl, by subst hfo; rfl, oc, vs, t, by rw [Kn.put_ne _ hne, Kn.put_self], hd, hv⟩ ⟨_, rfl, by rw [Array.toList_append]; exact TriplesOk_snoc _ _ _ _ htr, fun cv hcv => ?_⟩ (by rw [← ha]; rfl)) (gen_kind w L)
      { s with heap := h'.push fo, toks := tk } A E hA S') (fun _ s₂ ⟨k₂, m₂, mu₂, af, S₂, q⟩ => ⟨k₂, m₂, mu₂, ?_, S₂, ?_⟩) fun _ _ e => e
    · rw [Array.toList_append, show (#[rawInt genPos.line, rawInt genPos.col, Value.ref c'] : Array Value).toList = [rawInt genPos.line, rawInt genPos.col, .ref c'] from rfl, codeAmong_snoc _ htr hf] at hcv
      cases hcv
      exact ⟨c', rfl, oc, vs, t, by rw [Kn.put_ne _ hne, Kn.put_self], hd, hv⟩
    · exact AfterX.trans ⟨h'.push fo, tk, s.gens, s.drawn, rfl⟩ af.X
    · rw [af.aux rfl S', show aux { s with heap := h'.push fo, toks := tk } = (s.gens, some (tabObj (ps ++ #[rawInt genPos.line, rawInt genPos.col, .ref c']))) from Prod.ext rfl (Heap.get?_push_of_some _ htb)]
      exact q
  | some cv =>
    obtain ⟨c', rfl, hca⟩ := hcode cv hf
    refine makeFunction_hit (mg := mg) (clos := []) (gen_clo w L) rfl hgs (cd95 w) (code94 S.progs.K) hP htr hf ⟨bm, ob, b1, b2, hbG, hbP, hst _ _ b3, b4, b5, b6⟩ fun ctv doc h' tk hk hsz => ?_
    generalize hfo : (Obj.mk _ _ _ _ : Obj) = fo
    have hnf0 : fo.isFreed = false := by subst hfo; rfl
    have le1 : k.Le (k.put h'.objs.size fo) := Kn.le_put (knone _ hsz)
    have kp : ∀ b o, s.heap.get? b = some o → (h'.push fo).get? b = some o := fun b o e => Heap.get?_push_of_some _ (hk b o e)
    have kin : (k.put h'.objs.size fo).In (h'.push fo) := fun b o e => by
      by_cases q1 : b = h'.objs.size
      · subst q1; rw [Kn.put_self] at e; cases e; exact Heap.get?_push_size _ hnf0
      · rw [Kn.put_ne _ q1] at e
        exact kp b o (S.kin b o e)
    have kex : ∀ b o, s.heap.get? b = some o → (k.put h'.objs.size fo) b = k b := fun b o e => by
      have l := Heap.lt_size e
      have q1 : b ≠ h'.objs.size := Nat.ne_of_lt (Nat.lt_of_lt_of_le l hsz)
      rw [Kn.put_ne _ q1]
    obtain ⟨S', -⟩ := mv_backT (mu1 := []) (mu' := []) (s := s) (s' := { s with heap := h'.push fo, toks := tk }) (k' := k.put h'.objs.size fo) S ⟨_, kp _ _ hP⟩ (fun b o hb e => kp b o e) kin le1 (fun b o _ e => kex b o e) List.nodup_nil (fun p hp => (nomatch hp))
    refine wpAny_mono (Mt_setL (C := apcx w n k0 L base) (Q := fun _ k m mu => Q .next _ k m mu) (h _ h'.objs.size (s.gens, some (tabObj ps)) le1 ⟨doc, (mg "__name__").getD .none, c', ctv, fo, Kn.put_self _ _ _, by subst hfo; rfl, by subst hfo; rfl, hca.le le1⟩ ⟨_, rfl, htr, fun cv hcv => ?_⟩ (by rw [← ha]; rfl)) (gen_kind w L)
      { s with heap := h'.push fo, toks := tk } A E hA S') (fun _ s₂ ⟨k₂, m₂, mu₂, af, S₂, q⟩ => ⟨k₂, m₂, mu₂, ?_, S₂, ?_⟩) fun _ _ e => e
    · rw [hf] at hcv; cases hcv
      exact ⟨c', rfl, hca.le le1⟩
    · exact AfterX.trans ⟨h'.push fo, tk, s.gens, s.drawn, rfl⟩ af.X
    · rw [af.aux rfl S', show aux { s with heap := h'.push fo, toks := tk } = (s.gens, some (tabObj ps)) from Prod.ext rfl (kp _ _ hP)]
      exact q

theorem bind_gen (doc pm ctv : Value) (c : Addr) (x y : Value) : bindArgs (genFd doc pm c ctv) ⟨[x, y], []⟩ = pure [(("G" : Str), x), (("pairs" : Str), y)] := by kernel_rfl
theorem MtA_gencall {C : Cx} {f g pr : Addr} (hf : GenFn k f) {Q : Value → Aux → Kn → Lm → Mu → Prop}
    (h : ∀ k' go oa muX cdv Lg a', k.Le k' → k' go = some oa → OGen oa a.1.size → (∀ n k1 base, Asleep (gcx C.w n k1 cdv f Lg base) (bm [(("G" : Str), .ref g), (("pairs" : Str), .ref pr)]) muX []) →
      a' = (a.1.push (.fresh (.func (bodyOf genSt) (gcx C.w 0 k cdv f Lg default).env)), a.2) → Q (.ref go) a' k' m (muX ++ mu)) : MtA C k m mu a (call (.ref f) [.ref g, .ref pr]) Q := by
  intro s A E hA S ha
  obtain ⟨doc, pm, c, ctv, fo, hfo, hcls, hd, oc, vs, t, hc, hcd, hcv⟩ := hf
  refine wpAny_call (codeAny_call_generator (body := bodyOf genSt) hA.room (S.kin _ _ hfo) hd (by rfl) (by rfl) rfl ⟨c, oc, vs, t, rfl, S.kin _ _ hc, hcd, hcv⟩ ?_)
  rw [bind_gen]
  refine wpAny_pure ?_
  refine wpAny_newFunctionEnv_cells (by rfl) (kindsX (by kernel_rfl) _) fun env' he s₂ x => ?_
  subst he
  have S2 := stt_enterM (w := C.w) (n := 5) (G := EqG) (cdv := .ref c) (a := f) (qual := genQ) (mu := []) (sc := scopeOf genSt) eqG_ok (mv_prog (mu1 := []) S) S.tab S.kin S.kT (fun p hp => (nomatch hp)) (fun p hp => (nomatch hp)) List.nodup_nil (fun p hp => (nomatch hp)) (by rfl) (by decide) x
  obtain ⟨h₂, tk₂, rfl, keep⟩ := x.done
  obtain ⟨muX, asl, ⟨_, tg, old, kin, le, ex, nd, pm⟩⟩ := stt_sleep (s0 := s) (mu0 := []) (gfr C.w 5 k (.ref c) f s.heap.objs.size (hideAll s.heap [TB])) S2 rfl rfl S.kT ⟨⟨h₂, tk₂, s.drawn, rfl⟩, fun ps e => keep _ _ e⟩
  refine ⟨S.progs.nolimit.keeps keep, ?_⟩
  generalize hgo : (Obj.mk _ _ _ _ : Obj) = go
  have hnf0 : go.isFreed = false := by subst hgo; rfl
  have kn : k h₂.objs.size = none := by
    cases e : k h₂.objs.size with
    | none => rfl
    | some o => have := keep _ _ (S.kin _ o e); rw [Heap.get?_none_of_le (Nat.le_refl _)] at this; cases this
  have le1 : k.Le (k.put h₂.objs.size go) := Kn.le_put kn
  have kp : ∀ b o, s.heap.get? b = some o → (h₂.push go).get? b = some o := fun b o e => Heap.get?_push_of_some _ (keep b o e)
  have hlt : ∀ b o, s.heap.get? b = some o → b ≠ h₂.objs.size := fun b o e => Nat.ne_of_lt (Heap.lt_size (keep b o e))
  have hP : ∃ ps, s.heap.get? TB = some (tabObj ps) := S.tab
  obtain ⟨ps, hP⟩ := hP
  have kin' : (k.put h₂.objs.size go).In (h₂.push go) := fun b o e => by
    by_cases q1 : b = h₂.objs.size
    · subst q1; rw [Kn.put_self] at e; cases e; exact Heap.get?_push_size _ hnf0
    · rw [Kn.put_ne _ q1] at e
      exact kp b o (S.kin b o e)
  have pm' : ∀ p ∈ muX, (h₂.push go).get? p.1 = some p.2 ∧ (k.put h₂.objs.size go) p.1 = none ∧ p.1 ≠ TB ∧ (p.1 ∈ ([] : Mu).map (·.1) ∨ s.heap.get? p.1 = none) := fun p hp => by
    obtain ⟨p1, p2, p3, p4⟩ := pm p hp
    exact ⟨Heap.get?_push_of_some _ p1, by rw [Kn.put_ne _ (Nat.ne_of_lt (Heap.lt_size p1))]; exact p2, p3, .inr (p4.resolve_left (by simp))⟩
  obtain ⟨S', -⟩ := mv_backT (mu1 := []) (mu' := muX) (s := s) (s' := { s with heap := h₂.push go }) (k' := k.put h₂.objs.size go) S ⟨_, kp _ _ hP⟩ (fun b o hb e => kp b o e) kin' le1 (fun b o _ e => Kn.put_ne _ (hlt b o e)) nd pm'
  refine ⟨_, m, _, ⟨h₂.push go, _, _, _, rfl⟩, S', ?_⟩
  refine h _ h₂.objs.size go muX (.ref c) s.heap.objs.size _ le1 (Kn.put_self _ _ _) ⟨_, _, by rw [← hgo], by rw [← hgo, ← ha]; rfl, by rw [← hgo]⟩ (fun n k1 base => ?_) ?_
  · obtain ⟨oL, oc, c, x, ml, h1, h2, h3⟩ := asl
    exact ⟨oL, oc, c, x, ml, h1, h2, h3⟩
  · rw [← ha]
    exact Prod.ext rfl ((kp _ _ hP).trans hP.symm)
end
end Mine

-- MI
namespace Mine
def MtCA (C : Cx) (k : Kn) (m : Lm) (mu : Mu) (a : Aux) (c : Code) (Q : Flow → Aux → Kn → Lm → Mu → Prop) : Prop :=
  ∀ (s : Shared) (A : Around), OkA C.n A → Stt C k m mu s.heap → aux s = a →
    codeAny (model P C.w) A c (fun r s' => match r with | .ok f => ∃ k' m' mu', AfterX s s' ∧ Stt C k' m' mu' s'.heap ∧ Q f (aux s') k' m' mu' | .error _ => False) s
section
variable {α β : Type} {C : Cx} {k : Kn} {m : Lm} {mu : Mu} {a : Aux}
theorem MtA_toAt {n : Nat} (hn : n ≤ C.n) {t : Sem α} {Q : α → Aux → Kn → Lm → Mu → Prop} (h : MtA (C.at n) k m mu a t Q) : MtA C k m mu a t Q := fun s A E hA S ha =>
  wpAny_mono (h s A E (hA.le hn) (S.toAt n) ha) (fun x s' ⟨k', m', mu', af, S', q⟩ => ⟨k', m', mu', af, S'.ofAt, q⟩) fun _ _ e => e
theorem aux_eq {s : Shared} {h' : Heap} {tk : Nat} (hT : h'.get? TB = s.heap.get? TB) : aux { s with heap := h', toks := tk } = aux s := Prod.ext rfl hT
/-- list(x), x no list and no tuple -/
theorem MtA_list {xa : Addr} {n : Nat} {Q : Value → Aux → Kn → Lm → Mu → Prop} (hn : C.n = n + 1)
    (hx : ∀ h, Stt C k m mu h → (∃ o, h.get? xa = some o) ∧ ∃ tp, Looks (model P C.w) h (typeOf (.ref xa)) tp ∧ (tp == Value.type "list") = false ∧ (tp == Value.type "tuple") = false)
    (h : ∀ S o, TB < S → OList o [] → MtA (C.at n) k m ((S, o) :: mu) a (pyIter (.ref xa)) (fun it a k m mu => MtA (C.at n) k m mu a (Builtin.List.listLengthHint (.ref xa)) (fun b a k m mu' => ∃ l1 l2 o, mu' = l1 ++ (S, o) :: l2 ∧ OList o [] ∧ ∀ o', OList o' [] →
      MtCA (C.at n) k m (l1 ++ (S, o') :: l2) a (.builtin "list.extend.loop" ⟨[.ref S, it, .none], []⟩) (fun f a k m mu => f = .ret .none ∧ Q (.ref S) a k m mu)))) :
    MtA C k m mu a (call (.type "list") [.ref xa]) Q := fun s A E hA S ha => by
  have hA2 : OkA n A.in1.in1 := OkA.in2 (hn ▸ hA)
  refine callType_codes (Q₁ := fun obj s₁ => obj = .ref s.heap.objs.size ∧ s₁ = { s with heap := s.heap.push lst0 }) PySem.F.called_list (PySem.F.typeCall_list_1 _) PySem.F.entry_list_init (code_list_new _ ⟨rfl, rfl⟩) fun obj s₁ h₁ => ?_
  obtain ⟨rfl, rfl⟩ := h₁
  have hS : (s.heap.push lst0).get? s.heap.objs.size = some lst0 := Heap.get?_push_size _ rfl
  refine ⟨⟨_, hS, rfl⟩, PySem.F.args_list_init_2 _ _, ?_⟩
  show wpAny _ A.in1.in1 (do let old ← Builtin.List.listItems (.ref s.heap.objs.size); Builtin.List.listUpdate (.ref s.heap.objs.size) (fun _ => #[]); letGo old.toList.reverse; Builtin.List.listExtendWith (.ref s.heap.objs.size) (.ref xa) .none) _ _ _
  refine wpAny_bind ?_
  unfold Builtin.List.listItems
  refine wpAny_bind (wpAny_seqItems hS rfl (wpAny_pure ?_))
  show wpAny _ A.in1.in1 (updateSeq s.heap.objs.size (fun _ => #[]) >>= fun _ => letGo (#[] : Array Value).toList.reverse >>= fun _ => Builtin.List.listExtendWith (.ref s.heap.objs.size) (.ref xa) .none) _ _ _
  refine wpAny_bind (wpAny_updateSeq hS rfl ?_)
  have hS₂ := Heap.get?_update_self (Obj.mapSeq (fun _ => (#[] : Array Value))) hS rfl
  have oth : ∀ b o, b ≠ s.heap.objs.size → (s.heap.push lst0).get? b = some o → ((s.heap.push lst0).update s.heap.objs.size (Obj.mapSeq (fun _ => (#[] : Array Value)))).get? b = some o :=
    fun b o hb e => (Heap.get?_update_other _ _ (Ne.symm hb)).trans e
  refine wpAny_bind (wpAny_letGo ?_)
  have St0 := (S.toAt n).pushMu (o := lst0) rfl
  have St1 := Stt.turned (l1 := []) (o' := Obj.mapSeq (fun _ => (#[] : Array Value)) lst0) St0 oth hS₂
  generalize ((s.heap.push lst0).update s.heap.objs.size (Obj.mapSeq (fun _ => (#[] : Array Value)))) = h2 at *
  have ne : ∀ b o, s.heap.get? b = some o → b ≠ s.heap.objs.size := fun b o e => Nat.ne_of_lt (Heap.lt_size e)
  have kp : ∀ b o, s.heap.get? b = some o → h2.get? b = some o := fun b o e => oth b o (ne b o e) (Heap.get?_push_of_some _ e)
  obtain ⟨⟨ox, hox⟩, tp, lt, t1, t2⟩ := hx _ S
  have hT2 : h2.get? TB = s.heap.get? TB := by obtain ⟨ps, e⟩ := S.tab; exact (kp _ _ e).trans e.symm
  unfold Builtin.List.listExtendWith
  refine wpAny_bind ((lt.keeps kp) _ _ _ _ (fun _ _ e => e) ?_)
  have h1 : Builtin.List.listSameRef (.ref s.heap.objs.size) (.ref xa) = false := by simp [Builtin.List.listSameRef]; exact Ne.symm (ne _ _ hox)
  simp only [h1, t1, t2, Bool.or_false, Bool.false_eq_true, if_false]
  refine wpAny_bind (wpAny_mono (h s.heap.objs.size _ S.lt_size ⟨rfl, rfl, rfl, _, rfl⟩ { s with heap := h2 } A.in1.in1 _ hA2 St1 ((Prod.ext rfl hT2 : aux { s with heap := h2 } = aux s).trans ha)) (fun it s₃ ⟨k₃, m₃, mu₃, af₃, S₃, q₃⟩ => ?_) fun _ _ e => e)
  refine wpAny_bind (wpAny_holding (wpAny_mono (q₃ s₃ _ _ hA2 S₃ rfl) (fun b s₄ ⟨k₄, m₄, mu₄, af₄, S₄, l1, l2, o4, e4, ho4, q₄⟩ => ?_) fun _ _ e => e))
  subst e4
  have af4 : AfterX s s₄ := AfterX.trans ⟨h2, _, _, _, rfl⟩ (af₃.trans af₄)
  have fin : ∀ (s₅ : Shared) (o' : Obj), OList o' [] → AfterX s s₅ → Stt (C.at n) k₄ m₄ (l1 ++ (s.heap.objs.size, o') :: l2) s₅.heap → aux s₅ = aux s₄ → codeAny (model P C.w) A.in1 (.builtin "list.extend.loop" ⟨[.ref s.heap.objs.size, it, .none], []⟩) (wants (fun r s₂ => r = .none ∧ ∃ k' m' mu', AfterX s s₂ ∧ Stt C k' m' mu' s₂.heap ∧ Q (.ref s.heap.objs.size) (aux s₂) k' m' mu') E) s₅ := by
    intro s₅ o' ho' af5 S5 ha5
    refine codeAny_mono (q₄ o' ho' s₅ A.in1 ((hn ▸ hA : OkA (n + 1) A).in1) S5 ha5) fun r s₆ hr => ?_
    cases r with
    | error e => exact hr.elim
    | ok f =>
      obtain ⟨k', m', mu', af6, S6, rfl, q⟩ := hr
      exact ⟨rfl, k', m', mu', af5.trans af6, S6.ofAt, q⟩
  split
  · refine wpAny_bind (wpAny_rule ?_)
    refine wpAny_bind ?_
    show wpAny _ A.in1.in1 (updateSeq s.heap.objs.size (·.push .none) >>= fun _ => updateSeq s.heap.objs.size (·.pop)) _ _ _
    obtain ⟨c4, d4⟩ := ho4.eq
    subst d4
    have g4 := S₄.own _ mem_mid
    refine wpAny_bind (wpAny_updateSeq g4 rfl ?_)
    have g5 := Heap.get?_update_self (Obj.mapSeq (·.push Value.none)) g4 rfl
    have S5 := S₄.turned (o' := Obj.mapSeq (·.push Value.none) _) (fun b o hb e => (Heap.get?_update_other _ _ (Ne.symm hb)).trans e) g5
    refine wpAny_updateSeq (hz := by seq_fits) g5 rfl ?_
    have g6 := Heap.get?_update_self (Obj.mapSeq (·.pop)) g5 rfl
    have S6 := S5.turned (o' := Obj.mapSeq (·.pop) _) (fun b o hb e => (Heap.get?_update_other _ _ (Ne.symm hb)).trans e) g6
    have hT6 : S6.tab = S6.tab := rfl
    have tne : s.heap.objs.size ≠ TB := S₄.muT _ mem_mid
    refine wpAny_pure ⟨plainId_quiet PySem.F.plain_extend_loop _, fin _ _ ⟨rfl, rfl, rfl, _, rfl⟩ (af4.trans ⟨_, _, _, _, rfl⟩) S6 ?_⟩
    exact Prod.ext rfl ((Heap.get?_update_other _ _ tne).trans (Heap.get?_update_other _ _ tne))
  · exact wpAny_pure ⟨plainId_quiet PySem.F.plain_extend_loop _, fin _ _ ho4 af4 S₄ rfl⟩

/-- the filling loop -/
theorem MtCA_ext {ρ : Type} {it S : Addr} {rows : List ρ} {R : Kn → ρ → Value → Prop} (hR : ∀ k k' r v, k.Le k' → R k r v → R k' r v) (Inv : Nat → Aux → Kn → Mu → Prop) {n : Nat} (hn : C.n = n + 1) (hsz : rows.length ≤ 2 ^ 20)
    (next : ∀ i r a k mu oS, rows[i]? = some r → Inv i a k mu → MtA (C.at n) k m ((S, oS) :: mu) a (pyNext (.ref it)) (fun x a' k' m' mu' => m' = m ∧ ∃ v mu2, x = some v ∧ mu' = (S, oS) :: mu2 ∧ R k' r v ∧ Inv (i + 1) a' k' mu2 ∧ k.Le k'))
    (done : ∀ a k mu oS, Inv rows.length a k mu → MtA (C.at n) k m ((S, oS) :: mu) a (pyNext (.ref it)) (fun x a' k' m' mu' => m' = m ∧ ∃ mu2, x = none ∧ mu' = (S, oS) :: mu2 ∧ Inv (rows.length + 1) a' k' mu2 ∧ k.Le k')) :
    ∀ (j i : Nat) (k : Kn) (mu : Mu) (a : Aux) (oS : Obj) (vs : List Value), rows.length - i = j → i ≤ rows.length → Inv i a k mu → OList oS vs → Are (R k) (rows.take i) vs →
      MtCA C k m ((S, oS) :: mu) a (.builtin "list.extend.loop" ⟨[.ref S, .ref it, .none], []⟩) (fun f a' k' m' mu' => f = .ret .none ∧ m' = m ∧ k.Le k' ∧ ∃ oS' vs' mu2, mu' = (S, oS') :: mu2 ∧ OList oS' vs' ∧ Are (R k') rows vs' ∧ Inv (rows.length + 1) a' k' mu2) := by
  intro j
  induction j with
  | zero =>
    intro i k mu a oS vs hj hi hI hS hvs s A hA St ha
    have hin : i = rows.length := by omega
    subst hin
    refine codeAny_builtin PySem.F.entry_extend_loop ?_
    rw [Around.under_plainId PySem.F.plain_extend_loop _]
    show wpAny _ A.in1 (pyNext (.ref it) >>= _) _ _ s
    refine wpAny_bind (wpAny_mono (done a k mu oS hI s A.in1 _ ((hn ▸ hA : OkA (n + 1) A).in1) (St.toAt n) ha) (fun x s' ⟨k', m', mu', af, S', e1, mu2, e2, e3, hI', le⟩ => ?_) fun _ _ e => e)
    subst e1 e2 e3
    rw [List.take_of_length_le (Nat.le_refl _)] at hvs
    exact wpAny_pure ⟨_, _, _, af, S'.ofAt, rfl, rfl, le, oS, vs, mu2, rfl, hS, hvs.mono fun r _ v => hR _ _ r v le, hI'⟩
  | succ j ih =>
    intro i k mu a oS vs hj hi hI hS hvs s A hA St ha
    have hlt : i < rows.length := by omega
    have hx : rows[i]? = some rows[i] := by simp [hlt]
    refine codeAny_builtin PySem.F.entry_extend_loop ?_
    rw [Around.under_plainId PySem.F.plain_extend_loop _]
    show wpAny _ A.in1 (pyNext (.ref it) >>= _) _ _ s
    refine wpAny_bind (wpAny_mono (next i rows[i] a k mu oS hx hI s A.in1 _ ((hn ▸ hA : OkA (n + 1) A).in1) (St.toAt n) ha) (fun x s' ⟨k', m', mu', af, S', e1, v, mu2, e2, e3, hr, hI', le⟩ => ?_) fun _ _ e => e)
    subst e1 e2 e3
    show wpAny _ A.in1 (updateSeq S (·.push v) >>= _) _ _ _
    refine wpAny_bind ?_
    obtain ⟨c4, d4⟩ := hS.eq
    subst d4
    have hlen : vs.length = i := by have := hvs.1; rw [List.length_take] at this; omega
    have g4 := S'.own _ (.head _)
    have g5 := Heap.get?_update_self (Obj.mapSeq (·.push v)) g4 rfl
    have S5 := Stt.turned (l1 := []) (o' := Obj.mapSeq (·.push v) _) S' (fun b o hb e => (Heap.get?_update_other _ _ (Ne.symm hb)).trans e) g5
    have tne : S ≠ TB := S'.muT _ (.head _)
    have hz : (2 : Nat) ^ 20 ≤ sizeLine := by decide +kernel
    have hz1 : vs.toArray.size ≤ sizeLine := by rw [List.size_toArray]; omega
    have hz2 : (vs.toArray.push v).size ≤ sizeLine + 1 := by rw [Array.size_push]; omega
    refine wpAny_updateSeq g4 rfl (wpAny_pure ⟨plainId_quiet PySem.F.plain_extend_loop _, ?_⟩) hz1 hz2
    have hvs' : Are (R k') (rows.take (i + 1)) (vs ++ [v]) := by
      rw [List.take_add_one, hx]
      exact (hvs.mono fun r _ v => hR _ _ r v le).push hr
    refine codeAny_mono (ih (i + 1) k' mu2 (aux s') _ (vs ++ [v]) (by omega) hlt hI' ⟨rfl, rfl, rfl, _, by simp [Obj.mapSeq]; rfl⟩ hvs' _ A hA S5.ofAt ?_) fun r s₃ hr3 => ?_
    · exact Prod.ext rfl (Heap.get?_update_other _ _ tne)
    · cases r with
      | error e => exact hr3.elim
      | ok f =>
        obtain ⟨k₃, m₃, mu₃, af₃, S₃, rfl, rfl, le3, q⟩ := hr3
        exact ⟨_, _, _, af.trans (AfterX.trans ⟨_, _, _, _, rfl⟩ af₃), S₃, rfl, rfl, le.trans le3, q⟩
end
end Mine

-- MJ
namespace Mine
/-- G.__len__() -/
theorem len_ev {w : World} {n : Nat} {G : Gr} {k : Kn} (gk : GOk G) {g gd nd ad pd : Addr} {xs : List Int} (hg : IsG k [] g (gNames gd nd ad pd)) (hx : KeysAt w k nd xs) (hsz : xs.length ≤ 1000) :
    Ev w (n + 1) G k (call (.ref 392) [.ref g]) (fun v k' => k' = k ∧ ∃ t, v = .int xs.length t) := by
  obtain ⟨o, kvs, h1, h2, h3, lo⟩ := hx
  refine Ev_fn gk (fn_len w) ?_
  rw [bind_len]
  refine Ev_pure gk ⟨by kernel_rfl, fun base L => ?_⟩
  refine Mt_cons (Mt_Return (Mt_Call (Mt_nameB (v := .builtin "len") (by kernel_rfl) (by kernel_rfl) (by decide) ⟨keeps_builtin _, ?_⟩)))
  have hl : kvs.length = xs.length := by rw [← h3, List.length_map]
  refine Mt_spliced_cons (Mt_Attribute (Mt_nameL rfl (Mt_getAttr hg rfl rfl (by kernel_rfl) (Mt_spliced_nil ?_))))
  exact Mt_len_dict lo (.inl h1) h2 (fun t => ⟨rfl, t, by rw [hl]; rfl⟩) (by omega)
section
variable {α β : Type} {C : Cx} {k : Kn} {m : Lm} {mu : Mu} {a : Aux}
theorem Mt_lenG {g gd nd ad pd : Addr} {xs : List Int} {n : Nat} {Q : Value → Kn → Lm → Mu → Prop} (gk : GOk C.G) (hg : IsG k [] g (gNames gd nd ad pd)) (hx : KeysAt C.w k nd xs) (hsz : xs.length ≤ 1000) (hn : C.n = n + 2) (h : ∀ t, Q (.int xs.length t) k m mu) :
    Mt C k m mu (call (.builtin "len") [.ref g]) Q := fun s A E hA S => by
  obtain ⟨dx, od, h1, h2, h3⟩ := hg
  have I := S.inst (dx := dx) (od := od) h1 (.inl (h2.resolve_right (by simp)))
  refine Calls.call_function_entry kind_len plain_len entry_len (args_len1 _) ?_
  unfold Builtin.«len»
  refine wpAny_bind (m := oneArg "len" _) (wpAny_pure ?_)
  refine wpAny_bind (m := callSpecial? (.ref g) (Str.ofString "__len__")) (special_fn (f := 392) S.progs.K I (by kernel_rfl) (by kernel_rfl) ?_)
  have e := Mt_ev (C := C.at (n + 1)) (m := m) (mu := mu) (Q := fun v k' m' mu' => k' = k ∧ (∃ t, v = .int xs.length t) ∧ m' = m ∧ mu' = mu) (Ev_mono (len_ev (w := C.w) (n := n) gk ⟨dx, od, h1, h2, h3⟩ hx hsz) fun v k' _ ⟨q1, q2⟩ _ => ⟨q1, q2, rfl, rfl⟩)
  refine wpAny_mono (e s A.in1 _ ((hn ▸ hA : OkA (n + 1 + 1) A).in1) (S.toAt (n + 1))) (fun r s' ⟨k', m', mu', af, S', e1, ⟨t, e2⟩, e3, e4⟩ => ?_) fun _ _ y => y
  subst e1 e2 e3 e4
  refine wpAny_bind (wpAny_holding (wpAny_pure ?_))
  refine wpAny_bind (wpAny_letGo ?_)
  show wpAny _ _ (if ((xs.length : Nat) : Int) < 0 then _ else _) _ _ _
  rw [if_neg (by omega)]
  show wpAny _ _ (if ((xs.length : Nat) : Int) ≥ 2 ^ 63 then _ else _) _ _ _
  rw [if_neg (by omega)]
  obtain ⟨hh, tk, gg, ⟨_, rfl⟩, x1, x2⟩ := af
  exact wpAny_bind (wpAny_mkInt (wpAny_pure ⟨_, rfl, _, _, _, ⟨hh, _, gg, ⟨_, rfl⟩, x1, x2⟩, S'.ofAt, h _⟩))
theorem hintG {g gd nd ad pd : Addr} {xs : List Int} {n : Nat} {Q : Bool → Kn → Lm → Mu → Prop} (gk : GOk C.G) (hg : IsG k [] g (gNames gd nd ad pd)) (hx : KeysAt C.w k nd xs) (hsz : xs.length ≤ 1000) (hn : C.n = n + 2) (h : ∀ b, Q b k m mu) :
    Mt C k m mu (Builtin.List.listLengthHint (.ref g)) Q := fun s A E hA S => by
  have hg' := hg
  obtain ⟨dx, od, h1, h2, h3⟩ := hg
  have I := S.inst (dx := dx) (od := od) h1 (.inl (h2.resolve_right (by simp)))
  unfold Builtin.List.listLengthHint
  refine wpAny_bind (wpAny_bind (I.type.here ((looks_findIn S.progs.K (name := "__len__") (r := some (.ref 392)) (by kernel_rfl)).here ?_)))
  dsimp only
  show wpAny _ _ (rule "list.length-hint.len" >>= fun _ => (call (.builtin "len") [.ref g]).attempt >>= _) _ _ _
  refine wpAny_bind (wpAny_rule (wpAny_bind ?_))
  refine wpAny_attempt (wpAny_mono (Mt_lenG (Q := fun v k' m' mu' => (∃ t, v = .int xs.length t) ∧ k' = k ∧ m' = m ∧ mu' = mu) gk hg' hx hsz hn (fun t => ⟨⟨t, rfl⟩, rfl, rfl, rfl⟩) s A (fun _ _ => False) hA S) (fun v s' ⟨k', m', mu', af, S', ⟨t, e1⟩, e2, e3, e4⟩ => ?_) fun _ _ e => e.elim)
  subst e1 e2 e3 e4
  refine wpAny_bind (wpAny_pure ?_)
  dsimp only
  have hl : Builtin.List.listTooLong ((xs.length : Nat) : Int).toNat = false := by
    rw [Int.toNat_natCast]
    have hz : (2 : Nat) ^ 20 ≤ sizeLine := by decide +kernel
    simp [Builtin.List.listTooLong]
    omega
  rw [hl]
  exact wpAny_pure ⟨_, _, _, af, S', h _⟩
/-- list(G) -/
theorem Mt_listG {g gd nd ad pd : Addr} {xs : List Int} {n : Nat} {Q : Value → Aux → Kn → Lm → Mu → Prop} (hG : C.G = EqG) (hg : IsG k [] g (gNames gd nd ad pd)) (hx : KeysAt C.w k nd xs) (hsz : xs.length ≤ 1000) (hn : C.n = n + 3)
    (h : ∀ S o vs, TB < S → OList o vs → IsInts xs vs → Q (.ref S) a k m ((S, o) :: mu)) : MtA C k m mu a (call (.type "list") [.ref g]) Q := by
  have gk : GOk C.G := by rw [hG]; exact eqG_ok
  refine MtA_list (n := n + 2) hn (fun hh S => ?_) fun S o hT ho => ?_
  · obtain ⟨dx, od, h1, h2, h3⟩ := hg
    have I := S.inst (dx := dx) (od := od) h1 (.inl (h2.resolve_right (by simp)))
    exact ⟨⟨_, S.kin _ _ h1⟩, .ref DG, I.type, rfl, rfl⟩
  · refine MtA_of (C := C.at (n + 2)) hG (Mt_overG (C := C.at (n + 2)) (n := n + 1) gk hg hx rfl fun it oi I src h0 => ?_)
    refine MtA_of (C := C.at (n + 2)) hG (hintG (C := C.at (n + 2)) (n := n) gk hg hx hsz rfl fun b => ?_)
    refine ⟨[(it, oi)], mu, o, rfl, ho, fun o' ho' => ?_⟩
    have sw : ∀ {s : Shared}, Stt (C.at (n + 2)) k m ([(it, oi)] ++ (S, o') :: mu) s.heap → Stt (C.at (n + 2)) k m ((S, o') :: (it, oi) :: mu) s.heap := fun S0 => S0.perm (List.Perm.swap _ _ _)
    intro s A hA S0 ha
    refine codeAny_mono (MtCA_ext (C := C.at (n + 2)) (it := it) (S := S) (rows := xs) (R := fun _ => IsInt) (fun _ _ _ _ _ e => e) (fun i a' k' mu' => a' = a ∧ k' = k ∧ if i ≤ xs.length then ∃ oi, I i oi ∧ mu' = (it, oi) :: mu else mu' = mu) (n := n + 1) rfl (by omega) ?_ ?_ xs.length 0 k ((it, oi) :: mu) a o' [] rfl (Nat.zero_le _) ⟨rfl, rfl, by rw [if_pos (Nat.zero_le _)]; exact ⟨oi, h0, rfl⟩⟩ ho' Are.nil s A hA (sw S0) ha) fun r s' hr => ?_
    · rintro i r a' k' mu' oS hr ⟨rfl, rfl, hI⟩
      have hlt : i < xs.length := by
        rw [List.getElem?_eq_some_iff] at hr; exact hr.1
      rw [if_pos (by omega)] at hI
      obtain ⟨oi', hi', rfl⟩ := hI
      refine MtA_of (C := C.at (n + 1)) hG (src.next (C.at (n + 1)) k' m [(S, oS)] mu oi' i r _ rfl (Kn.Le.refl _) hi' hr fun v oi2 hi2 hv => ?_)
      exact ⟨rfl, v, (it, oi2) :: mu, rfl, rfl, hv, ⟨rfl, rfl, by rw [if_pos (by omega)]; exact ⟨oi2, hi2, rfl⟩⟩, Kn.Le.refl _⟩
    · rintro a' k' mu' oS ⟨rfl, rfl, hI⟩
      rw [if_pos (Nat.le_refl _)] at hI
      obtain ⟨oi', hi', rfl⟩ := hI
      refine MtA_of (C := C.at (n + 1)) hG (src.done (C.at (n + 1)) k' m [(S, oS)] mu oi' xs.length _ rfl (Kn.Le.refl _) hi' (Nat.le_refl _) ?_)
      exact ⟨rfl, mu, rfl, rfl, ⟨rfl, rfl, by rw [if_neg (by omega)]⟩, Kn.Le.refl _⟩
    · cases r with
      | error e => exact hr.elim
      | ok f =>
        obtain ⟨k', m', mu', af, S', rfl, rfl, le, oS', vs', mu2, rfl, h1, h2, e1, e2, e3⟩ := hr
        rw [if_neg (by omega)] at e3
        subst e2 e3
        exact ⟨_, _, _, af, S', rfl, by rw [e1]; exact h S oS' vs' hT h1 h2⟩
end
end Mine

-- MK
namespace Mine
/-! enumerate(a list) -/
def OEn (o : Obj) (it : Addr) (i : Nat) : Prop := ∃ old, o = { cls := .type "enumerate", dict := none, data := .fields #[.none, .bool false, .ref it, rawInt i, .none, old], slots := #[] }
def OEnOut (o : Obj) (it : Addr) (i : Nat) (T : Addr) : Prop := ∃ old, o = { cls := .type "enumerate", dict := none, data := .fields #[rawInt T, .bool false, .ref it, rawInt i, .none, old], slots := #[] }
section
variable {C : Cx} {k : Kn} {m : Lm} {mu : Mu}
theorem Mt_enumerate {l : Addr} {o : Obj} {vs : List Value} {Q : Value → Kn → Lm → Mu → Prop} (ha : At k mu l o) (hl : OList o vs) (h : ∀ e oe it oi, OEn oe it 0 → OLIter oi l 0 → Q (.ref e) k m ((e, oe) :: (it, oi) :: mu)) :
    Mt C k m mu (call (.type "enumerate") [.ref l]) Q := fun s A E hA S => by
  refine call_enumerate_list (hl.isList (S.at ha)) fun h' he ⟨oi, hoi, h1, h2⟩ hsz hk => ?_
  have n0 : s.heap.get? s.heap.objs.size = none := Heap.get?_none_of_le (Nat.le_refl _)
  have n1 : s.heap.get? (s.heap.objs.size + 1) = none := Heap.get?_none_of_le (Nat.le_succ _)
  have kn : ∀ b, s.heap.get? b = none → k b = none := fun b hb => by
    cases e : k b with
    | none => rfl
    | some o => have := S.kin _ _ e; rw [hb] at this; cases this
  have tn : ∀ b, s.heap.get? b = none → b ≠ TB := fun b hb q => by obtain ⟨ps, e⟩ := S.tab; rw [q, e] at hb; cases hb
  have tok : TabOk h' := let ⟨ps, e⟩ := S.tab; ⟨ps, hk _ _ e⟩
  refine ⟨k, m, _, ⟨h', s.toks, s.gens, ⟨_, rfl⟩, S.ok.refl _, fun ps e => hk _ _ e⟩, (mv_backT (mu1 := []) (mu' := [(s.heap.objs.size + 1, _), (s.heap.objs.size, oi)]) (s := s) (s' := { s with heap := h' }) S tok (fun b o _ e => hk b o e) (fun b o e => hk b o (S.kin b o e)) (Kn.Le.refl _) (fun _ _ _ _ => rfl) (by simp) (fun p hp => ?_)).1, h _ _ _ oi ⟨.none, rfl⟩ ⟨h1, h2⟩⟩
  rcases List.mem_cons.mp hp with rfl | hp
  · exact ⟨he, kn _ n1, tn _ n1, .inr n1⟩
  · rcases List.mem_cons.mp hp with rfl | hp
    · exact ⟨hoi, kn _ n0, tn _ n0, .inr n0⟩
    · cases hp
theorem Mt_next_enum {e it l : Addr} {oe oi o : Obj} {i : Nat} {vs : List Value} {x : Value} {mu2 : Mu} {Q : Option Value → Kn → Lm → Mu → Prop} (he : OEn oe it i) (hi : OLIter oi l i) (ha : At k mu2 l o) (hl : OList o vs) (hx : vs[i]? = some x)
    (h : ∀ T oT oe' oi' t, k T = none → k.Le (k.put T oT) → OTup oT [.int i t, x] → OEnOut oe' it (i + 1) T → OLIter oi' l (i + 1) → Q (some (.ref T)) (k.put T oT) m ((e, oe') :: (it, oi') :: mu2)) :
    Mt C k m ((e, oe) :: (it, oi) :: mu2) (pyNext (.ref e)) Q := fun s A E hA S => by
  obtain ⟨old, rfl⟩ := he
  have ge := S.own _ (.head _)
  have gi := S.own _ (.tail _ (.head _))
  have nd := S.nd
  rw [List.map_cons, List.map_cons, List.nodup_cons, List.nodup_cons] at nd
  have hne : e ≠ it := fun q => nd.1 (q ▸ .head _)
  have hLl := hl.isList (S.at (ha.imp id fun h => .tail _ (.tail _ h)))
  refine wpAny_pyNext_enum_item (i := i) (items := vs.toArray) ge ⟨oi, gi, hi.1, hi.2⟩ hLl (by simpa using hx) hne fun h' he' ⟨oi', g2, g3, g4⟩ hT hsz hk => ?_
  have n0 : s.heap.get? s.heap.objs.size = none := Heap.get?_none_of_le (Nat.le_refl _)
  have kn : k s.heap.objs.size = none := by
    cases e : k s.heap.objs.size with
    | none => rfl
    | some o => have := S.kin _ _ e; rw [n0] at this; cases this
  have ke : k e = none := S.kmu _ (.head _)
  have ki : k it = none := S.kmu _ (.tail _ (.head _))
  have te : e ≠ TB := S.muT _ (.head _)
  have ti : it ≠ TB := S.muT _ (.tail _ (.head _))
  have kne : ∀ b o, k b = some o → b ≠ e ∧ b ≠ it := fun b o q => ⟨fun h => (by rw [h, ke] at q; cases q), fun h => (by rw [h, ki] at q; cases q)⟩
  have tne : TB ≠ e ∧ TB ≠ it := ⟨fun h => S.muT _ (.head _) h.symm, fun h => S.muT _ (.tail _ (.head _)) h.symm⟩
  have lne : ∀ b o, s.heap.get? b = some o → b ≠ s.heap.objs.size := fun b o q => Nat.ne_of_lt (Heap.lt_size q)
  obtain ⟨ps, hps⟩ := S.tab
  have hps' := hk _ _ tne.1 tne.2 hps
  refine ⟨k.put s.heap.objs.size _, m, _, ⟨h', s.toks + 1, s.gens, ⟨_, rfl⟩, S.ok.refl _, fun ps e => hk _ _ tne.1 tne.2 e⟩,
    (mv_backT (mu1 := [(e, _), (it, oi)]) (mu2 := mu2) (mu' := [(e, _), (it, oi')]) (s := s) (s' := { s with heap := h', toks := s.toks + 1 }) (k' := k.put s.heap.objs.size { cls := .type "tuple", data := .seq #[.int i s.toks, x] }) S ⟨ps, hps'⟩ (fun b o hb q => hk b o (fun h => hb (by simp [h])) (fun h => hb (by simp [h])) q) (fun b o q => ?_) (Kn.le_put kn) (fun b o _ q => Kn.put_ne _ (lne b o q)) (by simpa using hne) (fun p hp => ?_)).1,
    h _ _ _ oi' s.toks kn (Kn.le_put kn) ⟨rfl, rfl, rfl, _, rfl⟩ ⟨x, rfl⟩ ⟨g3, g4⟩⟩
  · by_cases q1 : b = s.heap.objs.size
    · subst q1; rw [Kn.put_self] at q; cases q; exact hT
    · rw [Kn.put_ne _ q1] at q
      exact hk b o (kne b o q).1 (kne b o q).2 (S.kin b o q)
  · rcases List.mem_cons.mp hp with rfl | hp
    · exact ⟨he', by rw [Kn.put_ne _ (lne _ _ ge)]; exact ke, te, .inl (by simp)⟩
    · rcases List.mem_cons.mp hp with rfl | hp
      · exact ⟨g2, by rw [Kn.put_ne _ (lne _ _ gi)]; exact ki, ti, .inl (by simp)⟩
      · cases hp
theorem Mt_next_enum_end {e it l : Addr} {oe oi o : Obj} {i : Nat} {vs : List Value} {mu2 : Mu} {Q : Option Value → Kn → Lm → Mu → Prop} (he : OEn oe it i) (hi : OLIter oi l i) (ha : At k mu2 l o) (hl : OList o vs) (hx : vs.length ≤ i)
    (h : Q none k m mu2) : Mt C k m ((e, oe) :: (it, oi) :: mu2) (pyNext (.ref e)) Q := fun s A E hA S => by
  obtain ⟨old, rfl⟩ := he
  have ge := S.own _ (.head _)
  have gi := S.own _ (.tail _ (.head _))
  have hLl := hl.isList (S.at (ha.imp id fun h => .tail _ (.tail _ h)))
  refine wpAny_pyNext_enum_end hA.handled (i := i) (items := vs.toArray) ge ⟨oi, gi, hi.1, hi.2⟩ hLl (by simpa using hx) fun h' hx' => ?_
  have tne : TB ≠ it := fun h => S.muT _ (.tail _ (.head _)) h.symm
  refine ⟨k, m, mu2, ⟨h', s.toks, s.gens, ⟨_, rfl⟩, S.ok.refl _, fun ps e => hx' _ _ tne e⟩, ?_, h⟩
  exact Stt.lose (l1 := []) (Stt.drop (l1 := []) S) (fun b o hb q => hx' b o hb q)
theorem Mt_letOwnedEn {elts : List PySem.Expr} {x1} {pos : Pos} {e it T : Addr} {oe : Obj} {i : Nat} {mu2 : Mu} {Q : Unit → Kn → Lm → Mu → Prop} (he : OEnOut oe it i T)
    (h : ∀ oe', OEn oe' it i → Q () k m ((e, oe') :: mu2)) : Mt C k m ((e, oe) :: mu2) (letOwnedTupleGo (.Tuple elts x1 pos) (.ref e) (.ref T)) Q := by
  obtain ⟨old, rfl⟩ := he
  refine Mt_turn (l1 := []) (Pr := fun _ o' => OEn o' it i) rfl (fun s A E R hA S hR => ?_) fun _ o' hp => h o' hp
  refine wpAny_letOwnedTupleGo_enum (S.own _ (.head _)) fun h' he' hs' => ?_
  exact hR () _ h' s.toks ⟨_, rfl⟩ (fun b o hb q => (hs'.2 b hb).trans q) he'
end
end Mine

-- ML
namespace Mine
def pairsOf : List Int → List (Int × Int)
  | [] => []
  | x :: r => (x :: r).map (fun y => (x, y)) ++ pairsOf r
theorem pairsOf_len : ∀ xs : List Int, (pairsOf xs).length ≤ xs.length * xs.length
  | [] => by simp [pairsOf]
  | x :: r => by
    have := pairsOf_len r
    simp only [pairsOf, List.length_append, List.length_map, List.length_cons]
    have e : (r.length + 1) * (r.length + 1) = r.length * r.length + 2 * r.length + 1 := by
      rw [Nat.add_mul, Nat.mul_add]; omega
    omega
def ifElse : Stmt → List Stmt
  | .If _ _ o _ => o
  | _ => []
def apIf : Stmt := ((bodyOf (stAt 11))[2]?).getD (.Pass default)
section
variable {C : Cx} {k : Kn} {m : Lm} {mu : Mu}
theorem Mt_pyIter_enum {e it : Addr} {oe : Obj} {i : Nat} {Q : Value → Kn → Lm → Mu → Prop} (hm : (e, oe) ∈ mu) (he : OEn oe it i) (h : Q (.ref e) k m mu) : Mt C k m mu (pyIter (.ref e)) Q := by
  obtain ⟨old, rfl⟩ := he
  exact Mt_of (fun s A E R hA S hR => wpAny_pyIter_enum (S.own _ hm) (hR s.toks)) h
theorem MtC_perm {c : Code} {mu' : Mu} {Q : Flow → Kn → Lm → Mu → Prop} (p : mu.Perm mu') (h : MtC C k m mu' c Q) : MtC C k m mu c Q := fun s A hA S => h s A hA (S.perm p)
theorem MtC_start_enum {ex : PySem.Expr} {depth : Nat} {e it : Addr} {oe : Obj} {i : Nat} {acc : Value} {g : Comprehension} {mu' : Mu} {Q : Flow → Kn → Lm → Mu → Prop} (hm : (e, oe) ∈ mu) (he : OEn oe it i) (p : mu.Perm mu') (hden : ∃ f, ∀ w, (model P w).den (.compStart ex depth (.ref e) acc C.env) = (compStart ex depth (.ref e) acc C.env).onRaise f) (hu : ∀ A : Around, A.under (.compStart ex depth (.ref e) acc C.env) = A) (hg : (clausesOf ex)[depth]? = some g) (ha : g.is_async = 0)
    (loop : MtC C k m mu' (.compLoop ex depth (.ref e) acc C.env) Q) : MtC C k m mu (.compStart ex depth (.ref e) acc C.env) Q :=
  MtC_start hden hu hg ha (MtC_perm p loop) (Mt_pyIter_enum hm he (MtC_perm p loop))
theorem MtC_start_src {γ : Type} {k0 : Kn} {ex : PySem.Expr} {depth : Nat} {it : Addr} {I : Nat → Obj → Prop} {xs : List γ} {R : γ → Value → Prop} {oi : Obj} {i : Nat} {acc : Value} {g : Comprehension} {Q : Flow → Kn → Lm → Mu → Prop} (src : Src C.w k0 it I xs R) (hi : I i oi) (hm : (it, oi) ∈ mu) (hden : ∃ f, ∀ w, (model P w).den (.compStart ex depth (.ref it) acc C.env) = (compStart ex depth (.ref it) acc C.env).onRaise f) (hu : ∀ A : Around, A.under (.compStart ex depth (.ref it) acc C.env) = A) (hg : (clausesOf ex)[depth]? = some g) (ha : g.is_async = 0)
    (loop : MtC C k m mu (.compLoop ex depth (.ref it) acc C.env) Q) : MtC C k m mu (.compStart ex depth (.ref it) acc C.env) Q :=
  MtC_start hden hu hg ha loop (src.self _ _ _ _ oi i _ rfl hi hm loop)
end
theorem ap_pairs {w : World} {n : Nat} {k0 k : Kn} {L : Addr} {base : Heap} {m : Lm} {mu : Mu} {l : Addr} {ol : Obj} {vs : List Value} {xs : List Int} {st : Stmt} (hst : st = ((ifBody apIf)[1]?).getD (.Pass default))
    (ml : m "nodes" = some (.ref l)) (hk : k l = some ol) (hl : OList ol vs) (hi : IsInts xs vs) (hf : xs.length ≤ 1000) {Q : Flow → Kn → Lm → Mu → Prop}
    (h : ∀ k' D oD us, k.Le k' → k' D = some oD → OList oD us → Are (IsPair k') (pairsOf xs) us → Q .next k' (m.set "pairs" (.ref D)) mu) :
    Mt (apcx w n k0 L base) k m mu (exec st (apcx w n k0 L base).env) Q := by
  subst hst
  have hvl : vs.length = xs.length := hi.1.symm
  have hpl : (pairsOf xs).length ≤ 1000000 := Nat.le_trans (pairsOf_len xs) (Nat.mul_le_mul hf hf)
  refine Mt_Assign_swap (Mt_Call (Mt_nameB (v := .type "enumerate") (by kernel_rfl) (by kernel_rfl) (by decide) ⟨keeps_type _, Mt_spliced_cons (Mt_nameC ml (Mt_spliced_nil (Mt_enumerate (.inl hk) hl fun e oe it oi he hit => Mt_pyIter_enum (.head _) he ?_)))⟩))
  refine ⟨[(e, oe), (it, oi)], mu, rfl, fun D L' base' hTD hDb => ?_⟩
  have sw : List.Perm [(D, lst0), (e, oe), (it, oi)] [(e, oe), (it, oi), (D, lst0)] := List.perm_append_comm (l₁ := [(D, lst0)]) (l₂ := [(e, oe), (it, oi)])
  refine MtC_start_enum (C := ccx (apcx w n k0 L base) _ L' base' k) (.tail _ (.head _)) he sw ⟨_, fun w => rfl⟩ (fun A => Around.under_of_weight rfl) rfl rfl ?_
  · refine MtC_comp20 (C := ccx (apcx w n k0 L base) _ L' base' k) (fun q k' m' mu' => ∃ i oe oi oD us dn, q = xs.length - i ∧ i ≤ xs.length ∧ mu' = [(e, oe), (it, oi), (D, oD)] ∧ k.Le k' ∧ OEn oe it i ∧ OLIter oi l i ∧ m' "nodes" = some (.ref l) ∧ OList oD us ∧ Are (IsPair k') dn us ∧ dn ++ pairsOf (xs.drop i) = pairsOf xs)
      (by intro _; rfl) ?_ _ ⟨0, oe, oi, lst0, [], [], rfl, Nat.zero_le _, rfl, Kn.Le.refl _, he, hit, (cmap_free rfl).trans ml, lst0_OList, Are.nil, rfl⟩
    rintro q k1 m1 mu1 ⟨i, oe, oi, oD, us, dn, rfl, hle, rfl, le1, he, hit, m1l, hD, hus, hdn⟩
    rcases Nat.lt_or_ge i xs.length with hlt | hge
    · have hx : xs[i]? = some xs[i] := by simp [hlt]
      obtain ⟨v, hv, tx, rfl⟩ := hi.get hx
      have hdrop : xs.drop i = xs[i] :: xs.drop (i + 1) := List.drop_eq_getElem_cons hlt
      generalize xs[i] = x at *
      refine Mt_next_enum he hit (.inl (le1 _ _ hk)) hl hv fun T oT oe2 oi2 t kT leT hT he2 hit2 => ?_
      refine Mt_letOwnedEn he2 fun oe3 he3 => ?_
      refine Mt_assign_pair (.inl (Kn.put_self _ _ _)) hT (Mt_toL (Mt_toL (Mt_tests_nil ?_)))
      rw [if_pos rfl]
      have le2 := le1.trans leT
      generalize hm2 : (m1.set "i" (.int i t)).set "v" (.int x tx) = m2
      have m2i : m2 "i" = some (.int i t) := by rw [← hm2]; exact Lm.up (Lm.set_self _ _ _)
      have m2v : m2 "v" = some (.int x tx) := by rw [← hm2]; exact Lm.set_self _ _ _
      have m2l : m2 "nodes" = some (.ref l) := by rw [← hm2]; exact Lm.up (Lm.up m1l)
      refine Mt_sub_from (Mt_nameC m2l (Mt_nameL m2i ⟨l, ol, vs, i, t, rfl, rfl, le2 _ _ hk, hl, by omega, fun S oS k3 hS le3 hTS hoS => ?_⟩))
      have hys : IsInts (xs.drop i) (vs.drop i) := hi.drop i
      refine Mt_pyIter_list (.inl hS) hoS fun it2 oi4 hT4 hi4 => ?_
      have src := Src.list (it := it2) w hoS hS hys
      have hlen : dn.length + (xs.drop i).length ≤ 1000000 := by
        have := congrArg List.length hdn
        rw [hdrop, pairsOf, ← hdrop] at this
        simp only [List.length_append, List.length_map] at this
        omega
      have hdn2 : (dn ++ (xs.drop i).map fun y => (x, y)) ++ pairsOf (xs.drop (i + 1)) = pairsOf xs := by
        rw [← hdn, hdrop, pairsOf, ← hdrop, List.append_assoc]
      refine MtC_start_src (C := ccx (apcx w n k0 L base) _ L' base' k) src hi4 (.head _) ⟨_, fun w => rfl⟩ (fun A => Around.under_of_weight rfl) rfl rfl ?_
      refine MtC_comp21 (C := ccx (apcx w n k0 L base) _ L' base' k) (fun q k' m' mu' => ∃ j oi5 oD us, q = (xs.drop i).length - j ∧ j ≤ (xs.drop i).length ∧ mu' = [(it2, oi5), (e, oe3), (it, oi2), (D, oD)] ∧ k3.Le k' ∧ OLIter oi5 S j ∧ m' "nodes" = some (.ref l) ∧ m' "v" = some (.int x tx) ∧ OList oD us ∧ Are (IsPair k') (dn ++ ((xs.drop i).take j).map (fun y => (x, y))) us)
        ?_ _ ⟨0, oi4, oD, us, rfl, Nat.zero_le _, rfl, Kn.Le.refl _, hi4, m2l, m2v, hD, by simpa using hus.mono fun p _ v hv => hv.le (leT.trans le3)⟩
      rintro q k4 m4 mu4 ⟨j, oi5, oD5, us5, rfl, hj, rfl, le4, hi5, m4l, m4v, hD5, hus5⟩
      rcases Nat.lt_or_ge j (xs.drop i).length with hjl | hjg
      · have hy : (xs.drop i)[j]? = some ((xs.drop i)[j]) := by simp [hjl]
        generalize (xs.drop i)[j] = y at hy
        refine src.next _ k4 m4 [] [(e, oe3), (it, oi2), (D, oD5)] oi5 j y _ rfl le4 hi5 hy fun v oi6 hi6 ⟨ty, hvy⟩ => ?_
        subst hvy
        refine Mt_letOwned (T := "list_iterator") (by decide) hi6.1 (.head _) (Mt_toL (Mt_tests_nil ?_))
        rw [if_pos rfl]
        refine Mt_Tuple (Mt_spliced_cons (Mt_nameL (Lm.up m4v) (Mt_spliced_cons (Mt_nameL (Lm.set_self _ _ _) (Mt_spliced_nil (Mt_newTuple fun T2 oT2 kT2 hT2 hoT2 => ?_))))))
        have le5 := Kn.le_put (o := oT2) kT2
        have hl5 := hus5.1
        simp only [List.length_append, List.length_map, List.length_take] at hl5
        refine Mt_append (l1 := [(it2, oi6), (e, oe3), (it, oi2)]) rfl hD5 (by omega) fun o6 ho6 => ?_
        refine ⟨(xs.drop i).length - (j + 1), by omega, j + 1, oi6, o6, _, rfl, by omega, rfl, le4.trans le5, hi6, Lm.up m4l, Lm.up m4v, ho6, ?_⟩
        rw [List.take_add_one, hy, List.map_append, ← List.append_assoc]
        exact (hus5.mono fun p _ v hv => hv.le le5).push ⟨T2, oT2, _, _, rfl, Kn.put_self _ _ _, hoT2, ⟨tx, rfl⟩, ⟨ty, rfl⟩⟩
      · have hje : j = (xs.drop i).length := by omega
        subst hje
        refine src.done _ k4 m4 [] [(e, oe3), (it, oi2), (D, oD5)] oi5 _ _ rfl le4 hi5 (Nat.le_refl _) ?_
        rw [List.take_of_length_le (Nat.le_refl _)] at hus5
        exact ⟨xs.length - (i + 1), by omega, i + 1, oe3, oi2, oD5, us5, _, rfl, by omega, rfl, le2.trans (le3.trans le4), he3, hit2, m4l, hD5, hus5, hdn2⟩
    · have hix : i = xs.length := by omega
      subst hix
      refine Mt_next_enum_end he hit (.inl (le1 _ _ hk)) hl (by omega) ?_
      rw [List.drop_eq_nil_of_le (Nat.le_refl _)] at hdn
      simp only [pairsOf, List.append_nil] at hdn
      subst hdn
      exact ⟨oD, .head _, fun kD => h _ D oD us (le1.trans (Kn.le_put kD)) (Kn.put_self _ _ _) hD (hus.mono fun p _ v hv => hv.le (Kn.le_put kD))⟩
end Mine

-- PL
namespace Mine
theorem Reach.trans {nb : Int → List Int} {x y z : Int} (h : Reach nb x y) (h2 : Reach nb y z) : Reach nb x z := by
  induction h2 with
  | refl => exact h
  | step _ hz ih => exact ih.step hz
theorem Reach.head {nb : Int → List Int} {x z : Int} (h : Reach nb x z) : z = x ∨ ∃ y, y ∈ nb x ∧ Reach nb y z := by
  induction h with
  | refl => exact .inl rfl
  | @step y z h hz ih =>
    rcases ih with rfl | ⟨q, h1, h2⟩
    · exact .inr ⟨z, hz, .refl⟩
    · exact .inr ⟨q, h1, h2.step hz⟩
theorem Reach.last {nb : Int → List Int} {x z : Int} (h : Reach nb x z) (hne : x ≠ z) : ∃ y, Reach nb x y ∧ z ∈ nb y := by
  cases h with
  | refl => exact absurd rfl hne
  | step h hz => exact ⟨_, h, hz⟩
/-- the lowest: none of the others is below -/
theorem lca_low {es : List (Int × Int)} {v w c u : Int} (h : Lca (nbOf es) (pbOf es) v w c) (h1 : Reach (pbOf es) v u) (h2 : Reach (pbOf es) w u) (hne : u ≠ c) : ¬ Reach (pbOf es) u c := fun hr => by
  obtain ⟨y, hy, hc⟩ := hr.last hne
  exact h.2.2 y (mem_nbOf.mpr (mem_pbOf.mp hc)) ⟨h1.trans hy, h2.trans hy⟩
def OnePar (es : List (Int × Int)) : Prop := ∀ a b v, (a, v) ∈ es → (b, v) ∈ es → a = b
theorem tree_chain {es : List (Int × Int)} (ht : OnePar es) {v a b : Int} (h1 : Reach (pbOf es) v a) (h2 : Reach (pbOf es) v b) : Reach (pbOf es) a b ∨ Reach (pbOf es) b a := by
  induction h1 with
  | refl => exact .inl h2
  | @step y z h hz ih =>
    rcases ih with ih | ih
    · rcases ih.head with rfl | ⟨q, hq, hr⟩
      · exact .inr (Reach.refl.step hz)
      · have : q = z := ht _ _ _ (mem_pbOf.mp hq) (mem_pbOf.mp hz)
        subst this; exact .inl hr
    · exact .inr (ih.step hz)
/-- in a tree: it lies farthest from the root -/
theorem tree_far {es : List (Int × Int)} (ht : OnePar es) {ab : Int → List Int} {v w c u : Int} (hnd : (ab u).Nodup) (hu : ∀ y, y ∈ ab u ↔ Reach (pbOf es) u y) (hc : ∀ y, y ∈ ab c ↔ Reach (pbOf es) c y)
    (h : Lca (nbOf es) (pbOf es) v w c) (h1 : Reach (pbOf es) v u) (h2 : Reach (pbOf es) w u) : (ab u).length ≤ (ab c).length := by
  have hcu : Reach (pbOf es) c u := by
    by_cases e : u = c
    · subst e; exact .refl
    · exact (tree_chain ht h.1 h1).resolve_right (lca_low h h1 h2 e)
  exact nodup_len_le hnd fun y hy => (hc y).mpr (hcu.trans ((hu y).mp hy))

/-- the edges: they lead down -/
structure Edges (n : Nat) (es : List (Int × Int)) (rk : Int → Nat) : Prop where
  nd : es.Nodup
  lo : ∀ e ∈ es, (0 ≤ e.1 ∧ e.1 < n) ∧ (0 ≤ e.2 ∧ e.2 < n)
  rk : ∀ e ∈ es, rk e.1 < rk e.2
theorem Edges.back {n : Nat} {es : List (Int × Int)} {rk : Int → Nat} (h : Edges n es rk) {a b : Int} (he : (a, b) ∈ es) : (b, a) ∉ es := fun hb => by
  have h1 := h.rk _ he
  have h2 := h.rk _ hb
  simp only at h1 h2; omega
theorem cyc {nodes : List Int} {es : List (Int × Int)} {a b : Int} (he : (a, b) ∈ es) (ha : a ∈ nodes) : ¬ Acyc nodes (nbOf (es ++ [(b, a)])) := fun h =>
  h a ha b (mem_nbOf.mpr (by simp [he])) (Reach.refl.step (mem_nbOf.mpr (by simp)))
theorem Reach_rk {n : Nat} {es : List (Int × Int)} {rk : Int → Nat} (h : Edges n es rk) {x y : Int} (hr : Reach (nbOf es) x y) : y = x ∨ rk x < rk y := by
  induction hr with
  | refl => exact .inl rfl
  | step _ hz ih =>
    have := h.rk _ (mem_nbOf.mp hz)
    simp only at this
    rcases ih with rfl | ih
    · exact .inr this
    · exact .inr (by omega)
theorem Edges.acyc {n : Nat} {es : List (Int × Int)} {rk : Int → Nat} (h : Edges n es rk) (nodes : List Int) : Acyc nodes (nbOf es) := fun x _ y hy hr => by
  have h1 := h.rk _ (mem_nbOf.mp hy)
  simp only at h1
  rcases Reach_rk h hr with rfl | h2 <;> omega

/-! the pairs -/
def mm (p : Int × Int) : Int × Int := (min p.1 p.2, max p.1 p.2)
def askedN (n : Nat) : List (Int × Int) := (List.range n).flatMap fun (w : Nat) => (List.range (w + 1)).map fun (v : Nat) => ((v : Int), (w : Int))
def ordN (n r : Nat) : List Int := (List.range n).map fun v => (((v + r) % n : Nat) : Int)
theorem HasC_mm {pb : Int → List Int} (p : Int × Int) : HasC pb (mm p) ↔ HasC pb p := by
  obtain ⟨a, b⟩ := p
  unfold mm HasC
  by_cases h : a ≤ b
  · simp only [Int.min_eq_left h, Int.max_eq_right h]
  · have h' : b ≤ a := by omega
    simp only [Int.min_eq_right h', Int.max_eq_left h']
    constructor <;> rintro ⟨y, h1, h2⟩ <;> exact ⟨y, h2, h1⟩
theorem pairs_all : ∀ n < 7, ∀ r < 7, ((pairsOf (ordN n r)).map mm).isPerm (askedN n) = true := by decide +kernel
theorem rows_mm (pb : Int → List Int) (ps : List (Int × Int)) : (rowsOf pb ps).map mm = rowsOf pb (ps.map mm) := by
  unfold rowsOf
  rw [List.filter_map]
  congr 1
  exact List.filter_congr fun p _ => by simp [HasC_mm]
theorem rows_perm (pb : Int → List Int) {n r : Nat} (hn : n < 7) (hr : r < 7) : ((rowsOf pb (pairsOf (ordN n r))).map mm).Perm (rowsOf pb (askedN n)) := by
  rw [rows_mm]
  exact (List.isPerm_iff.mp (pairs_all n hn r hr)).filter _
/-- pairs in order -/
def pcode (p : Int × Int) : Int := 1000 * p.1 + p.2
def Small (p : Int × Int) : Prop := (0 ≤ p.1 ∧ p.1 < 1000) ∧ (0 ≤ p.2 ∧ p.2 < 1000)
theorem pcode_inj {p q : Int × Int} (hp : Small p) (hq : Small q) (h : pcode p = pcode q) : p = q := by
  obtain ⟨a, b⟩ := p
  obtain ⟨c, d⟩ := q
  unfold Small pcode at *
  simp only at *
  have h1 : a = c := by omega
  have h2 : b = d := by omega
  rw [h1, h2]
theorem sorted_eq {ps qs us vs : List (Int × Int)} (h : ps.Perm qs) (hs : ∀ p ∈ ps, Small p) (h1 : us.Perm ps) (h2 : vs.Perm qs) (s1 : us.Pairwise fun a b => pcode a ≤ pcode b) (s2 : vs.Pairwise fun a b => pcode a ≤ pcode b) : us = vs :=
  List.Perm.eq_of_pairwise (fun a b ha hb x y => pcode_inj (hs a (h1.mem_iff.mp ha)) (hs b (h.mem_iff.mpr (h2.mem_iff.mp hb))) (by omega)) s1 s2 (h1.trans (h.trans h2.symm))
end Mine

-- MM
namespace Mine
section
variable {α β : Type} {C : Cx} {k : Kn} {m : Lm} {mu : Mu} {a : Aux}
theorem MtA_Assign {x pos' value pos} {Q : Flow → Aux → Kn → Lm → Mu → Prop} (hG : C.G = EqG) (h : MtA C k m mu a (eval value C.env) (fun v a k m mu => Mt C k m mu (storeName C.env x v) (fun _ k m mu => Q .next a k m mu)))
    (hs : swapsWith value (some (.Name x pos')) pos.line C.env = pure false := by rfl) : MtA C k m mu a (exec (.Assign [.Name x pos'] value pos) C.env) Q := by
  rw [exec_Assign_Name C.env x pos' value pos hs]
  exact MtA_at (MtA_bind (MtA_mono h fun v a k m mu h => MtA_at (MtA_bindM hG (Mt_bindName (Mt_mono h fun _ k m mu h => MtA_pure h)))))
theorem MtA_frz {t : Sem α} {D : Addr} {o : Obj} {l1 l2 : Mu} {Q : α → Aux → Kn → Lm → Mu → Prop} (h : k D = none → k.Le (k.put D o) → MtA C (k.put D o) m (l1 ++ l2) a t Q) : MtA C k m (l1 ++ (D, o) :: l2) a t Q := fun s A E hA S ha =>
  h (S.kmu _ mem_mid) (Kn.le_put (S.kmu _ mem_mid)) s A E hA S.freeze ha
theorem Mt_is_ref_none {x : Addr} {Q : Value → Kn → Lm → Mu → Prop} (h : Q (.bool false) k m mu) : Mt C k m mu (compareOp .Is (.ref x) .none) Q :=
  Mt_of (fun s A E R hA S hR => wpAny_is_other rfl (by intro e; cases e) (hR s.toks)) h
/-- a call of a function that the run itself has made -/
theorem MtA_CallF (hG : C.G = EqG) {fx : PySem.Expr} {args : List PySem.Expr} {pos : Pos} {Q : Value → Aux → Kn → Lm → Mu → Prop}
    (h : Mt C k m mu (eval fx C.env) (fun fv k m mu => ∃ f fo fd, fv = .ref f ∧ k f = some fo ∧ fo.data = .func fd ∧ Mt C k m mu (spliced (backTo pos (starEach args C.env))) (fun vs k' m mu => k.Le k' ∧ MtA C k' m mu a (call (.ref f) vs) Q)))
    (he : eval (.Call fx args [] pos) C.env = (do callWith pos (← eval fx C.env) [] (backTo pos (starEach args C.env)) (backToKw pos (keywordEach [] C.env))) := by rfl) (hp : (backTo pos (starEach args C.env)).any (·.1) = false := by rfl) :
    MtA C k m mu a (eval (.Call fx args [] pos) C.env) Q := by
  rw [he]
  refine MtA_bindM hG (Mt_mono h fun fv k m mu ⟨f, fo, fd, e, hf, hd, h⟩ => ?_)
  subst e
  intro s A E hA S ha
  refine callWith_of (P := fun h => h.get? f = some fo) (by rw [hp]; rfl) (fun h hh => ⟨.frame, .inl rfl, ?_⟩) (wpAny_mono (Mt_evalArgs (f := .ref f) (Q := fun r k' m' mu' => k.Le k' ∧ MtA C k' m' mu' a (call (.ref f) ([] ++ r.pos) r.kw) Q) h hp s A E hA S) (fun r s₁ ⟨k₁, m₁, mu₁, af, S₁, le, q⟩ => ⟨S₁.kin _ _ (le _ _ hf), ?_⟩) fun _ _ e => e)
  · refine (Looks.ld (part := none) hh).andThen ?_
    rw [hd]
    exact .now
  · exact wpAny_mono (q s₁ A E hA S₁ ((af.aux hG S).trans ha)) (fun v s₂ ⟨k₂, m₂, mu₂, af₂, S₂, q₂⟩ => ⟨k₂, m₂, mu₂, af.X.trans af₂, S₂, q₂⟩) fun _ _ e => e
end
theorem bind_ap2a (w : World) (a b : Value) : bindArgs (fdOf (obK w 95)) ⟨[a, b], []⟩ = .load 90 none (unload (bindArgs (fdOf (obK w 95)) ⟨[a, b], []⟩)) := by kernel_rfl
theorem bind_ap2b (w : World) (a b : Value) : unload (bindArgs (fdOf (obK w 95)) ⟨[a, b], []⟩) (obK w 90) = .pure [(("G" : Str), a), (("pairs" : Str), b)] := by kernel_rfl
theorem bind_apKa (w : World) (a b : Value) : bindArgs (fdOf (obK w 95)) ⟨[a], [(("pairs" : Str), b)]⟩ = .load 90 none (unload (bindArgs (fdOf (obK w 95)) ⟨[a], [(("pairs" : Str), b)]⟩)) := by kernel_rfl
theorem bind_apKb (w : World) (a b : Value) : unload (bindArgs (fdOf (obK w 95)) ⟨[a], [(("pairs" : Str), b)]⟩) (obK w 90) = .pure [(("G" : Str), a), (("pairs" : Str), b)] := by kernel_rfl
theorem bind_ap1a (w : World) (a : Value) : bindArgs (fdOf (obK w 95)) ⟨[a], []⟩ = .load 90 none (unload (bindArgs (fdOf (obK w 95)) ⟨[a], []⟩)) := by kernel_rfl
theorem bind_ap1b (w : World) (a : Value) : unload (bindArgs (fdOf (obK w 95)) ⟨[a], []⟩) (obK w 90) = .pure [(("G" : Str), a), (("pairs" : Str), .none)] := by kernel_rfl
theorem look_90 (w : World) : (KF w).lookup 90 = some (obK w 90) := by kernel_rfl

def apRet : Stmt := ((bodyOf (stAt 11))[4]?).getD (.Pass default)
theorem ap_body : bodyOf (stAt 11) = [((bodyOf (stAt 11))[0]?).getD (.Pass default), ((bodyOf (stAt 11))[1]?).getD (.Pass default), apIf, genSt, apRet] := by kernel_rfl
section
variable {w : World} {n : Nat} {k0 k : Kn} {L : Addr} {base : Heap} {m : Lm} {mu : Mu} {a : Aux} {g gd nd ad pd : Addr} {nodes : List Int} {nb pb : Int → List Int}
theorem ap_if0 {st : Stmt} (hst : st = ((bodyOf (stAt 11))[0]?).getD (.Pass default)) (K : GK w k g gd nd ad pd nodes nb pb) (hac : Acyc nodes nb) (mG : m "G" = some (.ref g)) {Q : Flow → Kn → Lm → Mu → Prop}
    (h : ∀ k', k.Le k' → Q .next k' m mu) : Mt (apcx w (n + 3) k0 L base) k m mu (exec st (apcx w (n + 3) k0 L base).env) Q := by
  subst hst
  refine Mt_If (Mt_isTrue_not (Mt_isTrue_plain rfl (Mt_Call (Mt_nameG (v := .ref 89) (by kernel_rfl) ⟨keeps_text (by kernel_rfl), Mt_spliced_cons (Mt_nameL mG (Mt_spliced_nil ?_))⟩))))
  refine Mt_ev (Ev_mono (isdag_ev (n := n) eqG_ok K) ?_)
  rintro v k1 - ⟨b, rfl, hb⟩ le
  have : b = true := hb.mpr hac
  subst this
  refine Mt_truthy_bool ?_
  rw [if_neg (by simp)]
  exact Mt_nil (h k1 le)
theorem ap_if1 {st : Stmt} (hst : st = ((bodyOf (stAt 11))[1]?).getD (.Pass default)) (K : GK w k g gd nd ad pd nodes nb pb) (hne : nodes ≠ []) (mG : m "G" = some (.ref g)) {Q : Flow → Kn → Lm → Mu → Prop}
    (h : Q .next k m mu) : Mt (apcx w (n + 3) k0 L base) k m mu (exec st (apcx w (n + 3) k0 L base).env) Q := by
  subst hst
  refine Mt_If (Mt_isTrue_Compare (Mt_Call (Mt_nameB (v := .builtin "len") (by kernel_rfl) (by kernel_rfl) (by decide) ⟨keeps_builtin _, Mt_spliced_cons (Mt_nameL mG (Mt_spliced_nil ?_))⟩)))
  refine Mt_lenG (n := n + 1) eqG_ok K.is K.node K.few rfl fun t => Mt_int fun t0 => Mt_eq_int (Mt_truthy_bool ?_)
  have : nodes.length ≠ 0 := fun e => hne (List.length_eq_zero_iff.mp e)
  rw [if_neg (by simp; omega)]
  exact Mt_nil h
/-- the def of the generator, its call -/
theorem ap_tail {rk : Int → Nat} {B : Nat} {pr : Addr} {ps : List (Int × Int)} (D : GData w k g gd nd ad pd nodes nb pb rk B) (hps : ∀ p ∈ ps, p.1 ∈ nodes ∧ p.2 ∈ nodes) (hsrc : PairSrc w k pr ps) (mG : m "G" = some (.ref g)) (mP : m "pairs" = some (.ref pr)) (hT : CodeTab k a.2)
    {Q : Flow → Aux → Kn → Lm → Mu → Prop}
    (h : ∀ k' go oa gs tab muX m', k.Le k' → k' go = some oa → OGen oa a.1.size → CodeTab k' tab → gs.bare = true → (∀ n, GenM w (n + 6) (RowOk nb pb) (rowsOf pb ps) gs muX k') → Q (.ret (.ref go)) (a.1.push gs, tab) k' m' (muX ++ mu)) :
    MtA (apcx w (n + 3) k0 L base) k m mu a (execs [genSt, apRet] (apcx w (n + 3) k0 L base).env) Q := by
  refine MtA_cons (MtA_defgen hT fun k1 f a1 le1 hf ht ha => ?_)
  refine MtA_cons (MtA_Return (MtA_CallF rfl (Mt_nameL (Lm.set_self _ _ _) ?_)))
  obtain ⟨doc, pm, c, ctv, fo, hfo, hcls, hd, hca⟩ := id hf
  refine ⟨f, fo, _, rfl, hfo, hd, Mt_spliced_cons (Mt_nameL (Lm.up mG) (Mt_spliced_cons (Mt_nameL (Lm.up mP) (Mt_spliced_nil ⟨Kn.Le.refl _, ?_⟩))))⟩
  refine MtA_gencall hf fun k2 go oa muX cdv Lg a2 le2 hgo hoa asl e2 => ?_
  subst e2
  rw [ha] at hoa ⊢
  refine h k2 go oa _ _ muX _ (le1.trans le2) hgo hoa (ht.le le2) rfl fun n => ?_
  exact gen_fresh (n := n) (base := default) (k1 := k1) (D.le (le1.trans le2)) hps (fun C m mu Q k' hw le hh => hsrc C m mu Q k' hw ((le1.trans le2).trans le) hh) (asl (n + 5) k1 default)
end
/-- what all_pairs hands back -/
def ApOk (w : World) (nb pb : Int → List Int) (ps : List (Int × Int)) (a : Aux) (v : Value) (a' : Aux) (k' : Kn) (mu' : Mu) : Prop :=
  ∃ go oa gs tab, v = .ref go ∧ k' go = some oa ∧ OGen oa a.1.size ∧ a' = (a.1.push gs, tab) ∧ CodeTab k' tab ∧ gs.bare = true ∧ ∀ n, GenM w (n + 6) (RowOk nb pb) (rowsOf pb ps) gs mu' k'
theorem pairsOf_mem : ∀ {xs : List Int} {p : Int × Int}, p ∈ pairsOf xs → p.1 ∈ xs ∧ p.2 ∈ xs
  | x :: r, p, h => by
    rcases List.mem_append.mp h with h | h
    · obtain ⟨y, hy, rfl⟩ := List.mem_map.mp h
      exact ⟨.head _, hy⟩
    · have := pairsOf_mem h
      exact ⟨.tail _ this.1, .tail _ this.2⟩
theorem PairSrc.list {w : World} {k : Kn} {D : Addr} {oD : Obj} {us : List Value} {ps : List (Int × Int)} (hD : k D = some oD) (ho : OList oD us) (hu : Are (IsPair k) ps us) : PairSrc w k D ps := fun C m mu Q k' hw le h => by
  subst hw
  exact Mt_pyIter_list (.inl (le _ _ hD)) ho fun it oi hT hi => h it oi _ (Src.list C.w ho (le _ _ hD) (hu.mono fun p _ v hv => hv.le le)) hi
theorem ap_none {w : World} {n : Nat} {k : Kn} {a : Aux} {g gd nd ad pd : Addr} {nodes : List Int} {nb pb : Int → List Int} {rk : Int → Nat} {B : Nat} (D : GData w k g gd nd ad pd nodes nb pb rk B) (hac : Acyc nodes nb) (hne : nodes ≠ []) (hcode : CodeTab k a.2) :
    MvA w (n + 4) k [] a (call (.ref 95) [.ref g]) (ApOk w nb pb (pairsOf nodes) a) := by
  refine MvA_fn (n := n + 3) (fn_ap w) ?_
  rw [bind_ap1a]
  refine Ev_load (look_90 w) ?_
  rw [bind_ap1b]
  refine Ev_pure eqG_ok ⟨by kernel_rfl, fun base L => ?_⟩
  rw [ap_body]
  refine MtA_consM rfl (ap_if0 (n := n) rfl D.K hac rfl fun k1 le1 => ?_)
  refine MtA_consM rfl (ap_if1 (n := n) rfl (D.K.le le1) hne rfl ?_)
  refine MtA_cons (MtA_If rfl (Mt_isTrue_Compare (Mt_nameL rfl (Mt_none (Mt_is_none_none (Mt_truthy_bool ?_))))))
  rw [if_pos rfl]
  refine MtA_cons (MtA_Assign rfl (MtA_Call rfl (Mt_nameB (v := .type "list") (by kernel_rfl) (by kernel_rfl) (by decide) ⟨keeps_type _, Mt_spliced_cons (Mt_nameL rfl (Mt_spliced_nil (Mt_listG (n := n) rfl (D.K.le le1).is (D.K.le le1).node D.K.few rfl fun S o vs hT ho hi => Mt_setC ?_)))⟩)))
  refine MtA_frz (l1 := []) fun kS leS => ?_
  refine MtA_consM rfl (ap_pairs rfl (Lm.set_self _ _ _) (Kn.put_self _ _ _) ho hi D.K.few fun k2 P oP us le2 hP hoP hus => ?_)
  have le := (le1.trans leS).trans le2
  refine MtA_nil (ap_tail (n := n) (D.le le) (fun p hp => pairsOf_mem hp) (PairSrc.list hP hoP hus) (Lm.up (Lm.up rfl)) (Lm.set_self _ _ _) (CodeTab.le hcode le) fun k3 go oa gs tab muX m' le3 h1 h2 h3 hb h4 => ?_)
  exact ⟨muX ++ [], List.Sublist.refl _, go, oa, gs, tab, rfl, h1, h2, rfl, h3, hb, by simpa using h4⟩
end Mine

-- MN
namespace Mine
/-! dicts by pairs -/
def enc (p : Int × Int) : List Int := [p.1, p.2]
theorem enc_inj {p q : Int × Int} (h : enc p = enc q) : p = q := by
  obtain ⟨a, b⟩ := p; obtain ⟨c, d⟩ := q
  simp [enc] at h; rw [h.1, h.2]
abbrev tkd (w : World) : HeapKind P w (List Int) := tupleKind (intKind P w)
def ODT (w : World) (o : Obj) (xs : List (List Int × Addr × Value)) (ep : Nat) : Prop := o.ExactDict ∧ ∃ es, o.data = .dict es ep ∧ es.toList = xs.map (entryOfKey (tkd w)) ∧ (xs.map (·.1)).Nodup
def TKeys (k : Kn) (xs : List (List Int × Addr × Value)) (ps : List (Int × Int)) : Prop := xs.map (·.1) = ps.map enc ∧ ∀ x ∈ xs, ∃ p, x.1 = enc p ∧ IsPair k p (.ref x.2.1)
theorem TKeys.le {k k' : Kn} {xs : List (List Int × Addr × Value)} {ps : List (Int × Int)} (h : TKeys k xs ps) (l : k.Le k') : TKeys k' xs ps := ⟨h.1, fun x hx => let ⟨p, e, q⟩ := h.2 x hx; ⟨p, e, q.le l⟩⟩
theorem IsPair.key {w : World} {k : Kn} {p : Int × Int} {t : Addr} {h : Heap} (x : IsPair k p (.ref t)) (kin : k.In h) : (tkd w).is h (enc p) t := by
  obtain ⟨t', o, a, b, e, ho, hT, ⟨ta, rfl⟩, ⟨tb, rfl⟩⟩ := x
  cases e
  obtain ⟨h1, _, _, n, h4⟩ := hT
  refine ⟨o, _, n, kin _ _ ho, h1, h4, ?_⟩
  exact .cons (by show Value.isInt p.1 (.int p.1 ta) = true; simp [Value.isInt]) (.cons (by show Value.isInt p.2 (.int p.2 tb) = true; simp [Value.isInt]) .nil)
def dda (acc : List (Int × Int)) (p : Int × Int) : List (Int × Int) := if p ∈ acc then acc else acc ++ [p]
def dd (ps : List (Int × Int)) : List (Int × Int) := ps.foldl dda []
theorem dd_push (ps : List (Int × Int)) (p : Int × Int) : dd (ps ++ [p]) = dda (dd ps) p := by simp [dd, List.foldl_append]
theorem dd_go : ∀ (ps acc : List (Int × Int)), acc.Nodup → (ps.foldl dda acc).Nodup ∧ (∀ p, p ∈ ps.foldl dda acc ↔ p ∈ acc ∨ p ∈ ps) ∧ (ps.foldl dda acc).length ≤ acc.length + ps.length
  | [], acc, h => ⟨h, by simp, by simp⟩
  | p :: r, acc, h => by
    have h1 : (dda acc p).Nodup ∧ (∀ q, q ∈ dda acc p ↔ q ∈ acc ∨ q = p) ∧ (dda acc p).length ≤ acc.length + 1 := by
      unfold dda
      by_cases hp : p ∈ acc
      · rw [if_pos hp]
        exact ⟨h, fun q => ⟨.inl, fun e => e.elim id fun e => e ▸ hp⟩, by omega⟩
      · rw [if_neg hp]
        refine ⟨List.nodup_append.mpr ⟨h, by simp, fun a ha b hb => ?_⟩, by simp, by simp⟩
        simp at hb; subst hb; exact fun e => hp (e ▸ ha)
    obtain ⟨g1, g2, g3⟩ := dd_go r _ h1.1
    refine ⟨g1, fun q => ?_, ?_⟩
    · show q ∈ r.foldl dda (dda acc p) ↔ _
      rw [g2, h1.2.1, List.mem_cons, or_assoc]
    · show (r.foldl dda (dda acc p)).length ≤ _
      have := h1.2.2
      rw [List.length_cons]; omega
theorem dd_nodup (ps : List (Int × Int)) : (dd ps).Nodup := (dd_go ps [] List.nodup_nil).1
theorem mem_dd {ps : List (Int × Int)} {p : Int × Int} : p ∈ dd ps ↔ p ∈ ps := by have := (dd_go ps [] List.nodup_nil).2.1 p; simpa [dd] using this
theorem dd_len (ps : List (Int × Int)) : (dd ps).length ≤ ps.length := by have := (dd_go ps [] List.nodup_nil).2.2; simpa [dd] using this
theorem atKey_isSome {xs : List (List Int × Addr × Value)} {ps : List (Int × Int)} {p : Int × Int} (h : xs.map (·.1) = ps.map enc) : (atKey xs (enc p)).isSome = decide (p ∈ ps) := by
  have e : (atKey xs (enc p)).isSome = true ↔ p ∈ ps := by
    unfold atKey
    rw [Option.isSome_map, List.find?_isSome]
    simp only [decide_eq_true_eq]
    constructor
    · rintro ⟨x, hx, hk⟩
      have : enc p ∈ ps.map enc := by rw [← h, ← hk]; exact List.mem_map_of_mem hx
      obtain ⟨q, hq, e⟩ := List.mem_map.mp this
      exact enc_inj e ▸ hq
    · intro hp
      have : enc p ∈ xs.map (·.1) := by rw [h]; exact List.mem_map_of_mem hp
      obtain ⟨x, hx, e⟩ := List.mem_map.mp this
      exact ⟨x, hx, e⟩
  by_cases hp : p ∈ ps
  · simp [hp, e.mpr hp]
  · simp only [hp, decide_false]
    cases hs : (atKey xs (enc p)).isSome with
    | false => rfl
    | true => exact absurd (e.mp hs) hp
theorem TKeys.stored {k : Kn} {xs : List (List Int × Addr × Value)} {ps : List (Int × Int)} {p : Int × Int} {t : Addr} {v : Value} (h : TKeys k xs ps) (hp : IsPair k p (.ref t)) : TKeys k (storedH xs (enc p) t v) (dda ps p) := by
  have hs := atKey_isSome (p := p) h.1
  unfold storedH dda
  by_cases hm : p ∈ ps
  · rw [hs, if_pos (by simpa using hm), if_pos hm]
    refine ⟨by rw [keys_map_putAt]; exact h.1, fun x hx => ?_⟩
    obtain ⟨y, hy, rfl⟩ := List.mem_map.mp hx
    obtain ⟨q, e, hq⟩ := h.2 y hy
    unfold putAt
    split
    · exact ⟨q, e, hq⟩
    · exact ⟨q, e, hq⟩
  · rw [hs, if_neg (by simpa using hm), if_neg hm]
    refine ⟨by rw [List.map_append, List.map_append, h.1]; rfl, fun x hx => ?_⟩
    rcases List.mem_append.mp hx with hx | hx
    · exact h.2 x hx
    · simp at hx; subst hx; exact ⟨p, rfl, hp⟩
theorem dct0_ODT (w : World) : ODT w dct0 [] 0 := ⟨⟨rfl, rfl, rfl⟩, #[], rfl, rfl, List.nodup_nil⟩
section
variable {C : Cx} {k : Kn} {m : Lm} {mu : Mu}
theorem Mt_dictSetT {l1 l2 : Mu} {d t : Addr} {o : Obj} {xs : List (List Int × Addr × Value)} {ps : List (Int × Int)} {p : Int × Int} {ep : Nat} {v : Value} {Q : Unit → Kn → Lm → Mu → Prop} (hmu : mu = l1 ++ (d, o) :: l2) (hl : ODT C.w o xs ep) (hx : TKeys k xs ps) (hp : IsPair k p (.ref t)) (hsz : ps.length ≤ 1000)
    (h : ∀ o' xs' ep', ODT C.w o' xs' ep' → TKeys k xs' (dda ps p) → Q () k m (l1 ++ (d, o') :: l2)) : Mt C k m mu (dictSet d (.ref t) v) Q := by
  refine Mt_turn (Pr := fun _ o' => ∃ ep', ODT C.w o' (storedH xs (enc p) t v) ep') hmu (fun s A E R hA S hR => ?_) fun _ o' ⟨ep', ho'⟩ => h o' _ ep' ho' (hx.stored hp)
  obtain ⟨h1, es, h2, h3, h4⟩ := hl
  have hxl : xs.length = ps.length := by have := congrArg List.length hx.1; simpa using this
  have hz : (2 : Nat) ^ 20 ≤ sizeLine := by decide +kernel
  refine wpAny_dictSet_heap (knd := tkd C.w) (k := enc p) (xs := xs) hA.unit (hp.key S.kin) ⟨o, es, ep, S.own _ (hmu ▸ mem_mid), h1, h2, h3, fun x hx' => ?_, h4⟩ (fun h' hm hs => ?_) (hsz := by omega)
  · obtain ⟨q, e, hq⟩ := hx.2 x hx'
    rw [e]; exact hq.key S.kin
  · obtain ⟨o', es', ep', g1, g2, g3, g4, _, g6⟩ := hm
    exact hR () o' h' _ ⟨ep', g2, es', g3, g4, g6⟩ (fun b ob hb e => (hs.2 b hb).trans e) g1
theorem nextT {d it : Addr} {od oi : Obj} {xs : List (List Int × Addr × Value)} {ep i : Nat} {x : List Int × Addr × Value} {s : Shared} {A : Around} {E : Value → Shared → Prop} {Q : Option Value → Shared → Prop} {w : World} (hoi : s.heap.get? it = some oi) (hi : OKIter oi d i xs.length ep) (hod : s.heap.get? d = some od) (hd : ODT w od xs ep) (hx : xs[i]? = some x)
    (hQ : ∀ oi' h', OKIter oi' d (i + 1) xs.length ep → h'.get? it = some oi' → Heap.SameBut it s.heap h' → Q (some (.ref x.2.1)) { s with heap := h' }) : wpAny (model P w) A (pyNext (.ref it)) Q E s := by
  obtain ⟨ci, di⟩ := hi
  obtain ⟨_, es, dd, he, _⟩ := hd
  have hT : s.TypeIs (.ref it) "dict_keyiterator" := ⟨oi, hoi, ci⟩
  have hsz : es.size = xs.length := by rw [← Array.length_toList, he, List.length_map]
  have hlt : i < xs.length := (List.getElem?_eq_some_iff.mp hx).1
  have hlt' : i < es.size := by omega
  have hkey : es[i].key = .ref x.2.1 := by
    have e1 : es.toList[i]? = some (entryOfKey (tkd w) x) := by rw [he, List.getElem?_map, hx]; rfl
    have e2 : es.toList[i]? = some es[i] := by simp [hlt']
    rw [e2] at e1
    rw [Option.some.inj e1]; rfl
  unfold pyNext
  refine wpAny_bind (wpAny_attempt (wpAny_callSpecial?_slot (name := Str.ofString "__next__") hT F.slot_dict_keyiterator_next (wpAny_call_entry F.slot_dict_keyiterator_next hT F.entry_dict_keyiterator_next ?_ (F.args_dict_keyiterator_next_1 _))))
  refine wpAny_bind (wpAny_pure (wpAny_bind (wpAny_bind ?_)))
  first | refine wpAny_bind (wpAny_typeNameOfWhole_keyiter hT (wpAny_pure ?_)) | refine wpAny_bind (wpAny_typeNameOf_keyiter hT (wpAny_pure ?_))
  refine wpAny_bind (wpAny_fieldsOf hoi di ?_)
  simp only [show Builtin.Dict_items.ownsTuple "dict_keyiterator" = false by decide, Bool.false_eq_true, if_false]
  show wpAny _ _ (if (Value.ref d == Value.none) = true then _ else _) _ _ s
  rw [if_neg (show ¬ ((Value.ref d == Value.none) = true) from Bool.false_ne_true)]
  refine wpAny_bind (wpAny_pure (wpAny_bind (wpAny_dictEntries hod dd ?_)))
  rw [if_neg (by rw [hsz]; simp)]
  refine wpAny_bind (wpAny_pure (wpAny_bind (wpAny_dictEpoch hod dd ?_)))
  rw [if_neg (by simp)]
  refine wpAny_pure ?_
  simp only [show ¬ ((i : Int) < 0) from by omega, if_false, Int.toNat_natCast, Array.getElem?_eq_getElem hlt']
  refine wpAny_bind ?_
  first | refine wpAny_bind (wpAny_typeNameOfWhole_keyiter hT (wpAny_pure ?_)) | refine wpAny_bind (wpAny_typeNameOf_keyiter hT (wpAny_pure ?_))
  refine wpAny_bind (wpAny_isOneOf_keyiter hT ?_)
  show wpAny _ _ (setField (.ref it) 1 (rawInt ((i : Int) + 1)) >>= _) _ _ s
  refine wpAny_bind (wpAny_setField hoi di (by simp) ?_)
  have hs := Heap.SameBut.update s.heap it (Obj.mapFields (·.setIfInBounds 1 (rawInt ((i : Int) + 1))))
  have hit : ∃ oi', (s.heap.update it (Obj.mapFields (·.setIfInBounds 1 (rawInt ((i : Int) + 1))))).get? it = some oi' ∧ OKIter oi' d (i + 1) xs.length ep :=
    ⟨_, Heap.get?_update_self _ hoi (Obj.isFreed_of_fields (Obj.data_mapFields di _)), (Obj.cls_mapFields ..).trans ci, by rw [Obj.data_mapFields di]; simp [rawInt]⟩
  generalize s.heap.update it (Obj.mapFields (·.setIfInBounds 1 (rawInt ((i : Int) + 1)))) = h' at *
  obtain ⟨oi', hoi', hi'⟩ := hit
  refine wpAny_bind (wpAny_holding (wpAny_bind (wpAny_isOneOf_keyiter (s := { s with heap := h' }) ⟨oi', hoi', hi'.1⟩ ?_)))
  show wpAny _ _ (pure es[i].key) _ _ _
  rw [hkey]
  exact wpAny_pure (wpAny_pure ⟨_, rfl, wpAny_pure (hQ oi' h' hi' hoi' hs)⟩)
theorem nextT_end {d it : Addr} {od oi : Obj} {xs : List (List Int × Addr × Value)} {ep i : Nat} {s : Shared} {A : Around} {E : Value → Shared → Prop} {Q : Option Value → Shared → Prop} {w : World} (hh : A.handled = none) (hoi : s.heap.get? it = some oi) (hi : OKIter oi d i xs.length ep) (hod : s.heap.get? d = some od) (hd : ODT w od xs ep) (hx : xs.length ≤ i)
    (hQ : ∀ h', Heap.ExtBut it s.heap h' → Q none { s with heap := h' }) : wpAny (model P w) A (pyNext (.ref it)) Q E s := by
  obtain ⟨ci, di⟩ := hi
  obtain ⟨_, es, dd, he, _⟩ := hd
  have hT : s.TypeIs (.ref it) "dict_keyiterator" := ⟨oi, hoi, ci⟩
  have hsz : es.size = xs.length := by rw [← Array.length_toList, he, List.length_map]
  unfold pyNext
  refine wpAny_bind (wpAny_attempt (wpAny_callSpecial?_slot (name := Str.ofString "__next__") hT F.slot_dict_keyiterator_next (wpAny_call_entry F.slot_dict_keyiterator_next hT F.entry_dict_keyiterator_next ?_ (F.args_dict_keyiterator_next_1 _))))
  refine wpAny_bind (wpAny_pure (wpAny_bind (wpAny_bind ?_)))
  first | refine wpAny_bind (wpAny_typeNameOfWhole_keyiter hT (wpAny_pure ?_)) | refine wpAny_bind (wpAny_typeNameOf_keyiter hT (wpAny_pure ?_))
  refine wpAny_bind (wpAny_fieldsOf hoi di ?_)
  simp only [show Builtin.Dict_items.ownsTuple "dict_keyiterator" = false by decide, Bool.false_eq_true, if_false]
  show wpAny _ _ (if (Value.ref d == Value.none) = true then _ else _) _ _ s
  rw [if_neg (show ¬ ((Value.ref d == Value.none) = true) from Bool.false_ne_true)]
  refine wpAny_bind (wpAny_pure (wpAny_bind (wpAny_dictEntries hod dd ?_)))
  rw [if_neg (by rw [hsz]; simp)]
  refine wpAny_bind (wpAny_pure (wpAny_bind (wpAny_dictEpoch hod dd ?_)))
  rw [if_neg (by simp)]
  refine wpAny_pure ?_
  simp only [show ¬ ((i : Int) < 0) from by omega, if_false, Int.toNat_natCast, Array.getElem?_eq_none (show es.size ≤ i by omega)]
  refine wpAny_bind ?_
  first | refine wpAny_bind (wpAny_typeNameOfWhole_keyiter hT (wpAny_pure ?_)) | refine wpAny_bind (wpAny_typeNameOf_keyiter hT (wpAny_pure ?_))
  show wpAny _ _ (setField (.ref it) 0 .none >>= _) _ _ s
  refine wpAny_bind (wpAny_setField hoi di (by simp) ?_)
  show wpAny _ _ (newExc (.type "StopIteration") [] >>= _) _ _ _
  refine wpAny_bind ?_
  simp only [newExc, newTuple]
  refine wpAny_bind (wpAny_newObj_type ?_ (by size_fits))
  refine wpAny_bind (m := firstArgMember _ _) (wpAny_of_eq (a := Value.none) (by first | rfl | (simp only [firstArgMember]; rfl)) ?_)
  refine wpAny_newObj_type ?_ (by size_fits)
  simp only [raiseNew]
  refine wpAny_bind (wpAny_handled ?_)
  rw [show A.in1.handled = none from hh]
  refine wpAny_bind (wpAny_pure (wpAny_throw ?_))
  refine wpAny_bind (wpAny_isInstance (T := "StopIteration") (b := true) ⟨_, Heap.get?_push_size _ rfl, rfl⟩ isSubtype_stop ?_)
  exact wpAny_pure (hQ _ (((Heap.SameBut.update ..).extBut.push _).push _))
theorem iterT {d : Addr} {od : Obj} {xs : List (List Int × Addr × Value)} {ep : Nat} {s : Shared} {A : Around} {E : Value → Shared → Prop} {Q : Value → Shared → Prop} {w : World} (lo : (d == sysModules) = false) (hod : s.heap.get? d = some od) (hd : ODT w od xs ep)
    (hQ : Q (.ref s.heap.objs.size) { s with heap := s.heap.push { cls := .type "dict_keyiterator", data := .fields #[.ref d, .int 0 0, .int xs.length 0, .int ep 0] } }) : wpAny (model P w) A (pyIter (.ref d)) Q E s := by
  obtain ⟨hx, es, dd, he, _⟩ := hd
  have hT : s.TypeIs (.ref d) "dict" := ⟨od, hod, hx.1⟩
  have hsz : es.size = xs.length := by rw [← Array.length_toList, he, List.length_map]
  refine wpAny_pyIter_slot hT F.slot_dict_iter (wpAny_call_entry F.slot_dict_iter hT F.entry_dict_iter ?_ (F.args_dict_iter_1 _))
  unfold Builtin.«dict.__iter__» Builtin.Dict.dictSlotNone
  refine wpAny_bind (wpAny_bind (wpAny_notOrdered_dict hT ?_))
  show wpAny _ _ (pure (Value.ref d)) _ _ s
  refine wpAny_pure ?_
  show wpAny _ _ (Builtin.Dict.showsAll d >>= _) _ _ s
  unfold Builtin.Dict.showsAll
  rw [if_neg (by rw [lo]; exact Bool.false_ne_true)]
  refine wpAny_bind (wpAny_pure (wpAny_bind (wpAny_dictEntries hod dd (wpAny_bind (wpAny_dictEpoch hod dd ?_)))))
  refine wpAny_bind (wpAny_newObj_type (wpAny_pure ⟨_, rfl, "dict_keyiterator", _, ⟨_, Heap.get?_push_size _ rfl, rfl⟩, F.slot_dict_keyiterator_next.lookup, ?_⟩))
  simpa [rawInt, hsz] using hQ
/-- a dict by pairs, its keys -/
theorem Src.dictT {d it : Addr} {o : Obj} {xs : List (List Int × Addr × Value)} {ps : List (Int × Int)} {ep : Nat} (w : World) (hl : ODT w o xs ep) (hx : TKeys k xs ps) (hk : k d = some o) : Src w k it (fun i oi => OKIter oi d i xs.length ep) ps (IsPair k) where
  cls := ⟨"dict_keyiterator", by decide, fun _ _ h => h.1⟩
  next := fun C k' m l1 l2 oi i p Q hw le hi hp h => by
    subst hw
    have e1 : (xs.map (·.1))[i]? = some (enc p) := by rw [hx.1, List.getElem?_map, hp]; rfl
    rw [List.getElem?_map] at e1
    obtain ⟨x, hxi, e2⟩ := Option.map_eq_some_iff.mp e1
    obtain ⟨q, e3, hq⟩ := hx.2 x (List.mem_of_getElem? hxi)
    have : q = p := enc_inj (e3.symm.trans e2)
    subst this
    exact Mt_turn (Pr := fun v o' => v = some (.ref x.2.1) ∧ OKIter o' d (i + 1) xs.length ep) rfl (fun s A E R hA S hR => nextT (S.own _ mem_mid) hi (S.kin _ _ (le _ _ hk)) hl hxi fun oi' h' hi' ho' hs =>
      hR _ oi' h' s.toks ⟨rfl, hi'⟩ (fun b ob hb e => (hs.2 b hb).trans e) ho') fun v o' ⟨e, hi'⟩ => e ▸ h _ o' hi' hq
  done := fun C k' m l1 l2 oi i Q hw le hi hge h => by
    subst hw
    have hxl : xs.length = ps.length := by have := congrArg List.length hx.1; simpa using this
    exact Mt_lose (Pr := fun v => v = none) rfl (fun s A E R hA S hR => nextT_end hA.handled (S.own _ mem_mid) hi (S.kin _ _ (le _ _ hk)) hl (by omega) fun h' he => hR _ h' s.toks rfl he) fun v e => e ▸ h
  self := fun C k' m mu oi i Q hw hi hm h => Mt_of (fun s A E R hA S hR => wpAny_pyIter_keyiter ⟨oi, S.own _ hm, hi⟩ (hR s.toks)) h
theorem Mt_pyIter_dictT {d : Addr} {o : Obj} {xs : List (List Int × Addr × Value)} {ep : Nat} {Q : Value → Kn → Lm → Mu → Prop} (lo : (d == sysModules) = false) (ha : At k mu d o) (hl : ODT C.w o xs ep) (h : ∀ it oi, TB < it → OKIter oi d 0 xs.length ep → Q (.ref it) k m ((it, oi) :: mu)) : Mt C k m mu (pyIter (.ref d)) Q :=
  Mt_newM (Pr := fun o => OKIter o d 0 xs.length ep) (fun s A E R hA S hR => iterT lo (S.at ha) hl (hR _ _ s.toks ⟨rfl, rfl⟩ (fun b ob e => Heap.get?_push_of_some _ e) (Heap.get?_push_size _ rfl))) h
end
theorem PairSrc.dict {w : World} {k : Kn} {d : Addr} {o : Obj} {xs : List (List Int × Addr × Value)} {ps : List (Int × Int)} {ep : Nat} (lo : (d == sysModules) = false) (hk : k d = some o) (hl : ODT w o xs ep) (hx : TKeys k xs ps) : PairSrc w k d ps := fun C m mu Q k' hw le h => by
  subst hw
  exact Mt_pyIter_dictT lo (.inl (le _ _ hk)) hl fun it oi hT hi => h it oi _ (Src.dictT C.w hl (hx.le le) (le _ _ hk)) hi
end Mine

-- MO
namespace Mine
def apElse : List Stmt := ifElse apIf
theorem apElse_eq : apElse = [(apElse[0]?).getD (.Pass default), (apElse[1]?).getD (.Pass default), (apElse[2]?).getD (.Pass default)] := by kernel_rfl
section
variable {w : World} {n : Nat} {k0 k : Kn} {L : Addr} {base : Heap} {m : Lm} {mu : Mu} {a : Aux} {g gd nd ad pd : Addr} {nodes : List Int} {nb pb : Int → List Int}
theorem ap_h0 {l : Addr} {ol : Obj} {vs : List Value} {ps : List (Int × Int)} {st : Stmt} (hst : st = (apElse[0]?).getD (.Pass default)) (mP : m "pairs" = some (.ref l)) (hk : k l = some ol) (hl : OList ol vs) (hv : Are (IsPair k) ps vs) (hf : ps.length ≤ 1000) {Q : Flow → Kn → Lm → Mu → Prop}
    (h : ∀ k' D oD xs ep, k.Le k' → TB < D → k' D = some oD → ODT w oD xs ep → TKeys k' xs (dd ps) → Q .next k' (m.set "pairs" (.ref D)) mu) : Mt (apcx w n k0 L base) k m mu (exec st (apcx w n k0 L base).env) Q := by
  subst hst
  refine Mt_Assign_swapD (Mt_nameL mP (Mt_pyIter_list (.inl hk) hl fun it oi hT hi => ?_))
  refine ⟨[(it, oi)], mu, rfl, compD_in (C := apcx w n k0 L base) (Src.list w hl hk hv) (fun i k oD => ∃ xs ep, ODT w oD xs ep ∧ TKeys k xs (dd (ps.take i))) ?_ ?_ ⟨[], 0, dct0_ODT w, rfl, fun x hx => (nomatch hx)⟩ hi (Kn.Le.refl _)⟩
  · rintro D L' base' hTD i p k1 m1 oi oD v hp hv le ⟨xs, ep, hd, hx⟩
    obtain ⟨t, o, x, y, rfl, r⟩ := id hv
    have hlen : (dd (ps.take i)).length ≤ 1000 := Nat.le_trans (dd_len _) (Nat.le_trans (by rw [List.length_take]; omega) hf)
    refine Mt_toL (Mt_nameL (Lm.set_self _ _ _) (Mt_none (Mt_dictSetT (l1 := []) rfl hd hx (hv.le le) hlen fun o' xs' ep' ho' hx' => ⟨Kn.Le.refl _, o', rfl, xs', ep', ho', ?_⟩)))
    rw [List.take_add_one, hp]
    show TKeys k1 xs' (dd (ps.take i ++ [p]))
    rw [dd_push]; exact hx'
  · rintro D k' oD hTD hDb kD le le' ⟨xs, ep, hd, hx⟩
    rw [List.take_of_length_le (Nat.le_refl _)] at hx
    exact h _ D oD xs ep (le.trans le') hTD (Kn.put_self _ _ _) hd (hx.le le')
theorem ap_h1 {st : Stmt} (hst : st = (apElse[1]?).getD (.Pass default)) (K : GK w k g gd nd ad pd nodes nb pb) (mG : m "G" = some (.ref g)) {Q : Flow → Kn → Lm → Mu → Prop}
    (h : ∀ k' S o c, k.Le k' → k' S = some o → OSet w o (fun y => decide (y ∈ nodes)) c → c ≤ 1000 → Q .next k' (m.set "nodeset" (.ref S)) mu) : Mt (apcx w (n + 3) k0 L base) k m mu (exec st (apcx w (n + 3) k0 L base).env) Q := by
  subst hst
  have hfew := K.few
  refine Mt_Assign (Mt_Call (Mt_nameB (v := .type "set") (by kernel_rfl) (by kernel_rfl) (by decide) ⟨keeps_type _, Mt_spliced_cons (Mt_nameL mG (Mt_spliced_nil ?_))⟩))
  refine Mt_set_graph (n := n + 1) eqG_ok rfl K.is K.node (by unfold scanBound; omega) fun S o c hT ho hc => Mt_frz (l1 := []) fun kS leS => Mt_setL ?_
  exact h _ S o c leS (Kn.put_self _ _ _) ho (by omega)
theorem ap_h2 {st : Stmt} (hst : st = (apElse[2]?).getD (.Pass default)) {D S : Addr} {oD oS : Obj} {xs : List (List Int × Addr × Value)} {ep c : Nat} {ps : List (Int × Int)} (hD : k D = some oD) (hTD : TB < D) (hd : ODT w oD xs ep) (hx : TKeys k xs ps) (hS : k S = some oS) (hs : OSet w oS (fun y => decide (y ∈ nodes)) c)
    (hps : ∀ p ∈ ps, p.1 ∈ nodes ∧ p.2 ∈ nodes) (mP : m "pairs" = some (.ref D)) (mS : m "nodeset" = some (.ref S)) {Q : Flow → Kn → Lm → Mu → Prop}
    (h : ∀ k' m', k.Le k' → (∀ y : Str, y ≠ "pair" → m' y = m y) → Q .next k' m' mu) : Mt (apcx w (n + 3) k0 L base) k m mu (exec st (apcx w (n + 3) k0 L base).env) Q := by
  subst hst
  refine Mt_For (Mt_nameL mP (Mt_pyIter_dictT (lo_of hTD) (.inl hD) hd fun it oi hT hi => ?_))
  refine MtC_forS (C := apcx w (n + 3) k0 L base) (Src.dictT w hd hx hD) (fun i k' m' mu' => mu' = mu ∧ ∀ y : Str, y ≠ "pair" → m' y = m y) ?_ ?_ ⟨rfl, fun _ _ => rfl⟩ hi (Kn.Le.refl _)
  · rintro i p k1 m1 mu1 oi1 v hp hv le ⟨rfl, hm⟩ hi1
    obtain ⟨t, o, x, y, rfl, hto, hT2, hx1, hy1⟩ := hv.le le
    have hp' := hps p (List.mem_of_getElem? hp)
    refine Mt_toL (Mt_cons (Mt_If (Mt_isTrue_plain rfl (Mt_BinOp (Mt_Call (Mt_nameB (v := .type "set") (by kernel_rfl) (by kernel_rfl) (by decide) ⟨keeps_type _, Mt_spliced_cons (Mt_nameL (Lm.set_self _ _ _) (Mt_spliced_nil ?_))⟩))))))
    refine Mt_set_tup (n := n + 1) (xs := [p.1, p.2]) rfl hto hT2 ((Are.cons (Are.cons Are.nil hy1) hx1)) (by show 3 < 4096; decide) fun S2 o2 c2 hT3 ho2 hc2 => ?_
    refine Mt_nameL (Lm.up ((hm "nodeset" (by decide)).trans mS)) (Mt_sub_set (.inr (.head _)) (.inl (le _ _ hS)) ho2 hs (by simp at hc2; omega) fun D2 oD2 c3 hTD2 hoD2 => ?_)
    refine Mt_truthy_set (.inr (.head _)) hoD2 ?_
    have h0 : c3 = 0 := hoD2.empty.mpr fun y => by
      by_cases e : y ∈ [p.1, p.2]
      · have : y ∈ nodes := by
          simp at e
          rcases e with rfl | rfl
          · exact hp'.1
          · exact hp'.2
        simp [this]
      · simp at e; simp [e]
    subst h0
    rw [if_neg (by simp)]
    refine Mt_drop (l1 := []) (Mt_drop (l1 := []) (Mt_nil (Mt_nil ⟨oi1, mu1, rfl, le, hi1, rfl, fun y hy => ?_⟩)))
    rw [Lm.set_ne _ _ hy]; exact hm y hy
  · rintro k1 m1 mu1 le ⟨rfl, hm⟩
    exact Mt_nil (h k1 m1 le hm)
end
theorem ap_handed {w : World} {n : Nat} {k : Kn} {a : Aux} {g gd nd ad pd l : Addr} {nodes : List Int} {nb pb : Int → List Int} {rk : Int → Nat} {B : Nat} {ol : Obj} {vs : List Value} {ps : List (Int × Int)} (D : GData w k g gd nd ad pd nodes nb pb rk B) (hac : Acyc nodes nb) (hne : nodes ≠ []) (hcode : CodeTab k a.2)
    (hk : k l = some ol) (hl : OList ol vs) (hv : Are (IsPair k) ps vs) (hf : ps.length ≤ 1000) (hps : ∀ p ∈ ps, p.1 ∈ nodes ∧ p.2 ∈ nodes) {kw : List (Str × Value)} {pos : List Value} (hb : pos = [.ref g, .ref l] ∧ kw = [] ∨ pos = [.ref g] ∧ kw = [(("pairs" : Str), .ref l)]) :
    MvA w (n + 4) k [] a (call (.ref 95) pos kw) (ApOk w nb pb (dd ps) a) := by
  refine MvA_fn (n := n + 3) (fn_ap w) ?_
  have main : ∀ (base : Heap) (L : Addr), MtA (fcx w (n + 3) EqG k apQ (scopeOf (stAt 11)) (cdOf w 95) 95 L base) k (bm [(("G" : Str), .ref g), (("pairs" : Str), .ref l)]) [] a (execs (bodyOf (stAt 11)) (fenv apQ (scopeOf (stAt 11)) (cdOf w 95) L 95)) (fun f a' k'' _ mu' => ∃ mu1, mu1.Sublist mu' ∧ ApOk w nb pb (dd ps) a (retv f) a' k'' mu1) := by
    intro base L
    rw [ap_body]
    refine MtA_consM rfl (ap_if0 (n := n) rfl D.K hac rfl fun k1 le1 => ?_)
    refine MtA_consM rfl (ap_if1 (n := n) rfl (D.K.le le1) hne rfl ?_)
    refine MtA_cons (MtA_If rfl (Mt_isTrue_Compare (Mt_nameL rfl (Mt_none (Mt_is_ref_none (Mt_truthy_bool ?_))))))
    rw [if_neg (by simp)]
    show MtA _ _ _ _ _ (execs apElse _) _
    rw [apElse_eq]
    refine MtA_consM rfl (ap_h0 rfl rfl (le1 _ _ hk) hl (hv.mono fun p _ v h => h.le le1) hf fun k2 Dd oD xs ep le2 hTD hD hd hx => ?_)
    have le12 := le1.trans le2
    refine MtA_consM rfl (ap_h1 (n := n) rfl (D.K.le le12) (Lm.up rfl) fun k3 S oS c le3 hS hs hc => ?_)
    have hps' : ∀ p ∈ dd ps, p.1 ∈ nodes ∧ p.2 ∈ nodes := fun p hp => hps p (mem_dd.mp hp)
    refine MtA_consM rfl (ap_h2 (n := n) rfl (le3 _ _ hD) hTD hd (hx.le le3) hS hs hps' (Lm.up (Lm.set_self _ _ _)) (Lm.set_self _ _ _) fun k4 m4 le4 hm4 => ?_)
    have le := le12.trans (le3.trans le4)
    refine MtA_nil (ap_tail (n := n) (D.le le) hps' (PairSrc.dict (lo_of hTD) (le4 _ _ (le3 _ _ hD)) hd (hx.le (le3.trans le4))) ((hm4 _ (by decide)).trans (Lm.up (Lm.up rfl))) ((hm4 _ (by decide)).trans (Lm.up (Lm.set_self _ _ _))) (CodeTab.le hcode le) fun k5 go oa gs tab muX m' le5 h1 h2 h3 hbb h4 => ?_)
    exact ⟨muX ++ [], List.Sublist.refl _, go, oa, gs, tab, rfl, h1, h2, rfl, h3, hbb, by simpa using h4⟩
  rcases hb with ⟨rfl, rfl⟩ | ⟨rfl, rfl⟩
  · rw [bind_ap2a]
    refine Ev_load (look_90 w) ?_
    rw [bind_ap2b]
    exact Ev_pure eqG_ok ⟨by kernel_rfl, main⟩
  · rw [bind_apKa]
    refine Ev_load (look_90 w) ?_
    rw [bind_apKb]
    exact Ev_pure eqG_ok ⟨by kernel_rfl, main⟩
end Mine

-- MP
namespace Mine
/-! a generator that is walked -/
theorem gen_len_none : typeLookup (.type "generator") "__len__" = pure none := by rw [typeLookup_type, builtinLookup_eq_fast]; kernel_rfl
theorem gen_hint_none : typeLookup (.type "generator") "__length_hint__" = pure none := by rw [typeLookup_type, builtinLookup_eq_fast]; kernel_rfl
def GenAt {ρ : Type} (w : World) (n : Nat) (Row : ρ → Value → Kn → Prop) (rs : List ρ) (g : Nat) (a : Aux) (k : Kn) (muG : Mu) : Prop := ∃ gs kG, a.1[g]? = some gs ∧ kG.Le k ∧ GenM w n Row rs gs muG kG
section
variable {α β ρ : Type} {C : Cx} {k : Kn} {m : Lm} {mu : Mu} {a : Aux}
theorem GenAt.le {w : World} {n : Nat} {Row : ρ → Value → Kn → Prop} {rs : List ρ} {g : Nat} {k k' : Kn} {muG : Mu} (h : GenAt w n Row rs g a k muG) (l : k.Le k') : GenAt w n Row rs g a k' muG := let ⟨gs, kG, e, le, q⟩ := h; ⟨gs, kG, e, le.trans l, q⟩
theorem Stt.sub {h : Heap} {mu' : Mu} (S : Stt C k m mu h) (sl : mu'.Sublist mu) : Stt C k m mu' h :=
  ⟨S.ok, S.loc, S.cel, S.fre, S.keep, S.kin, fun p hp => S.own p (sl.subset hp), S.kown, fun a ha p hp => S.muown a ha p (sl.subset hp), fun p hp => S.kmu p (sl.subset hp), fun p hp => S.bmu p (sl.subset hp), (sl.map _).nodup S.nd, S.ext, S.extb, S.tab, S.kT, fun p hp => S.muT p (sl.subset hp)⟩
theorem MtA_perm {t : Sem α} {mu' : Mu} {Q : α → Aux → Kn → Lm → Mu → Prop} (p : mu.Perm mu') (h : MtA C k m mu' a t Q) : MtA C k m mu a t Q := fun s A E hA S ha => h s A E hA (S.perm p) ha
theorem MtA_post {t : Sem α} {Q Q' : α → Aux → Kn → Lm → Mu → Prop} (h : MtA C k m mu a t Q') (hq : ∀ x a k m mu, Q' x a k m mu → ∃ mu' mu2, mu.Perm mu2 ∧ mu'.Sublist mu2 ∧ Q x a k m mu') : MtA C k m mu a t Q := fun s A E hA S ha =>
  wpAny_mono (h s A E hA S ha) (fun x s' ⟨k', m', mu1, af, S', q⟩ => let ⟨mu', mu2, p, sl, q'⟩ := hq _ _ _ _ _ q; ⟨k', m', mu', af, (S'.perm p).sub sl, q'⟩) fun _ _ e => e
theorem MtCA_post {c : Code} {Q Q' : Flow → Aux → Kn → Lm → Mu → Prop} (h : MtCA C k m mu a c Q') (hq : ∀ x a k m mu, Q' x a k m mu → ∃ mu' mu2, mu.Perm mu2 ∧ mu'.Sublist mu2 ∧ Q x a k m mu') : MtCA C k m mu a c Q := fun s A hA S ha =>
  codeAny_mono (h s A hA S ha) fun r s' hr => by
    cases r with
    | error e => exact hr
    | ok f =>
      obtain ⟨k', m', mu1, af, S', q⟩ := hr
      obtain ⟨mu', mu2, p, sl, q'⟩ := hq _ _ _ _ _ q
      exact ⟨k', m', mu', af, (S'.perm p).sub sl, q'⟩
theorem MtCA_perm {c : Code} {mu' : Mu} {Q : Flow → Aux → Kn → Lm → Mu → Prop} (p : mu.Perm mu') (h : MtCA C k m mu' a c Q) : MtCA C k m mu a c Q := fun s A hA S ha => h s A hA (S.perm p) ha
theorem OGen.isGen {h : Heap} {go : Addr} {oa : Obj} {g : Nat} (ho : OGen oa g) (e : h.get? go = some oa) : h.IsGen go g := let ⟨nm, qn, h1, h2, h3⟩ := ho; ⟨oa, nm, qn, e, h1, h2, h3⟩
theorem MtA_pyIter_gen {go : Addr} {oa : Obj} {g : Nat} {Q : Value → Aux → Kn → Lm → Mu → Prop} (hk : k go = some oa) (ho : OGen oa g) (h : Q (.ref go) a k m mu) : MtA C k m mu a (pyIter (.ref go)) Q := fun s A E hA S ha =>
  wpAny_pyIter_gen (ho.isGen (S.kin _ _ hk)) ⟨k, m, mu, AfterX.refl s, S, by rw [ha]; exact h⟩
theorem MtA_hint_gen {go : Addr} {oa : Obj} {g : Nat} {Q : Bool → Aux → Kn → Lm → Mu → Prop} (hk : k go = some oa) (ho : OGen oa g) (h : Q true a k m mu) : MtA C k m mu a (Builtin.List.listLengthHint (.ref go)) Q := fun s A E hA S ha => by
  have hT := (ho.isGen (S.kin _ _ hk)).typeIs
  unfold Builtin.List.listLengthHint
  refine wpAny_bind (wpAny_specialOf hT gen_len_none ?_)
  show wpAny _ _ (specialOf (.ref go) "__length_hint__" >>= _) _ _ s
  refine wpAny_bind (wpAny_specialOf hT gen_hint_none ?_)
  exact wpAny_pure ⟨k, m, mu, AfterX.refl s, S, by rw [ha]; exact h⟩
/-- what a turn of a generator does to the generators and to the table -/
def AuxL (a a' : Aux) : Prop := a'.2 = a.2 ∧ (AllBare a.1 → AllBare a'.1)
theorem AuxL.refl (a : Aux) : AuxL a a := ⟨rfl, id⟩
theorem AuxL.trans {a b c : Aux} (y : AuxL b c) (x : AuxL a b) : AuxL a c := ⟨y.1.trans x.1, fun h => y.2 (x.2 h)⟩
theorem AllBare.set {gens : Array GenState} {g : Nat} {gs : GenState} (x : AllBare gens) (h : gs.bare = true) : AllBare (gens.set! g gs) := fun y hy => by
  rw [Array.set!_eq_setIfInBounds] at hy
  rcases Array.mem_or_eq_of_mem_setIfInBounds hy with h1 | rfl
  · exact x y h1
  · exact h
theorem MtA_next_gen {go : Addr} {oa : Obj} {g n : Nat} {muG mu2 : Mu} {Row : ρ → Value → Kn → Prop} (hR : ∀ k k' r v, k.Le k' → Row r v k → Row r v k') {r : ρ} {rs : List ρ} {Q : Option Value → Aux → Kn → Lm → Mu → Prop} (hn : C.n = n + 1) (hk : k go = some oa) (ho : OGen oa g) (hG : GenAt C.w n Row (r :: rs) g a k muG)
    (h : ∀ k' muG' a' v, k.Le k' → Row r v k' → GenAt C.w n Row rs g a' k' muG' → AuxL a a' → Q (some v) a' k' m (muG' ++ mu2)) : MtA C k m (muG ++ mu2) a (pyNext (.ref go)) Q := fun s A E hA S ha => by
  obtain ⟨gs, kG, e, le, hG⟩ := hG
  have e' : s.gens[g]? = some gs := by rw [← ha] at e; exact e
  refine next_G (n := n) (hn ▸ hA) S le hk ho e' hG fun s' kG' muG' k' x gs' af hg tg S' l1 l2 hbare hx => ?_
  obtain ⟨⟨v, rfl, hr⟩, hG'⟩ := hx
  have ha2 : AuxL a (aux s') := ⟨by rw [← ha]; exact tg.get S.tab, fun hab => by rw [← ha] at hab; show AllBare s'.gens; rw [hg]; exact AllBare.set hab hbare⟩
  refine ⟨k', m, _, af, S', h k' muG' _ v l1 (hR _ _ _ _ l2 hr) ⟨gs', kG', ?_, l2, hG'⟩ ha2⟩
  show s'.gens[g]? = _
  rw [hg]
  have : g < s.gens.size := by
    rcases Nat.lt_or_ge g s.gens.size with h1 | h1
    · exact h1
    · rw [Array.getElem?_eq_none h1] at e'; cases e'
  simp [this]
theorem MtA_next_gen_end {go : Addr} {oa : Obj} {g n : Nat} {muG mu2 : Mu} {Row : ρ → Value → Kn → Prop} {Q : Option Value → Aux → Kn → Lm → Mu → Prop} (hn : C.n = n + 1) (hk : k go = some oa) (ho : OGen oa g) (hG : GenAt C.w n Row ([] : List ρ) g a k muG)
    (h : ∀ k' muG' a', k.Le k' → AuxL a a' → Q none a' k' m (muG' ++ mu2)) : MtA C k m (muG ++ mu2) a (pyNext (.ref go)) Q := fun s A E hA S ha => by
  obtain ⟨gs, kG, e, le, hG⟩ := hG
  have e' : s.gens[g]? = some gs := by rw [← ha] at e; exact e
  refine next_G (n := n) (hn ▸ hA) S le hk ho e' hG fun s' kG' muG' k' x gs' af hg tg S' l1 l2 hbare hx => ?_
  obtain ⟨rfl, _⟩ := hx
  have ha2 : AuxL a (aux s') := ⟨by rw [← ha]; exact tg.get S.tab, fun hab => by rw [← ha] at hab; show AllBare s'.gens; rw [hg]; exact AllBare.set hab hbare⟩
  exact ⟨k', m, _, af, S', h k' muG' _ l1 ha2⟩
/-- list(a generator) -/
theorem MtA_listGen {go : Addr} {oa : Obj} {g n : Nat} {muG : Mu} {Row : ρ → Value → Kn → Prop} (hR : ∀ k k' r v, k.Le k' → Row r v k → Row r v k') {rows : List ρ} {Q : Value → Aux → Kn → Lm → Mu → Prop} (hn : C.n = n + 3) (hk : k go = some oa) (ho : OGen oa g) (hG : GenAt C.w n Row rows g a k muG) (hsz : rows.length ≤ 2 ^ 20)
    (h : ∀ k' a' S o vs, k.Le k' → AuxL a a' → TB < S → OList o vs → Are (fun r v => Row r v k') rows vs → Q (.ref S) a' k' m ((S, o) :: mu)) : MtA C k m (muG ++ mu) a (call (.type "list") [.ref go]) Q := by
  refine MtA_list (n := n + 2) hn (fun hh S => ⟨⟨_, S.kin _ _ hk⟩, .type "generator", ?_, rfl, rfl⟩) fun S o hT hoS => ?_
  · have e : oa.cls = .type "generator" := let ⟨_, _, h1, _, _⟩ := ho; h1
    rw [← e]
    exact (Looks.ld (part := none) (S.kin _ _ hk)).andThen .now
  · refine MtA_pyIter_gen (C := C.at (n + 2)) hk ho (MtA_hint_gen (C := C.at (n + 2)) hk ho ⟨[], muG ++ mu, o, rfl, hoS, fun o' ho' => ?_⟩)
    have pm : ∀ (oS : Obj) (l : Mu), List.Perm ((S, oS) :: (l ++ mu)) (l ++ (S, oS) :: mu) := fun oS l => List.perm_middle.symm
    refine MtCA_post (MtCA_ext (C := C.at (n + 2)) (it := go) (S := S) (rows := rows) (R := fun k r v => Row r v k) hR (fun i a' k' mu' => k.Le k' ∧ AuxL a a' ∧ ∃ muG', (i ≤ rows.length → GenAt C.w n Row (rows.drop i) g a' k' muG') ∧ mu' = muG' ++ mu) (n := n + 1) rfl hsz ?_ ?_ rows.length 0 k (muG ++ mu) a o' [] rfl (Nat.zero_le _) ⟨Kn.Le.refl _, AuxL.refl _, muG, fun _ => by simpa using hG, rfl⟩ ho' (Are.nil)) ?_
    · rintro i r a' k' mu' oS hr ⟨le, ha, muG', hGi, rfl⟩
      have hlt : i < rows.length := (List.getElem?_eq_some_iff.mp hr).1
      have hd : rows.drop i = r :: rows.drop (i + 1) := by
        rw [List.drop_eq_getElem_cons hlt]
        have : rows[i] = r := by rw [List.getElem?_eq_getElem hlt] at hr; exact Option.some.inj hr
        rw [this]
      have hGi := hGi (by omega)
      rw [hd] at hGi
      refine MtA_perm (pm oS muG') (MtA_post (MtA_next_gen (C := C.at (n + 1)) (n := n) (Q := fun x a2 k2 m2 mu2 => m2 = m ∧ ∃ v muG2, x = some v ∧ mu2 = muG2 ++ (S, oS) :: mu ∧ Row r v k2 ∧ GenAt C.w n Row (rows.drop (i + 1)) g a2 k2 muG2 ∧ AuxL a a2 ∧ k'.Le k2) hR rfl (le _ _ hk) ho hGi fun k2 muG2 a2 v le2 hr2 hG2 ha2 => ?_) ?_)
      · exact ⟨rfl, v, muG2, rfl, rfl, hr2, hG2, ha2.trans ha, le2⟩
      · rintro x a2 k2 m2 mu2 ⟨rfl, v, muG2, rfl, rfl, h1, h2, h3, h4⟩
        exact ⟨_, _, (pm oS muG2).symm, List.Sublist.refl _, rfl, v, muG2 ++ mu, rfl, rfl, h1, ⟨le.trans h4, h3, muG2, fun _ => h2, rfl⟩, h4⟩
    · rintro a' k' mu' oS ⟨le, ha, muG', hGi, rfl⟩
      have hGi := hGi (Nat.le_refl _)
      rw [List.drop_eq_nil_of_le (Nat.le_refl _)] at hGi
      refine MtA_perm (pm oS muG') (MtA_post (MtA_next_gen_end (C := C.at (n + 1)) (n := n) (Q := fun x a2 k2 m2 mu2 => m2 = m ∧ ∃ muG2, x = none ∧ mu2 = muG2 ++ (S, oS) :: mu ∧ AuxL a a2 ∧ k'.Le k2) rfl (le _ _ hk) ho hGi fun k2 muG2 a2 le2 ha2 => ?_) ?_)
      · exact ⟨rfl, muG2, rfl, rfl, ha2.trans ha, le2⟩
      · rintro x a2 k2 m2 mu2 ⟨rfl, muG2, rfl, rfl, h3, h4⟩
        exact ⟨_, _, (pm oS muG2).symm, List.Sublist.refl _, rfl, muG2 ++ mu, rfl, rfl, ⟨le.trans h4, h3, muG2, fun h => absurd h (by omega), rfl⟩, h4⟩
    · rintro f a2 k2 m2 mu2 ⟨rfl, rfl, le, oS', vs', mu3, rfl, h1, h2, le', ha2, muG2, -, rfl⟩
      exact ⟨(S, oS') :: mu, _, List.Perm.refl _, (List.sublist_append_right muG2 mu).cons_cons _, rfl, h k2 a2 S oS' vs' le' ha2 hT h1 h2⟩
end
theorem RowOk.le {nb pb : Int → List Int} : ∀ (k k' : Kn) (r : Int × Int) (v : Value), k.Le k' → RowOk nb pb r v k → RowOk nb pb r v k' := fun k k' r v l h =>
  let ⟨t1, o1, t2, o2, a, b, c, cv, e, h1, h2, h3, h4⟩ := h; ⟨t1, o1, t2, o2, a, b, c, cv, e, l _ _ h1, h2, l _ _ h3, h4⟩
end Mine

-- MQ
namespace Mine
section
variable {α β : Type} {C : Cx} {k : Kn} {m : Lm} {mu : Mu} {a : Aux}
theorem MvA_mono {w : World} {n : Nat} {t : Sem α} {Q Q' : α → Aux → Kn → Mu → Prop} (h : MvA w n k mu a t Q) (hq : ∀ x a k' mu', k.Le k' → Q x a k' mu' → Q' x a k' mu') : MvA w n k mu a t Q' := fun s A E hA hP hT hk hkT hmu hkmu hnd hmT ha =>
  wpAny_mono (h s A E hA hP hT hk hkT hmu hkmu hnd hmT ha) (fun x s' ⟨k', mu', p, q⟩ => ⟨k', mu', p, hq _ _ _ _ p.2.2.2.2.1 q⟩) fun _ _ e => e
theorem MvA_le {w : World} {n n' : Nat} {t : Sem α} {Q : α → Aux → Kn → Mu → Prop} (h : MvA w n k mu a t Q) (hn : n ≤ n') : MvA w n' k mu a t Q := fun s A E hA => h s A E (hA.le hn)
theorem MtA_spliced_cons (hG : C.G = EqG) {e : PySem.Expr} {rest pos} {Q : List Value → Aux → Kn → Lm → Mu → Prop} (h : MtA C k m mu a (eval e C.env) (fun v a k m mu => Mt C k m mu (spliced (backTo pos (starEach rest C.env))) (fun vs k m mu => Q (v :: vs) a k m mu)))
    (he : starEach (e :: rest) C.env = (false, eval e C.env) :: starEach rest C.env := by rfl) : MtA C k m mu a (spliced (backTo pos (starEach (e :: rest) C.env))) Q := by
  rw [he]
  show MtA C k m mu a (do
    let v ← eval e C.env
    let here ← if false = true then do
        if ← notIterableAtAll v then
          rule "star.not-iterable"; raiseError "TypeError" s!"Value after * must be an iterable, not {← typeNameOf v}"
        collect v
      else pure [v]
    return here ++ (← holding here (spliced (backTo pos (starEach rest C.env))))) Q
  refine MtA_bind (MtA_mono h fun v a k m mu h => ?_)
  simp only [Bool.false_eq_true, if_false]
  exact MtA_bind (MtA_pure (MtA_bindM hG (Mt_holding (Mt_mono h fun vs k m mu h => MtA_pure h))))
theorem MtA_evalArgs {f : Value} {args : List PySem.Expr} {pos : Pos} {Q : Args → Aux → Kn → Lm → Mu → Prop} (h : MtA C k m mu a (spliced (backTo pos (starEach args C.env))) (fun vs a k m mu => Q ⟨vs, []⟩ a k m mu))
    (hp : (backTo pos (starEach args C.env)).any (·.1) = false := by rfl) : MtA C k m mu a (evalArgs f true (backTo pos (starEach args C.env)) (backToKw pos (keywordEach [] C.env))) Q := by
  show MtA C k m mu a (evalArgs f true (backTo pos (starEach args C.env)) []) Q
  generalize backTo pos (starEach args C.env) = l at hp h
  match l, hp, h with
  | [], _, h =>
    unfold evalArgs
    show MtA C k m mu a (spliced [] >>= _) Q
    exact MtA_bind (MtA_mono h fun vs a k m mu h => MtA_bind (MtA_pure (MtA_holding (MtA_bind (MtA_pure (MtA_bind (MtA_pure (MtA_pure h))))))))
  | (false, x) :: r, _, h =>
    unfold evalArgs
    show MtA C k m mu a (spliced ((false, x) :: r) >>= _) Q
    exact MtA_bind (MtA_mono h fun vs a k m mu h => MtA_bind (MtA_pure (MtA_holding (MtA_bind (MtA_pure (MtA_bind (MtA_pure (MtA_pure h))))))))
/-- a call, an argument of which is of the kind that turns the generators -/
theorem MtA_CallA (hG : C.G = EqG) {f : PySem.Expr} {args : List PySem.Expr} {pos : Pos} {Q : Value → Aux → Kn → Lm → Mu → Prop}
    (h : Mt C k m mu (eval f C.env) (fun fv k m mu => Keeps C fv ∧ MtA C k m mu a (spliced (backTo pos (starEach args C.env))) (fun vs a k m mu => MtA C k m mu a (call fv vs) Q)))
    (he : eval (.Call f args [] pos) C.env = (do callWith pos (← eval f C.env) [] (backTo pos (starEach args C.env)) (backToKw pos (keywordEach [] C.env))) := by rfl) (hp : (backTo pos (starEach args C.env)).any (·.1) = false := by rfl) :
    MtA C k m mu a (eval (.Call f args [] pos) C.env) Q := by
  rw [he]
  refine MtA_bindM hG (Mt_mono h fun fv k m mu ⟨hk, h⟩ => fun s A E hA S ha => ?_)
  refine callWith_of (P := Prog C.w) (by rw [hp]; rfl) hk (wpAny_mono (MtA_evalArgs (f := fv) (Q := fun r a k m mu => MtA C k m mu a (call fv ([] ++ r.pos) r.kw) Q) h hp s A E hA S ha) (fun r s₁ ⟨k₁, m₁, mu₁, af, S₁, q⟩ => ⟨S₁.ok.prog.grow fun b o _ e => S₁.keep b o e, ?_⟩) fun _ _ e => e)
  exact wpAny_mono (q s₁ A E hA S₁ rfl) (fun v s₂ ⟨k₂, m₂, mu₂, af₂, S₂, q₂⟩ => ⟨k₂, m₂, mu₂, af.trans af₂, S₂, q₂⟩) fun _ _ e => e
theorem Mt_truthy_list {l : Addr} {o : Obj} {vs : List Value} {Q : Bool → Kn → Lm → Mu → Prop} (ha : At k mu l o) (hl : OList o vs) (hsz : vs.length ≤ 2 ^ 20) (h : Q (decide (vs ≠ [])) k m mu) : Mt C k m mu (truthy (.ref l)) Q := by
  refine Mt_of (fun s A E R hA S hR => ?_) h
  refine wpAny_truthy_list (hl.isList (S.at ha)) (by simp; omega) ?_
  have e : (!vs.toArray.isEmpty) = decide (vs ≠ []) := by cases vs <;> simp
  rw [e]
  exact hR _
end
theorem bind_lcaA (w : World) (a b c d : Value) : bindArgs (fdOf (obK w 103)) ⟨[a, b, c, d], []⟩ = .load 96 none (unload (bindArgs (fdOf (obK w 103)) ⟨[a, b, c, d], []⟩)) := by kernel_rfl
theorem bind_lcaB (w : World) (a b c d : Value) : unload (bindArgs (fdOf (obK w 103)) ⟨[a, b, c, d], []⟩) (obK w 96) = .pure [(("G" : Str), a), (("node1" : Str), b), (("node2" : Str), c), (("default" : Str), d)] := by kernel_rfl
theorem look_96 (w : World) : (KF w).lookup 96 = some (obK w 96) := by kernel_rfl
theorem rows_one (pb : Int → List Int) (p : Int × Int) : (HasC pb p → rowsOf pb (dd [p]) = [p]) ∧ (¬ HasC pb p → rowsOf pb (dd [p]) = []) := by
  have e : dd [p] = [p] := rfl
  rw [e]
  unfold rowsOf
  constructor <;> intro h <;> simp [h]
theorem lca_mv {w : World} {n : Nat} {k : Kn} {a : Aux} {g gd nd ad pd : Addr} {nodes : List Int} {nb pb : Int → List Int} {rk : Int → Nat} {B : Nat} (D : GData w k g gd nd ad pd nodes nb pb rk B) (hac : Acyc nodes nb) (hne : nodes ≠ []) (hcode : CodeTab k a.2) {x y : Int} {tx ty : Tok} {dflt : Value} (hx : x ∈ nodes) (hy : y ∈ nodes) :
    MvA w (n + 10) k [] a (call (.ref 103) [.ref g, .int x tx, .int y ty, dflt]) (fun r a' k' mu' => CodeTab k' a'.2 ∧ (AllBare a.1 → AllBare a'.1) ∧ ((∃ c t, r = .int c t ∧ Lca nb pb x y c) ∨ (¬ HasC pb (x, y) ∧ r = dflt))) := by
  refine MvA_fn (n := n + 9) (fn_lca w) ?_
  rw [bind_lcaA]
  refine Ev_load (look_96 w) ?_
  rw [bind_lcaB]
  refine Ev_pure eqG_ok ⟨by kernel_rfl, fun base L => ?_⟩
  refine MtA_cons (MtA_Assign rfl (MtA_CallA rfl (Mt_nameB (v := .type "list") (by kernel_rfl) (by kernel_rfl) (by decide) ⟨keeps_type _, MtA_spliced_cons rfl (MtA_CallK rfl (Mt_nameG (v := .ref 95) (by kernel_rfl) ⟨keeps_text (by kernel_rfl), ?_⟩))⟩)))
  refine Mt_spliced_cons (Mt_nameL rfl (Mt_spliced_nil (Mt_List (Mt_spliced_cons (Mt_Tuple (Mt_spliced_cons (Mt_nameL rfl (Mt_spliced_cons (Mt_nameL rfl (Mt_spliced_nil (Mt_newTuple fun T oT kT hT hoT => ?_)))))))))))
  refine Mt_spliced_nil (Mt_newList fun Lx oL kL hTL hoL => ?_)
  have le1 := (Kn.le_put (o := oT) kT).trans (Kn.le_put (o := oL) kL)
  have hp : IsPair ((k.put T oT).put Lx oL) (x, y) (.ref T) := ⟨T, oT, _, _, rfl, Kn.le_put kL _ _ (Kn.put_self _ _ _), hoT, ⟨tx, rfl⟩, ⟨ty, rfl⟩⟩
  refine MtA_mv (mu1 := []) (mu2 := []) (MvA_mono (ap_handed (n := n + 5) (D.le le1) hac hne (CodeTab.le hcode le1) (Kn.put_self _ _ _) hoL (Are.cons Are.nil hp) (by simp) (fun q hq => by simp at hq; subst hq; exact ⟨hx, hy⟩) (.inr ⟨rfl, rfl⟩)) ?_)
  rintro v a2 k2 muG le2 ⟨go, oa, gs, tab, rfl, hgo, hoa, rfl, hct, hbare, hgen⟩ - -
  refine Mt_spliced_nil (MtA_listGen (n := n + 6) (g := a.1.size) (Row := RowOk nb pb) (rows := rowsOf pb (dd [(x, y)])) RowOk.le rfl hgo hoa ⟨gs, k2, by simp, Kn.Le.refl _, hgen n⟩ ?_ fun k3 a3 S o vs le3 ha3 hTS ho hvs => ?_)
  · by_cases h : HasC pb (x, y)
    · rw [(rows_one pb _).1 h]; simp
    · rw [(rows_one pb _).2 h]; simp
  refine Mt_frz (l1 := []) fun kS leS => Mt_setL ?_
  have hc3 : CodeTab (k3.put S o) a3.2 := by rw [ha3.1]; exact hct.le (le3.trans leS)
  have hab3 : AllBare a.1 → AllBare a3.1 := fun hab => ha3.2 (AllBare.push hab hbare)
  by_cases h : HasC pb (x, y)
  · rw [(rows_one pb _).1 h] at hvs
    obtain ⟨v, hv, hrow⟩ := hvs.get (i := 0) (x := (x, y)) rfl
    have hvs1 : vs = [v] := by
      have := hvs.1
      match vs, this, hv with
      | [u], _, hv => simp at hv; rw [hv]
    subst hvs1
    obtain ⟨t1, o1, t2, o2, p1, p2, c, cv, rfl, h1, h2, h3, h4, -, -, ⟨tc, rfl⟩, hl⟩ := hrow
    refine MtA_consM rfl (Mt_If (Mt_isTrue_plain rfl (Mt_nameL (Lm.set_self _ _ _) (Mt_truthy_list (.inl (Kn.put_self _ _ _)) ho (by simp) ?_))))
    rw [if_pos (by simp)]
    refine Mt_cons (Mt_Assert (Mt_isTrue_Compare (Mt_Call (Mt_nameB (v := .builtin "len") (by kernel_rfl) (by kernel_rfl) (by decide) ⟨keeps_builtin _, Mt_spliced_cons (Mt_nameL (Lm.set_self _ _ _) (Mt_spliced_nil ?_))⟩))))
    refine Mt_len_list (.inl (Kn.put_self _ _ _)) ho (fun t => Mt_int fun t0 => Mt_eq_int (Mt_truthy_bool ⟨rfl, ?_⟩)) (by simp)
    refine Mt_cons (Mt_Return (Mt_Subscript (Mt_Subscript (Mt_nameL (Lm.set_self _ _ _) (Mt_int fun t0 => Mt_sub_list (i := 0) (.inl (Kn.put_self _ _ _)) ho rfl (by decide) (Mt_int fun t1' => Mt_sub_tup (i := 1) (.inl (leS _ _ h1)) h2 rfl (by decide) ?_))))))
    exact ⟨[], List.Sublist.refl _, hc3, hab3, .inl ⟨c, tc, rfl, hl⟩⟩
  · rw [(rows_one pb _).2 h] at hvs
    have hvs0 : vs = [] := List.length_eq_zero_iff.mp hvs.1.symm
    subst hvs0
    refine MtA_consM rfl (Mt_If (Mt_isTrue_plain rfl (Mt_nameL (Lm.set_self _ _ _) (Mt_truthy_list (.inl (Kn.put_self _ _ _)) ho (by simp) ?_))))
    rw [if_neg (by simp)]
    refine Mt_nil (MtA_consM rfl (Mt_Return (Mt_nameL (Lm.up rfl) ?_)))
    exact ⟨[], List.Sublist.refl _, hc3, hab3, .inr ⟨h, rfl⟩⟩
end Mine

-- MR
namespace Mine
/-! a comprehension that turns the generators -/
section
variable {C : Cx} {k : Kn} {m : Lm} {mu : Mu} {a : Aux}
def CompInA (C : Cx) (e : PySem.Expr) (scope : Scope) (it : Value) (accObj : Obj) (m : Lm) (muI mu : Mu) (a : Aux) (k : Kn) (Q : Value → Aux → Kn → Prop) : Prop :=
  ∀ (D L : Addr) (base : Heap), TB < D → C.base.get? D = none → MtCA (ccx C scope L base k) k (cmap scope m) ((D, accObj) :: muI) a (.compStart e 0 it (.ref D) (cenvOf scope C.env L)) (fun _ a' k' _ mu' => ∃ oD, (D, oD) ∈ mu' ∧ (k' D = none → Q (.ref D) a' (k'.put D oD)))

theorem compRunA {e : PySem.Expr} {scope : Scope} {pos : Pos} {newAcc first : Sem Value} {accObj : Obj} {g : Comprehension} {gs : List Comprehension} {Q : Value → Aux → Kn → Lm → Mu → Prop} {use : Option (Value → Sem Unit)}
    {R : Value → Shared → Prop} {s : Shared} {A : Around} {E : Value → Shared → Prop} (hA : OkA C.n A) (S : Stt C k m mu s.heap) (ha : aux s = a)
    (hcl : clausesOf e = g :: gs) (hs : ∀ x, foldedSetIterable g.iter C.env x = pure x) (hkd : scope.kind = .function) (hnm : namesOk scope.names = true) (hfr : freeOk scope.names C.env = true)
    (hacc : ∀ (s : Shared) (A : Around) (E : Value → Shared → Prop) (R : Value → Shared → Prop), R (.ref s.heap.objs.size) { s with heap := s.heap.push accObj } → wpAny (model P C.w) A newAcc R E s) (hnf : accObj.isFreed = false)
    (h : MtA C k m mu a first (fun x a k m mu => MtA C k m mu a (pyIter x) (fun it a k m muI' => ∃ muI mu, muI' = muI ++ mu ∧ CompInA C e scope it accObj m muI mu a k (fun v a k => Q v a k m mu))))
    (hR : ∀ (v : Value) (k' : Kn) (m' : Lm) (mu' : Mu) (s' : Shared) (cenv : Env) (ml : Lm), AfterX s s' → Stt C k' m' mu' s'.heap → Q v (aux s') k' m' mu' → cenv.scope.kind = .function → s'.heap.Ns cenv.locals ml →
      C.base.get? cenv.locals = none → k' cenv.locals = none → (∀ p ∈ mu', p.1 ≠ cenv.locals) → (∀ a, C.own a → a ≠ cenv.locals) → cenv.locals ≠ TB →
      (∀ x ∈ compVars scope, x.2 = .local → cenv.kindOf x.1 = some .local) → ∀ (ca : List Value) (co : List (Str × NameKind) → List Value),
      wpAny (model P C.w) A (match use with
        | none => do holding [v] (comprehension.letGo cenv co (compVars scope).reverse); pure v
        | some u => do
          rule "comprehension.stores-exchanged"
          holding ca (u v)
          comprehension.letGo cenv co ((compVars scope).reverse.drop 1 ++ (compVars scope).reverse.take 1)
          pure .none) R E s') :
    wpAny (model P C.w) A (comprehension e scope C.env pos newAcc false first use) R E s := by
  unfold comprehension
  refine wpAny_bind (wpAny_mono (h s A E hA S ha) (fun x s₁ ⟨k₁, m₁, mu₁, af₁, S₁, q₁⟩ => ?_) fun _ _ e => e)
  refine wpAny_bind (wpAny_standAt ?_)
  rw [hcl]
  refine wpAny_bind (wpAny_of_eq (hs x) ?_)
  refine wpAny_bind (wpAny_holding (wpAny_mono (q₁ s₁ A E hA S₁ rfl) (fun it s₂ ⟨k₂, m₂, mu₂', af₂, S₂, muI, mu₂, hmu, hin⟩ => ?_) fun _ _ e => e))
  subst hmu
  refine wpAny_standIf (wpAny_bind (hacc _ _ _ _ ?_))
  have S₃ := S₂.pushMu hnf
  obtain ⟨g1, g2, g3, g4, g5⟩ := S₂.fresh_none
  refine wpAny_bind (wpAny_closureFor hfr (wpAny_bind (wpAny_newEnv_around ?_)))
  have S₄ := stt_comp (muI := (s₂.heap.objs.size, accObj) :: muI) (mu := mu₂) (scope := scope) (by simpa using S₃) hkd hnm hfr
  have ha4 : aux { s₂ with heap := pushCells ((s₂.heap.push accObj).push { cls := .type "dict", data := .dict #[] }) scope.names } = aux s₂ := by
    obtain ⟨ps, e⟩ := S₂.tab
    exact Prod.ext rfl ((pushCells_keeps _ _ _ _ (Heap.get?_push_of_some _ (Heap.get?_push_of_some _ e))).trans e.symm)
  refine wpAny_holding (wpAny_bind (wpAny_attempt (wpAny_holding (wpAny_run (codeAny_mono (hin s₂.heap.objs.size _ _ S₂.lt_size g1 _ (A.mark none) ⟨hA.handled, hA.depth, hA.units⟩ S₄ ha4) fun r s₅ hr => ?_)))))
  cases r with
  | error x => exact hr.elim
  | ok f =>
    obtain ⟨k₅, m₅, mu₅, af₅, S₅, oD, hD, q⟩ := hr
    replace q := q (S₅.kmu _ hD)
    have nd := S₃.nd
    rw [List.map_cons, List.map_append, List.nodup_cons, List.mem_append] at nd
    have Sb := stt_back (muI := (s₂.heap.objs.size, accObj) :: muI) (mu := mu₂) (oD := oD) (by simpa using S₃) S₅ hD (fun p hp e => nd.1 (.inr (List.mem_map.mpr ⟨p, hp, e⟩))) g4 g1
    have S₃' : Stt C k₂ m₂ ((s₂.heap.objs.size, accObj) :: muI ++ mu₂) (s₂.heap.push accObj) := by simpa using S₃
    obtain ⟨f1, f2, f3, f4, f5⟩ := S₃'.fresh_none
    obtain ⟨ml, hn, _⟩ := S₅.loc
    have k5L : k₅ (s₂.heap.push accObj).objs.size = none := S₅.kown _ (.inl rfl)
    have hLD : (s₂.heap.push accObj).objs.size ≠ s₂.heap.objs.size := by rw [Heap.size_push]; exact Nat.succ_ne_self _
    have aft : AfterX s s₅ := af₁.trans (af₂.trans (AfterX.trans ⟨_, _, _, _, rfl⟩ af₅))
    have all := List.all_eq_true.mp hnm
    have fin := hR (.ref s₂.heap.objs.size) _ m₂ mu₂ s₅ (cenvOf scope C.env (s₂.heap.push accObj).objs.size) ml aft Sb q hkd hn f1 (by rw [Kn.put_ne _ hLD]; exact k5L) (fun p hp => f3 p (by simp [hp])) f4 (Ne.symm f5)
      (fun x hx hl => by
        have hx' := (List.mem_filter.mp hx).1
        have := all _ hx'
        show (mapNames C.env scope.names).lookup x.1 = some .local
        rw [mapNames_lookup]
        have : scope.names.lookup x.1 = some .local := by rw [hl] at this; simpa using this
        rw [this]; rfl)
    cases use with
    | none => exact fin [] _
    | some u => exact fin _ _
/-- it is bound to a local -/
theorem MtA_Assign_swap {elt target iter : PySem.Expr} {ifs : List PySem.Expr} {rest : List Comprehension} {scope : Scope} {cpos pos pos' : Pos} {x : Str} {Q : Flow → Aux → Kn → Lm → Mu → Prop}
    (h : MtA C k m mu a (eval iter C.env) (fun xv a k m mu => MtA C k m mu a (pyIter xv) (fun it a k m muI' => ∃ muI mu, muI' = muI ++ mu ∧ CompInA C (.ListComp elt (⟨target, iter, ifs, 0⟩ :: rest) scope cpos) scope it lst0 m muI mu a k (fun v a k => Q .next a k (m.set x v) mu))))
    (hsw : swapsWith (.ListComp elt (⟨target, iter, ifs, 0⟩ :: rest) scope cpos) (some (.Name x pos')) pos.line C.env = pure true := by rfl) (hx : C.env.kindOf x = some .local := by rfl)
    (hs : ∀ x, foldedSetIterable iter C.env x = pure x := by intro _; rfl) (hkd : scope.kind = .function := by rfl) (hnm : namesOk scope.names = true := by decide) (hfr : freeOk scope.names C.env = true := by rfl) :
    MtA C k m mu a (exec (.Assign [.Name x pos'] (.ListComp elt (⟨target, iter, ifs, 0⟩ :: rest) scope cpos) pos) C.env) Q := by
  show MtA C k m mu a (do
    standAt pos
    if ← swapsWith (.ListComp elt (⟨target, iter, ifs, 0⟩ :: rest) scope cpos) (some (.Name x pos')) pos.line C.env then do
      (do let _ ← comprehension (.ListComp elt (⟨target, iter, ifs, 0⟩ :: rest) scope cpos) scope C.env iter.pos (newList []) false (eval iter C.env) (some fun v => assign (.Name x pos') C.env v))
      pure .next
    else do
      let v ← eval (.ListComp elt (⟨target, iter, ifs, 0⟩ :: rest) scope cpos) C.env
      assignStores C.env v (← swappedStores [.Name x pos'] (.ListComp elt (⟨target, iter, ifs, 0⟩ :: rest) scope cpos) C.env) ((assignEach [.Name x pos'] C.env).map (·.2))) Q
  refine MtA_at ?_
  rw [hsw]
  refine MtA_bind (MtA_pure ?_)
  simp only [if_true]
  intro s A E hA S ha
  refine wpAny_bind (wpAny_bind (compRunA (C := C) (Q := fun v a k m mu => Q .next a k (m.set x v) mu) hA S ha rfl hs hkd hnm hfr (acc_list C.w) rfl h fun v k' m' mu' s' cenv ml af S' q hk hn h1 h2 h3 h4 h5 h6 ca co => ?_))
  refine wpAny_bind (wpAny_rule (wpAny_bind (wpAny_holding ?_)))
  have hne : cenv.locals ≠ C.env.locals := fun e => h4 _ (.inl rfl) e.symm
  obtain ⟨mL, hnL, hmL⟩ := S'.loc
  refine wpAny_assign_Name (wpAny_storeName_local hx hnL (fun h₂ hn₂ hs₂ => ?_) (by rw [S'.ok.kind]; rfl))
  have S₂ := S'.locals hnL hmL hn₂ hs₂ hx
  refine wpAny_bind (wpAny_comp_letGo hk _ _ ml (fun y hy hl => ?_) (hn.sameBut hs₂ hne) fun h' m'' _ hs' => wpAny_pure (wpAny_pure (wpAny_pure ?_)))
  · refine h6 y ?_ hl
    have : y ∈ (compVars scope).reverse := by
      rcases List.mem_append.mp hy with hy | hy
      · exact List.mem_of_mem_drop hy
      · exact List.mem_of_mem_take hy
    exact List.mem_reverse.mp this
  · refine ⟨k', _, mu', af.trans ⟨h', s'.toks + 1, s'.gens, _, rfl⟩, S₂.dead hs' h1 h2 h3 h4 h5, ?_⟩
    have e1 := hs₂.2 TB fun q => S'.ok.ownT _ (.inl rfl) q.symm
    have e2 := hs'.2 TB (Ne.symm h5)
    have : aux { s' with heap := h', toks := s'.toks + 1 } = aux s' := Prod.ext rfl (e2.trans e1)
    exact this ▸ q
/-- the walk of a generator in it -/
theorem MtCA_loop {c : Code} {t : Sem Fin} {Q : Flow → Aux → Kn → Lm → Mu → Prop} (hq : c.quiet = true) (hu : ∀ A : Around, A.under c = A) (hden : ∀ w, (model P w).den c = t.onRaise fun x => do noteFrame x C.env; theTreesLotGoes x)
    (I : Nat → Aux → Kn → Lm → Mu → Prop)
    (turn : ∀ n a k m mu, I n a k m mu → MtA C k m mu a t (fun fin a k m mu => match fin with | .done f => Q f a k m mu | .again c' => (c' = c ∧ ∃ n', n' < n ∧ I n' a k m mu) ∨ (c'.quiet = true ∧ MtCA C k m mu a c' Q)))
    (n : Nat) (h : I n a k m mu) : MtCA C k m mu a c Q := fun s A hA S ha => by
  refine codeAny_loop' hq (fun n s' => ∃ k m mu, AfterX s s' ∧ Stt C k m mu s'.heap ∧ I n (aux s') k m mu) ?_ n ⟨k, m, mu, AfterX.refl s, S, by rw [ha]; exact h⟩
  rintro n s' ⟨k, m, mu, af, S', hI⟩
  rw [hu, hden]
  refine wpAny_onRaise (wpAny_mono (turn n _ k m mu hI s' A (fun _ _ => False) hA S' rfl) (fun fin s₂ ⟨k', m', mu', af', S₂, q⟩ => ?_) fun _ _ e => e.elim)
  cases fin with
  | done f => exact ⟨k', m', mu', af.trans af', S₂, q⟩
  | again c' =>
    rcases q with ⟨rfl, n', hn, hI'⟩ | ⟨hq', hc⟩
    · exact .inl ⟨rfl, n', hn, k', m', mu', af.trans af', S₂, hI'⟩
    · refine .inr ⟨hq', codeAny_mono (hc s₂ A hA S₂ rfl) fun r s₃ hr => ?_⟩
      cases r with
      | ok f => obtain ⟨k₃, m₃, mu₃, af₃, S₃, q₃⟩ := hr; exact ⟨k₃, m₃, mu₃, (af.trans af').trans af₃, S₃, q₃⟩
      | error e => exact hr
theorem MtCA_block (hG : C.G = EqG) {stmts : List Stmt} {Q : Flow → Aux → Kn → Lm → Mu → Prop} (h : MtA C k m mu a (execs stmts C.env) Q) : MtCA C k m mu a (.block stmts C.env) Q := fun s A hA S ha =>
  codeAny_block (wpAny_mono (h s A (fun _ _ => False) hA S ha) (fun _ _ q => q) fun _ _ e => e.elim)
theorem MtCA_start {e : PySem.Expr} {depth : Nat} {it acc : Value} {g : Comprehension} {Q : Flow → Aux → Kn → Lm → Mu → Prop} (hden : ∃ f, ∀ w, (model P w).den (.compStart e depth it acc C.env) = (compStart e depth it acc C.env).onRaise f) (hu : ∀ A : Around, A.under (.compStart e depth it acc C.env) = A) (hg : (clausesOf e)[depth]? = some g) (hga : g.is_async = 0)
    (h0 : MtCA C k m mu a (.compLoop e depth it acc C.env) Q)
    (h : MtA C k m mu a (pyIter it) (fun it' a' k' m' mu' => MtCA C k' m' mu' a' (.compLoop e depth it' acc C.env) Q)) : MtCA C k m mu a (.compStart e depth it acc C.env) Q := fun s A hA S ha => by
  refine codeAny_of_tree ?_
  obtain ⟨f, hden⟩ := hden
  rw [hden, hu]
  refine wpAny_onRaise ?_
  unfold compStart
  rw [hg]
  simp only [Option.elim, hga, bne_self_eq_false, Bool.false_eq_true, if_false]
  refine wpAny_mono (Q := fun fin s' => match fin with | .done f => False | .again c' => c'.quiet = true ∧ codeAny (model P C.w) A c' (fun r s' => match r with | .ok f => ∃ k' m' mu', AfterX s s' ∧ Stt C k' m' mu' s'.heap ∧ Q f (aux s') k' m' mu' | .error _ => False) s') (E := fun _ _ => False) ?_ (fun fin s' hf => ?_) fun _ _ e => e.elim
  · refine wpAny_bind (wpAny_askSetting ?_)
    dsimp only
    by_cases hf : C.w.params.followText "comprehension-iter-twice" = true
    · rw [show (model P C.w).w = C.w from rfl, if_pos hf]
      exact wpAny_pure ⟨rfl, h0 s A hA S ha⟩
    · rw [show (model P C.w).w = C.w from rfl, if_neg hf]
      refine wpAny_bind (wpAny_rule (wpAny_bind (wpAny_standAt (wpAny_bind (wpAny_mono (h s A (fun _ _ => False) hA S ha) (fun it' s' hq => ?_) fun _ _ e => e)))))
      obtain ⟨k', m', mu', af, S', q⟩ := hq
      refine wpAny_pure ⟨rfl, codeAny_mono (q s' A hA S' rfl) fun r s₃ hr => ?_⟩
      cases r with
      | ok f => obtain ⟨k₃, m₃, mu₃, af₃, S₃, q₃⟩ := hr; exact ⟨k₃, m₃, mu₃, af.trans af₃, S₃, q₃⟩
      | error e => exact hr
  · cases fin with
    | done f => exact hf.elim
    | again c' => exact hf
/-- [row for row in a generator] -/
theorem compGen_in {ρ : Type} {x : Str} {xpos epos ypos : Pos} {iter : PySem.Expr} {scope : Scope} {pos : Pos} {go : Addr} {oa : Obj} {g n : Nat} {muG : Mu} {Row : ρ → Value → Kn → Prop} {rows : List ρ} {QV : Value → Aux → Kn → Prop} (hG : C.G = EqG) (hR : ∀ k k' r v, k.Le k' → Row r v k → Row r v k') (hn : C.n = n + 1) (hk : k go = some oa) (ho : OGen oa g) (hGen : GenAt C.w n Row rows g a k muG) (hsz : rows.length ≤ 2 ^ 20)
    (hx : scope.names.lookup x = some .local) (hd : (x == ("__debug__" : Str)) = false)
    (done : ∀ D k' a' oD vs, TB < D → C.base.get? D = none → k.Le k' → k'.Le (k'.put D oD) → AuxL a a' → OList oD vs → Are (fun r v => Row r v k') rows vs → QV (.ref D) a' (k'.put D oD)) :
    CompInA C (.ListComp (.Name x epos) [⟨.Name x xpos, iter, [], 0⟩] scope pos) scope (.ref go) lst0 m muG mu a k QV := fun D L base hTD hDb => by
  have hkx : (ccx C scope L base k).env.kindOf x = some .local := by
    show (mapNames C.env scope.names).lookup x = some .local
    rw [mapNames_lookup, hx]; rfl
  have loop : MtCA (ccx C scope L base k) k (cmap scope m) ((D, lst0) :: muG) a (.compLoop (.ListComp (.Name x epos) [⟨.Name x xpos, iter, [], 0⟩] scope pos) 0 (.ref go) (.ref D) (cenvOf scope C.env L)) (fun _ a' k' _ mu' => ∃ oD, (D, oD) ∈ mu' ∧ (k' D = none → QV (.ref D) a' (k'.put D oD))) := by
    refine MtCA_perm (mu' := muG ++ [(D, lst0)]) (List.perm_append_comm (l₁ := [(D, lst0)]) (l₂ := muG)) ?_
    refine MtCA_loop (C := ccx C scope L base k) (t := compTurn (.ListComp (.Name x epos) [⟨.Name x xpos, iter, [], 0⟩] scope pos) 0 (.ref go) (.ref D) (cenvOf scope C.env L)) rfl (fun A => Around.under_of_weight rfl) (fun w => rfl)
      (fun q a' k' m' mu' => ∃ i oD vs muG', q = rows.length - i ∧ i ≤ rows.length ∧ mu' = muG' ++ [(D, oD)] ∧ k.Le k' ∧ AuxL a a' ∧ GenAt C.w n Row (rows.drop i) g a' k' muG' ∧ OList oD vs ∧ Are (fun r v => Row r v k') (rows.take i) vs) ?_ _ ⟨0, lst0, [], muG, rfl, Nat.zero_le _, rfl, Kn.Le.refl _, AuxL.refl _, by simpa using hGen, lst0_OList, Are.nil⟩
    rintro q a1 k1 m1 mu1 ⟨i, oD, vs, muG1, rfl, hle, rfl, le, ha, hG1, hD, hvs⟩
    rw [compTurn_L1]
    refine MtA_at (MtA_bind ?_)
    rcases Nat.lt_or_ge i rows.length with hlt | hge
    · have hdr : rows.drop i = rows[i] :: rows.drop (i + 1) := List.drop_eq_getElem_cons hlt
      have hxi : rows[i]? = some rows[i] := by simp [hlt]
      generalize rows[i] = r at *
      rw [hdr] at hG1
      refine MtA_next_gen (C := ccx C scope L base k) (n := n) hR hn (le _ _ hk) ho hG1 fun k2 muG2 a2 v le2 hr2 hG2 ha2 => ?_
      dsimp only
      refine MtA_bindM (C := ccx C scope L base k) hG ?_
      show Mt _ _ _ _ (pure ()) _
      refine Mt_pure (MtA_bindM (C := ccx C scope L base k) hG (Mt_toL (C := ccx C scope L base k) (MtA_bindM (C := ccx C scope L base k) hG (Mt_tests_nil (C := ccx C scope L base k) ?_)) hkx))
      simp only [if_true]
      have hl := hvs.1
      rw [List.length_take] at hl
      refine MtA_bindM (C := ccx C scope L base k) hG (Mt_bind (Mt_nameL (C := ccx C scope L base k) (Lm.set_self _ _ _) (Mt_bind (Mt_append (C := ccx C scope L base k) (l1 := muG2) (l2 := []) rfl hD (by omega) fun o' ho' => Mt_pure (MtA_pure (.inl ⟨rfl, ?_⟩)))) hkx hd))
      refine ⟨rows.length - (i + 1), by omega, i + 1, o', _, muG2, rfl, by omega, rfl, le.trans le2, ha2.trans ha, hG2, ho', ?_⟩
      rw [List.take_add_one, hxi]
      exact (hvs.mono fun r _ v h => hR _ _ _ _ le2 h).push hr2
    · have hie : i = rows.length := by omega
      subst hie
      rw [List.drop_eq_nil_of_le (Nat.le_refl _)] at hG1
      rw [List.take_of_length_le (Nat.le_refl _)] at hvs
      refine MtA_next_gen_end (C := ccx C scope L base k) (n := n) hn (le _ _ hk) ho hG1 fun k2 muG2 a2 le2 ha2 => ?_
      dsimp only
      exact MtA_pure ⟨oD, by simp, fun kD => done D k2 a2 oD vs hTD hDb (le.trans le2) (Kn.le_put kD) (ha2.trans ha) hD (hvs.mono fun r _ v h => hR _ _ _ _ le2 h)⟩
  refine MtCA_start (C := ccx C scope L base k) ⟨_, fun w => rfl⟩ (fun A => Around.under_of_weight rfl) rfl rfl loop ?_
  exact MtA_pyIter_gen (C := ccx C scope L base k) hk ho loop
end
end Mine

-- MS
namespace Mine
/-! with a circle: refused -/
abbrev NXE : Addr := 44
abbrev excB : List Value := [.type "Exception", .type "BaseException", .type "object"]
theorem nxe_in (w : World) : excIn (KF w) NXE excB "Exception.__new__" = true := by kernel_rfl
theorem nxe_name (w : World) : nsIn (KF w) mainGlobals "NetworkXError" = some (some (.ref NXE)) := by kernel_rfl
theorem own_nxe {w : World} {h : Heap} (hP : Prog w h) : ∃ mg, OwnCls "NetworkXError" NXE excB "Exception.__new__" mg h := by
  obtain ⟨hb, p, lo, me, mg, mb, a1, a2, a3, a4⟩ := hP.ex
  exact ⟨mg, (own_of_in a1 (topRead_of a2) (nxe_name w) (nxe_in w)).keeps a4⟩
section
variable {C : Cx} {k : Kn} {m : Lm} {mu : Mu} {A : Around} {E : Value → Shared → Prop} {s : Shared}
theorem If_yes {test body orelse pos} {Q : Flow → Shared → Prop} (hA : OkA C.n A) (S : Stt C k m mu s.heap) (h : Mt C k m mu (isTrue test C.env (eval test C.env)) (fun b k' m' mu' => b = true ∧ ∀ s', After C.G s s' → Stt C k' m' mu' s'.heap → wpAny (model P C.w) A (execs body C.env) Q E s')) :
    wpAny (model P C.w) A (exec (.If test body orelse pos) C.env) Q E s := by
  rw [exec_If]
  refine wpAny_bind (wpAny_standAt (wpAny_bind (wpAny_mono (h s A E hA S) (fun b s' ⟨k', m', mu', af, S', e, q⟩ => ?_) fun _ _ e => e)))
  subst e
  exact q s' af S'
theorem execs_first {st : Stmt} {rest : List Stmt} {env : Env} {Q : Flow → Shared → Prop} {w : World} (h : wpAny (model P w) A (exec st env) (fun _ _ => False) E s) : wpAny (model P w) A (execs (st :: rest) env) Q E s := by
  rw [execs_cons]
  exact wpAny_bind (wpAny_mono h (fun _ _ x => x.elim) fun _ _ e => e)
theorem Raise_nxe {np cpos pos p2 : Pos} {kd : Nat} {c : Str} {Q : Flow → Shared → Prop} (hA : OkA C.n A) (S : Stt C k m mu s.heap)
    (hE : ∀ s₂ h' e vs, After C.G s s₂ → Stt C k m mu s₂.heap → Heap.MadeExcOf s₂.heap h' e (.ref NXE) vs → E (.ref e) { s₂ with heap := h' })
    (hg : C.env.globals = mainGlobals := by rfl) (hx : C.env.kindOf "NetworkXError" = some .globalImplicit := by rfl) :
    wpAny (model P C.w) A (exec (.Raise (some (.Call (.Name "NetworkXError" np) [.Constant (.str c) kd p2] [] cpos)) none pos) C.env) Q E s := by
  obtain ⟨mg, O⟩ := own_nxe S.ok.prog
  obtain ⟨tl, N, nm, q, bs, hdct, sn, sub, ab, col, dd, k0, k1, k2, k3, k5, mN, hC, hN, hni, T⟩ := O.obj
  refine wpAny_Raise_call_subT (C := NXE) (nm := nm) (q := q) (N := N) (bs := bs) (bm := tl) (hdct := hdct) (sn := sn) (sub := sub) (ab := ab) (col := col) (dd := dd) (k0 := k0) (k1 := k1) (k2 := k2) (k3 := k3) (k5 := k5)
    PySem.F.excBase_Exception (mN := mN) (T.hasType PySem.F.excBase_Exception.hasBase) hA.handled rfl hni ?_
  refine wpAny_mono (Mt_nameG (v := .ref NXE) (Q := fun v k' m' mu' => v = .ref NXE ∧ k' = k ∧ m' = m ∧ mu' = mu) (nxe_name _) ⟨rfl, rfl, rfl, rfl⟩ hg hx (by decide) s A E hA S) (fun v s₁ ⟨k1', m1, mu1, af1, S1, e1, e2, e3, e4⟩ => ?_) fun _ _ e => e
  subst e1 e2 e3 e4
  refine ⟨rfl, wpAny_mono (Mt_evalArgs (f := .ref NXE) (Q := fun a k' m' mu' => (∃ t, a = ⟨[.str c t], []⟩) ∧ k' = k1' ∧ m' = m1 ∧ mu' = mu1) (Mt_spliced_cons (Mt_str fun t => Mt_spliced_nil ⟨⟨t, rfl⟩, rfl, rfl, rfl⟩)) rfl s₁ A E hA S1) (fun a s₂ ⟨k2', m2, mu2, af2, S2, ⟨t, e1⟩, e2, e3, e4⟩ => ?_) fun _ _ e => e⟩
  subst e1 e2 e3 e4
  refine ⟨rfl, by simp; decide +kernel, S2.keep _ _ hC, hN.keeps S2.keep, T.keeps S2.keep, fun h' e hm => hE s₂ h' e _ (S.ok.after_trans af1 af2) S2 hm⟩
/-- the call of all_pairs raises -/
theorem ap_raise {w : World} {n : Nat} {k : Kn} {g gd nd ad pd : Addr} {nodes : List Int} {nb pb : Int → List Int} (K : GK w k g gd nd ad pd nodes nb pb) (hac : ¬ Acyc nodes nb) {s : Shared} {A : Around} {E : Value → Shared → Prop} {Q : Value → Shared → Prop} (hA : OkA (n + 4) A) (hP : Prog w (hideAll s.heap [TB])) (hT : TabOk s.heap) (hk : k.In s.heap) (hkT : k TB = none)
    {B : Heap} {outer : List Env} (hfr : A.frames = some outer) (hst : B.StaysIn s.heap) (hff : s.heap.FunFrames B outer)
    (hE : ∀ s' e t, Heap.FlyingW B outer e (.ref NXE) (.ref t) s'.heap → s'.gens = s.gens → s'.os = s.os → E (.ref e) s') : wpAny (model P w) A (call (.ref 95) [.ref g]) Q E s := by
  have subP : (hideAll s.heap [TB]).StaysIn s.heap := fun b o e => of_hideAll _ e
  have hP' : Prog w s.heap := hP.grow fun b o _ e => subP b o e
  have f := fn_ap w
  have ho := hP'.K 95 _ f.look
  refine wpAny_call (codeAny_call_function hA.room ho f.data (by rw [f.scope]; exact f.co) (by rw [f.scope]; exact f.gen) f.body (by rw [f.code, f.qualn]; exact codeRec_of hP'.K f.codein) ?_)
  have hb : Ev w (n + 3) EqG k (bindArgs (fdOf (obK w 95)) ⟨[.ref g], []⟩) (fun binds k' => binds = [(("G" : Str), .ref g), (("pairs" : Str), .none)] ∧ k' = k) := by
    rw [bind_ap1a]
    refine Ev_load (look_90 w) ?_
    rw [bind_ap1b]
    exact Ev_pure eqG_ok ⟨rfl, rfl⟩
  refine wpAny_mono (hb s A.in1 _ (hA.in1) hP' hT hk hkT) (fun binds s₁ ⟨k', af, gr, kin, le, old, e1, e2⟩ => ?_) fun _ _ e => e
  subst e1 e2
  have hT₁ := af.tab.ok hT
  have hP₁ : Prog w (hideAll s₁.heap [TB]) := hP.grow fun b o hbT e => hideAll_get _ (gr b o hbT (subP b o e)) (by simpa using hbT)
  rw [f.scope, f.qualn, f.code, f.clo, f.glob, f.bi]
  refine wpAny_newFunctionEnv_cells f.kind (kindsX (by kernel_rfl) _) fun env' he s₂ x => ?_
  subst he
  have S := stt_enterM (w := w) (n := n + 3) (G := EqG) (cdv := cdOf w 95) (a := 95) (qual := apQ) (mu := []) (sc := scopeOf (stAt 11)) eqG_ok hP₁ hT₁ kin hkT (fun p hp => (nomatch hp)) (fun p hp => (nomatch hp)) List.nodup_nil (fun p hp => (nomatch hp)) f.kind f.cells x
  obtain ⟨h₂, tk₂, rfl, keep⟩ := x.done
  refine ⟨(hP₁.grow fun b o _ e => of_hideAll _ e).nolimit.keeps keep, codeAny_func ?_⟩
  rw [ap_body]
  refine execs_first (If_yes (hA.deeper _) S (Mt_isTrue_not (Mt_isTrue_plain rfl (Mt_Call (Mt_nameG (v := .ref 89) (by kernel_rfl) ⟨keeps_text (by kernel_rfl), Mt_spliced_cons (Mt_nameL rfl (Mt_spliced_nil ?_))⟩)))))
  refine Mt_ev (Ev_mono (isdag_ev (n := n) eqG_ok K) ?_)
  rintro v k1 - ⟨b, rfl, hb2⟩ le1
  have : b = false := by cases b with
    | false => rfl
    | true => exact absurd (hb2.mp rfl) hac
  subst this
  refine Mt_truthy_bool ⟨rfl, fun s₃ af₃ S₃ => execs_first (Raise_nxe (hA.deeper _) S₃ fun s₄ h' e vs af₄ S₄ hm => ?_)⟩
  have tg : TabG s.heap s₄.heap := af.tab.trans (TabG.trans (fun ps e => keep _ _ e) (af₃.tab.trans af₄.tab))
  have kp : ∀ b o, s.heap.get? b = some o → s₄.heap.get? b = some o := fun b o e => by
    by_cases hb : b = TB
    · rw [hb] at e ⊢
      rw [tg.get hT]; exact e
    · exact S₄.keep b o (hideAll_get _ (gr b o hb e) (by simpa using hb))
  have hB4 : B.StaysIn s₄.heap := fun b o e => kp b o (hst b o e)
  have hgo : s₄.gens = s.gens ∧ s₄.os = s.os := by
    obtain ⟨_, _, _, ⟨_, rfl⟩, g1, _⟩ := af
    obtain ⟨_, _, _, ⟨_, rfl⟩, g3, _⟩ := af₃
    obtain ⟨_, _, _, ⟨_, rfl⟩, g4, _⟩ := af₄
    exact ⟨(show _ = _ from g4).symm.trans ((show _ = _ from g3).symm.trans (show _ = _ from g1).symm), rfl⟩
  obtain ⟨ml, hn, _⟩ := S₄.loc
  refine wpAny_leaves_madeW (base := B) (outer := outer) (Around.frames_deeper hfr) rfl hB4 ?_ hm fun h'' t x1 x2 x3 x4 => hE _ _ t x1 hgo.1 hgo.2
  refine Heap.FunFrames.cons (show (scopeOf (stAt 11)).kind ≠ .module by rw [f.kind]; simp) rfl hn ?_ ?_
  · show B.get? s₁.heap.objs.size = none
    cases e : B.get? s₁.heap.objs.size with
    | none => rfl
    | some o =>
      have hs := hst _ o e
      have hne : s₁.heap.objs.size ≠ TB := fun q => by
        obtain ⟨ps, e'⟩ := hT₁
        have := Heap.lt_size e'
        rw [← q] at this; exact Nat.lt_irrefl _ this
      have := gr _ o hne hs
      rw [fresh_size] at this; cases this
  · refine hff.of_keeps fun b o e hd => ⟨o, kp b o e, rfl⟩
end
end Mine

-- MT
namespace Mine
section
variable {C : Cx} {k : Kn} {m : Lm} {mu : Mu} {A : Around} {E : Value → Shared → Prop} {s : Shared}
theorem retTrue {w : World} {env : Env} {kd : Nat} {p1 p2 : Pos} {rest : List Stmt} {b : Bool} {Q : Flow → Shared → Prop} (h : Q (.ret (.bool b)) s) : wpAny (model P w) A (execs (.Return (some (.Constant (.bool b) kd p1)) p2 :: rest) env) Q E s := by
  rw [execs_cons, exec_Return_some]
  exact wpAny_bind (wpAny_bind (wpAny_standAt (wpAny_bind (wpAny_pure (wpAny_pure (wpAny_pure h))))))
/-- what all_pairs raises is caught -/
theorem Try_caught {body orelse : List Stmt} {np pos pos' : Pos} {b₀ : Stmt} {suite : List Stmt} {rest : List ExceptHandler} {outer : List Env} {Q : Flow → Shared → Prop} {L : Addr} (ok : C.Ok) (hfr : A.frames = some (C.env :: outer)) (hL : C.env.frame = some L)
    (h : wpAny (model P C.w) A (execs body C.env) (fun _ _ => False) (fun x s' => ∃ B e t, x = .ref e ∧ C.base.StaysIn B ∧ TabOk B ∧ Heap.FlyingW B (C.env :: outer) e (.ref NXE) (.ref t) s'.heap ∧ s'.gens = s.gens ∧ s'.os = s.os) s)
    (hs : ∀ A' E' s', C.base.StaysIn s'.heap → TabOk s'.heap → s'.gens = s.gens → s'.os = s.os → wpAny (model P C.w) A' (execs (b₀ :: suite) C.env) Q E' s')
    (hg : C.env.globals = mainGlobals := by rfl) (hx : C.env.kindOf "NetworkXError" = some .globalImplicit := by rfl) :
    wpAny (model P C.w) A (exec (.Try body (.ExceptHandler (some (.Name "NetworkXError" np)) none (b₀ :: suite) pos' :: rest) orelse [] pos) C.env) Q E s := by
  refine wpAny_Try_except (wpAny_mono h (fun _ _ x => x.elim) fun x s₁ ⟨B, e, t, hx1, hBb, hBT, hfl, hg1, ho1⟩ => ?_)
  subst hx1
  refine wpAny_looks_onW hfr hL hfl fun h₂ hheld _ => ?_
  refine wpAny_landsW hheld fun h₃ hfl₃ _ => ?_
  obtain ⟨ob, hob, hobc⟩ := hfl₃.there
  have hP : Prog C.w h₃ := ok.prog.grow fun b o _ q => hfl₃.1 b o (hBb b o q)
  obtain ⟨hb, p, lo, me, mg, mb, a1, a2, a3, a4⟩ := hP.ex
  refine wpAny_handleBy_cons (codeAny_handlers_test (wpAny_Name ?_ (by decide))) (by intro q; cases q)
  rw [loadName_read ok.kind hx]
  refine loadGlobal_global (mg := mg) (by rw [hg]; exact a2.g.keeps a4) (mg_of a1 a2.g (nxe_name _)) ?_
  obtain ⟨mg2, O⟩ := own_nxe hP
  obtain ⟨tl, N, nm, q, bs, hdct, sn, sub, ab, col, dd, k0, k1, k2, k3, k5, mN, hC, hN, hni, T⟩ := O.obj
  refine wpAny_excMatches_sub_self hC hob hobc (T.hasType PySem.F.excBase_Exception.hasBase) (codeAny_handlers_suite ?_)
  refine lands_againW hfl₃ fun h₄ hfl₄ _ => ?_
  exact hs _ _ _ (fun b o q => hfl₄.1 b o (hBb b o q)) (let ⟨ps, q⟩ := hBT; ⟨ps, hfl₄.1 _ _ q⟩) hg1 ho1
theorem comp_raise {x : Str} {elt target iter : PySem.Expr} {ifs : List PySem.Expr} {rest : List Comprehension} {scope : Scope} {cpos pos pos' : Pos} {Q : Flow → Shared → Prop} {w : World} {env : Env} (h : wpAny (model P w) A (eval iter env) (fun _ _ => False) E s)
    (hsw : swapsWith (.ListComp elt (⟨target, iter, ifs, 0⟩ :: rest) scope cpos) (some (.Name x pos')) pos.line env = pure true := by rfl) :
    wpAny (model P w) A (exec (.Assign [.Name x pos'] (.ListComp elt (⟨target, iter, ifs, 0⟩ :: rest) scope cpos) pos) env) Q E s := by
  show wpAny (model P w) A (do
    standAt pos
    if ← swapsWith (.ListComp elt (⟨target, iter, ifs, 0⟩ :: rest) scope cpos) (some (.Name x pos')) pos.line env then do
      (do let _ ← comprehension (.ListComp elt (⟨target, iter, ifs, 0⟩ :: rest) scope cpos) scope env iter.pos (newList []) false (eval iter env) (some fun v => assign (.Name x pos') env v))
      pure .next
    else do
      let v ← eval (.ListComp elt (⟨target, iter, ifs, 0⟩ :: rest) scope cpos) env
      assignStores env v (← swappedStores [.Name x pos'] (.ListComp elt (⟨target, iter, ifs, 0⟩ :: rest) scope cpos) env) ((assignEach [.Name x pos'] env).map (·.2))) Q E s
  refine wpAny_bind (wpAny_standAt ?_)
  rw [hsw]
  refine wpAny_bind (wpAny_pure ?_)
  simp only [if_true]
  refine wpAny_bind (wpAny_bind ?_)
  unfold comprehension
  exact wpAny_bind (wpAny_mono h (fun _ _ x => x.elim) fun _ _ e => e)
/-- all_pairs(G) of a graph with a circle, in the law's frame -/
theorem call_raise {n : Nat} {gp pos : Pos} {g gd nd ad pd : Addr} {nodes : List Int} {nb pb : Int → List Int} {fp : Pos} (K : GK C.w k g gd nd ad pd nodes nb pb) (hac : ¬ Acyc nodes nb) (hGE : C.G = EqG) (hn : C.n = n + 4) (hA : OkA C.n A) (S : Stt C k m [] s.heap) (hfr : A.frames = some [C.env]) (hL : C.env.frame = some C.env.locals)
    (hG : Mt C k m [] (eval (.Name "G" gp) C.env) (fun v k' m' mu' => v = .ref g ∧ k' = k ∧ m' = m ∧ mu' = []))
    (hg : C.env.globals = mainGlobals := by rfl) (hx : C.env.kindOf "all_pairs_lowest_common_ancestor" = some .globalImplicit := by rfl) :
    wpAny (model P C.w) A (eval (.Call (.Name "all_pairs_lowest_common_ancestor" fp) [.Name "G" gp] [] pos) C.env) (fun _ _ => False) (fun x s' => ∃ B e t, x = .ref e ∧ C.base.StaysIn B ∧ TabOk B ∧ Heap.FlyingW B [C.env] e (.ref NXE) (.ref t) s'.heap ∧ s'.gens = s.gens ∧ s'.os = s.os) s := by
  show wpAny (model P C.w) A (do callWith pos (← eval (.Name "all_pairs_lowest_common_ancestor" fp) C.env) [] (backTo pos (starEach [.Name "G" gp] C.env)) (backToKw pos (keywordEach [] C.env))) _ _ s
  refine wpAny_bind (wpAny_mono (Mt_nameG (v := .ref 95) (Q := fun v k' m' mu' => v = .ref 95 ∧ k' = k ∧ m' = m ∧ mu' = []) (by kernel_rfl) ⟨rfl, rfl, rfl, rfl⟩ hg hx (by decide) s A _ hA S) (fun v s₁ ⟨k1', m1, mu1, af1, S1, e1, e2, e3, e4⟩ => ?_) fun _ _ e => e)
  subst e1 e2 e3 e4
  refine callWith_of (P := Prog C.w) rfl (keeps_text (C := C) (by kernel_rfl)) (wpAny_mono (Mt_evalArgs (f := .ref 95) (Q := fun a k' m' mu' => a = ⟨[.ref g], []⟩ ∧ k' = k1' ∧ m' = m1 ∧ mu' = []) (Mt_spliced_cons (Mt_mono hG fun v k' m' mu' ⟨e1, e2, e3, e4⟩ => Mt_spliced_nil ⟨by rw [e1], e2, e3, e4⟩)) rfl s₁ A _ hA S1) (fun a s₂ ⟨k2', m2, mu2, af2, S2, e1, e2, e3, e4⟩ => ⟨S2.progs, ?_⟩) fun _ _ e => e)
  subst e1 e2 e3 e4
  obtain ⟨ml, hn2, _⟩ := S2.loc
  have hgo : s₂.gens = s.gens ∧ s₂.os = s.os := by
    obtain ⟨_, _, _, ⟨_, rfl⟩, g1, _⟩ := af1
    obtain ⟨_, _, _, ⟨_, rfl⟩, g2, _⟩ := af2
    rw [hGE] at g1 g2
    exact ⟨(show _ = _ from g2).symm.trans (show _ = _ from g1).symm, rfl⟩
  have st : C.base.StaysIn (hideAll s₂.heap [C.env.locals]) := fun b o q => hideAll_get _ (S2.keep b o q) fun hm => by
    rw [List.mem_singleton.mp hm, S2.ok.bown _ (.inl rfl)] at q; cases q
  have tT : TabOk (hideAll s₂.heap [C.env.locals]) := let ⟨ps, q⟩ := S2.tab; ⟨ps, hideAll_get _ q fun hm => S2.ok.ownT _ (.inl rfl) (List.mem_singleton.mp hm).symm⟩
  refine ap_raise (n := n) (s := s₂) (B := hideAll s₂.heap [C.env.locals]) (outer := [C.env]) K hac (hn ▸ hA) (mv_prog (mu1 := []) S2) S2.tab S2.kin S2.kT hfr (fun b o q => of_hideAll _ q) (Heap.FunFrames.cons (by rw [S2.ok.kind]; simp) hL hn2 (hideAll_none _ (.head _)) trivial) fun s' e t hfl hg' ho' => ⟨_, e, t, rfl, st, tT, hfl, hg'.trans hgo.1, ho'.trans hgo.2⟩
end
end Mine

-- SA
namespace Mine
/-! sorting: what the asking tree ends in -/
def Asks {α : Type} (n : Nat) (r : Nat → Int) : KasT α → (α → Prop) → Prop
  | .ret a, Po => Po a
  | .ask i j k, Po => i < n ∧ j < n ∧ Asks n r (k (decide (r i < r j))) Po
theorem Asks.bind {α β : Type} {n : Nat} {r : Nat → Int} {f : α → KasT β} {Po : β → Prop} : ∀ {t : KasT α}, Asks n r t (fun a => Asks n r (f a) Po) → Asks n r (t.bind f) Po
  | .ret _, h => h
  | .ask i j k, ⟨h1, h2, h3⟩ => ⟨h1, h2, Asks.bind h3⟩
theorem Asks.mono {α : Type} {n : Nat} {r : Nat → Int} {Po Po' : α → Prop} (hq : ∀ a, Po a → Po' a) : ∀ {t : KasT α}, Asks n r t Po → Asks n r t Po'
  | .ret a, h => hq a h
  | .ask i j k, ⟨h1, h2, h3⟩ => ⟨h1, h2, Asks.mono hq h3⟩
theorem Asks.wp {α : Type} {n : Nat} {r : Nat → Int} {cmp : Nat → Nat → (Bool → Shared → Prop) → Shared → Prop} {s : Shared} (hc : ∀ i j (C : Bool → Shared → Prop), i < n → j < n → C (decide (r i < r j)) s → cmp i j C s) {Po : α → Prop} {Q : α → Shared → Prop} (hq : ∀ a, Po a → Q a s) : ∀ {t : KasT α}, Asks n r t Po → t.kasWp cmp Q s
  | .ret a, h => hq a h
  | .ask i j k, ⟨h1, h2, h3⟩ => hc i j _ h1 h2 (Asks.wp hc hq h3)
def PermN (n : Nat) (p : Array Nat) : Prop := p.Perm (List.range n).toArray
theorem PermN.size {n : Nat} {p : Array Nat} (h : PermN n p) : p.size = n := by have := h.size_eq; simpa using this
theorem PermN.lt {n : Nat} {p : Array Nat} (h : PermN n p) {x : Nat} (hx : x < n) : p.getD x 0 < n := by
  have hs := h.size
  have hx' : x < p.size := by omega
  have : p[x] ∈ p := Array.getElem_mem hx'
  have e : p.getD x 0 = p[x] := by simp [Array.getD, hx']
  rw [e]
  have := (Array.perm_iff_toList_perm.mp h).mem_iff (a := p[x])
  simp at this
  exact this
theorem PermN.inj {n : Nat} {p : Array Nat} (h : PermN n p) {x y : Nat} (hx : x < n) (hy : y < n) (e : p.getD x 0 = p.getD y 0) : x = y := by
  have hs := h.size
  have hx' : x < p.size := by omega
  have hy' : y < p.size := by omega
  have nd : p.toList.Nodup := (Array.perm_iff_toList_perm.mp h).nodup_iff.mpr (by simpa using List.nodup_range)
  have e1 : p.getD x 0 = p.toList[x]'(by simpa using hx') := by simp [Array.getD, hx']
  have e2 : p.getD y 0 = p.toList[y]'(by simpa using hy') := by simp [Array.getD, hy']
  rw [e1, e2] at e
  exact (List.getElem_inj nd).mp e
section
variable {n : Nat} {r : Nat → Int}
abbrev Ky (r : Nat → Int) (p : Array Nat) (x : Nat) : Int := r (p.getD x 0)
def Up (r : Nat → Int) (p : Array Nat) (k : Nat) : Prop := ∀ i j, i < j → j < k → Ky r p i < Ky r p j
def Down (r : Nat → Int) (p : Array Nat) (k : Nat) : Prop := ∀ i j, i < j → j < k → Ky r p j < Ky r p i
theorem ne_of (hr : ∀ i j, i < n → j < n → r i = r j → i = j) {p : Array Nat} (h : PermN n p) {x y : Nat} (hx : x < n) (hy : y < n) (hne : x ≠ y) : Ky r p x ≠ Ky r p y := fun e => hne (h.inj hx hy (hr _ _ (h.lt hx) (h.lt hy) e))
theorem asc_ok (hr : ∀ i j, i < n → j < n → r i = r j → i = j) {p : Array Nat} (h : PermN n p) : ∀ (f k : Nat), 1 ≤ k → k + f ≤ n → Up r p k → Asks n r (kas_asc p f k) (fun m => k ≤ m ∧ m ≤ k + f ∧ Up r p m ∧ (m = k + f ∨ Ky r p m < Ky r p (m - 1)))
  | 0, k, h1, h2, hu => ⟨Nat.le_refl _, Nat.le_refl _, hu, .inl rfl⟩
  | f + 1, k, h1, h2, hu => by
    refine ⟨h.lt (by omega), h.lt (by omega), ?_⟩
    by_cases hc : r (p.getD k 0) < r (p.getD (k - 1) 0)
    · rw [decide_eq_true hc]
      exact ⟨Nat.le_refl _, by omega, hu, .inr hc⟩
    · rw [decide_eq_false hc]
      have hne := ne_of hr h (x := k) (y := k - 1) (by omega) (by omega) (by omega)
      have hlt : Ky r p (k - 1) < Ky r p k := by show r _ < r _; have : r (p.getD k 0) ≠ r (p.getD (k - 1) 0) := hne; omega
      have hu' : Up r p (k + 1) := fun i j hij hj => by
        by_cases hjk : j < k
        · exact hu i j hij hjk
        · have : j = k := by omega
          subst this
          by_cases hik : i = j - 1
          · subst hik; exact hlt
          · exact Int.lt_trans (hu i (j - 1) (by omega) (by omega)) hlt
      refine Asks.mono (fun m hm => ?_) (asc_ok hr h f (k + 1) (by omega) (by omega) hu')
      exact ⟨by omega, by omega, hm.2.2.1, hm.2.2.2.imp (fun e => by omega) id⟩
theorem desc_ok (hr : ∀ i j, i < n → j < n → r i = r j → i = j) {p : Array Nat} (h : PermN n p) : ∀ (f k : Nat), 1 ≤ k → k + f ≤ n → Down r p k → Asks n r (kas_desc f p k 0) (fun t => t.1 = p ∧ t.2.2 = 0 ∧ k ≤ t.2.1 ∧ t.2.1 ≤ k + f ∧ Down r p t.2.1)
  | 0, k, h1, h2, hd => ⟨rfl, rfl, Nat.le_refl _, Nat.le_refl _, hd⟩
  | f + 1, k, h1, h2, hd => by
    refine ⟨h.lt (by omega), h.lt (by omega), ?_⟩
    by_cases hc : r (p.getD k 0) < r (p.getD (k - 1) 0)
    · rw [decide_eq_true hc]
      have hd' : Down r p (k + 1) := fun i j hij hj => by
        by_cases hjk : j < k
        · exact hd i j hij hjk
        · have : j = k := by omega
          subst this
          by_cases hik : i = j - 1
          · subst hik; exact hc
          · exact Int.lt_trans hc (hd i (j - 1) (by omega) (by omega))
      show Asks n r (kas_desc f p (k + 1) 0) _
      refine Asks.mono (fun t ht => ?_) (desc_ok hr h f (k + 1) (by omega) (by omega) hd')
      exact ⟨ht.1, ht.2.1, by omega, by omega, ht.2.2.2.2⟩
    · rw [decide_eq_false hc]
      have hne := ne_of hr h (x := k) (y := k - 1) (by omega) (by omega) (by omega)
      have hlt : r (p.getD (k - 1) 0) < r (p.getD k 0) := by have : r (p.getD k 0) ≠ r (p.getD (k - 1) 0) := hne; omega
      refine ⟨h.lt (by omega), h.lt (by omega), ?_⟩
      rw [decide_eq_true hlt]
      exact ⟨rfl, rfl, Nat.le_refl _, by show k ≤ k + (f + 1); omega, hd⟩
theorem getD_of {p q : Array Nat} {x y : Nat} (h : p[x]? = q[y]?) : p.getD x 0 = q.getD y 0 := by
  rw [Array.getD_eq_getD_getElem?, Array.getD_eq_getD_getElem?, h]
theorem rev_up {p : Array Nat} (h : PermN n p) {k : Nat} (hk : k ≤ n) (hd : Down r p k) : PermN n (kas_rev p 0 k) ∧ Up r (kas_rev p 0 k) k := by
  refine ⟨(mirror_perm _ _ _ _).trans h, fun i j hij hj => ?_⟩
  have hs := h.size
  have e : ∀ x, x < k → (kas_rev p 0 k).getD x 0 = p.getD (k - 1 - x) 0 := fun x hx => by
    refine getD_of ?_
    have := getElem?_mirror_all (xs := p) (i := 0) (j := k) (by omega) x
    rw [if_pos ⟨Nat.zero_le _, hx⟩] at this
    rw [show kas_rev p 0 k = mirror p 0 k ((k - 0) / 2) from rfl, this]
    congr 1
    omega
  show r _ < r _
  rw [e i (by omega), e j (by omega)]
  exact hd _ _ (by omega) (by omega)
theorem tail3_ok (hr : ∀ i j, i < n → j < n → r i = r j → i = j) {p : Array Nat} (h : PermN n p) {k : Nat} (h1 : 1 ≤ k) (hk : k ≤ n) (hd : Down r p k) : Asks n r (kas_tail3 k n p) (fun t => PermN n t.2 ∧ 1 ≤ t.1 ∧ t.1 ≤ n ∧ Up r t.2 t.1) := by
  unfold kas_tail3
  obtain ⟨hp, hu⟩ := rev_up h hk hd
  refine Asks.bind (Asks.mono (fun m hm => ?_) (asc_ok hr hp (n - k) k h1 (by omega) hu))
  exact ⟨hp, by omega, by omega, hm.2.2.1⟩
theorem count_ok (hr : ∀ i j, i < n → j < n → r i = r j → i = j) {p : Array Nat} (h : PermN n p) (hn : 2 ≤ n) : Asks n r (kas_count n p) (fun t => PermN n t.2 ∧ 1 ≤ t.1 ∧ t.1 ≤ n ∧ Up r t.2 t.1) := by
  unfold kas_count
  refine Asks.bind (Asks.mono (fun m hm => ?_) (asc_ok hr h (n - 1) 1 (Nat.le_refl _) (by omega) (fun i j hij hj => by omega)))
  obtain ⟨h1, h2, hu, ho⟩ := hm
  by_cases e1 : (m == n) = true
  · rw [if_pos e1]
    exact ⟨h, h1, by omega, hu⟩
  · rw [if_neg e1]
    have hne : m ≠ n := fun q => e1 (by rw [q]; exact beq_self_eq_true _)
    by_cases e2 : m > 1
    · rw [if_pos e2]
      refine ⟨h.lt (by omega), h.lt (by omega), ?_⟩
      rw [decide_eq_true (hu 0 (m - 1) (by omega) (by omega))]
      exact ⟨h, h1, by omega, hu⟩
    · rw [if_neg e2]
      have hm1 : m = 1 := by omega
      subst hm1
      have hlt := ho.resolve_left (by omega)
      unfold kas_descPart
      refine Asks.bind (Asks.mono (fun t ht => ?_) (desc_ok hr h (n - (1 + 1)) (1 + 1) (by omega) (by omega) (fun i j hij hj => ?_)))
      · obtain ⟨t1, t2, t3⟩ := t
        obtain ⟨rfl, rfl, g1, g2, g3⟩ := ht
        show Asks n r (if (0 : Nat) > 0 then _ else _) _
        rw [if_neg (by omega)]
        have g1' : 1 + 1 ≤ t2 := g1
        have g2' : t2 ≤ 1 + 1 + (n - (1 + 1)) := g2
        exact tail3_ok hr h (k := t2) (by omega) (by omega) g3
      · have : i = 0 ∧ j = 1 := by omega
        rw [this.1, this.2]
        exact hlt
theorem place_ok (hr : ∀ i j, i < n → j < n → r i = r j → i = j) {p : Array Nat} (h : PermN n p) {k : Nat} (hk : k < n) (hu : Up r p k) : ∀ (f lo hi : Nat), lo ≤ hi → hi ≤ k → hi - lo ≤ f → (∀ i, i < lo → Ky r p i < Ky r p k) → (∀ i, hi ≤ i → i < k → Ky r p k < Ky r p i) →
    Asks n r (kas_place p k f lo hi) (fun l => l ≤ k ∧ (∀ i, i < l → Ky r p i < Ky r p k) ∧ (∀ i, l ≤ i → i < k → Ky r p k < Ky r p i))
  | 0, lo, hi, h1, h2, h3, h4, h5 => ⟨by omega, h4, fun i q1 q2 => h5 i (by omega) q2⟩
  | f + 1, lo, hi, h1, h2, h3, h4, h5 => by
    unfold kas_place
    by_cases hge : lo ≥ hi
    · rw [if_pos hge]
      exact ⟨by omega, h4, fun i q1 q2 => h5 i (by omega) q2⟩
    · rw [if_neg hge]
      refine ⟨h.lt hk, h.lt (by omega), ?_⟩
      by_cases hc : r (p.getD k 0) < r (p.getD ((lo + hi) / 2) 0)
      · rw [decide_eq_true hc]
        show Asks n r (kas_place p k f lo ((lo + hi) / 2)) _
        refine place_ok hr h hk hu f lo ((lo + hi) / 2) (by omega) (by omega) (by omega) h4 fun i q1 q2 => ?_
        by_cases e : i = (lo + hi) / 2
        · rw [e]; exact hc
        · exact Int.lt_trans hc (hu _ _ (by omega) q2)
      · rw [decide_eq_false hc]
        show Asks n r (kas_place p k f ((lo + hi) / 2 + 1) hi) _
        have hne := ne_of hr h (x := k) (y := (lo + hi) / 2) hk (by omega) (by omega)
        have hlt : Ky r p ((lo + hi) / 2) < Ky r p k := by
          have : r (p.getD k 0) ≠ r (p.getD ((lo + hi) / 2) 0) := hne
          show r _ < r _; omega
        refine place_ok hr h hk hu f ((lo + hi) / 2 + 1) hi (by omega) h2 (by omega) (fun i q1 => ?_) h5
        by_cases e : i = (lo + hi) / 2
        · rw [e]; exact hlt
        · exact Int.lt_trans (hu _ _ (by omega) (by omega)) hlt
theorem bin_ok (hr : ∀ i j, i < n → j < n → r i = r j → i = j) : ∀ (f k : Nat) (p : Array Nat), PermN n p → k + f = n → Up r p k → Asks n r (kas_bin f p k) (fun q => PermN n q ∧ Up r q n)
  | 0, k, p, h, hk, hu => by
    have : k = n := by omega
    subst this
    exact ⟨h, hu⟩
  | f + 1, k, p, h, hk, hu => by
    unfold kas_bin
    refine Asks.bind (Asks.mono (fun l hl => ?_) (place_ok hr h (by omega) hu k 0 k (Nat.zero_le _) (Nat.le_refl _) (by omega) (fun i q => by omega) (fun i q1 q2 => by omega)))
    obtain ⟨h1, h2, h3⟩ := hl
    have hs := h.size
    have e : ∀ x, (bubble p k (k - l)).getD x 0 = if x = l then p.getD k 0 else if l < x ∧ x ≤ k then p.getD (x - 1) 0 else p.getD x 0 := fun x => by
      have := getElem?_bubble (xs := p) (src := k) (by omega) (k - l) (by omega) x
      rw [show k - (k - l) = l by omega] at this
      by_cases c1 : x = l
      · rw [if_pos c1] at this ⊢; exact getD_of this
      · rw [if_neg c1] at this ⊢
        by_cases c2 : l < x ∧ x ≤ k
        · rw [if_pos c2] at this ⊢; exact getD_of this
        · rw [if_neg c2] at this ⊢; exact getD_of this
    refine bin_ok hr f (k + 1) _ ((bubble_perm _ _ _).trans h) (by omega) fun i j hij hj => ?_
    show r _ < r _
    rw [e i, e j]
    repeat' split
    all_goals first
      | omega
      | exact h2 _ (by omega)
      | exact h3 _ (by omega) (by omega)
      | exact hu _ _ (by omega) (by omega)
theorem sort_ok (hr : ∀ i j, i < n → j < n → r i = r j → i = j) (hn : 2 ≤ n) : Asks n r (kas_sort n) (fun q => PermN n q ∧ Up r q n) := by
  unfold kas_sort
  refine Asks.bind (Asks.mono (fun t ht => ?_) (count_ok hr (p := (List.range n).toArray) (Array.Perm.refl _) hn))
  obtain ⟨hp, h1, h2, hu⟩ := ht
  by_cases hlt : t.1 < n
  · rw [if_pos hlt, show max t.1 1 = t.1 by omega]
    exact bin_ok hr _ _ _ hp (by omega) hu
  · rw [if_neg hlt]
    have : t.1 = n := by omega
    rw [this] at hu
    exact ⟨hp, hu⟩
end
end Mine

-- SB
namespace Mine
/-! sorted(pairs) -/
def PairAt (h : Heap) (p : Int × Int) (v : Value) : Prop := ∃ t o tx ty n, v = .ref t ∧ h.get? t = some o ∧ o.cls = .type "tuple" ∧ o.data = .seq #[.int p.1 tx, .int p.2 ty] n
theorem IsPair.at {k : Kn} {p : Int × Int} {v : Value} {h : Heap} (x : IsPair k p v) (kin : k.In h) : PairAt h p v := by
  obtain ⟨t, o, a, b, rfl, ho, hT, ⟨ta, rfl⟩, ⟨tb, rfl⟩⟩ := x
  obtain ⟨h1, _, _, n, h4⟩ := hT
  exact ⟨t, o, ta, tb, n, rfl, kin _ _ ho, h1, h4⟩
theorem PairAt.keeps {h h' : Heap} {p : Int × Int} {v : Value} (x : PairAt h p v) (kp : ∀ b o, o.cls = .type "tuple" → h.get? b = some o → h'.get? b = some o) : PairAt h' p v := let ⟨t, o, tx, ty, n, e, ho, hc, hd⟩ := x; ⟨t, o, tx, ty, n, e, kp _ _ hc ho, hc, hd⟩
section
variable {w : World} {A : Around} {E : Value → Shared → Prop} {s : Shared}
theorem int_is (w : World) (x : Int) (t : Tok) : (intKind P w).is x (.int x t) = true := by show Value.isInt x (.int x t) = true; simp [Value.isInt]
theorem pair_lt {p q : Int × Int} {u v : Value} {Q : Bool → Shared → Prop} (hp : PairAt s.heap p u) (hq : PairAt s.heap q v) (sp : Small p) (sq : Small q) (h : Q (decide (pcode p < pcode q)) s) : wpAny (model P w) A (keyLt' (tuples' true) u v) Q E s := by
  obtain ⟨t, o, tx, ty, n, rfl, ho, -, hd⟩ := hp
  obtain ⟨t', o', tx', ty', n', rfl, ho', -, hd'⟩ := hq
  refine kat_lt ho hd ho' hd' ?_
  show KatLex P w A true (decide (2 < 2)) Q [(.int p.1 tx, .int q.1 tx'), (.int p.2 ty, .int q.2 ty')] 0 s
  obtain ⟨a, b⟩ := p
  obtain ⟨c, d⟩ := q
  unfold Small pcode at *
  simp only at sp sq h ⊢
  refine kat_cons ((intKind P w).eqBool (int_is w a tx) (int_is w c tx') ?_)
  by_cases e : a = c
  · rw [decide_eq_true e]
    refine kat_yes (kat_cons ((intKind P w).eqBool (int_is w b ty) (int_is w d ty') ?_))
    by_cases e2 : b = d
    · rw [decide_eq_true e2]
      refine kat_yes (kat_nil ?_)
      rw [show (decide ((2 : Nat) < 2)) = decide (1000 * a + b < 1000 * c + d) by rw [e, e2]; simp]
      exact h
    · rw [decide_eq_false e2]
      refine kat_no ?_
      show wpAny (model P w) A (oneLt' false _ _) _ _ s
      refine kat_one _ _ (PyProof.Rows.lt_int ?_)
      rw [show decide (1000 * a + b < 1000 * c + d) = decide (b < d) from decide_eq_decide.mpr (by omega)] at h
      exact h
  · rw [decide_eq_false e]
    refine kat_no ?_
    show wpAny (model P w) A (oneLt' true _ _) _ _ s
    refine oneLt_int ?_
    rw [show decide (1000 * a + b < 1000 * c + d) = decide (a < c) from decide_eq_decide.mpr (by omega)] at h
    exact h
theorem pairs_tups {h : Heap} : ∀ {ps : List (Int × Int)} {vs : List Value}, Are (PairAt h) ps vs → ∃ fs, KatTups h vs fs ∧ (∀ v ∈ fs, ∃ x t, v = .int x t) ∧ fs.length = vs.length
  | [], [], _ => ⟨[], KatTups.nil, fun _ h => (nomatch h), rfl⟩
  | [], _ :: _, a => by have := a.1; simp at this
  | _ :: _, [], a => by have := a.1; simp at this
  | p :: ps, v :: vs, a => by
    obtain ⟨⟨t, o, tx, ty, n, rfl, ho, hc, hd⟩, a'⟩ := a.tail
    obtain ⟨fs, h1, h2, h3⟩ := pairs_tups a'
    refine ⟨.int p.1 tx :: fs, KatTups.cons ho hc hd rfl h1, fun v hv => ?_, by simp [h3]⟩
    rcases List.mem_cons.mp hv with rfl | hv
    · exact ⟨_, _, rfl⟩
    · exact h2 v hv
abbrev d00 : Int × Int := (0, 0)
abbrev rk2 (ps : List (Int × Int)) (i : Nat) : Int := pcode (ps.getD i d00)
theorem sort_pairs {a : Addr} {vs : List Value} {ps : List (Int × Int)} {n : Nat} {Pq : Fin → Shared → Prop} (ho : s.heap.get? a = some (seqObj "list" vs.toArray n)) (hps : Are (PairAt s.heap) ps vs) (hnd : ps.Nodup) (hsm : ∀ p ∈ ps, Small p) (h64 : vs.length < 64)
    (h : ∀ q : Array Nat, PermN vs.length q → Up (rk2 ps) q vs.length → Pq (.done (.ret .none)) { s with heap := sortedHeap s.heap a vs (q.toList.map fun i => vs.getD i .none).toArray }) :
    wpAny (model P w) A (Builtin.«list.sort» ⟨[.ref a], []⟩) Pq E s := by
  have hl := hps.1
  rw [list_sort_plain]
  have ha : a < s.heap.objs.size := Heap.lt_size ho
  refine wpAny_bind (listItems_at ho rfl ?_)
  refine wpAny_bind (listUpdate_at ho rfl ?_ (by rw [List.size_toArray, sizeLine_eq]; omega) (Nat.zero_le _))
  obtain ⟨e1, ho1⟩ : ∃ e1, (s.heap.update a (Obj.mapSeq fun _ => (#[] : Array Value))).get? a = some (seqObj "list" #[] e1) := ⟨_, get?_update_seq ho fun _ => #[]⟩
  refine wpAny_bind (seqEpoch_at ho1 rfl ?_)
  refine wpAny_bind (wpAny_newTuple ?_ (by show vs.length ≤ _; rw [sizeLine_eq]; omega))
  refine wpAny_bind (wpAny_newList ?_ (Nat.zero_le _))
  refine wpAny_holding ?_
  have ho6 : (((s.heap.update a (Obj.mapSeq fun _ => (#[] : Array Value))).push (seqObj "tuple" vs.toArray 0)).push (seqObj "list" #[] 0)).get? a = some (seqObj "list" #[] e1) := Heap.get?_push_of_some _ (Heap.get?_push_of_some _ ho1)
  have hps' : Are (PairAt (((s.heap.update a (Obj.mapSeq fun _ => (#[] : Array Value))).push (seqObj "tuple" vs.toArray 0)).push (seqObj "list" #[] 0))) ps vs := hps.mono fun p _ v hv => hv.keeps fun b o hc e => by
    refine Heap.get?_push_of_some _ (Heap.get?_push_of_some _ ((Heap.get?_update_other _ _ (fun q => ?_)).trans e))
    subst q; rw [ho] at e; cases e
    have hc' : Value.type "list" = Value.type "tuple" := hc
    exact absurd hc' (by decide)
  show wpAny (model P w) A _ Pq E { s with heap := ((s.heap.update a (Obj.mapSeq fun _ => (#[] : Array Value))).push (seqObj "tuple" vs.toArray 0)).push (seqObj "list" #[] 0) }
  have fin : ∀ q : Array Nat, PermN vs.length q → Up (rk2 ps) q vs.length → Pq (.done (.ret .none)) { s with heap := (((s.heap.update a (Obj.mapSeq fun _ => (#[] : Array Value))).push (seqObj "tuple" vs.toArray 0)).push (seqObj "list" #[] 0)).update a (Obj.mapSeq fun _ => (q.toList.map fun i => vs.getD i .none).toArray) } := h
  generalize ((s.heap.update a (Obj.mapSeq fun _ => (#[] : Array Value))).push (seqObj "tuple" vs.toArray 0)).push (seqObj "list" #[] 0) = h6 at *
  dsimp only
  by_cases h2 : vs.toArray.size < 2
  · rw [if_pos h2, if_pos h2]
    refine wpAny_bind (wpAny_pure ?_)
    rw [StateT.run_pure]
    refine wpAny_bind (wpAny_pure ?_)
    dsimp only
    refine wpAny_bind (seqEpoch_at ho6 rfl ?_)
    have hsz : vs.length < 2 := by simpa using h2
    have e2 : (arrOf (SortSt.mk' general' (vs.toArray.zip vs.toArray) #[] 7 none)).map (·.2) = ((List.range vs.length).toArray.toList.map fun i => vs.getD i .none).toArray := by
      show (vs.toArray.zip vs.toArray).map (·.2) = _
      match vs, hsz with
      | [], _ => simp
      | [v], _ => simp
    rw [e2]
    refine wpAny_bind (listUpdate_at ho6 rfl ?_ (Nat.zero_le _) (by simp; rw [sizeLine_eq]; omega))
    simp only [bne_self_eq_false, Bool.false_eq_true, if_false]
    exact wpAny_pure (fin (List.range vs.length).toArray (Array.Perm.refl _) fun i j hij hj => by omega)
  · rw [if_neg h2, if_neg h2]
    have hsz : 2 ≤ vs.length := by simpa using h2
    obtain ⟨fs, t1, t2, t3⟩ := pairs_tups hps'
    refine wpAny_bind (kat_kind (T := .type "int") (s := { s with heap := h6 }) t1 (by omega) (fun v hv => ?_) rfl ?_)
    · obtain ⟨x, t, rfl⟩ := t2 v hv
      exact Looks.of_pure rfl
    rw [show (Value.type "int" != Value.type "tuple") = true by decide]
    have hinj : ∀ i j, i < vs.length → j < vs.length → rk2 ps i = rk2 ps j → i = j := fun i j hi hj e => by
      have hi' : i < ps.length := by omega
      have hj' : j < ps.length := by omega
      have ei : ps.getD i d00 = ps[i] := by simp [List.getD, hi']
      have ej : ps.getD j d00 = ps[j] := by simp [List.getD, hj']
      unfold rk2 at e
      rw [ei, ej] at e
      exact (List.getElem_inj hnd).mp (pcode_inj (hsm _ (List.getElem_mem hi')) (hsm _ (List.getElem_mem hj')) e)
    refine wpAny_bind (wpAny_mono (kat_run (ks := vs) (vs := vs) (κ := tuples' true) (s := { s with heap := h6 }) (G := fun q s' => PermN vs.length q ∧ Up (rk2 ps) q vs.length ∧ s' = { s with heap := h6 })
      (Q := fun st' s' => ∃ q : Array Nat, PermN vs.length q ∧ Up (rk2 ps) q vs.length ∧ s' = { s with heap := h6 } ∧ arrOf st' = q.map (kas_item (vs.toArray.zip vs.toArray)) ∧ failedOf st' = none) rfl hsz h64 (fun q st' s' a1 a2 a3 a4 => ⟨q, a4.1, a4.2.1, a4.2.2, a2, a3⟩) ?_) ?_ fun _ _ e => e)
    · refine Asks.wp (n := vs.length) (r := rk2 ps) (fun i j Cb hi hj hC => ?_) (Po := fun q => PermN vs.length q ∧ Up (rk2 ps) q vs.length) (fun q hq => ⟨hq.1, hq.2, rfl⟩) (sort_ok hinj hsz)
      have hi' : i < ps.length := by omega
      have hj' : j < ps.length := by omega
      obtain ⟨u, hu, pu⟩ := hps'.get (i := i) (x := ps[i]) (by simp [hi'])
      obtain ⟨v, hv, pv⟩ := hps'.get (i := j) (x := ps[j]) (by simp [hj'])
      have eu : vs.getD i Value.none = u := by simp [List.getD, hu]
      have ev : vs.getD j Value.none = v := by simp [List.getD, hv]
      have ei : ps.getD i d00 = ps[i] := by simp [List.getD, hi']
      have ej : ps.getD j d00 = ps[j] := by simp [List.getD, hj']
      show wpAny (model P w) A (keyLt' (tuples' true) (vs.getD i Value.none) (vs.getD j Value.none)) _ _ _
      rw [eu, ev]
      refine pair_lt pu pv (hsm _ (List.getElem_mem hi')) (hsm _ (List.getElem_mem hj')) ?_
      unfold rk2 at hC
      rw [ei, ej] at hC
      exact hC
    · rintro ⟨⟨⟩, st'⟩ s' ⟨q, g1, g2, rfl, g4, g5⟩
      dsimp only
      refine wpAny_bind (seqEpoch_at ho6 rfl ?_)
      have e2 := kat_snds (ks := vs) (vs := vs) rfl g4
      rw [e2]
      refine wpAny_bind (listUpdate_at ho6 rfl ?_ (Nat.zero_le _) (by rw [List.size_toArray, List.length_map, Array.length_toList, g1.size, sizeLine_eq]; omega))
      rw [g5]
      simp only [bne_self_eq_false, Bool.false_eq_true, if_false]
      exact wpAny_pure (fin q g1 g2)
end
end Mine

-- SC
namespace Mine
section
variable {w : World} {A : Around} {E : Value → Shared → Prop} {s : Shared}
theorem map_getD_range {α : Type} (d : α) : ∀ (l : List α), (List.range l.length).map (fun i => l.getD i d) = l := fun l => by
  apply List.ext_getElem
  · simp
  · intro i h1 h2
    simp at h1
    simp [List.getD, h1]
theorem sorted_rest {vs : List Value} {ps : List (Int × Int)} {Q : Value → Shared → Prop} (hps : Are (PairAt s.heap) ps vs) (hnd : ps.Nodup) (hsm : ∀ p ∈ ps, Small p) (h64 : vs.length < 64)
    (h : ∀ h' us qs e, (∀ b o, s.heap.get? b = some o → h'.get? b = some o) → h'.get? s.heap.objs.size = some (seqObj "list" us e) → (∀ (R : Int × Int → Value → Prop), Are R ps vs → Are R qs us.toList) → qs.Perm ps → qs.Pairwise (fun a b => pcode a ≤ pcode b) → Q (.ref s.heap.objs.size) { s with heap := h' }) :
    wpAny (model P w) A (do let l ← newList vs; let _ ← holding [l] (call (.builtin "list.sort") [l] []); ret l) (fun fin s' => ∃ r, fin = .done (.ret r) ∧ Q r s') E s := by
  refine wpAny_bind (wpAny_newList ?_ (by rw [sizeLine_eq]; omega))
  have hoL : (s.heap.push (seqObj "list" vs.toArray 0)).get? s.heap.objs.size = some (seqObj "list" vs.toArray 0) := Heap.get?_push_size _ rfl
  have kp : ∀ b o, s.heap.get? b = some o → (s.heap.push (seqObj "list" vs.toArray 0)).get? b = some o := fun b o e => Heap.get?_push_of_some _ e
  refine wpAny_bind (wpAny_holding (wpAny_call_entry slot_list_sort ⟨_, hoL, rfl⟩ entry_list_sort (sort_pairs (s := { s with heap := s.heap.push (seqObj "list" vs.toArray 0) }) hoL (hps.mono fun p _ v hv => hv.keeps fun b o _ e => kp b o e) hnd hsm h64 fun q hq hu => ⟨_, rfl, ?_⟩) (args_list_sort _)))
  refine wpAny_pure ⟨_, rfl, ?_⟩
  obtain ⟨e, he⟩ := sortedHeap_at (n := 0) (vs := vs) (out := (q.toList.map fun i => vs.getD i .none).toArray) hoL
  have hlen := hps.1
  have hpm : q.toList.Perm (List.range vs.length) := Array.perm_iff_toList_perm.mp hq
  refine h _ _ (q.toList.map fun i => ps.getD i d00) e (fun b o eb => ?_) he (fun R hR => ?_) ?_ ?_
  · have hlt := Heap.lt_size eb
    rw [sortedHeap_old (Nat.ne_of_lt hlt) (by show b < (s.heap.push _).objs.size; rw [Heap.size_push]; exact Nat.lt_succ_of_lt hlt)]
    exact kp b o eb
  · refine ⟨by simp, fun i p hp => ?_⟩
    rw [List.getElem?_map] at hp
    obtain ⟨x, hx, rfl⟩ := Option.map_eq_some_iff.mp hp
    have hxl : x < vs.length := by
      have := (hpm.mem_iff (a := x)).mp (List.mem_of_getElem? hx)
      simpa using this
    have hxp : ps[x]? = some (ps.getD x d00) := by
      have : x < ps.length := by omega
      simp [List.getD, this]
    obtain ⟨v, hv, hr⟩ := hR.get hxp
    refine ⟨v, ?_, hr⟩
    rw [List.getElem?_map, hx]
    simp [List.getD, hv]
  · have := hpm.map fun i => ps.getD i d00
    rw [← hlen, map_getD_range] at this
    exact this
  · rw [List.pairwise_iff_getElem]
    intro i j hi hj hij
    have hs := hq.size
    simp only [List.length_map, Array.length_toList] at hi hj
    have := hu i j hij (by omega)
    simp only [List.getElem_map, Array.getElem_toList]
    have e1 : q.getD i 0 = q[i] := by simp [Array.getD, hi]
    have e2 : q.getD j 0 = q[j] := by simp [Array.getD, hj]
    unfold Ky rk2 at this
    rw [e1, e2] at this
    omega
end
section
variable {C : Cx} {k : Kn} {m : Lm} {mu : Mu}
theorem Stt.newAt {h h' : Heap} {D : Addr} {o : Obj} (S : Stt C k m mu h) (kp : ∀ b ob, h.get? b = some ob → h'.get? b = some ob) (hD : h.objs.size ≤ D) (ho : h'.get? D = some o) : Stt C k m ((D, o) :: mu) h' ∧ TB < D := by
  have fr : h.get? D = none := Heap.get?_none_of_le hD
  have kD : k D = none := by
    cases e : k D with
    | none => rfl
    | some ob => have := S.kin _ _ e; rw [fr] at this; cases this
  have bD : C.base.get? D = none := by
    cases e : C.base.get? D with
    | none => rfl
    | some ob => have := S.keep _ _ e; rw [fr] at this; cases this
  exact ⟨(S.known kp fr ho).thaw kD bD, Nat.lt_of_lt_of_le S.lt_size hD⟩
theorem Mt_sorted {l : Addr} {o : Obj} {vs : List Value} {ps : List (Int × Int)} {Q : Value → Kn → Lm → Mu → Prop} (ha : At k mu l o) (hl : OList o vs) (hp : Are (IsPair k) ps vs) (hnd : ps.Nodup) (hsm : ∀ p ∈ ps, Small p) (h64 : vs.length < 64)
    (h : ∀ D o us qs, TB < D → OList o us → Are (IsPair k) qs us → qs.Perm ps → qs.Pairwise (fun a b => pcode a ≤ pcode b) → Q (.ref D) k m ((D, o) :: mu)) : Mt C k m mu (call (.builtin "sorted") [.ref l]) Q := fun s A E hA S => by
  refine Calls.call_function_entry kind_sorted plain_sorted entry_sorted (args_sorted1 _) ?_
  unfold Builtin.«sorted»
  refine wpAny_bind (m := checkCount "sorted" 1 1 _) (wpAny_pure ?_)
  refine wpAny_bind (collect_list (hl.isList (S.at ha)) ?_ (by rw [sizeLine_eq]; omega))
  have hsz : ((s.heap.push (seqObj "list" #[] 0)).update s.heap.objs.size (Obj.mapSeq (· ++ vs.toArray))).objs.size = s.heap.objs.size + 1 := by rw [Heap.size_update, size_push']
  have keep : ∀ b ob, s.heap.get? b = some ob → ((s.heap.push (seqObj "list" #[] 0)).update s.heap.objs.size (Obj.mapSeq (· ++ vs.toArray))).get? b = some ob := fun b ob q => by
    have hlt : b < s.heap.objs.size := Heap.lt_size q
    rw [Heap.get?_update_ne _ _ _ _ (Nat.ne_of_lt hlt), Heap.get?_push_ne _ _ _ (Nat.ne_of_lt hlt)]
    exact q
  generalize ((s.heap.push (seqObj "list" #[] 0)).update s.heap.objs.size (Obj.mapSeq (· ++ vs.toArray))) = h1 at *
  refine sorted_rest (s := { s with heap := h1 }) (ps := ps) (vs := vs) (hp.mono fun p _ v hv => (hv.at S.kin).keeps fun b ob _ e => keep b ob e) hnd hsm h64 fun h' us qs e kp hD hR hpm hpw => ?_
  obtain ⟨S', hTD⟩ := S.newAt (fun b ob q => kp b ob (keep b ob q)) (show s.heap.objs.size ≤ h1.objs.size by omega) hD
  refine ⟨k, m, _, ⟨h', s.toks, s.gens, ⟨_, rfl⟩, S.ok.refl _, fun ps e => kp _ _ (keep _ _ e)⟩, S', h _ _ us.toList qs hTD ⟨rfl, rfl, rfl, e, rfl⟩ (hR _ hp) hpm hpw⟩
end
end Mine

-- SD
namespace Mine
/-! the table of a small set: places -/
def subs : List Nat → List (List Nat)
  | [] => [[]]
  | x :: r => subs r ++ (subs r).map (x :: ·)
def U3 : List (List Nat) := (subs (List.range 8)).filter fun l => l.length ≤ 3
def slotP (pl : Array Nat) (j : Nat) : Option Nat := if pl[SetTable.below pl j]? == some j then some (SetTable.below pl j) else none
def chkPut (pl : List Nat) (j : Nat) : Bool :=
  let p := SetTable.below pl.toArray j
  let pl' := SetTable.insertAt pl.toArray p j
  p ≤ pl.length && U3.contains pl'.toList && pl'.size == pl.length + 1 && (List.range 8).all fun j' => slotP pl' j' == if j' = j then some p else (slotP pl.toArray j').map fun i => if i < p then i else i + 1
theorem chk_all : (U3.all fun pl => decide (3 ≤ pl.length) || (List.range 8).all fun j => (slotP pl.toArray j).isSome || chkPut pl j) = true := by decide +kernel
theorem chk_lt : (U3.all fun pl => (List.range 8).all fun j => match slotP pl.toArray j with | some i => decide (i < pl.length) | none => true) = true := by decide +kernel
theorem chk_free : (U3.all fun pl => (List.range 8).any fun j => (slotP pl.toArray j).isNone) = true := by decide +kernel
theorem put_ok {pl : List Nat} (h : pl ∈ U3) (hl : pl.length < 3) {j : Nat} (hj : j < 8) (hn : slotP pl.toArray j = none) :
    ∃ p, p = SetTable.below pl.toArray j ∧ p ≤ pl.length ∧ (SetTable.insertAt pl.toArray p j).toList ∈ U3 ∧ (SetTable.insertAt pl.toArray p j).size = pl.length + 1 ∧ ∀ j' < 8, slotP (SetTable.insertAt pl.toArray p j) j' = if j' = j then some p else (slotP pl.toArray j').map fun i => if i < p then i else i + 1 := by
  have h1 := List.all_eq_true.mp chk_all pl h
  rw [Bool.or_eq_true] at h1
  have h2 := h1.resolve_left (by simp; omega)
  have h3 := List.all_eq_true.mp h2 j (List.mem_range.mpr hj)
  rw [hn] at h3
  simp only [Option.isSome_none, Bool.false_or] at h3
  unfold chkPut at h3
  simp only [Bool.and_eq_true, decide_eq_true_eq, List.contains_iff_mem, beq_iff_eq] at h3
  obtain ⟨⟨⟨g1, g2⟩, g3⟩, g4⟩ := h3
  refine ⟨_, rfl, g1, g2, g3, fun j' hj' => ?_⟩
  have := List.all_eq_true.mp g4 j' (List.mem_range.mpr hj')
  simpa using this
theorem slot_lt {pl : List Nat} (h : pl ∈ U3) {j i : Nat} (hj : j < 8) (hs : slotP pl.toArray j = some i) : i < pl.length := by
  have h1 := List.all_eq_true.mp (List.all_eq_true.mp chk_lt pl h) j (List.mem_range.mpr hj)
  rw [hs] at h1
  simpa using h1
theorem slot_free {pl : List Nat} (h : pl ∈ U3) : ∃ j < 8, slotP pl.toArray j = none := by
  have h1 := List.all_eq_true.mp chk_free pl h
  obtain ⟨j, hj, hn⟩ := List.any_eq_true.mp h1
  exact ⟨j, List.mem_range.mp hj, by simpa using hn⟩
theorem nil_U3 : ([] : List Nat) ∈ U3 := by decide +kernel
theorem slot_eq {t : SetTable} (hd : t.dummies = #[]) (j : Nat) : t.slot j = match slotP t.place j with | some i => .live i | none => .empty := by
  unfold SetTable.slot slotP
  by_cases h : (t.place[SetTable.below t.place j]? == some j) = true
  · simp [h]
  · have h' : (t.place[SetTable.below t.place j]? == some j) = false := by simpa using h
    simp only [h', Bool.false_eq_true, if_false]
    rw [hd]
    rfl
/-! the way of the search -/
abbrev T7 : SetTable := SetTable.fresh 0 0 true
def adv (p : SetTable.Probe) : SetTable.Probe := T7.advance p
theorem adv_eq {t : SetTable} (h : t.mask = 7) (p : SetTable.Probe) : t.advance p = adv p := by
  unfold adv SetTable.advance
  rw [h]
  rfl
def path (h : Int) : Nat → SetTable.Probe
  | 0 => T7.probeStart h
  | k + 1 => adv (path h k)
theorem start_eq {t : SetTable} (h : t.mask = 7) (x : Int) : t.probeStart x = path x 0 := by
  show t.probeStart x = T7.probeStart x
  unfold SetTable.probeStart
  rw [h]
  rfl
theorem run_end (i : Nat) (h : i < 8) : SetTable.runEnd 7 i = i := by
  unfold SetTable.runEnd
  rw [if_neg (by omega)]
theorem path_ok (h : Int) : ∀ k, (path h k).more = 0 ∧ (path h k).dummy = none ∧ (path h k).j < 8 ∧ (path h k).i = (path h k).j ∧ (path h k).perturb = SetTable.bits h / 32 ^ k
  | 0 => by
    have hlt : SetTable.bits h % 8 < 8 := Nat.mod_lt _ (by omega)
    refine ⟨?_, rfl, hlt, rfl, by simp; rfl⟩
    show SetTable.runEnd 7 (SetTable.bits h % 8) - SetTable.bits h % 8 = 0
    rw [run_end _ hlt]; omega
  | k + 1 => by
    obtain ⟨h1, h2, h3, h4, h5⟩ := path_ok h k
    show (adv (path h k)).more = 0 ∧ _
    have e : path h (k + 1) = { path h k with j := ((path h k).i * 5 + 1 + (path h k).perturb / 32) % 8, more := SetTable.runEnd 7 (((path h k).i * 5 + 1 + (path h k).perturb / 32) % 8) - (((path h k).i * 5 + 1 + (path h k).perturb / 32) % 8), i := ((path h k).i * 5 + 1 + (path h k).perturb / 32) % 8, perturb := (path h k).perturb / 32 } := by
      show T7.advance (path h k) = _
      unfold SetTable.advance
      rw [if_neg (by omega)]
      rfl
    have hlt : ((path h k).i * 5 + 1 + (path h k).perturb / 32) % 8 < 8 := Nat.mod_lt _ (by omega)
    have : adv (path h k) = path h (k + 1) := rfl
    rw [this, e]
    refine ⟨?_, h2, hlt, rfl, ?_⟩
    · show SetTable.runEnd 7 _ - _ = 0
      rw [run_end _ hlt]; omega
    · show (path h k).perturb / 32 = _
      rw [h5, Nat.div_div_eq_div_mul, Nat.pow_succ]
theorem path_next (h : Int) (k : Nat) : (path h (k + 1)).j = ((path h k).j * 5 + 1 + SetTable.bits h / 32 ^ (k + 1)) % 8 := by
  obtain ⟨h1, h2, h3, h4, h5⟩ := path_ok h k
  show (T7.advance (path h k)).j = _
  unfold SetTable.advance
  rw [if_neg (by omega)]
  show ((path h k).i * 5 + 1 + (path h k).perturb / 32) % 8 = _
  rw [h4, h5, Nat.div_div_eq_div_mul, ← Nat.pow_succ]
theorem bits_lt (h : Int) : SetTable.bits h < 2 ^ 64 := by
  unfold SetTable.bits
  have : h % (2 ^ 64 : Int) < 2 ^ 64 := Int.emod_lt_of_pos _ (by decide)
  have : 0 ≤ h % (2 ^ 64 : Int) := Int.emod_nonneg _ (by decide)
  omega
theorem path_late (h : Int) {k : Nat} (hk : 13 ≤ k) : (path h (k + 1)).j = ((path h k).j * 5 + 1) % 8 := by
  rw [path_next]
  have hb := bits_lt h
  have : SetTable.bits h / 32 ^ (k + 1) = 0 := by
    apply Nat.div_eq_of_lt
    calc SetTable.bits h < 2 ^ 64 := hb
      _ ≤ 32 ^ 13 := by decide
      _ ≤ 32 ^ (k + 1) := Nat.pow_le_pow_right (by omega) (by omega)
  rw [this, Nat.add_zero]
def orb : Nat → Nat → Nat
  | 0, x => x
  | m + 1, x => (orb m x * 5 + 1) % 8
theorem orb_all : ∀ x < 8, ∀ j < 8, ∃ m < 8, orb m x = j := by decide +kernel
theorem path_orb (h : Int) : ∀ m, (path h (13 + m)).j = orb m (path h 13).j
  | 0 => rfl
  | m + 1 => by
    rw [show 13 + (m + 1) = (13 + m) + 1 by omega, path_late h (by omega), path_orb h m]; rfl
theorem path_meets (h : Int) {j : Nat} (hj : j < 8) : ∃ k < 21, (path h k).j = j := by
  obtain ⟨m, hm, e⟩ := orb_all _ (path_ok h 13).2.2.1 j hj
  exact ⟨13 + m, by omega, by rw [path_orb, e]⟩
theorem go_find {t : SetTable} {hashAt : Nat → Int} {h : Int} (hm : t.mask = 7) (hd : t.dummies = #[]) : ∀ (m k fuel : Nat), m < fuel → (∀ k', k ≤ k' → k' < k + m → ∃ i, slotP t.place (path h k').j = some i ∧ hashAt i ≠ h) →
    (slotP t.place (path h (k + m)).j = none → SetTable.probe.go t hashAt h fuel (path h k) = some (.empty (path h (k + m)).j none)) ∧
    (∀ i, slotP t.place (path h (k + m)).j = some i → hashAt i = h → ∃ nx, SetTable.probe.go t hashAt h fuel (path h k) = some (.candidate (path h (k + m)).j i nx))
  | 0, k, fuel + 1, _, _ => by
    refine ⟨fun hn => ?_, fun i hs hh => ⟨adv (path h k), ?_⟩⟩
    · unfold SetTable.probe.go
      rw [slot_eq hd, show k = k + 0 from rfl, hn]
      show some (SetTable.Met.empty _ (path h k).dummy) = _
      rw [(path_ok h k).2.1]
    · unfold SetTable.probe.go
      rw [slot_eq hd, show k = k + 0 from rfl, hs]
      show (if (hashAt i == h) = true then some (SetTable.Met.candidate (path h k).j i (t.advance (path h k))) else _) = _
      rw [if_pos (by simp [hh]), adv_eq hm]
      rfl
  | m + 1, k, fuel + 1, hf, hlive => by
    obtain ⟨i, hi, hne⟩ := hlive k (Nat.le_refl _) (by omega)
    have ih := go_find hm hd m (k + 1) fuel (by omega) (fun k' h1 h2 => hlive k' (by omega) (by omega))
    have e : SetTable.probe.go t hashAt h (fuel + 1) (path h k) = SetTable.probe.go t hashAt h fuel (path h (k + 1)) := by
      conv => lhs; unfold SetTable.probe.go
      rw [slot_eq hd, hi]
      show (if (hashAt i == h) = true then _ else SetTable.probe.go t hashAt h fuel (t.advance (path h k))) = _
      rw [if_neg (by simp [hne]), adv_eq hm]
      rfl
    rw [e, show k + (m + 1) = k + 1 + m by omega]
    exact ih
end Mine

-- SE
namespace Mine
theorem insertAt_get {α : Type} (xs : Array α) (p : Nat) (x : α) (hp : p ≤ xs.size) (i : Nat) : (SetTable.insertAt xs p x)[i]? = if i < p then xs[i]? else if i = p then some x else xs[i - 1]? := by
  unfold SetTable.insertAt
  rw [Array.getElem?_append]
  have hs : ((xs.extract 0 p).push x).size = p + 1 := by simp; omega
  rw [hs]
  by_cases h1 : i < p
  · rw [if_pos (by omega), if_pos h1, Array.getElem?_push, if_neg (by simp; omega), Array.getElem?_extract]
    rw [if_pos (by simp; omega)]
    simp
  · rw [if_neg h1]
    by_cases h2 : i = p
    · subst h2
      rw [if_pos (by omega), if_pos rfl, Array.getElem?_push, if_pos (by simp; omega)]
    · rw [if_neg (by omega), if_neg h2, Array.getElem?_extract]
      by_cases h3 : i - (p + 1) < xs.size - p
      · rw [if_pos (by omega)]
        congr 1; omega
      · rw [if_neg (by omega), Array.getElem?_eq_none (by omega)]
theorem insertAt_toList {α : Type} (xs : Array α) (p : Nat) (x : α) : (SetTable.insertAt xs p x).toList.Perm (x :: xs.toList) := by
  unfold SetTable.insertAt
  rw [Array.toList_append, Array.toList_push, Array.toList_extract, Array.toList_extract]
  simp only [List.append_assoc, List.singleton_append]
  refine List.perm_middle.trans (List.Perm.cons _ ?_)
  have e : List.extract xs.toList 0 p ++ List.extract xs.toList p xs.size = xs.toList := by
    simp only [List.extract_eq_take_drop, Nat.sub_zero, List.drop_zero]
    rw [List.take_of_length_le (l := xs.toList.drop p) (by simp)]
    exact List.take_append_drop p xs.toList
  rw [e]
structure SetP (t : SetTable) (hs : Array Int) : Prop where
  mask : t.mask = 7
  dum : t.dummies = #[]
  pl : t.place.toList ∈ U3
  sz : t.place.size = hs.size
  chain : ∀ i h, hs[i]? = some h → ∃ k < 21, slotP t.place (path h k).j = some i ∧ ∀ k' < k, ∃ i' h', slotP t.place (path h k').j = some i' ∧ hs[i']? = some h' ∧ h' ≠ h
theorem least {p : Nat → Prop} : ∀ (n : Nat), (∃ k < n, p k) → ∃ k < n, p k ∧ ∀ k' < k, ¬ p k'
  | 0, ⟨_, h, _⟩ => absurd h (Nat.not_lt_zero _)
  | n + 1, ⟨k, hk, hp⟩ => by
    by_cases hx : ∃ k < n, p k
    · obtain ⟨k, h1, h2⟩ := least n hx
      exact ⟨k, by omega, h2⟩
    · have hkn : k = n := by
        rcases Nat.lt_or_ge k n with h | h
        · exact absurd ⟨k, h, hp⟩ hx
        · omega
      subst hkn
      exact ⟨k, by omega, hp, fun k' h1 h2 => hx ⟨k', h1, h2⟩⟩
theorem SetP.live {t : SetTable} {hs : Array Int} (S : SetP t hs) {j i : Nat} (hj : j < 8) (h : slotP t.place j = some i) : ∃ x, hs[i]? = some x := by
  have := slot_lt (pl := t.place.toList) S.pl hj (by simpa using h)
  have hs' := S.sz
  simp at this
  exact ⟨hs[i]'(by omega), by simp⟩
theorem SetP.found {t : SetTable} {hs : Array Int} (S : SetP t hs) {hashAt : Nat → Int} (ha : ∀ i h, hs[i]? = some h → hashAt i = h) {i : Nat} {h : Int} (hi : hs[i]? = some h) : ∃ j nx, t.probe hashAt h (t.probeStart h) = some (.candidate j i nx) := by
  obtain ⟨k, hk, h1, h2⟩ := S.chain i h hi
  obtain ⟨-, g⟩ := go_find (t := t) (hashAt := hashAt) (h := h) S.mask S.dum k 0 (10 * SetTable.turns t.mask) (by rw [S.mask]; show k < 220; omega) (fun k' _ hk' => by
    obtain ⟨i', h', e1, e2, e3⟩ := h2 k' (by omega)
    exact ⟨i', e1, by rw [ha _ _ e2]; exact e3⟩)
  rw [Nat.zero_add] at g
  obtain ⟨nx, e⟩ := g i h1 (ha _ _ hi)
  exact ⟨(path h k).j, nx, by rw [start_eq S.mask]; exact e⟩
theorem SetP.absent {t : SetTable} {hs : Array Int} (S : SetP t hs) {hashAt : Nat → Int} (ha : ∀ i h, hs[i]? = some h → hashAt i = h) {h : Int} (hn : ∀ i : Nat, hs[i]? ≠ some h) :
    ∃ k < 21, slotP t.place (path h k).j = none ∧ (∀ k' < k, ∃ i' h', slotP t.place (path h k').j = some i' ∧ hs[i']? = some h' ∧ h' ≠ h) ∧ t.probe hashAt h (t.probeStart h) = some (.empty (path h k).j none) := by
  obtain ⟨j, hj, hf⟩ := slot_free S.pl
  obtain ⟨k0, hk0, e0⟩ := path_meets h hj
  obtain ⟨k, hk, h1, h2⟩ := least (p := fun k => slotP t.place (path h k).j = none) 21 ⟨k0, hk0, by rw [e0]; simpa using hf⟩
  have live : ∀ k' < k, ∃ i' h', slotP t.place (path h k').j = some i' ∧ hs[i']? = some h' ∧ h' ≠ h := fun k' hk' => by
    cases e : slotP t.place (path h k').j with
    | none => exact absurd e (h2 k' hk')
    | some i' =>
      obtain ⟨x, hx⟩ := S.live (path_ok h k').2.2.1 e
      exact ⟨i', x, rfl, hx, fun q => hn i' (by rw [hx, q])⟩
  refine ⟨k, hk, h1, live, ?_⟩
  obtain ⟨g, -⟩ := go_find (t := t) (hashAt := hashAt) (h := h) S.mask S.dum k 0 (10 * SetTable.turns t.mask) (by rw [S.mask]; show k < 220; omega) (fun k' _ hk' => by
    obtain ⟨i', h', e1, e2, e3⟩ := live k' (by omega)
    exact ⟨i', e1, by rw [ha _ _ e2]; exact e3⟩)
  rw [Nat.zero_add] at g
  rw [start_eq S.mask]
  exact g h1
theorem SetP.put {t : SetTable} {hs : Array Int} (S : SetP t hs) (hl : hs.size < 3) {h : Int} {k : Nat} (hk : k < 21) (hn : ∀ i : Nat, hs[i]? ≠ some h) (h1 : slotP t.place (path h k).j = none) (h2 : ∀ k' < k, ∃ i' h', slotP t.place (path h k').j = some i' ∧ hs[i']? = some h' ∧ h' ≠ h) :
    (t.put (path h k).j).2 ≤ hs.size ∧ SetP (t.put (path h k).j).1 (SetTable.insertAt hs (t.put (path h k).j).2 h) ∧ (t.put (path h k).j).1.plain = t.plain ∧ (t.put (path h k).j).1.led = t.led := by
  have hj := (path_ok h k).2.2.1
  have hsz := S.sz
  obtain ⟨p, hp, g1, g2, g3, g4⟩ := put_ok (pl := t.place.toList) S.pl (by simp; omega) hj (by simpa using h1)
  have et : t.place.toList.toArray = t.place := by simp
  rw [et] at hp g2 g3 g4
  simp only [Array.length_toList] at g1 g3
  have ep : t.put (path h k).j = ({ t with place := SetTable.insertAt t.place p (path h k).j, dummies := #[] }, p) := by
    unfold SetTable.put
    rw [← hp, S.dum]
    rfl
  rw [ep]
  dsimp only
  refine ⟨by omega, ⟨S.mask, rfl, g2, ?_, fun i x hx => ?_⟩, rfl, rfl⟩
  · show (SetTable.insertAt t.place p _).size = _
    rw [g3]
    have := (insertAt_toList hs p h).length_eq
    simp at this
    omega
  · show ∃ k₂ < 21, slotP (SetTable.insertAt t.place p (path h k).j) (path x k₂).j = some i ∧ ∀ k' < k₂, ∃ i' h', slotP (SetTable.insertAt t.place p (path h k).j) (path x k').j = some i' ∧ _
    have mv : ∀ (j' i' : Nat) (y : Int), j' < 8 → slotP t.place j' = some i' → hs[i']? = some y → slotP (SetTable.insertAt t.place p (path h k).j) j' = some (if i' < p then i' else i' + 1) ∧ (SetTable.insertAt hs p h)[if i' < p then i' else i' + 1]? = some y := fun j' i' y hj' hs' hy => by
      have hne : j' ≠ (path h k).j := fun q => by rw [q, h1] at hs'; cases hs'
      refine ⟨by rw [g4 j' hj', if_neg hne, hs']; rfl, ?_⟩
      rw [insertAt_get _ _ _ (by omega)]
      by_cases c : i' < p
      · rw [if_pos c, if_pos c]; exact hy
      · rw [if_neg c, if_neg (by omega), if_neg (by omega)]
        exact hy
    rw [insertAt_get _ _ _ (by omega)] at hx
    have old : ∀ i₀, hs[i₀]? = some x → i = (if i₀ < p then i₀ else i₀ + 1) → ∃ k₂ < 21, slotP (SetTable.insertAt t.place p (path h k).j) (path x k₂).j = some i ∧ ∀ k' < k₂, ∃ i' h', slotP (SetTable.insertAt t.place p (path h k).j) (path x k').j = some i' ∧ (SetTable.insertAt hs p h)[i']? = some h' ∧ h' ≠ x := fun i₀ hi₀ hi => by
      obtain ⟨k₂, hk₂, c1, c2⟩ := S.chain i₀ x hi₀
      refine ⟨k₂, hk₂, by rw [hi]; exact (mv _ _ x (path_ok x k₂).2.2.1 c1 hi₀).1, fun k' hk' => ?_⟩
      obtain ⟨i', h', d1, d2, d3⟩ := c2 k' hk'
      obtain ⟨m1, m2⟩ := mv _ _ h' (path_ok x k').2.2.1 d1 d2
      exact ⟨_, h', m1, m2, d3⟩
    by_cases c1 : i < p
    · rw [if_pos c1] at hx
      exact old i hx (by rw [if_pos c1])
    · rw [if_neg c1] at hx
      by_cases c2 : i = p
      · subst c2
        rw [if_pos rfl] at hx
        cases hx
        refine ⟨k, hk, by rw [g4 _ hj, if_pos rfl], fun k' hk' => ?_⟩
        obtain ⟨i', h', d1, d2, d3⟩ := h2 k' hk'
        obtain ⟨m1, m2⟩ := mv _ _ h' (path_ok h k').2.2.1 d1 d2
        exact ⟨_, h', m1, m2, d3⟩
      · rw [if_neg c2] at hx
        exact old (i - 1) hx (by rw [if_neg (by omega)]; omega)
theorem SetP.nil (led : Bool) : SetP (SetTable.fresh 0 0 led) #[] := ⟨rfl, rfl, nil_U3, rfl, fun i h e => by simp at e⟩
end Mine

-- SF
namespace Mine
/-! sets of pairs -/
def thp (a b : Int) : Int := reduceHash (Builtin.Tuple.tupleHashOf [a, b])
theorem thp_chk : (six.all fun a => six.all fun b => six.all fun c => six.all fun d => thp a b != thp c d || (a == c && b == d)) = true := by decide +kernel
def Six (p : Int × Int) : Prop := p.1 ∈ six ∧ p.2 ∈ six
theorem thp_inj {p q : Int × Int} (hp : Six p) (hq : Six q) (h : thp p.1 p.2 = thp q.1 q.2) : p = q := by
  have h1 := List.all_eq_true.mp (List.all_eq_true.mp (List.all_eq_true.mp (List.all_eq_true.mp thp_chk p.1 hp.1) p.2 hp.2) q.1 hq.1) q.2 hq.2
  rw [h] at h1
  simp at h1
  exact Prod.ext h1.1 h1.2
theorem th_eq (w : World) {p : Int × Int} (hp : Six p) : tupleKeyHash (intKind P w) (enc p) = thp p.1 p.2 := by
  show reduceHash (Builtin.Tuple.tupleHashOf [(intKind P w).hash p.1, (intKind P w).hash p.2]) = _
  rw [hash_six hp.1, hash_six hp.2]
  rfl
theorem PairAt.key {w : World} {h : Heap} {p : Int × Int} {t : Addr} (x : PairAt h p (.ref t)) : IsTupleKey (intKind P w) h (enc p) t := by
  obtain ⟨t', o, tx, ty, n, e, ho, hc, hd⟩ := x
  cases e
  exact ⟨o, _, n, ho, hc, hd, .cons (int_is w _ _) (.cons (int_is w _ _) .nil)⟩
section
variable {w : World} {A : Around} {E : Value → Shared → Prop} {s : Shared}
theorem PairAt.typeIs {p : Int × Int} {v : Value} (x : PairAt s.heap p v) : s.TypeIs v "tuple" := by
  obtain ⟨t, o, tx, ty, n, rfl, ho, hc, hd⟩ := x
  exact ⟨o, ho, hc⟩
theorem notStatement {p : Int × Int} {v : Value} {Q : Bool → Shared → Prop} (hp : PairAt s.heap p v) (h : Q false s) : wpAny (model P w) A (ofAClassStatement 8 v) Q E s := by
  obtain ⟨t, o, tx, ty, n, rfl, ho, hc, hd⟩ := hp
  unfold ofAClassStatement
  refine wpAny_bind (wpAny_typeOf (T := "tuple") ⟨o, ho, hc⟩ ?_)
  dsimp only
  rw [if_pos (by decide)]
  refine wpAny_bind (wpAny_pure ?_)
  simp only [Bool.not_true, Bool.false_eq_true, if_false]
  refine wpAny_bind (wpAny_seqItems ho hd ?_)
  dsimp only
  refine wpAny_bind ?_
  rw [← Array.forIn_toList]
  simp only [List.forIn_cons, List.forIn_nil]
  refine wpAny_bind (wpAny_bind (m := ofAClassStatement 7 (.int p.1 tx)) (wpAny_pure ?_))
  refine wpAny_pure ?_
  dsimp only
  refine wpAny_bind (wpAny_bind (m := ofAClassStatement 7 (.int p.2 ty)) (wpAny_pure ?_))
  exact wpAny_pure (wpAny_pure (wpAny_pure h))
theorem hashByVal {p : Int × Int} {v : Value} {Q : Bool → Shared → Prop} (hp : PairAt s.heap p v) (h : Q true s) : wpAny (model P w) A (hashByValue 8 v) Q E s := by
  have hT := hp.typeIs
  obtain ⟨t, o, tx, ty, n, rfl, ho, hc, hd⟩ := hp
  unfold hashByValue
  refine wpAny_bind (wpAny_specialOf hT F.slot_tuple_hash.lookup ?_)
  split
  rotate_left
  · rename_i e; simp at e
  · rename_i e; simp at e
  · rename_i e1 e2 e3 e; simp at e; exact absurd e.symm (by assumption)
  · rename_i e1 e2 e3 e; exact absurd rfl (by assumption)
  refine wpAny_bind (wpAny_seqItems ho hd ?_)
  refine wpAny_bind ?_
  rw [← Array.forIn_toList]
  show wpAny _ _ (forIn [Value.int p.1 tx, Value.int p.2 ty] _ _) _ _ _
  simp only [List.forIn_cons, List.forIn_nil]
  refine wpAny_bind (wpAny_bind (m := hashByValue 7 (.int p.1 tx)) (wpAny_pure ?_))
  refine wpAny_pure ?_
  dsimp only
  refine wpAny_bind (wpAny_bind (m := hashByValue 7 (.int p.2 ty)) (wpAny_pure ?_))
  exact wpAny_pure (wpAny_pure (wpAny_pure h))
theorem notSeen {p : Int × Int} {t : Addr} {stored : List Value} {Q : Bool → Shared → Prop} (hp : PairAt s.heap p (.ref t)) (hst : ∀ v ∈ stored, ∃ q, PairAt s.heap q v) (h : Q false s) : wpAny (model P w) A (searchCouldBeSeen (.ref t) stored) Q E s := by
  unfold searchCouldBeSeen
  refine wpAny_bind (wpAny_forIn_list _ (fun rest b s' => b = (none, ()) ∧ s' = s ∧ ∀ v ∈ rest, ∃ q, PairAt s.heap q v) _ ?_ ?_ _ _ ⟨rfl, rfl, hst⟩)
  · rintro v rest b s' ⟨rfl, rfl, hr⟩
    obtain ⟨q, hq⟩ := hr v (.head _)
    have hrest : ∀ v ∈ rest, ∃ q, PairAt s'.heap q v := fun u hu => hr u (.tail _ hu)
    have hq' := hq
    obtain ⟨t', o, tx, ty, n, rfl, ho, hc, hd⟩ := hq
    dsimp only
    by_cases e : (t == t' || carriedByValue (.ref t) && carriedByValue (.ref t')) = true
    · rw [if_pos e]
      exact wpAny_pure ⟨rfl, rfl, hrest⟩
    · rw [if_neg e]
      refine wpAny_bind (wpAny_eqIsQuiet_tuple hp.key ?_)
      simp only [Bool.not_true, Bool.false_eq_true, if_false]
      refine wpAny_bind (wpAny_eqIsQuiet_tuple hq'.key ?_)
      simp only [Bool.not_true, Bool.false_eq_true, if_false]
      refine wpAny_bind (notStatement hp ?_)
      simp only [Bool.false_eq_true, if_false]
      refine wpAny_bind (notStatement hq' ?_)
      simp only [Bool.false_eq_true, if_false]
      exact wpAny_pure ⟨rfl, rfl, hrest⟩
  · rintro b s' ⟨rfl, rfl, -⟩
    exact wpAny_pure h
end
end Mine

-- SG
namespace Mine
/-- a small set of pairs -/
def OSP (w : World) (R : Int × Int → Value → Prop) (o : Obj) (qs : List (Int × Int)) : Prop :=
  o.ExactSet ∧ ∃ es ep t, o.data = .set es ep t ∧ SetP t (es.map (·.1)) ∧ t.plain = true ∧ (w.params.followText "set-order" = true ∨ t.led = true) ∧ es.toList.map (·.1) = qs.map (fun q => thp q.1 q.2) ∧ Are R qs (es.toList.map (·.2)) ∧ qs.Nodup ∧ ∀ q ∈ qs, Six q
theorem insertAt_list {α : Type} (xs : Array α) (p : Nat) (x : α) : (SetTable.insertAt xs p x).toList = xs.toList.take p ++ x :: xs.toList.drop p := by
  unfold SetTable.insertAt
  rw [Array.toList_append, Array.toList_push, Array.toList_extract, Array.toList_extract]
  simp only [List.extract_eq_take_drop, Nat.sub_zero, List.drop_zero, List.append_assoc, List.singleton_append]
  rw [List.take_of_length_le (l := xs.toList.drop p) (by simp)]
theorem insertAt_map {α β : Type} (f : α → β) (xs : Array α) (p : Nat) (x : α) : (SetTable.insertAt xs p x).map f = SetTable.insertAt (xs.map f) p (f x) := by
  apply Array.toList_inj.mp
  rw [Array.toList_map, insertAt_list, insertAt_list, Array.toList_map, List.map_append, List.map_cons, List.map_take, List.map_drop]
theorem Are.take {γ : Type} {R : γ → Value → Prop} {xs : List γ} {vs : List Value} (a : Are R xs vs) (n : Nat) : Are R (xs.take n) (vs.take n) := by
  refine ⟨by rw [List.length_take, List.length_take, a.1], fun i x e => ?_⟩
  rw [List.getElem?_take] at e ⊢
  split at e
  · rw [if_pos (by assumption)]; exact a.2 i x e
  · cases e
section
variable {w : World} {A : Around} {E : Value → Shared → Prop} {s : Shared}
theorem SetP.fits {t : SetTable} {hs : Array Int} (S : SetP t hs) : t.fits hs.size = true := by
  have h1 : t.place.toList.length ≤ 3 := by
    have := S.pl
    unfold U3 at this
    simpa using (List.mem_filter.mp this).2
  unfold SetTable.fits SetTable.fill
  rw [S.dum, S.sz, S.mask]
  have := S.sz
  simp at h1
  simp
  omega
theorem setAddP {R : Int × Int → Value → Prop} (hR : ∀ q v, R q v → PairAt s.heap q v) {a tt : Addr} {o : Obj} {qs : List (Int × Int)} {p : Int × Int} {Q : Bool → Shared → Prop} (ho : s.heap.get? a = some o) (hS : OSP w R o qs) (hpR : R p (.ref tt)) (h6 : Six p) (hl : qs.length < 3) (hu : A.units < cLine)
    (h : ∀ b h' o' qs' tk, Heap.SameBut a s.heap h' → h'.get? a = some o' → OSP w R o' qs' → qs'.Perm (if p ∈ qs then qs else p :: qs) → Q b { s with heap := h', toks := tk }) : wpAny (model P w) A (setAdd a (.ref tt)) Q E s := by
  have hp := hR _ _ hpR
  obtain ⟨hex, es, ep, t, hd, SP, hpl, hled, hhs, hvs, hnd, hsix⟩ := hS
  have hlen : es.size = qs.length := by have := congrArg List.length hhs; simpa using this
  unfold setAdd
  refine wpAny_holding (wpAny_bind (wpAny_pyHash_tuple hu hp.key ?_))
  rw [th_eq w h6]
  generalize htk : s.toks + ((enc p).length + 1) = tk
  have hf : t.fits es.size = true := by have := SP.fits; simpa using this
  have hat : ∀ (i : Nat) (x : Int), (es.map (·.1))[i]? = some x → (fun i => (es[i]?.map (·.1)).getD 0) i = x := fun i x e => by
    rw [Array.getElem?_map] at e
    obtain ⟨y, hy, rfl⟩ := Option.map_eq_some_iff.mp e
    simp [hy]
  have hidx : ∀ i : Nat, (es.map (·.1))[i]? = (qs[i]?).map fun q => thp q.1 q.2 := fun i => by
    rw [← Array.getElem?_toList, Array.toList_map, hhs, List.getElem?_map]
  unfold setAddHashed setAddHashedIn
  refine wpAny_holding (wpAny_bind (wpAny_setState_of ho hd hf ?_))
  dsimp only
  rw [if_neg (by simp [byScan, Value.scannable])]
  unfold setSearch setSearchFrom
  by_cases hm : p ∈ qs
  · obtain ⟨i, hi, e⟩ := List.getElem_of_mem hm
    have hqi : qs[i]? = some p := by simp [hi, e]
    obtain ⟨j, nx, hpr⟩ := SP.found hat (i := i) (h := thp p.1 p.2) (by rw [hidx, hqi]; rfl)
    obtain ⟨y, hy, hypR⟩ := hvs.get hqi
    have hyp := hR _ _ hypR
    rw [List.getElem?_map] at hy
    obtain ⟨ent, hent, hey⟩ := Option.map_eq_some_iff.mp hy
    have hes : es[i]? = some ent := by rw [← Array.getElem?_toList]; exact hent
    refine wpAny_bind (wpAny_bind (wpAny_setState_of ho hd hf ?_))
    dsimp only
    rw [if_neg (by unfold SetTable.gaveWay; rw [SP.mask]; decide)]
    split
    · rename_i met hmet
      have hmm : some met = some (.candidate j i nx) := hmet.symm.trans hpr
      cases hmm
      dsimp only
      obtain ⟨ent1, y⟩ := ent
      simp only at hey
      subst hey
      have hyp' := hyp
      obtain ⟨t2, o2, tx, ty, n2, rfl, -⟩ := hyp
      rw [hes]
      have fin : Q false { s with toks := tk } := h false s.heap o qs tk (Heap.SameBut.refl a s.heap) ho ⟨hex, es, ep, t, hd, SP, hpl, hled, hhs, hvs, hnd, hsix⟩ (by rw [if_pos hm])
      split
      · refine wpAny_bind (notSeen hp (fun v hv => ?_) ?_)
        · obtain ⟨en, hen, rfl⟩ := List.mem_map.mp hv
          have hen' : en ∈ es.toList := by simp at hen; simpa using hen.1
          obtain ⟨i2, hi2, e2⟩ := List.getElem_of_mem (List.mem_map_of_mem (f := (·.2)) hen')
          have hq2 : i2 < qs.length := by simp at hi2; omega
          obtain ⟨v2, hv2, hr2⟩ := hvs.get (i := i2) (x := qs[i2]) (by simp [hq2])
          have : v2 = en.2 := by rw [List.getElem?_eq_getElem hi2, e2] at hv2; exact (Option.some.inj hv2).symm
          exact ⟨_, this ▸ hR _ _ hr2⟩
        · simp only [Bool.false_eq_true, if_false]
          refine wpAny_bind (wpAny_holding (wpAny_eqBool_tuple hu hyp'.key hp.key ?_))
          rw [decide_eq_true rfl]
          refine wpAny_bind (wpAny_setState_of ho hd hf ?_)
          exact wpAny_pure (wpAny_pure fin)
      · refine wpAny_bind (wpAny_holding (wpAny_eqBool_tuple hu hyp'.key hp.key ?_))
        rw [decide_eq_true rfl]
        refine wpAny_bind (wpAny_setState_of ho hd hf ?_)
        exact wpAny_pure (wpAny_pure fin)
    · rename_i hmet
      exact (hmet _ hpr).elim
  · have hn : ∀ i : Nat, (es.map (·.1))[i]? ≠ some (thp p.1 p.2) := fun i e => by
      rw [hidx] at e
      obtain ⟨q, hq, e2⟩ := Option.map_eq_some_iff.mp e
      have hqm := List.mem_of_getElem? hq
      have := thp_inj (hsix q hqm) h6 e2
      exact hm (this ▸ hqm)
    obtain ⟨kk, hkk, c1, c2, hpr⟩ := SP.absent hat hn
    obtain ⟨g1, g2, g3, g4⟩ := SP.put (by simp; omega) hkk hn c1 c2
    refine wpAny_bind (wpAny_bind (wpAny_setState_of ho hd hf ?_))
    dsimp only
    rw [if_neg (by unfold SetTable.gaveWay; rw [SP.mask]; decide)]
    split
    · rename_i met hmet
      have hmm : some met = some (.empty (path (thp p.1 p.2) kk).j none) := hmet.symm.trans hpr
      cases hmm
      dsimp only
      refine wpAny_pure ?_
      dsimp only
      refine wpAny_bind (wpAny_setState_of ho hd hf ?_)
      dsimp only
      generalize hput : t.put (path (thp p.1 p.2) kk).j = tp at *
      obtain ⟨t', pp⟩ := tp
      dsimp only at g1 g2 g3 g4 ⊢
      rw [if_pos (g3.trans hpl)]
      refine wpAny_bind (hashByVal hp ?_)
      simp only [if_true]
      have hsz' : (SetTable.insertAt es pp (thp p.1 p.2, Value.ref tt)).size = es.size + 1 := by
        have := (insertAt_toList es pp (thp p.1 p.2, Value.ref tt)).length_eq
        simpa using this
      refine wpAny_bind (wpAny_storeSet_of ho hd ?_ (by rw [hsz', sizeLine_eq]; omega))
      have hfill : t'.tooFull = false := by
        have h3 : t'.place.toList.length ≤ 3 := by
          have := g2.pl
          unfold U3 at this
          simpa using (List.mem_filter.mp this).2
        unfold SetTable.tooFull SetTable.fill
        rw [g2.dum, g2.mask]
        simp at h3 ⊢
        omega
      rw [hfill]
      simp only [Bool.and_false, Bool.false_eq_true, if_false]
      have hget : (s.heap.update a (Obj.putSet (SetTable.insertAt es pp (thp p.1 p.2, Value.ref tt)) t')).get? a = some { o with data := .set (SetTable.insertAt es pp (thp p.1 p.2, Value.ref tt)) (ep + 1) t' } := by
        obtain ⟨c, dd, dt, sl⟩ := o
        simp only at hd
        subst hd
        exact Heap.get?_update_self _ ho rfl
      have hsb := Heap.SameBut.update s.heap a (Obj.putSet (SetTable.insertAt es pp (thp p.1 p.2, Value.ref tt)) t')
      refine wpAny_pure (h true _ _ (qs.take pp ++ p :: qs.drop pp) tk hsb hget ⟨hex, _, ep + 1, t', rfl, ?_, g3.trans hpl, ?_, ?_, ?_, ?_, ?_⟩ ?_)
      · rw [insertAt_map]; exact g2
      · exact hled.imp id fun e => g4.trans e
      · rw [insertAt_list, List.map_append, List.map_cons, List.map_take, List.map_drop, hhs]
        simp [List.map_take, List.map_drop]
      · rw [insertAt_list, List.map_append, List.map_cons, List.map_take, List.map_drop]
        exact (hvs.take pp).app ((hvs.drop pp).cons hpR)
      · have pm := List.perm_middle (a := p) (l₁ := qs.take pp) (l₂ := qs.drop pp)
        rw [List.take_append_drop] at pm
        exact pm.nodup_iff.mpr (List.nodup_cons.mpr ⟨hm, hnd⟩)
      · intro q hq
        have := (List.perm_middle (a := p) (l₁ := qs.take pp) (l₂ := qs.drop pp)).mem_iff.mp hq
        rw [List.take_append_drop] at this
        rcases List.mem_cons.mp this with rfl | hq
        · exact h6
        · exact hsix q hq
      · rw [if_neg hm]
        have := List.perm_middle (a := p) (l₁ := qs.take pp) (l₂ := qs.drop pp)
        rwa [List.take_append_drop] at this
    · rename_i hmet
      exact (hmet _ hpr).elim
end
end Mine

-- SH
namespace Mine
theorem set0_OSP (w : World) (R : Int × Int → Value → Prop) : OSP w R (set0 (setB w)) [] := by
  refine ⟨⟨rfl, rfl, rfl⟩, #[], 0, _, rfl, (by simpa using SetP.nil (setB w)), rfl, ?_, rfl, Are.nil, List.nodup_nil, fun _ h => (nomatch h)⟩
  show _ ∨ (!w.params.followText "set-order") = true
  cases w.params.followText "set-order" <;> simp
theorem OSP.mono {w : World} {R R' : Int × Int → Value → Prop} {o : Obj} {qs : List (Int × Int)} (h : OSP w R o qs) (hR : ∀ q v, R q v → R' q v) : OSP w R' o qs :=
  let ⟨h1, es, ep, t, h2, h3, h4, h5, h6, h7, h8⟩ := h; ⟨h1, es, ep, t, h2, h3, h4, h5, h6, h7.mono fun q _ v hv => hR q v hv, h8⟩
section
variable {C : Cx} {k : Kn} {m : Lm} {mu : Mu}
theorem Mt_setAddP {l1 l2 : Mu} {S : Addr} {v : Value} {o : Obj} {qs : List (Int × Int)} {p : Int × Int} {Q : Bool → Kn → Lm → Mu → Prop} (hmu : mu = l1 ++ (S, o) :: l2) (hl : OSP C.w (IsPair k) o qs) (hp : IsPair k p v) (h6 : Six p) (hlt : qs.length < 3)
    (h : ∀ b o' qs', OSP C.w (IsPair k) o' qs' → qs'.Perm (if p ∈ qs then qs else p :: qs) → Q b k m (l1 ++ (S, o') :: l2)) : Mt C k m mu (setAdd S v) Q := by
  obtain ⟨t, o0, a, b, rfl, r⟩ := id hp
  refine Mt_turn (Pr := fun b o' => ∃ qs', OSP C.w (IsPair k) o' qs' ∧ qs'.Perm (if p ∈ qs then qs else p :: qs)) hmu (fun s A E R hA St hR => ?_) fun b o' ⟨qs', h1, h2⟩ => h b o' qs' h1 h2
  exact setAddP (R := IsPair k) (fun q v hv => hv.at St.kin) (St.own _ (hmu ▸ mem_mid)) hl hp h6 hlt hA.unit fun b h' o' qs' tk hsb ho' hO hpm => hR b o' h' tk ⟨qs', hO, hpm⟩ (fun b ob hb e => (hsb.2 b hb).trans e) ho'
theorem MtC_setLoopP {n : Nat} (hn : C.n = n + 1) {k0 : Kn} {it S : Addr} {I : Nat → Obj → Prop} {xs : List (Int × Int)} (src : Src C.w k0 it I xs (IsPair k0)) (hsix : ∀ p ∈ xs, Six p) (h3 : xs.length ≤ 3) :
    ∀ (j i : Nat) (k : Kn) (m : Lm) (mu : Mu) (oi oS : Obj) (qs : List (Int × Int)), xs.length - i = j → i ≤ xs.length → k0.Le k → I i oi → OSP C.w (IsPair k) oS qs → qs.Perm (dd (xs.take i)) →
      MtC C k m ((it, oi) :: (S, oS) :: mu) (.builtin "set.update.loop" ⟨[.ref S, .ref it], []⟩) (fun f k' m' mu' => f = .ret .none ∧ k' = k ∧ m' = m ∧ ∃ oS' qs', mu' = (S, oS') :: mu ∧ OSP C.w (IsPair k) oS' qs' ∧ qs'.Perm (dd xs)) := by
  intro j
  induction j with
  | zero =>
    intro i k m mu oi oS qs hj hi hk hI hS hq s A hA St
    have hin : xs.length ≤ i := by omega
    refine codeAny_builtin PyProof.Rows.F.entry_set_update_loop ?_
    rw [Around.under_plainId PyProof.Rows.F.plain_set_update_loop _]
    show wpAny _ A.in1 (pyNext (.ref it) >>= _) _ _ s
    refine wpAny_bind (wpAny_mono (src.done (C.at n) k m [] ((S, oS) :: mu) oi i (fun r k' m' mu' => r = none ∧ k' = k ∧ m' = m ∧ mu' = (S, oS) :: mu) rfl hk hI hin ⟨rfl, rfl, rfl, rfl⟩ s A.in1 _ ((hn ▸ hA : OkA (n + 1) A).in1) (St.toAt n)) (fun r s' ⟨k', m', mu', af, S', e1, e2, e3, e4⟩ => ?_) fun _ _ e => e)
    subst e1 e2 e3 e4
    rw [List.take_of_length_le hin] at hq
    exact wpAny_pure ⟨_, _, _, af, S'.ofAt, rfl, rfl, rfl, oS, qs, rfl, hS, hq⟩
  | succ j ih =>
    intro i k m mu oi oS qs hj hi hk hI hS hq s A hA St
    have hlt : i < xs.length := by omega
    have hx : xs[i]? = some xs[i] := by simp [hlt]
    have h6 : Six xs[i] := hsix _ (List.getElem_mem hlt)
    generalize xs[i] = p at *
    have hlen : qs.length < 3 := by
      have h1 := hq.length_eq
      have h2 := dd_len (xs.take i)
      rw [List.length_take] at h2
      omega
    refine codeAny_builtin PyProof.Rows.F.entry_set_update_loop ?_
    rw [Around.under_plainId PyProof.Rows.F.plain_set_update_loop _]
    show wpAny _ A.in1 (pyNext (.ref it) >>= _) _ _ s
    refine wpAny_bind (wpAny_mono (src.next (C.at n) k m [] ((S, oS) :: mu) oi i p (fun r k' m' mu' => ∃ v oi', r = some v ∧ IsPair k p v ∧ I (i + 1) oi' ∧ k' = k ∧ m' = m ∧ mu' = (it, oi') :: (S, oS) :: mu) rfl hk hI hx (fun v oi' hi' hv => ⟨v, oi', rfl, hv.le hk, hi', rfl, rfl, rfl⟩) s A.in1 _ ((hn ▸ hA : OkA (n + 1) A).in1) (St.toAt n)) (fun r s' ⟨k', m', mu', af, S', v, oi', e1, hv, hi', e2, e3, e4⟩ => ?_) fun _ _ e => e)
    subst e1 e2 e3 e4
    show wpAny _ A.in1 (holding [v] (setAdd S v) >>= _) _ _ s'
    refine wpAny_bind (wpAny_holding (wpAny_mono (Mt_setAddP (C := C.at n) (l1 := [(it, oi')]) (l2 := mu) (Q := fun b k'' m'' mu'' => k'' = k' ∧ m'' = m' ∧ ∃ o' qs', mu'' = (it, oi') :: (S, o') :: mu ∧ OSP C.w (IsPair k') o' qs' ∧ qs'.Perm (if p ∈ qs then qs else p :: qs)) rfl hS hv h6 hlen (fun b o' qs' ho' hq' => ⟨rfl, rfl, o', qs', rfl, ho', hq'⟩) s' A.in1 _ ((hn ▸ hA : OkA (n + 1) A).in1) S') (fun b s₂ ⟨k₂, m₂, mu₂, af₂, S₂, e1, e2, o', qs', e3, ho', hq'⟩ => ?_) fun _ _ e => e))
    subst e1 e2 e3
    have hpm : qs'.Perm (dd (xs.take (i + 1))) := by
      rw [List.take_add_one, hx]
      show qs'.Perm (dd (xs.take i ++ [p]))
      rw [dd_push]
      unfold dda
      by_cases hm : p ∈ qs
      · rw [if_pos hm] at hq'
        rw [if_pos (hq.mem_iff.mp hm)]
        exact hq'.trans hq
      · rw [if_neg hm] at hq'
        rw [if_neg fun h => hm (hq.mem_iff.mpr h)]
        exact hq'.trans ((hq.cons p).trans (List.perm_append_singleton p _).symm)
    refine wpAny_pure ⟨plainId_quiet PyProof.Rows.F.plain_set_update_loop _, codeAny_mono (ih (i + 1) _ _ _ oi' o' qs' (by omega) hlt hk hi' ho' hpm s₂ A hA S₂.ofAt) fun r s₃ hr => ?_⟩
    cases r with
    | error e => exact hr.elim
    | ok f =>
      obtain ⟨k₃, m₃, mu₃, af₃, S₃, rfl, rfl, rfl, oS', qs3, rfl, hS', hq3⟩ := hr
      exact ⟨_, _, _, St.ok.after_trans af (St.ok.after_trans af₂ af₃), S₃, rfl, rfl, rfl, oS', qs3, rfl, hS', hq3⟩
/-- set(pairs) -/
theorem Mt_set_pairs {l : Addr} {o : Obj} {vs : List Value} {n : Nat} {ps : List (Int × Int)} {Q : Value → Kn → Lm → Mu → Prop} (hn : C.n = n + 2) (hk : k l = some o) (hl : OList o vs) (hv : Are (IsPair k) ps vs) (hsix : ∀ p ∈ ps, Six p) (h3 : ps.length ≤ 3)
    (h : ∀ S oS qs, TB < S → OSP C.w (IsPair k) oS qs → qs.Perm (dd ps) → Q (.ref S) k m ((S, oS) :: mu)) : Mt C k m mu (call (.type "set") [.ref l]) Q := by
  refine Mt_setOf (n := n + 1) hn (SetSrc.plain (T := "list") (.inl hk) hl.1 (by rw [isSubtype_type]; kernel_rfl) (by rw [isSubtype_type]; kernel_rfl) (by decide)) fun S hT => ?_
  refine Mt_pyIter_list (C := C.at (n + 1)) (.inl hk) hl fun it oi hT' hi => ?_
  intro s A hA St
  refine codeAny_mono (MtC_setLoopP (C := C.at (n + 1)) (n := n) rfl (Src.list C.w hl hk hv) hsix h3 ps.length 0 k m mu oi (set0 (setB C.w)) [] rfl (Nat.zero_le _) (Kn.Le.refl _) hi (set0_OSP _ _) (List.Perm.refl _) s A hA St) fun r s' hr => ?_
  cases r with
  | error e => exact hr.elim
  | ok f =>
    obtain ⟨k', m', mu', af, S', rfl, rfl, rfl, oS', qs, rfl, h1, h2⟩ := hr
    exact ⟨_, _, _, af, S', rfl, h S oS' qs hT h1 h2⟩
end
end Mine

-- SI
namespace Mine
/-! the walk over a set of pairs -/
theorem slot_siter_next : Slot "set_iterator" "__next__" "set_iterator.__next__" :=
  .of (owner := "set_iterator") (n := "__next__") (by rw [typeLookup_type, builtinLookup_eq_fast]; kernel_rfl) (by decide +kernel) (by decide +kernel) (by decide +kernel)
    (by first | exact .inl (by decide +kernel) | exact .inr (by decide +kernel)) (by rw [isSubtype_type]; kernel_rfl)
theorem entry_siter_next : entryFor table "set_iterator.__next__" = some Builtin.«set_iterator.__next__» := entryFor_of_fast (by kernel_rfl)
theorem args_siter_next (a : Value) : argsOk "set_iterator.__next__" ⟨[a], []⟩ := by unfold argsOk; kernel_rfl
theorem slot_siter_iter : Slot "set_iterator" "__iter__" "set_iterator.__iter__" :=
  .of (owner := "set_iterator") (n := "__iter__") (by rw [typeLookup_type, builtinLookup_eq_fast]; kernel_rfl) (by decide +kernel) (by decide +kernel) (by decide +kernel)
    (by first | exact .inl (by decide +kernel) | exact .inr (by decide +kernel)) (by rw [isSubtype_type]; kernel_rfl)
theorem entry_siter_iter : entryFor table "set_iterator.__iter__" = some Builtin.«dict_keyiterator.__iter__» :=
  entryFor_alias (id' := "dict_keyiterator.__iter__") (by kernel_rfl) rfl (by decide +kernel) (by kernel_rfl)
theorem args_siter_iter (a : Value) : argsOk "set_iterator.__iter__" ⟨[a], []⟩ := by unfold argsOk; kernel_rfl
theorem entry_set_iter : entryFor table "set.__iter__" = some Builtin.«frozenset.__iter__» :=
  entryFor_alias (id' := "frozenset.__iter__") (by kernel_rfl) rfl (by decide +kernel) (by kernel_rfl)
end Mine

-- SJ
namespace Mine
def slotAt (pl : List Nat) : Nat → Nat
  | 0 => 0
  | i + 1 => pl.getD i 0 + 1
theorem chk_below : (U3.all fun pl => (List.range (pl.length + 1)).all fun i => SetTable.below pl.toArray (slotAt pl i) == i) = true := by decide +kernel
theorem below_at {pl : List Nat} (h : pl ∈ U3) {i : Nat} (hi : i ≤ pl.length) : SetTable.below pl.toArray (slotAt pl i) = i := by
  have := List.all_eq_true.mp (List.all_eq_true.mp chk_below pl h) i (List.mem_range.mpr (by omega))
  simpa using this
def OSIt (w : World) (oi : Obj) (S : Addr) (pl : List Nat) (i n ep : Nat) : Prop := oi.cls = .type "set_iterator" ∧ ∃ slot : Nat, oi.data = .fields #[rawInt slot, rawInt i, .ref S, rawInt n, rawInt ep] ∧ (w.params.followText "set-order" = false → slot = slotAt pl i)
/-- the order in which it is walked -/
noncomputable def walkOrd (w : World) (S : Addr) (ep : Nat) (es : Array (Int × Value)) : Array (Int × Value) := if w.params.followText "set-order" = true then pickOrder (w.params.setOrder S ep) es else es
theorem walk_perm (w : World) (S : Addr) (ep : Nat) (es : Array (Int × Value)) : (walkOrd w S ep es).toList.Perm es.toList := by
  unfold walkOrd
  split
  · exact pickOrder_perm _ _
  · exact List.Perm.refl _
section
variable {w : World} {A : Around} {E : Value → Shared → Prop} {s : Shared}
theorem iterSP {S : Addr} {o : Obj} {es : Array (Int × Value)} {ep : Nat} {t : SetTable} {Q : Value → Shared → Prop} (ho : s.heap.get? S = some o) (hex : o.ExactSet) (hd : o.data = .set es ep t) (hf : t.fits es.size = true) (hpl : t.plain = true)
    (h : Q (.ref s.heap.objs.size) { s with heap := s.heap.push { cls := .type "set_iterator", data := .fields #[rawInt 0, rawInt 0, .ref S, rawInt es.size, rawInt ep] } }) : wpAny (model P w) A (pyIter (.ref S)) Q E s := by
  have hT : s.TypeIs (.ref S) "set" := ⟨o, ho, hex.1⟩
  refine wpAny_pyIter_slot hT F.slot_set_iter (wpAny_call_entry F.slot_set_iter hT entry_set_iter ?_ (F.args_set_iter_1 _))
  unfold Builtin.«frozenset.__iter__»
  refine wpAny_bind (m := Builtin.Frozenset.slot0 "__iter__" ⟨[.ref S], []⟩) (wpAny_pure ?_)
  refine wpAny_bind ?_
  unfold Builtin.Frozenset.sizeOf setEntries
  refine wpAny_bind (wpAny_bind (wpAny_setState_of ho hd hf (wpAny_pure (wpAny_pure ?_))))
  refine wpAny_bind ?_
  unfold setDrawn
  refine wpAny_bind (wpAny_setState_of ho hd hf ?_)
  dsimp only
  refine wpAny_bind ?_
  unfold setsByText
  refine wpAny_bind (wpAny_askSetting (wpAny_pure ?_))
  refine wpAny_pure ?_
  have hdr : ∀ b : Bool, (!b && (!t.plain && decide (es.size > 1))) = false := fun b => by rw [hpl]; simp
  rw [if_neg (by intro hc; have hc' : (!w.params.followText "set-order" && (!t.plain && decide (es.size > 1))) = true := hc; rw [hdr] at hc'; cases hc')]
  refine wpAny_bind (wpAny_pure ?_)
  unfold setEpoch
  refine wpAny_bind (wpAny_bind (wpAny_setState_of ho hd hf (wpAny_pure ?_)))
  refine wpAny_bind (wpAny_newObj_type (wpAny_pure ⟨_, rfl, "set_iterator", _, ⟨_, Heap.get?_push_size _ rfl, rfl⟩, slot_siter_next.lookup, ?_⟩) (by size_fits))
  exact h
theorem setNextSP {S : Addr} {o : Obj} {es : Array (Int × Value)} {ep i slot : Nat} {t : SetTable} {Q : Option (Value × Nat) → Shared → Prop} (ho : s.heap.get? S = some o) (hd : o.data = .set es ep t) (SP : SetP t (es.map (·.1))) (hpl : t.plain = true) (hled : w.params.followText "set-order" = true ∨ t.led = true)
    (hslot : w.params.followText "set-order" = false → slot = slotAt t.place.toList i) (hi : i ≤ es.size)
    (h : ∀ r, (match (walkOrd w S ep es)[i]? with | some e => ∃ nx, r = some (e.2, nx) ∧ (w.params.followText "set-order" = false → nx = slotAt t.place.toList (i + 1)) | none => r = none) → Q r s) : wpAny (model P w) A (setNext S slot i ep) Q E s := by
  have hf : t.fits es.size = true := by have := SP.fits; simpa using this
  have hpsz : t.place.size = es.size := by have := SP.sz; simpa using this
  unfold setNext
  refine wpAny_bind (wpAny_setState_of ho hd hf ?_)
  dsimp only
  unfold setsByText
  refine wpAny_bind (wpAny_bind (wpAny_askSetting (wpAny_pure ?_)))
  by_cases htx : w.params.followText "set-order" = true
  · rw [if_pos (show ({ program := (model P w).prog, params := (model P w).w.params } : Setting).params.followText "set-order" = true from htx), if_neg (by simp)]
    refine wpAny_bind ?_
    unfold setWalk
    refine wpAny_bind (wpAny_setState_of ho hd hf ?_)
    dsimp only
    unfold setsByText
    refine wpAny_bind (wpAny_bind (wpAny_askSetting (wpAny_pure ?_)))
    rw [if_pos (show ({ program := (model P w).prog, params := (model P w).w.params } : Setting).params.followText "set-order" = true from htx)]
    refine wpAny_bind (wpAny_askSetting (wpAny_pure ?_))
    refine wpAny_pure (h _ ?_)
    have e : walkOrd w S ep es = pickOrder (w.params.setOrder S ep) es := by unfold walkOrd; rw [if_pos htx]
    rw [e]
    show match (pickOrder (w.params.setOrder S ep) es)[i]? with | some e => ∃ nx, Option.map (fun e : Int × Value => (e.2, slot)) (pickOrder (w.params.setOrder S ep) es)[i]? = some (e.2, nx) ∧ _ | none => Option.map (fun e : Int × Value => (e.2, slot)) (pickOrder (w.params.setOrder S ep) es)[i]? = none
    cases (pickOrder (w.params.setOrder S ep) es)[i]? with
    | none => rfl
    | some e => exact ⟨slot, rfl, fun q => by rw [htx] at q; cases q⟩
  · have htx' : w.params.followText "set-order" = false := by simpa using htx
    rw [if_neg (show ¬ ({ program := (model P w).prog, params := (model P w).w.params } : Setting).params.followText "set-order" = true from htx)]
    rw [if_neg (by intro hc; have hc' : (!t.plain && decide (es.size > 1)) = true := hc; rw [hpl] at hc'; cases hc')]
    have hl := hled.resolve_left htx
    refine wpAny_bind ?_
    show wpAny _ _ (if (!t.led && !es.isEmpty) = true then _ else pure PUnit.unit) _ _ _
    rw [if_neg (by rw [hl]; simp)]
    refine wpAny_pure (wpAny_pure (h _ ?_))
    have e : walkOrd w S ep es = es := by unfold walkOrd; rw [if_neg htx]
    rw [e, hslot htx']
    have hb := below_at SP.pl (i := i) (by simp; omega)
    rw [show t.place.toList.toArray = t.place by simp] at hb
    rw [hb]
    cases he : es[i]? with
    | none => rfl
    | some en =>
      have hlt : i < es.size := (Array.getElem?_eq_some_iff.mp he).1
      have hp : t.place[i]? = some (t.place[i]'(by omega)) := by simp [hpsz, hlt]
      rw [hp]
      refine ⟨_, rfl, fun _ => ?_⟩
      show _ = t.place.toList.getD i 0 + 1
      simp [List.getD, hpsz, hlt]
theorem nextSP {it S : Addr} {oi o : Obj} {es : Array (Int × Value)} {ep i : Nat} {t : SetTable} {y : Int} {x : Value} {Q : Option Value → Shared → Prop} (hoi : s.heap.get? it = some oi) (hi : OSIt w oi S t.place.toList i es.size ep) (ho : s.heap.get? S = some o) (hex : o.ExactSet) (hd : o.data = .set es ep t) (SP : SetP t (es.map (·.1))) (hpl : t.plain = true) (hled : w.params.followText "set-order" = true ∨ t.led = true)
    (he : (walkOrd w S ep es)[i]? = some (y, x)) (hQ : ∀ oi' h', OSIt w oi' S t.place.toList (i + 1) es.size ep → h'.get? it = some oi' → Heap.SameBut it s.heap h' → Q (some x) { s with heap := h' }) : wpAny (model P w) A (pyNext (.ref it)) Q E s := by
  obtain ⟨ci, slot, di, hslot⟩ := hi
  have hf : t.fits es.size = true := by have := SP.fits; simpa using this
  have hT : s.TypeIs (.ref it) "set_iterator" := ⟨oi, hoi, ci⟩
  unfold pyNext
  refine wpAny_bind (wpAny_attempt (wpAny_callSpecial?_slot (name := Str.ofString "__next__") hT slot_siter_next (wpAny_call_entry slot_siter_next hT entry_siter_next ?_ (args_siter_next _))))
  unfold Builtin.«set_iterator.__next__»
  refine wpAny_bind (m := slotArgs "__next__" 0 ⟨[.ref it], []⟩) (wpAny_pure ?_)
  refine wpAny_bind (wpAny_fieldsOf hoi di ?_)
  dsimp only [rawInt]
  refine wpAny_bind ?_
  unfold setEntries
  refine wpAny_bind (wpAny_setState_of ho hd hf (wpAny_pure ?_))
  rw [if_neg (by simp)]
  refine wpAny_bind (setNextSP (S := S) (slot := slot) (i := i) (ep := ep) ho hd SP hpl hled hslot ?_ fun r hr => ?_)
  · have h1 := (Array.getElem?_eq_some_iff.mp he).1
    have h2 := (walk_perm w S ep es).length_eq
    simp at h2
    omega
  · rw [he] at hr
    obtain ⟨nx, rfl, hnx⟩ := hr
    dsimp only
    refine wpAny_bind (wpAny_setField hoi di (by simp) ?_)
    have h1 := Heap.get?_update_self (Obj.mapFields (·.setIfInBounds 0 (Value.int (nx : Int) 0))) hoi (Obj.isFreed_of_fields (Obj.data_mapFields di _))
    have s1 := Heap.SameBut.update s.heap it (Obj.mapFields (·.setIfInBounds 0 (Value.int (nx : Int) 0)))
    have d1 := Obj.data_mapFields di (·.setIfInBounds 0 (Value.int (nx : Int) 0))
    refine wpAny_bind (wpAny_setField h1 d1 (by simp) ?_)
    have h2 := Heap.get?_update_self (Obj.mapFields (·.setIfInBounds 1 (Value.int ((i : Int) + 1) 0))) h1 (Obj.isFreed_of_fields (Obj.data_mapFields d1 _))
    have s2 := Heap.SameBut.update (s.heap.update it (Obj.mapFields (·.setIfInBounds 0 (Value.int (nx : Int) 0)))) it (Obj.mapFields (·.setIfInBounds 1 (Value.int ((i : Int) + 1) 0)))
    refine wpAny_pure ⟨_, rfl, wpAny_pure (hQ _ _ ⟨?_, nx, ?_, hnx⟩ h2 (s1.trans s2))⟩
    · exact (Obj.cls_mapFields ..).trans ((Obj.cls_mapFields ..).trans ci)
    · rw [Obj.data_mapFields d1]
      simp [rawInt]
theorem nextSP_end {it S : Addr} {oi o : Obj} {es : Array (Int × Value)} {ep i : Nat} {t : SetTable} {Q : Option Value → Shared → Prop} (hh : A.handled = none) (hoi : s.heap.get? it = some oi) (hi : OSIt w oi S t.place.toList i es.size ep) (ho : s.heap.get? S = some o) (hex : o.ExactSet) (hd : o.data = .set es ep t) (SP : SetP t (es.map (·.1))) (hpl : t.plain = true) (hled : w.params.followText "set-order" = true ∨ t.led = true)
    (he : i = es.size) (hQ : ∀ h', Heap.ExtBut it s.heap h' → Q none { s with heap := h' }) : wpAny (model P w) A (pyNext (.ref it)) Q E s := by
  obtain ⟨ci, slot, di, hslot⟩ := hi
  have hf : t.fits es.size = true := by have := SP.fits; simpa using this
  have hT : s.TypeIs (.ref it) "set_iterator" := ⟨oi, hoi, ci⟩
  unfold pyNext
  refine wpAny_bind (wpAny_attempt (wpAny_callSpecial?_slot (name := Str.ofString "__next__") hT slot_siter_next (wpAny_call_entry slot_siter_next hT entry_siter_next ?_ (args_siter_next _))))
  unfold Builtin.«set_iterator.__next__»
  refine wpAny_bind (m := slotArgs "__next__" 0 ⟨[.ref it], []⟩) (wpAny_pure ?_)
  refine wpAny_bind (wpAny_fieldsOf hoi di ?_)
  dsimp only [rawInt]
  refine wpAny_bind ?_
  unfold setEntries
  refine wpAny_bind (wpAny_setState_of ho hd hf (wpAny_pure ?_))
  rw [if_neg (by simp)]
  refine wpAny_bind (setNextSP (S := S) (slot := slot) (i := i) (ep := ep) ho hd SP hpl hled hslot (by omega) fun r hr => ?_)
  have h2 := (walk_perm w S ep es).length_eq
  simp at h2
  rw [show (walkOrd w S ep es)[i]? = none from Array.getElem?_eq_none (by omega)] at hr
  subst hr
  dsimp only
  refine wpAny_bind (wpAny_setField hoi di (by simp) ?_)
  refine wpAny_bind ?_
  simp only [newExc, newTuple]
  refine wpAny_bind (wpAny_newObj_type ?_ (by size_fits))
  refine wpAny_bind (m := firstArgMember _ _) (wpAny_of_eq (a := Value.none) (by first | rfl | (simp only [firstArgMember]; rfl)) ?_)
  refine wpAny_newObj_type ?_ (by size_fits)
  simp only [raiseNew]
  refine wpAny_bind (wpAny_handled ?_)
  rw [show A.in1.handled = none from hh]
  refine wpAny_bind (wpAny_pure (wpAny_throw ?_))
  refine wpAny_bind (wpAny_isInstance (T := "StopIteration") (b := true) ⟨_, Heap.get?_push_size _ rfl, rfl⟩ isSubtype_stop ?_)
  exact wpAny_pure (hQ _ (((Heap.SameBut.update ..).extBut.push _).push _))
end
end Mine

-- SK
namespace Mine
theorem Are.permL {γ : Type} {R : γ → Value → Prop} {α : Type} (f : α → Value) : ∀ {l l' : List α}, l.Perm l' → ∀ {qs : List γ}, Are R qs (l.map f) → ∃ qs', qs'.Perm qs ∧ Are R qs' (l'.map f)
  | _, _, .nil, qs, h => ⟨qs, List.Perm.refl _, h⟩
  | _, _, .cons x p, qs, h => by
    match qs, h with
    | [], h => have := h.1; simp at this
    | q :: r, h =>
      obtain ⟨h1, h2⟩ := Are.tail h
      obtain ⟨r', e1, e2⟩ := Are.permL f p h2
      exact ⟨q :: r', e1.cons q, e2.cons h1⟩
  | _, _, .swap x y l, qs, h => by
    match qs, h with
    | [], h => have := h.1; simp at this
    | [a], h => have := h.1; simp at this
    | a :: b :: r, h =>
      obtain ⟨h1, h2⟩ := Are.tail h
      obtain ⟨h3, h4⟩ := Are.tail h2
      exact ⟨b :: a :: r, List.Perm.swap _ _ _, (h4.cons h1).cons h3⟩
  | _, _, .trans p q, qs, h => by
    obtain ⟨q1, e1, e2⟩ := Are.permL f p h
    obtain ⟨q2, e3, e4⟩ := Are.permL f q e2
    exact ⟨q2, e3.trans e1, e4⟩
section
variable {C : Cx} {k : Kn} {m : Lm} {mu : Mu}
theorem Mt_pyIter_setP {S : Addr} {oS : Obj} {qs : List (Int × Int)} {Q : Value → Kn → Lm → Mu → Prop} (hk : k S = some oS) (hS : OSP C.w (IsPair k) oS qs)
    (h : ∀ it oi (I : Nat → Obj → Prop) qs', qs'.Perm qs → Src C.w k it I qs' (IsPair k) → I 0 oi → Q (.ref it) k m ((it, oi) :: mu)) : Mt C k m mu (pyIter (.ref S)) Q := by
  obtain ⟨hex, es, ep, t, hd, SP, hpl, hled, hhs, hvs, hnd, hsix⟩ := hS
  have hf : t.fits es.size = true := by have := SP.fits; simpa using this
  obtain ⟨qs', hq, hws⟩ := Are.permL (·.2) (walk_perm C.w S ep es).symm hvs
  have hlen : qs'.length = es.size := by
    have h1 := hws.1
    have h2 := (walk_perm C.w S ep es).length_eq
    simp at h1 h2
    omega
  have hwl : (walkOrd C.w S ep es).size = es.size := by have h2 := (walk_perm C.w S ep es).length_eq; simpa using h2
  refine Mt_newM (Pr := fun oi => OSIt C.w oi S t.place.toList 0 es.size ep) (fun s A E R hA St hR => iterSP (St.kin _ _ hk) hex hd hf hpl (hR _ _ s.toks ⟨rfl, 0, rfl, fun _ => rfl⟩ (fun b ob e => Heap.get?_push_of_some _ e) (Heap.get?_push_size _ rfl))) fun it oi hT hi => ?_
  refine h it oi (fun i oi => i ≤ es.size ∧ OSIt C.w oi S t.place.toList i es.size ep) qs' hq ⟨⟨"set_iterator", by decide, fun i o h => h.2.1⟩, ?_, ?_, ?_⟩ ⟨Nat.zero_le _, hi⟩
  · intro C' k' m l1 l2 oi i p Q hw le ⟨hi1, hi⟩ hp h
    obtain ⟨v, hv, hr⟩ := hws.get hp
    rw [List.getElem?_map] at hv
    obtain ⟨⟨y, x⟩, he, e⟩ := Option.map_eq_some_iff.mp hv
    simp only at e
    subst e
    have hlt : i < es.size := by
      have := (List.getElem?_eq_some_iff.mp hp).1
      omega
    have he' : (walkOrd C.w S ep es)[i]? = some (y, x) := by rw [← Array.getElem?_toList]; exact he
    exact Mt_turn (Pr := fun v o' => v = some x ∧ OSIt C.w o' S t.place.toList (i + 1) es.size ep) rfl (fun s A E R hA St hR => by
      have hkk := St.kin _ _ (le _ _ hk)
      rw [hw]
      exact nextSP (St.own _ mem_mid) hi hkk hex hd SP hpl hled he' fun oi' h' hi' ho' hs => hR _ oi' h' s.toks ⟨rfl, hi'⟩ (fun b ob hb e => (hs.2 b hb).trans e) ho') fun v o' ⟨e, hi'⟩ => e ▸ h _ o' ⟨hlt, hi'⟩ hr
  · intro C' k' m l1 l2 oi i Q hw le ⟨hi1, hi⟩ hge h
    exact Mt_lose (Pr := fun v => v = none) rfl (fun s A E R hA St hR => by
      have hkk := St.kin _ _ (le _ _ hk)
      rw [hw]
      exact nextSP_end hA.handled (St.own _ mem_mid) hi hkk hex hd SP hpl hled (by omega) fun h' he => hR _ h' s.toks rfl he) fun v e => e ▸ h
  · intro C' k' m mu oi i Q hw ⟨hi1, hi⟩ hm h
    refine Mt_of (fun s A E R hA St hR => ?_) h
    have hT : s.TypeIs (.ref it) "set_iterator" := ⟨oi, St.own _ hm, hi.1⟩
    refine wpAny_pyIter_slot hT slot_siter_iter (wpAny_call_entry slot_siter_iter hT entry_siter_iter ?_ (args_siter_iter _))
    show wpAny _ _ (ret (.ref it)) _ _ s
    exact wpAny_pure ⟨_, rfl, "set_iterator", _, hT, slot_siter_next.lookup, hR s.toks⟩
/-- the filling of a list, from a source -/
theorem MtC_extS {γ : Type} {n : Nat} (hn : C.n = n + 1) {k0 : Kn} {it D : Addr} {I : Nat → Obj → Prop} {xs : List γ} {R : γ → Value → Prop} (src : Src C.w k0 it I xs R) (hsz : xs.length ≤ 2 ^ 20) (r : Value) :
    ∀ (j i : Nat) (k : Kn) (m : Lm) (mu : Mu) (oi oD : Obj) (vs : List Value), xs.length - i = j → i ≤ xs.length → k0.Le k → I i oi → OList oD vs → Are R (xs.take i) vs →
      MtC C k m ((D, oD) :: (it, oi) :: mu) (.builtin "list.extend.loop" ⟨[.ref D, .ref it, r], []⟩) (fun f k' m' mu' => f = .ret r ∧ k' = k ∧ m' = m ∧ ∃ oD' vs', mu' = (D, oD') :: mu ∧ OList oD' vs' ∧ Are R xs vs') := by
  intro j
  induction j with
  | zero =>
    intro i k m mu oi oD vs hj hi hk hI hD hvs s A hA St
    have hin : xs.length ≤ i := by omega
    refine codeAny_builtin PySem.F.entry_extend_loop ?_
    rw [Around.under_plainId PySem.F.plain_extend_loop _]
    show wpAny _ A.in1 (pyNext (.ref it) >>= _) _ _ s
    refine wpAny_bind (wpAny_mono (src.done (C.at n) k m [(D, oD)] mu oi i (fun r k' m' mu' => r = none ∧ k' = k ∧ m' = m ∧ mu' = (D, oD) :: mu) rfl hk hI hin ⟨rfl, rfl, rfl, rfl⟩ s A.in1 _ ((hn ▸ hA : OkA (n + 1) A).in1) (St.toAt n)) (fun r s' ⟨k', m', mu', af, S', e1, e2, e3, e4⟩ => ?_) fun _ _ e => e)
    subst e1 e2 e3 e4
    rw [List.take_of_length_le hin] at hvs
    exact wpAny_pure ⟨_, _, _, af, S'.ofAt, rfl, rfl, rfl, oD, vs, rfl, hD, hvs⟩
  | succ j ih =>
    intro i k m mu oi oD vs hj hi hk hI hD hvs s A hA St
    have hlt : i < xs.length := by omega
    have hx : xs[i]? = some xs[i] := by simp [hlt]
    generalize xs[i] = x at *
    refine codeAny_builtin PySem.F.entry_extend_loop ?_
    rw [Around.under_plainId PySem.F.plain_extend_loop _]
    show wpAny _ A.in1 (pyNext (.ref it) >>= _) _ _ s
    refine wpAny_bind (wpAny_mono (src.next (C.at n) k m [(D, oD)] mu oi i x (fun r k' m' mu' => ∃ v oi', r = some v ∧ R x v ∧ I (i + 1) oi' ∧ k' = k ∧ m' = m ∧ mu' = (D, oD) :: (it, oi') :: mu) rfl hk hI hx (fun v oi' hi' hv => ⟨v, oi', rfl, hv, hi', rfl, rfl, rfl⟩) s A.in1 _ ((hn ▸ hA : OkA (n + 1) A).in1) (St.toAt n)) (fun r s' ⟨k', m', mu', af, S', v, oi', e1, hv, hi', e2, e3, e4⟩ => ?_) fun _ _ e => e)
    subst e1 e2 e3 e4
    show wpAny _ A.in1 (updateSeq D (·.push v) >>= _) _ _ _
    refine wpAny_bind ?_
    obtain ⟨c4, d4⟩ := hD.eq
    subst d4
    have hlen : vs.length = i := by have := hvs.1; rw [List.length_take] at this; omega
    have g4 := S'.own _ (.head _)
    have g5 := Heap.get?_update_self (Obj.mapSeq (·.push v)) g4 rfl
    have S5 := Stt.turned (l1 := []) (o' := Obj.mapSeq (·.push v) _) S' (fun b o hb e => (Heap.get?_update_other _ _ (Ne.symm hb)).trans e) g5
    have hz : (2 : Nat) ^ 20 ≤ sizeLine := by decide +kernel
    have hz1 : vs.toArray.size ≤ sizeLine := by rw [List.size_toArray]; omega
    have hz2 : (vs.toArray.push v).size ≤ sizeLine + 1 := by rw [Array.size_push]; omega
    refine wpAny_updateSeq g4 rfl (wpAny_pure ⟨plainId_quiet PySem.F.plain_extend_loop _, ?_⟩) hz1 hz2
    have hvs' : Are R (xs.take (i + 1)) (vs ++ [v]) := by
      rw [List.take_add_one, hx]
      exact hvs.push hv
    have tne : D ≠ TB := S'.muT _ (.head _)
    refine codeAny_mono (ih (i + 1) _ _ mu oi' _ (vs ++ [v]) (by omega) hlt hk hi' ⟨rfl, rfl, rfl, _, by simp [Obj.mapSeq]; rfl⟩ hvs' _ A hA S5.ofAt) fun r s₃ hr3 => ?_
    cases r with
    | error e => exact hr3.elim
    | ok f =>
      obtain ⟨k₃, m₃, mu₃, af₃, S₃, rfl, rfl, rfl, q⟩ := hr3
      exact ⟨_, _, _, St.ok.after_trans af (St.ok.after_trans ⟨_, _, _, ⟨_, rfl⟩, St.ok.refl _, TabG.of_eq (Heap.get?_update_other _ _ tne)⟩ af₃), S₃, rfl, rfl, rfl, q⟩
end
end Mine

-- SL
namespace Mine
theorem split_set_len : splitId "set.__len__" = some ("set", "__len__") := by decide +kernel
section
variable {C : Cx} {k : Kn} {m : Lm} {mu : Mu}
theorem hint_set {w : World} {A : Around} {E : Value → Shared → Prop} {s : Shared} {S : Addr} {Q : Bool → Shared → Prop} (hT : s.TypeIs (.ref S) "set") (h : Q false s) : wpAny (model P w) A (Builtin.List.listLengthHint (.ref S)) Q E s := by
  unfold Builtin.List.listLengthHint
  refine wpAny_bind (wpAny_specialOf hT F.slot_set_len.lookup ?_)
  generalize hid : ("set.__len__" : String) = id0
  dsimp only
  rw [show splitId id0 = some ("set", "__len__") from by subst hid; exact split_set_len]
  dsimp only
  refine wpAny_bind (wpAny_isInstance (b := true) hT (by rw [isSubtype_type]; kernel_rfl) ?_)
  subst hid
  simp only [Bool.not_true, Bool.false_eq_true, if_false]
  rw [if_pos (by decide +kernel)]
  refine wpAny_bind (wpAny_typeOf hT ?_)
  exact wpAny_pure h
/-- sorted(a set of pairs) -/
theorem Mt_sorted_set {S : Addr} {oS : Obj} {n : Nat} {qs : List (Int × Int)} {Q : Value → Kn → Lm → Mu → Prop} (hn : C.n = n + 2) (hk : k S = some oS) (hS : OSP C.w (IsPair k) oS qs) (h3 : qs.length ≤ 3) (hsm : ∀ p ∈ qs, Small p)
    (h : ∀ D o us qs', TB < D → OList o us → Are (IsPair k) qs' us → qs'.Perm qs → qs'.Pairwise (fun a b => pcode a ≤ pcode b) → Q (.ref D) k m ((D, o) :: mu)) : Mt C k m mu (call (.builtin "sorted") [.ref S]) Q := fun s A E hA St => by
  have hnd : qs.Nodup := hS.2.choose_spec.choose_spec.choose_spec.2.2.2.2.2.2.1
  have hcl : oS.cls = .type "set" := hS.1.1
  have hA1 : OkA (n + 1) A.in1 := (hn ▸ hA : OkA (n + 1 + 1) A).in1
  refine Calls.call_function_entry kind_sorted plain_sorted entry_sorted (args_sorted1 _) ?_
  unfold Builtin.«sorted»
  refine wpAny_bind (m := checkCount "sorted" 1 1 _) (wpAny_pure ?_)
  refine wpAny_bind ?_
  show wpAny (model P C.w) A.in1 (collect (.ref S)) _ _ s
  unfold collect
  refine wpAny_bind (wpAny_runValue (codeAny_builtin PySem.F.entry_proto_collect ?_))
  rw [Around.under_plainId PySem.F.plain_proto_collect _]
  show wpAny _ A.in1.in1 (newList [] >>= fun l => again (.builtin "list.__iadd__" ⟨[l, .ref S], []⟩)) _ _ s
  refine wpAny_bind (wpAny_newObj_type ?_)
  have S₁ : Stt C k m ((s.heap.objs.size, lst0) :: mu) (s.heap.push lst0) := St.pushMu rfl
  have hDT := St.lt_size
  have fin0 := St.newAt (h' := s.heap.push lst0) (fun b ob e => Heap.get?_push_of_some _ e) (Nat.le_refl _) (Heap.get?_push_size _ rfl)
  refine wpAny_pure ⟨plainId_quiet PySem.F.plain_list_iadd _, codeAny_builtin PySem.F.entry_list_iadd ?_⟩
  rw [Around.under_plainId PySem.F.plain_list_iadd _]
  show wpAny (model P C.w) A.in1.in1 (Builtin.List.listExtendWith (.ref s.heap.objs.size) (.ref S) (.ref s.heap.objs.size)) _ _ { s with heap := s.heap.push lst0 }
  unfold Builtin.List.listExtendWith
  have hT1 : Shared.TypeIs { s with heap := s.heap.push lst0 } (.ref S) "set" := ⟨oS, S₁.kin _ _ hk, hcl⟩
  refine wpAny_bind (wpAny_typeOf hT1 ?_)
  have hne : s.heap.objs.size ≠ S := fun q => by have := St.kin _ _ hk; rw [← q, fresh_size] at this; cases this
  have h1 : Builtin.List.listSameRef (.ref s.heap.objs.size) (.ref S) = false := by simp [Builtin.List.listSameRef, hne]
  rw [if_neg (by rw [h1]; decide)]
  refine wpAny_bind (wpAny_mono (Mt_pyIter_setP (C := C.at n) (mu := (s.heap.objs.size, lst0) :: mu) (m := m) (Q := fun v k' m' mu' => ∃ it oi I qs', v = .ref it ∧ k' = k ∧ m' = m ∧ mu' = (it, oi) :: (s.heap.objs.size, lst0) :: mu ∧ qs'.Perm qs ∧ Src C.w k it I qs' (IsPair k) ∧ I 0 oi) hk hS (fun it oi I qs' hq src hi => ⟨it, oi, I, qs', rfl, rfl, rfl, rfl, hq, src, hi⟩) { s with heap := s.heap.push lst0 } A.in1.in1 _ hA1.in1 (S₁.toAt n)) (fun v s₂ ⟨k₂, m₂, mu₂, af₂, S₂, it, oi, I, qs', e1, e2, e3, e4, hq, src, hi⟩ => ?_) fun _ _ e => e)
  subst e1 e2 e3 e4
  have hT2 : s₂.TypeIs (.ref S) "set" := ⟨oS, S₂.kin _ _ hk, hcl⟩
  refine wpAny_bind (wpAny_holding (hint_set hT2 ?_))
  rw [if_pos (by decide +kernel)]
  refine wpAny_bind (wpAny_rule (wpAny_bind ?_))
  show wpAny _ A.in1.in1 (updateSeq s.heap.objs.size (·.push .none) >>= fun _ => updateSeq s.heap.objs.size (·.pop)) _ _ _
  have S₃ : Stt (C.at n) k₂ m₂ ((s.heap.objs.size, lst0) :: (it, oi) :: mu) s₂.heap := S₂.perm (List.Perm.swap _ _ _)
  have g4 := S₃.own _ (.head _)
  refine wpAny_bind (wpAny_updateSeq g4 rfl ?_)
  have g5 := Heap.get?_update_self (Obj.mapSeq (·.push Value.none)) g4 rfl
  have S5 := Stt.turned (l1 := []) (o' := Obj.mapSeq (·.push Value.none) lst0) S₃ (fun b o hb e => (Heap.get?_update_other _ _ (Ne.symm hb)).trans e) g5
  refine wpAny_updateSeq g5 rfl ?_
  have g6 := Heap.get?_update_self (Obj.mapSeq (·.pop)) g5 rfl
  have S6 := Stt.turned (l1 := []) (o' := Obj.mapSeq (·.pop) (Obj.mapSeq (·.push Value.none) lst0)) S5 (fun b o hb e => (Heap.get?_update_other _ _ (Ne.symm hb)).trans e) g6
  have tne : s.heap.objs.size ≠ TB := S₃.muT _ (.head _)
  have t6 : ((s₂.heap.update s.heap.objs.size (Obj.mapSeq (·.push Value.none))).update s.heap.objs.size (Obj.mapSeq (·.pop))).get? TB = s₂.heap.get? TB := (Heap.get?_update_other _ _ tne).trans (Heap.get?_update_other _ _ tne)
  generalize ((s₂.heap.update s.heap.objs.size (Obj.mapSeq (·.push Value.none))).update s.heap.objs.size (Obj.mapSeq (·.pop))) = h6 at *
  have hql : qs'.length ≤ 3 := by rw [hq.length_eq]; exact h3
  refine wpAny_pure ⟨plainId_quiet PySem.F.plain_extend_loop _, codeAny_mono (MtC_extS (C := C.at (n + 1)) (n := n) rfl src (by omega) (.ref s.heap.objs.size) qs'.length 0 k₂ m₂ mu oi _ [] rfl (Nat.zero_le _) (Kn.Le.refl _) hi ⟨rfl, rfl, rfl, _, rfl⟩ Are.nil { s₂ with heap := h6 } A.in1 hA1 (S6.ofAt.toAt (n + 1))) fun r s₇ hr => ?_⟩
  cases r with
  | error e => exact hr.elim
  | ok f =>
    obtain ⟨k₇, m₇, mu₇, af₇, S₇, rfl, rfl, rfl, oD, vs, rfl, hoD, hvs⟩ := hr
    obtain ⟨c, hc⟩ := hoD.eq
    subst hc
    show wpAny (model P C.w) A.in1 (load s.heap.objs.size >>= _) _ _ s₇
    refine wpAny_bind (wpAny_load (S₇.own _ (.head _)) ?_)
    show wpAny (model P C.w) A.in1 (pure vs.toArray.toList) _ _ s₇
    refine wpAny_pure ?_
    show wpAny (model P C.w) A.in1 (do let l ← newList vs; let _ ← holding [l] (call (.builtin "list.sort") [l] []); ret l) _ _ s₇
    have hlv : vs.length ≤ 3 := by rw [← hvs.1]; exact hql
    refine sorted_rest (s := s₇) (ps := qs') (vs := vs) (hvs.mono fun p _ v hv => hv.at S₇.kin) (hq.nodup_iff.mpr hnd) (fun p hp => hsm p (hq.mem_iff.mp hp)) (by omega) fun h' us qs2 e kp hD hR hpm hpw => ?_
    obtain ⟨S', hTD⟩ := S₇.newAt kp (Nat.le_refl _) hD
    have S'' := S'.sub (mu' := (s₇.heap.objs.size, seqObj "list" us e) :: mu) (.cons_cons _ (.cons _ (List.Sublist.refl _)))
    refine ⟨_, _, _, ?_, S''.ofAt, h _ _ us.toList qs2 hTD ⟨rfl, rfl, rfl, e, rfl⟩ (hR _ hvs) (hpm.trans hq) hpw⟩
    have a1 : After C.G s { s with heap := s.heap.push lst0 } := ⟨_, s.toks, s.gens, ⟨_, rfl⟩, St.ok.refl _, fun ps e => Heap.get?_push_of_some _ e⟩
    have a3 : After C.G s₂ { s₂ with heap := h6 } := ⟨_, s₂.toks, s₂.gens, ⟨_, rfl⟩, St.ok.refl _, TabG.of_eq t6⟩
    have a4 : After C.G s₇ { s₇ with heap := h' } := ⟨_, s₇.toks, s₇.gens, ⟨_, rfl⟩, St.ok.refl _, fun ps e => kp _ _ e⟩
    exact St.ok.after_trans a1 (St.ok.after_trans af₂ (St.ok.after_trans a3 (St.ok.after_trans af₇ a4)))
end
end Mine

-- NA
namespace Mine
/-! the small rules of the law's body -/
section
variable {α : Type} {C : Cx} {k : Kn} {m : Lm} {mu : Mu}
theorem Mt_range1 {n : Int} {t : Tok} {Q : Value → Kn → Lm → Mu → Prop} (h : ∀ D o, k D = none → TB < D → ORange o 0 n 1 → Q (.ref D) (k.put D o) m mu) : Mt C k m mu (call (.type "range") [.int n t]) Q :=
  Mt_new (Pr := fun o => ORange o 0 n 1) (fun s A E R hA S hR => call_range_1 (hR _ _ _ ⟨_, _, _, rfl⟩ (fun b ob e => Heap.get?_push_of_some _ e) (Heap.get?_push_size _ rfl))) h
theorem Mt_range2 {a b : Int} {t u : Tok} {Q : Value → Kn → Lm → Mu → Prop} (h : ∀ D o, k D = none → TB < D → ORange o a b 1 → Q (.ref D) (k.put D o) m mu) : Mt C k m mu (call (.type "range") [.int a t, .int b u]) Q :=
  Mt_new (Pr := fun o => ORange o a b 1) (fun s A E R hA S hR => call_range_2 (hR _ _ _ ⟨_, _, _, rfl⟩ (fun b ob e => Heap.get?_push_of_some _ e) (Heap.get?_push_size _ rfl))) h
theorem range_n {a : Int} {n : Nat} : Builtin.Range.rangeSize a (a + n) 1 = (n : Int) := by
  rw [rangeSize_one]; split <;> omega
theorem Mt_pyIter_range {r : Addr} {o : Obj} {a b : Int} {n : Nat} {Q : Value → Kn → Lm → Mu → Prop} (hr : At k mu r o) (ho : ORange o a b 1) (hb : b = a + n) (ha : -1000 ≤ a ∧ a ≤ 1000) (hn : n ≤ 1000)
    (h : ∀ it oi, TB < it → (0 ≤ n ∧ ORIter oi (a + ((0 : Nat) : Int)) ((n : Int) - ((0 : Nat) : Int)) 1) → Q (.ref it) k m ((it, oi) :: mu)) : Mt C k m mu (pyIter (.ref r)) Q := by
  subst hb
  obtain ⟨t, u, v, rfl⟩ := ho
  refine Mt_newM (Pr := fun o => ORIter o a n 1) (fun s A E R hA S hR => wpAny_pyIter_range (S.at hr) (small_one (by omega) (by omega) (by omega) (by omega)) ?_) fun it oi hT hi => h it oi hT ⟨Nat.zero_le _, by simpa using hi⟩
  exact hR _ _ s.toks (by rw [range_n]; rfl) (fun b ob e => Heap.get?_push_of_some _ e) (Heap.get?_push_size _ rfl)
theorem Mt_list_range {r : Addr} {o : Obj} {n : Nat} {Q : Value → Kn → Lm → Mu → Prop} (hr : At k mu r o) (ho : ORange o 0 n 1) (hn : n ≤ 1000)
    (h : ∀ D o vs, k D = none → TB < D → OList o vs → IsInts ((List.range n).map fun (j : Nat) => (j : Int)) vs → Q (.ref D) (k.put D o) m mu) : Mt C k m mu (call (.type "list") [.ref r]) Q := by
  obtain ⟨t, u, v, rfl⟩ := ho
  refine Mt_new (Pr := fun o => ∃ vs, OList o vs ∧ IsInts ((List.range n).map fun (j : Nat) => (j : Int)) vs) (fun s A E R hA S hR => ?_) fun D o kD hT ⟨vs, h1, h2⟩ => h D o vs kD hT h1 h2
  refine call_list_range hA.handled (S.at hr) (small_one (by omega) (by omega) (by omega) (by omega)) (n := n) (by have := range_n (a := 0) (n := n); simpa using this) (by omega) fun h' tk acc c' hk hD hI => ?_
  refine hR _ h' tk ⟨acc.toList, OList.of _ _, ⟨by simp [hI.1], fun i x hx => ?_⟩⟩ hk hD
  have hi : i < n := by have := (List.getElem?_eq_some_iff.mp hx).1; simpa using this
  have hxi : x = (i : Int) := by simp [hi] at hx; omega
  have hia : i < acc.size := by rw [hI.1]; exact hi
  obtain ⟨tk', e⟩ := hI.2 i acc[i] (by simp [hia])
  refine ⟨acc[i], by simp [hia], tk', ?_⟩
  rw [e, hxi]; congr 1; omega
theorem Mt_add_list {l b : Addr} {ol ob : Obj} {vs us : List Value} {Q : Value → Kn → Lm → Mu → Prop} (h1 : At k mu l ol) (hl : OList ol vs) (h2 : At k mu b ob) (hb : OList ob us) (hsz : vs.length + us.length ≤ 2 ^ 20)
    (h : ∀ D o, k D = none → TB < D → OList o (vs ++ us) → Q (.ref D) (k.put D o) m mu) : Mt C k m mu (binaryOp .Add (.ref l) (.ref b)) Q :=
  Mt_new (Pr := fun o => OList o (vs ++ us)) (fun s A E R hA S hR => by
    obtain ⟨n, rfl⟩ := hl.eq
    obtain ⟨n2, rfl⟩ := hb.eq
    refine PySem.P.add_list (S.at h1) (S.at h2) (hR _ _ s.toks (by simpa using OList.of (vs.toArray ++ us.toArray) 0) (fun b ob e => Heap.get?_push_of_some _ e) (Heap.get?_push_size _ rfl)) (by rw [sizeLine_eq]; simp; omega)) h
/-- the argument: a list of which no more is known -/
def WList (o : Obj) (vs : List Value) : Prop := o.cls = .type "list" ∧ ∃ n, o.data = .seq vs.toArray n
theorem Mt_sub_uptoW {value : PySem.Expr} {e : PySem.Expr} {p pos : Pos} {Q : Value → Kn → Lm → Mu → Prop}
    (h : Mt C k m mu (eval value C.env) (fun o k m mu => Mt C k m mu (eval e C.env) (fun i k m mu => ∃ l ol vs a t, o = .ref l ∧ i = .int (a : Nat) t ∧ k l = some ol ∧ WList ol vs ∧ vs.length ≤ 2 ^ 20 ∧ ∀ D oD k', k' D = some oD → k.Le k' → TB < D → OList oD (vs.take a) → Q (.ref D) k' m mu))) :
    Mt C k m mu (eval (.Subscript value (.Slice none (some e) none p) pos) C.env) Q := by
  refine Mt_Subscript (Mt_mono h fun o k m mu h => Mt_Slice ?_)
  rw [evalPart_none]
  refine Mt_pure (Mt_mono h fun i k m mu h => ?_)
  obtain ⟨l, ol, vs, a, t, rfl, rfl, hk, hl, hsz, h⟩ := h
  intro D o kD hT hD
  have le := Kn.le_put (o := o) kD
  refine Mt_subTail (ops := [.ref D, .ref l]) (.inl (le _ _ hk)) hl.1 slot_list_getitem.lookup ?_ rfl
  refine Mt_new (Pr := fun o => OList o (slicePick vs.toArray none (some (a : Int)) none).toList) (fun s A E R hA S hR =>
    wpAny_getItem_list_slice ⟨ol, S.kin _ _ (le _ _ hk), hl.1, hl.2⟩ ⟨o, S.kin _ _ (Kn.put_self _ _ _), hD.1, hD.2⟩ .none (.int _ _) .none (by simp) (hR _ _ s.toks (OList.of _ _) (fun b ob e => Heap.get?_push_of_some _ e) (Heap.get?_push_size _ rfl)) (by rw [sizeLine_eq]; simp; omega)) fun D' o' kD' hT' hD' => ?_
  refine h D' o' _ (Kn.put_self _ _ _) (le.trans (Kn.le_put kD')) hT' ?_
  rw [slicePick_upto'] at hD'; simpa using hD'
/-! comparing data -/
theorem depth_ok {A : Around} {n : Nat} (hA : OkA n A) : A.units + 64 < cLine := by have := hA.units; omega
theorem Mt_eq_data {a b : Value} {da db : PyData} {Q : Value → Kn → Lm → Mu → Prop} (ha : ∀ h, Stt C k m mu h → ∃ as, Reads h a da as) (hb : ∀ h, Stt C k m mu h → ∃ as, Reads h b db as) (sa : SeqAt.shaped da = true) (sb : SeqAt.shaped db = true)
    (h : Q (.bool (PyData.eqv da db)) k m mu) : Mt C k m mu (compareOp .Eq a b) Q :=
  Mt_of (fun s A E R hA S hR => by
    obtain ⟨as, ra⟩ := ha _ S
    obtain ⟨bs, rb⟩ := hb _ S
    exact SeqAt.compareEq_shaped ra rb sa sb (depth_ok hA) (hR s.toks)) h
theorem Mt_ne_data {a b : Value} {da db : PyData} {Q : Value → Kn → Lm → Mu → Prop} (ha : ∀ h, Stt C k m mu h → ∃ as, Reads h a da as) (hb : ∀ h, Stt C k m mu h → ∃ as, Reads h b db as) (sa : SeqAt.shaped da = true) (sb : SeqAt.shaped db = true)
    (h : Q (.bool (!PyData.eqv da db)) k m mu) : Mt C k m mu (compareOp .NotEq a b) Q :=
  Mt_of (fun s A E R hA S hR => by
    obtain ⟨as, ra⟩ := ha _ S
    obtain ⟨bs, rb⟩ := hb _ S
    exact SeqAt.compareNe_shaped ra rb sa sb (depth_ok hA) (hR s.toks)) h
def dPair (p : Int × Int) : PyData := .tuple [.int p.1, .int p.2]
def dPairs (ps : List (Int × Int)) : PyData := .list (ps.map dPair)
theorem reads_all {γ : Type} {h : Heap} {R : γ → Value → Prop} {d : γ → PyData} (hR : ∀ x v, R x v → ∃ as, Reads h v (d x) as) : ∀ {xs : List γ} {vs : List Value}, Are R xs vs → ∃ as, ReadsAll h vs (xs.map d) as
  | [], [], _ => ⟨_, .nil⟩
  | [], _ :: _, a => by have := a.1; simp at this
  | _ :: _, [], a => by have := a.1; simp at this
  | x :: xs, v :: vs, a => by
    obtain ⟨a1, a2⟩ := a.tail
    obtain ⟨as, r1⟩ := hR x v a1
    obtain ⟨bs, r2⟩ := reads_all hR a2
    exact ⟨_, .cons r1 r2⟩
theorem IsPair.reads {h : Heap} {p : Int × Int} {v : Value} (kin : k.In h) (x : IsPair k p v) : ∃ as, Reads h v (dPair p) as := by
  obtain ⟨t, o, a, b, rfl, h1, h2, ⟨ta, rfl⟩, ⟨tb, rfl⟩⟩ := x
  obtain ⟨hc, _, _, n, hd⟩ := h2
  exact ⟨_, .tuple (kin _ _ h1) hc hd (.cons (.int _ _) (.cons (.int _ _) .nil))⟩
theorem OList.reads {γ : Type} {h : Heap} {l : Addr} {o : Obj} {vs : List Value} {R : γ → Value → Prop} {d : γ → PyData} {xs : List γ} (hl : OList o vs) (e : h.get? l = some o) (hR : ∀ x v, R x v → ∃ as, Reads h v (d x) as) (hv : Are R xs vs) : ∃ as, Reads h (.ref l) (.list (xs.map d)) as := by
  obtain ⟨as, r⟩ := reads_all hR hv
  obtain ⟨hc, _, _, n, hd⟩ := hl
  exact ⟨_, .list e hc hd r⟩
theorem canLay_all {γ : Type} (d : γ → PyData) (hd : ∀ x, (d x).canLay0 = true) : ∀ xs : List γ, PyData.canLayAll0 (xs.map d) = true
  | [] => rfl
  | x :: r => by rw [List.map_cons, PyData.canLayAll0, hd x, canLay_all d hd r]; rfl
theorem dPairs_shaped (ps : List (Int × Int)) : SeqAt.shaped (dPairs ps) = true := by
  have h1 : (dPairs ps).canLay0 = true := by
    unfold dPairs
    rw [PyData.canLay0]
    exact canLay_all dPair (fun x => rfl) ps
  have h2 : (dPairs ps).depth ≤ 64 := by
    have key : ∀ ps : List (Int × Int), PyData.depthAll (ps.map dPair) ≤ 1 := by
      intro ps
      induction ps with
      | nil => exact Nat.zero_le _
      | cons p r ih =>
        rw [List.map_cons, PyData.depthAll]
        exact Nat.max_le.mpr ⟨Nat.le_refl _, ih⟩
    have := key ps
    unfold dPairs
    rw [PyData.depth]
    omega
  unfold SeqAt.shaped
  rw [h1]; simpa using h2
/-! max of a list, the two ends of a pair -/
theorem Mt_max_ints {l : Addr} {o : Obj} {vs : List Value} {xs : List Int} {Q : Value → Kn → Lm → Mu → Prop} (ha : At k mu l o) (hl : OList o vs) (hi : IsInts xs vs) (hne : xs ≠ [])
    (h : ∀ M t, M ∈ xs → (∀ x ∈ xs, x ≤ M) → Q (.int M t) k m mu) : Mt C k m mu (call (.builtin "max") [.ref l]) Q := fun s A E hA S => by
  obtain ⟨ys, e⟩ := hi.are.allInts.items
  have hns : xs = ys.toList.map (·.1) := by rw [← hi.are.numsOf, ← nums_intItems, ← e]
  have hsz : 0 < ys.size := by
    have h3 := List.length_pos_iff.mpr hne
    rw [hns, List.length_map, Array.length_toList] at h3; exact h3
  have hL := hl.isList (S.at ha)
  rw [e] at hL
  refine max_intList hA.handled hL hsz fun v h' tk hv hk => ?_
  obtain ⟨t, rfl⟩ := intItems_at hv
  obtain ⟨h1, h2⟩ := argBest_gt (numAt ys) (ys.size - 1)
  refine ⟨k, m, mu, ⟨h', tk, s.gens, ⟨_, rfl⟩, S.ok.refl _, fun ps e => hk _ _ e⟩, S.more hk, h _ t ?_ fun a ha => ?_⟩
  · rw [hns, numAt_eq]; exact getD_mem (by rw [List.length_map, Array.length_toList]; omega)
  · rw [hns] at ha
    obtain ⟨j, hj, rfl⟩ := mem_getD ha
    rw [List.length_map, Array.length_toList] at hj
    rw [← numAt_eq]; exact h2 j (by omega)
theorem max_ex {ys : Array (Int × Tok)} {xs : List Int} (hns : xs = ys.toList.map (·.1)) (hsz : 0 < ys.size) : numAt ys (argBest (fun i j => decide (numAt ys i > numAt ys j)) (ys.size - 1)) ∈ xs ∧ ∀ x ∈ xs, x ≤ numAt ys (argBest (fun i j => decide (numAt ys i > numAt ys j)) (ys.size - 1)) := by
  obtain ⟨h1, h2⟩ := argBest_gt (numAt ys) (ys.size - 1)
  refine ⟨?_, fun a ha => ?_⟩
  · rw [hns, numAt_eq]; exact getD_mem (by rw [List.length_map, Array.length_toList]; omega)
  · rw [hns] at ha
    obtain ⟨j, hj, rfl⟩ := mem_getD ha
    rw [List.length_map, Array.length_toList] at hj
    rw [← numAt_eq]; exact h2 j (by omega)
theorem min_ex {ys : Array (Int × Tok)} {xs : List Int} (hns : xs = ys.toList.map (·.1)) (hsz : 0 < ys.size) : numAt ys (argBest (fun i j => decide (numAt ys i < numAt ys j)) (ys.size - 1)) ∈ xs ∧ ∀ x ∈ xs, numAt ys (argBest (fun i j => decide (numAt ys i < numAt ys j)) (ys.size - 1)) ≤ x := by
  obtain ⟨h1, h2⟩ := argBest_lt (numAt ys) (ys.size - 1)
  refine ⟨?_, fun a ha => ?_⟩
  · rw [hns, numAt_eq]; exact getD_mem (by rw [List.length_map, Array.length_toList]; omega)
  · rw [hns] at ha
    obtain ⟨j, hj, rfl⟩ := mem_getD ha
    rw [List.length_map, Array.length_toList] at hj
    rw [← numAt_eq]; exact h2 j (by omega)
theorem Mt_max_pair {t : Addr} {o : Obj} {a b : Int} {ta tb : Tok} {Q : Value → Kn → Lm → Mu → Prop} (ht : k t = some o) (ho : OTup o [.int a ta, .int b tb]) (h : ∀ tk, Q (.int (max a b) tk) k m mu) : Mt C k m mu (call (.builtin "max") [.ref t]) Q := fun s A E hA S => by
  have hT : IsTup s.heap t (intItems #[(a, ta), (b, tb)]) := by simpa [intItems] using ho.isTup (S.kin _ _ ht)
  have hlt : t < s.heap.objs.size := Heap.lt_size (S.kin _ _ ht)
  refine call_max_walk (iter_tuple hT ⟨s.heap.objs.size, _, _, _, _, _, _, rfl, Walks.tuple (A := A.in1) hA.handled s.heap.objs.size t (Nat.ne_of_lt hlt) _, ⟨⟨_, Heap.get?_push_size _ rfl, rfl, rfl⟩, hT.push _⟩, fun b hb => ?_, by simp [intItems], CmpOf.ints_gt (numAt #[(a, ta), (b, tb)]) (fun _ _ => intItems_at), fun v h' tk hP hk => ?_⟩)
  · show b < (s.heap.push _).objs.size
    rw [Heap.size_push]
    rcases List.mem_cons.mp hb with rfl | hb
    · exact Nat.lt_succ_self _
    · rw [List.mem_singleton.mp hb]; exact Nat.lt_succ_of_lt hlt
  · obtain ⟨tk', rfl⟩ := intItems_at hP
    obtain ⟨h1, h2⟩ := max_ex (ys := #[(a, ta), (b, tb)]) (xs := [a, b]) rfl (by simp)
    have hk' : ∀ b o, s.heap.get? b = some o → h'.get? b = some o := fun b o e => hk b o (fun hm => Nat.lt_irrefl _ ((List.mem_singleton.mp hm) ▸ Heap.lt_size e)) (Heap.get?_push_of_some _ e)
    refine ⟨k, m, mu, ⟨h', tk, s.gens, ⟨_, rfl⟩, S.ok.refl _, fun ps e => hk' _ _ e⟩, S.more hk', ?_⟩
    have e : numAt #[(a, ta), (b, tb)] (argBest (fun i j => decide (numAt #[(a, ta), (b, tb)] i > numAt #[(a, ta), (b, tb)] j)) ((intItems #[(a, ta), (b, tb)]).size - 1)) = max a b := by
      have ea := h2 a (.head _)
      have eb := h2 b (.tail _ (.head _))
      simp only [List.mem_cons, List.not_mem_nil, or_false] at h1
      have es : (intItems #[(a, ta), (b, tb)]).size = (#[(a, ta), (b, tb)] : Array (Int × Tok)).size := by simp [intItems]
      rw [es]
      omega
    rw [e]; exact h tk'
theorem Mt_min_pair {t : Addr} {o : Obj} {a b : Int} {ta tb : Tok} {Q : Value → Kn → Lm → Mu → Prop} (ht : k t = some o) (ho : OTup o [.int a ta, .int b tb]) (h : ∀ tk, Q (.int (min a b) tk) k m mu) : Mt C k m mu (call (.builtin "min") [.ref t]) Q := fun s A E hA S => by
  have hT : IsTup s.heap t (intItems #[(a, ta), (b, tb)]) := by simpa [intItems] using ho.isTup (S.kin _ _ ht)
  have hlt : t < s.heap.objs.size := Heap.lt_size (S.kin _ _ ht)
  refine call_min_walk (iter_tuple hT ⟨s.heap.objs.size, _, _, _, _, _, _, rfl, Walks.tuple (A := A.in1) hA.handled s.heap.objs.size t (Nat.ne_of_lt hlt) _, ⟨⟨_, Heap.get?_push_size _ rfl, rfl, rfl⟩, hT.push _⟩, fun b hb => ?_, by simp [intItems], CmpOf.ints_lt (numAt #[(a, ta), (b, tb)]) (fun _ _ => intItems_at), fun v h' tk hP hk => ?_⟩)
  · show b < (s.heap.push _).objs.size
    rw [Heap.size_push]
    rcases List.mem_cons.mp hb with rfl | hb
    · exact Nat.lt_succ_self _
    · rw [List.mem_singleton.mp hb]; exact Nat.lt_succ_of_lt hlt
  · obtain ⟨tk', rfl⟩ := intItems_at hP
    obtain ⟨h1, h2⟩ := min_ex (ys := #[(a, ta), (b, tb)]) (xs := [a, b]) rfl (by simp)
    have hk' : ∀ b o, s.heap.get? b = some o → h'.get? b = some o := fun b o e => hk b o (fun hm => Nat.lt_irrefl _ ((List.mem_singleton.mp hm) ▸ Heap.lt_size e)) (Heap.get?_push_of_some _ e)
    refine ⟨k, m, mu, ⟨h', tk, s.gens, ⟨_, rfl⟩, S.ok.refl _, fun ps e => hk' _ _ e⟩, S.more hk', ?_⟩
    have e : numAt #[(a, ta), (b, tb)] (argBest (fun i j => decide (numAt #[(a, ta), (b, tb)] i < numAt #[(a, ta), (b, tb)] j)) ((intItems #[(a, ta), (b, tb)]).size - 1)) = min a b := by
      have ea := h2 a (.head _)
      have eb := h2 b (.tail _ (.head _))
      simp only [List.mem_cons, List.not_mem_nil, or_false] at h1
      have es : (intItems #[(a, ta), (b, tb)]).size = (#[(a, ta), (b, tb)] : Array (Int × Tok)).size := by simp [intItems]
      rw [es]
      omega
    rw [e]; exact h tk'
end
end Mine

-- NB
namespace Mine
abbrev LAW : Addr := 817
theorem fn_law (w : World) : Fn w 817 (stAt 26) "law" (cdOf w 817) := ⟨by kernel_rfl, by kernel_rfl, by kernel_rfl, by kernel_rfl, by kernel_rfl, by kernel_rfl, rfl, by kernel_rfl, by kernel_rfl, by kernel_rfl, by kernel_rfl, by kernel_rfl, by kernel_rfl, by kernel_rfl, by decide⟩
theorem bind_law (w : World) (a : Value) : bindArgs (fdOf (obK w 817)) ⟨[a], []⟩ = pure [(("script" : Str), a)] := by kernel_rfl
noncomputable abbrev lw (w : World) (n : Nat) (k0 : Kn) (L : Addr) (base : Heap) : Cx := fcx w n EqG k0 "law" (scopeOf (stAt 26)) (cdOf w 817) 817 L base
def lst (i : Nat) : Stmt := ((bodyOf (stAt 26))[i]?).getD (.Pass default)
theorem law_body : bodyOf (stAt 26) = [lst 0, lst 1, lst 2, lst 3, lst 4, lst 5, lst 6, lst 7, lst 8, lst 9, lst 10, lst 11, lst 12, lst 13, lst 14, lst 15, lst 16, lst 17, lst 18] := by kernel_rfl
section
variable {w : World} {n : Nat} {k0 k : Kn} {L : Addr} {base : Heap} {m : Lm} {mu : Mu}
theorem law0 {l : Addr} {ol : Obj} {vs : List Value} {ns : List Int} (hm : m "script" = some (.ref l)) (hk : k l = some ol) (hl : WList ol vs) (hi : IsInts ns vs) (hlen : ns.length ≤ 63) {Q : Flow → Kn → Lm → Mu → Prop}
    (h : ∀ k' D oD us, k.Le k' → k' D = some oD → OList oD us → IsInts (ns.take 6 ++ [0, 0, 0, 0, 0, 0]) us → Q .next k' (m.set "numbers" (.ref D)) mu) : Mt (lw w n k0 L base) k m mu (exec (lst 0) (lw w n k0 L base).env) Q := by
  have hvl : vs.length = ns.length := hi.1.symm
  refine Mt_Assign (Mt_BinOp (Mt_sub_uptoW (Mt_nameL hm (Mt_int fun t0 => ⟨l, ol, vs, 6, t0, rfl, rfl, hk, hl, by omega, fun D oD k1 kD le1 hTD hoD => ?_⟩))))
  refine Mt_List (Mt_spliced_cons (Mt_int fun t1 => Mt_spliced_cons (Mt_int fun t2 => Mt_spliced_cons (Mt_int fun t3 => Mt_spliced_cons (Mt_int fun t4 => Mt_spliced_cons (Mt_int fun t5 => Mt_spliced_cons (Mt_int fun t6 => Mt_spliced_nil (Mt_newList fun Z oZ kZ hTZ hoZ => ?_))))))))
  have le2 := Kn.le_put (o := oZ) kZ
  refine Mt_add_list (.inl (le2 _ _ kD)) hoD (.inl (Kn.put_self _ _ _)) hoZ (by simp; omega) fun R oR kR hTR hoR => Mt_setC ?_
  refine h _ R oR _ ((le1.trans le2).trans (Kn.le_put kR)) (Kn.put_self _ _ _) hoR ((hi.take 6).app ?_)
  exact (((((Are.nil.cons ⟨t6, rfl⟩).cons ⟨t5, rfl⟩).cons ⟨t4, rfl⟩).cons ⟨t3, rfl⟩).cons ⟨t2, rfl⟩).cons ⟨t1, rfl⟩
theorem law1 {l : Addr} {ol : Obj} {vs : List Value} {ns : List Int} {a : Int} (hm : m "numbers" = some (.ref l)) (hk : k l = some ol) (hl : OList ol vs) (hi : IsInts ns vs) (ha : ns[0]? = some a) {Q : Flow → Kn → Lm → Mu → Prop}
    (h : ∀ t, Q .next k (m.set "many" (.int (a.fmod 6 + 1) t)) mu) : Mt (lw w n k0 L base) k m mu (exec (lst 1) (lw w n k0 L base).env) Q := by
  obtain ⟨v, hv, ta, rfl⟩ := hi.get ha
  exact Mt_Assign (Mt_BinOp (Mt_BinOp (Mt_Subscript (Mt_nameC hm (Mt_int fun t0 => Mt_sub_list (i := 0) (.inl hk) hl hv (by decide) (Mt_int fun t1 => Mt_mod_int (by decide) fun t2 => Mt_int fun t3 => Mt_add_int fun t4 => Mt_setC (h t4)))))))
theorem ord_one {n v : Nat} {b : Int} (hn : 0 < n) : ((v : Int) + b).fmod n = (((v + (b.fmod n).toNat) % n : Nat) : Int) := by
  have hn' : (0 : Int) < n := by omega
  rw [Int.fmod_eq_emod_of_nonneg _ (by omega), Int.fmod_eq_emod_of_nonneg _ (by omega)]
  have h1 := Int.emod_nonneg b (show (n : Int) ≠ 0 by omega)
  have e : ((b % (n : Int)).toNat : Int) = b % n := Int.toNat_of_nonneg h1
  rw [Int.natCast_emod, Int.natCast_add, e, Int.add_emod_emod]
theorem flatMap_one {α β : Type} (f : α → β) : ∀ l : List α, l.flatMap (fun x => [f x]) = l.map f
  | [] => rfl
  | x :: r => by rw [List.flatMap_cons, flatMap_one f r]; rfl
theorem law2 {l : Addr} {ol : Obj} {vs : List Value} {ns : List Int} {b : Int} {N : Nat} {tN : Tok} (hm : m "numbers" = some (.ref l)) (hM : m "many" = some (.int N tN)) (hN : 0 < N ∧ N ≤ 6) (hk : k l = some ol) (hl : OList ol vs) (hi : IsInts ns vs) (hb : ns[1]? = some b) {Q : Flow → Kn → Lm → Mu → Prop}
    (h : ∀ k' D oD us, k.Le k' → k' D = some oD → OList oD us → IsInts (ordN N (b.fmod N).toNat) us → Q .next k' (m.set "order" (.ref D)) mu) : Mt (lw w n k0 L base) k m mu (exec (lst 2) (lw w n k0 L base).env) Q := by
  obtain ⟨vb, hvb, tb, rfl⟩ := hi.get hb
  refine Mt_Assign (Mt_ListComp (Mt_Call (Mt_nameB (v := .type "range") (by kernel_rfl) (by kernel_rfl) (by decide) ⟨keeps_type _, Mt_spliced_cons (Mt_nameC hM (Mt_spliced_nil (Mt_range1 fun R oR kR hTR hoR => ?_)))⟩)))
  have le1 := Kn.le_put (o := oR) kR
  refine Mt_pyIter_range (.inl (Kn.put_self _ _ _)) hoR (n := N) (by omega) (by omega) (by omega) fun it oi hTi hoi => ?_
  refine ⟨[(it, oi)], mu, rfl, comp1_in (Src.range w 0 N) (fun v => [(v + b).fmod N]) (fun _ d v => IsInt d v) (fun _ _ _ _ _ h => h) (fun m => m "many" = some (.int N tN) ∧ m "numbers" = some (.ref l)) (by simp; omega) (fun e he => by simp) ?_ ?_ ⟨(cmap_free rfl).trans hM, (cmap_free rfl).trans hm⟩ hoi (Kn.Le.refl _)⟩
  · rintro D L' base' hTD j x k1 m1 oi1 oD v he ⟨tx, rfl⟩ le2 ⟨i1, i2⟩
    refine Mt_toL (Mt_tests_nil ?_)
    rw [if_pos rfl]
    refine Mt_BinOp (Mt_BinOp (Mt_nameL (Lm.set_self _ _ _) (Mt_Subscript (Mt_nameC (Lm.up i2) (Mt_int fun t0 => Mt_sub_list (i := 1) (.inl (le2 _ _ (le1 _ _ hk))) hl hvb (by decide) (Mt_add_int fun t1 => Mt_nameC (Lm.up i1) (Mt_mod_int (by omega) fun t2 => ⟨Kn.Le.refl _, rfl, ⟨Lm.up i1, Lm.up i2⟩, _, rfl, t2, rfl⟩)))))))
  · intro D k3 oD us hTD hDb kD3 le2 le3 hoD hus
    refine Mt_setC (h _ D oD us ((le1.trans le2).trans le3) (Kn.put_self _ _ _) hoD ?_)
    have e : (List.map (fun (j : Nat) => (0 : Int) + (j : Int)) (List.range N)).flatMap (fun v => [(v + b).fmod N]) = ordN N (b.fmod N).toNat := by
      rw [flatMap_one, List.map_map]
      unfold ordN
      refine List.map_congr_left fun v _ => ?_
      rw [← ord_one hN.1]; simp
    rw [e] at hus; exact hus
end
end Mine

-- NC
namespace Mine
/-- [.. for x in range(N) for y in range(q x)]: pairs -/
def pairs2 (q : Nat → Nat) (g : Nat → Nat → Int × Int) (i : Nat) : List (Int × Int) := (List.range i).flatMap fun v => (List.range (q v)).map (g v)
theorem pairs2_succ (q : Nat → Nat) (g : Nat → Nat → Int × Int) (i : Nat) : pairs2 q g (i + 1) = pairs2 q g i ++ (List.range (q i)).map (g i) := by
  unfold pairs2
  rw [List.range_succ, List.flatMap_append]; simp
theorem pairs2_len {q : Nat → Nat} {g : Nat → Nat → Int × Int} {b : Nat} : ∀ {i : Nat}, (∀ v < i, q v ≤ b) → (pairs2 q g i).length ≤ i * b
  | 0, _ => by simp [pairs2]
  | i + 1, h => by
    rw [pairs2_succ, List.length_append, List.length_map, List.length_range, Nat.succ_mul]
    have h1 := pairs2_len (q := q) (g := g) (b := b) (i := i) fun v hv => h v (by omega)
    have h2 := h i (by omega)
    omega
section
variable {C : Cx} {k : Kn} {m : Lm} {mu : Mu}
theorem comp2_range {elt iter iter2 : PySem.Expr} {x y : Str} {xp yp : Pos} {scope : Scope} {pos : Pos} {it : Addr} {oi : Obj} {QV : Value → Kn → Prop} (N : Nat) (q : Nat → Nat) (g : Nat → Nat → Int × Int) (Inv : Lm → Prop)
    (hx : scope.names.lookup x = some .local) (hy : scope.names.lookup y = some .local) (hxy : x ≠ y) (hN : N ≤ 20) (hq : ∀ v < N, q v ≤ 20)
    (hI : ∀ m v, Inv m → Inv (m.set x v) ∧ Inv (m.set y v))
    (hs : ∀ env x, foldedSetIterable iter2 env x = pure x)
    (inner : ∀ (L : Addr) (base : Heap) (i : Nat) (k1 : Kn) (m1 : Lm) (mu1 : Mu) (t : Tok), i < N → k.Le k1 → Inv m1 → m1 x = some (.int i t) → ∀ Q : Value → Kn → Lm → Mu → Prop, (∀ R oR k2, k1.Le k2 → k2 R = some oR → ORange oR 0 (q i) 1 → Q (.ref R) k2 m1 mu1) → Mt (ccx C scope L base k) k1 m1 mu1 (eval iter2 (cenvOf scope C.env L)) Q)
    (turn : ∀ (L : Addr) (base : Heap) (i j : Nat) (k1 : Kn) (m1 : Lm) (mu1 : Mu) (t u : Tok), i < N → j < q i → k.Le k1 → Inv m1 → m1 x = some (.int i t) → m1 y = some (.int j u) → ∀ Q : Value → Kn → Lm → Mu → Prop, (∀ v k2, k1.Le k2 → IsPair k2 (g i j) v → Q v k2 m1 mu1) → Mt (ccx C scope L base k) k1 m1 mu1 (eval elt (cenvOf scope C.env L)) Q)
    (done : ∀ D k' oD vs, TB < D → C.base.get? D = none → k' D = none → k.Le k' → k'.Le (k'.put D oD) → OList oD vs → Are (IsPair k') (pairs2 q g N) vs → QV (.ref D) (k'.put D oD))
    (h0 : Inv (cmap scope m)) (hi : 0 ≤ N ∧ ORIter oi (0 + ((0 : Nat) : Int)) ((N : Int) - ((0 : Nat) : Int)) 1) :
    CompIn C (.ListComp elt [⟨.Name x xp, iter, [], 0⟩, ⟨.Name y yp, iter2, [], 0⟩] scope pos) scope (.ref it) lst0 m [(it, oi)] mu k QV := fun D L base hTD hDb => by
  have hkx : (ccx C scope L base k).env.kindOf x = some .local := by
    show (mapNames C.env scope.names).lookup x = some .local
    rw [mapNames_lookup, hx]; rfl
  have hky : (ccx C scope L base k).env.kindOf y = some .local := by
    show (mapNames C.env scope.names).lookup y = some .local
    rw [mapNames_lookup, hy]; rfl
  have src := Src.range (it := it) (k := k) C.w 0 N
  have hpl : (pairs2 q g N).length ≤ 400 := Nat.le_trans (pairs2_len hq) (by have := Nat.mul_le_mul hN (Nat.le_refl 20); omega)
  have hpi : ∀ i ≤ N, (pairs2 q g i).length ≤ 400 := fun i hi => Nat.le_trans (pairs2_len (b := 20) fun v hv => hq v (by omega)) (by have := Nat.mul_le_mul (show i ≤ 20 by omega) (Nat.le_refl 20); omega)
  have loop : MtC (ccx C scope L base k) k (cmap scope m) [(D, lst0), (it, oi)] (.compLoop (.ListComp elt [⟨.Name x xp, iter, [], 0⟩, ⟨.Name y yp, iter2, [], 0⟩] scope pos) 0 (.ref it) (.ref D) (cenvOf scope C.env L)) (fun _ k' _ mu' => ∃ oD, (D, oD) ∈ mu' ∧ (k' D = none → QV (.ref D) (k'.put D oD))) := by
    refine MtC_perm (C := ccx C scope L base k) (mu' := [(it, oi), (D, lst0)]) (List.Perm.swap _ _ _) ?_
    refine MtC_comp20 (C := ccx C scope L base k) (fun z k' m' mu' => ∃ i oi oD us, z = N - i ∧ i ≤ N ∧ mu' = [(it, oi), (D, oD)] ∧ k.Le k' ∧ (i ≤ N ∧ ORIter oi (0 + (i : Int)) ((N : Int) - i) 1) ∧ Inv m' ∧ OList oD us ∧ Are (IsPair k') (pairs2 q g i) us)
      (hs _) ?_ _ ⟨0, oi, lst0, [], rfl, Nat.zero_le _, rfl, Kn.Le.refl _, hi, h0, lst0_OList, Are.nil⟩
    rintro z k1 m1 mu1 ⟨i, oi, oD, us, rfl, hle, rfl, le1, hoi, hv1, hD, hus⟩
    rcases Nat.lt_or_ge i N with hlt | hge
    · refine src.next (ccx C scope L base k) k1 m1 [] [(D, oD)] oi i (0 + (i : Int)) _ rfl le1 hoi (by simp [hlt]) fun v oi' hoi' ⟨tx, hvx⟩ => ?_
      have hvx' : v = .int (i : Nat) tx := by rw [hvx]; congr 1; omega
      subst hvx'
      refine Mt_letOwned (C := ccx C scope L base k) (T := "range_iterator") (by decide) (by rw [hoi'.2]) (.head _) (Mt_toL (C := ccx C scope L base k) (Mt_tests_nil (C := ccx C scope L base k) ?_) hkx)
      rw [if_pos rfl]
      have hv2 := (hI m1 (.int (i : Nat) tx) hv1).1
      have hmx : (m1.set x (.int (i : Nat) tx)) x = some (.int (i : Nat) tx) := Lm.set_self _ _ _
      generalize m1.set x (.int (i : Nat) tx) = m2 at *
      refine inner L base i k1 m2 _ tx hlt le1 hv2 hmx _ fun R oR k2 le2 hR hoR => ?_
      refine Mt_pyIter_range (C := ccx C scope L base k) (.inl hR) hoR (n := q i) (by omega) (by omega) (by have := hq i hlt; omega) fun it2 oi2 hT2 hoi2 => ?_
      have src2 := Src.range (it := it2) (k := k2) C.w 0 (q i)
      refine MtC_start_src (C := ccx C scope L base k) src2 hoi2 (.head _) ⟨_, fun w => rfl⟩ (fun A => Around.under_of_weight rfl) rfl rfl ?_
      refine MtC_comp21 (C := ccx C scope L base k) (fun z k' m' mu' => ∃ j oi5 oD us, z = q i - j ∧ j ≤ q i ∧ mu' = [(it2, oi5), (it, oi'), (D, oD)] ∧ k2.Le k' ∧ (j ≤ q i ∧ ORIter oi5 (0 + (j : Int)) ((q i : Int) - j) 1) ∧ Inv m' ∧ m' x = some (.int (i : Nat) tx) ∧ OList oD us ∧ Are (IsPair k') (pairs2 q g i ++ (List.range j).map (g i)) us)
        ?_ _ ⟨0, oi2, oD, us, rfl, Nat.zero_le _, rfl, Kn.Le.refl _, hoi2, hv2, hmx, hD, by simpa using hus.mono fun p _ v hv => hv.le le2⟩
      rintro z k4 m4 mu4 ⟨j, oi5, oD5, us5, rfl, hj, rfl, le4, hoi5, hv4, m4x, hD5, hus5⟩
      rcases Nat.lt_or_ge j (q i) with hjl | hjg
      · refine src2.next (ccx C scope L base k) k4 m4 [] [(it, oi'), (D, oD5)] oi5 j (0 + (j : Int)) _ rfl le4 hoi5 (by simp [hjl]) fun v oi6 hoi6 ⟨ty, hvy⟩ => ?_
        have hvy' : v = .int (j : Nat) ty := by rw [hvy]; congr 1; omega
        subst hvy'
        refine Mt_letOwned (C := ccx C scope L base k) (T := "range_iterator") (by decide) (by rw [hoi6.2]) (.head _) (Mt_toL (C := ccx C scope L base k) (Mt_tests_nil (C := ccx C scope L base k) ?_) hky)
        rw [if_pos rfl]
        have hv5 := (hI m4 (.int (j : Nat) ty) hv4).2
        have hmy : (m4.set y (.int (j : Nat) ty)) y = some (.int (j : Nat) ty) := Lm.set_self _ _ _
        have hmx5 : (m4.set y (.int (j : Nat) ty)) x = some (.int (i : Nat) tx) := Lm.up m4x hxy
        generalize m4.set y (.int (j : Nat) ty) = m5 at *
        refine turn L base i j k4 m5 _ tx ty hlt hjl ((le1.trans le2).trans le4) hv5 hmx5 hmy _ fun v k6 le6 hp => ?_
        have hl5 := hus5.1
        have hpi' := hpi i hle
        have hqi := hq i hlt
        simp only [List.length_append, List.length_map, List.length_range] at hl5
        refine Mt_append (C := ccx C scope L base k) (l1 := [(it2, oi6), (it, oi')]) rfl hD5 (by omega) fun o6 ho6 => ?_
        refine ⟨q i - (j + 1), by omega, j + 1, oi6, o6, _, rfl, by omega, rfl, le4.trans le6, hoi6, hv5, hmx5, ho6, ?_⟩
        rw [List.range_succ, List.map_append, ← List.append_assoc]
        exact (hus5.mono fun p _ v hv => hv.le le6).push hp
      · have hje : j = q i := by omega
        subst hje
        refine src2.done (ccx C scope L base k) k4 m4 [] [(it, oi'), (D, oD5)] oi5 _ _ rfl le4 hoi5 (by simp) ?_
        exact ⟨N - (i + 1), by omega, i + 1, oi', oD5, us5, rfl, by omega, rfl, (le1.trans le2).trans le4, hoi', hv4, hD5, by rw [pairs2_succ]; exact hus5⟩
    · have hix : i = N := by omega
      subst hix
      refine src.done (ccx C scope L base k) k1 m1 [] [(D, oD)] oi i _ rfl le1 hoi (by simp) ?_
      exact ⟨oD, .head _, fun kD => done D k1 oD us hTD hDb kD le1 (Kn.le_put kD) hD hus⟩
  refine MtC_start (C := ccx C scope L base k) ⟨_, fun w => rfl⟩ (fun A => Around.under_of_weight rfl) rfl rfl loop ?_
  exact src.self (ccx C scope L base k) _ _ _ oi 0 _ rfl hi (.tail _ (.head _)) loop
end
/-- the pairs of the order -/
def prsOf (xs : List Int) : List (Int × Int) := pairs2 id (fun v u => (xs.getD u 0, xs.getD v 0)) xs.length
section
variable {w : World} {n : Nat} {k0 k : Kn} {L : Addr} {base : Heap} {m : Lm} {mu : Mu}
theorem law3 {l : Addr} {ol : Obj} {vs : List Value} {xs : List Int} {N : Nat} {tN : Tok} (hm : m "order" = some (.ref l)) (hM : m "many" = some (.int N tN)) (hN : 0 < N ∧ N ≤ 6) (hk : k l = some ol) (hl : OList ol vs) (hi : IsInts xs vs) (hxl : xs.length = N) {Q : Flow → Kn → Lm → Mu → Prop}
    (h : ∀ k' D oD us, k.Le k' → k' D = some oD → OList oD us → Are (IsPair k') (prsOf xs) us → Q .next k' (m.set "pairs" (.ref D)) mu) : Mt (lw w n k0 L base) k m mu (exec (lst 3) (lw w n k0 L base).env) Q := by
  refine Mt_Assign_swap (Mt_Call (Mt_nameB (v := .type "range") (by kernel_rfl) (by kernel_rfl) (by decide) ⟨keeps_type _, Mt_spliced_cons (Mt_nameC hM (Mt_spliced_nil (Mt_range1 fun R oR kR hTR hoR => ?_)))⟩))
  have le1 := Kn.le_put (o := oR) kR
  refine Mt_pyIter_range (.inl (Kn.put_self _ _ _)) hoR (n := N) (by omega) (by omega) (by omega) fun it oi hTi hoi => ?_
  have item : ∀ i < N, ∃ t, vs[i]? = some (.int (xs.getD i 0) t) := fun i hi' => by
    obtain ⟨v, hv, t, rfl⟩ := hi.get (i := i) (x := xs[i]'(by omega)) (by simp [hxl, hi'])
    refine ⟨t, ?_⟩
    rw [hv, List.getD_eq_getElem?_getD, List.getElem?_eq_getElem (by omega)]; rfl
  refine ⟨[(it, oi)], mu, rfl, comp2_range N id (fun v u => (xs.getD u 0, xs.getD v 0)) (fun m => m "order" = some (.ref l)) (by decide) (by decide) (by decide) (by omega) (fun v hv => by simp only [id]; omega) (fun m v hm => ⟨Lm.up hm, Lm.up hm⟩) (fun _ _ => rfl) ?_ ?_ ?_ ((cmap_free rfl).trans hm) hoi⟩
  · intro L' base' i k1 m1 mu1 t hiN le2 hv1 hm1 Q hQ
    refine Mt_Call (C := ccx (lw w n k0 L base) _ L' base' _) (Mt_nameB (v := .type "range") (by kernel_rfl) (by kernel_rfl) (by decide) ⟨keeps_type _, Mt_spliced_cons (Mt_nameL hm1 (Mt_spliced_nil (Mt_range1 fun R oR kR hTR hoR => ?_)))⟩)
    exact hQ R oR _ (Kn.le_put kR) (Kn.put_self _ _ _) hoR
  · intro L' base' i j k1 m1 mu1 t u hiN hj le2 hv1 hm1 hm2 Q hQ
    have hj' : j < i := hj
    obtain ⟨ti, hti⟩ := item i hiN
    obtain ⟨tj, htj⟩ := item j (by omega)
    have hk1 := le2 _ _ (le1 _ _ hk)
    refine Mt_Tuple (C := ccx (lw w n k0 L base) _ L' base' _) (Mt_spliced_cons (Mt_Subscript (Mt_nameC hv1 (Mt_nameL hm2 (Mt_sub_list (i := j) (.inl hk1) hl htj (by omega) ?_)))))
    refine Mt_spliced_cons (C := ccx (lw w n k0 L base) _ L' base' _) (Mt_Subscript (Mt_nameC hv1 (Mt_nameL hm1 (Mt_sub_list (i := i) (.inl hk1) hl hti (by omega) (Mt_spliced_nil (Mt_newTuple fun T oT kT hT hoT => ?_))))))
    exact hQ _ _ (Kn.le_put kT) ⟨T, oT, _, _, rfl, Kn.put_self _ _ _, hoT, ⟨_, rfl⟩, ⟨_, rfl⟩⟩
  · intro D k3 oD us hTD hDb kD3 le2 le3 hoD hus
    refine h _ D oD us ((le1.trans le2).trans le3) (Kn.put_self _ _ _) hoD ?_
    unfold prsOf
    rw [hxl]
    exact hus.mono fun p _ v hv => hv.le le3
end
end Mine

-- ND
namespace Mine
def bitOf (a : Int) (j : Nat) : Bool := decide ((a.fdiv ((2 : Int) ^ j)).fmod 2 = 1)
def maskTo (a : Int) (ps : List (Int × Int)) (i : Nat) : List (Int × Int) := ((List.range i).filter (bitOf a)).map fun j => ps.getD j (0, 0)
theorem maskTo_succ (a : Int) (ps : List (Int × Int)) (i : Nat) : maskTo a ps (i + 1) = maskTo a ps i ++ if bitOf a i then [ps.getD i (0, 0)] else [] := by
  unfold maskTo
  rw [List.range_succ, List.filter_append, List.map_append]
  congr 1
  cases h : bitOf a i <;> simp [h]
theorem maskTo_len (a : Int) (ps : List (Int × Int)) (i : Nat) : (maskTo a ps i).length ≤ i := by
  unfold maskTo
  rw [List.length_map]
  exact Nat.le_trans (List.length_filter_le _ _) (by simp)
def treeOf (a : Int) (xs : List Int) : List (Int × Int) := (List.range (xs.length - 1)).map fun j => (xs.getD ((a.fdiv ((3 : Int) ^ (j + 1))).fmod ((j + 1 : Nat) : Int)).toNat 0, xs.getD (j + 1) 0)
theorem pow_le_30 {b : Nat} (hb : b = 2 ∨ b = 3) {j : Nat} (hj : j < 15) : ((b : Int) ^ j).natAbs < 1073741824 ∧ (b : Int) ^ j ≠ 0 := by
  rcases hb with rfl | rfl
  · have : ∀ j < 15, ((2 : Int) ^ j).natAbs < 1073741824 ∧ (2 : Int) ^ j ≠ 0 := by decide +kernel
    exact this j hj
  · have : ∀ j < 15, ((3 : Int) ^ j).natAbs < 1073741824 ∧ (3 : Int) ^ j ≠ 0 := by decide +kernel
    exact this j hj
section
variable {w : World} {n : Nat} {k0 k : Kn} {L : Addr} {base : Heap} {m : Lm} {mu : Mu}
theorem law4 {l lN : Addr} {ol oN : Obj} {vs vN : List Value} {ps : List (Int × Int)} {ns : List Int} {a : Int} (hm : m "pairs" = some (.ref l)) (hmN : m "numbers" = some (.ref lN)) (hk : k l = some ol) (hl : OList ol vs) (hi : Are (IsPair k) ps vs) (hp : ps.length ≤ 15)
    (hkN : k lN = some oN) (hlN : OList oN vN) (hiN : IsInts ns vN) (ha : ns[2]? = some a) {Q : Flow → Kn → Lm → Mu → Prop}
    (h : ∀ k' D oD us, k.Le k' → k' D = some oD → OList oD us → Are (IsPair k') (maskTo a ps ps.length) us → Q .next k' (m.set "edges" (.ref D)) mu) : Mt (lw w n k0 L base) k m mu (exec (lst 4) (lw w n k0 L base).env) Q := by
  obtain ⟨va, hva, ta, rfl⟩ := hiN.get ha
  have hvl : vs.length = ps.length := hi.1.symm
  refine Mt_Assign (Mt_ListComp (Mt_Call (Mt_nameB (v := .type "enumerate") (by kernel_rfl) (by kernel_rfl) (by decide) ⟨keeps_type _, Mt_spliced_cons (Mt_nameL hm (Mt_spliced_nil (Mt_enumerate (.inl hk) hl fun e oe it oi he hit => Mt_pyIter_enum (.head _) he ?_)))⟩)))
  refine ⟨[(e, oe), (it, oi)], mu, rfl, fun D L' base' hTD hDb => ?_⟩
  have sw : List.Perm [(D, lst0), (e, oe), (it, oi)] [(e, oe), (it, oi), (D, lst0)] := List.perm_append_comm (l₁ := [(D, lst0)]) (l₂ := [(e, oe), (it, oi)])
  refine MtC_start_enum (C := ccx (lw w n k0 L base) _ L' base' k) (.tail _ (.head _)) he sw ⟨_, fun w => rfl⟩ (fun A => Around.under_of_weight rfl) rfl rfl ?_
  refine MtC_comp1 (C := ccx (lw w n k0 L base) _ L' base' k) (fun q k' m' mu' => ∃ i oe oi oD us, q = ps.length - i ∧ i ≤ ps.length ∧ mu' = [(e, oe), (it, oi), (D, oD)] ∧ k.Le k' ∧ OEn oe it i ∧ OLIter oi l i ∧ m' "numbers" = some (.ref lN) ∧ OList oD us ∧ Are (IsPair k') (maskTo a ps i) us)
    ?_ _ ⟨0, oe, oi, lst0, [], rfl, Nat.zero_le _, rfl, Kn.Le.refl _, he, hit, (cmap_free rfl).trans hmN, lst0_OList, Are.nil⟩
  rintro q k1 m1 mu1 ⟨i, oe, oi, oD, us, rfl, hle, rfl, le1, he, hit, m1N, hD, hus⟩
  rcases Nat.lt_or_ge i ps.length with hlt | hge
  · have hx : ps[i]? = some ps[i] := by simp [hlt]
    have hgd : ps.getD i (0, 0) = ps[i] := by rw [List.getD_eq_getElem?_getD, hx]; rfl
    obtain ⟨v, hv, hpv⟩ := hi.get hx
    generalize ps[i] = p at *
    refine Mt_next_enum he hit (.inl (le1 _ _ hk)) hl hv fun T oT oe2 oi2 t kT leT hT he2 hit2 => ?_
    refine Mt_letOwnedEn he2 fun oe3 he3 => ?_
    have le2 := le1.trans leT
    refine Mt_assign_pair (.inl (Kn.put_self _ _ _)) hT (Mt_toL (Mt_toL (Mt_tests_one (Mt_isTrue_Compare ?_))))
    have hb := pow_le_30 (b := 2) (.inl rfl) (j := i) (by omega)
    refine Mt_BinOp (Mt_BinOp (Mt_Subscript (Mt_nameC (Lm.up (Lm.up m1N)) (Mt_int fun t0 => Mt_sub_list (i := 2) (.inl (le2 _ _ hkN)) hlN hva (by decide) ?_))))
    refine Mt_BinOp (Mt_int fun t1 => Mt_nameL (Lm.up (Lm.set_self _ _ _)) (Mt_pow_int (by omega) ?_ fun t2 => ?_))
    · have : (Builtin.Int.intBits 2 : Int) = 2 := by decide +kernel
      rw [this]; omega
    rw [Int.toNat_natCast]
    refine Mt_div_int hb.2 hb.1 fun t3 => Mt_int fun t4 => Mt_mod_int (by decide) fun t5 => Mt_int fun t6 => Mt_eq_int (Mt_truthy_bool ?_)
    have hbit : decide ((a.fdiv ((2 : Int) ^ i)).fmod 2 = 1) = bitOf a i := rfl
    have hl5 := hus.1
    have hml := maskTo_len a ps i
    show if decide ((a.fdiv ((2 : Int) ^ i)).fmod 2 = 1) = true then _ else _
    rw [hbit]
    by_cases hc : bitOf a i = true
    · rw [if_pos hc]
      refine Mt_nameL (Lm.set_self _ _ _) (Mt_append (l1 := [(e, oe3), (it, oi2)]) rfl hD (by omega) fun o6 ho6 => ?_)
      refine ⟨ps.length - (i + 1), by omega, i + 1, oe3, oi2, o6, _, rfl, by omega, rfl, le2, he3, hit2, Lm.up (Lm.up m1N), ho6, ?_⟩
      rw [maskTo_succ, if_pos hc, hgd]
      exact (hus.mono fun p _ v hv => hv.le leT).push (hpv.le le2)
    · rw [if_neg hc]
      refine ⟨ps.length - (i + 1), by omega, i + 1, oe3, oi2, oD, us, rfl, by omega, rfl, le2, he3, hit2, Lm.up (Lm.up m1N), hD, ?_⟩
      rw [maskTo_succ, if_neg hc, List.append_nil]
      exact hus.mono fun p _ v hv => hv.le leT
  · have hix : i = ps.length := by omega
    subst hix
    refine Mt_next_enum_end he hit (.inl (le1 _ _ hk)) hl (by omega) ?_
    exact ⟨oD, .head _, fun kD => Mt_setC (h _ D oD us (le1.trans (Kn.le_put kD)) (Kn.put_self _ _ _) hD (hus.mono fun p _ v hv => hv.le (Kn.le_put kD)))⟩
theorem law5 {lN : Addr} {oN : Obj} {vN : List Value} {ns : List Int} {c : Int} (hmN : m "numbers" = some (.ref lN)) (hkN : k lN = some oN) (hlN : OList oN vN) (hiN : IsInts ns vN) (hc : ns[3]? = some c) {Q : Flow → Kn → Lm → Mu → Prop}
    (h : Q .next k (m.set "tree" (.bool (decide (c.fmod 3 = 2)))) mu) : Mt (lw w n k0 L base) k m mu (exec (lst 5) (lw w n k0 L base).env) Q := by
  obtain ⟨vc, hvc, tc, rfl⟩ := hiN.get hc
  exact Mt_Assign (Mt_Compare (Mt_BinOp (Mt_Subscript (Mt_nameC hmN (Mt_int fun t0 => Mt_sub_list (i := 3) (.inl hkN) hlN hvc (by decide) (Mt_int fun t1 => Mt_mod_int (by decide) fun t2 => Mt_int fun t3 => Mt_eq_int (Mt_setL h)))))))
theorem law6 {l lN : Addr} {ol oN : Obj} {vs vN : List Value} {xs ns : List Int} {a : Int} {N : Nat} {tN : Tok} {tr : Bool} (hmT : m "tree" = some (.bool tr)) (hmO : m "order" = some (.ref l)) (hM : m "many" = some (.int N tN)) (hN : 0 < N ∧ N ≤ 6) (hmN : m "numbers" = some (.ref lN)) (hk : k l = some ol) (hl : OList ol vs) (hi : IsInts xs vs) (hxl : xs.length = N)
    (hkN : k lN = some oN) (hlN : OList oN vN) (hiN : IsInts ns vN) (ha : ns[2]? = some a) {Q : Flow → Kn → Lm → Mu → Prop}
    (h0 : tr = false → Q .next k m mu)
    (h : tr = true → ∀ k' D oD us, k.Le k' → k' D = some oD → OList oD us → Are (IsPair k') (treeOf a xs) us → Q .next k' (m.set "edges" (.ref D)) mu) : Mt (lw w n k0 L base) k m mu (exec (lst 6) (lw w n k0 L base).env) Q := by
  obtain ⟨va, hva, ta, rfl⟩ := hiN.get ha
  refine Mt_If (Mt_isTrue_plain rfl (Mt_nameL hmT (Mt_truthy_bool ?_)))
  cases tr with
  | false => rw [if_neg (by simp)]; exact Mt_nil (h0 rfl)
  | true =>
    rw [if_pos rfl]
    refine Mt_cons (Mt_Assign (Mt_ListComp (Mt_Call (Mt_nameB (v := .type "range") (by kernel_rfl) (by kernel_rfl) (by decide) ⟨keeps_type _, Mt_spliced_cons (Mt_int fun t0 => Mt_spliced_cons (Mt_nameC hM (Mt_spliced_nil (Mt_range2 fun R oR kR hTR hoR => ?_))))⟩))))
    have le1 := Kn.le_put (o := oR) kR
    refine Mt_pyIter_range (.inl (Kn.put_self _ _ _)) hoR (n := N - 1) (by omega) (by omega) (by omega) fun it oi hTi hoi => ?_
    have item : ∀ i < N, ∃ t, vs[i]? = some (.int (xs.getD i 0) t) := fun i hi' => by
      obtain ⟨v, hv, t, rfl⟩ := hi.get (i := i) (x := xs[i]'(by omega)) (by simp [hxl, hi'])
      refine ⟨t, ?_⟩
      rw [hv, List.getD_eq_getElem?_getD, List.getElem?_eq_getElem (by omega)]; rfl
    refine ⟨[(it, oi)], mu, rfl, comp1_in (Src.range w 1 (N - 1)) (fun v => [(xs.getD ((a.fdiv ((3 : Int) ^ v.toNat)).fmod v).toNat 0, xs.getD v.toNat 0)]) (fun k p v => IsPair k p v) (fun _ _ _ _ le h => h.le le) (fun m => m "order" = some (.ref l) ∧ m "numbers" = some (.ref lN)) (by simp; omega) (fun e he => by simp) ?_ ?_ ⟨(cmap_free rfl).trans hmO, (cmap_free rfl).trans hmN⟩ hoi (Kn.Le.refl _)⟩
    · rintro D L' base' hTD j x k1 m1 oi1 oD v he ⟨tx, rfl⟩ le2 ⟨i1, i2⟩
      have hj : j < N - 1 := by have := (List.getElem?_eq_some_iff.mp he).1; simpa using this
      have hxj : x = ((j + 1 : Nat) : Int) := by simp [hj] at he; omega
      subst hxj
      have hk1 := le2 _ _ (le1 _ _ hk)
      have hkN1 := le2 _ _ (le1 _ _ hkN)
      have hb := pow_le_30 (b := 3) (.inr rfl) (j := j + 1) (by omega)
      have hpos : (0 : Int) < ((j + 1 : Nat) : Int) := by omega
      have hm0 : 0 ≤ (a.fdiv ((3 : Int) ^ (j + 1))).fmod ((j + 1 : Nat) : Int) := Int.fmod_nonneg_of_pos _ hpos
      have hm1 : (a.fdiv ((3 : Int) ^ (j + 1))).fmod ((j + 1 : Nat) : Int) < ((j + 1 : Nat) : Int) := Int.fmod_lt_of_pos _ hpos
      obtain ⟨tj, htj⟩ := item (j + 1) (by omega)
      obtain ⟨ti, hti⟩ := item ((a.fdiv ((3 : Int) ^ (j + 1))).fmod ((j + 1 : Nat) : Int)).toNat (by omega)
      refine Mt_toL (Mt_tests_nil ?_)
      rw [if_pos rfl]
      refine Mt_Tuple (Mt_spliced_cons (Mt_Subscript (Mt_nameC (Lm.up i1) ?_)))
      refine Mt_BinOp (Mt_BinOp (Mt_Subscript (Mt_nameC (Lm.up i2) (Mt_int fun t0 => Mt_sub_list (i := 2) (.inl hkN1) hlN hva (by decide) ?_))))
      refine Mt_BinOp (Mt_int fun t1 => Mt_nameL (Lm.set_self _ _ _) (Mt_pow_int (by omega) ?_ fun t2 => ?_))
      · have : (Builtin.Int.intBits 3 : Int) = 2 := by decide +kernel
        rw [this]; omega
      rw [Int.toNat_natCast]
      refine Mt_div_int hb.2 hb.1 fun t3 => Mt_nameL (Lm.set_self _ _ _) (Mt_mod_int (by omega) fun t4 => ?_)
      have e1 : Value.int ((a.fdiv ((3 : Int) ^ (j + 1))).fmod ((j + 1 : Nat) : Int)) t4 = .int ((((a.fdiv ((3 : Int) ^ (j + 1))).fmod ((j + 1 : Nat) : Int)).toNat : Nat) : Int) t4 := by rw [Int.toNat_of_nonneg hm0]
      rw [e1]
      refine Mt_sub_list (i := _) (.inl hk1) hl hti (by omega) ?_
      refine Mt_spliced_cons (Mt_Subscript (Mt_nameC (Lm.up i1) (Mt_nameL (Lm.set_self _ _ _) (Mt_sub_list (i := j + 1) (.inl hk1) hl htj (by omega) (Mt_spliced_nil (Mt_newTuple fun T oT kT hT hoT => ?_))))))
      exact ⟨Kn.le_put kT, rfl, ⟨Lm.up i1, Lm.up i2⟩, _, rfl, T, oT, _, _, rfl, Kn.put_self _ _ _, hoT, ⟨ti, rfl⟩, ⟨tj, rfl⟩⟩
    · intro D k3 oD us hTD hDb kD3 le2 le3 hoD hus
      refine Mt_setC (Mt_nil (h rfl _ D oD us ((le1.trans le2).trans le3) (Kn.put_self _ _ _) hoD ?_))
      rw [flatMap_one, List.map_map] at hus
      have e : (List.map ((fun v : Int => (xs.getD ((a.fdiv ((3 : Int) ^ v.toNat)).fmod v).toNat 0, xs.getD v.toNat 0)) ∘ fun (j : Nat) => (1 : Int) + (j : Int)) (List.range (N - 1))) = treeOf a xs := by
        unfold treeOf
        rw [hxl]
        refine List.map_congr_left fun v _ => ?_
        have e2 : (1 : Int) + (v : Int) = ((v + 1 : Nat) : Int) := by omega
        simp only [Function.comp, e2, Int.toNat_natCast]
      rw [e] at hus
      exact hus.mono fun p _ v hv => hv.le le3
end
end Mine

-- NE
namespace Mine
def rangeN (N : Nat) : List Int := (List.range N).map fun (j : Nat) => (j : Int)
section
variable {α : Type} {C : Cx} {k : Kn} {m : Lm} {mu : Mu}
theorem Stt.frzAll {h : Heap} : ∀ {M : Mu} {k : Kn}, Stt C k m (M ++ mu) h → ∃ k', k.Le k' ∧ (∀ p ∈ M, k' p.1 = some p.2) ∧ (∀ p ∈ M, k p.1 = none ∧ C.base.get? p.1 = none) ∧ (M.map (·.1)).Nodup ∧ Stt C k' m mu h
  | [], k, S => ⟨k, Kn.Le.refl _, (fun _ h => nomatch h), (fun _ h => nomatch h), List.nodup_nil, S⟩
  | (D, o) :: M, k, S => by
    have hnd := S.nd
    simp only [List.cons_append, List.map_cons, List.nodup_cons, List.map_append, List.mem_append, not_or] at hnd
    have kD : k D = none := S.kmu (D, o) (.head _)
    have bD := S.bmu (D, o) (.head _)
    obtain ⟨k', le, hin, hno, hnd', S'⟩ := Stt.frzAll (M := M) (k := k.put D o) (Stt.freeze (l1 := []) (l2 := M ++ mu) S)
    refine ⟨k', (Kn.le_put kD).trans le, fun p hp => ?_, fun p hp => ?_, ?_, S'⟩
    · rcases List.mem_cons.mp hp with rfl | hp
      · exact le _ _ (Kn.put_self _ _ _)
      · exact hin p hp
    · rcases List.mem_cons.mp hp with rfl | hp
      · exact ⟨kD, bD⟩
      · refine ⟨?_, (hno p hp).2⟩
        have := (hno p hp).1
        have ne : p.1 ≠ D := fun e => hnd.1.1 (e ▸ List.mem_map.mpr ⟨p, hp, rfl⟩)
        rw [Kn.put_ne _ ne] at this; exact this
    · rw [List.map_cons, List.nodup_cons]
      exact ⟨hnd.1.1, hnd'⟩
theorem Stt.eraseAll {h : Heap} : ∀ {M : Mu} {kb k : Kn} {mu : Mu}, kb.Le k → (∀ p ∈ M, k p.1 = some p.2) → (∀ p ∈ M, kb p.1 = none ∧ C.base.get? p.1 = none) → (M.map (·.1)).Nodup → Stt C k m mu h → ∃ k', kb.Le k' ∧ Stt C k' m (M ++ mu) h
  | [], kb, k, mu, le, _, _, _, S => ⟨k, le, S⟩
  | (D, o) :: M, kb, k, mu, le, hin, hno, hnd, S => by
    rw [List.map_cons, List.nodup_cons] at hnd
    have h0 := hno (D, o) (.head _)
    have S1 := S.erase (hin (D, o) (.head _)) h0.2
    obtain ⟨k', le', S'⟩ := Stt.eraseAll (M := M) (kb := kb) (Kn.le_erase le h0.1) (fun p hp => by
      have ne : p.1 ≠ D := fun e => hnd.1 (e ▸ List.mem_map.mpr ⟨p, hp, rfl⟩)
      rw [Kn.erase_ne _ ne]; exact hin p (.tail _ hp)) (fun p hp => hno p (.tail _ hp)) hnd.2 S1
    exact ⟨k', le', S'.perm List.perm_middle⟩
theorem Mv_mono {w : World} {n : Nat} {G : Gr} {t : Sem α} {Q Q' : α → Kn → Mu → Prop} (h : Mv w n G k mu t Q) (hq : ∀ x k' mu', k.Le k' → Q x k' mu' → Q' x k' mu') : Mv w n G k mu t Q' := fun s A E hA hP hT hk hkT hmu hkmu hnd hmT =>
  wpAny_mono (h s A E hA hP hT hk hkT hmu hkmu hnd hmT) (fun x s' ⟨k', mu', a1, a2, a3, a4, a5, a6, a7, q⟩ => ⟨k', mu', a1, a2, a3, a4, a5, a6, a7, hq _ _ _ a4 q⟩) fun _ _ e => e
/-- an own graph, known from now on -/
theorem GM.gk {w : World} {M : Mu} {g gd nd ad pd : Addr} {xs : List Int} {sA sP : Int → Addr} {es : List (Int × Int)} (hg : IsG k [] g (gNames gd nd ad pd)) (gm : GM w M nd ad pd xs sA sP (nbOf es) (pbOf es)) (hin : ∀ p ∈ M, k p.1 = some p.2) (hes : ∀ e ∈ es, e.1 ∈ xs ∧ e.2 ∈ xs) (few : xs.length ≤ 1000) (hnd : xs.Nodup) :
    GK w k g gd nd ad pd xs (nbOf es) (pbOf es) := by
  have two : ∀ {d sA nb}, TB < d → Two w M d xs sA nb → AdjAt w k d xs nb := by
    rintro d sA nb hd ⟨o, kvs, h1, h2, h3, h4⟩
    refine ⟨o, kvs, hin _ h1, h2, h3, lo_of hd, fun x hx => ?_⟩
    obtain ⟨a1, a2, ox, kx, a3, a4, a5⟩ := h4 x hx
    exact ⟨_, ox, kx, a1, hin _ a3, a4, a5, lo_of a2⟩
  obtain ⟨o, kvs, h1, h2, h3⟩ := gm.node
  exact ⟨hg, ⟨o, kvs, hin _ h1, h2, h3, lo_of gm.lo.1⟩, two gm.lo.2.1 gm.adj, two gm.lo.2.2 gm.pred, fun x hx y hy => (hes _ (mem_nbOf.mp hy)).2, fun x hx y hy => (hes _ (mem_pbOf.mp hy)).1, few, hnd⟩
end
section
variable {w : World} {n : Nat} {k0 k : Kn} {L : Addr} {base : Heap} {m : Lm} {mu : Mu}
theorem law7 {Q : Flow → Kn → Lm → Mu → Prop}
    (h : ∀ g gd nd ad pd k', k.Le k' → TB < nd → TB < ad → TB < pd → IsG k' [] g (gNames gd nd ad pd) → Q .next k' (m.set "G" (.ref g)) ([(pd, dct0), (ad, dct0), (nd, dct0)] ++ mu)) : Mt (lw w (n + 12) k0 L base) k m mu (exec (lst 7) (lw w (n + 12) k0 L base).env) Q := by
  refine Mt_Assign (Mt_Call (Mt_nameG (v := .ref DG) (by kernel_rfl) ⟨keeps_text (by kernel_rfl), Mt_spliced_nil (Mt_makeG (n := n + 9) eqG_ok rfl fun g gd nd ad pd k' le hb t1 t2 t3 hG => ?_)⟩))
  exact Mt_setL (h g gd nd ad pd k' le t1 t2 t3 hG)
theorem law8 {g gd nd ad pd l lN : Addr} {ol oN : Obj} {vs vN : List Value} {xs ns : List Int} {c : Int} {N : Nat} {tN : Tok} (hmG : m "G" = some (.ref g)) (hg : IsG k [] g (gNames gd nd ad pd)) (t1 : TB < nd) (t2 : TB < ad) (t3 : TB < pd)
    (hmO : m "order" = some (.ref l)) (hM : m "many" = some (.int N tN)) (hN : 0 < N ∧ N ≤ 6) (hmN : m "numbers" = some (.ref lN)) (hk : k l = some ol) (hl : OList ol vs) (hi : IsInts xs vs) (hxl : xs.length = N) (hxn : xs.Nodup) (hxm : ∀ x, x ∈ xs ↔ x ∈ rangeN N)
    (hkN : k lN = some oN) (hlN : OList oN vN) (hiN : IsInts ns vN) (hc : ns[3]? = some c) {Q : Flow → Kn → Lm → Mu → Prop}
    (h : ∀ k' M sA sP nodes, k.Le k' → GM w M nd ad pd nodes sA sP (nbOf []) (pbOf []) → nodes.Nodup → nodes.length = N → (∀ x, x ∈ nodes ↔ x ∈ rangeN N) → (nodes = rangeN N ∨ nodes = xs) → Q .next k' m M) : Mt (lw w (n + 12) k0 L base) k m [(pd, dct0), (ad, dct0), (nd, dct0)] (exec (lst 8) (lw w (n + 12) k0 L base).env) Q := by
  obtain ⟨vc, hvc, tc, rfl⟩ := hiN.get hc
  have rn : (rangeN N).Nodup := by
    have : ∀ n < 7, (rangeN n).Nodup := by decide +kernel
    exact this N (by omega)
  have go : ∀ {k1 lv ov us nodes} {Q' : Value → Kn → Lm → Mu → Prop}, k.Le k1 → k1 lv = some ov → OList ov us → IsInts nodes us → nodes.Nodup → nodes.length = N → (∀ x, x ∈ nodes ↔ x ∈ rangeN N) → (nodes = rangeN N ∨ nodes = xs) → (∀ k' M sA sP, k.Le k' → GM w M nd ad pd nodes sA sP (nbOf []) (pbOf []) → Q' .none k' m M) →
      Mt (lw w (n + 12) k0 L base) k1 m [(pd, dct0), (ad, dct0), (nd, dct0)] (call (.ref 657) [.ref g, .ref lv]) Q' := by
    intro k1 lv ov us nodes Q' le1 h1 h2 h3 h4 h5 h6 h7 hQ
    refine Mt_mv (mu1 := [(pd, dct0), (ad, dct0), (nd, dct0)]) (mu2 := []) (Mv_mono (addn_mv (n := n + 10) eqG_ok (hg.le le1) t1 t2 t3 h1 h2 h3 h4 (by omega)) ?_)
    rintro v k' mu' le' ⟨rfl, sA, sP, gm⟩ - -
    rw [List.append_nil]
    exact hQ k' mu' sA sP (le1.trans le') gm
  refine Mt_Expr rfl (Mt_CallM (Mt_nameL hmG fun pl => Mt_method (f := 657) (hg.le (Kn.Le.refl _)) rfl (by kernel_rfl) (by kernel_rfl) ⟨keeps_text (by kernel_rfl), Mt_spliced_cons (Mt_IfExp (Mt_isTrue_Compare ?_))⟩))
  refine Mt_BinOp (Mt_BinOp (Mt_Subscript (Mt_nameC hmN (Mt_int fun t0 => Mt_sub_list (i := 3) (.inl hkN) hlN hvc (by decide) (Mt_int fun t1 => Mt_div_int (by decide) (by decide) fun t2 => Mt_int fun t3 => Mt_mod_int (by decide) fun t4 => Mt_int fun t5 => Mt_eq_int (Mt_truthy_bool ?_))))))
  split
  · refine Mt_Call (Mt_nameB (v := .type "list") (by kernel_rfl) (by kernel_rfl) (by decide) ⟨keeps_type _, Mt_spliced_cons (Mt_Call (Mt_nameB (v := .type "range") (by kernel_rfl) (by kernel_rfl) (by decide) ⟨keeps_type _, Mt_spliced_cons (Mt_nameC hM (Mt_spliced_nil (Mt_range1 fun R oR kR hTR hoR => ?_)))⟩))⟩)
    refine Mt_spliced_nil (Mt_list_range (n := N) (.inl (Kn.put_self _ _ _)) hoR (by omega) fun D oD us kD hTD hoD hus => Mt_spliced_nil ?_)
    exact go ((Kn.le_put (o := oR) kR).trans (Kn.le_put (o := oD) kD)) (Kn.put_self _ _ _) hoD hus rn (by simp [rangeN]) (fun _ => Iff.rfl) (.inl rfl) fun k' M sA sP le gm => ⟨rfl, h k' M sA sP _ le gm rn (by simp [rangeN]) (fun _ => Iff.rfl) (.inl rfl)⟩
  · exact Mt_nameC hmO (Mt_spliced_nil (go (Kn.Le.refl _) hk hl hi hxn hxl hxm (.inr rfl) fun k' M sA sP le gm => ⟨rfl, h k' M sA sP _ le gm hxn hxl hxm (.inr rfl)⟩))
theorem law9 {g gd nd ad pd lE : Addr} {oE : Obj} {vs : List Value} {M : Mu} {nodes : List Int} {sA sP : Int → Addr} {es : List (Int × Int)} (hmG : m "G" = some (.ref g)) (hmE : m "edges" = some (.ref lE)) (hg : IsG k [] g (gNames gd nd ad pd)) (gm : GM w M nd ad pd nodes sA sP (nbOf []) (pbOf []))
    (hk : k lE = some oE) (hl : OList oE vs) (hi : Are (IsPair k) es vs) (hin : ∀ e ∈ es, e.1 ∈ nodes ∧ e.2 ∈ nodes) (hnd : es.Nodup) (hf : es.length ≤ 1000) {Q : Flow → Kn → Lm → Mu → Prop}
    (h : ∀ k' M', k.Le k' → GM w M' nd ad pd nodes sA sP (nbOf es) (pbOf es) → Q .next k' m M') : Mt (lw w (n + 12) k0 L base) k m M (exec (lst 9) (lw w (n + 12) k0 L base).env) Q := by
  refine Mt_Expr rfl (Mt_CallM (Mt_nameL hmG fun pl => Mt_method (f := 685) (hg.le (Kn.Le.refl _)) rfl (by kernel_rfl) (by kernel_rfl) ⟨keeps_text (by kernel_rfl), Mt_spliced_cons (Mt_nameC hmE (Mt_spliced_nil ?_))⟩))
  have := Mt_mv (C := lw w (n + 12) k0 L base) (k := k) (m := m) (mu1 := M) (mu2 := []) (t := call (.ref 685) [.ref g, .ref lE]) (Q := fun v k m mu => v = .none ∧ Q .next k m mu) (Mv_mono (addes_mv (n := n + 10) eqG_ok hg gm hk hl hi hin hnd hf) (by
    rintro v k' mu' le' ⟨rfl, gm'⟩ - -
    rw [List.append_nil]
    exact ⟨rfl, h k' mu' le' gm'⟩))
  rwa [List.append_nil] at this
end
end Mine

-- NF
namespace Mine
/-- a list of the nodes from which x is reached -/
def AbOk (es : List (Int × Int)) (k : Kn) (x : Int) (v : Value) : Prop := ∃ D o us qs, v = .ref D ∧ k D = some o ∧ OList o us ∧ IsInts qs us ∧ qs.Nodup ∧ qs.head? = some x ∧ ∀ y, y ∈ qs ↔ Reach (pbOf es) x y
theorem AbOk.le {es : List (Int × Int)} {k k' : Kn} {x : Int} {v : Value} (h : AbOk es k x v) (l : k.Le k') : AbOk es k' x v := let ⟨D, o, us, qs, a, b, c⟩ := h; ⟨D, o, us, qs, a, l _ _ b, c⟩
def someOf (d e : Int) (N : Nat) : List (Int × Int) := (List.range 3).map fun k => ((d.fdiv ((7 : Int) ^ k)).fmod N, (e.fdiv ((7 : Int) ^ k)).fmod N)
theorem range_ints (N : Nat) : ((List.range N).map fun (j : Nat) => (0 : Int) + (j : Int)) = rangeN N := by
  unfold rangeN
  exact List.map_congr_left fun v _ => by omega
section
variable {w : World} {n : Nat} {k0 k : Kn} {L : Addr} {base : Heap} {m : Lm} {mu : Mu}
theorem law10 {lE : Addr} {oE : Obj} {vs : List Value} {es : List (Int × Int)} {N : Nat} {tN : Tok} (hM : m "many" = some (.int N tN)) (hN : 0 < N ∧ N ≤ 6) (hmE : m "edges" = some (.ref lE)) (hk : k lE = some oE) (hl : OList oE vs) (hi : Are (IsPair k) es vs) (hnd : es.Nodup) (hf : es.length ≤ 900) {Q : Flow → Kn → Lm → Mu → Prop}
    (h : ∀ k' D oD us, k.Le k' → k' D = some oD → OList oD us → Are (AbOk es k') (rangeN N) us → Q .next k' (m.set "above" (.ref D)) mu) : Mt (lw w (n + 12) k0 L base) k m mu (exec (lst 10) (lw w (n + 12) k0 L base).env) Q := by
  refine Mt_Assign (Mt_ListComp (Mt_Call (Mt_nameB (v := .type "range") (by kernel_rfl) (by kernel_rfl) (by decide) ⟨keeps_type _, Mt_spliced_cons (Mt_nameC hM (Mt_spliced_nil (Mt_range1 fun R oR kR hTR hoR => ?_)))⟩)))
  have le1 := Kn.le_put (o := oR) kR
  refine Mt_pyIter_range (.inl (Kn.put_self _ _ _)) hoR (n := N) (by omega) (by omega) (by omega) fun it oi hTi hoi => ?_
  refine ⟨[(it, oi)], mu, rfl, comp1_in (Src.range w 0 N) (fun v => [v]) (AbOk es) (fun _ _ _ _ le h => h.le le) (fun m => m "edges" = some (.ref lE)) (by simp; omega) (fun e he => by simp) ?_ ?_ ((cmap_free rfl).trans hmE) hoi (Kn.Le.refl _)⟩
  · rintro D L' base' hTD j x k1 m1 oi1 oD v he ⟨tx, rfl⟩ le2 i1
    have leX := le1.trans le2
    refine Mt_toL (Mt_tests_nil ?_)
    rw [if_pos rfl]
    refine Mt_Call (Mt_nameG (v := .ref 812) (by kernel_rfl) ⟨keeps_text (by kernel_rfl), Mt_spliced_cons (Mt_nameC (Lm.up i1) (Mt_spliced_cons (Mt_nameL (Lm.set_self _ _ _) (Mt_spliced_nil ?_))))⟩)
    refine Mt_ev (Ev_mono (above_ev (n := n + 11) eqG_ok (leX _ _ hk) hl (hi.mono fun p _ v hv => hv.le leX) hnd hf) fun v k' le3 hv _ => ?_)
    exact ⟨le3, rfl, Lm.up i1, x, rfl, hv⟩
  · intro D k3 oD us hTD hDb kD3 le2 le3 hoD hus
    refine Mt_setC (h _ D oD us ((le1.trans le2).trans le3) (Kn.put_self _ _ _) hoD ?_)
    rw [flatMap_one, List.map_id', range_ints] at hus
    exact hus.mono fun p _ v hv => hv.le le3
theorem pow7 {j : Nat} (hj : j < 3) : ((7 : Int) ^ j).natAbs < 1073741824 ∧ (7 : Int) ^ j ≠ 0 := by
  have : ∀ j < 3, ((7 : Int) ^ j).natAbs < 1073741824 ∧ (7 : Int) ^ j ≠ 0 := by decide +kernel
  exact this j hj
theorem law11 {lN : Addr} {oN : Obj} {vN : List Value} {ns : List Int} {d e : Int} {N : Nat} {tN : Tok} (hM : m "many" = some (.int N tN)) (hN : 0 < N ∧ N ≤ 6) (hmN : m "numbers" = some (.ref lN)) (hkN : k lN = some oN) (hlN : OList oN vN) (hiN : IsInts ns vN) (hd : ns[4]? = some d) (he : ns[5]? = some e) {Q : Flow → Kn → Lm → Mu → Prop}
    (h : ∀ k' D oD us, k.Le k' → k' D = some oD → OList oD us → Are (IsPair k') (someOf d e N) us → Q .next k' (m.set "some" (.ref D)) mu) : Mt (lw w n k0 L base) k m mu (exec (lst 11) (lw w n k0 L base).env) Q := by
  obtain ⟨vd, hvd, td, rfl⟩ := hiN.get hd
  obtain ⟨ve, hve, te, rfl⟩ := hiN.get he
  refine Mt_Assign_swap (Mt_Call (Mt_nameB (v := .type "range") (by kernel_rfl) (by kernel_rfl) (by decide) ⟨keeps_type _, Mt_spliced_cons (Mt_int fun t0 => Mt_spliced_nil (Mt_range1 fun R oR kR hTR hoR => ?_))⟩))
  have le1 := Kn.le_put (o := oR) kR
  refine Mt_pyIter_range (.inl (Kn.put_self _ _ _)) hoR (n := 3) (by omega) (by omega) (by omega) fun it oi hTi hoi => ?_
  refine ⟨[(it, oi)], mu, rfl, comp1_in (Src.range w 0 3) (fun v => [((d.fdiv ((7 : Int) ^ v.toNat)).fmod N, (e.fdiv ((7 : Int) ^ v.toNat)).fmod N)]) (fun k p v => IsPair k p v) (fun _ _ _ _ le h => h.le le) (fun m => m "numbers" = some (.ref lN) ∧ m "many" = some (.int N tN)) (by simp) (fun e he => by simp) ?_ ?_ ⟨(cmap_free rfl).trans hmN, (cmap_free rfl).trans hM⟩ hoi (Kn.Le.refl _)⟩
  · rintro D L' base' hTD j x k1 m1 oi1 oD v hx ⟨tx, rfl⟩ le2 ⟨i1, i2⟩
    have hj : j < 3 := by have := (List.getElem?_eq_some_iff.mp hx).1; simpa using this
    have hxj : x = ((j : Nat) : Int) := by simp [hj] at hx; omega
    subst hxj
    have hkN1 := le2 _ _ (le1 _ _ hkN)
    have hb := pow7 hj
    have hbits : (Builtin.Int.intBits 7 : Int) = 3 := by decide +kernel
    refine Mt_toL (Mt_tests_nil ?_)
    rw [if_pos rfl]
    refine Mt_Tuple (Mt_spliced_cons ?_)
    refine Mt_BinOp (Mt_BinOp (Mt_Subscript (Mt_nameC (Lm.up i1) (Mt_int fun t0 => Mt_sub_list (i := 4) (.inl hkN1) hlN hvd (by decide) ?_))))
    refine Mt_BinOp (Mt_int fun t1 => Mt_nameL (Lm.set_self _ _ _) (Mt_pow_int (by omega) (by rw [hbits]; omega) fun t2 => ?_))
    rw [Int.toNat_natCast]
    refine Mt_div_int hb.2 hb.1 fun t3 => Mt_nameC (Lm.up i2) (Mt_mod_int (by omega) fun t4 => ?_)
    refine Mt_spliced_cons ?_
    refine Mt_BinOp (Mt_BinOp (Mt_Subscript (Mt_nameC (Lm.up i1) (Mt_int fun t5 => Mt_sub_list (i := 5) (.inl hkN1) hlN hve (by decide) ?_))))
    refine Mt_BinOp (Mt_int fun t6 => Mt_nameL (Lm.set_self _ _ _) (Mt_pow_int (by omega) (by rw [hbits]; omega) fun t7 => ?_))
    rw [Int.toNat_natCast]
    refine Mt_div_int hb.2 hb.1 fun t8 => Mt_nameC (Lm.up i2) (Mt_mod_int (by omega) fun t9 => ?_)
    refine Mt_spliced_nil (Mt_newTuple fun T oT kT hT hoT => ?_)
    exact ⟨Kn.le_put kT, rfl, ⟨Lm.up i1, Lm.up i2⟩, _, rfl, T, oT, _, _, rfl, Kn.put_self _ _ _, hoT, ⟨_, rfl⟩, ⟨_, rfl⟩⟩
  · intro D k3 oD us hTD hDb kD3 le2 le3 hoD hus
    refine h _ D oD us ((le1.trans le2).trans le3) (Kn.put_self _ _ _) hoD ?_
    rw [flatMap_one, List.map_map] at hus
    have e : (List.map ((fun v : Int => ((d.fdiv ((7 : Int) ^ v.toNat)).fmod N, (e.fdiv ((7 : Int) ^ v.toNat)).fmod N)) ∘ fun (j : Nat) => (0 : Int) + (j : Int)) (List.range 3)) = someOf d e N := by
      unfold someOf
      refine List.map_congr_left fun v _ => ?_
      have e2 : (0 : Int) + (v : Int) = (v : Int) := by omega
      simp only [Function.comp, e2, Int.toNat_natCast]
    rw [e] at hus
    exact hus.mono fun p _ v hv => hv.le le3
end
end Mine

-- NG
namespace Mine
theorem mem_rangeN {N : Nat} {u : Int} : u ∈ rangeN N ↔ 0 ≤ u ∧ u < N := by
  unfold rangeN
  rw [List.mem_map]
  constructor
  · rintro ⟨j, hj, rfl⟩
    rw [List.mem_range] at hj
    omega
  · rintro ⟨h1, h2⟩
    exact ⟨u.toNat, by rw [List.mem_range]; omega, by omega⟩
theorem flatMap_filter {α : Type} (p : α → Bool) : ∀ l : List α, l.flatMap (fun x => if p x = true then [x] else []) = l.filter p
  | [] => rfl
  | x :: r => by
    rw [List.flatMap_cons, flatMap_filter p r, List.filter_cons]
    split <;> rfl
def comS : Scope := { kind := .function, names := [((".0" : Str), .local), (("u" : Str), .local), (("above" : Str), .free), (("w" : Str), .free)], isGenerator := false, isCoroutine := false }
def badS : Scope := { kind := .function, names := [((".0" : Str), .local), (("u" : Str), .local), (("above" : Str), .free), (("told" : Str), .free)], isGenerator := false, isCoroutine := false }
section
variable {α : Type} {C : Cx} {k : Kn} {m : Lm} {mu : Mu} {es : List (Int × Int)} {N : Nat} {lA : Addr} {oA : Obj} {vA : List Value}
theorem ab_item {u : Int} (hab : Are (AbOk es k) (rangeN N) vA) (hu : u ∈ rangeN N) : ∃ val, vA[u.toNat]? = some val ∧ AbOk es k u val := by
  have h := mem_rangeN.mp hu
  refine hab.get (i := u.toNat) (x := u) ?_
  unfold rangeN
  rw [List.getElem?_map, List.getElem?_range (by omega)]
  simp; omega
theorem Mt_above {ea : PySem.Expr} {nm : Str} {np p : Pos} {u : Int} {Q : Value → Kn → Lm → Mu → Prop} (kA : k lA = some oA) (hlA : OList oA vA) (hab : Are (AbOk es k) (rangeN N) vA) (hN : N ≤ 6) (hu : u ∈ rangeN N)
    (h : Mt C k m mu (eval ea C.env) (fun o k1 m1 mu1 => o = .ref lA ∧ Mt C k1 m1 mu1 (eval (.Name nm np) C.env) (fun i k2 m2 mu2 => (∃ t, i = .int u t) ∧ k.Le k2 ∧ ∀ D o us qs, k D = some o → OList o us → IsInts qs us → qs.Nodup → (∀ y, y ∈ qs ↔ Reach (pbOf es) u y) → Q (.ref D) k2 m2 mu2))) : Mt C k m mu (eval (.Subscript ea (.Name nm np) p) C.env) Q := by
  obtain ⟨val, hv, D, o, us, qs, rfl, h1, h2, h3, h4, -, h5⟩ := ab_item hab hu
  have hb := mem_rangeN.mp hu
  refine Mt_Subscript (Mt_mono h fun ov k1 m1 mu1 ⟨e, h⟩ => Mt_mono h fun iv k2 m2 mu2 ⟨⟨t, ei⟩, le, hQ⟩ => ?_)
  subst e ei
  have e : Value.int u t = .int ((u.toNat : Nat) : Int) t := by rw [Int.toNat_of_nonneg hb.1]
  rw [e]
  exact Mt_sub_list (i := u.toNat) (.inl (le _ _ kA)) hlA hv (by omega) (hQ D o us qs h1 h2 h3 h4 h5)
/-- [u for u in above[v] if u in above[w]] -/
theorem com_in {p1 p2 p3 p4 p5 p6 p7 p8 p9 p10 pos : Pos} {x y : Int} {tx ty : Tok} {QV : Value → Kn → Lm → Mu → Prop} (hA : m "above" = some (.ref lA)) (hv : m "v" = some (.int x tx)) (hw : m "w" = some (.int y ty))
    (kA : k lA = some oA) (hlA : OList oA vA) (hab : Are (AbOk es k) (rangeN N) vA) (hN : N ≤ 6) (hx : x ∈ rangeN N) (hy : y ∈ rangeN N) (hes : ∀ e ∈ es, e.1 ∈ rangeN N)
    (h : ∀ D k' oD us cs, k.Le k' → TB < D → k' D = some oD → OList oD us → IsInts cs us → cs.Nodup → (∀ z, z ∈ cs ↔ Reach (pbOf es) x z ∧ Reach (pbOf es) y z) → (∀ z ∈ cs, z ∈ rangeN N) → QV (.ref D) k' m mu)
    (kv : C.env.kindOf "v" = some .local := by rfl) (ka : C.env.kindOf "above" = some .cell := by rfl) (la : (C.env.cells.lookup ("above" : Str)).isSome = true := by rfl)
    (ka' : ∀ L, (cenvOf comS C.env L).kindOf "above" = some .cell := by intro _; rfl) (la' : ∀ L, ((cenvOf comS C.env L).cells.lookup ("above" : Str)).isSome = true := by intro _; rfl)
    (kw' : ∀ L, (cenvOf comS C.env L).kindOf "w" = some .cell := by intro _; rfl) (lw' : ∀ L, ((cenvOf comS C.env L).cells.lookup ("w" : Str)).isSome = true := by intro _; rfl) (ku' : ∀ L, (cenvOf comS C.env L).kindOf "u" = some .local := by intro _; rfl) :
    Mt C k m mu (eval (.Subscript (.Name "above" p3) (.Name "v" p4) p5) C.env) (fun xv k m mu => Mt C k m mu (pyIter xv) (fun it k m muI' => ∃ muI mu, muI' = muI ++ mu ∧ CompIn C (.ListComp (.Name "u" p1) [⟨.Name "u" p2, .Subscript (.Name "above" p3) (.Name "v" p4) p5, [.Compare (.Name "u" p6) [.In] [.Subscript (.Name "above" p7) (.Name "w" p8) p9] p10], 0⟩] comS pos) comS it lst0 m muI mu k (fun v k => QV v k m mu))) := by
  refine Mt_above (u := x) kA hlA hab hN hx (Mt_nameC hA ⟨rfl, Mt_nameL hv ⟨⟨tx, rfl⟩, Kn.Le.refl _, fun D o us qs kD hD hus hqn hq => ?_⟩ kv⟩ la ka)
  obtain ⟨valy, hvy, Dy, oy, uy, qy, rfl, ky1, ky2, ky3, ky4, -, ky5⟩ := ab_item hab hy
  have hreach : ∀ z, z ∈ qs → z ∈ rangeN N := fun z hz => by
    have hr := (hq z).mp hz
    rcases hr with _ | ⟨_, hz'⟩
    · exact hx
    · exact hes _ (mem_pbOf.mp hz')
  refine Mt_pyIter_list (.inl kD) hD fun it oi hT hoi => ?_
  have hlen : qs.length ≤ 6 := by
    have := nodup_len_le hqn hreach
    simp [rangeN] at this; omega
  refine ⟨[(it, oi)], mu, rfl, comp1_in (Src.list C.w hD kD hus) (fun z => if decide (z ∈ qy) = true then [z] else []) (fun _ z v => IsInt z v) (fun _ _ _ _ _ h => h) (fun m => m "above" = some (.ref lA) ∧ m "w" = some (.int y ty)) (by omega) (fun e he => by split <;> simp) ?_ ?_ ⟨(cmap_free rfl).trans hA, (cmap_free rfl).trans hw⟩ hoi (Kn.Le.refl _)⟩
  · rintro D2 L' base' hTD j z k1 m1 oi1 oD v he ⟨tz, rfl⟩ le2 ⟨i1, i2⟩
    refine Mt_toL (C := ccx C comS L' base' k) (Mt_tests_one (C := ccx C comS L' base' k) (Mt_isTrue_Compare (C := ccx C comS L' base' k) (Mt_nameL (C := ccx C comS L' base' k) (Lm.set_self _ _ _) ?_ (ku' L')))) (ku' L')
    refine Mt_above (C := ccx C comS L' base' k) (u := y) (le2 _ _ kA) hlA (hab.mono fun p _ v hv => hv.le le2) hN hy (Mt_nameC (C := ccx C comS L' base' k) (Lm.up i1) ⟨rfl, Mt_nameC (C := ccx C comS L' base' k) (Lm.up i2) ⟨⟨ty, rfl⟩, Kn.Le.refl _, fun D3 o3 u3 q3 kD3 hD3 hu3 hn3 hq3 => ?_⟩ (lw' L') (kw' L')⟩ (la' L') (ka' L'))
    refine Mt_in_ints (C := ccx C comS L' base' k) (.inl kD3) hD3 hu3 (Mt_truthy_bool (C := ccx C comS L' base' k) ?_)
    have e : decide (z ∈ q3) = decide (z ∈ qy) := by
      have : z ∈ q3 ↔ z ∈ qy := (hq3 z).trans (ky5 z).symm
      simp [this]
    rw [e]
    by_cases hc : decide (z ∈ qy) = true
    · rw [if_pos hc]
      exact Mt_nameL (C := ccx C comS L' base' k) (Lm.set_self _ _ _) ⟨Kn.Le.refl _, rfl, ⟨Lm.up i1, Lm.up i2⟩, z, by rw [if_pos hc], tz, rfl⟩ (ku' L')
    · rw [if_neg hc]
      exact ⟨Kn.Le.refl _, rfl, ⟨Lm.up i1, Lm.up i2⟩, by rw [if_neg hc]⟩
  · intro D2 k3 oD ws hTD hDb kD3 le2 le3 hoD hws
    rw [flatMap_filter] at hws
    refine h D2 _ oD ws _ (le2.trans le3) hTD (Kn.put_self _ _ _) hoD hws (hqn.sublist List.filter_sublist) (fun z => ?_) fun z hz => hreach z (List.mem_filter.mp hz).1
    rw [List.mem_filter, decide_eq_true_eq, hq, ky5]
/-- [u for u in common if u != told and told in above[u]]: none -/
theorem bad_in {p1 p2 p3 p4 p5 p6 p7 p8 p9 p10 p11 p12 pos : Pos} {c : Int} {tc : Tok} {lC : Addr} {oC : Obj} {vC : List Value} {cs : List Int} {QV : Value → Kn → Lm → Mu → Prop} (hA : m "above" = some (.ref lA)) (hcm : m "common" = some (.ref lC)) (ht : m "told" = some (.int c tc))
    (kA : k lA = some oA) (hlA : OList oA vA) (hab : Are (AbOk es k) (rangeN N) vA) (hN : N ≤ 6) (kC : k lC = some oC) (hlC : OList oC vC) (hiC : IsInts cs vC) (hcn : cs.Nodup) (hcs : ∀ z ∈ cs, z ∈ rangeN N) (hbad : ∀ u ∈ cs, u ≠ c → ¬ Reach (pbOf es) u c)
    (h : ∀ D k' oD, k.Le k' → TB < D → k' D = some oD → OList oD [] → QV (.ref D) k' m mu)
    (kc : C.env.kindOf "common" = some .local := by rfl)
    (ka' : ∀ L, (cenvOf badS C.env L).kindOf "above" = some .cell := by intro _; rfl) (la' : ∀ L, ((cenvOf badS C.env L).cells.lookup ("above" : Str)).isSome = true := by intro _; rfl)
    (kt' : ∀ L, (cenvOf badS C.env L).kindOf "told" = some .cell := by intro _; rfl) (lt' : ∀ L, ((cenvOf badS C.env L).cells.lookup ("told" : Str)).isSome = true := by intro _; rfl) (ku' : ∀ L, (cenvOf badS C.env L).kindOf "u" = some .local := by intro _; rfl) :
    Mt C k m mu (eval (.Name "common" p3) C.env) (fun xv k m mu => Mt C k m mu (pyIter xv) (fun it k m muI' => ∃ muI mu, muI' = muI ++ mu ∧ CompIn C (.ListComp (.Name "u" p1) [⟨.Name "u" p2, .Name "common" p3, [.BoolOp .And [.Compare (.Name "u" p4) [.NotEq] [.Name "told" p5] p6, .Compare (.Name "told" p7) [.In] [.Subscript (.Name "above" p8) (.Name "u" p9) p10] p11] p12], 0⟩] badS pos) badS it lst0 m muI mu k (fun v k => QV v k m mu))) := by
  refine Mt_nameL hcm (Mt_pyIter_list (.inl kC) hlC fun it oi hT hoi => ?_) kc
  have hlen : cs.length ≤ 6 := by
    have := nodup_len_le hcn hcs
    simp [rangeN] at this; omega
  refine ⟨[(it, oi)], mu, rfl, comp1_in (Src.list C.w hlC kC hiC) (fun z => []) (fun _ (z : Int) v => IsInt z v) (fun _ _ _ _ _ h => h) (fun m => m "above" = some (.ref lA) ∧ m "told" = some (.int c tc)) (by omega) (fun e he => by simp) ?_ ?_ ⟨(cmap_free rfl).trans hA, (cmap_free rfl).trans ht⟩ hoi (Kn.Le.refl _)⟩
  · rintro D2 L' base' hTD j z k1 m1 oi1 oD v he ⟨tz, rfl⟩ le2 ⟨i1, i2⟩
    have hz := List.mem_of_getElem? he
    refine Mt_toL (C := ccx C badS L' base' k) (Mt_tests_one (C := ccx C badS L' base' k) (Mt_isTrue_BoolOp (C := ccx C badS L' base' k) (Mt_allTrue_and (C := ccx C badS L' base' k) (Mt_isTrue_Compare (C := ccx C badS L' base' k) (Mt_nameL (C := ccx C badS L' base' k) (Lm.set_self _ _ _) (Mt_nameC (C := ccx C badS L' base' k) (Lm.up i2) (Mt_ne_int (C := ccx C badS L' base' k) (Mt_truthy_bool (C := ccx C badS L' base' k) ?_)) (lt' L') (kt' L')) (ku' L')))))) (ku' L')
    by_cases hzc : z = c
    · rw [if_neg (by simp [hzc])]
      rw [if_neg (by simp)]
      exact ⟨Kn.Le.refl _, rfl, ⟨Lm.up i1, Lm.up i2⟩, rfl⟩
    · rw [if_pos (by simp [hzc])]
      refine Mt_allTrue_and (C := ccx C badS L' base' k) (Mt_isTrue_Compare (C := ccx C badS L' base' k) (Mt_nameC (C := ccx C badS L' base' k) (Lm.up i2) ?_ (lt' L') (kt' L')))
      refine Mt_above (C := ccx C badS L' base' k) (u := z) (le2 _ _ kA) hlA (hab.mono fun p _ v hv => hv.le le2) hN (hcs z hz) (Mt_nameC (C := ccx C badS L' base' k) (Lm.up i1) ⟨rfl, Mt_nameL (C := ccx C badS L' base' k) (Lm.set_self _ _ _) ⟨⟨tz, rfl⟩, Kn.Le.refl _, fun D3 o3 u3 q3 kD3 hD3 hu3 hn3 hq3 => ?_⟩ (ku' L')⟩ (la' L') (ka' L'))
      refine Mt_in_ints (C := ccx C badS L' base' k) (.inl kD3) hD3 hu3 (Mt_truthy_bool (C := ccx C badS L' base' k) ?_)
      have hno : c ∉ q3 := fun hc => hbad z hz hzc ((hq3 c).mp hc)
      rw [if_neg (by simp [hno])]
      rw [if_neg (by simp)]
      exact ⟨Kn.Le.refl _, rfl, ⟨Lm.up i1, Lm.up i2⟩, rfl⟩
  · intro D2 k3 oD ws hTD hDb kD3 le2 le3 hoD hws
    have hw0 : ws = [] := by
      have := hws.1
      have e : cs.flatMap (fun _ : Int => ([] : List Int)) = [] := by
        induction cs with
        | nil => rfl
        | cons x r ih => simp
      rw [e] at this
      exact List.length_eq_zero_iff.mp this.symm
    subst hw0
    exact h D2 _ oD (le2.trans le3) hTD (Kn.put_self _ _ _) hoD
end
end Mine

-- NH
namespace Mine
section
variable {α : Type} {C : Cx} {k : Kn} {m : Lm} {mu : Mu} {a : Aux}
theorem MtA_runOwn {c : Code} {Q : Flow → Aux → Kn → Lm → Mu → Prop} (h : MtCA C k m mu a c Q) : MtA C k m mu a (runOwn c C.env) Q := fun s A E hA S ha => by
  refine wpAny_runOwn (codeAny_mono (h s (A.mark none) ⟨hA.handled, hA.depth, hA.units⟩ S ha) fun r s' hr => ?_)
  cases r with
  | ok f => exact hr
  | error e => exact hr.elim
theorem MtA_onRaise {t : Sem α} {f : Value → Sem Unit} {Q : α → Aux → Kn → Lm → Mu → Prop} (h : MtA C k m mu a t Q) : MtA C k m mu a (t.onRaise f) Q :=
  fun s A E hA S ha => wpAny_onRaise (h s A _ hA S ha)
theorem MtCA_for (hG : C.G = EqG) {target : PySem.Expr} {it : Value} {body orelse : List Stmt} {Q : Flow → Aux → Kn → Lm → Mu → Prop} (I : Nat → Aux → Kn → Lm → Mu → Prop)
    (turn : ∀ n a k m mu, I n a k m mu → Mt C k m mu (pyNext it) (fun r k m mu => match r with
      | none => MtA C k m mu a (execs orelse C.env) Q
      | some v => Mt C k m mu (letOwnedTupleGo target it v) (fun _ k m mu => Mt C k m mu (assign target C.env v) (fun _ k m mu => MtA C k m mu a (execs body C.env) (fun f a k m mu => match f with
          | .next | .cont => ∃ n', n' < n ∧ I n' a k m mu
          | .brk => Q .next a k m mu
          | .ret v => Q (.ret v) a k m mu)))))
    (n : Nat) (h : I n a k m mu) : MtCA C k m mu a (.forLoop target it body orelse C.env) Q := by
  refine MtCA_loop (t := forTurn target it body orelse C.env) rfl (fun A => Around.under_of_weight rfl) (fun w => rfl) I (fun n a k m mu hI => ?_) n h
  unfold forTurn
  refine MtA_at (MtA_bind (MtA_onRaise (MtA_of hG (Mt_mono (turn n a k m mu hI) fun r k m mu hr => ?_))))
  cases r with
  | none => exact MtA_pure (.inr ⟨rfl, MtCA_block hG hr⟩)
  | some v =>
    refine MtA_bindM hG (Mt_mono hr fun _ k m mu hr => MtA_bindM hG (Mt_mono hr fun _ k m mu hr => MtA_bind (MtA_mono hr fun f a k m mu hr => ?_)))
    cases f with
    | next => exact MtA_pure (.inl ⟨rfl, hr⟩)
    | cont => exact MtA_pure (.inl ⟨rfl, hr⟩)
    | brk => exact MtA_pure hr
    | ret v => exact MtA_pure hr
theorem MtA_For (hG : C.G = EqG) {target iter : PySem.Expr} {body orelse : List Stmt} {pos : Pos} {Q : Flow → Aux → Kn → Lm → Mu → Prop} (h : Mt C k m mu (eval iter C.env) (fun x k m mu => Mt C k m mu (pyIter x) (fun it k m mu => MtCA C k m mu a (.forLoop target it body orelse C.env) Q)))
    (hs : ∀ x, foldedSetIterable iter C.env x = pure x := by intro _; rfl) : MtA C k m mu a (exec (.For target iter body orelse pos) C.env) Q := by
  rw [exec_For]
  refine MtA_at (MtA_bindM hG (Mt_mono h fun x k m mu h => ?_))
  rw [hs]
  exact MtA_bind (MtA_pure (MtA_at (MtA_bindM hG (Mt_holding (Mt_mono h fun it k m mu h => MtA_runOwn h)))))
end
/-- the code table, the generators -/
def CA (k : Kn) (a : Aux) : Prop := CodeTab k a.2 ∧ AllBare a.1
theorem CA.le {k k' : Kn} {a : Aux} (h : CA k a) (l : k.Le k') : CA k' a := ⟨h.1.le l, h.2⟩
/-- what the law has built -/
structure LDat where
  g : Addr
  gd : Addr
  nd : Addr
  ad : Addr
  pd : Addr
  lA : Addr
  lS : Addr
  lE : Addr
  oA : Obj
  oS : Obj
  oE : Obj
  vA : List Value
  vS : List Value
  vE : List Value
  nodes : List Int
  es : List (Int × Int)
  so : List (Int × Int)
  rk : Int → Nat
  B : Nat
  N : Nat
  tN : Tok
  tr : Bool
structure LPl (d : LDat) : Prop where
  hN : 0 < d.N ∧ d.N ≤ 6
  E : Edges d.N d.es d.rk
  el : d.es.length ≤ 15
  nm : ∀ x, x ∈ d.nodes ↔ x ∈ rangeN d.N
  nod : ∃ r < 7, d.nodes = ordN d.N r
  s3 : d.so.length = 3
  sm : ∀ p ∈ d.so, p.1 ∈ rangeN d.N ∧ p.2 ∈ rangeN d.N
  one : d.tr = true → OnePar d.es
structure LK (w : World) (k : Kn) (d : LDat) : Prop where
  G : GData w k d.g d.gd d.nd d.ad d.pd d.nodes (nbOf d.es) (pbOf d.es) d.rk d.B
  kA : k d.lA = some d.oA
  hA : OList d.oA d.vA
  ab : Are (AbOk d.es k) (rangeN d.N) d.vA
  kS : k d.lS = some d.oS
  hS : OList d.oS d.vS
  so : Are (IsPair k) d.so d.vS
  kE : k d.lE = some d.oE
  hE : OList d.oE d.vE
  es : Are (IsPair k) d.es d.vE
theorem LK.le {w : World} {k k' : Kn} {d : LDat} (h : LK w k d) (l : k.Le k') : LK w k' d :=
  ⟨h.G.le l, l _ _ h.kA, h.hA, h.ab.mono fun _ _ _ x => x.le l, l _ _ h.kS, h.hS, h.so.mono fun _ _ _ x => x.le l, l _ _ h.kE, h.hE, h.es.mono fun _ _ _ x => x.le l⟩
structure LM (m : Lm) (d : LDat) : Prop where
  G : m "G" = some (.ref d.g)
  above : m "above" = some (.ref d.lA)
  many : m "many" = some (.int d.N d.tN)
  som : m "some" = some (.ref d.lS)
  tree : m "tree" = some (.bool d.tr)
  edges : m "edges" = some (.ref d.lE)
def keptNames : List Str := ["G", "above", "many", "some", "tree", "edges"]
theorem LM.set {m : Lm} {d : LDat} (h : LM m d) {x : Str} {v : Value} (hx : keptNames.contains x = false := by decide) : LM (m.set x v) d := by
  have ne : ∀ y ∈ keptNames, y ≠ x := fun y hy e => by
    subst e
    rw [List.contains_eq_mem] at hx
    simp [hy] at hx
  exact ⟨Lm.up h.G (ne _ (by decide)), Lm.up h.above (ne _ (by decide)), Lm.up h.many (ne _ (by decide)), Lm.up h.som (ne _ (by decide)), Lm.up h.tree (ne _ (by decide)), Lm.up h.edges (ne _ (by decide))⟩
theorem LPl.hes {d : LDat} (P : LPl d) : ∀ e ∈ d.es, e.1 ∈ rangeN d.N ∧ e.2 ∈ rangeN d.N := fun e he => by
  have := P.E.lo e he
  exact ⟨mem_rangeN.mpr this.1, mem_rangeN.mpr this.2⟩
theorem LPl.ne {d : LDat} (P : LPl d) : d.nodes ≠ [] := fun e => by
  have h0 : (0 : Int) ∈ d.nodes := (P.nm 0).mpr (mem_rangeN.mpr ⟨by omega, by have := P.hN; omega⟩)
  rw [e] at h0; cases h0
theorem LPl.acyc {d : LDat} (P : LPl d) : Acyc d.nodes (nbOf d.es) := P.E.acyc _
theorem reach_in {es : List (Int × Int)} {S : List Int} (hes : ∀ e ∈ es, e.1 ∈ S) {x z : Int} (hx : x ∈ S) (h : Reach (pbOf es) x z) : z ∈ S := by
  rcases h with _ | ⟨_, hz⟩
  · exact hx
  · exact hes _ (mem_pbOf.mp hz)
end Mine

-- NI
namespace Mine
def rowS : Scope := { kind := .function, names := [((".0" : Str), .local), (("row" : Str), .local)], isGenerator := false, isCoroutine := false }
theorem rows_in {C : Cx} {k2 : Kn} {m : Lm} {a a2 : Aux} {n : Nat} {nb pb : Int → List Int} {ps : List (Int × Int)} {v : Value} {muG mu : Mu} {iter : PySem.Expr} {p1 p2 pos : Pos} {QV : Value → Aux → Kn → Lm → Mu → Prop} (hG : C.G = EqG) (hn : C.n = n + 12) (h : ApOk C.w nb pb ps a v a2 k2 muG) (hab : AllBare a.1) (hl : ps.length ≤ 1000)
    (done : ∀ D k' a' oD vs, TB < D → k2.Le k' → k' D = some oD → OList oD vs → Are (fun p v => RowOk nb pb p v k') (rowsOf pb ps) vs → CA k' a' → QV (.ref D) a' k' m mu) :
    MtA C k2 m (muG ++ mu) a2 (pyIter v) (fun it a k m muI' => ∃ muI mu, muI' = muI ++ mu ∧ CompInA C (.ListComp (.Name "row" p1) [⟨.Name "row" p2, iter, [], 0⟩] rowS pos) rowS it lst0 m muI mu a k (fun v a k => QV v a k m mu)) := by
  obtain ⟨go, oa, gs, tab, rfl, hgo, hoa, rfl, hct, hbare, hgen⟩ := h
  refine MtA_pyIter_gen hgo hoa ⟨muG, mu, rfl, ?_⟩
  have hlr : (rowsOf pb ps).length ≤ 1000 := Nat.le_trans (List.length_filter_le _ _) hl
  refine compGen_in (ypos := default) (n := n + 11) (g := a.1.size) (Row := RowOk nb pb) (rows := rowsOf pb ps) hG RowOk.le hn hgo hoa ⟨gs, k2, by simp, Kn.Le.refl _, hgen (n + 5)⟩ (by omega) rfl (by decide) fun D k' a' oD vs hTD hDb le le2 ha' hoD hvs => ?_
  refine done D _ a' oD vs hTD (le.trans le2) (Kn.put_self _ _ _) hoD (hvs.mono fun p _ v hv => RowOk.le _ _ _ _ le2 hv) ?_
  refine ⟨?_, ha'.2 (AllBare.push hab hbare)⟩
  rw [ha'.1]
  exact hct.le (le.trans le2)
def lfB (i : Nat) : Stmt := ((forParts (lst 12)).2.2.1[i]?).getD (.Pass default)
def lfN (i : Nat) : Stmt := ((ifBody (lfB 0))[i]?).getD (.Pass default)
def lfS (i : Nat) : Stmt := ((ifElse (lfB 0))[i]?).getD (.Pass default)
theorem lfB_eq : (forParts (lst 12)).2.2.1 = [lfB 0, lfB 1, lfB 2] := by kernel_rfl
theorem lfN_eq : ifBody (lfB 0) = [lfN 0, lfN 1, lfN 2] := by kernel_rfl
theorem lfS_eq : ifElse (lfB 0) = [lfS 0, lfS 1, lfS 2] := by kernel_rfl
section
variable {w : World} {n : Nat} {k0 k : Kn} {L : Addr} {base : Heap} {m : Lm} {mu : Mu} {a : Aux} {d : LDat}
theorem lfN0 (P : LPl d) (K : LK w k d) (M : LM m d) (hct : CA k a) {Q : Flow → Aux → Kn → Lm → Mu → Prop}
    (h : ∀ D k' a' oD vs, k.Le k' → k' D = some oD → OList oD vs → Are (fun p v => RowOk (nbOf d.es) (pbOf d.es) p v k') (rowsOf (pbOf d.es) (pairsOf d.nodes)) vs → CA k' a' → Q .next a' k' (m.set "rows" (.ref D)) mu) :
    MtA (lw w (n + 12) k0 L base) k m mu a (exec (lfN 0) (lw w (n + 12) k0 L base).env) Q := by
  have hl : (pairsOf d.nodes).length ≤ 1000 := by
    have h1 := pairsOf_len d.nodes
    obtain ⟨r, hr, e⟩ := P.nod
    have h2 : d.nodes.length ≤ 6 := by rw [e]; simp [ordN]; exact P.hN.2
    have := Nat.mul_le_mul h2 h2
    omega
  refine MtA_Assign_swap (MtA_Call rfl (Mt_nameG (v := .ref 95) (by kernel_rfl) ⟨keeps_text (by kernel_rfl), Mt_spliced_cons (Mt_nameL M.G (Mt_spliced_nil ?_))⟩))
  refine MtA_mv (mu1 := []) (mu2 := mu) (MvA_mono (ap_none (n := n + 8) K.G P.acyc P.ne hct.1) ?_)
  rintro v a2 k2 muG le2 hap - -
  exact rows_in (QV := fun v a k m mu => Q .next a k (m.set "rows" v) mu) (C := lw w (n + 12) k0 L base) rfl rfl hap hct.2 hl fun D k' a' oD vs hTD le hD hoD hvs hct' => h D k' a' oD vs (le2.trans le) hD hoD hvs hct'
theorem lfS0 (P : LPl d) (K : LK w k d) (M : LM m d) (hh : m "handed" = some (.ref d.lS)) (hct : CA k a) {Q : Flow → Aux → Kn → Lm → Mu → Prop}
    (h : ∀ D k' a' oD vs, k.Le k' → k' D = some oD → OList oD vs → Are (fun p v => RowOk (nbOf d.es) (pbOf d.es) p v k') (rowsOf (pbOf d.es) (dd d.so)) vs → CA k' a' → Q .next a' k' (m.set "rows" (.ref D)) mu) :
    MtA (lw w (n + 12) k0 L base) k m mu a (exec (lfS 0) (lw w (n + 12) k0 L base).env) Q := by
  have hs3 := P.s3
  have hl : (dd d.so).length ≤ 1000 := Nat.le_trans (dd_len _) (by omega)
  refine MtA_Assign_swap (MtA_Call rfl (Mt_nameG (v := .ref 95) (by kernel_rfl) ⟨keeps_text (by kernel_rfl), Mt_spliced_cons (Mt_nameL M.G (Mt_spliced_cons (Mt_nameL hh (Mt_spliced_nil ?_))))⟩))
  refine MtA_mv (mu1 := []) (mu2 := mu) (MvA_mono (ap_handed (n := n + 8) K.G P.acyc P.ne hct.1 K.kS K.hS K.so (by omega) (fun p hp => ⟨(P.nm _).mpr (P.sm p hp).1, (P.nm _).mpr (P.sm p hp).2⟩) (.inl ⟨rfl, rfl⟩)) ?_)
  rintro v a2 k2 muG le2 hap - -
  exact rows_in (QV := fun v a k m mu => Q .next a k (m.set "rows" v) mu) (C := lw w (n + 12) k0 L base) rfl rfl hap hct.2 hl fun D k' a' oD vs hTD le hD hoD hvs hct' => h D k' a' oD vs (le2.trans le) hD hoD hvs hct'
theorem lfN1 (P : LPl d) (M : LM m d) {Q : Flow → Kn → Lm → Mu → Prop}
    (h : ∀ D k' oD vs, k.Le k' → k' D = some oD → OList oD vs → Are (IsPair k') (askedN d.N) vs → Q .next k' (m.set "asked" (.ref D)) mu) :
    Mt (lw w (n + 12) k0 L base) k m mu (exec (lfN 1) (lw w (n + 12) k0 L base).env) Q := by
  have hN := P.hN
  refine Mt_Assign_swap (Mt_Call (Mt_nameB (v := .type "range") (by kernel_rfl) (by kernel_rfl) (by decide) ⟨keeps_type _, Mt_spliced_cons (Mt_nameC M.many (Mt_spliced_nil (Mt_range1 fun R oR kR hTR hoR => ?_)))⟩))
  have le1 := Kn.le_put (o := oR) kR
  refine Mt_pyIter_range (.inl (Kn.put_self _ _ _)) hoR (n := d.N) (by omega) (by omega) (by omega) fun it oi hTi hoi => ?_
  refine ⟨[(it, oi)], mu, rfl, comp2_range d.N (fun v => v + 1) (fun v u => ((u : Int), (v : Int))) (fun m => True) (by decide) (by decide) (by decide) (by omega) (fun v hv => by omega) (fun m v hm => ⟨trivial, trivial⟩) (fun _ _ => rfl) ?_ ?_ ?_ trivial hoi⟩
  · intro L' base' i k1 m1 mu1 t hiN le2 hv1 hm1 Q hQ
    refine Mt_Call (C := ccx (lw w (n + 12) k0 L base) _ L' base' _) (Mt_nameB (v := .type "range") (by kernel_rfl) (by kernel_rfl) (by decide) ⟨keeps_type _, Mt_spliced_cons (Mt_BinOp (Mt_nameL hm1 (Mt_int fun t0 => Mt_add_int fun t1 => Mt_spliced_nil (Mt_range1 fun R oR kR hTR hoR => ?_))))⟩)
    exact hQ R oR _ (Kn.le_put kR) (Kn.put_self _ _ _) hoR
  · intro L' base' i j k1 m1 mu1 t u hiN hj le2 hv1 hm1 hm2 Q hQ
    refine Mt_Tuple (C := ccx (lw w (n + 12) k0 L base) _ L' base' _) (Mt_spliced_cons (Mt_nameL hm2 (Mt_spliced_cons (Mt_nameL hm1 (Mt_spliced_nil (Mt_newTuple fun T oT kT hT hoT => ?_))))))
    exact hQ _ _ (Kn.le_put kT) ⟨T, oT, _, _, rfl, Kn.put_self _ _ _, hoT, ⟨_, rfl⟩, ⟨_, rfl⟩⟩
  · intro D k3 oD us hTD hDb kD3 le2 le3 hoD hus
    exact h D _ oD us ((le1.trans le2).trans le3) (Kn.put_self _ _ _) hoD (hus.mono fun p _ v hv => hv.le le3)
theorem lfN2 {lR : Addr} {oR : Obj} {vR : List Value} {nb pb : Int → List Int} {rws : List (Int × Int)} (hR : m "rows" = some (.ref lR)) (kR : k lR = some oR) (hoR : OList oR vR) (hvR : Are (fun p v => RowOk nb pb p v k) rws vR) (hl : rws.length ≤ 1000) {Q : Flow → Kn → Lm → Mu → Prop}
    (h : ∀ D k' oD vs, k.Le k' → k' D = some oD → OList oD vs → Are (IsPair k') (rws.map mm) vs → Q .next k' (m.set "named" (.ref D)) mu) :
    Mt (lw w (n + 12) k0 L base) k m mu (exec (lfN 2) (lw w (n + 12) k0 L base).env) Q := by
  refine Mt_Assign_swap (Mt_nameL hR (Mt_pyIter_list (.inl kR) hoR fun it oi hT hoi => ?_))
  refine ⟨[(it, oi)], mu, rfl, comp1_in (Src.list w hoR kR hvR) (fun p => [mm p]) (fun k p v => IsPair k p v) (fun _ _ _ _ le h => h.le le) (fun m => True) (by omega) (fun e he => by simp) ?_ ?_ trivial hoi (Kn.Le.refl _)⟩
  · rintro D L' base' hTD j p k1 m1 oi1 oD v he hrow le2 -
    obtain ⟨t1, o1, t2, o2, p1, p2, c, cv, rfl, h1, h2, h3, h4, ⟨ta, rfl⟩, ⟨tb, rfl⟩, ⟨tc, rfl⟩, hl⟩ := hrow
    refine Mt_assign_pair (.inl (le2 _ _ h1)) h2 (Mt_toL (Mt_toL (Mt_tests_nil ?_)))
    rw [if_pos rfl]
    refine Mt_Tuple (Mt_spliced_cons (Mt_Call (Mt_nameB (v := .builtin "min") (by kernel_rfl) (by kernel_rfl) (by decide) ⟨keeps_builtin _, Mt_spliced_cons (Mt_nameL (Lm.up (Lm.set_self _ _ _)) (Mt_spliced_nil (Mt_min_pair (le2 _ _ h3) h4 fun t5 => ?_)))⟩)))
    refine Mt_spliced_cons (Mt_Call (Mt_nameB (v := .builtin "max") (by kernel_rfl) (by kernel_rfl) (by decide) ⟨keeps_builtin _, Mt_spliced_cons (Mt_nameL (Lm.up (Lm.set_self _ _ _)) (Mt_spliced_nil (Mt_max_pair (le2 _ _ h3) h4 fun t6 => Mt_spliced_nil (Mt_newTuple fun T oT kT hT hoT => ?_))))⟩))
    exact ⟨Kn.le_put kT, rfl, trivial, _, rfl, T, oT, _, _, rfl, Kn.put_self _ _ _, hoT, ⟨_, rfl⟩, ⟨_, rfl⟩⟩
  · intro D k3 oD us hTD hDb kD3 le2 le3 hoD hus
    refine h D _ oD us (le2.trans le3) (Kn.put_self _ _ _) hoD ?_
    rw [flatMap_one] at hus
    exact hus.mono fun p _ v hv => hv.le le3
theorem lfS2 {lR : Addr} {oR : Obj} {vR : List Value} {nb pb : Int → List Int} {rws : List (Int × Int)} (hR : m "rows" = some (.ref lR)) (kR : k lR = some oR) (hoR : OList oR vR) (hvR : Are (fun p v => RowOk nb pb p v k) rws vR) (hl : rws.length ≤ 1000) {Q : Flow → Kn → Lm → Mu → Prop}
    (h : ∀ D k' oD vs, k.Le k' → k' D = some oD → OList oD vs → Are (IsPair k') rws vs → Q .next k' (m.set "named" (.ref D)) mu) :
    Mt (lw w (n + 12) k0 L base) k m mu (exec (lfS 2) (lw w (n + 12) k0 L base).env) Q := by
  refine Mt_Assign_swap (Mt_nameL hR (Mt_pyIter_list (.inl kR) hoR fun it oi hT hoi => ?_))
  refine ⟨[(it, oi)], mu, rfl, comp1_in (Src.list w hoR kR hvR) (fun p => [p]) (fun k p v => IsPair k p v) (fun _ _ _ _ le h => h.le le) (fun m => True) (by omega) (fun e he => by simp) ?_ ?_ trivial hoi (Kn.Le.refl _)⟩
  · rintro D L' base' hTD j p k1 m1 oi1 oD v he hrow le2 -
    obtain ⟨t1, o1, t2, o2, p1, p2, c, cv, rfl, h1, h2, h3, h4, ⟨ta, rfl⟩, ⟨tb, rfl⟩, ⟨tc, rfl⟩, hl⟩ := hrow
    refine Mt_assign_pair (.inl (le2 _ _ h1)) h2 (Mt_toL (Mt_toL (Mt_tests_nil ?_)))
    rw [if_pos rfl]
    exact Mt_nameL (Lm.up (Lm.set_self _ _ _)) ⟨Kn.Le.refl _, rfl, trivial, _, rfl, t2, o2, _, _, rfl, le2 _ _ h3, h4, ⟨ta, rfl⟩, ⟨tb, rfl⟩⟩
  · intro D k3 oD us hTD hDb kD3 le2 le3 hoD hus
    refine h D _ oD us (le2.trans le3) (Kn.put_self _ _ _) hoD ?_
    rw [flatMap_one, List.map_id'] at hus
    exact hus.mono fun p _ v hv => hv.le le3
theorem lfS1 (P : LPl d) (K : LK w k d) (hh : m "handed" = some (.ref d.lS)) {Q : Flow → Kn → Lm → Mu → Prop}
    (h : ∀ D k' oD vs qs, k.Le k' → k' D = some oD → OList oD vs → Are (IsPair k') qs vs → qs.Perm (dd d.so) → Q .next k' (m.set "asked" (.ref D)) mu) :
    Mt (lw w (n + 12) k0 L base) k m mu (exec (lfS 1) (lw w (n + 12) k0 L base).env) Q := by
  have hs3 := P.s3
  have hN := P.hN
  have in6 : ∀ x : Int, x ∈ rangeN d.N → x ∈ six := fun x hx => by
    have h1 := mem_rangeN.mp hx
    have : x = 0 ∨ x = 1 ∨ x = 2 ∨ x = 3 ∨ x = 4 ∨ x = 5 := by omega
    unfold six; simpa using this
  refine Mt_Assign (Mt_Call (Mt_nameB (v := .builtin "sorted") (by kernel_rfl) (by kernel_rfl) (by decide) ⟨keeps_builtin _, Mt_spliced_cons (Mt_Call (Mt_nameB (v := .type "set") (by kernel_rfl) (by kernel_rfl) (by decide) ⟨keeps_type _, Mt_spliced_cons (Mt_nameL hh (Mt_spliced_nil ?_))⟩))⟩))
  refine Mt_set_pairs (n := n + 10) rfl K.kS K.hS K.so (fun p hp => ⟨in6 _ (P.sm p hp).1, in6 _ (P.sm p hp).2⟩) (by omega) fun S oS qs hTS hoS hqs => ?_
  refine Mt_frz (l1 := []) fun kS leS => Mt_spliced_nil ?_
  have hq3 : qs.length ≤ 3 := by
    have := hqs.length_eq
    have := dd_len d.so
    omega
  have hqm : ∀ p ∈ qs, p ∈ d.so := fun p hp => mem_dd.mp (hqs.mem_iff.mp hp)
  refine Mt_sorted_set (n := n + 10) rfl (Kn.put_self _ _ _) (hoS.mono fun p v hv => hv.le leS) hq3 (fun p hp => ?_) fun D o us qs' hTD ho hus hperm hsort => ?_
  · have h1 := mem_rangeN.mp (P.sm p (hqm p hp)).1
    have h2 := mem_rangeN.mp (P.sm p (hqm p hp)).2
    exact ⟨by omega, by omega⟩
  · refine Mt_frz (l1 := []) fun kD leD => Mt_setL ?_
    exact h D _ o us qs' (leS.trans leD) (Kn.put_self _ _ _) ho (hus.mono fun p _ v hv => hv.le leD) (hperm.trans hqs)
end
end Mine

-- NJ
namespace Mine
structure RDat where
  lR : Addr
  lQ : Addr
  lN : Addr
  oR : Obj
  oQ : Obj
  oN : Obj
  vR : List Value
  vQ : List Value
  vN : List Value
  rws : List (Int × Int)
  ask : List (Int × Int)
  nam : List (Int × Int)
structure RK (k : Kn) (d : LDat) (r : RDat) : Prop where
  kR : k r.lR = some r.oR
  hR : OList r.oR r.vR
  rw : Are (fun p v => RowOk (nbOf d.es) (pbOf d.es) p v k) r.rws r.vR
  kQ : k r.lQ = some r.oQ
  hQ : OList r.oQ r.vQ
  as : Are (IsPair k) r.ask r.vQ
  kN : k r.lN = some r.oN
  hN : OList r.oN r.vN
  na : Are (IsPair k) r.nam r.vN
theorem RK.le {k k' : Kn} {d : LDat} {r : RDat} (h : RK k d r) (l : k.Le k') : RK k' d r :=
  ⟨l _ _ h.kR, h.hR, h.rw.mono fun p _ v x => RowOk.le _ _ _ _ l x, l _ _ h.kQ, h.hQ, h.as.mono fun _ _ _ x => x.le l, l _ _ h.kN, h.hN, h.na.mono fun _ _ _ x => x.le l⟩
structure RM (m : Lm) (r : RDat) : Prop where
  rows : m "rows" = some (.ref r.lR)
  asked : m "asked" = some (.ref r.lQ)
  named : m "named" = some (.ref r.lN)
structure RP (d : LDat) (r : RDat) : Prop where
  rin : ∀ p ∈ r.rws, p.1 ∈ rangeN d.N ∧ p.2 ∈ rangeN d.N
  ain : ∀ p ∈ r.ask, p.1 ∈ rangeN d.N ∧ p.2 ∈ rangeN d.N
  perm : r.nam.Perm (rowsOf (pbOf d.es) r.ask)
  nnd : r.nam.Nodup
  rl : r.rws.length ≤ 40
  al : r.ask.length ≤ 40
theorem mem_rowsOf {pb : Int → List Int} {ps : List (Int × Int)} {p : Int × Int} : p ∈ rowsOf pb ps ↔ p ∈ ps ∧ HasC pb p := by
  unfold rowsOf
  simp [List.mem_filter]
theorem asked_nd : ∀ n < 7, (askedN n).Nodup := by decide +kernel
theorem asked_len : ∀ n < 7, (askedN n).length ≤ 40 := by decide +kernel
theorem asked_in {n : Nat} {p : Int × Int} (h : p ∈ askedN n) : p.1 ∈ rangeN n ∧ p.2 ∈ rangeN n := by
  unfold askedN at h
  rw [List.mem_flatMap] at h
  obtain ⟨w, hw, h⟩ := h
  rw [List.mem_map] at h
  obtain ⟨v, hv, rfl⟩ := h
  rw [List.mem_range] at hw hv
  exact ⟨mem_rangeN.mpr ⟨by simp, by simp; omega⟩, mem_rangeN.mpr ⟨by simp, by simp; omega⟩⟩
theorem pairs_len : ∀ n < 7, ∀ r < 7, (pairsOf (ordN n r)).length ≤ 40 := by decide +kernel
section
variable {w : World} {n : Nat} {k0 k : Kn} {L : Addr} {base : Heap} {m : Lm} {mu : Mu} {a : Aux} {d : LDat}
theorem lf0 (P : LPl d) (K : LK w k d) (M : LM m d) (hct : CA k a) (hh : m "handed" = some .none ∨ m "handed" = some (.ref d.lS)) {Q : Flow → Aux → Kn → Lm → Mu → Prop}
    (h : ∀ k' a' m' r, k.Le k' → LM m' d → CA k' a' → RM m' r → RK k' d r → RP d r → Q .next a' k' m' mu) : MtA (lw w (n + 12) k0 L base) k m mu a (exec (lfB 0) (lw w (n + 12) k0 L base).env) Q := by
  have hN := P.hN
  have hs3 := P.s3
  have rl : ∀ {ps : List (Int × Int)}, ps.length ≤ 40 → (rowsOf (pbOf d.es) ps).length ≤ 40 := fun h => Nat.le_trans (List.length_filter_le _ _) h
  rcases hh with hh | hh
  · refine MtA_If rfl (Mt_isTrue_Compare (Mt_nameL hh (Mt_none (Mt_is_none_none (Mt_truthy_bool ?_)))))
    rw [if_pos rfl]
    show MtA _ _ _ _ _ (execs (ifBody (lfB 0)) _) _
    rw [lfN_eq]
    refine MtA_cons (lfN0 P K M hct fun D1 k1 a1 o1 v1 le1 hk1 ho1 hv1 hct1 => ?_)
    refine MtA_consM rfl (lfN1 P M.set fun D2 k2 o2 v2 le2 hk2 ho2 hv2 => ?_)
    obtain ⟨r, hr, er⟩ := P.nod
    have hlen : (rowsOf (pbOf d.es) (pairsOf d.nodes)).length ≤ 40 := rl (by rw [er]; exact pairs_len d.N (by omega) r hr)
    refine MtA_consM rfl (lfN2 (rws := rowsOf (pbOf d.es) (pairsOf d.nodes)) (nb := nbOf d.es) (pb := pbOf d.es) (Lm.up (Lm.set_self _ _ _)) (le2 _ _ hk1) ho1 (hv1.mono fun p _ v x => RowOk.le _ _ _ _ le2 x) (by omega) fun D3 k3 o3 v3 le3 hk3 ho3 hv3 => ?_)
    refine MtA_nil (h k3 a1 _ ⟨D1, D2, D3, o1, o2, o3, v1, v2, v3, rowsOf (pbOf d.es) (pairsOf d.nodes), askedN d.N, (rowsOf (pbOf d.es) (pairsOf d.nodes)).map mm⟩ ((le1.trans le2).trans le3) M.set.set.set (hct1.le (le2.trans le3)) ⟨Lm.up (Lm.up (Lm.set_self _ _ _)), Lm.up (Lm.set_self _ _ _), Lm.set_self _ _ _⟩
      ⟨le3 _ _ (le2 _ _ hk1), ho1, hv1.mono fun p _ v x => RowOk.le _ _ _ _ (le2.trans le3) x, le3 _ _ hk2, ho2, hv2.mono fun _ _ _ x => x.le le3, hk3, ho3, hv3⟩ ?_)
    have hp : ((rowsOf (pbOf d.es) (pairsOf d.nodes)).map mm).Perm (rowsOf (pbOf d.es) (askedN d.N)) := by rw [er]; exact rows_perm _ (by omega) hr
    refine ⟨fun p hp => ?_, fun p hp => asked_in hp, hp, hp.nodup_iff.mpr ((asked_nd d.N (by omega)).filter _), hlen, asked_len d.N (by omega)⟩
    have := pairsOf_mem (mem_rowsOf.mp hp).1
    exact ⟨(P.nm _).mp this.1, (P.nm _).mp this.2⟩
  · refine MtA_If rfl (Mt_isTrue_Compare (Mt_nameL hh (Mt_none (Mt_is_ref_none (Mt_truthy_bool ?_)))))
    rw [if_neg (by simp)]
    show MtA _ _ _ _ _ (execs (ifElse (lfB 0)) _) _
    rw [lfS_eq]
    have hdl : (dd d.so).length ≤ 3 := Nat.le_trans (dd_len _) (by omega)
    refine MtA_cons (lfS0 P K M hh hct fun D1 k1 a1 o1 v1 le1 hk1 ho1 hv1 hct1 => ?_)
    refine MtA_consM rfl (lfS1 P (K.le le1) (Lm.up hh) fun D2 k2 o2 v2 qs le2 hk2 ho2 hv2 hqs => ?_)
    have hlen : (rowsOf (pbOf d.es) (dd d.so)).length ≤ 40 := rl (by omega)
    refine MtA_consM rfl (lfS2 (rws := rowsOf (pbOf d.es) (dd d.so)) (nb := nbOf d.es) (pb := pbOf d.es) (Lm.up (Lm.set_self _ _ _)) (le2 _ _ hk1) ho1 (hv1.mono fun p _ v x => RowOk.le _ _ _ _ le2 x) (by omega) fun D3 k3 o3 v3 le3 hk3 ho3 hv3 => ?_)
    refine MtA_nil (h k3 a1 _ ⟨D1, D2, D3, o1, o2, o3, v1, v2, v3, rowsOf (pbOf d.es) (dd d.so), qs, rowsOf (pbOf d.es) (dd d.so)⟩ ((le1.trans le2).trans le3) M.set.set.set (hct1.le (le2.trans le3)) ⟨Lm.up (Lm.up (Lm.set_self _ _ _)), Lm.up (Lm.set_self _ _ _), Lm.set_self _ _ _⟩
      ⟨le3 _ _ (le2 _ _ hk1), ho1, hv1.mono fun p _ v x => RowOk.le _ _ _ _ (le2.trans le3) x, le3 _ _ hk2, ho2, hv2.mono fun _ _ _ x => x.le le3, hk3, ho3, hv3⟩ ?_)
    refine ⟨fun p hp => P.sm p (mem_dd.mp (mem_rowsOf.mp hp).1), fun p hp => P.sm p (mem_dd.mp (hqs.mem_iff.mp hp)), (hqs.filter _).symm, (dd_nodup _).filter _, hlen, ?_⟩
    have := hqs.length_eq
    show qs.length ≤ 40
    omega
end
end Mine

-- NK
namespace Mine
theorem rin_small {N : Nat} (hN : N ≤ 6) {p : Int × Int} (h : p.1 ∈ rangeN N ∧ p.2 ∈ rangeN N) : Small p := by
  have h1 := mem_rangeN.mp h.1
  have h2 := mem_rangeN.mp h.2
  exact ⟨by omega, by omega⟩
theorem dPairs_lay (ps : List (Int × Int)) : (dPairs ps).canLay0 = true := by
  have := dPairs_shaped ps
  exact SeqAt.canLay_of_shaped this
open Classical in
noncomputable def hasB (pb : Int → List Int) (p : Int × Int) : Bool := decide (HasC pb p)
theorem hasB_iff {pb : Int → List Int} {p : Int × Int} : hasB pb p = true ↔ HasC pb p := by unfold hasB; simp
theorem rowsOf_hasB (pb : Int → List Int) (ps : List (Int × Int)) : ps.filter (hasB pb) = rowsOf pb ps := rfl
section
variable {w : World} {n : Nat} {k0 k : Kn} {L : Addr} {base : Heap} {m : Lm} {mu : Mu} {a : Aux} {d : LDat} {r : RDat}
theorem lf1 (P : LPl d) (K : LK w k d) (M : LM m d) (R : RM m r) (RKk : RK k d r) (Rp : RP d r) {Q : Flow → Kn → Lm → Mu → Prop}
    (h : ∀ k', k.Le k' → Q .next k' m mu) : Mt (lw w (n + 12) k0 L base) k m mu (exec (lfB 1) (lw w (n + 12) k0 L base).env) Q := by
  have hN := P.hN
  have hnl : r.nam.length ≤ 40 := by
    have := Rp.perm.length_eq
    have h2 : (rowsOf (pbOf d.es) r.ask).length ≤ r.ask.length := List.length_filter_le _ _
    have := Rp.al
    omega
  have nin : ∀ p ∈ r.nam, p.1 ∈ rangeN d.N ∧ p.2 ∈ rangeN d.N := fun p hp => Rp.ain p (mem_rowsOf.mp (Rp.perm.mem_iff.mp hp)).1
  refine Mt_If (Mt_isTrue_Compare (Mt_Call (Mt_nameB (v := .builtin "sorted") (by kernel_rfl) (by kernel_rfl) (by decide) ⟨keeps_builtin _, Mt_spliced_cons (Mt_nameL R.named (Mt_spliced_nil ?_))⟩)))
  refine Mt_sorted (.inl RKk.kN) RKk.hN RKk.na Rp.nnd (fun p hp => rin_small hN.2 (nin p hp)) (by have := RKk.na.1; omega) fun D1 o1 us1 qs1 hT1 ho1 hus1 hp1 hs1 => ?_
  refine Mt_frz (l1 := []) fun kD1 le1 => ?_
  refine Mt_Call (Mt_nameB (v := .builtin "sorted") (by kernel_rfl) (by kernel_rfl) (by decide) ⟨keeps_builtin _, Mt_spliced_cons ?_⟩)
  have K1 := K.le le1
  have R1 := RKk.le le1
  have hkD1 : (k.put D1 o1) D1 = some o1 := Kn.put_self _ _ _
  have hus1' : Are (IsPair (k.put D1 o1)) qs1 us1 := hus1.mono fun _ _ _ x => x.le le1
  generalize k.put D1 o1 = k1 at *
  refine Mt_ListComp (Mt_nameL R.asked (Mt_pyIter_list (.inl R1.kQ) R1.hQ fun it oi hT hoi => ?_))
  refine ⟨[(it, oi)], mu, rfl, comp1_in (Src.list w R1.hQ R1.kQ R1.as) (fun p => if hasB (pbOf d.es) p = true then [p] else []) (fun k p v => IsPair k p v) (fun _ _ _ _ le h => h.le le) (fun m => m "above" = some (.ref d.lA)) (by have := Rp.al; omega) (fun e he => by split <;> simp) ?_ ?_ ((cmap_free rfl).trans M.above) hoi (Kn.Le.refl _)⟩
  · rintro D L' base' hTD j p k2 m2 oi2 oD v he hv le2 i1
    obtain ⟨t, o, x, y, rfl, ht, ho, ⟨tx, rfl⟩, ⟨ty, rfl⟩⟩ := hv
    have hp := Rp.ain p (List.mem_of_getElem? he)
    refine Mt_assign_pair (.inl (le2 _ _ ht)) ho (Mt_toL (Mt_toC (Mt_tests_one (Mt_isTrue_plain rfl ?_))))
    have K2 := K1.le le2
    refine Mt_ListComp (com_in (QV := fun v k m mu => Mt _ k m mu (truthy v) _) (Lm.up (Lm.up i1)) (Lm.up (Lm.set_self _ _ _)) (Lm.set_self _ _ _) K2.kA K2.hA K2.ab hN.2 hp.1 hp.2 (fun e he => (P.hes e he).1) fun D3 k3 oD3 us3 cs3 le3 hT3 hk3 ho3 hus3 hcn3 hcs3 hcr3 => ?_)
    have hc3l : cs3.length ≤ 6 := by
      have := nodup_len_le hcn3 hcr3
      simp [rangeN] at this; omega
    refine Mt_truthy_list (.inl hk3) ho3 (by have := hus3.1; omega) ?_
    have e : decide (us3 ≠ []) = hasB (pbOf d.es) p := by
      have : us3 ≠ [] ↔ HasC (pbOf d.es) p := by
        constructor
        · intro hne
          have hl := hus3.1
          match cs3, hl, hcs3 with
          | [], hl, _ => exact absurd (List.length_eq_zero_iff.mp hl.symm) hne
          | z :: r, _, hcs => exact ⟨z, (hcs z).mp (.head _)⟩
        · rintro ⟨z, hz⟩ e
          have hz' := (hcs3 z).mpr hz
          have hl := hus3.1
          rw [e] at hl
          rw [List.length_eq_zero_iff.mp hl] at hz'
          cases hz'
      rw [Bool.eq_iff_iff, decide_eq_true_eq, hasB_iff]; exact this
    rw [e]
    by_cases hc : hasB (pbOf d.es) p = true
    · rw [if_pos hc]
      refine Mt_Tuple (Mt_spliced_cons (Mt_nameL (Lm.up (Lm.set_self _ _ _)) (Mt_spliced_cons (Mt_nameC (Lm.set_self _ _ _) (Mt_spliced_nil (Mt_newTuple fun T oT kT hT hoT => ?_))))))
      exact ⟨le3.trans (Kn.le_put kT), rfl, Lm.up (Lm.up i1), p, by rw [if_pos hc], T, oT, _, _, rfl, Kn.put_self _ _ _, hoT, ⟨_, rfl⟩, ⟨_, rfl⟩⟩
    · rw [if_neg hc]
      exact ⟨le3, rfl, Lm.up (Lm.up i1), by rw [if_neg hc]⟩
  · intro D k3 oD us hTD hDb kD3 le2 le3 hoD hus
    have e : r.ask.flatMap (fun p => if hasB (pbOf d.es) p = true then [p] else []) = rowsOf (pbOf d.es) r.ask := flatMap_filter _ _
    rw [e] at hus
    have hkD : (k3.put D oD) D = some oD := Kn.put_self _ _ _
    have hus' : Are (IsPair (k3.put D oD)) (rowsOf (pbOf d.es) r.ask) us := hus.mono fun _ _ _ x => x.le le3
    have le4 : k1.Le (k3.put D oD) := le2.trans le3
    generalize k3.put D oD = k4 at *
    have hl4 := hus'.1
    have hpl := Rp.perm.length_eq
    refine Mt_spliced_nil (Mt_sorted (.inl hkD) hoD hus' (Rp.perm.nodup_iff.mp Rp.nnd) (fun p hp => rin_small hN.2 (Rp.ain p (mem_rowsOf.mp hp).1)) (by omega) fun D5 o5 us5 qs5 hT5 ho5 hus5 hp5 hs5 => ?_)
    refine Mt_frz (l1 := []) fun kD5 le5 => ?_
    have hq : qs1 = qs5 := sorted_eq Rp.perm (fun p hp => rin_small hN.2 (nin p hp)) hp1 hp5 hs1 hs5
    subst hq
    refine Mt_ne_data (da := dPairs qs1) (db := dPairs qs1) (fun hh S => ?_) (fun hh S => ?_) (dPairs_shaped _) (dPairs_shaped _) (Mt_truthy_bool ?_)
    · exact ho1.reads (S.kin _ _ (le5 _ _ (le4 _ _ hkD1))) (fun p v hv => IsPair.reads S.kin hv) (hus1'.mono fun _ _ _ x => x.le (le4.trans le5))
    · exact ho5.reads (S.kin _ _ (Kn.put_self _ _ _)) (fun p v hv => IsPair.reads S.kin hv) (hus5.mono fun _ _ _ x => x.le le5)
    · rw [PySem.SeqAt.eqv_refl _ (dPairs_lay _)]
      rw [if_neg (by simp)]
      exact Mt_nil (h _ ((le1.trans le4).trans le5))
end
end Mine

-- NL
namespace Mine
open Classical in
/-- the nodes from which x is reached -/
noncomputable def abv (es : List (Int × Int)) (N : Nat) (x : Int) : List Int := (rangeN N).filter fun y => decide (Reach (pbOf es) x y)
theorem rangeN_nd : ∀ N < 7, (rangeN N).Nodup := by decide +kernel
theorem mem_abv {es : List (Int × Int)} {N : Nat} {x y : Int} (hes : ∀ e ∈ es, e.1 ∈ rangeN N) (hx : x ∈ rangeN N) : y ∈ abv es N x ↔ Reach (pbOf es) x y := by
  unfold abv
  rw [List.mem_filter]
  simp only [decide_eq_true_eq]
  exact ⟨fun h => h.2, fun h => ⟨reach_in hes hx h, h⟩⟩
theorem abv_len {es : List (Int × Int)} {N : Nat} {x : Int} {qs : List Int} (hN : N ≤ 6) (hes : ∀ e ∈ es, e.1 ∈ rangeN N) (hx : x ∈ rangeN N) (hn : qs.Nodup) (hq : ∀ y, y ∈ qs ↔ Reach (pbOf es) x y) : qs.length = (abv es N x).length :=
  Nat.le_antisymm (nodup_len_le hn fun y hy => (mem_abv hes hx).mpr ((hq y).mp hy)) (nodup_len_le ((rangeN_nd N (by omega)).filter _) fun y hy => (hq y).mpr ((mem_abv hes hx).mp hy))
def lfR (i : Nat) : Stmt := ((forParts (lfB 2)).2.2.1[i]?).getD (.Pass default)
theorem lfR_eq : (forParts (lfB 2)).2.2.1 = [lfR 0, lfR 1, lfR 2] := by kernel_rfl
section
variable {w : World} {n : Nat} {k0 k : Kn} {L : Addr} {base : Heap} {m : Lm} {mu : Mu} {a : Aux} {d : LDat}
theorem lfR0 {x y : Int} {tx ty : Tok} (P : LPl d) (K : LK w k d) (M : LM m d) (hx : x ∈ rangeN d.N) (hy : y ∈ rangeN d.N) (mv : m "v" = some (.int x tx)) (mw : m "w" = some (.int y ty)) {Q : Flow → Kn → Lm → Mu → Prop}
    (h : ∀ D k' oD us cs, k.Le k' → k' D = some oD → OList oD us → IsInts cs us → cs.Nodup → (∀ z, z ∈ cs ↔ Reach (pbOf d.es) x z ∧ Reach (pbOf d.es) y z) → (∀ z ∈ cs, z ∈ rangeN d.N) → Q .next k' (m.set "common" (.ref D)) mu) :
    Mt (lw w (n + 12) k0 L base) k m mu (exec (lfR 0) (lw w (n + 12) k0 L base).env) Q :=
  Mt_Assign_swap (com_in (C := lw w (n + 12) k0 L base) (QV := fun v k m' mu => Q .next k (m'.set "common" v) mu) M.above mv mw K.kA K.hA K.ab P.hN.2 hx hy (fun e he => (P.hes e he).1) fun D k' oD us cs le hT hD hoD hus hcn hcs hcr => h D k' oD us cs le hD hoD hus hcn hcs hcr)
theorem lfR1 {x y c : Int} {tc : Tok} {lC : Addr} {oC : Obj} {vC : List Value} {cs : List Int} (P : LPl d) (K : LK w k d) (M : LM m d) (mt : m "told" = some (.int c tc)) (mc : m "common" = some (.ref lC)) (kC : k lC = some oC) (hlC : OList oC vC) (hiC : IsInts cs vC) (hcn : cs.Nodup) (hcr : ∀ z ∈ cs, z ∈ rangeN d.N)
    (hc : c ∈ cs) (hbad : ∀ u ∈ cs, u ≠ c → ¬ Reach (pbOf d.es) u c) {Q : Flow → Kn → Lm → Mu → Prop}
    (h : ∀ k', k.Le k' → Q .next k' m mu) : Mt (lw w (n + 12) k0 L base) k m mu (exec (lfR 1) (lw w (n + 12) k0 L base).env) Q := by
  refine Mt_If (Mt_isTrue_BoolOp (Mt_allTrue_or (Mt_isTrue_Compare (Mt_nameC mt (Mt_nameL mc (Mt_notin_ints (.inl kC) hlC hiC (Mt_truthy_bool ?_)))))))
  rw [if_neg (by simp [hc])]
  refine Mt_allTrue_or (Mt_isTrue_plain rfl (Mt_ListComp (bad_in (C := lw w (n + 12) k0 L base) (QV := fun v k m' mu => Mt (lw w (n + 12) k0 L base) k m' mu (truthy v) _) M.above mc mt K.kA K.hA K.ab P.hN.2 kC hlC hiC hcn hcr hbad fun D k' oD le hT hD hoD => ?_)))
  refine Mt_truthy_list (.inl hD) hoD (by simp) ?_
  rw [if_neg (by simp)]
  refine Mt_allTrue_nil ?_
  rw [if_neg (by decide)]
  exact Mt_nil (h k' le)
theorem lfR2 {x y c : Int} {tc : Tok} {lC : Addr} {oC : Obj} {vC : List Value} {cs : List Int} (P : LPl d) (K : LK w k d) (M : LM m d) (hx : x ∈ rangeN d.N) (mt : m "told" = some (.int c tc)) (mc : m "common" = some (.ref lC)) (kC : k lC = some oC) (hlC : OList oC vC) (hiC : IsInts cs vC) (hcn : cs.Nodup) (hcs : ∀ z, z ∈ cs ↔ Reach (pbOf d.es) x z ∧ Reach (pbOf d.es) y z) (hcr : ∀ z ∈ cs, z ∈ rangeN d.N)
    (hl : Lca (nbOf d.es) (pbOf d.es) x y c) {Q : Flow → Kn → Lm → Mu → Prop}
    (h : ∀ k', k.Le k' → Q .next k' m mu) : Mt (lw w (n + 12) k0 L base) k m mu (exec (lfR 2) (lw w (n + 12) k0 L base).env) Q := by
  have hN := P.hN
  have hes : ∀ e ∈ d.es, e.1 ∈ rangeN d.N := fun e he => (P.hes e he).1
  have hc : c ∈ cs := (hcs c).mpr ⟨hl.1, hl.2.1⟩
  have hcl : cs.length ≤ 6 := by
    have := nodup_len_le hcn hcr
    simp [rangeN] at this; omega
  refine Mt_If (Mt_isTrue_BoolOp (Mt_allTrue_and (Mt_isTrue_plain rfl (Mt_nameL M.tree (Mt_truthy_bool ?_)))))
  by_cases htr : d.tr = true
  · rw [if_pos htr]
    refine Mt_allTrue_and (Mt_isTrue_Compare (Mt_Call (Mt_nameB (v := .builtin "len") (by kernel_rfl) (by kernel_rfl) (by decide) ⟨keeps_builtin _, Mt_spliced_cons ?_⟩)))
    refine Mt_above (u := c) K.kA K.hA K.ab hN.2 (hcr c hc) (Mt_nameC M.above ⟨rfl, Mt_nameC mt ⟨⟨tc, rfl⟩, Kn.Le.refl _, fun D3 o3 u3 q3 kD3 hD3 hu3 hn3 hq3 => ?_⟩⟩)
    have hq3l : u3.length = (abv d.es d.N c).length := hu3.1.symm.trans (abv_len hN.2 hes (hcr c hc) hn3 hq3)
    have hab6 : ∀ u, (abv d.es d.N u).length ≤ 6 := fun u => by
      have h1 : (abv d.es d.N u).length ≤ (rangeN d.N).length := List.length_filter_le _ _
      simp [rangeN] at h1; omega
    refine Mt_spliced_nil (Mt_len_list (.inl kD3) hD3 (fun t5 => ?_) (by have := hab6 c; omega))
    refine Mt_Call (Mt_nameB (v := .builtin "max") (by kernel_rfl) (by kernel_rfl) (by decide) ⟨keeps_builtin _, Mt_spliced_cons (Mt_ListComp (Mt_nameL mc (Mt_pyIter_list (.inl kC) hlC fun it oi hT hoi => ?_)))⟩)
    refine ⟨[(it, oi)], mu, rfl, comp1_in (Src.list w hlC kC hiC) (fun u => [((abv d.es d.N u).length : Int)]) (fun _ u v => IsInt u v) (fun _ _ _ _ _ h => h) (fun m => m "above" = some (.ref d.lA)) (by omega) (fun e he => by simp) ?_ ?_ ((cmap_free rfl).trans M.above) hoi (Kn.Le.refl _)⟩
    · rintro D2 L' base' hTD j z k1 m1 oi1 oD v he ⟨tz, rfl⟩ le2 i1
      have hz := List.mem_of_getElem? he
      refine Mt_toL (Mt_tests_nil ?_)
      rw [if_pos rfl]
      refine Mt_Call (Mt_nameB (v := .builtin "len") (by kernel_rfl) (by kernel_rfl) (by decide) ⟨keeps_builtin _, Mt_spliced_cons ?_⟩)
      refine Mt_above (u := z) (le2 _ _ K.kA) K.hA (K.ab.mono fun p _ v hv => hv.le le2) hN.2 (hcr z hz) (Mt_nameC (Lm.up i1) ⟨rfl, Mt_nameL (Lm.set_self _ _ _) ⟨⟨tz, rfl⟩, Kn.Le.refl _, fun D4 o4 u4 q4 kD4 hD4 hu4 hn4 hq4 => ?_⟩⟩)
      have hq4l : u4.length = (abv d.es d.N z).length := hu4.1.symm.trans (abv_len hN.2 hes (hcr z hz) hn4 hq4)
      refine Mt_spliced_nil (Mt_len_list (.inl kD4) hD4 (fun t6 => ?_) (by have := hab6 z; omega))
      exact ⟨Kn.Le.refl _, rfl, Lm.up i1, _, rfl, t6, by rw [hq4l]⟩
    · intro D2 k3 oD ws hTD hDb kD3' le2 le3 hoD hws
      rw [flatMap_one] at hws
      refine Mt_spliced_nil (Mt_max_ints (.inl (Kn.put_self _ _ _)) hoD hws (fun e => by rw [List.map_eq_nil_iff] at e; rw [e] at hc; cases hc) fun Mx t7 hMx hMm => ?_)
      have hM : Mx = ((abv d.es d.N c).length : Int) := by
        have h1 := hMm _ (List.mem_map_of_mem (f := fun u => ((abv d.es d.N u).length : Int)) hc)
        obtain ⟨u, hu, rfl⟩ := List.mem_map.mp hMx
        have hu' := (hcs u).mp hu
        have h2 := tree_far (P.one htr) (ab := abv d.es d.N) (v := x) (w := y) (c := c) (u := u) ((rangeN_nd d.N (by omega)).filter _) (fun y => mem_abv hes (hcr u hu)) (fun y => mem_abv hes (hcr c hc)) hl hu'.1 hu'.2
        omega
      refine Mt_ne_int (Mt_truthy_bool ?_)
      rw [hq3l, hM]
      rw [if_neg (by simp)]
      rw [if_neg (by simp)]
      exact Mt_nil (h _ (le2.trans le3))
  · rw [if_neg htr]
    rw [if_neg (by simp)]
    exact Mt_nil (h _ (Kn.Le.refl _))
/-- the three checks of one row -/
theorem lfRow {x y c : Int} {tx ty tc : Tok} (P : LPl d) (K : LK w k d) (M : LM m d) (hx : x ∈ rangeN d.N) (hy : y ∈ rangeN d.N) (hl : Lca (nbOf d.es) (pbOf d.es) x y c) (mv : m "v" = some (.int x tx)) (mw : m "w" = some (.int y ty)) (mt : m "told" = some (.int c tc)) {Q : Flow → Kn → Lm → Mu → Prop}
    (h : ∀ k' m', k.Le k' → LM m' d → Q .next k' m' mu) : Mt (lw w (n + 12) k0 L base) k m mu (execs ((forParts (lfB 2)).2.2.1) (lw w (n + 12) k0 L base).env) Q := by
  rw [lfR_eq]
  refine Mt_cons (lfR0 P K M hx hy mv mw fun D k1 oD us cs le1 hD hoD hus hcn hcs hcr => ?_)
  refine Mt_cons (lfR1 (x := x) (y := y) P (K.le le1) M.set (Lm.up mt) (Lm.set_self _ _ _) hD hoD hus hcn hcr ((hcs c).mpr ⟨hl.1, hl.2.1⟩) (fun u hu hne => lca_low hl ((hcs u).mp hu).1 ((hcs u).mp hu).2 hne) fun k2 le2 => ?_)
  refine Mt_cons (lfR2 (x := x) (y := y) P (K.le (le1.trans le2)) M.set hx (Lm.up mt) (Lm.set_self _ _ _) (le2 _ _ hD) hoD hus hcn hcs hcr hl fun k3 le3 => ?_)
  exact Mt_nil (h k3 _ ((le1.trans le2).trans le3) M.set)
theorem lf2 {r : RDat} (P : LPl d) (K : LK w k d) (M : LM m d) (R : RM m r) (RKk : RK k d r) (Rp : RP d r) {Q : Flow → Kn → Lm → Mu → Prop}
    (h : ∀ k' m', k.Le k' → LM m' d → Q .next k' m' mu) : Mt (lw w (n + 12) k0 L base) k m mu (exec (lfB 2) (lw w (n + 12) k0 L base).env) Q := by
  refine Mt_For (Mt_nameL R.rows (Mt_pyIter_list (.inl RKk.kR) RKk.hR fun it oi hT hoi => ?_))
  refine MtC_forS (C := lw w (n + 12) k0 L base) (Src.list w RKk.hR RKk.kR RKk.rw) (fun i k' m' mu' => mu' = mu ∧ LM m' d) ?_ ?_ ⟨rfl, M⟩ hoi (Kn.Le.refl _)
  · rintro i p k1 m1 mu1 oi1 v hp hrow le1 ⟨rfl, M1⟩ hoi1
    obtain ⟨t1, o1, t2, o2, p1, p2, c, cv, rfl, h1, h2, h3, h4, ⟨ta, rfl⟩, ⟨tb, rfl⟩, ⟨tc, rfl⟩, hl⟩ := hrow
    have hin := Rp.rin p (List.mem_of_getElem? hp)
    refine Mt_assign_pair (.inl (le1 _ _ h1)) h2 (Mt_assign_pair (.inl (le1 _ _ h3)) h4 (Mt_toL (Mt_toC (Mt_toC ?_))))
    refine lfRow P (K.le le1) M1.set.set.set hin.1 hin.2 hl (Lm.up (Lm.up (Lm.set_self _ _ _))) (Lm.up (Lm.set_self _ _ _)) (Lm.set_self _ _ _) fun k2 m2 le2 M2 => ?_
    exact ⟨oi1, _, rfl, le1.trans le2, hoi1, rfl, M2⟩
  · rintro k1 m1 mu1 le1 ⟨rfl, M1⟩
    exact Mt_nil (h k1 m1 le1 M1)
end
end Mine

-- NM
namespace Mine
theorem lf_eq : (forParts (lst 12)).2.2.1 = [lfB 0, lfB 1, lfB 2] := lfB_eq
section
variable {w : World} {n : Nat} {k0 k : Kn} {L : Addr} {base : Heap} {m : Lm} {mu : Mu} {a : Aux} {d : LDat}
theorem lfTurn (P : LPl d) (K : LK w k d) (M : LM m d) (hct : CA k a) (hh : m "handed" = some .none ∨ m "handed" = some (.ref d.lS)) {Q : Flow → Aux → Kn → Lm → Mu → Prop}
    (h : ∀ k' a' m', k.Le k' → LM m' d → CA k' a' → Q .next a' k' m' mu) : MtA (lw w (n + 12) k0 L base) k m mu a (execs ((forParts (lst 12)).2.2.1) (lw w (n + 12) k0 L base).env) Q := by
  rw [lf_eq]
  refine MtA_cons (lf0 P K M hct hh fun k1 a1 m1 r le1 M1 hct1 R1 RK1 RP1 => ?_)
  refine MtA_consM rfl (lf1 P (K.le le1) M1 R1 RK1 RP1 fun k2 le2 => ?_)
  refine MtA_consM rfl (lf2 P (K.le (le1.trans le2)) M1 R1 (RK1.le le2) RP1 fun k3 m3 le3 M3 => ?_)
  exact MtA_nil (h k3 a1 m3 ((le1.trans le2).trans le3) M3 (hct1.le (le2.trans le3)))
theorem law12 (P : LPl d) (K : LK w k d) (M : LM m d) (hct : CA k a) {Q : Flow → Aux → Kn → Lm → Mu → Prop}
    (h : ∀ k' a' m', k.Le k' → LM m' d → CA k' a' → Q .next a' k' m' mu) : MtA (lw w (n + 12) k0 L base) k m mu a (exec (lst 12) (lw w (n + 12) k0 L base).env) Q := by
  refine MtA_For rfl (Mt_Tuple (Mt_spliced_cons (Mt_none (Mt_spliced_cons (Mt_nameL M.som (Mt_spliced_nil (Mt_newTuple fun T oT kT hT hoT => Mt_pyIter_tup (.inl (Kn.put_self _ _ _)) hoT fun it oi hTi hoi => ?_)))))))
  have le0 := Kn.le_put (o := oT) kT
  have hkT : (k.put T oT) T = some oT := Kn.put_self _ _ _
  have K0 := K.le le0
  have hct0 := hct.le le0
  refine MtCA_for rfl (fun z a' k' m' mu' => ∃ i oi, z = 2 - i ∧ i ≤ 2 ∧ mu' = (it, oi) :: mu ∧ (k.put T oT).Le k' ∧ OTIter oi T i ∧ LM m' d ∧ CA k' a') ?_ 2 ⟨0, oi, rfl, by omega, rfl, Kn.Le.refl _, hoi, M, hct0⟩
  rintro z a1 k1 m1 mu1 ⟨i, oi1, rfl, hi, rfl, le1, hoi1, M1, hct1⟩
  have turn : ∀ (v : Value) (oi2 : Obj) (Q' : Flow → Aux → Kn → Lm → Mu → Prop), (v = .none ∨ v = .ref d.lS) → (∀ k' a' m', (k.put T oT).Le k' → LM m' d → CA k' a' → Q' .next a' k' m' ((it, oi2) :: mu)) →
      MtA (lw w (n + 12) k0 L base) k1 (m1.set "handed" v) ((it, oi2) :: mu) a1 (execs ((forParts (lst 12)).2.2.1) (lw w (n + 12) k0 L base).env) Q' := by
    intro v oi2 Q' hv hQ
    refine lfTurn P (K0.le le1) M1.set hct1 (hv.imp (fun e => by rw [e]; exact Lm.set_self _ _ _) fun e => by rw [e]; exact Lm.set_self _ _ _) fun k2 a2 m2 le2 M2 hct2 => ?_
    exact hQ k2 a2 m2 (le1.trans le2) M2 hct2
  have i012 : i = 0 ∨ i = 1 ∨ i = 2 := by omega
  rcases i012 with rfl | rfl | rfl
  · refine Mt_next_tup (l1 := []) rfl hoi1 (.inl (le1 _ _ hkT)) hoT rfl fun oi2 hoi2 => ?_
    refine Mt_letOwned (T := "tuple_iterator") (by decide) hoi2.1 (.head _) (Mt_toL (turn _ oi2 _ (.inl rfl) fun k2 a2 m2 le2 M2 hct2 => ?_))
    exact ⟨1, by omega, 1, oi2, rfl, by omega, rfl, le2, hoi2, M2, hct2⟩
  · refine Mt_next_tup (l1 := []) rfl hoi1 (.inl (le1 _ _ hkT)) hoT rfl fun oi2 hoi2 => ?_
    refine Mt_letOwned (T := "tuple_iterator") (by decide) hoi2.1 (.head _) (Mt_toL (turn _ oi2 _ (.inr rfl) fun k2 a2 m2 le2 M2 hct2 => ?_))
    exact ⟨0, by omega, 2, oi2, rfl, by omega, rfl, le2, hoi2, M2, hct2⟩
  · refine Mt_next_tup_end (l1 := []) rfl hoi1 (.inl (le1 _ _ hkT)) hoT (by simp) ?_
    exact MtA_nil (h k1 a1 m1 (le0.trans le1) M1 hct1)
end
end Mine

-- NN
namespace Mine
def dInts (xs : List Int) : PyData := .list (xs.map fun x => .int x)
theorem dInts_shaped (xs : List Int) : SeqAt.shaped (dInts xs) = true := by
  have h1 : (dInts xs).canLay0 = true := by
    unfold dInts
    rw [PyData.canLay0]
    exact canLay_all _ (fun x => rfl) xs
  have h2 : (dInts xs).depth ≤ 64 := by
    have key : ∀ xs : List Int, PyData.depthAll (xs.map fun x => PyData.int x) ≤ 0 := by
      intro xs
      induction xs with
      | nil => exact Nat.zero_le _
      | cons p r ih =>
        rw [List.map_cons, PyData.depthAll]
        exact Nat.max_le.mpr ⟨Nat.le_refl _, ih⟩
    have := key xs
    unfold dInts
    rw [PyData.depth]
    omega
  unfold SeqAt.shaped
  rw [h1]; simpa using h2
theorem none_shaped : SeqAt.shaped (.str ("none" : Str)) = true := by decide +kernel
section
variable {w : World} {n : Nat} {k0 k : Kn} {L : Addr} {base : Heap} {m : Lm} {mu : Mu} {a : Aux} {d : LDat}
theorem law13 (P : LPl d) (K : LK w k d) (M : LM m d) {Q : Flow → Kn → Lm → Mu → Prop}
    (h : ∀ x y tx ty m', x ∈ rangeN d.N → y ∈ rangeN d.N → LM m' d → m' "v" = some (.int x tx) → m' "w" = some (.int y ty) → Q .next k m' mu) : Mt (lw w (n + 12) k0 L base) k m mu (exec (lst 13) (lw w (n + 12) k0 L base).env) Q := by
  have hs := P.s3
  obtain ⟨p, hp⟩ : ∃ p, d.so[0]? = some p := ⟨d.so[0], by simp⟩
  obtain ⟨v, hv, t, o, a, b, rfl, ht, ho, ⟨ta, rfl⟩, ⟨tb, rfl⟩⟩ := K.so.get hp
  have hin := P.sm p (List.mem_of_getElem? hp)
  refine Mt_Assign_Tuple (Mt_Subscript (Mt_nameL M.som (Mt_int fun t0 => Mt_sub_list (i := 0) (.inl K.kS) K.hS hv (by decide) ?_)))
  refine Mt_assign_pair (.inl ht) ho (Mt_toL (Mt_toC ?_))
  exact h p.1 p.2 ta tb _ hin.1 hin.2 M.set.set (Lm.up (Lm.set_self _ _ _)) (Lm.set_self _ _ _)
theorem law14 {x y : Int} {tx ty : Tok} (P : LPl d) (K : LK w k d) (M : LM m d) (hct : CA k a) (hx : x ∈ rangeN d.N) (hy : y ∈ rangeN d.N) (mv : m "v" = some (.int x tx)) (mw : m "w" = some (.int y ty)) {Q : Flow → Aux → Kn → Lm → Mu → Prop}
    (h : ∀ k' a' r mu', k.Le k' → CA k' a' → ((∃ c t, r = .int c t ∧ Lca (nbOf d.es) (pbOf d.es) x y c) ∨ (¬ HasC (pbOf d.es) (x, y) ∧ ∃ t, r = .str ("none" : Str) t)) → Q .next a' k' (m.set "told" r) (mu' ++ mu)) : MtA (lw w (n + 12) k0 L base) k m mu a (exec (lst 14) (lw w (n + 12) k0 L base).env) Q := by
  refine MtA_Assign rfl (MtA_Call rfl (Mt_nameG (v := .ref 103) (by kernel_rfl) ⟨keeps_text (by kernel_rfl), Mt_spliced_cons (Mt_nameL M.G (Mt_spliced_cons (Mt_nameL mv (Mt_spliced_cons (Mt_nameC mw (Mt_spliced_cons (Mt_str fun t0 => Mt_spliced_nil ?_)))))))⟩))
  refine MtA_mv (mu1 := []) (mu2 := mu) (MvA_mono (lca_mv (n := n + 2) K.G P.acyc P.ne hct.1 ((P.nm _).mpr hx) ((P.nm _).mpr hy)) ?_)
  rintro r a' k' mu' le ⟨hct', hab', hr⟩ - -
  exact Mt_setC (h k' a' r mu' le ⟨hct', hab' hct.2⟩ (hr.imp id fun ⟨h1, h2⟩ => ⟨h1, t0, h2⟩))
theorem law15 {x y : Int} {tx ty : Tok} (P : LPl d) (K : LK w k d) (M : LM m d) (hx : x ∈ rangeN d.N) (hy : y ∈ rangeN d.N) (mv : m "v" = some (.int x tx)) (mw : m "w" = some (.int y ty)) {Q : Flow → Kn → Lm → Mu → Prop}
    (h : ∀ D k' oD us cs, k.Le k' → k' D = some oD → OList oD us → IsInts cs us → cs.Nodup → (∀ z, z ∈ cs ↔ Reach (pbOf d.es) x z ∧ Reach (pbOf d.es) y z) → (∀ z ∈ cs, z ∈ rangeN d.N) → Q .next k' (m.set "common" (.ref D)) mu) :
    Mt (lw w (n + 12) k0 L base) k m mu (exec (lst 15) (lw w (n + 12) k0 L base).env) Q :=
  Mt_Assign_swap (com_in (C := lw w (n + 12) k0 L base) (QV := fun v k m' mu => Q .next k (m'.set "common" v) mu) M.above mv mw K.kA K.hA K.ab P.hN.2 hx hy (fun e he => (P.hes e he).1) fun D k' oD us cs le hT hD hoD hus hcn hcs hcr => h D k' oD us cs le hD hoD hus hcn hcs hcr)
theorem law16 {x y : Int} {r : Value} {lC : Addr} {oC : Obj} {vC : List Value} {cs : List Int} (P : LPl d) (K : LK w k d) (M : LM m d) (hr : (∃ c t, r = .int c t ∧ Lca (nbOf d.es) (pbOf d.es) x y c) ∨ (¬ HasC (pbOf d.es) (x, y) ∧ ∃ t, r = .str ("none" : Str) t)) (mt : m "told" = some r) (mc : m "common" = some (.ref lC)) (kC : k lC = some oC) (hlC : OList oC vC) (hiC : IsInts cs vC) (hcn : cs.Nodup) (hcs : ∀ z, z ∈ cs ↔ Reach (pbOf d.es) x z ∧ Reach (pbOf d.es) y z) (hcr : ∀ z ∈ cs, z ∈ rangeN d.N) {Q : Flow → Kn → Lm → Mu → Prop}
    (h : ∀ k', k.Le k' → Q .next k' m mu) : Mt (lw w (n + 12) k0 L base) k m mu (exec (lst 16) (lw w (n + 12) k0 L base).env) Q := by
  have hcl : cs.length ≤ 6 := by
    have := nodup_len_le hcn hcr
    have hN := P.hN
    simp [rangeN] at this; omega
  have hvl := hiC.1
  have isInt_reads : ∀ {h : Heap} (x : Int) (v : Value), IsInt x v → ∃ as, Reads h v (PyData.int x) as := fun x v ⟨t, e⟩ => by subst e; exact ⟨_, .int _ _⟩
  obtain ⟨b, hb1, hb2⟩ : ∃ b : Bool, (b = true ↔ cs = []) ∧ ∃ dr : PyData, (∀ h : Heap, ∃ as, Reads h r dr as) ∧ SeqAt.shaped dr = true ∧ PyData.eqv dr (.str ("none" : Str)) = b := by
    rcases hr with ⟨c, t, rfl, hl⟩ | ⟨hno, t, rfl⟩
    · refine ⟨false, ⟨fun h => (by cases h), fun e => ?_⟩, .int c, fun h => ⟨_, .int _ _⟩, rfl, rfl⟩
      have : c ∈ cs := (hcs c).mpr ⟨hl.1, hl.2.1⟩
      rw [e] at this; cases this
    · refine ⟨true, ⟨fun _ => ?_, fun _ => rfl⟩, .str "none", fun h => ⟨_, .str _ _⟩, none_shaped, by rw [PyData.eqv]; simp⟩
      match cs, hcs with
      | [], _ => rfl
      | z :: q, hcs => exact absurd ⟨z, (hcs z).mp (.head _)⟩ hno
  obtain ⟨dr, hrd, hrs, hre⟩ := hb2
  refine Mt_If (Mt_isTrue_BoolOp (Mt_allTrue_or (Mt_isTrue_Compare (Mt_Compare (Mt_nameC mt (Mt_str fun t0 => Mt_eq_data (da := dr) (db := .str "none") (fun h S => hrd h) (fun h S => ⟨_, .str _ _⟩) hrs none_shaped ?_))))))
  rw [hre]
  refine Mt_Compare (Mt_nameL mc (Mt_List (Mt_spliced_nil (Mt_newList fun Z oZ kZ hTZ hoZ => ?_))))
  have le1 := Kn.le_put (o := oZ) kZ
  refine Mt_eq_data (da := dInts cs) (db := dInts []) (fun h S => hlC.reads (S.kin _ _ (le1 _ _ kC)) isInt_reads hiC) (fun h S => hoZ.reads (S.kin _ _ (Kn.put_self _ _ _)) isInt_reads Are.nil) (dInts_shaped _) (dInts_shaped _) ?_
  have e2 : PyData.eqv (dInts cs) (dInts []) = b := by
    unfold dInts
    rw [PyData.eqv]
    cases cs with
    | nil =>
      have : b = true := hb1.mpr rfl
      rw [this]; rfl
    | cons z q =>
      have : b = false := by
        cases b with
        | false => rfl
        | true => exact absurd (hb1.mp rfl) (by simp)
      rw [this]; rfl
  rw [e2]
  refine Mt_ne_data (da := .bool b) (db := .bool b) (fun h S => ⟨_, .bool _⟩) (fun h S => ⟨_, .bool _⟩) rfl rfl (Mt_truthy_bool ?_)
  rw [show (!PyData.eqv (.bool b) (.bool b)) = false by cases b <;> rfl]
  rw [if_neg (by simp)]
  have K1 := K.le le1
  have kC1 := le1 _ _ kC
  generalize k.put Z oZ = k1 at *
  refine Mt_allTrue_or (Mt_isTrue_BoolOp (Mt_allTrue_and (Mt_isTrue_plain rfl (Mt_nameL mc (Mt_truthy_list (.inl kC1) hlC (by omega) ?_)))))
  rcases hr with ⟨c, t, rfl, hl⟩ | ⟨hno, t, rfl⟩
  · have hc : c ∈ cs := (hcs c).mpr ⟨hl.1, hl.2.1⟩
    have hne : vC ≠ [] := fun e => by
      rw [e] at hvl
      rw [List.length_eq_zero_iff.mp hvl] at hc; cases hc
    rw [if_pos (by simpa using hne)]
    refine Mt_allTrue_and (Mt_isTrue_BoolOp (Mt_allTrue_or (Mt_isTrue_Compare (Mt_nameC mt (Mt_nameL mc (Mt_notin_ints (.inl kC1) hlC hiC (Mt_truthy_bool ?_)))))))
    rw [if_neg (by simp [hc])]
    refine Mt_allTrue_or (Mt_isTrue_plain rfl (Mt_ListComp (bad_in (C := lw w (n + 12) k0 L base) (QV := fun v k m' mu => Mt (lw w (n + 12) k0 L base) k m' mu (truthy v) _) M.above mc mt K1.kA K1.hA K1.ab P.hN.2 kC1 hlC hiC hcn hcr (fun u hu hne => lca_low hl ((hcs u).mp hu).1 ((hcs u).mp hu).2 hne) fun D k' oD le hT hD hoD => ?_)))
    refine Mt_truthy_list (.inl hD) hoD (by simp) ?_
    rw [if_neg (by simp)]
    refine Mt_allTrue_nil ?_
    rw [if_neg (by decide)]
    rw [if_neg (by decide)]
    refine Mt_allTrue_nil ?_
    rw [if_neg (by decide)]
    exact Mt_nil (h k' (le1.trans le))
  · have hce : cs = [] := by
      match cs, hcs with
      | [], _ => rfl
      | z :: q, hcs => exact absurd ⟨z, (hcs z).mp (.head _)⟩ hno
    have hve : vC = [] := by
      rw [hce] at hvl
      exact List.length_eq_zero_iff.mp hvl.symm
    rw [if_neg (by simp [hve])]
    rw [if_neg (by decide)]
    refine Mt_allTrue_nil ?_
    rw [if_neg (by decide)]
    exact Mt_nil (h k1 le1)
end
end Mine

-- NO
namespace Mine
/-- the end of the law -/
def EndS (C : Cx) (s s' : Shared) : Prop := C.base.StaysIn s'.heap ∧ TabOk s'.heap ∧ AllBare s'.gens ∧ s'.os = s.os
def MtF (C : Cx) (k : Kn) (m : Lm) (mu : Mu) (a : Aux) (t : Sem Flow) : Prop :=
  ∀ (s : Shared) (A : Around) (E : Value → Shared → Prop), OkA C.n A → A.frames = some [C.env] → Stt C k m mu s.heap → aux s = a →
    wpAny (model P C.w) A t (fun f s' => f = .ret (.bool true) ∧ EndS C s s') E s
section
variable {C : Cx} {k : Kn} {m : Lm} {mu : Mu} {a : Aux}
theorem MtF_cons {st : Stmt} {rest : List Stmt} (h : MtA C k m mu a (exec st C.env) (fun f a k m mu => f = .next ∧ MtF C k m mu a (execs rest C.env))) : MtF C k m mu a (execs (st :: rest) C.env) := fun s A E hA hfr S ha => by
  rw [execs_cons]
  refine wpAny_bind (wpAny_mono (h s A E hA S ha) (fun f s₁ ⟨k', m', mu', af, S', e, q⟩ => ?_) fun _ _ e => e)
  subst e
  refine wpAny_mono (q s₁ A E hA hfr S' rfl) (fun f s₂ ⟨e, h1, h2, h3, h4⟩ => ⟨e, h1, h2, h3, ?_⟩) fun _ _ e => e
  obtain ⟨_, _, _, _, rfl⟩ := af
  exact h4
theorem MtF_consM (hG : C.G = EqG) {st : Stmt} {rest : List Stmt} (h : Mt C k m mu (exec st C.env) (fun f k m mu => f = .next ∧ MtF C k m mu a (execs rest C.env))) : MtF C k m mu a (execs (st :: rest) C.env) := MtF_cons (MtA_of hG h)
theorem MtF_true {kd : Nat} {p1 p2 : Pos} {rest : List Stmt} (hb : AllBare a.1) : MtF C k m mu a (execs (.Return (some (.Constant (.bool true) kd p1)) p2 :: rest) C.env) := fun s A E hA hfr S ha =>
  retTrue ⟨rfl, S.keep, S.tab, by rw [← ha] at hb; exact hb, rfl⟩
theorem execs_ret {w : World} {st : Stmt} {rest : List Stmt} {env : Env} {A : Around} {E : Value → Shared → Prop} {s : Shared} {v : Value} {R : Shared → Prop} (h : wpAny (model P w) A (exec st env) (fun f s' => f = .ret v ∧ R s') E s) : wpAny (model P w) A (execs (st :: rest) env) (fun f s' => f = .ret v ∧ R s') E s := by
  rw [execs_cons]
  refine wpAny_bind (wpAny_mono h (fun f s' ⟨e, r⟩ => ?_) fun _ _ e => e)
  subst e
  exact wpAny_pure ⟨rfl, r⟩
/-- a comprehension bound to a cell: its source raises -/
theorem comp_raiseC {x : Str} {elt target iter : PySem.Expr} {ifs : List PySem.Expr} {rest : List Comprehension} {scope : Scope} {cpos pos pos' : Pos} {Q : Flow → Shared → Prop} {w : World} {env : Env} {A : Around} {E : Value → Shared → Prop} {s : Shared} (h : wpAny (model P w) A (eval iter env) (fun _ _ => False) E s)
    (hsw : swapsWith (.ListComp elt (⟨target, iter, ifs, 0⟩ :: rest) scope cpos) (some (.Name x pos')) pos.line env = pure false := by rfl) :
    wpAny (model P w) A (exec (.Assign [.Name x pos'] (.ListComp elt (⟨target, iter, ifs, 0⟩ :: rest) scope cpos) pos) env) Q E s := by
  rw [exec_Assign_Name env x pos' _ pos hsw]
  refine wpAny_bind (wpAny_standAt (wpAny_bind ?_))
  rw [eval_ListComp]
  unfold comprehension
  exact wpAny_bind (wpAny_mono h (fun _ _ x => x.elim) fun _ _ e => e)
end
def cirB (i : Nat) : Stmt := ((ifBody (lst 17))[i]?).getD (.Pass default)
theorem cirB_eq : ifBody (lst 17) = [cirB 0, cirB 1] := by kernel_rfl
section
variable {w : World} {n : Nat} {k0 k kb : Kn} {L : Addr} {base : Heap} {m : Lm} {mu : Mu} {a : Aux} {d : LDat}
theorem cir0 {M : Mu} {sA sP : Int → Addr} {x y : Int} {es' : List (Int × Int)} (P : LPl d) (MM : LM m d) (hg : IsG k [] d.g (gNames d.gd d.nd d.ad d.pd)) (gm : GM w M d.nd d.ad d.pd d.nodes sA sP (nbOf d.es) (pbOf d.es)) (kE : k d.lE = some d.oE) (hE : OList d.oE d.vE) (es : Are (IsPair k) d.es d.vE) (he : d.es = (x, y) :: es') {Q : Flow → Kn → Lm → Mu → Prop}
    (h : ∀ k' M', k.Le k' → GM w M' d.nd d.ad d.pd d.nodes sA sP (nbOf (d.es ++ [(y, x)])) (pbOf (d.es ++ [(y, x)])) → Q .next k' m M') : Mt (lw w (n + 12) k0 L base) k m M (exec (cirB 0) (lw w (n + 12) k0 L base).env) Q := by
  obtain ⟨v, hv, t, o, va, vb, rfl, ht, ho, ⟨ta, rfl⟩, ⟨tb, rfl⟩⟩ := es.get (i := 0) (x := (x, y)) (by rw [he]; rfl)
  have hmem : (x, y) ∈ d.es := by rw [he]; exact .head _
  have hin := P.hes _ hmem
  refine Mt_Expr rfl (Mt_CallM (Mt_nameL MM.G fun pl => Mt_method (f := 678) (hg.le (Kn.Le.refl _)) rfl (by kernel_rfl) (by kernel_rfl) ⟨keeps_text (by kernel_rfl), ?_⟩))
  refine Mt_spliced_cons (Mt_Subscript (Mt_Subscript (Mt_nameC MM.edges (Mt_int fun t0 => Mt_sub_list (i := 0) (.inl kE) hE hv (by decide) (Mt_int fun t1 => Mt_sub_tup (i := 1) (.inl ht) ho rfl (by decide) ?_)))))
  refine Mt_spliced_cons (Mt_Subscript (Mt_Subscript (Mt_nameC MM.edges (Mt_int fun t2 => Mt_sub_list (i := 0) (.inl kE) hE hv (by decide) (Mt_int fun t3 => Mt_sub_tup (i := 0) (.inl ht) ho rfl (by decide) (Mt_spliced_nil ?_))))))
  have := Mt_mv (C := lw w (n + 12) k0 L base) (k := k) (m := m) (mu1 := M) (mu2 := []) (t := call (.ref 678) [.ref d.g, .int y tb, .int x ta]) (Q := fun v k m mu => v = .none ∧ Q .next k m mu) (Mv_mono (adde_mv (n := n + 10) eqG_ok hg gm ((P.nm _).mpr hin.2) ((P.nm _).mpr hin.1) (P.E.back hmem) (by have := P.el; omega)) (by
    rintro v k' mu' le' ⟨rfl, gm'⟩ - -
    rw [List.append_nil]
    exact ⟨rfl, h k' mu' le' gm'⟩))
  rwa [List.append_nil] at this
/-- with a circle all is refused -/
theorem cir1 {nodes : List Int} {nb pb : Int → List Int} (K : GK w k d.g d.gd d.nd d.ad d.pd nodes nb pb) (hac : ¬ Acyc nodes nb) (MM : LM m d) (hb : AllBare a.1) : MtF (lw w (n + 12) k0 L base) k m [] a (execs [cirB 1] (lw w (n + 12) k0 L base).env) := fun s A E hA hfr S ha => by
  refine execs_ret ?_
  refine Try_caught (C := lw w (n + 12) k0 L base) (outer := []) S.ok hfr (by rfl) (execs_first (comp_raiseC ?_)) ?_
  · exact call_raise (n := n + 8) (C := lw w (n + 12) k0 L base) K hac rfl rfl hA S hfr rfl (Mt_nameL MM.G ⟨rfl, rfl, rfl, rfl⟩)
  · intro A' E' s' h1 h2 h3 h4
    exact retTrue ⟨rfl, h1, h2, by rw [h3]; rw [← ha] at hb; exact hb, h4⟩
theorem law_end {M : Mu} {sA sP : Int → Addr} (P : LPl d) (K : LK w k d) (MM : LM m d) (hca : CA k a) (hg : IsG kb [] d.g (gNames d.gd d.nd d.ad d.pd)) (gm : GM w M d.nd d.ad d.pd d.nodes sA sP (nbOf d.es) (pbOf d.es)) (kE : kb d.lE = some d.oE) (es : Are (IsPair kb) d.es d.vE)
    (le : kb.Le k) (hin : ∀ p ∈ M, k p.1 = some p.2) (hno : ∀ p ∈ M, kb p.1 = none ∧ base.get? p.1 = none) (hnd : (M.map (·.1)).Nodup) : MtF (lw w (n + 12) k0 L base) k m [] a (execs [lst 17, lst 18] (lw w (n + 12) k0 L base).env) := by
  have hvl := K.es.1
  have hel := P.el
  by_cases hes : d.es = []
  · refine MtF_consM rfl (Mt_If (Mt_isTrue_plain rfl (Mt_nameC MM.edges (Mt_truthy_list (.inl K.kE) K.hE (by omega) ?_))))
    rw [hes] at hvl
    have hve : d.vE = [] := List.length_eq_zero_iff.mp hvl.symm
    rw [if_neg (by simp [hve])]
    exact Mt_nil ⟨rfl, MtF_true hca.2⟩
  · obtain ⟨⟨x, y⟩, es', he⟩ : ∃ p es', d.es = p :: es' := by
      cases h : d.es with
      | nil => exact absurd h hes
      | cons p q => exact ⟨p, q, rfl⟩
    have hve : d.vE ≠ [] := fun e => by
      rw [e, he] at hvl; simp at hvl
    have hb2 : AllBare a.1 := hca.2
    intro s A E hA hfr S ha
    refine execs_ret (If_yes (C := lw w (n + 12) k0 L base) hA S (Mt_isTrue_plain rfl (Mt_nameC MM.edges (Mt_truthy_list (.inl K.kE) K.hE (by omega) ⟨by simpa using hve, fun s₁ af₁ S₁ => ?_⟩))))
    have ha1 : aux s₁ = a := (af₁.aux rfl S).trans ha
    have hos1 : s₁.os = s.os := by obtain ⟨_, _, _, ⟨_, rfl⟩, _⟩ := af₁; rfl
    obtain ⟨k1, le1, S2⟩ := Stt.eraseAll (C := lw w (n + 12) k0 L base) (M := M) le hin hno hnd S₁
    rw [List.append_nil] at S2
    show wpAny _ _ (execs (ifBody (lst 17)) _) _ _ _
    rw [cirB_eq]
    have key : MtF (lw w (n + 12) k0 L base) k1 m M a (execs [cirB 0, cirB 1] (lw w (n + 12) k0 L base).env) := by
      refine MtF_consM rfl (cir0 P MM (hg.le le1) gm (le1 _ _ kE) K.hE (es.mono fun p _ v hv => hv.le le1) he fun k2 M2 le2 gm2 => ⟨rfl, ?_⟩)
      intro s3 A3 E3 hA3 hfr3 S3 ha3
      rw [← List.append_nil M2] at S3
      obtain ⟨k3, le3, hin3, hno3, hnd3, S4⟩ := Stt.frzAll S3
      have hmem : (x, y) ∈ d.es := by rw [he]; exact .head _
      have hxy := P.hes _ hmem
      have gk : GK w k3 d.g d.gd d.nd d.ad d.pd d.nodes (nbOf (d.es ++ [(y, x)])) (pbOf (d.es ++ [(y, x)])) := by
        refine gm2.gk (hg.le (le1.trans (le2.trans le3))) hin3 (fun e hee => ?_) K.G.K.few K.G.K.nd
        rcases List.mem_append.mp hee with h | h
        · exact ⟨(P.nm _).mpr (P.hes e h).1, (P.nm _).mpr (P.hes e h).2⟩
        · rw [List.mem_singleton.mp h]
          exact ⟨(P.nm _).mpr hxy.2, (P.nm _).mpr hxy.1⟩
      exact cir1 gk (cyc hmem ((P.nm _).mpr hxy.1)) MM hb2 s3 A3 E3 hA3 hfr3 S4 ha3
    refine wpAny_mono (key s₁ A E hA hfr S2 ha1) (fun f s' ⟨e, h1, h2, h3, h4⟩ => ⟨e, h1, h2, h3, h4.trans hos1⟩) fun _ _ e => e
end
end Mine

-- NP
namespace Mine
/-! the plain facts of what is built -/
def rkOf (xs : List Int) (x : Int) : Nat := xs.idxOf x
def chk1 (n r : Nat) : Bool := let xs := ordN n r
  decide xs.Nodup && decide (xs.length = n) && (xs.all fun x => decide (x ∈ rangeN n)) && ((rangeN n).all fun x => decide (x ∈ xs)) && decide ((prsOf xs).length ≤ 15) && decide (prsOf xs).Nodup && ((prsOf xs).all fun e => decide (e.1 ∈ rangeN n) && decide (e.2 ∈ rangeN n) && decide (rkOf xs e.1 < rkOf xs e.2))
theorem chk1_all : ∀ n < 7, ∀ r < 7, chk1 n r = true := by decide +kernel
structure OrdOk (n r : Nat) : Prop where
  nd : (ordN n r).Nodup
  len : (ordN n r).length = n
  mem : ∀ x, x ∈ ordN n r ↔ x ∈ rangeN n
  pl : (prsOf (ordN n r)).length ≤ 15
  pn : (prsOf (ordN n r)).Nodup
  pr : ∀ e ∈ prsOf (ordN n r), (e.1 ∈ rangeN n ∧ e.2 ∈ rangeN n) ∧ rkOf (ordN n r) e.1 < rkOf (ordN n r) e.2
theorem ord_ok {n r : Nat} (hn : n < 7) (hr : r < 7) : OrdOk n r := by
  have h := chk1_all n hn r hr
  unfold chk1 at h
  simp only [Bool.and_eq_true, decide_eq_true_eq, List.all_eq_true] at h
  obtain ⟨⟨⟨⟨⟨⟨h1, h2⟩, h3⟩, h4⟩, h5⟩, h6⟩, h7⟩ := h
  exact ⟨h1, h2, fun x => ⟨h3 x, h4 x⟩, h5, h6, fun e he => ⟨⟨(h7 e he).1.1, (h7 e he).1.2⟩, (h7 e he).2⟩⟩
theorem edges_of {n r : Nat} (O : OrdOk n r) {es : List (Int × Int)} (hn : es.Nodup) (hm : ∀ e ∈ es, e ∈ prsOf (ordN n r)) : Edges n es (rkOf (ordN n r)) :=
  ⟨hn, fun e he => ⟨mem_rangeN.mp (O.pr e (hm e he)).1.1, mem_rangeN.mp (O.pr e (hm e he)).1.2⟩, fun e he => (O.pr e (hm e he)).2⟩
theorem mask_sub (a : Int) (ps : List (Int × Int)) : ∀ i, i ≤ ps.length → (maskTo a ps i).Sublist (ps.take i)
  | 0, _ => by simp [maskTo]
  | i + 1, h => by
    rw [maskTo_succ, List.take_add_one]
    refine (mask_sub a ps i (by omega)).append ?_
    have hx : ps[i]? = some ps[i] := by simp [show i < ps.length by omega]
    have hgd : ps.getD i (0, 0) = ps[i] := by rw [List.getD_eq_getElem?_getD, hx]; rfl
    rw [hx, hgd]
    cases bitOf a i <;> simp
theorem mask_sublist (a : Int) (ps : List (Int × Int)) : (maskTo a ps ps.length).Sublist ps := by
  have := mask_sub a ps ps.length (Nat.le_refl _)
  rwa [List.take_length] at this
theorem mem_prs {xs : List Int} {u v : Nat} (hv : v < xs.length) (hu : u < v) : (xs.getD u 0, xs.getD v 0) ∈ prsOf xs := by
  unfold prsOf pairs2
  rw [List.mem_flatMap]
  exact ⟨v, List.mem_range.mpr hv, List.mem_map.mpr ⟨u, List.mem_range.mpr hu, rfl⟩⟩
theorem tree_mem {a : Int} {xs : List Int} {e : Int × Int} (h : e ∈ treeOf a xs) : e ∈ prsOf xs := by
  unfold treeOf at h
  obtain ⟨j, hj, rfl⟩ := List.mem_map.mp h
  rw [List.mem_range] at hj
  have h0 : 0 ≤ (a.fdiv ((3 : Int) ^ (j + 1))).fmod ((j + 1 : Nat) : Int) := Int.fmod_nonneg_of_pos _ (by omega)
  have h1 : (a.fdiv ((3 : Int) ^ (j + 1))).fmod ((j + 1 : Nat) : Int) < ((j + 1 : Nat) : Int) := Int.fmod_lt_of_pos _ (by omega)
  exact mem_prs (by omega) (by omega)
theorem getD_inj {xs : List Int} (hn : xs.Nodup) {i j : Nat} (hi : i < xs.length) (hj : j < xs.length) (e : xs.getD i 0 = xs.getD j 0) : i = j := by
  rw [List.getD_eq_getElem?_getD, List.getD_eq_getElem?_getD, List.getElem?_eq_getElem hi, List.getElem?_eq_getElem hj] at e
  have e' : xs[i] = xs[j] := e
  rcases Nat.lt_trichotomy i j with h | h | h
  · exact absurd e' (List.pairwise_iff_getElem.mp hn i j hi hj h)
  · exact h
  · exact absurd e'.symm (List.pairwise_iff_getElem.mp hn j i hj hi h)
theorem tree_nd {a : Int} {xs : List Int} (hn : xs.Nodup) : (treeOf a xs).Nodup := by
  unfold treeOf
  rw [List.Nodup, List.pairwise_map]
  refine List.Pairwise.imp_of_mem ?_ (List.nodup_range (n := xs.length - 1))
  intro i j hi hj hij e
  rw [List.mem_range] at hi hj
  have := (Prod.mk.inj e).2
  exact hij (by have := getD_inj hn (by omega) (by omega) this; omega)
theorem tree_one {a : Int} {xs : List Int} (hn : xs.Nodup) : OnePar (treeOf a xs) := by
  intro u1 u2 v h1 h2
  unfold treeOf at h1 h2
  obtain ⟨i, hi, e1⟩ := List.mem_map.mp h1
  obtain ⟨j, hj, e2⟩ := List.mem_map.mp h2
  rw [List.mem_range] at hi hj
  have s1 := (Prod.mk.inj e1).2
  have s2 := (Prod.mk.inj e2).2
  have : i = j := by have := getD_inj hn (i := i + 1) (j := j + 1) (by omega) (by omega) (s1.trans s2.symm); omega
  subst this
  exact (Prod.mk.inj e1).1.symm.trans (Prod.mk.inj e2).1
theorem tree_len {a : Int} {xs : List Int} : (treeOf a xs).length = xs.length - 1 := by simp [treeOf]
theorem range_ord : ∀ N < 7, rangeN N = ordN N 0 := by decide +kernel
theorem some_in {d e : Int} {N : Nat} (hN : 0 < N) {p : Int × Int} (h : p ∈ someOf d e N) : p.1 ∈ rangeN N ∧ p.2 ∈ rangeN N := by
  unfold someOf at h
  obtain ⟨j, _, rfl⟩ := List.mem_map.mp h
  exact ⟨mem_rangeN.mpr ⟨Int.fmod_nonneg_of_pos _ (by omega), Int.fmod_lt_of_pos _ (by omega)⟩, mem_rangeN.mpr ⟨Int.fmod_nonneg_of_pos _ (by omega), Int.fmod_lt_of_pos _ (by omega)⟩⟩
theorem in_six {N : Nat} (hN : N ≤ 6) {x : Int} (hx : x ∈ rangeN N) : x ∈ six := by
  have h1 := mem_rangeN.mp hx
  have : x = 0 ∨ x = 1 ∨ x = 2 ∨ x = 3 ∨ x = 4 ∨ x = 5 := by omega
  unfold six; simpa using this
end Mine

-- NQ
namespace Mine
theorem MtF_drop {C : Cx} {k : Kn} {m : Lm} {mu : Mu} {a : Aux} {t : Sem Flow} (h : MtF C k m [] a t) : MtF C k m mu a t := fun s A E hA hfr S ha => h s A E hA hfr (S.sub (List.nil_sublist _)) ha
section
variable {w : World} {n : Nat} {k0 k : Kn} {L : Addr} {base : Heap} {m : Lm} {a : Aux}
theorem law_rest {N r : Nat} {tN : Tok} {lN lO lE : Addr} {oN oO oE : Obj} {vN vO vE : List Value} {NS : List Int} {c d e : Int} {es : List (Int × Int)} {tr : Bool}
    (hM : m "many" = some (.int N tN)) (hN : 0 < N ∧ N ≤ 6) (hmN : m "numbers" = some (.ref lN)) (kN : k lN = some oN) (hlN : OList oN vN) (hiN : IsInts NS vN) (hc : NS[3]? = some c) (hd : NS[4]? = some d) (he : NS[5]? = some e)
    (hmO : m "order" = some (.ref lO)) (kO : k lO = some oO) (hlO : OList oO vO) (hiO : IsInts (ordN N r) vO) (O : OrdOk N r) (hr : r < 7)
    (hmE : m "edges" = some (.ref lE)) (kE : k lE = some oE) (hE : OList oE vE) (hes : Are (IsPair k) es vE) (esn : es.Nodup) (esm : ∀ p ∈ es, p ∈ prsOf (ordN N r)) (esl : es.length ≤ 15) (hmT : m "tree" = some (.bool tr)) (one : tr = true → OnePar es) (hca : CA k a) :
    MtF (lw w (n + 12) k0 L base) k m [] a (execs [lst 7, lst 8, lst 9, lst 10, lst 11, lst 12, lst 13, lst 14, lst 15, lst 16, lst 17, lst 18] (lw w (n + 12) k0 L base).env) := by
  refine MtF_consM rfl (law7 fun g gd nd ad pd k7 le7 t1 t2 t3 hG => ⟨rfl, ?_⟩)
  refine MtF_consM rfl (law8 (Lm.set_self _ _ _) hG t1 t2 t3 (Lm.up hmO) (Lm.up hM) hN (Lm.up hmN) (le7 _ _ kO) hlO hiO O.len O.nd O.mem (le7 _ _ kN) hlN hiN hc fun k8 M8 sA sP nodes le8 gm8 nnd nlen nmem nor => ⟨rfl, ?_⟩)
  have E := edges_of O esn esm
  have hin : ∀ p ∈ es, p.1 ∈ nodes ∧ p.2 ∈ nodes := fun p hp => ⟨(nmem _).mpr (O.pr p (esm p hp)).1.1, (nmem _).mpr (O.pr p (esm p hp)).1.2⟩
  refine MtF_consM rfl (law9 (Lm.set_self _ _ _) (Lm.up hmE) (hG.le le8) gm8 (le8 _ _ (le7 _ _ kE)) hE (hes.mono fun _ _ _ x => x.le (le7.trans le8)) hin esn (by omega) fun k9 M9 le9 gm9 => ⟨rfl, ?_⟩)
  have le79 : k.Le k9 := (le7.trans le8).trans le9
  have hG9 : IsG k9 [] g (gNames gd nd ad pd) := hG.le (le8.trans le9)
  have hM7 : (m.set "G" (.ref g)) "many" = some (.int N tN) := Lm.up hM
  have hN7 : (m.set "G" (.ref g)) "numbers" = some (.ref lN) := Lm.up hmN
  have hE7 : (m.set "G" (.ref g)) "edges" = some (.ref lE) := Lm.up hmE
  have hT7 : (m.set "G" (.ref g)) "tree" = some (.bool tr) := Lm.up hmT
  have hG7 : (m.set "G" (.ref g)) "G" = some (.ref g) := Lm.set_self _ _ _
  generalize m.set "G" (.ref g) = m7 at *
  intro s A Er hA hfr S ha
  rw [← List.append_nil M9] at S
  obtain ⟨k10, le10, hinM, hnoM, hndM, S10⟩ := Stt.frzAll S
  have le' : k.Le k10 := le79.trans le10
  have gk : GK w k10 g gd nd ad pd nodes (nbOf es) (pbOf es) := gm9.gk (hG9.le le10) hinM hin (by omega) nnd
  refine (show MtF (lw w (n + 12) k0 L base) k10 m7 [] a _ from ?_) s A Er hA hfr S10 ha
  clear ha S10 S hfr hA
  refine MtF_consM rfl (law10 hM7 hN hE7 (le' _ _ kE) hE (hes.mono fun _ _ _ x => x.le le') esn (by omega) fun k11 lA oA vA le11 kA hA hab => ⟨rfl, ?_⟩)
  refine MtF_consM rfl (law11 (Lm.up hM7) hN (Lm.up hN7) (le11 _ _ (le' _ _ kN)) hlN hiN hd he fun k12 lS oS vS le12 kS hS hso => ⟨rfl, ?_⟩)
  have le12' : k.Le k12 := (le'.trans le11).trans le12
  let dd : LDat := ⟨g, gd, nd, ad, pd, lA, lS, lE, oA, oS, oE, vA, vS, vE, nodes, es, someOf d e N, rkOf (ordN N r), 6, N, tN, tr⟩
  have P : LPl dd := ⟨hN, E, esl, nmem, nor.elim (fun q => ⟨0, by omega, q.trans (range_ord N (by omega))⟩) fun q => ⟨r, hr, q⟩, by show (someOf d e N).length = 3; simp [someOf], fun p hp => some_in hN.1 hp, one⟩
  have K : LK w k12 dd := by
    refine ⟨⟨gk.le (le11.trans le12), fun x hx => in_six hN.2 ((nmem x).mp hx), fun x hx y hy => E.rk _ (mem_nbOf.mp hy), fun x hx => ?_⟩, le12 _ _ kA, hA, hab.mono fun _ _ _ x => x.le le12, kS, hS, hso, le12' _ _ kE, hE, hes.mono fun _ _ _ x => x.le le12'⟩
    show (ordN N r).idxOf x ≤ 6
    have := List.idxOf_le_length (a := x) (l := ordN N r)
    have := O.len
    omega
  have MM : LM ((m7.set "above" (.ref lA)).set "some" (.ref lS)) dd := ⟨Lm.up (Lm.up hG7), Lm.up (Lm.set_self _ _ _), Lm.up (Lm.up hM7), Lm.set_self _ _ _, Lm.up (Lm.up hT7), Lm.up (Lm.up hE7)⟩
  have hca12 : CA k12 a := hca.le le12'
  generalize (m7.set "above" (.ref lA)).set "some" (.ref lS) = m12 at *
  refine MtF_cons (law12 P K MM hca12 fun k13 a13 m13 le13 M13 hca13 => ⟨rfl, ?_⟩)
  have K13 := K.le le13
  refine MtF_consM rfl (law13 P K13 M13 fun x y tx ty m14 hx hy M14 mv mw => ⟨rfl, ?_⟩)
  refine MtF_cons (law14 P K13 M14 hca13 hx hy mv mw fun k15 a15 rv mu' le15 hca15 hrv => ⟨rfl, MtF_drop ?_⟩)
  have K15 := K13.le le15
  refine MtF_consM rfl (law15 P K15 M14.set hx hy (Lm.up mv) (Lm.up mw) fun D16 k16 oD16 us16 cs16 le16 hD16 hoD16 hus16 hcn hcs hcr => ⟨rfl, ?_⟩)
  refine MtF_consM rfl (law16 P (K15.le le16) M14.set.set hrv (Lm.up (Lm.set_self _ _ _)) (Lm.set_self _ _ _) hD16 hoD16 hus16 hcn hcs hcr fun k17 le17 => ⟨rfl, ?_⟩)
  have leE : k12.Le k17 := ((le13.trans le15).trans le16).trans le17
  have leM : k10.Le k17 := (le11.trans le12).trans leE
  exact law_end P (K.le leE) M14.set.set (hca15.le (le16.trans le17)) hG9 gm9 (le79 _ _ kE) (hes.mono fun _ _ _ x => x.le le79) (le10.trans leM) (fun p hp => leM _ _ (hinM p hp)) hnoM hndM
theorem law_all {l : Addr} {ol : Obj} {vs : List Value} {ns : List Int} (hm : m "script" = some (.ref l)) (hk : k l = some ol) (hl : WList ol vs) (hi : IsInts ns vs) (hlen : ns.length ≤ 63) (hca : CA k a) :
    MtF (lw w (n + 12) k0 L base) k m [] a (execs (bodyOf (stAt 26)) (lw w (n + 12) k0 L base).env) := by
  rw [law_body]
  refine MtF_consM rfl (law0 hm hk hl hi hlen fun k1 lN oN vN le1 kN hlN hiN => ⟨rfl, ?_⟩)
  have hNS : (ns.take 6 ++ [0, 0, 0, 0, 0, 0]).length ≥ 6 := by simp
  generalize ns.take 6 ++ [0, 0, 0, 0, 0, 0] = NS at *
  have at_ : ∀ i < 6, ∃ x, NS[i]? = some x := fun i hi => ⟨NS[i], by simp⟩
  obtain ⟨a0, h0⟩ := at_ 0 (by omega)
  obtain ⟨a1, h1⟩ := at_ 1 (by omega)
  obtain ⟨a2, h2⟩ := at_ 2 (by omega)
  obtain ⟨a3, h3⟩ := at_ 3 (by omega)
  obtain ⟨a4, h4⟩ := at_ 4 (by omega)
  obtain ⟨a5, h5⟩ := at_ 5 (by omega)
  have mN1 : (m.set "numbers" (.ref lN)) "numbers" = some (.ref lN) := Lm.set_self _ _ _
  generalize m.set "numbers" (.ref lN) = m1 at *
  refine MtF_consM rfl (law1 mN1 kN hlN hiN h0 fun tN => ⟨rfl, ?_⟩)
  have q0 := Int.fmod_nonneg_of_pos a0 (show (0 : Int) < 6 by decide)
  have q1 := Int.fmod_lt_of_pos a0 (show (0 : Int) < 6 by decide)
  obtain ⟨N, hNe⟩ : ∃ N : Nat, a0.fmod 6 + 1 = (N : Int) := ⟨(a0.fmod 6 + 1).toNat, by omega⟩
  have hN : 0 < N ∧ N ≤ 6 := by omega
  rw [hNe]
  have mM2 : (m1.set "many" (.int N tN)) "many" = some (.int N tN) := Lm.set_self _ _ _
  have mN2 : (m1.set "many" (.int N tN)) "numbers" = some (.ref lN) := Lm.up mN1
  generalize m1.set "many" (.int N tN) = m2 at *
  refine MtF_consM rfl (law2 mN2 mM2 hN kN hlN hiN h1 fun k3 lO oO vO le3 kO hlO hiO => ⟨rfl, ?_⟩)
  have p0 := Int.fmod_nonneg_of_pos a1 (show (0 : Int) < N by omega)
  have p1 := Int.fmod_lt_of_pos a1 (show (0 : Int) < N by omega)
  have hr : (a1.fmod N).toNat < 7 := by omega
  generalize (a1.fmod N).toNat = r at *
  have O := ord_ok (n := N) (r := r) (by omega) hr
  have mO3 : (m2.set "order" (.ref lO)) "order" = some (.ref lO) := Lm.set_self _ _ _
  have mM3 : (m2.set "order" (.ref lO)) "many" = some (.int N tN) := Lm.up mM2
  have mN3 : (m2.set "order" (.ref lO)) "numbers" = some (.ref lN) := Lm.up mN2
  generalize m2.set "order" (.ref lO) = m3 at *
  refine MtF_consM rfl (law3 mO3 mM3 hN kO hlO hiO O.len fun k4 lP oP vP le4 kP hlP hiP => ⟨rfl, ?_⟩)
  refine MtF_consM rfl (law4 (Lm.set_self _ _ _) (Lm.up mN3) kP hlP hiP O.pl (le4 _ _ (le3 _ _ kN)) hlN hiN h2 fun k5 lE oE vE le5 kE hE hes => ⟨rfl, ?_⟩)
  have hN5 := le5 _ _ (le4 _ _ (le3 _ _ kN))
  have hO5 := le5 _ _ (le4 _ _ kO)
  have mE5 : ((m3.set "pairs" (.ref lP)).set "edges" (.ref lE)) "edges" = some (.ref lE) := Lm.set_self _ _ _
  have mO5 : ((m3.set "pairs" (.ref lP)).set "edges" (.ref lE)) "order" = some (.ref lO) := Lm.up (Lm.up mO3)
  have mM5 : ((m3.set "pairs" (.ref lP)).set "edges" (.ref lE)) "many" = some (.int N tN) := Lm.up (Lm.up mM3)
  have mN5 : ((m3.set "pairs" (.ref lP)).set "edges" (.ref lE)) "numbers" = some (.ref lN) := Lm.up (Lm.up mN3)
  generalize (m3.set "pairs" (.ref lP)).set "edges" (.ref lE) = m5 at *
  have leA : k.Le k5 := ((le1.trans le3).trans le4).trans le5
  refine MtF_consM rfl (law5 mN5 hN5 hlN hiN h3 ⟨rfl, ?_⟩)
  refine MtF_consM rfl (law6 (Lm.set_self _ _ _) (Lm.up mO5) (Lm.up mM5) hN (Lm.up mN5) hO5 hlO hiO O.len hN5 hlN hiN h2 (fun htr => ⟨rfl, ?_⟩) (fun htr k6 lE6 oE6 vE6 le6 kE6 hE6 hes6 => ⟨rfl, ?_⟩))
  · have sub := mask_sublist a2 (prsOf (ordN N r))
    refine law_rest (Lm.up mM5) hN (Lm.up mN5) hN5 hlN hiN h3 h4 h5 (Lm.up mO5) hO5 hlO hiO O hr (Lm.up mE5) kE hE hes (O.pn.sublist sub) (fun p hp => sub.subset hp) (by have := maskTo_len a2 (prsOf (ordN N r)) (prsOf (ordN N r)).length; have := O.pl; omega) (Lm.set_self _ _ _) (fun q => by rw [htr] at q; cases q) (hca.le leA)
  · refine law_rest (Lm.up (Lm.up mM5)) hN (Lm.up (Lm.up mN5)) (le6 _ _ hN5) hlN hiN h3 h4 h5 (Lm.up (Lm.up mO5)) (le6 _ _ hO5) hlO hiO O hr (Lm.set_self _ _ _) kE6 hE6 hes6 (tree_nd O.nd) (fun p hp => tree_mem hp) (by rw [tree_len]; have := O.len; omega) (Lm.up (Lm.set_self _ _ _)) (fun _ => tree_one O.nd) (hca.le (leA.trans le6))
end
end Mine

-- NR
namespace Mine
theorem law_codeAny {w : World} {n : Nat} {s : Shared} {A : Around} {R : Result → Shared → Prop} {l : Addr} {ol : Obj} {vs : List Value} {ns : List Int} (hA : OkA (n + 13) A) (hfr : A.frames = some []) (hP : Prog w (hideAll s.heap [TB])) (hT : TabOk s.heap)
    (hk0 : s.heap.get? l = some ol) (hl : WList ol vs) (hi : IsInts ns vs) (hlen : ns.length ≤ 63) (hct : CodeTab (fun _ => none) (s.heap.get? TB)) (hb : AllBare s.gens)
    (hR : ∀ s', (∀ b o, b ≠ TB → s.heap.get? b = some o → s'.heap.get? b = some o) → TabOk s'.heap → AllBare s'.gens → s'.os = s.os → R (.ok (.ret (.bool true))) s') : codeAny (model P w) A (.call (.ref LAW) ⟨[.ref l], []⟩) R s := by
  have f := fn_law w
  have hlT : l ≠ TB := fun e => by
    obtain ⟨ps, q⟩ := hT
    rw [← e, hk0] at q
    cases q
    have := hl.1
    simp [tabObj] at this
  let k : Kn := fun b => if b = l then some ol else none
  have hkl : k l = some ol := by simp [k]
  have hk : k.In s.heap := fun b o e => by
    by_cases q : b = l
    · subst q; rw [hkl] at e; cases e; exact hk0
    · simp [k, q] at e
  have hkT : k TB = none := by simp [k, Ne.symm hlT]
  have leE : Kn.Le (fun _ => none) k := fun b o e => by cases e
  have subP : (hideAll s.heap [TB]).StaysIn s.heap := fun b o e => of_hideAll _ e
  have hP' : Prog w s.heap := hP.grow fun b o _ e => subP b o e
  have ho := hP'.K LAW _ f.look
  refine codeAny_call_function hA.room ho f.data (by rw [f.scope]; exact f.co) (by rw [f.scope]; exact f.gen) f.body (by rw [f.code, f.qualn]; exact codeRec_of hP'.K f.codein) ?_
  rw [bind_law]
  refine wpAny_pure ?_
  rw [f.scope, f.qualn, f.code, f.clo, f.glob, f.bi]
  refine wpAny_newFunctionEnv_cells f.kind (kindsX (by kernel_rfl) _) fun env' he s₂ x => ?_
  subst he
  have S := stt_enterM (w := w) (n := n + 12) (G := EqG) (cdv := cdOf w LAW) (a := LAW) (qual := "law") (mu := []) (sc := scopeOf (stAt 26)) eqG_ok hP hT hk hkT (fun p hp => (nomatch hp)) (fun p hp => (nomatch hp)) List.nodup_nil (fun p hp => (nomatch hp)) f.kind f.cells x
  obtain ⟨h₂, tk₂, rfl, keep⟩ := x.done
  have haux : aux { s with heap := h₂, toks := tk₂ } = aux s := by
    obtain ⟨ps, e0⟩ := hT
    exact Prod.ext rfl ((keep _ _ e0).trans e0.symm)
  refine ⟨hP'.nolimit.keeps keep, codeAny_func ?_⟩
  have body := law_all (w := w) (n := n) (k0 := k) (k := k) (L := s.heap.objs.size) (base := hideAll s.heap [TB]) (m := bm [(("script" : Str), .ref l)]) (a := aux s) rfl hkl hl hi hlen ⟨hct.le leE, hb⟩
  refine wpAny_mono (body { s with heap := h₂, toks := tk₂ } (A.deeper _) _ (hA.deeper _) (Around.frames_deeper hfr) S haux) (fun fl s₃ ⟨e, h1, h2, h3, h4⟩ => ?_) fun _ _ e => e
  subst e
  exact hR s₃ (fun b o hbT q => h1 b o (hideAll_get _ q (by simpa using hbT))) h2 h3 h4
end Mine

-- NS
namespace Mine
abbrev tabsL : List (Addr × Addr) := [(94, 92)]
theorem law_name (w : World) : nsIn (KF w) mainGlobals "law" = some (some (.ref 817)) := by kernel_rfl
theorem tabs_at {w : World} {h : Heap} (X : (KF w).In h) (hT : h.get? 92 = some (tabObj #[])) : TabsAt tabsL h :=
  List.forall_mem_cons.mpr ⟨⟨codeHd_of_K (c := 94) (P := 92) X (by kernel_rfl), hT⟩, fun _ h => nomatch h⟩
theorem law_ends {w : World} {s₁ : Shared} {p : Program} {loose : List Str} {mean mean' : ExcName → Option Value} {mg mb : Lm} {l : Addr} {vs : List Value} {ns : List Int} {cl : Str → Option Addr} {args : List WData} (X : (KF w).In s₁.heap) (T : Top p loose mean mg mb s₁.heap) (hT8 : s₁.heap.get? 92 = some (tabObj #[])) (hg : s₁.gens = #[])
    (hL : s₁.heap.IsList l vs.toArray) (hI : IntsAre vs ns) (hlen : ns.length ≤ 63) {c : ClaimW} (hraise : ∀ x, c.raises args x = false) (hpost : c.post args (.bool true) args = true) :
    codeAny (model P w) callerA (.call (.ref 817) ⟨[.ref l], []⟩) (GoodWG c cl mean' args s₁) s₁ := by
  have hT9 := tabs_at X hT8
  have X' : (KF w).In (ghostOf s₁.heap tabsL) := ghost_K hT9 X (by kernel_rfl)
  have T' := ghost_top hT9 T
  have hP : Prog w (hideAll s₁.heap [TB]) := ⟨ghostOf s₁.heap tabsL, _, _, _, _, _, X', T', hideAll_none _ (.head _), fun b o e => e⟩
  obtain ⟨ol, ho, hc, nn, hd⟩ := hL
  refine law_codeAny (n := 0) (ol := ol) (vs := vs) (ns := ns) ⟨rfl, by decide +kernel, by decide +kernel⟩ rfl hP ⟨#[], hT8⟩ ho ⟨hc, nn, hd⟩ (IsInts.of hI) hlen ⟨#[], hT8, trivial, fun cv hcv => by cases hcv⟩ (.of_eq hg) fun s' h1 h2 h3 h4 => ?_
  refine ⟨.inl ⟨.bool true, .bool true, [], rfl, hraise, .bool true, hpost, fun _ => ⟨List.nodup_nil, fun a ha => nomatch ha⟩⟩, ⟨fun b o e => ?_, fun b o e => ?_⟩, h4, h3⟩
  · by_cases hb : b = TB
    · subst hb
      have e2 := hT8
      rw [e] at e2
      cases e2
      obtain ⟨ps, hP2⟩ := h2
      exact .inr (.inl ⟨((hT9 (94, 92) (.head _)).1.tab hT8).isCodeTable, rfl, #[], ps, rfl, by rw [Array.empty_append]; exact hP2⟩)
    · exact .inl (h1 b o hb e)
  · by_cases hb : b = TB
    · subst hb
      obtain ⟨ps, hP2⟩ := h2
      exact ⟨_, hP2⟩
    · exact ⟨o, h1 b o hb e⟩
end Mine
set_option maxHeartbeats 8000000 in
theorem PySem.Challenge.cw_br0011_01_holds : PySem.Challenge.rw_br0011_01.Holds := by
  refine Mine.hd ?_
  k_fill
  intro w s₀ s₁ mg mb G Y fa o pm cd doc dV kV ho hd hcd hD hmg hg args vals as hpre hlay hrd hwl hlo
  have KX := km_in_of Y
  have hT8 := km_tabs_of Y
  have X := (Ground.X G).1
  have V := (Ground.X G).2
  refine Ground.open G ?_
  intro T B D TE TW
  try (refine guard_noD D (by decide +kernel) ?_; clear D)
  have efa : fa = 817 := by
    have e1 := mg_of KX (Top.g T) (Mine.law_name w)
    rw [show mg (PySem.Str.ofString "law") = some (Value.ref fa) from hmg] at e1
    cases e1; rfl
  subst efa
  clear hd ho hD hcd hmg V X B TE TW Y
  wrow_args hpre hlay hrd hwl hlo
  all_goals first | refine callC_kw (enter_call ?_) | refine enter_call ?_
  all_goals w_top on
  rename s₁.heap.IsList _ _ => hL
  rename IntsAre _ _ => hI
  rename ¬ _ => hc
  exact Mine.law_ends KX T (hT8 92 (.head _)) hg hL hI (by omega) (fun _ => rfl) (postW_of (by wrow_shape) (w_eq_bool (w_res rfl) w_lit) (by decide))
