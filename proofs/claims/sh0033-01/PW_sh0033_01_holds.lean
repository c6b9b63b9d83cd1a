import PyProof.Rows.All
import Wide.All
import OpenK.AllK
import Wide.FinOn
import PySem.Builtin.Sre.Common
import Lean
import PySem.Challenge.RW_sh0033_01
set_option Elab.async false
set_option maxRecDepth 100000
set_option linter.unusedVariables false
set_option linter.unusedSimpArgs false
namespace Mine
open PySem PySem.W PySem.Calls PyProof.Rows

/-- what is known of one object -/
abbrev Cell := Obj → Prop
def At (h : Heap) (a : Addr) (c : Cell) : Prop := ∃ o, h.get? a = some o ∧ c o
def ob (o : Obj) : Cell := fun o' => o' = o
def ns (m : Str → Option Value) : Cell := fun o => ∃ es ep, o.data = .dict es ep ∧ StrKeys es ∧ ∀ name, nsFind es name = m name
def cl (v : Option Value) : Cell := fun o => o.data = .cell v
def li (vs : List Value) : Cell := fun o => ∃ n, o = { cls := .type "list", dict := none, data := .seq vs.toArray n, slots := #[] }
def lit (l : Addr) (i : Nat) : Cell := fun o => o.cls = .type "list_iterator" ∧ o.data = .fields #[.ref l, .int i 0]
def rc (q : Str) : Cell := fun o => ∃ vs t, o.data = .fields vs ∧ vs[1]? = some (.str q t)

structure Ent where
  a : Addr
  c : Cell
  w : Bool
/-- an own object, that may turn -/
abbrev ow (a : Addr) (c : Cell) : Ent := ⟨a, c, true⟩
/-- one that nobody turns -/
abbrev fx (a : Addr) (c : Cell) : Ent := ⟨a, c, false⟩
abbrev Led := List Ent

structure Tab where
  c : Addr
  P : Addr
  pos : Pos
  q : Str
structure Amb where
  prog : Program
  w : World
  h₀ : Heap
  os : OsState
  tabs : List Tab

/-- what a code table may hold: nothing, or the one inner def -/
inductive TabOk (h : Heap) (R : Led) (t : Tab) : Prop where
  | emp : h.IsCode t.c t.P #[] → h.TableAt t.c t.P #[] → TabOk h R t
  | one (c' : Addr) : h.IsCode t.c t.P (#[] ++ #[rawInt t.pos.line, rawInt t.pos.col, .ref c']) → h.TableAt t.c t.P (#[] ++ #[rawInt t.pos.line, rawInt t.pos.col, .ref c']) →
      At h c' (rc t.q) → (∀ p ∈ R, p.a = c' → p.w = false) → TabOk h R t

structure InvH (X : Amb) (R : Led) (h : Heap) (g : Array GenState) (os : OsState) : Prop where
  old : OldK X.h₀ h
  kept : ∀ a o, X.h₀.get? a = some o → (∀ t ∈ X.tabs, a ≠ t.P) → h.get? a = some o
  size : X.h₀.objs.size ≤ h.objs.size
  own : ∀ p ∈ R, At h p.a p.c
  above : ∀ p ∈ R, p.w = true → X.h₀.objs.size ≤ p.a
  apart : R.Pairwise fun p q => p.w = true ∨ q.w = true → p.a ≠ q.a
  off : ∀ p ∈ R, p.w = false → ∀ t ∈ X.tabs, p.a ≠ t.P
  tab : ∀ t ∈ X.tabs, TabOk h R t
  ctab : ∀ t ∈ X.tabs, t.P < X.h₀.objs.size ∧ t.c < X.h₀.objs.size ∧ t.P ≠ cStatics ∧ ∃ ps, X.h₀.TableAt t.c t.P ps
  dtab : X.tabs.Pairwise fun t u => t.P ≠ u.P ∧ t.c ≠ u.P ∧ u.c ≠ t.P
  gens : g = #[]
  os : os = X.os
abbrev Inv (X : Amb) (R : Led) (s : Shared) : Prop := InvH X R s.heap s.gens s.os

structure Tr {α : Type} (X : Amb) (A : Around) (R : Led) (t : Sem α) (Ψ : α → Led → Prop) : Prop where
  run : ∀ s, Inv X R s → wpAny (model X.prog X.w) A t (fun v s' => ∃ R', Inv X R' s' ∧ Ψ v R') (fun _ _ => False) s
/-- what a code gives back -/
structure TrC (X : Amb) (A : Around) (R : Led) (c : Code) (Ψ : Flow → Led → Prop) : Prop where
  run : ∀ s, Inv X R s → codeAny (model X.prog X.w) A c (fun r s' => match r with | .ok f => ∃ R', Inv X R' s' ∧ Ψ f R' | .error _ => False) s

theorem At.keeps {h h' : Heap} {a : Addr} {c : Cell} (x : At h a c) (k : ∀ b o, h.get? b = some o → h'.get? b = some o) : At h' a c := let ⟨o, e, z⟩ := x; ⟨o, k _ _ e, z⟩
theorem At.lt {h : Heap} {a : Addr} {c : Cell} (x : At h a c) : a < h.objs.size := let ⟨_, e, _⟩ := x; Heap.lt_size e
theorem At.but {h h' : Heap} {a b : Addr} {c : Cell} (x : At h a c) (k : ∀ b' o, b' ≠ b → h.get? b' = some o → h'.get? b' = some o) (hne : a ≠ b) : At h' a c := let ⟨o, e, z⟩ := x; ⟨o, k _ _ hne e, z⟩
theorem At.ns {h : Heap} {a : Addr} {m : Str → Option Value} (x : At h a (ns m)) : h.Ns a m := let ⟨o, e, es, ep, z⟩ := x; ⟨o, es, ep, e, z⟩
theorem At.ofNs {h : Heap} {a : Addr} {m : Str → Option Value} (x : h.Ns a m) : At h a (Mine.ns m) := let ⟨o, es, ep, e, z⟩ := x; ⟨o, e, es, ep, z⟩
theorem At.rc {h : Heap} {a : Addr} {q : Str} (x : At h a (rc q)) : h.CodeRec (.ref a) q := let ⟨o, e, vs, t, z⟩ := x; ⟨a, o, vs, t, rfl, e, z⟩
theorem At.ofRc {h : Heap} {a : Addr} {q : Str} (x : h.CodeRec (.ref a) q) : At h a (Mine.rc q) := by
  obtain ⟨c, o, vs, t, e, g, z⟩ := x
  cases e; exact ⟨o, g, vs, t, z⟩
theorem At.isList {h : Heap} {a : Addr} {vs : List Value} (x : At h a (li vs)) : h.IsList a vs.toArray := let ⟨o, e, n, z⟩ := x; ⟨o, e, by rw [z], n, by rw [z]⟩
theorem At.ob {h : Heap} {a : Addr} {o : Obj} (x : At h a (ob o)) : h.get? a = some o := let ⟨_, e, z⟩ := x; z ▸ e

section
variable {X : Amb} {R R' : Led} {h h' : Heap} {g : Array GenState} {os : OsState}

theorem TabOk.keeps {t : Tab} (x : TabOk h R t) (k : ∀ b o, h.get? b = some o → h'.get? b = some o) (hR : ∀ p ∈ R', p.w = true → p ∈ R ∨ h.objs.size ≤ p.a) : TabOk h' R' t := by
  cases x with
  | emp a b => exact .emp (a.keeps k) (b.keeps k)
  | one c' a b c d =>
    refine .one c' (a.keeps k) (b.keeps k) (c.keeps k) fun p hp e => ?_
    cases hu : p.w with
    | false => rfl
    | true =>
      rcases hR p hp hu with q | q
      · rw [d p q e] at hu; cases hu
      · subst e
        exact absurd c.lt (Nat.not_lt.mpr q)
/-- an update at a ledger address -/
theorem TabOk.but {t : Tab} {b : Addr} (x : TabOk h R t) (k : ∀ b' o, b' ≠ b → h.get? b' = some o → h'.get? b' = some o) (hb : ∃ p ∈ R, p.a = b ∧ p.w = true) (hc : t.c ≠ b) (hP : t.P ≠ b)
    (hR : ∀ p ∈ R', p.w = true → ∃ q ∈ R, q.a = p.a ∧ q.w = true) : TabOk h' R' t := by
  have tk : ∀ {ps}, h.TableAt t.c t.P ps → h'.TableAt t.c t.P ps := fun x => let ⟨⟨o, vs, a, r⟩, t⟩ := x; ⟨⟨o, vs, k _ _ hc a, r⟩, k _ _ hP t⟩
  have ck : ∀ {ps}, h.IsCode t.c t.P ps → h'.IsCode t.c t.P ps := fun x => x.extBut (a := b) k hc hP
  cases x with
  | emp a b => exact .emp (ck a) (tk b)
  | one c' a b' c d =>
    refine .one c' (ck a) (tk b') (c.but k fun e => ?_) fun p hp e => ?_
    · obtain ⟨p, m, e', hu⟩ := hb
      rw [d p m (e'.trans e.symm)] at hu; cases hu
    · cases hu : p.w with
      | false => rfl
      | true =>
        obtain ⟨q, m, e', hu'⟩ := hR p hp hu
        rw [d q m (e'.trans e)] at hu'; cases hu'

theorem InvH.weak (I : InvH X R h g os) (hs : R'.Sublist R) : InvH X R' h g os where
  old := I.old
  kept := I.kept
  size := I.size
  own := fun p hp => I.own p (hs.subset hp)
  above := fun p hp => I.above p (hs.subset hp)
  apart := I.apart.sublist hs
  off := fun p hp => I.off p (hs.subset hp)
  tab := fun t ht => (I.tab t ht).keeps (fun _ _ e => e) fun p hp _ => .inl (hs.subset hp)
  ctab := I.ctab
  dtab := I.dtab
  gens := I.gens
  os := I.os
/-- the heap grows, nothing that stood turns; new entries at fresh places -/
theorem InvH.grow (I : InvH X R h g os) (k : ∀ b o, h.get? b = some o → h'.get? b = some o) (hs : h.objs.size ≤ h'.objs.size) {N : Led} (hN : ∀ p ∈ N, At h' p.a p.c ∧ h.objs.size ≤ p.a) (hd : N.Pairwise fun p q => p.a ≠ q.a) : InvH X (N ++ R) h' g os where
  old := I.old.step_keeps k
  kept := fun a o e ht => k _ _ (I.kept a o e ht)
  size := Nat.le_trans I.size hs
  own := fun p hp => by
    rcases List.mem_append.mp hp with q | q
    · exact (hN p q).1
    · exact (I.own p q).keeps k
  above := fun p hp hu => by
    rcases List.mem_append.mp hp with q | q
    · exact Nat.le_trans I.size (hN p q).2
    · exact I.above p q hu
  apart := List.pairwise_append.mpr ⟨List.Pairwise.imp (S := fun p q : Ent => p.w = true ∨ q.w = true → p.a ≠ q.a) (fun h _ => h) hd, I.apart, fun p hp q hq _ => Nat.ne_of_gt (Nat.lt_of_lt_of_le (I.own q hq).lt (hN p hp).2)⟩
  off := fun p hp hu t ht => by
    rcases List.mem_append.mp hp with q | q
    · exact Nat.ne_of_gt (Nat.lt_of_lt_of_le (I.ctab t ht).1 (Nat.le_trans I.size (hN p q).2))
    · exact I.off p q hu t ht
  tab := fun t ht => (I.tab t ht).keeps k fun p hp _ => by
    rcases List.mem_append.mp hp with q | q
    · exact .inr (hN p q).2
    · exact .inl q
  ctab := I.ctab
  dtab := I.dtab
  gens := I.gens
  os := I.os
theorem InvH.grow0 (I : InvH X R h g os) (k : ∀ b o, h.get? b = some o → h'.get? b = some o) (hs : h.objs.size ≤ h'.objs.size) : InvH X R h' g os := I.grow (N := []) k hs (fun _ hp => nomatch hp) .nil
theorem InvH.grow1 (I : InvH X R h g os) (k : ∀ b o, h.get? b = some o → h'.get? b = some o) (hs : h.objs.size ≤ h'.objs.size) {a : Addr} {c : Cell} (ha : At h' a c) (hl : h.objs.size ≤ a) : InvH X (ow a c :: R) h' g os :=
  I.grow (N := [ow a c]) k hs (fun p hp => by rw [List.mem_singleton] at hp; subst hp; exact ⟨ha, hl⟩) (List.pairwise_singleton _ _)
theorem InvH.push (I : InvH X R h g os) (o : Obj) (hf : o.isFreed = false) {c : Cell} (hc : c o) : InvH X (ow h.objs.size c :: R) (h.push o) g os :=
  I.grow1 (fun _ _ e => Heap.get?_push_of_some _ e) (by rw [Heap.size_push]; exact Nat.le_succ _) ⟨o, Heap.get?_push_size _ hf, hc⟩ (Nat.le_refl _)

/-- a place's entry turned -/
inductive Upd (a : Addr) (c c' : Cell) : Led → Led → Prop
  | head {r} : Upd a c c' (ow a c :: r) (ow a c' :: r)
  | tail {p r r'} : Upd a c c' r r' → Upd a c c' (p :: r) (p :: r')
inductive Has (a : Addr) (c : Cell) : Led → Prop
  | head {r} {w} : Has a c (⟨a, c, w⟩ :: r)
  | tail {p r} : Has a c r → Has a c (p :: r)
theorem Has.mem {a : Addr} {c : Cell} : ∀ {R : Led}, Has a c R → ∃ w, ⟨a, c, w⟩ ∈ R
  | _, .head => ⟨_, .head _⟩
  | _, .tail h => let ⟨w, m⟩ := h.mem; ⟨w, .tail _ m⟩
theorem Upd.has {a : Addr} {c c' : Cell} : ∀ {R R' : Led}, Upd a c c' R R' → Has a c R
  | _, _, .head => .head
  | _, _, .tail h => .tail h.has
theorem Upd.split {a : Addr} {c c' : Cell} : ∀ {R R' : Led}, Upd a c c' R R' → ∃ pre post, R = pre ++ ow a c :: post ∧ R' = pre ++ ow a c' :: post
  | _, _, .head => ⟨[], _, rfl, rfl⟩
  | _, _, .tail (p := p) u => let ⟨pre, post, e, e'⟩ := u.split; ⟨p :: pre, post, by rw [e]; rfl, by rw [e']; rfl⟩
theorem InvH.at (I : InvH X R h g os) {a : Addr} {c : Cell} (x : Has a c R) : At h a c := let ⟨_, m⟩ := x.mem; I.own _ m

theorem InvH.offP (I : InvH X R h g os) {p : Ent} (hp : p ∈ R) {t : Tab} (ht : t ∈ X.tabs) : p.a ≠ t.P := by
  cases hu : p.w with
  | false => exact I.off p hp hu t ht
  | true => exact Nat.ne_of_gt (Nat.lt_of_lt_of_le (I.ctab t ht).1 (I.above p hp hu))
theorem InvH.update (I : InvH X R h g os) {a : Addr} {c c' : Cell} (u : Upd a c c' R R') (hs : Heap.SameBut a h h') (ha : At h' a c') : InvH X R' h' g os := by
  obtain ⟨pre, post, rfl, rfl⟩ := u.split
  have hk : ∀ b' o, b' ≠ a → h.get? b' = some o → h'.get? b' = some o := fun b' o hb e => (hs.2 b' hb).trans e
  have hmem : ow a c ∈ pre ++ ow a c :: post := by simp
  have hab := I.above _ hmem rfl
  have ap := I.apart
  rw [List.pairwise_append] at ap
  have ap2 := List.pairwise_cons.mp ap.2.1
  exact {
    old := I.old.step_same hab hs
    kept := fun b o e ht => hk b o (Nat.ne_of_lt (Nat.lt_of_lt_of_le (Heap.lt_size e) hab)) (I.kept b o e ht)
    size := by rw [hs.1]; exact I.size
    own := fun p hp => by
      rcases List.mem_append.mp hp with q | q
      · exact (I.own p (List.mem_append_left _ q)).but hk (ap.2.2 p q _ (.head _) (.inr rfl))
      · rcases List.mem_cons.mp q with rfl | q
        · exact ha
        · exact (I.own p (List.mem_append_right _ (.tail _ q))).but hk (Ne.symm (ap2.1 p q (.inl rfl)))
    above := fun p hp hu => by
      rcases List.mem_append.mp hp with q | q
      · exact I.above p (List.mem_append_left _ q) hu
      · rcases List.mem_cons.mp q with rfl | q
        · exact hab
        · exact I.above p (List.mem_append_right _ (.tail _ q)) hu
    apart := List.pairwise_append.mpr ⟨ap.1, List.pairwise_cons.mpr ⟨fun p hp => ap2.1 p hp, ap2.2⟩, fun p hp q hq => by
      rcases List.mem_cons.mp hq with rfl | hq
      · exact ap.2.2 p hp (ow a c) (.head _)
      · exact ap.2.2 p hp q (.tail _ hq)⟩
    off := fun p hp hu t ht => by
      rcases List.mem_append.mp hp with q | q
      · exact I.off p (List.mem_append_left _ q) hu t ht
      · rcases List.mem_cons.mp q with rfl | q
        · cases hu
        · exact I.off p (List.mem_append_right _ (.tail _ q)) hu t ht
    tab := fun t ht => by
      have z := I.ctab t ht
      refine (I.tab t ht).but (b := a) hk ⟨ow a c, hmem, rfl, rfl⟩ (Nat.ne_of_lt (Nat.lt_of_lt_of_le z.2.1 hab)) (Nat.ne_of_lt (Nat.lt_of_lt_of_le z.1 hab)) fun p hp hu => ?_
      rcases List.mem_append.mp hp with q | q
      · exact ⟨p, List.mem_append_left _ q, rfl, hu⟩
      · rcases List.mem_cons.mp q with rfl | q
        · exact ⟨ow a c, hmem, rfl, rfl⟩
        · exact ⟨p, List.mem_append_right _ (.tail _ q), rfl, hu⟩
    ctab := I.ctab
    dtab := I.dtab
    gens := I.gens
    os := I.os }
end

section
variable {α β : Type} {X : Amb} {A : Around} {R R' : Led} {Ψ : α → Led → Prop}

theorem Tr.mono {t : Sem α} {Ψ' : α → Led → Prop} (x : Tr X A R t Ψ) (k : ∀ v R', Ψ v R' → Ψ' v R') : Tr X A R t Ψ' := ⟨fun s I =>
  wpAny_mono (x.run s I) (fun v s' ⟨R', I', h⟩ => ⟨R', I', k v R' h⟩) fun _ _ h => h⟩
theorem Tr.weak {t : Sem α} (hs : R'.Sublist R) (x : Tr X A R' t Ψ) : Tr X A R t Ψ := ⟨fun s I => x.run s (I.weak hs)⟩
theorem Tr.pure {v : α} (k : Ψ v R) : Tr X A R (pure v) Ψ := ⟨fun s I => wpAny_pure ⟨R, I, k⟩⟩
theorem Tr.bind {m : Sem α} {f : α → Sem β} {Φ : β → Led → Prop} (x : Tr X A R m fun v R' => Tr X A R' (f v) Φ) : Tr X A R (m >>= f) Φ := ⟨fun s I =>
  wpAny_bind (wpAny_mono (x.run s I) (fun _ s' ⟨_, I', k⟩ => k.run s' I') fun _ _ h => h.elim)⟩
theorem Tr.of_in1 {t : Sem α} (x : Tr X A.in1 R t Ψ) : Tr X A R t Ψ := ⟨fun s I => wpAny_of_in1 (x.run s I)⟩
theorem Tr.ite {c : Prop} [Decidable c] {a b : Sem α} (x : c → Tr X A R a Ψ) (y : ¬ c → Tr X A R b Ψ) : Tr X A R (if c then a else b) Ψ := by
  split
  · exact x (by assumption)
  · exact y (by assumption)
/-- into a library's rule, that gives the answer back in the library's own terms -/
theorem Tr.use {t : Sem α} {Q : α → Shared → Prop} {E : Value → Shared → Prop} {s : Shared} (x : Tr X A R t Ψ) (I : Inv X R s) (k : ∀ v s' R', Inv X R' s' → Ψ v R' → Q v s') : wpAny (model X.prog X.w) A t Q E s :=
  wpAny_mono (x.run s I) (fun v s' ⟨R', I', h⟩ => k v s' R' I' h) fun _ _ h => h.elim
theorem TrC.use {c : Code} {Φ : Flow → Led → Prop} {Q : Result → Shared → Prop} {s : Shared} (x : TrC X A R c Φ) (I : Inv X R s) (k : ∀ f s' R', Inv X R' s' → Φ f R' → Q (.ok f) s') : codeAny (model X.prog X.w) A c Q s :=
  codeAny_mono (x.run s I) fun r s' h => by
    cases r with
    | ok f => obtain ⟨R', I', h⟩ := h; exact k f s' R' I' h
    | error e => exact h.elim
theorem TrC.mono {c : Code} {Φ Φ' : Flow → Led → Prop} (x : TrC X A R c Φ) (k : ∀ v R', Φ v R' → Φ' v R') : TrC X A R c Φ' := ⟨fun _ I => x.use I fun f _ R' I' h => ⟨R', I', k f R' h⟩⟩
theorem TrC.weak {c : Code} {Φ : Flow → Led → Prop} (hs : R'.Sublist R) (x : TrC X A R' c Φ) : TrC X A R c Φ := ⟨fun s I => x.run s (I.weak hs)⟩
theorem Tr.holding {vs : List Value} {m : Sem α} (x : Tr X A R m Ψ) : Tr X A R (holding vs m) Ψ := ⟨fun s I => wpAny_holding (x.run s I)⟩
theorem t_call {f : Value} {pos : List Value} {kw : List (Str × Value)} {Φ : Value → Led → Prop} (x : TrC X A R (.call f ⟨pos, kw⟩) fun fl R' => ∃ v, fl = .ret v ∧ Φ v R') : Tr X A R (call f pos kw) Φ := ⟨fun s I =>
  wpAny_call (x.use I fun f s' R' I' ⟨v, e, k⟩ => by subst e; exact ⟨R', I', k⟩)⟩
end
end Mine
namespace Mine
open PySem PySem.W PySem.Calls PyProof.Rows

theorem runs_size {M : Model} {Γ : Ctx} {p : Pos} {t : Sem Fin} {fs : List Frame} {s s' : Shared} {e : End} (h : Runs M Γ p t fs s e s') : s.heap.objs.size ≤ s'.heap.objs.size := by
  induction h <;> (try simp only [Shared.setGen, Heap.size_push, Heap.size_after_update] at *) <;> omega

theorem wakes_size {M : Model} {Γ : Ctx} {p : Pos} {g : Nat} {r : Resume} {s s' : Shared} {res : GenResult} (h : Wakes M Γ p g r s res s') : s.heap.objs.size ≤ s'.heap.objs.size := by
  unfold Wakes at h
  split at h
  · exact h.elim
  · split at h
    · obtain ⟨e₁, s₁, hr, _, _, rfl⟩ := h; exact (runs_size hr : (s.setGen g .running).heap.objs.size ≤ s₁.heap.objs.size)
    · rw [h.2]; exact Nat.le_refl _
    · rw [h.2]; exact Nat.le_refl _
  · obtain ⟨e₁, s₁, hr, _, _, rfl⟩ := h; exact (runs_size hr : (s.setGen g .running).heap.objs.size ≤ s₁.heap.objs.size)
  · rw [h.2]; exact Nat.le_refl _
  · rw [h.2]; exact Nat.le_refl _

theorem wp_size {α : Type} (M : Model) (Γ : Ctx) (n : Nat) (t : Sem α) : ∀ (Q : α → Pos → Shared → Prop) (E : Value → Pos → Shared → Prop) (p : Pos) (s : Shared), n ≤ s.heap.objs.size → Sem.wp M Γ t Q E p s →
    Sem.wp M Γ t (fun a p' s' => n ≤ s'.heap.objs.size ∧ Q a p' s') (fun e p' s' => n ≤ s'.heap.objs.size ∧ E e p' s') p s := by
  induction t with
  | pure a => intro Q E p s hn h; exact ⟨hn, h⟩
  | raise e => intro Q E p s hn h; exact ⟨hn, h⟩
  | call c hd _ _ k ih => intro Q E p s hn h; obtain ⟨r, s', hr, h⟩ := h; exact ⟨r, s', hr, ih r Q E p s' (Nat.le_trans hn (runs_size hr)) h⟩
  | resume g r _ k ih => intro Q E p s hn h; obtain ⟨res, s', hw, h⟩ := h; exact ⟨res, s', hw, ih res Q E p s' (Nat.le_trans hn (wakes_size hw)) h⟩
  | load a _ k ih => intro Q E p s hn h; obtain ⟨o, ho, h⟩ := h; exact ⟨o, ho, ih o Q E p s hn h⟩
  | update a _ f k ih => intro Q E p s hn h; exact ⟨h.1, ih () Q E p _ (by show n ≤ (s.heap.update a f).objs.size; rw [Heap.size_after_update]; exact hn) h.2⟩
  | alloc o k ih => intro Q E p s hn h; exact ih _ Q E p _ (by show n ≤ (s.heap.push o).objs.size; rw [Heap.size_push]; omega) h
  | choose src m k ih => intro Q E p s hn h; exact ⟨h.1, ih _ Q E p _ hn h.2⟩
  | genState g k ih => intro Q E p s hn h; obtain ⟨st, hs, h⟩ := h; exact ⟨st, hs, ih _ Q E p s hn h⟩
  | unsupported _ => intro Q E p s _ h; exact h
  | finish _ => intro Q E p s _ h; exact h
  | register _ _ => intro Q E p s _ h; exact h
  | yield _ _ _ _ => intro Q E p s _ h; exact h
  | fork _ _ => intro Q E p s _ h; exact h
  | await _ _ _ _ _ => intro Q E p s _ h; exact h
  | rule _ k ih => intro Q E p s hn h; exact ih _ Q E p s hn h
  | «at» p' k ih => intro Q E p s hn h; exact ih _ Q E p' s hn h
  | loadIfAlive a k ih => intro Q E p s hn h; exact ih _ Q E p s hn h
  | point _ k ih => intro Q E p s hn h; exact ih _ Q E p s hn h
  | fresh k ih => intro Q E p s hn h; exact ih _ Q E p _ hn h
  | ask k ih => intro Q E p s hn h; exact ih _ Q E p s hn h
  | os q _ k ih => intro Q E p s hn h; exact ih _ Q E p _ hn h
  | handled own k ih => intro Q E p s hn h; exact ih _ Q E p s hn h
  | newGen c k ih => intro Q E p s hn h; exact ih _ Q E p _ hn h
  | stack k ih => intro Q E p s hn h; exact ih _ Q E p s hn h
  | thread k ih => intro Q E p s hn h; exact ih _ Q E p s hn h

theorem any_size {α : Type} {M : Model} {A : Around} {s : Shared} {t : Sem α} {Q : α → Shared → Prop} {E : Value → Shared → Prop}
    (h : wpAny M A t (fun a s' => s.heap.objs.size ≤ s'.heap.objs.size → Q a s') E s) : wpAny M A t Q E s := fun Γ p hΓ =>
  Sem.wp_mono M Γ t (fun a _ s' x => x.2 x.1) (fun e _ s' x => x.2) p s (wp_size M Γ s.heap.objs.size t _ _ p s (Nat.le_refl _) (h Γ p hΓ))
theorem code_size {M : Model} {A : Around} {s : Shared} {c : Code} {R : Result → Shared → Prop} (h : codeAny M A c (fun r s' => s.heap.objs.size ≤ s'.heap.objs.size → R r s') s) : codeAny M A c R s :=
  fun Γ p hc hΓ => by obtain ⟨r, s', hr, hR⟩ := h Γ p hc hΓ; exact ⟨r, s', hr, hR (runs_size hr)⟩
end Mine
namespace Mine
open PySem PySem.W PySem.Calls PyProof.Rows

structure GlobOk (X : Amb) (mg mb : Str → Option Value) : Prop where
  g : X.h₀.Ns mainGlobals mg
  b : X.h₀.Ns builtinsNs mb
  nl : X.h₀.NoLimit
  ng : ∀ t ∈ X.tabs, mainGlobals ≠ t.P
  nb : ∀ t ∈ X.tabs, builtinsNs ≠ t.P
  nc : ∀ t ∈ X.tabs, cStatics ≠ t.P
  bs : ∀ x : Str, x ≠ "__name__" → mb x = bootBuiltins x
  bm : ∃ bm ob, mg "__builtins__" = some (.ref bm) ∧ bm ≠ builtinsNs ∧ X.h₀.get? bm = some ob ∧ (∀ t ∈ X.tabs, bm ≠ t.P) ∧ ob.cls = .type "module" ∧ ob.dict = some builtinsNs ∧ ob.data = .plain

/-- room for n more activations -/
structure Room (A : Around) (n : Nat) : Prop where
  d : A.depth + n ≤ 950
  u : A.units + 10 * n ≤ 9000
  h : A.handled = none
theorem Room.lt {A : Around} {n : Nat} (r : Room A n) : A.depth < recursionLimit := by
  have := r.d
  show A.depth < 1000
  omega
theorem Room.line {A : Around} {n : Nat} (r : Room A n) : A.units < cLine := by
  have := r.u
  show A.units < 9900
  omega
theorem Room.deeper {A : Around} {n : Nat} (r : Room A (n + 1)) (e : Env) : Room (A.deeper e) n := by
  have h1 := r.d
  have h2 := r.u
  refine ⟨?_, ?_, r.h⟩
  · show A.depth + 1 + n ≤ 950; omega
  · show A.units + 3 + 10 * n ≤ 9000; omega
theorem Room.in1 {A : Around} {n : Nat} (r : Room A (n + 1)) : Room A.in1 n := by
  have h1 := r.d
  have h2 := r.u
  refine ⟨?_, ?_, r.h⟩
  · show A.depth + n ≤ 950; omega
  · show A.units + 1 + 10 * n ≤ 9000; omega
theorem Room.le {A : Around} {n m : Nat} (r : Room A n) (h : m ≤ n) : Room A m := ⟨by have := r.d; omega, by have := r.u; omega, r.h⟩

section
variable {α β : Type} {X : Amb} {A : Around} {R R' : Led} {env : Env} {mg mb : Str → Option Value}

theorem InvH.nsOf {h : Heap} {g : Array GenState} {os : OsState} (I : InvH X R h g os) {a : Addr} {m : Str → Option Value} (x : X.h₀.Ns a m) (ha : ∀ t ∈ X.tabs, a ≠ t.P) : h.Ns a m := Heap.Ns.at' x fun o e => I.kept _ _ e ha

theorem t_at {Ψ : Unit → Led → Prop} {p : Pos} (k : Ψ () R) : Tr X A R (standAt p) Ψ := ⟨fun s I => by with_reducible exact wpAny_standAt ⟨R, I, k⟩⟩
theorem t_point {Ψ : Unit → Led → Prop} (k : Ψ () R) : Tr X A R point Ψ := ⟨fun s I => by with_reducible exact wpAny_point ⟨R, I, k⟩⟩
theorem t_rule {Ψ : Unit → Led → Prop} {t : String} (k : Ψ () R) : Tr X A R (rule t) Ψ := ⟨fun s I => by with_reducible exact wpAny_rule ⟨R, I, k⟩⟩
theorem t_ask {Ψ : Setting → Led → Prop} (k : Ψ ⟨X.prog, X.w.params⟩ R) : Tr X A R ask Ψ := ⟨fun s I => by exact wpAny_askSetting ⟨R, I, k⟩⟩

/-! names -/
section
variable {Ψ : Value → Led → Prop}
theorem t_name {x : Str} {pos : Pos} (k : Tr X A R (loadName env x) Ψ) (hd : (x == ("__debug__" : Str)) = false := by decide) : Tr X A R (eval (.Name x pos) env) Ψ := ⟨fun s I => by with_reducible exact wpAny_Name (k.run s I) hd⟩
theorem t_loadL {x : Str} {v : Value} {m : Str → Option Value} (hk : env.scope.kind = .function) (hl : env.kindOf x = some .local) (h : Has env.locals (ns m) R) (hv : m x = some v) (k : Ψ v R) : Tr X A R (loadName env x) Ψ := ⟨fun s I => by
  with_reducible exact wpAny_loadName_local hk hl (I.at h).ns hv ⟨R, I, k⟩⟩
theorem t_loadC {x : Str} {v : Value} {c : Addr} (hk : env.scope.kind = .function) (hl : env.kindOf x = some .cell) (hc : env.cells.lookup x = some c) (h : Has c (cl (some v)) R) (k : Ψ v R) : Tr X A R (loadName env x) Ψ := ⟨fun s I => by
  exact wpAny_loadName_cell hk hl hc (I.at h) ⟨R, I, k⟩⟩
theorem t_loadF {x : Str} {v : Value} {c : Addr} (hk : env.scope.kind = .function) (hl : env.kindOf x = some .free) (hc : env.cells.lookup x = some c) (h : Has c (cl (some v)) R) (k : Ψ v R) (hn : (x == ("__classdict__" : Str)) = false := by decide) : Tr X A R (loadName env x) Ψ := ⟨fun s I => by
  exact wpAny_loadName_free hk hl hc (I.at h) ⟨R, I, k⟩ hn⟩
theorem t_loadG {x : Str} {v : Value} (G : GlobOk X mg mb) (hk : env.scope.kind = .function) (hl : env.kindOf x = some .globalImplicit) (hg : env.globals = mainGlobals) (hv : mg x = some v) (k : Ψ v R) : Tr X A R (loadName env x) Ψ := ⟨fun s I => by
  have hn : s.heap.Ns env.globals mg := hg ▸ I.nsOf G.g G.ng
  unfold loadName
  simp only [Env.blockKind, hk, hl, ScopeKind.isAnnotationScope, Bool.false_and, Bool.false_eq_true, if_false]
  exact loadGlobal_global hn hv ⟨R, I, k⟩⟩
theorem t_loadB {x : Str} {v : Value} (G : GlobOk X mg mb) (hk : env.scope.kind = .function) (hl : env.kindOf x = some .globalImplicit) (hg : env.globals = mainGlobals) (hb : env.builtins = builtinsNs) (hm : mg x = none) (hv : bootBuiltins x = some v) (hx : x ≠ "__name__") (k : Ψ v R) : Tr X A R (loadName env x) Ψ := ⟨fun s I => by
  have hn : s.heap.Ns env.globals mg := hg ▸ I.nsOf G.g G.ng
  have hB : s.heap.Ns env.builtins mb := hb ▸ I.nsOf G.b G.nb
  unfold loadName
  simp only [Env.blockKind, hk, hl, ScopeKind.isAnnotationScope, Bool.false_and, Bool.false_eq_true, if_false]
  exact loadGlobal_builtin hn hm hB ((G.bs x hx).trans hv) ⟨R, I, k⟩⟩
end

def up (m : Str → Option Value) (x : Str) (v : Value) : Str → Option Value := fun y => if y = x then some v else m y
theorem t_storeL {Ψ : Unit → Led → Prop} {x : Str} {v : Value} {m : Str → Option Value} (hk : env.scope.kind = .function) (hl : env.kindOf x = some .local) (u : Upd env.locals (ns m) (ns (up m x v)) R R') (k : Ψ () R') : Tr X A R (storeName env x v) Ψ := ⟨fun s I => by
  exact wpAny_storeName_local hl (I.at u.has).ns (fun h' hn hs => ⟨R', I.update u hs (.ofNs hn), k⟩) (by rw [hk]; rfl)⟩
theorem t_storeC {Ψ : Unit → Led → Prop} {x : Str} {v : Value} {c : Addr} {v₀ : Option Value} (hk : env.scope.kind = .function) (hl : env.kindOf x = some .cell) (hc : env.cells.lookup x = some c) (u : Upd c (cl v₀) (cl (some v)) R R') (k : Ψ () R') : Tr X A R (storeName env x v) Ψ := ⟨fun s I => by
  exact wpAny_storeName_cell hk hl hc (I.at u.has) fun h' hc hs => ⟨R', I.update u hs hc, k⟩⟩

/-! statements -/
section
variable {Ψ : Flow → Led → Prop}
theorem t_execs0 (k : Ψ .next R) : Tr X A R (execs [] env) Ψ := ⟨fun s I => by with_reducible exact wpAny_execs_nil ⟨R, I, k⟩⟩
/-- two ways -/
def Br (b : Bool) (P Q : Prop) : Prop := match b with
  | true => P
  | false => Q
theorem br_t {P Q : Prop} (h : P) : Br true P Q := h
theorem br_f {P Q : Prop} (h : Q) : Br false P Q := h
theorem br_y {b : Bool} {P Q : Prop} (e : b = true) (h : P) : Br b P Q := by subst e; exact h
theorem br_n {b : Bool} {P Q : Prop} (e : b = false) (h : Q) : Br b P Q := by subst e; exact h
theorem br_by {b : Bool} {P Q : Prop} (h : b = true → P) (h' : b = false → Q) : Br b P Q := by
  cases b
  · exact h' rfl
  · exact h rfl
/-- what a statement's end says of the rest -/
def Go (X : Amb) (A : Around) (env : Env) (rest : List Stmt) (Ψ : Flow → Led → Prop) (f : Flow) (R : Led) : Prop := match f with
  | .next => Tr X A R (execs rest env) Ψ
  | f => Ψ f R
theorem go_next {rest : List Stmt} (h : Tr X A R (execs rest env) Ψ) : Go X A env rest Ψ .next R := h
theorem go_ret {rest : List Stmt} {v : Value} (h : Ψ (.ret v) R) : Go X A env rest Ψ (.ret v) R := h
theorem go_brk {rest : List Stmt} (h : Ψ .brk R) : Go X A env rest Ψ .brk R := h
theorem go_cont {rest : List Stmt} (h : Ψ .cont R) : Go X A env rest Ψ .cont R := h
theorem t_execs {st : Stmt} {rest : List Stmt} (x : Tr X A R (exec st env) (Go X A env rest Ψ)) : Tr X A R (execs (st :: rest) env) Ψ := ⟨fun s I => by
  exact wpAny_execs_cons (x.use I fun f s' R' I' h => by cases f <;> first | exact h.run s' I' | exact ⟨R', I', h⟩)⟩
theorem t_assign {x : Str} {pos' pos : Pos} {value : Expr} (k : Tr X A R (eval value env) fun v R1 => Tr X A R1 (storeName env x v) fun _ => Ψ .next) (hs : swapsWith value (some (.Name x pos')) pos.line env = Pure.pure false := by rfl) : Tr X A R (exec (.Assign [.Name x pos'] value pos) env) Ψ := ⟨fun s I => by
  with_reducible exact wpAny_Assign_Name (k.use I fun v s' R' I' h => h.run s' I') hs⟩
theorem t_aug {x : Str} {pos' pos : Pos} {op : Operator} {value : Expr} (k : Tr X A R (loadName env x) fun old R1 => Tr X A R1 (eval value env) fun v R2 => Tr X A R2 (inplaceOp op old v) fun r R3 => Tr X A R3 (storeName env x r) fun _ => Ψ .next) : Tr X A R (exec (.AugAssign (.Name x pos') op value pos) env) Ψ := ⟨fun s I => by
  with_reducible exact wpAny_AugAssign_Name (k.use I fun old s₁ R1 I1 k1 => k1.use I1 fun v s₂ R2 I2 k2 => k2.use I2 fun r s₃ R3 I3 k3 => k3.run s₃ I3)⟩
theorem t_ret {e : Expr} {pos : Pos} (k : Tr X A R (eval e env) fun v => Ψ (.ret v)) : Tr X A R (exec (.Return (some e) pos) env) Ψ := ⟨fun s I => by with_reducible exact wpAny_Return_some (k.run s I)⟩
theorem t_ret0 {pos : Pos} (k : Ψ (.ret .none) R) : Tr X A R (exec (.Return none pos) env) Ψ := ⟨fun s I => by with_reducible exact wpAny_Return_none ⟨R, I, k⟩⟩
end
end
end Mine
namespace Mine
open PySem PySem.W PySem.Calls PyProof.Rows

section
variable {α β : Type} {X : Amb} {A : Around} {R R' : Led} {env : Env} {mg mb : Str → Option Value}

section
variable {Ψ : Flow → Led → Prop}
theorem t_if {test : Expr} {body orelse : List Stmt} {pos : Pos} (k : Tr X A R (isTrue test env (eval test env)) fun b R1 => Br b (Tr X A R1 (execs body env) Ψ) (Tr X A R1 (execs orelse env) Ψ)) : Tr X A R (exec (.If test body orelse pos) env) Ψ := ⟨fun s I => by
  with_reducible refine wpAny_If (k.use I fun b s' R' I' h => ?_)
  cases b <;> exact h.run s' I'⟩
/-- a value that a statement may drop -/
def NoRef (v : Value) (P : Prop) : Prop := match v with
  | .ref _ => False
  | _ => P
theorem nr_none {P : Prop} (h : P) : NoRef .none P := h
theorem nr_int {P : Prop} {i : Int} {t : Tok} (h : P) : NoRef (.int i t) P := h
theorem noRef_use {v : Value} {P : Prop} (h : NoRef v P) : (∀ a, v ≠ .ref a) ∧ P := by
  cases v <;> first | exact h.elim | exact ⟨fun _ e => (nomatch e), h⟩
theorem t_expr {e : Expr} {pos : Pos} (k : Tr X A R (eval e env) fun v R1 => NoRef v (Ψ .next R1)) (hi : interactive env = false := by rfl) (hs : swapsWith e none pos.line env = Pure.pure false := by rfl) : Tr X A R (exec (.Expr e pos) env) Ψ := ⟨fun s I => by
  with_reducible exact wpAny_Expr (k.use I fun v s' R' I' h => by have z := noRef_use h; cases v <;> first | exact absurd rfl (z.1 _) | exact ⟨R', I', z.2⟩) hi hs⟩
/-- what a loop's turn leaves -/
def Lo (W : Led → Prop) (Φ : Flow → Led → Prop) (f : Flow) (R : Led) : Prop := match f with
  | .next | .cont => W R
  | .brk => Φ .next R
  | .ret v => Φ (.ret v) R
theorem lo_next {W : Led → Prop} {Φ : Flow → Led → Prop} (h : W R) : Lo W Φ .next R := h
theorem lo_cont {W : Led → Prop} {Φ : Flow → Led → Prop} (h : W R) : Lo W Φ .cont R := h
theorem lo_brk {W : Led → Prop} {Φ : Flow → Led → Prop} (h : Φ .next R) : Lo W Φ .brk R := h
theorem lo_ret {W : Led → Prop} {Φ : Flow → Led → Prop} {v : Value} (h : Φ (.ret v) R) : Lo W Φ (.ret v) R := h
/-- a while: the word at n turns left -/
theorem tc_while {test : Expr} {body orelse : List Stmt} {Φ : Flow → Led → Prop} (W : Nat → Led → Prop)
    (turn : ∀ n R, W n R → Tr X A R (isTrue test env (eval test env)) fun b R1 => Br b (Tr X A R1 (execs body env) (Lo (fun R2 => ∃ m, m < n ∧ W m R2) Φ)) (Tr X A R1 (execs orelse env) Φ))
    (n : Nat) (h : W n R) : TrC X A R (.whileLoop test body orelse env) Φ := by
  refine ⟨fun s I => ?_⟩
  refine codeAny_whileLoop (fun n s => ∃ R, Inv X R s ∧ W n R) ?_ n ⟨R, I, h⟩
  rintro n s ⟨R, I, h⟩
  refine (turn n R h).use I fun b s' R' I' h' => ?_
  cases b with
  | false =>
    exact Tr.use h' I' fun f s₂ R₂ I₂ h₂ => ⟨R₂, I₂, h₂⟩
  | true =>
    refine Tr.use h' I' fun f s₂ R₂ I₂ h₂ => ?_
    cases f with
    | next => obtain ⟨m, hm, hw⟩ := h₂; exact ⟨m, hm, R₂, I₂, hw⟩
    | cont => obtain ⟨m, hm, hw⟩ := h₂; exact ⟨m, hm, R₂, I₂, hw⟩
    | brk => exact ⟨R₂, I₂, h₂⟩
    | ret v => exact ⟨R₂, I₂, h₂⟩
theorem t_while {test : Expr} {body orelse : List Stmt} {pos : Pos} (k : TrC X A R (.whileLoop test body orelse env) Ψ) : Tr X A R (exec (.While test body orelse pos) env) Ψ := ⟨fun s I => by
  with_reducible exact wpAny_While (k.use I fun f s' R' I' h => ⟨R', I', h⟩)⟩
end

section
variable {Ψ : Value → Led → Prop}
theorem t_int {i : Int} {k pos} (h : ∀ t, Ψ (.int i t) R) : Tr X A R (eval (.Constant (.int i) k pos) env) Ψ := ⟨fun s I => by with_reducible exact wpAny_Constant_int ⟨R, I, h _⟩⟩
theorem t_str {x : Str} {k pos} (h : ∀ t, Ψ (.str x t) R) : Tr X A R (eval (.Constant (.str x) k pos) env) Ψ := ⟨fun s I => by with_reducible exact Constant_str ⟨R, I, h _⟩⟩
theorem t_none {k pos} (h : Ψ .none R) : Tr X A R (eval (.Constant .none k pos) env) Ψ := Tr.pure h
theorem t_bool {b k pos} (h : Ψ (.bool b) R) : Tr X A R (eval (.Constant (.bool b) k pos) env) Ψ := Tr.pure h
theorem t_binop {l op r pos} (k : Tr X A R (eval l env) fun a R1 => Tr X A R1 (eval r env) fun b R2 => Tr X A R2 (binaryOp op a b) Ψ) : Tr X A R (eval (.BinOp l op r pos) env) Ψ := ⟨fun s I => by
  with_reducible exact wpAny_BinOp (k.use I fun a s₁ R₁ I₁ k₁ => k₁.use I₁ fun b s₂ R₂ I₂ k₂ => k₂.run s₂ I₂)⟩
theorem t_cmp {l op r pos} (k : Tr X A R (eval l env) fun a R1 => Tr X A R1 (eval r env) fun b R2 => Tr X A R2 (compareOp op a b) Ψ) (hm : behindInMarks op r = false := by with_unfolding_all rfl) : Tr X A R (eval (.Compare l [op] [r] pos) env) Ψ := ⟨fun s I => by
  with_reducible exact wpAny_Compare1 (k.use I fun a s₁ R₁ I₁ k₁ => k₁.use I₁ fun b s₂ R₂ I₂ k₂ => k₂.run s₂ I₂) hm⟩
theorem t_unary {op x pos} (k : Tr X A R (eval x env) fun v R1 => Tr X A R1 (unaryOp op v) Ψ) : Tr X A R (eval (.UnaryOp op x pos) env) Ψ := ⟨fun s I => by with_reducible exact wpAny_UnaryOp (k.use I fun a s₁ R₁ I₁ k₁ => k₁.run s₁ I₁)⟩
theorem t_ifExp {test body orelse pos} (k : Tr X A R (isTrue test env (eval test env)) fun b R1 => Br b (Tr X A R1 (eval body env) Ψ) (Tr X A R1 (eval orelse env) Ψ)) : Tr X A R (eval (.IfExp test body orelse pos) env) Ψ := ⟨fun s I => by
  with_reducible refine wpAny_IfExp (k.use I fun b s₁ R₁ I₁ h => ?_)
  cases b <;> exact h.run s₁ I₁⟩
theorem t_or2 {x y pos} (k : Tr X A R (eval x env) fun v R1 => Tr X A R1 (truthy v) fun b R2 => Br b (Ψ v R2) (Tr X A R2 (eval y env) Ψ)) : Tr X A R (eval (.BoolOp .Or [x, y] pos) env) Ψ := ⟨fun s I => by
  with_reducible refine wpAny_Or2 (k.use I fun v s₁ R₁ I₁ h => h.use I₁ fun b s₂ R₂ I₂ h₂ => ?_)
  cases b <;> first | exact ⟨R₂, I₂, h₂⟩ | exact h₂.run s₂ I₂⟩
end

section
variable {Ψ : Bool → Led → Prop}
theorem t_isCmp {l op r pos whole} (k : Tr X A R (eval l env) fun a R1 => Tr X A R1 (eval r env) fun b R2 => Tr X A R2 (compareOp op a b) fun c R3 => Tr X A R3 (truthy c) Ψ) (hm : behindInMarks op r = false := by with_unfolding_all rfl) : Tr X A R (isTrue (.Compare l [op] [r] pos) env whole) Ψ := ⟨fun s I => by
  with_reducible exact wpAny_isTrue_Compare1 (k.use I fun a s₁ R₁ I₁ k₁ => k₁.use I₁ fun b s₂ R₂ I₂ k₂ => k₂.use I₂ fun c s₃ R₃ I₃ k₃ => k₃.run s₃ I₃) hm⟩
theorem t_isNot {x pos whole} (k : Tr X A R (isTrue x env (eval x env)) fun b => Ψ (!b)) : Tr X A R (isTrue (.UnaryOp .Not x pos) env whole) Ψ := ⟨fun s I => by with_reducible exact isTrue_not (k.run s I)⟩
theorem t_isAnd {x rest pos whole} (k : Tr X A R (isTrue x env (eval x env)) fun b R1 => Br b (Tr X A R1 (isTrue (.BoolOp .And rest pos) env whole) Ψ) (Ψ false R1)) : Tr X A R (isTrue (.BoolOp .And (x :: rest) pos) env whole) Ψ := ⟨fun s I => by
  with_reducible refine isTrue_and (k.use I fun b s₁ R₁ I₁ h => ?_)
  cases b <;> first | exact ⟨R₁, I₁, h⟩ | exact h.run s₁ I₁⟩
theorem t_isAnd0 {pos whole} (k : Ψ true R) : Tr X A R (isTrue (.BoolOp .And [] pos) env whole) Ψ := ⟨fun s I => by with_reducible exact isTrue_and_nil ⟨R, I, k⟩⟩
theorem t_isOr {x rest pos whole} (k : Tr X A R (isTrue x env (eval x env)) fun b R1 => Br b (Ψ true R1) (Tr X A R1 (isTrue (.BoolOp .Or rest pos) env whole) Ψ)) : Tr X A R (isTrue (.BoolOp .Or (x :: rest) pos) env whole) Ψ := ⟨fun s I => by
  with_reducible refine isTrue_or (k.use I fun b s₁ R₁ I₁ h => ?_)
  cases b <;> first | exact ⟨R₁, I₁, h⟩ | exact h.run s₁ I₁⟩
theorem t_isOr0 {pos whole} (k : Ψ false R) : Tr X A R (isTrue (.BoolOp .Or [] pos) env whole) Ψ := ⟨fun s I => by with_reducible exact isTrue_or_nil ⟨R, I, k⟩⟩
theorem t_isPlain {e : Expr} {whole : Sem Value} (k : Tr X A R whole fun v R1 => Tr X A R1 (truthy v) Ψ) (he : isTrue e env whole = (do let v ← whole; standAt e.pos; PySem.holding [v] (truthy v)) := by rfl) : Tr X A R (isTrue e env whole) Ψ := ⟨fun s I => by
  with_reducible exact isTrue_plain (k.use I fun v s₁ R₁ I₁ h => h.run s₁ I₁) he⟩
theorem t_tBool {b : Bool} (k : Ψ b R) : Tr X A R (truthy (.bool b)) Ψ := ⟨fun s I => by with_reducible exact wpAny_truthy_bool ⟨R, I, k⟩⟩
theorem t_tInt {a : Int} {t} (k : Ψ (a != 0) R) : Tr X A R (truthy (.int a t)) Ψ := ⟨fun s I => by with_reducible exact truthy_int ⟨R, I, k⟩⟩
theorem t_tStr {x : Str} {t} (hx : x.length ≤ sizeLine) (k : Ψ ((x.length : Int) != 0) R) : Tr X A R (truthy (.str x t)) Ψ := ⟨fun s I => by with_reducible exact P.truthy_str (by rw [sizeLine_eq] at hx; omega) ⟨R, I, k⟩⟩
end

/-! ints -/
section
variable {Ψ : Value → Led → Prop} {a b : Int} {t u : Tok}
theorem t_add (k : ∀ t, Ψ (.int (a + b) t) R) : Tr X A R (binaryOp .Add (.int a t) (.int b u)) Ψ := ⟨fun s I => by with_reducible exact wpAny_add_int ⟨R, I, k _⟩⟩
theorem t_iadd (k : ∀ t, Ψ (.int (a + b) t) R) : Tr X A R (inplaceOp .Add (.int a t) (.int b u)) Ψ := ⟨fun s I => by with_reducible exact wpAny_iadd_int ⟨R, I, k _⟩⟩
theorem t_sub (k : ∀ t, Ψ (.int (a - b) t) R) : Tr X A R (binaryOp .Sub (.int a t) (.int b u)) Ψ := ⟨fun s I => by with_reducible exact sub_int' ⟨R, I, k _⟩⟩
theorem t_isub (k : ∀ t, Ψ (.int (a - b) t) R) : Tr X A R (inplaceOp .Sub (.int a t) (.int b u)) Ψ := ⟨fun s I => by with_reducible exact isub_int ⟨R, I, k _⟩⟩
theorem t_mul (hm : IntMulOk a b) (k : ∀ t, Ψ (.int (a * b) t) R) : Tr X A R (binaryOp .Mult (.int a t) (.int b u)) Ψ := ⟨fun s I => by with_reducible exact mul_int ⟨R, I, k _⟩ hm⟩
theorem t_mod (hb : b ≠ 0) (k : ∀ t, Ψ (.int (a.fmod b) t) R) : Tr X A R (binaryOp .Mod (.int a t) (.int b u)) Ψ := ⟨fun s I => by with_reducible exact mod_int' hb ⟨R, I, k _⟩⟩
theorem t_pow (hn : 0 ≤ b) (hsz : (Builtin.Int.intBits a : Int) * b ≤ 2 ^ 27) (k : ∀ t, Ψ (.int (a ^ b.toNat) t) R) : Tr X A R (binaryOp .Pow (.int a t) (.int b u)) Ψ := ⟨fun s I => by with_reducible exact pow_int hn hsz ⟨R, I, k _⟩⟩
theorem t_shl (hn : 0 ≤ b) (hsz : (Builtin.Int.intBits a : Int) + b ≤ 2 ^ 27) (k : ∀ t, Ψ (.int (a * 2 ^ b.toNat) t) R) : Tr X A R (binaryOp .LShift (.int a t) (.int b u)) Ψ := ⟨fun s I => by with_reducible exact lshift_int hn hsz ⟨R, I, k _⟩⟩
theorem t_shr (hn : 0 ≤ b) (k : ∀ t, Ψ (.int (a.fdiv (2 ^ b.toNat)) t) R) : Tr X A R (binaryOp .RShift (.int a t) (.int b u)) Ψ := ⟨fun s I => by with_reducible exact rshift_int hn ⟨R, I, k _⟩⟩
theorem t_xor (k : ∀ t, Ψ (.int (Builtin.bitXor a b) t) R) : Tr X A R (binaryOp .BitXor (.int a t) (.int b u)) Ψ := ⟨fun s I => by with_reducible exact xor_int ⟨R, I, k _⟩⟩
theorem t_eqI (k : Ψ (.bool (a == b)) R) : Tr X A R (compareOp .Eq (.int a t) (.int b u)) Ψ := ⟨fun s I => by with_reducible exact eq_int ⟨R, I, k⟩⟩
theorem t_neI (k : Ψ (.bool (a != b)) R) : Tr X A R (compareOp .NotEq (.int a t) (.int b u)) Ψ := ⟨fun s I => by with_reducible exact ne_int ⟨R, I, k⟩⟩
theorem t_ltI (k : Ψ (.bool (decide (a < b))) R) : Tr X A R (compareOp .Lt (.int a t) (.int b u)) Ψ := ⟨fun s I => by with_reducible exact lt_int ⟨R, I, k⟩⟩
theorem t_leI (k : Ψ (.bool (decide (a ≤ b))) R) : Tr X A R (compareOp .LtE (.int a t) (.int b u)) Ψ := ⟨fun s I => by with_reducible exact le_int ⟨R, I, k⟩⟩
theorem t_gtI (k : Ψ (.bool (decide (b < a))) R) : Tr X A R (compareOp .Gt (.int a t) (.int b u)) Ψ := ⟨fun s I => by with_reducible exact gt_int ⟨R, I, k⟩⟩
theorem t_geI (k : Ψ (.bool (decide (b ≤ a))) R) : Tr X A R (compareOp .GtE (.int a t) (.int b u)) Ψ := ⟨fun s I => by with_reducible exact ge_int ⟨R, I, k⟩⟩
theorem t_eqS {x y : Str} (k : Ψ (.bool (x.cps.toList == y.cps.toList)) R) : Tr X A R (compareOp .Eq (.str x t) (.str y u)) Ψ := ⟨fun s I => by with_reducible exact P.eq_str ⟨R, I, k⟩⟩
theorem t_neS {x y : Str} (k : Ψ (.bool (x.cps.toList != y.cps.toList)) R) : Tr X A R (compareOp .NotEq (.str x t) (.str y u)) Ψ := ⟨fun s I => by with_reducible exact P.ne_str ⟨R, I, k⟩⟩
end

/-! calls -/
theorem t_args0 {pos : Pos} {Φ : List Value → Led → Prop} (k : Φ [] R) : Tr X A R (spliced (backTo pos (starEach [] env))) Φ := ⟨fun s I => spliced_nil ⟨R, I, k⟩⟩
theorem t_args {pos : Pos} {e : Expr} {rest : List Expr} {Φ : List Value → Led → Prop} (k : Tr X A R (eval e env) fun v R1 => Tr X A R1 (spliced (backTo pos (starEach rest env))) fun vs => Φ (v :: vs)) (he : starEach (e :: rest) env = (false, eval e env) :: starEach rest env := by rfl) :
    Tr X A R (spliced (backTo pos (starEach (e :: rest) env))) Φ := ⟨fun s I => by
  rw [he]
  exact spliced_cons (k.use I fun v s₁ R₁ I₁ h => h.run s₁ I₁)⟩
theorem t_evalArgs {f : Value} {pos : Pos} {args : List Expr} {Φ : Args → Led → Prop} (hst : (backTo pos (starEach args env)).any (·.1) = false) (k : Tr X A R (spliced (backTo pos (starEach args env))) fun vs => Φ ⟨vs, []⟩) : Tr X A R (evalArgs f true (backTo pos (starEach args env)) []) Φ := by
  refine ⟨fun s I => ?_⟩
  have k' := k.run s I
  generalize backTo pos (starEach args env) = l at hst k'
  match l, hst, k' with
  | [], _, k =>
    unfold evalArgs
    show wpAny _ _ (spliced [] >>= _) _ _ s
    exact wpAny_bind (wpAny_mono k (fun v s' h' => wpAny_bind (wpAny_pure (wpAny_holding (wpAny_bind (wpAny_pure (wpAny_bind (wpAny_pure (wpAny_pure h')))))))) fun _ _ h => h)
  | (false, x) :: r, _, k => exact evalArgs_plain k
/-- a call of a def: its object stands behind the arguments -/
theorem t_callFn {pos : Pos} {a : Addr} {fd : FuncData} {first : List Value} {args : List Expr} {Ψ : Value → Led → Prop} (hst : (backTo pos (starEach args env)).any (·.1) = false := by rfl)
    (k : Tr X A R (spliced (backTo pos (starEach args env))) fun vs R1 => (∀ s, Inv X R1 s → ∃ o, s.heap.get? a = some o ∧ o.data = .func fd) ∧ Tr X A R1 (call (.ref a) (first ++ vs)) Ψ) : Tr X A R (callWith pos (.ref a) first (backTo pos (starEach args env)) []) Ψ := by
  refine ⟨fun s I => ?_⟩
  refine callWith_of (P := fun h => ∃ o, h.get? a = some o ∧ o.data = .func fd) (by rw [hst]; rfl) (fun h hp => ?_) ((t_evalArgs (Φ := fun x R1 => (∀ s, Inv X R1 s → ∃ o, s.heap.get? a = some o ∧ o.data = .func fd) ∧ Tr X A R1 (call (.ref a) (first ++ x.pos) x.kw) Ψ) hst k).use I fun v s' R' I' h' => ⟨h'.1 s' I', h'.2.run s' I'⟩)
  obtain ⟨o, ho, hd⟩ := hp
  refine ⟨.frame, .inl rfl, (Looks.ld (part := none) ho).andThen ?_⟩
  rw [hd]; exact .now
theorem t_callB {pos : Pos} {id : String} {first : List Value} {args : List Expr} {Ψ : Value → Led → Prop} (hst : (backTo pos (starEach args env)).any (·.1) = false := by rfl)
    (k : Tr X A R (spliced (backTo pos (starEach args env))) fun vs R1 => Tr X A R1 (call (.builtin id) (first ++ vs)) Ψ) : Tr X A R (callWith pos (.builtin id) first (backTo pos (starEach args env)) []) Ψ := by
  refine ⟨fun s I => ?_⟩
  exact callWith_of (P := fun _ => True) (by rw [hst]; rfl) (fun h _ => ⟨.machine, .inr (.inl rfl), .now⟩) ((t_evalArgs (Φ := fun x R1 => Tr X A R1 (call (.builtin id) (first ++ x.pos) x.kw) Ψ) hst k).use I fun v s' R' I' h' => ⟨trivial, h'.run s' I'⟩)
theorem t_callT {pos : Pos} {id : String} {first : List Value} {args : List Expr} {Ψ : Value → Led → Prop} (hst : (backTo pos (starEach args env)).any (·.1) = false := by rfl)
    (k : Tr X A R (spliced (backTo pos (starEach args env))) fun vs R1 => Tr X A R1 (call (.type id) (first ++ vs)) Ψ) : Tr X A R (callWith pos (.type id) first (backTo pos (starEach args env)) []) Ψ := by
  refine ⟨fun s I => ?_⟩
  exact callWith_of (P := fun _ => True) (by rw [hst]; rfl) (fun h _ => ⟨.machine, .inr (.inl rfl), .now⟩) ((t_evalArgs (Φ := fun x R1 => Tr X A R1 (call (.type id) (first ++ x.pos) x.kw) Ψ) hst k).use I fun v s' R' I' h' => ⟨trivial, h'.run s' I'⟩)
theorem t_callName {x : Str} {p pos : Pos} {args : List Expr} {Ψ : Value → Led → Prop} (k : Tr X A R (eval (.Name x p) env) fun f R1 => Tr X A R1 (callWith pos f [] (backTo pos (starEach args env)) []) Ψ) : Tr X A R (eval (.Call (.Name x p) args [] pos) env) Ψ := ⟨fun s I => by
  exact wpAny_Call_Name_kw (k.use I fun f s' R' I' h => h.run s' I')⟩
theorem t_callMeth {o : Expr} {name : Str} {apos pos : Pos} {args : List Expr} {pl : Sem Bool} {Ψ : Value → Led → Prop}
    (k : Tr X A R (eval o env) fun ov R1 => Tr X A R1 (getMethod ov name pl) fun fx R2 => Tr X A R2 (callWith pos fx.1 fx.2 (backTo pos (starEach args env)) []) Ψ)
    (he : eval (.Call (.Attribute o name apos) args [] pos) env = (do
      let ov ← eval o env
      standAt apos.atName
      let (f, first) ← PySem.holding [ov] (getMethod ov name pl)
      callWith pos f first (backTo pos (starEach args env)) []) := by rfl) : Tr X A R (eval (.Call (.Attribute o name apos) args [] pos) env) Ψ := ⟨fun s I => by
  with_reducible exact MethodCall_ (k.use I fun f s' R' I' h => h.use I' fun f s' R' I' h => h.run s' I') he⟩

/-! a def is entered -/
theorem tc_def {fd : FuncData} {a : Addr} {o : Obj} {body : List Stmt} {vals : List Value} {binds : List (Str × Value)} {n : Nat} {Φ : Flow → Led → Prop} (G : GlobOk X mg mb) (hroom : Room A (n + 1))
    (ho : ∀ s, Inv X R s → s.heap.get? a = some o) (hd : o.data = .func fd) (hcr : ∀ s, Inv X R s → s.heap.CodeRec fd.code fd.qualname) (hbody : fd.body = .stmts body) (hbind : bindArgs fd ⟨vals, []⟩ = Pure.pure binds)
    (hcell : ∀ x ∈ fd.scope.names, x.2 ≠ .cell) (hloc : ∀ x ∈ binds, fd.scope.names.lookup x.1 = some .local)
    (k : ∀ L, Room (A.deeper (callEnv fd L a)) n → Tr X (A.deeper (callEnv fd L a)) (ow L (ns fun x => binds.reverse.lookup x) :: R) (execs body (callEnv fd L a)) fun f R' => ∃ R'', R''.Sublist R' ∧ Φ (.ret (match f with | .ret v => v | _ => .none)) R'')
    (hco : fd.scope.isCoroutine = false := by rfl) (hgen : fd.scope.isGenerator = false := by rfl) (hk : fd.scope.kind = .function := by rfl) : TrC X A R (.call (.ref a) ⟨vals, []⟩) Φ := by
  refine ⟨fun s I => ?_⟩
  refine codeAny_call_def hroom.lt (ho s I) hd (let ⟨mc, h1, h2⟩ := G.nl; ⟨mc, I.nsOf h1 G.nc, h2⟩) (hcr s I) hbody (.of_eq hbind) hcell hloc (fun h₀ hn hk' => ?_) hco hgen hk
  refine Tr.use (k s.heap.objs.size (hroom.deeper _)) (R := _) ?_ fun f s' R' I' h => ?_
  · exact I.grow1 hk' (Nat.le_of_lt hn.lt) (.ofNs hn) (Nat.le_refl _)
  · obtain ⟨R'', hs, hΦ⟩ := h
    exact ⟨R'', I'.weak hs, hΦ⟩
end
end Mine
namespace Mine
open PySem PySem.W PySem.Calls PyProof.Rows

structure KOk (X : Amb) (K : Frag) : Prop where
  k : K.In X.h₀
  t : ∀ t ∈ X.tabs, K.lookup t.P = none

section
variable {X : Amb} {A : Around} {R R' : Led} {env : Env} {mg mb : Str → Option Value} {K : Frag}
theorem KOk.ne (k : KOk X K) {a : Addr} {o : Obj} (h : K.lookup a = some o) : ∀ t ∈ X.tabs, a ≠ t.P := fun t ht e => by
  have := k.t t ht
  rw [← e, h] at this
  cases this
theorem KOk.inK (k : KOk X K) {s : Shared} (I : Inv X R s) : K.In s.heap := fun a o e => I.kept a o (k.k a o e) (k.ne e)

/-- a def of the text is called: its frame -/
theorem tc_K {oc : Value} {od : Option Addr} {osl : Array (Option Value)} {fd : FuncData} {a : Addr} {body : List Stmt} {vals : List Value} {binds : List (Str × Value)} {n : Nat} {Φ : Flow → Led → Prop} (C : KOk X K) (G : GlobOk X mg mb) (hroom : Room A (n + 1))
    (ho : K.lookup a = some ⟨oc, od, .func fd, osl⟩) (hcd : codeIn K fd.code fd.qualname = true) (hbody : fd.body = .stmts body) (hbind : bindArgs fd ⟨vals, []⟩ = Pure.pure binds)
    (hcell : ∀ x ∈ fd.scope.names, x.2 ≠ .cell) (hloc : ∀ x ∈ binds, fd.scope.names.lookup x.1 = some .local)
    (k : ∀ L, Room (A.deeper (callEnv fd L a)) n → Tr X (A.deeper (callEnv fd L a)) (ow L (ns fun x => binds.reverse.lookup x) :: R) (execs body (callEnv fd L a)) fun f R' => ∃ R'', R''.Sublist R' ∧ Φ (.ret (match f with | .ret v => v | _ => .none)) R'')
    (hco : fd.scope.isCoroutine = false) (hgen : fd.scope.isGenerator = false) (hk : fd.scope.kind = .function) : TrC X A R (.call (.ref a) ⟨vals, []⟩) Φ :=
  tc_def G hroom (fun s I => C.inK I _ _ ho) rfl (fun s I => codeRec_of (C.inK I) hcd) hbody hbind hcell hloc k hco hgen hk
end
end Mine
namespace Mine
open PySem PySem.W PySem.Calls PyProof.Rows

def tu (vs : List Value) : Cell := fun o => o.cls = .type "tuple" ∧ ∃ n, o.data = .seq vs.toArray n

/-- what the frame of a def is -/
structure EnvIs (env : Env) (scope : Scope) (cells : List (Str × Addr)) (code : Value) : Prop where
  sc : env.scope = scope
  g : env.globals = mainGlobals
  b : env.builtins = builtinsNs
  c : env.cells = cells
  cd : env.code = code

section
variable {α β : Type} {X : Amb} {A : Around} {R R' : Led} {env : Env} {mg mb : Str → Option Value} {K : Frag}

theorem EnvIs.kind {scope : Scope} {cells : List (Str × Addr)} {code : Value} (e : EnvIs env scope cells code) (h : scope.kind = .function) : env.scope.kind = .function := by rw [e.sc, h]
theorem EnvIs.of {scope : Scope} {cells : List (Str × Addr)} {code : Value} (e : EnvIs env scope cells code) {x : Str} {k : NameKind} (h : scope.names.lookup x = some k) : env.kindOf x = some k := by
  show env.scope.names.lookup x = some k
  rw [e.sc, h]

/-- a def of the text is called: its frame, its names told apart from the rest -/
theorem tc_fn {oc : Value} {od : Option Addr} {osl : Array (Option Value)} {fd : FuncData} {a : Addr} {body : List Stmt} {vals : List Value} {binds : List (Str × Value)} {n : Nat} {Φ : Flow → Led → Prop} (C : KOk X K) (G : GlobOk X mg mb) (hroom : Room A (n + 1))
    (ho : K.lookup a = some ⟨oc, od, .func fd, osl⟩) (hcd : codeIn K fd.code fd.qualname = true) (hbody : fd.body = .stmts body) (hbind : bindArgs fd ⟨vals, []⟩ = Pure.pure binds)
    (hcell : ∀ x ∈ fd.scope.names, x.2 ≠ .cell) (hloc : ∀ x ∈ binds, fd.scope.names.lookup x.1 = some .local) (hg : fd.globals = mainGlobals ∧ fd.builtins = builtinsNs ∧ fd.closure = [])
    (k : ∀ env B, Room B n → EnvIs env fd.scope [] fd.code → Tr X B (ow env.locals (ns fun x => binds.reverse.lookup x) :: R) (execs body env) fun f R' => R.Sublist R' ∧ Φ (.ret (match f with | .ret v => v | _ => .none)) R)
    (hco : fd.scope.isCoroutine = false) (hgen : fd.scope.isGenerator = false) (hk : fd.scope.kind = .function) : TrC X A R (.call (.ref a) ⟨vals, []⟩) Φ :=
  tc_K C G hroom ho hcd hbody hbind hcell hloc (fun L r => (k (callEnv fd L a) _ r ⟨rfl, hg.1, hg.2.1, hg.2.2, rfl⟩).mono fun f R' h => ⟨R, h⟩) hco hgen hk
/-- as tc_fn; the ledger at the end is the callee's to say -/
theorem tc_fnR {oc : Value} {od : Option Addr} {osl : Array (Option Value)} {fd : FuncData} {a : Addr} {body : List Stmt} {vals : List Value} {binds : List (Str × Value)} {n : Nat} {Φ : Flow → Led → Prop} (C : KOk X K) (G : GlobOk X mg mb) (hroom : Room A (n + 1))
    (ho : K.lookup a = some ⟨oc, od, .func fd, osl⟩) (hcd : codeIn K fd.code fd.qualname = true) (hbody : fd.body = .stmts body) (hbind : bindArgs fd ⟨vals, []⟩ = Pure.pure binds)
    (hcell : ∀ x ∈ fd.scope.names, x.2 ≠ .cell) (hloc : ∀ x ∈ binds, fd.scope.names.lookup x.1 = some .local) (hg : fd.globals = mainGlobals ∧ fd.builtins = builtinsNs ∧ fd.closure = [])
    (k : ∀ env B, Room B n → EnvIs env fd.scope [] fd.code → Tr X B (ow env.locals (ns fun x => binds.reverse.lookup x) :: R) (execs body env) fun f R' => ∃ R'', R''.Sublist R' ∧ Φ (.ret (match f with | .ret v => v | _ => .none)) R'')
    (hco : fd.scope.isCoroutine = false) (hgen : fd.scope.isGenerator = false) (hk : fd.scope.kind = .function) : TrC X A R (.call (.ref a) ⟨vals, []⟩) Φ :=
  tc_K C G hroom ho hcd hbody hbind hcell hloc (fun L r => k (callEnv fd L a) _ r ⟨rfl, hg.1, hg.2.1, hg.2.2, rfl⟩) hco hgen hk

section
variable {Ψ : Value → Led → Prop}
theorem t_newTuple {vs : List Value} (hz : vs.length ≤ sizeLine) (k : ∀ a, Ψ (.ref a) (ow a (tu vs) :: R)) : Tr X A R (newTuple vs) Ψ := ⟨fun s I =>
  wpAny_newObj_type ⟨_, I.push _ rfl ⟨rfl, _, rfl⟩, k _⟩ (by show vs.toArray.size ≤ sizeLine; rw [List.size_toArray]; exact hz)⟩
theorem t_newList {vs : List Value} (hz : vs.length ≤ sizeLine) (k : ∀ a, Ψ (.ref a) (ow a (li vs) :: R)) : Tr X A R (newList vs) Ψ := ⟨fun s I =>
  wpAny_newObj_type ⟨_, I.push _ rfl ⟨_, rfl⟩, k _⟩ (by show vs.toArray.size ≤ sizeLine; rw [List.size_toArray]; exact hz)⟩
theorem t_tuple {elts : List Expr} {k' : Nat} {pos : Pos} (k : Tr X A R (spliced (backTo pos (starEach elts env))) fun vs R1 => vs.length ≤ sizeLine ∧ ∀ a, Ψ (.ref a) (ow a (tu vs) :: R1)) : Tr X A R (eval (.Tuple elts k' pos) env) Ψ := ⟨fun s I =>
  Tuple_ (k.use I fun vs s' R' I' h => (t_newTuple h.1 h.2).run s' I')⟩
theorem t_list {elts : List Expr} {pos : Pos} (k : Tr X A R (spliced (backTo pos (starEach elts env))) fun vs R1 => vs.length ≤ sizeLine ∧ ∀ a, Ψ (.ref a) (ow a (li vs) :: R1)) : Tr X A R (eval (.List elts pos) env) Ψ := ⟨fun s I =>
  List_ (k.use I fun vs s' R' I' h => (t_newList h.1 h.2).run s' I')⟩
end

theorem InvH.ext {h h' : Heap} {g : Array GenState} {os : OsState} {b : Addr} (I : InvH X R h g os) (he : Heap.ExtBut b h h') (hb : h.objs.size ≤ b) (hs : h.objs.size ≤ h'.objs.size) : InvH X R h' g os :=
  I.grow0 (fun c o e => he c o (Nat.ne_of_lt (Nat.lt_of_lt_of_le (Heap.lt_size e) hb)) e) hs

theorem t_unpackItems {t : Addr} {vs : List Value} {n : Nat} {Φ : List Value → Led → Prop} (hh : A.handled = none) (h : Has t (tu vs) R) (hn : n = vs.length) (k : Φ vs R) : Tr X A R (unpackItems (.ref t) n none) Φ := ⟨fun s I => by
  have e : n = vs.toArray.size := by rw [List.size_toArray]; exact hn
  subst e
  refine any_size (wpAny_unpackItems_tuple hh (I.at h) fun h' he hs => ⟨R, I.ext he (Nat.le_refl _) hs, k⟩)⟩

section
variable {Ψ : Flow → Led → Prop}
theorem t_assignSwap {elts k tpos value pos} {names : List Str} (k' : Tr X A R (eval value env) fun v R1 => Tr X A R1 (unpackItems v names.length none) fun items R2 => Tr X A R2 (assignInOrder (names.reverse.map fun n => bindName env n) items.reverse) fun _ => Ψ .next)
    (hw : swappedStores [.Tuple elts k tpos] value env = Pure.pure (some names)) (hs : swapsWithSole [.Tuple elts k tpos] value pos.line env = Pure.pure false := by rfl) : Tr X A R (exec (.Assign [.Tuple elts k tpos] value pos) env) Ψ := ⟨fun s I => by
  with_reducible exact Assign_Tuple_swapped (k'.use I fun v s₁ R₁ I₁ k₁ => k₁.use I₁ fun items s₂ R₂ I₂ k₂ => k₂.run s₂ I₂) hs hw⟩
theorem t_assignTup {elts k tpos value pos} (k' : Tr X A R (eval value env) fun v R1 => Tr X A R1 (assign (.Tuple elts k tpos) env v) fun _ => Ψ .next)
    (hw : swappedStores [.Tuple elts k tpos] value env = Pure.pure none := by rfl) (hs : swapsWithSole [.Tuple elts k tpos] value pos.line env = Pure.pure false := by rfl) : Tr X A R (exec (.Assign [.Tuple elts k tpos] value pos) env) Ψ := ⟨fun s I => by
  with_reducible exact Assign_Tuple (k'.use I fun v s₁ R₁ I₁ k₁ => k₁.run s₁ I₁) hs hw⟩
end
section
variable {Φ : Unit → Led → Prop}
theorem t_inOrder0 (k : Φ () R) : Tr X A R (assignInOrder [] []) Φ := Tr.pure k
theorem t_inOrder {f : Value → Sem Unit} {fs : List (Value → Sem Unit)} {v : Value} {vs : List Value} (k : Tr X A R (f v) fun _ R1 => Tr X A R1 (assignInOrder fs vs) Φ) : Tr X A R (assignInOrder (f :: fs) (v :: vs)) Φ := by
  rw [assignInOrder]
  exact (Tr.bind (Tr.holding k))
theorem t_bindName {x : Str} {v : Value} (k : Tr X A R (storeName env x v) Φ) : Tr X A R (bindName env x v) Φ := ⟨fun s I => wpAny_bindName (k.run s I)⟩
theorem t_assignName {x : Str} {pos : Pos} {v : Value} (k : Tr X A R (storeName env x v) Φ) : Tr X A R (assign (.Name x pos) env v) Φ := ⟨fun s I => wpAny_assign_Name (k.run s I)⟩
theorem t_assignTuple {elts : List Expr} {k' : Nat} {pos : Pos} {t : Addr} {vs : List Value} (hh : A.handled = none) (h : Has t (tu vs) R) (hn : (assignEach elts env).length = vs.length) (hstar : (assignEach elts env).findIdx? (·.1) = none)
    (k : Tr X A R (assignInOrder ((assignEach elts env).map (·.2)) vs) Φ) : Tr X A R (assign (.Tuple elts k' pos) env (.ref t)) Φ := by
  have e : assign (.Tuple elts k' pos) env (.ref t) = (do standAt pos; unpack (.ref t) (assignEach elts env)) := rfl
  rw [e]
  refine Tr.bind (t_at ?_)
  unfold unpack
  rw [hstar]
  exact Tr.bind (Tr.holding (t_unpackItems hh h hn k))
end
theorem swapped2 {x y : Str} {p p' p1 p2 : Pos} {k k' : Nat} {e1 e2 : Expr} (hb : env.scope.kind = .function) (h1 : env.kindOf x = some .local) (h2 : env.kindOf y = some .local) (l1 : p1.line = p2.line) (hne : (x == y) = false)
    (hst : ([e1, e2].any fun | .Starred .. => true | _ => false) = false) (hf : [e1, e2].all (foldedForSure 8) = false) (hc : [e1, e2].all (constantsAlone 8) = false) :
    swappedStores [.Tuple [.Name x p1, .Name y p2] k p] (.Tuple [e1, e2] k' p') env = Pure.pure (some [x, y]) := by
  have hb' : env.blockKind = .function := by
    unfold Env.blockKind
    rw [hb]; rfl
  have p1' : (Expr.Name x p1).pos = p1 := rfl
  have hne' : ¬ (y = x) := fun e => by subst e; simp at hne
  have hyx : (y == x) = false := by simpa using hne'
  unfold swappedStores
  simp only [bind_pure_comp]
  simp only [List.length_cons, List.length_nil, hb']
  simp only [hf, hc]
  simp only [List.filterMap_cons, List.filterMap_nil, h1, h2, p1', ← l1, List.head?_cons, Option.map_some, Option.getD_some]
  simp only [List.any_cons, List.any_nil, Bool.or_false, Bool.or_eq_false_iff] at hst
  simp [hyx, List.eraseDups_cons]
  intro h
  rcases h with h | h
  · exact absurd (h.symm.trans hst.1) (by decide)
  · exact absurd (h.symm.trans hst.2) (by decide)
end
end Mine
namespace Mine
open PySem PySem.W PySem.Calls PyProof.Rows PySem.Builtin PySem.Builtin.Str

/-! texts sought between two places -/
def find4 (x y : Str) (i j : Int) : Int := match occurrences x y (fromIndex x.length i) (min (fromIndex x.length j) x.length) 1 with | k :: _ => (k : Int) | [] => -1
def rfind4 (x y : Str) (i j : Int) : Int := match lastOccurrence x y (fromIndex x.length i) (min (fromIndex x.length j) x.length) with | some k => (k : Int) | none => -1
theorem gives_find4 (x y : Str) (i j : Int) (t u v v' : Tok) : Gives («str.find» ⟨[.str x t, .str y u, .int i v, .int j v'], []⟩) (.int (find4 x y i j)) := by
  show Gives (match occurrences x y (fromIndex x.length i) (min (fromIndex x.length j) x.length) 1 with | k :: _ => retInt k | [] => (do rule "str.find.not-found"; retInt (-1))) _
  unfold find4
  cases occurrences x y (fromIndex x.length i) (min (fromIndex x.length j) x.length) 1 with
  | nil => exact .rule (.of_eq rfl)
  | cons k _ => exact .of_eq rfl
theorem gives_rfind4 (x y : Str) (i j : Int) (t u v v' : Tok) : Gives («str.rfind» ⟨[.str x t, .str y u, .int i v, .int j v'], []⟩) (.int (rfind4 x y i j)) := by
  show Gives (match lastOccurrence x y (fromIndex x.length i) (min (fromIndex x.length j) x.length) with | some k => retInt k | none => (do rule "str.rfind.not-found"; retInt (-1))) _
  unfold rfind4
  cases lastOccurrence x y (fromIndex x.length i) (min (fromIndex x.length j) x.length) with
  | none => exact .rule (.of_eq rfl)
  | some k => exact .of_eq rfl

section
variable {α β : Type} {X : Amb} {A : Around} {R R' : Led} {env : Env} {mg mb : Str → Option Value} {K : Frag}

section
variable {Ψ : Value → Led → Prop} {x y : Str} {t u v v' : Tok} {i j : Int}
theorem t_find (k : ∀ t', Ψ (.int (Txt.find x y) t') R) : Tr X A R (call (.builtin "str.find") [.str x t, .str y u]) Ψ := ⟨fun s I => by with_reducible exact SC.find ⟨R, I, k _⟩⟩
theorem t_find4 (k : ∀ t', Ψ (.int (find4 x y i j) t') R) : Tr X A R (call (.builtin "str.find") [.str x t, .str y u, .int i v, .int j v']) Ψ := ⟨fun s I =>
  call_gives F.slot_str_find (typeIs_str _ _ _) F.entry_str_find (F.args_str_find_4 _ _ _ _) (gives_find4 x y i j t u v v') ⟨R, I, k _⟩⟩
theorem t_rfind4 (k : ∀ t', Ψ (.int (rfind4 x y i j) t') R) : Tr X A R (call (.builtin "str.rfind") [.str x t, .str y u, .int i v, .int j v']) Ψ := ⟨fun s I =>
  call_gives F.slot_str_rfind (typeIs_str _ _ _) F.entry_str_rfind (F.args_str_rfind_4 _ _ _ _) (gives_rfind4 x y i j t u v v') ⟨R, I, k _⟩⟩
theorem t_lenS (hx : x.length ≤ sizeLine) (k : ∀ t', Ψ (.int x.length t') R) : Tr X A R (call (.builtin "len") [.str x t]) Ψ := ⟨fun s I =>
  P.len_str (by rw [sizeLine_eq] at hx; omega) ⟨R, I, k _⟩⟩
theorem t_lenL {l : Addr} {vs : List Value} (hl : Has l (li vs) R) (hx : vs.length ≤ sizeLine) (k : ∀ t', Ψ (.int vs.length t') R) : Tr X A R (call (.builtin "len") [.ref l]) Ψ := ⟨fun s I => by
  have e : (List.toArray vs).size = vs.length := List.size_toArray
  exact call_len_list (I.at hl).isList (by rw [e]; rw [sizeLine_eq] at hx; omega) ⟨R, I, by rw [e]; exact k _⟩⟩
end
section
variable {Φ : Value × List Value → Led → Prop} {x : Str} {t : Tok} {pl : Sem Bool}
theorem t_mFind (k : Φ (.builtin "str.find", [.str x t]) R) : Tr X A R (getMethod (.str x t) "find" pl) Φ := ⟨fun s I => by with_reducible exact GM.find ⟨R, I, k⟩⟩
theorem t_mRfind (k : Φ (.builtin "str.rfind", [.str x t]) R) : Tr X A R (getMethod (.str x t) "rfind" pl) Φ := ⟨fun s I => by with_reducible exact GM.rfind ⟨R, I, k⟩⟩
end

/-! subscripts -/
section
variable {Ψ : Value → Led → Prop}
theorem t_subscr {value slice pos} (k : Tr X A R (eval value env) fun o R1 => Tr X A R1 (eval slice env) fun i R2 => Tr X A R2 (subscriptTail value slice o i) Ψ) : Tr X A R (eval (.Subscript value slice pos) env) Ψ := ⟨fun s I =>
  Subscript_ (k.use I fun o s₁ R₁ I₁ k₁ => k₁.use I₁ fun i s₂ R₂ I₂ k₂ => k₂.run s₂ I₂)⟩
/-- the end of a subscript of a built-in type's -/
theorem t_subTail {value slice : Expr} {o i : Value} {T id : String} {ops : List Value} (hT : ∀ s, Inv X R s → s.TypeIs o T) (hl : typeLookup (.type T) "__getitem__" = Pure.pure (some (.builtin id)))
    (hs : subscripted slice false o i = operate ops (getItem o i)) (k : Tr X A R (getItem o i) Ψ) : Tr X A R (subscriptTail value slice o i) Ψ := ⟨fun s I => by
  unfold subscriptTail
  refine wpAny_bind ?_
  rw [getitemInPython_of_ne (hT s I).not_modules]
  refine wpAny_bind (wpAny_specialOf (hT s I) hl ?_)
  have fin : wpAny (model X.prog X.w) A (subscripted slice false o i) (fun r s₃ => wpAny (model X.prog X.w) A (letTemporaryGo value o r >>= fun _ => Pure.pure r) (fun v s' => ∃ R', Inv X R' s' ∧ Ψ v R') (fun _ _ => False) s₃) (fun _ _ => False) s := by
    rw [hs]
    exact wpAny_operating (wpAny_mono (k.run s I) (fun r s₃ h₃ => wpAny_bind (wpAny_letTemporaryGo (wpAny_pure h₃))) fun _ _ x => x)
  first
    | exact wpAny_pure (wpAny_bind fin)
    | exact wpAny_bind (wpAny_pure (wpAny_bind fin))
    | exact wpAny_bind fin⟩
theorem t_subS {value slice : Expr} {x : Str} {t u : Tok} {i : Int} {c : Nat} (hr : (decide (i < -(2 ^ 63 : Int)) || decide (i ≥ 2 ^ 63)) = false) (hc : (seqIndex? i x.length).bind (x.cps[·]?) = some c) (k : ∀ t', Ψ (.str ⟨#[c]⟩ t') R)
    (hs : subscripted slice false (.str x t) (.int i u) = operate [.str x t, .int i u] (getItem (.str x t) (.int i u)) := by rfl) : Tr X A R (subscriptTail value slice (.str x t) (.int i u)) Ψ :=
  t_subTail (fun s _ => typeIs_str s x t) F.slot_str_getitem.lookup hs ⟨fun s I => P.getItem_str hr hc ⟨R, I, k _⟩⟩
theorem list_typeIs {s : Shared} {l : Addr} {vs : List Value} (I : Inv X R s) (h : Has l (li vs) R) : s.TypeIs (.ref l) "list" := Heap.IsList.typeIs (items := vs.toArray) (I.at h).isList
theorem t_subL {value slice : Expr} {l : Addr} {vs : List Value} {u : Tok} {i : Int} {v : Value} (h : Has l (li vs) R) (h0 : 0 ≤ i) (hi : i < 2 ^ 63) (hv : vs[i.toNat]? = some v) (k : Ψ v R)
    (hs : subscripted slice false (.ref l) (.int i u) = operate [.ref l, .int i u] (getItem (.ref l) (.int i u)) := by rfl) : Tr X A R (subscriptTail value slice (.ref l) (.int i u)) Ψ :=
  t_subTail (fun s I => list_typeIs I h) slot_list_getitem.lookup hs ⟨fun s I => wpAny_getItem_list (I.at h).isList h0 hi (by simpa using hv) ⟨R, I, k⟩⟩

theorem eval_Slice_eq (lower upper : Option Expr) (p : Pos) : eval (.Slice lower upper none p) env = (do
    let l ← valueOrNone (evalOpt lower env)
    let u ← PySem.holding [l] (valueOrNone (evalOpt upper env))
    let s ← PySem.holding [l, u] (Pure.pure .none)
    newFields "slice" [l, u, s]) := rfl
theorem t_slice {lower upper : Option Expr} {p : Pos} (k : Tr X A R (valueOrNone (evalOpt lower env)) fun l R1 => Tr X A R1 (valueOrNone (evalOpt upper env)) fun u R2 => ∀ a, Ψ (.ref a) (ow a (ob { cls := .type "slice", data := .fields #[l, u, .none] }) :: R2)) : Tr X A R (eval (.Slice lower upper none p) env) Ψ := by
  rw [eval_Slice_eq]
  refine Tr.bind (k.mono fun l R1 k1 => Tr.bind (Tr.holding (k1.mono fun u R2 k2 => Tr.bind (Tr.holding (Tr.pure ?_)))))
  exact ⟨fun s I => wpAny_newObj_type ⟨_, I.push (c := ob { cls := .type "slice", data := .fields #[l, u, .none] }) _ rfl rfl, k2 _⟩ (by size_fits)⟩
theorem t_partNone (k : Ψ .none R) : Tr X A R (valueOrNone (evalOpt none env)) Ψ := Tr.pure k
theorem t_partSome {e : Expr} (k : Tr X A R (eval e env) Ψ) : Tr X A R (valueOrNone (evalOpt (some e) env)) Ψ := k
theorem sub_slice_eq {lower upper : Option Expr} {p : Pos} {o i : Value} {b : Bool} : subscripted (.Slice lower upper none p) b o i = operate [i, o] (getItem o i) := by
  unfold subscripted
  cases b <;> rfl
/-- a text cut: the slice is the newest entry -/
theorem t_cutS {value : Expr} {lower upper : Option Expr} {p : Pos} {x : Str} {t : Tok} {a : Addr} {l u : Option (Int × Tok)} (hx : x.length ≤ sizeLine) (h : Has a (ob { cls := .type "slice", data := .fields #[partValue l, partValue u, .none] }) R) (k : ∀ t', Ψ (.str (Txt.slice x (l.map (·.1)) (u.map (·.1))) t') R) :
    Tr X A R (subscriptTail value (.Slice lower upper none p) (.str x t) (.ref a)) Ψ := by
  refine t_subTail (ops := [.ref a, .str x t]) (fun s _ => typeIs_str s x t) F.slot_str_getitem.lookup sub_slice_eq ⟨fun s I => ?_⟩
  have hs : s.heap.IsSlice a l u none := ⟨_, (I.at h).ob, rfl, rfl⟩
  have hp : (sliceMade x t l u none).post (fun v s' => ∃ R', Inv X R' s' ∧ Ψ v R') s := by
    have hz := Nat.le_trans (Txt.slice_le x (l.map (·.1)) (u.map (·.1))) hx
    generalize hy : Txt.slice x (l.map (·.1)) (u.map (·.1)) = y at k hz
    unfold sliceMade slicePicked
    unfold Txt.slice at hy
    have e1 : ((Option.map (fun x : Int × Tok => x.1) none).getD (1 : Int)) = 1 := rfl
    rw [e1]
    generalize (strSliceIndices (l.map (·.1)) (u.map (·.1)) 1 x.length) = z at hy
    refine post_val_or_str (c := ((1 : Int) == 1 && z.length == x.length) = true) ?_
    rw [hy]
    exact ⟨hz, fun t' k' => ⟨R, I, k t'⟩⟩
  with_reducible exact wpAny_getItem_str_slice hs rfl hp
theorem t_cutL {value : Expr} {lower upper : Option Expr} {p : Pos} {b : Addr} {vs : List Value} {a : Addr} {vl vu : Value} {lo hi : Option Int} (hz : vs.length ≤ sizeLine) (hb : ∀ s, Inv X R s → s.heap.IsList b vs.toArray) (h : Has a (ob { cls := .type "slice", data := .fields #[vl, vu, .none] }) R) (pl : IsPart vl lo) (pu : IsPart vu hi)
    (k : ∀ c, Ψ (.ref c) (ow c (li (slicePick vs.toArray lo hi none).toList) :: R)) : Tr X A R (subscriptTail value (.Slice lower upper none p) (.ref b) (.ref a)) Ψ := by
  refine t_subTail (ops := [.ref a, .ref b]) (fun s I => Heap.IsList.typeIs (hb s I)) slot_list_getitem.lookup sub_slice_eq ⟨fun s I => ?_⟩
  have hs : s.heap.IsSliceOf a vl vu .none := ⟨_, (I.at h).ob, rfl, rfl⟩
  have hl : s.heap.IsList b vs.toArray := hb s I
  have hI : Inv X (ow s.heap.objs.size (li (slicePick vs.toArray lo hi none).toList) :: R) { s with heap := s.heap.push { cls := .type "list", data := .seq (slicePick vs.toArray lo hi none) } } :=
    I.push _ rfl ⟨_, by rw [Array.toArray_toList]⟩
  exact wpAny_getItem_list_slice hl hs pl pu .none (by simp) ⟨_, hI, k _⟩ (by rw [List.size_toArray]; exact hz)
end
end
end Mine
namespace Mine
open PySem PySem.W PySem.Calls PyProof.Rows

theorem bt_len : bootBuiltins "len" = some (.builtin "len") := by decide +kernel
theorem bt_range : bootBuiltins "range" = some (.type "range") := by decide +kernel
theorem bt_min : bootBuiltins "min" = some (.builtin "min") := by decide +kernel
theorem bt_divmod : bootBuiltins "divmod" = some (.builtin "divmod") := by decide +kernel
theorem bt_list : bootBuiltins "list" = some (.type "list") := by decide +kernel
theorem bt_reversed : bootBuiltins "reversed" = some (.type "reversed") := by decide +kernel
theorem bt_sum : bootBuiltins "sum" = some (.builtin "sum") := by decide +kernel
theorem bt_chr : bootBuiltins "chr" = some (.builtin "chr") := by decide +kernel
theorem bt_zip : bootBuiltins "zip" = some (.type "zip") := by decide +kernel
theorem sz_lit {l : List Value} (h : decide (l.length ≤ 1000) = true) : l.length ≤ sizeLine := by
  have := of_decide_eq_true h
  rw [sizeLine_eq]; omega
def look : List Str → List (Option Value) → Str → Option Value
  | n :: N, v :: vs, x => if x = n then v else look N vs x
  | _, _, _ => none
/-- a frame: its names in a fixed order, and what each holds -/
def fr (N : List Str) (vs : List (Option Value)) : Cell := fun o => N.Nodup ∧ ns (look N vs) o
inductive Var (x : Str) (v : Option Value) : List Str → List (Option Value) → Prop
  | head {N vs} : Var x v (x :: N) (v :: vs)
  | tail {N vs y w} : Var x v N vs → Var x v (y :: N) (w :: vs)
inductive VarSet (x : Str) (v : Option Value) : List Str → List (Option Value) → List (Option Value) → Prop
  | head {N vs w} : VarSet x v (x :: N) (w :: vs) (v :: vs)
  | tail {N vs vs' y w} : VarSet x v N vs vs' → VarSet x v (y :: N) (w :: vs) (w :: vs')
theorem Var.mem {x : Str} {v : Option Value} : ∀ {N vs}, Var x v N vs → x ∈ N
  | _, _, .head => .head _
  | _, _, .tail h => .tail _ h.mem
theorem VarSet.mem {x : Str} {v : Option Value} : ∀ {N vs vs'}, VarSet x v N vs vs' → x ∈ N
  | _, _, _, .head => .head _
  | _, _, _, .tail h => .tail _ h.mem
theorem Var.look {x : Str} {v : Option Value} {N : List Str} {vs : List (Option Value)} (hn : N.Nodup) (h : Var x v N vs) : look N vs x = v := by
  induction h with
  | head => simp [Mine.look]
  | @tail N vs y w h ih =>
    have hn' := List.nodup_cons.mp hn
    have : x ≠ y := fun e => hn'.1 (e ▸ h.mem)
    simp only [Mine.look, this, if_false]
    exact ih hn'.2
theorem VarSet.look {x : Str} {v : Option Value} {N : List Str} {vs vs' : List (Option Value)} (hn : N.Nodup) (h : VarSet x v N vs vs') (y : Str) : look N vs' y = if y = x then v else look N vs y := by
  induction h with
  | head =>
    simp only [Mine.look]
    split <;> rfl
  | @tail N vs vs' z w h ih =>
    have hn' := List.nodup_cons.mp hn
    have hx : z ≠ x := fun e => hn'.1 (e ▸ h.mem)
    simp only [Mine.look]
    by_cases hy : y = z
    · subst hy; simp [hx]
    · simp only [hy, if_false]
      exact ih hn'.2

/-- what a frame's environment says of its names -/
structure Fn (env : Env) (N : List Str) (Gs : List Str) (Cs : List (Str × Addr)) : Prop where
  kind : env.scope.kind = .function
  loc : ∀ x ∈ N, env.kindOf x = some .local
  glo : ∀ x ∈ Gs, env.kindOf x = some .globalImplicit
  g : env.globals = mainGlobals
  b : env.builtins = builtinsNs
  ce : env.cells = Cs
  cel : ∀ x ∈ Cs, env.kindOf x.1 = some .cell ∨ env.kindOf x.1 = some .free
  cnd : (Cs.map (·.1)).Nodup
  dN : ∀ x ∈ N, (x == ("__debug__" : Str)) = false
  dG : ∀ x ∈ Gs, (x == ("__debug__" : Str)) = false ∧ x ≠ "__name__"
  dC : ∀ x ∈ Cs, (x.1 == ("__debug__" : Str)) = false ∧ (x.1 == ("__classdict__" : Str)) = false
theorem lookup_of_mem {α : Type} : ∀ {l : List (Str × α)} {n : Str} {c : α}, (l.map (·.1)).Nodup → (n, c) ∈ l → l.lookup n = some c
  | (k, v) :: r, n, c, hn, h => by
    have hn' := List.nodup_cons.mp hn
    rcases List.mem_cons.mp h with e | h
    · cases e; simp
    · have : n ≠ k := fun e => hn'.1 (List.mem_map.mpr ⟨_, h, e⟩)
      have : (n == k) = false := by simpa using this
      rw [List.lookup_cons, this]
      exact lookup_of_mem hn'.2 h

section
variable {α β : Type} {X : Amb} {A : Around} {R R' : Led} {env : Env} {mg mb : Str → Option Value} {K : Frag} {N Gs : List Str} {Cs : List (Str × Addr)}
theorem InvH.fr {h : Heap} {g : Array GenState} {os : OsState} (I : InvH X R h g os) {a : Addr} {vs : List (Option Value)} (x : Has a (fr N vs) R) : N.Nodup ∧ h.Ns a (look N vs) := by
  obtain ⟨o, e, hn, z⟩ := I.at x
  exact ⟨hn, (At.ns ⟨o, e, z⟩)⟩
section
variable {Ψ : Value → Led → Prop}
theorem f_load {x : Str} {v : Value} {vs : List (Option Value)} (F : Fn env N Gs Cs) (h : Has env.locals (fr N vs) R) (hv : Var x (some v) N vs) (k : Ψ v R) : Tr X A R (loadName env x) Ψ := ⟨fun s I => by
  have z := I.fr h
  with_reducible exact wpAny_loadName_local F.kind (F.loc x hv.mem) z.2 (hv.look z.1) ⟨R, I, k⟩⟩
theorem f_name {x : Str} {pos : Pos} {v : Value} {vs : List (Option Value)} (F : Fn env N Gs Cs) (h : Has env.locals (fr N vs) R) (hv : Var x (some v) N vs) (k : Ψ v R) : Tr X A R (eval (.Name x pos) env) Ψ := t_name (f_load F h hv k) (F.dN _ hv.mem)
theorem f_nameC {x : Str} {pos : Pos} {v : Value} {c : Addr} (F : Fn env N Gs Cs) (hx : (x, c) ∈ Cs) (h : Has c (cl (some v)) R) (k : Ψ v R) : Tr X A R (eval (.Name x pos) env) Ψ := by
  have hd := (F.dC _ hx).1
  have hn := (F.dC _ hx).2
  have hl : env.cells.lookup x = some c := by rw [F.ce]; exact lookup_of_mem F.cnd hx
  rcases F.cel _ hx with hk | hk
  · exact t_name (t_loadC F.kind hk hl h k) hd
  · exact t_name (t_loadF F.kind hk hl h k hn) hd
theorem f_glob {x : Str} {pos : Pos} {v : Value} (F : Fn env N Gs Cs) (G : GlobOk X mg mb) (hx : x ∈ Gs) (hv : mg x = some v) (k : Ψ v R) : Tr X A R (eval (.Name x pos) env) Ψ := t_name (t_loadG G F.kind (F.glo x hx) F.g hv k) (F.dG _ hx).1
theorem f_built {x : Str} {pos : Pos} {v : Value} (F : Fn env N Gs Cs) (G : GlobOk X mg mb) (hx : x ∈ Gs) (hm : mg x = none) (hv : bootBuiltins x = some v) (k : Ψ v R) : Tr X A R (eval (.Name x pos) env) Ψ := t_name (t_loadB G F.kind (F.glo x hx) F.g F.b hm hv (F.dG _ hx).2 k) (F.dG _ hx).1
end
/-- one turn of a while -/
theorem tc_turn {test : Expr} {body orelse : List Stmt} {Φ : Flow → Led → Prop}
    (k : Tr X A R (isTrue test env (eval test env)) fun b R1 => Br b (Tr X A R1 (execs body env) (Lo (fun R2 => TrC X A R2 (.whileLoop test body orelse env) Φ) Φ)) (Tr X A R1 (execs orelse env) Φ)) : TrC X A R (.whileLoop test body orelse env) Φ := by
  refine ⟨fun s I => codeAny_of_tree ?_⟩
  show wpAny _ A ((whileTurn test body orelse env).onRaise (fun x => do noteFrame x env; theTreesLotGoes x)) _ _ s
  refine wpAny_noted ?_
  simp only [whileTurn]
  refine wpAny_bind (k.use I fun b s₂ R₂ I₂ h₂ => ?_)
  cases b with
  | false =>
    simp only [Bool.false_eq_true, if_false]
    exact wpAny_bind (Tr.use h₂ I₂ fun f s₃ R₃ I₃ h₃ => wpAny_pure ⟨R₃, I₃, h₃⟩)
  | true =>
    simp only [if_true]
    refine wpAny_bind (Tr.use h₂ I₂ fun f s₃ R₃ I₃ h₃ => ?_)
    cases f with
    | next => exact wpAny_pure ⟨rfl, h₃.run s₃ I₃⟩
    | cont => exact wpAny_pure ⟨rfl, h₃.run s₃ I₃⟩
    | brk => exact wpAny_pure ⟨R₃, I₃, h₃⟩
    | ret v => exact wpAny_pure ⟨R₃, I₃, h₃⟩
/-- a while by a measure: its ledger at n -/
theorem tc_whileS {τ : Type} {test : Expr} {body orelse : List Stmt} {Φ : Flow → Led → Prop} (P : Nat → τ → Prop) (S : τ → Led)
    (turn : ∀ n x, P n x → Tr X A (S x) (isTrue test env (eval test env)) fun b R1 => Br b (Tr X A R1 (execs body env) (Lo (fun R2 => ∃ m y, m < n ∧ P m y ∧ (S y).Sublist R2) Φ)) (Tr X A R1 (execs orelse env) Φ))
    (n : Nat) (x : τ) (hp : P n x) (h : (S x).Sublist R) : TrC X A R (.whileLoop test body orelse env) Φ := by
  refine tc_while (fun n R => ∃ x, P n x ∧ (S x).Sublist R) (fun n R hw => ?_) n ⟨x, hp, h⟩
  obtain ⟨x, hp, hs⟩ := hw
  refine ((turn n x hp).weak hs).mono fun b R1 hb => ?_
  cases b
  · exact hb
  · refine Tr.mono (show Tr X A R1 (execs body env) (Lo (fun R2 => ∃ m y, m < n ∧ P m y ∧ (S y).Sublist R2) Φ) from hb) fun f R2 hf => ?_
    cases f
    · obtain ⟨m, y, a, b, c⟩ := hf; exact ⟨m, a, y, b, c⟩
    · exact hf
    · obtain ⟨m, y, a, b, c⟩ := hf; exact ⟨m, a, y, b, c⟩
    · exact hf
theorem t_cutP {Ψ : Value → Led → Prop} {value : Expr} {lower upper : Option Expr} {p : Pos} {x : Str} {t : Tok} {a : Addr} {vl vu : Value} {lo hi : Option Int} (hx : x.length ≤ sizeLine) (h : Has a (ob { cls := .type "slice", data := .fields #[vl, vu, .none] }) R) (pl : IsPart vl lo) (pu : IsPart vu hi) (k : ∀ t', Ψ (.str (Txt.slice x lo hi) t') R) :
    Tr X A R (subscriptTail value (.Slice lower upper none p) (.str x t) (.ref a)) Ψ := by
  cases pl <;> cases pu
  · exact t_cutS (l := none) (u := none) hx h k
  · exact t_cutS (l := none) (u := some (_, _)) hx h k
  · exact t_cutS (l := some (_, _)) (u := none) hx h k
  · exact t_cutS (l := some (_, _)) (u := some (_, _)) hx h k
theorem t_orNone {Ψ : Value → Led → Prop} {x : Str} {p1 p2 pos : Pos} {k : Nat} {vs : List (Option Value)} {i : Int} {t : Tok} (F : Fn env N Gs Cs) (h : Has env.locals (fr N vs) R) (hv : Var x (some (.int i t)) N vs) (kk : ∀ u, IsPart u (if i = 0 then none else some i) → Ψ u R) :
    Tr X A R (eval (.BoolOp .Or [.Name x p1, .Constant .none k p2] pos) env) Ψ := by
  refine t_or2 (f_name F h hv (t_tInt ?_))
  by_cases hi : i = 0
  · subst hi
    refine br_n (by decide) (t_none (kk _ ?_))
    rw [if_pos rfl]; exact .none
  · refine br_y (by simpa using hi) (kk _ ?_)
    rw [if_neg hi]; exact .int _ _
theorem f_storeC {Ψ : Unit → Led → Prop} {x : Str} {v : Value} {v₀ : Option Value} {c : Addr} (F : Fn env N Gs Cs) (hx : (x, c) ∈ Cs) (hc : env.kindOf x = some .cell) (u : Upd c (cl v₀) (cl (some v)) R R') (k : Ψ () R') : Tr X A R (storeName env x v) Ψ :=
  t_storeC F.kind hc (by rw [F.ce]; exact lookup_of_mem F.cnd hx) u k
theorem f_store {Ψ : Unit → Led → Prop} {x : Str} {v : Value} {vs vs' : List (Option Value)} (F : Fn env N Gs Cs) (hv : VarSet x (some v) N vs vs') (u : Upd env.locals (fr N vs) (fr N vs') R R') (k : Ψ () R') : Tr X A R (storeName env x v) Ψ := ⟨fun s I => by
  have z := I.fr u.has
  refine wpAny_storeName_local (F.loc x hv.mem) z.2 (fun h' hn hs => ⟨R', I.update u hs ?_, k⟩) (by rw [F.kind]; rfl)
  obtain ⟨o, es, ep, e, z', z2, w⟩ := hn
  exact ⟨o, e, z.1, es, ep, z', z2, fun y => (w y).trans (hv.look z.1 y).symm⟩⟩
section
variable {Ψ : Value → Led → Prop} {pos : Pos} {args : List Expr}
theorem t_callB0 {id : String} (hst : (backTo pos (starEach args env)).any (·.1) = false) (k : Tr X A R (spliced (backTo pos (starEach args env))) fun vs R1 => Tr X A R1 (call (.builtin id) vs) Ψ) : Tr X A R (callWith pos (.builtin id) [] (backTo pos (starEach args env)) []) Ψ := t_callB hst k
theorem t_callB1 {id : String} {o : Value} (hst : (backTo pos (starEach args env)).any (·.1) = false) (k : Tr X A R (spliced (backTo pos (starEach args env))) fun vs R1 => Tr X A R1 (call (.builtin id) (o :: vs)) Ψ) : Tr X A R (callWith pos (.builtin id) [o] (backTo pos (starEach args env)) []) Ψ := t_callB hst k
theorem t_callT0 {id : String} (hst : (backTo pos (starEach args env)).any (·.1) = false) (k : Tr X A R (spliced (backTo pos (starEach args env))) fun vs R1 => Tr X A R1 (call (.type id) vs) Ψ) : Tr X A R (callWith pos (.type id) [] (backTo pos (starEach args env)) []) Ψ := t_callT hst k
theorem t_callK0 {oc : Value} {od : Option Addr} {osl : Array (Option Value)} {fd : FuncData} {a : Addr} (C : KOk X K) (ho : K.lookup a = some ⟨oc, od, .func fd, osl⟩) (hst : (backTo pos (starEach args env)).any (·.1) = false) (k : Tr X A R (spliced (backTo pos (starEach args env))) fun vs R1 => Tr X A R1 (call (.ref a) vs) Ψ) : Tr X A R (callWith pos (.ref a) [] (backTo pos (starEach args env)) []) Ψ :=
  t_callFn (fd := fd) hst (k.mono fun vs R1 h => ⟨fun s I => ⟨_, C.inK I _ _ ho, rfl⟩, h⟩)
end
theorem t_swapAssign {Ψ : Flow → Led → Prop} {x y : Str} {p p' p1 p2 pos : Pos} {k k' : Nat} {e1 e2 : Expr} (F : Fn env N Gs Cs) (hh : A.handled = none) (hx : x ∈ N) (hy : y ∈ N) (l1 : p1.line = p2.line) (hne : (x == y) = false)
    (hst : ([e1, e2].any fun | .Starred .. => true | _ => false) = false) (hf : [e1, e2].all (foldedForSure 8) = false) (hc : [e1, e2].all (constantsAlone 8) = false)
    (hs : swapsWithSole [.Tuple [.Name x p1, .Name y p2] k p] (.Tuple [e1, e2] k' p') pos.line env = Pure.pure false) (he1 : ∀ r, starEach (e1 :: r) env = (false, eval e1 env) :: starEach r env) (he2 : ∀ r, starEach (e2 :: r) env = (false, eval e2 env) :: starEach r env)
    (kk : Tr X A R (eval e1 env) fun v1 R1 => Tr X A R1 (eval e2 env) fun v2 R2 => ∀ a, Tr X A (ow a (tu [v1, v2]) :: R2) (storeName env y v2) fun _ R3 => Tr X A R3 (storeName env x v1) fun _ => Ψ .next) :
    Tr X A R (exec (.Assign [.Tuple [.Name x p1, .Name y p2] k p] (.Tuple [e1, e2] k' p') pos) env) Ψ := by
  refine t_assignSwap (names := [x, y]) ?_ (swapped2 F.kind (F.loc _ hx) (F.loc _ hy) l1 hne hst hf hc) hs
  refine t_tuple (t_args (kk.mono fun v1 R1 k1 => t_args (k1.mono fun v2 R2 k2 => t_args0 ⟨by size_fits, fun a => ?_⟩) (he2 _)) (he1 _))
  refine t_unpackItems hh .head rfl ?_
  refine t_inOrder (t_bindName ((k2 a).mono fun _ R3 k3 => t_inOrder (t_bindName (k3.mono fun _ R4 k4 => t_inOrder0 k4))))
/-- a def of the text is called: its frame; the names that it was given stand first -/
theorem tc_fnF {oc : Value} {od : Option Addr} {osl : Array (Option Value)} {fd : FuncData} {a : Addr} {body : List Stmt} {vals : List Value} {binds : List (Str × Value)} {n : Nat} {Φ : Flow → Led → Prop} {N : List Str} (Gs : List Str) (vs : List (Option Value)) (C : KOk X K) (G : GlobOk X mg mb) (hroom : Room A (n + 1))
    (ho : K.lookup a = some ⟨oc, od, .func fd, osl⟩) (hcd : codeIn K fd.code fd.qualname = true) (hbody : fd.body = .stmts body) (hbind : bindArgs fd ⟨vals, []⟩ = Pure.pure binds)
    (hcell : ∀ x ∈ fd.scope.names, x.2 ≠ .cell) (hg : fd.globals = mainGlobals ∧ fd.builtins = builtinsNs ∧ fd.closure = [])
    (hN : N = (fd.scope.names.filterMap fun x => if x.2 = .local then some x.1 else none)) (hGs : ∀ x ∈ Gs, fd.scope.names.lookup x = some .globalImplicit ∧ (x == ("__debug__" : Str)) = false ∧ x ≠ "__name__") (hnd : N.Nodup ∧ ∀ x ∈ N, fd.scope.names.lookup x = some .local ∧ (x == ("__debug__" : Str)) = false) (hb : binds.map (·.1) = N.take binds.length) (hvs : vs = binds.map (fun x => some x.2) ++ List.replicate (N.length - binds.length) none)
    (k : ∀ env B, Room B n → Fn env N Gs [] → Tr X B (ow env.locals (fr N vs) :: R) (execs body env) fun f R' => ∃ R'', R''.Sublist R' ∧ Φ (.ret (match f with | .ret v => v | _ => .none)) R'')
    (hco : fd.scope.isCoroutine = false) (hgen : fd.scope.isGenerator = false) (hk : fd.scope.kind = .function) : TrC X A R (.call (.ref a) ⟨vals, []⟩) Φ := by
  have hbn : (binds.map (·.1)).Nodup := by rw [hb]; exact hnd.1.sublist (List.take_sublist _ _)
  have hlk : ∀ x, binds.reverse.lookup x = look N vs x := by
    intro x
    have e1 : binds.reverse.lookup x = binds.lookup x := by
      clear hb hvs hbind
      induction binds with
      | nil => rfl
      | cons p ps ih =>
        have hq := List.nodup_cons.mp hbn
        rw [List.reverse_cons, List.lookup_append, ih hq.2]
        obtain ⟨y, v⟩ := p
        by_cases hx : x = y
        · subst hx
          have : ps.lookup x = none := by
            rw [List.lookup_eq_none_iff]
            intro p hp
            have : x ≠ p.1 := fun e => hq.1 (List.mem_map.mpr ⟨p, hp, e.symm⟩)
            simpa using this
          rw [this]; simp
        · have : (x == y) = false := by simpa using hx
          simp [List.lookup_cons, this]
    rw [e1]
    have e2 : N = binds.map (·.1) ++ N.drop binds.length := by rw [hb, List.take_append_drop]
    generalize N.length - binds.length = j at hvs
    rw [e2, hvs]
    have hz : ∀ (M : List Str) k, look M (List.replicate k none) x = none := by
      intro M
      induction M with
      | nil => intro k; rfl
      | cons m M ih => intro k; cases k with
        | zero => rfl
        | succ k => simp only [List.replicate_succ, look]; split
                    · rfl
                    · exact ih k
    generalize N.drop binds.length = M
    clear e1 e2 hb hvs hbind hbn
    induction binds with
    | nil => simp [hz]
    | cons p ps ih =>
      obtain ⟨y, v⟩ := p
      by_cases hx : x = y
      · subst hx; simp [look]
      · have : (x == y) = false := by simpa using hx
        simp only [List.lookup_cons, this, List.map_cons, List.cons_append, look, hx, if_false]
        exact ih
  refine tc_fnR C G hroom ho hcd hbody hbind hcell (fun x hx => (hnd.2 _ ?_).1) hg (fun env B r e => ?_) hco hgen hk
  · have : x.1 ∈ binds.map (·.1) := List.mem_map.mpr ⟨x, hx, rfl⟩
    rw [hb] at this
    exact List.mem_of_mem_take this
  · have F : Fn env N Gs [] := ⟨e.kind hk, fun x hx => e.of (hnd.2 x hx).1, fun x hx => e.of (hGs x hx).1, e.g, e.b, e.c, (fun _ h => nomatch h), List.Pairwise.nil, fun x hx => (hnd.2 x hx).2, fun x hx => (hGs x hx).2, (fun _ h => nomatch h)⟩
    refine ⟨fun s I => (k env B r F).run s (I.update .head ⟨rfl, fun _ _ => rfl⟩ ?_)⟩
    obtain ⟨o, e, es, ep, z1, z2, z3⟩ := I.own _ (.head _)
    exact ⟨o, e, hnd.1, es, ep, z1, z2, fun y => (z3 y).trans (hlk y)⟩
end
end Mine
namespace Mine
open PySem PySem.W PySem.Calls PyProof.Rows

theorem oldK_step {h₀ h h' : Heap} {W : List Addr} (K : OldK h₀ h) (hW : ∀ a ∈ W, h₀.objs.size ≤ a) (hk : ∀ b o, b ∉ W → h.get? b = some o → h'.get? b = some o) : OldK h₀ h' := by
  have ne : ∀ b o, h₀.get? b = some o → b ∉ W := fun b o e hm => Nat.not_lt.mpr (hW b hm) (Heap.lt_size e)
  refine ⟨fun b o e => ?_, fun b o e => let ⟨o', ho'⟩ := K.there b o e; ⟨o', hk b _ (ne b o e) ho'⟩⟩
  rcases K.old b o e with x | ⟨t, hc, vs, more, hv, x⟩ | ⟨rfl, hc, ⟨o', es, n, ho', r⟩, z⟩
  · exact .inl (hk b _ (ne b o e) x)
  · exact .inr (.inl ⟨t, hc, vs, more, hv, hk b _ (ne b o e) x⟩)
  · exact .inr (.inr ⟨rfl, hc, ⟨o', es, n, hk _ _ (ne _ o e) ho', r⟩, fun key => by rw [OldK.staticOf_congr ((hk _ _ (ne _ o e) ho').trans ho'.symm) key]; exact z key⟩)

section
variable {X : Amb} {R R' : Led} {h h' : Heap} {g : Array GenState} {os : OsState}
theorem TabOk.step {t : Tab} {W : List Addr} (x : TabOk h R t) (hk : ∀ b o, b ∉ W → h.get? b = some o → h'.get? b = some o) (hW : ∀ a ∈ W, ∃ p ∈ R, p.a = a ∧ p.w = true) (hc : t.c ∉ W) (hP : t.P ∉ W)
    (hR : ∀ p ∈ R', p.w = true → (∃ q ∈ R, q.a = p.a ∧ q.w = true) ∨ h.objs.size ≤ p.a) : TabOk h' R' t := by
  have tk : ∀ {ps}, h.TableAt t.c t.P ps → h'.TableAt t.c t.P ps := fun x => let ⟨⟨o, vs, a, r⟩, t⟩ := x; ⟨⟨o, vs, hk _ _ hc a, r⟩, hk _ _ hP t⟩
  have ck : ∀ {ps}, h.IsCode t.c t.P ps → h'.IsCode t.c t.P ps := fun x =>
    let ⟨o, vs, file, tf, flags, tg, inF, text, tt, op, a, r1, r2, r3, r4, r5, r6, b, r⟩ := x
    ⟨o, vs, file, tf, flags, tg, inF, text, tt, op, hk _ _ hc a, r1, r2, r3, r4, r5, r6, hk _ _ hP b, r⟩
  cases x with
  | emp a b => exact .emp (ck a) (tk b)
  | one c' a b' c d =>
    have hc' : c' ∉ W := fun hm => by
      obtain ⟨p, m, e, hu⟩ := hW _ hm
      rw [d p m e] at hu; cases hu
    refine .one c' (ck a) (tk b') (let ⟨o, e, z⟩ := c; ⟨o, hk _ _ hc' e, z⟩) fun p hp e => ?_
    cases hu : p.w with
    | false => rfl
    | true =>
      rcases hR p hp hu with ⟨q, m, e', hu'⟩ | hl
      · rw [d q m (e'.trans e)] at hu'; cases hu'
      · subst e; exact absurd c.lt (Nat.not_lt.mpr hl)
theorem InvH.step (I : InvH X R h g os) (W : List Addr) (hW : ∀ a ∈ W, ∃ p ∈ R, p.a = a ∧ p.w = true) (hk : ∀ b o, b ∉ W → h.get? b = some o → h'.get? b = some o) (hs : h.objs.size ≤ h'.objs.size)
    (own : ∀ p ∈ R', At h' p.a p.c) (src : ∀ p ∈ R', p.w = true → (∃ q ∈ R, q.a = p.a ∧ q.w = true) ∨ h.objs.size ≤ p.a) (ap : R'.Pairwise fun p q => p.w = true ∨ q.w = true → p.a ≠ q.a) (offs : ∀ p ∈ R', p.w = false → ∃ q ∈ R, q.a = p.a) : InvH X R' h' g os := by
  have hab : ∀ a ∈ W, X.h₀.objs.size ≤ a := fun a ha => by
    obtain ⟨p, m, e, u⟩ := hW a ha
    rw [← e]; exact I.above p m u
  exact {
    old := oldK_step I.old hab hk
    kept := fun b o e ht => hk b o (fun hm => Nat.not_lt.mpr (hab b hm) (Heap.lt_size e)) (I.kept b o e ht)
    size := Nat.le_trans I.size hs
    own := own
    above := fun p hp hu => by
      rcases src p hp hu with ⟨q, m, e, u⟩ | hl
      · rw [← e]; exact I.above q m u
      · exact Nat.le_trans I.size hl
    apart := ap
    off := fun p hp hu t ht => by
      obtain ⟨q, m, e⟩ := offs p hp hu
      rw [← e]; exact I.offP m ht
    tab := fun t ht => by
      have z := I.ctab t ht
      exact (I.tab t ht).step hk hW (fun hm => Nat.not_lt.mpr (hab _ hm) z.2.1) (fun hm => Nat.not_lt.mpr (hab _ hm) z.1) src
    ctab := I.ctab
    dtab := I.dtab
    gens := I.gens
    os := I.os }
theorem InvH.keepAt (I : InvH X R h g os) {W : List Addr} (hk : ∀ b o, b ∉ W → h.get? b = some o → h'.get? b = some o) {p : Ent} (hp : p ∈ R) (hn : p.a ∉ W) : At h' p.a p.c := let ⟨o, e, z⟩ := I.own p hp; ⟨o, hk _ _ hn e, z⟩
/-- an entry let go -/
theorem InvH.drop {a : Addr} {c : Cell} {P S : Led} (I : InvH X (P ++ ow a c :: S) h g os) (he : Heap.ExtBut a h h') (hs : h.objs.size ≤ h'.objs.size) : InvH X (P ++ S) h' g os := by
  have hsub : (P ++ S).Sublist (P ++ ow a c :: S) := List.Sublist.append_left (List.sublist_cons_self _ _) P
  have ap := I.apart
  have hne : ∀ p ∈ P ++ S, p.a ≠ a := fun p hp => by
    rw [List.pairwise_append] at ap
    rcases List.mem_append.mp hp with q | q
    · exact ap.2.2 p q (ow a c) (.head _) (.inr rfl)
    · exact Ne.symm ((List.pairwise_cons.mp ap.2.1).1 p q (.inl rfl))
  have hk : ∀ b o, b ∉ [a] → h.get? b = some o → h'.get? b = some o := fun b o hb e => he b o (by simpa using hb) e
  exact I.step [a] (fun b hb => ⟨ow a c, by simp, (List.mem_singleton.mp hb).symm, rfl⟩) hk hs (fun p hp => I.keepAt hk (hsub.subset hp) (by simpa using hne p hp)) (fun p hp hu => .inl ⟨p, hsub.subset hp, rfl, hu⟩) (ap.sublist hsub) (fun p hp _ => ⟨p, hsub.subset hp, rfl⟩)
end

def rit (x left step : Int) : Cell := fun o => o = { cls := .type "range_iterator", dict := none, data := .fields #[rawInt x, rawInt left, rawInt step], slots := #[] }
def rng (a b c : Int) : Cell := fun o => ∃ t u v, o = { cls := .type "range", dict := none, data := .fields #[.int a t, .int b u, .int c v], slots := #[] }
def rev (l : Addr) (i : Int) : Cell := fun o => o.cls = .type "list_reverseiterator" ∧ o.data = .fields #[.ref l, rawInt i]

/-- an iterator: its cells at i, what it hands out -/
structure Iter (X : Amb) (A : Around) (target : Expr) (it : Value) (n : Nat) (cells : Nat → Led) (need : Led → Prop) (item : Nat → Value → Led → Prop) : Prop where
  next : ∀ i S, i < n → need S → Tr X A (cells i ++ S) (pyNext it) fun r R1 => ∃ v, r = some v ∧ Tr X A R1 (letOwnedTupleGo target it v) fun _ R2 => ∃ T, R2 = T ++ (cells (i + 1) ++ S) ∧ item i v T
  done : ∀ S, need S → Tr X A (cells n ++ S) (pyNext it) fun r R1 => r = none ∧ R1 = S
  self : ∀ S, need S → Tr X A (cells 0 ++ S) (pyIter it) fun v R1 => v = it ∧ R1 = cells 0 ++ S

section
variable {X : Amb} {A : Around} {R : Led} {env : Env}
theorem Has.append {a : Addr} {c : Cell} {P : Led} {S : Led} (h : Has a c S) : Has a c (P ++ S) := by
  induction P with
  | nil => exact h
  | cons p P ih => exact .tail ih
theorem go_rfl {target : Expr} {it v : Value} {Ψ : Unit → Led → Prop} (h : ∀ e k p, target ≠ .Tuple e k p) (h' : ∀ e p, target ≠ .List e p) (k : Ψ () R) : Tr X A R (letOwnedTupleGo target it v) Ψ := by
  have : letOwnedTupleGo target it v = pure () := by
    unfold letOwnedTupleGo
    split
    · exact absurd rfl (h _ _ _)
    · exact absurd rfl (h' _ _)
    · rfl
  rw [this]; exact Tr.pure k
theorem iter_list {x : Str} {px : Pos} (hh : A.handled = none) (I l : Addr) (vs : List Value) : Iter X A (.Name x px) (.ref I) vs.length (fun i => [ow I (lit l i)]) (Has l (li vs)) (fun i v T => vs[i]? = some v ∧ T = []) where
  next := fun i S hi hl => ⟨fun s J => by
    have hL : s.heap.IsList l vs.toArray := (J.at (Has.tail hl)).isList
    refine wpAny_pyNext_list_item (i := i) (J.at .head) hL (x := vs[i]) (by simp [hi]) fun h' hit hs => ⟨[ow I (lit l (i + 1))] ++ S, J.update .head hs hit, _, rfl, go_rfl (fun _ _ _ e => by cases e) (fun _ _ e => by cases e) ⟨[], rfl, by simp [hi], rfl⟩⟩⟩
  done := fun S hl => ⟨fun s J => by
    have hL : s.heap.IsList l vs.toArray := (J.at (Has.tail hl)).isList
    refine any_size (wpAny_pyNext_list_end hh (J.at .head) hL (by simp) fun h' he hs => ⟨S, J.drop (P := []) he hs, rfl, rfl⟩)⟩
  self := fun S hl => ⟨fun s J => wpAny_pyIter_listiter (i := 0) (J.at .head) ⟨_, J, rfl, rfl⟩⟩
theorem iter_range {x : Str} {px : Pos} (hh : A.handled = none) (I : Addr) (a c : Int) (n : Nat) : Iter X A (.Name x px) (.ref I) n (fun i => [ow I (rit (a + (i : Nat) * c) ((n : Int) - (i : Nat)) c)]) (fun _ => True) (fun i v T => (∃ t, v = .int (a + i * c) t) ∧ T = []) where
  next := fun i S hi _ => ⟨fun s J => by
    have hit : IsRangeIter s.heap I (a + (i : Nat) * c) ((n : Int) - (i : Nat)) c := (At.ob (J.at (c := rit _ _ _) .head) : _)
    refine wpAny_pyNext_range_item hit (by omega) fun h' hit' hs => ⟨[ow I (rit (a + ((i + 1 : Nat) : Int) * c) ((n : Int) - ((i + 1 : Nat) : Int)) c)] ++ S, ?_, _, rfl, go_rfl (fun _ _ _ e => by cases e) (fun _ _ e => by cases e) ⟨[], rfl, ⟨_, rfl⟩, rfl⟩⟩
    have e1 : a + ((i + 1 : Nat) : Int) * c = a + (i : Int) * c + c := by push_cast; rw [Int.add_mul, Int.one_mul, Int.add_assoc]
    have e2 : (n : Int) - ((i + 1 : Nat) : Int) = (n : Int) - (i : Int) - 1 := by push_cast; omega
    rw [e1, e2]
    exact J.update .head hs ⟨_, hit', rfl⟩⟩
  done := fun S _ => ⟨fun s J => by
    have hit : IsRangeIter s.heap I (a + (n : Nat) * c) ((n : Int) - (n : Nat)) c := (At.ob (J.at (c := rit _ _ _) .head) : _)
    refine any_size (wpAny_pyNext_range_end hh hit (by omega) fun h' he hs => ⟨S, J.drop (P := []) he hs, rfl, rfl⟩)⟩
  self := fun S _ => ⟨fun s J => by
    have hit : IsRangeIter s.heap I (a + ((0 : Nat) : Int) * c) ((n : Int) - ((0 : Nat) : Int)) c := (At.ob (J.at (c := rit _ _ _) .head) : _)
    exact wpAny_pyIter_rangeiter hit ⟨_, J, rfl, rfl⟩⟩
theorem iter_rev {x : Str} {px : Pos} (hh : A.handled = none) (I l : Addr) (vs : List Value) : Iter X A (.Name x px) (.ref I) vs.length (fun i => [ow I (rev l ((vs.length : Int) - 1 - (i : Nat)))]) (Has l (li vs)) (fun i v T => vs[vs.length - 1 - i]? = some v ∧ T = []) where
  next := fun i S hi hl => ⟨fun s J => by
    have hL : s.heap.IsList l vs.toArray := (J.at (Has.tail hl)).isList
    have e : (vs.length : Int) - 1 - (i : Nat) = ((vs.length - 1 - i : Nat) : Int) := by omega
    have hit : s.heap.IsRevIter I l ((vs.length - 1 - i : Nat) : Int) := by rw [← e]; exact J.at .head
    refine wpAny_pyNext_rev_item (i := vs.length - 1 - i) hit hL (x := vs[vs.length - 1 - i]'(by omega)) (by simp) fun h' hit' hs => ⟨[ow I (rev l ((vs.length : Int) - 1 - ((i + 1 : Nat) : Int)))] ++ S, J.update .head hs ?_, _, rfl, go_rfl (fun _ _ _ e => by cases e) (fun _ _ e => by cases e) ⟨[], rfl, by simp, rfl⟩⟩
    have e2 : (vs.length : Int) - 1 - ((i + 1 : Nat) : Int) = ((vs.length - 1 - i : Nat) : Int) - 1 := by omega
    rw [e2]; exact hit'⟩
  done := fun S hl => ⟨fun s J => by
    have e : (vs.length : Int) - 1 - (vs.length : Nat) = -1 := by omega
    have hit : s.heap.IsRevIter I l (-1) := by rw [← e]; exact J.at .head
    refine any_size (wpAny_pyNext_rev_end hh hit fun h' he hs => ⟨S, J.drop (P := []) he hs, rfl, rfl⟩)⟩
  self := fun S hl => ⟨fun s J => wpAny_pyIter_revIter (i := (vs.length : Int) - 1 - ((0 : Nat) : Int)) (J.at .head) ⟨_, J, rfl, rfl⟩⟩
end
end Mine
namespace Mine
open PySem PySem.W PySem.Calls PyProof.Rows

section
variable {X : Amb} {A : Around} {R : Led} {env : Env} {mg mb : Str → Option Value} {K : Frag} {N Gs : List Str} {Cs : List (Str × Addr)}
section
variable {Ψ : Value → Led → Prop}
theorem t_iterL {l : Addr} {vs : List Value} (hl : Has l (li vs) R) (k : ∀ I, Ψ (.ref I) (ow I (lit l 0) :: R)) : Tr X A R (pyIter (.ref l)) Ψ := ⟨fun s J =>
  wpAny_pyIter_list (items := vs.toArray) (J.at hl).isList ⟨_, J.push (c := lit l 0) _ rfl ⟨rfl, rfl⟩, k _⟩⟩
theorem t_iterR {r : Addr} {b : Int} {n : Nat} (hb : b = n) (hn : n < 2 ^ 60) (h : Has r (rng 0 b 1) R) (k : ∀ I, Ψ (.ref I) (ow I (rit (0 + ((0 : Nat) : Int) * 1) ((n : Int) - ((0 : Nat) : Int)) 1) :: R)) : Tr X A R (pyIter (.ref r)) Ψ := ⟨fun s J => by
  obtain ⟨o, e, t, u, v, rfl⟩ := J.at h
  refine wpAny_pyIter_range (a := 0) (b := b) (c := 1) (t := t) (u := u) (v := v) e (small_one (by omega) (by omega) (by omega) (by omega)) ⟨_, J.push (c := rit (0 + ((0 : Nat) : Int) * 1) ((n : Int) - ((0 : Nat) : Int)) 1) _ rfl ?_, k _⟩
  unfold rit
  rw [rangeSize_one]
  have e1 : (if (0 : Int) < b then b - 0 else 0) = (n : Int) - ((0 : Nat) : Int) := by split <;> omega
  have e2 : (0 : Int) + ((0 : Nat) : Int) * 1 = 0 := by simp
  rw [e1, e2]⟩
theorem t_iterR2 {r : Addr} {a b : Int} {n : Nat} (ha : 0 ≤ a) (hb : b = a + n) (hn : a + n < 2 ^ 60) (h : Has r (rng a b 1) R) (k : ∀ I, Ψ (.ref I) (ow I (rit (a + ((0 : Nat) : Int) * 1) ((n : Int) - ((0 : Nat) : Int)) 1) :: R)) : Tr X A R (pyIter (.ref r)) Ψ := ⟨fun s J => by
  obtain ⟨o, e, t, u, v, rfl⟩ := J.at h
  refine wpAny_pyIter_range (a := a) (b := b) (c := 1) (t := t) (u := u) (v := v) e (small_one (by omega) (by omega) (by omega) (by omega)) ⟨_, J.push (c := rit (a + ((0 : Nat) : Int) * 1) ((n : Int) - ((0 : Nat) : Int)) 1) _ rfl ?_, k _⟩
  unfold rit
  rw [rangeSize_one]
  have e1 : (if a < b then b - a else 0) = (n : Int) - ((0 : Nat) : Int) := by split <;> omega
  have e2 : a + ((0 : Nat) : Int) * 1 = a := by simp
  rw [e1, e2]⟩
theorem t_range1 {n : Int} {t : Tok} (k : ∀ a, Ψ (.ref a) (ow a (rng 0 n 1) :: R)) : Tr X A R (call (.type "range") [.int n t]) Ψ := ⟨fun s J =>
  call_range_1 (by first | exact ⟨_, J.push (c := rng 0 n 1) _ rfl ⟨_, _, _, rfl⟩, k _⟩ | exact fun _ _ => ⟨_, InvH.push (J : _) (c := rng 0 n 1) _ rfl ⟨_, _, _, rfl⟩, k _⟩)⟩
theorem t_range2 {a b : Int} {t u : Tok} (k : ∀ r, Ψ (.ref r) (ow r (rng a b 1) :: R)) : Tr X A R (call (.type "range") [.int a t, .int b u]) Ψ := ⟨fun s J =>
  call_range_2 ⟨_, J.push (c := rng a b 1) _ rfl ⟨_, _, _, rfl⟩, k _⟩⟩
theorem t_reversed {l : Addr} {vs : List Value} (h : Has l (li vs) R) (k : ∀ I, Ψ (.ref I) (ow I (rev l ((vs.length : Int) - 1 - ((0 : Nat) : Int))) :: R)) : Tr X A R (call (.type "reversed") [.ref l]) Ψ := ⟨fun s J => by
  have hL : s.heap.IsList l vs.toArray := (J.at h).isList
  exact call_reversed_list hL ⟨_, J.push (c := rev l ((vs.length : Int) - 1 - ((0 : Nat) : Int))) _ rfl ⟨rfl, by simp [revObj]⟩, k _⟩⟩
theorem t_iterRev {I l : Addr} {i : Int} (h : Has I (rev l i) R) (k : Ψ (.ref I) R) : Tr X A R (pyIter (.ref I)) Ψ := ⟨fun s J => wpAny_pyIter_revIter (l := l) (i := i) (J.at h) ⟨_, J, k⟩⟩
theorem li_map {vs : List Value} {f : Array Value → Array Value} {o : Obj} (h : li vs o) : li (f vs.toArray).toList (Obj.mapSeq f o) := by
  obtain ⟨n, rfl⟩ := h
  unfold li
  rw [Array.toArray_toList]
  exact ⟨_, rfl⟩
theorem li_free {vs : List Value} {o : Obj} (h : li vs o) : o.isFreed = false := by
  obtain ⟨n, rfl⟩ := h; rfl
theorem t_append {l : Addr} {vs : List Value} {v : Value} {R' : Led} (hz : vs.length ≤ sizeLine) (u : Upd l (li vs) (li (vs ++ [v])) R R') (k : Ψ .none R') : Tr X A R (call (.builtin "list.append") [.ref l, v]) Ψ := ⟨fun s J => by
  obtain ⟨o, ho, hl⟩ := J.at u.has
  have hL := (J.at u.has).isList
  have hd : ∃ n, o.data = .seq vs.toArray n := let ⟨n, e⟩ := hl; ⟨n, by rw [e]⟩
  obtain ⟨n, hd⟩ := hd
  refine wpAny_call_entry slot_list_append hL.typeIs entry_list_append ?_ (args_list_append _ _)
  show wpAny _ _ (updateSeq l (·.push v) >>= fun _ => ret .none) _ _ s
  refine wpAny_bind (wpAny_updateSeq ho hd (wpAny_pure ⟨.none, rfl, R', J.update u (Heap.SameBut.update ..) ⟨_, Heap.get?_update_self _ ho (li_free (li_map hl)), ?_⟩, k⟩) (by simpa using hz) (by simpa using hz))
  have := li_map (f := (·.push v)) hl
  simpa using this⟩
theorem t_setItem {l : Addr} {vs : List Value} {k : Int} {t : Tok} {v : Value} {R' : Led} {Ψ : Unit → Led → Prop} (h0 : 0 ≤ k) (hfit : k < 2 ^ 63) (hn : k < vs.length) (u : Upd l (li vs) (li (vs.set k.toNat v)) R R') (kk : Ψ () R') : Tr X A R (setItem (.ref l) (.int k t) v) Ψ := ⟨fun s J => by
  obtain ⟨o, ho, hl⟩ := J.at u.has
  have hL := (J.at u.has).isList
  have hd : ∃ n, o.data = .seq vs.toArray n := let ⟨n, e⟩ := hl; ⟨n, by rw [e]⟩
  obtain ⟨n, hd⟩ := hd
  unfold setItem
  try with_reducible refine wpAny_holding ?_
  first | refine wpAny_bind (wpAny_pure ?_) | skip
  refine wpAny_bind (wpAny_sequenceKey hL.typeIs (by decide) ?_)
  refine wpAny_bind (wpAny_callSpecial?_slot (name := Str.ofString "__setitem__") hL.typeIs slot_list_setitem
    (wpAny_call_entry slot_list_setitem hL.typeIs entry_list_setitem ?_ (args_list_setitem _ _ _)))
  show wpAny _ _ (Builtin.List.listSubscript? (.int k t) >>= _) _ _ s
  refine wpAny_bind (wpAny_listSubscript_int (fitsIndex_of h0 hfit) ?_)
  clear hfit
  obtain ⟨j, rfl⟩ := Int.eq_ofNat_of_zero_le h0
  have hj : j < vs.toArray.size := by rw [List.size_toArray]; omega
  have hx' : vs.toArray[j]? = some vs.toArray[j] := Array.getElem?_eq_getElem hj
  show wpAny _ _ ((seqItemAt l j >>= fun r => pure (r.map (j, ·))) >>= _) _ _ s
  refine wpAny_bind (wpAny_bind (wpAny_seqItemAt ho hd (wpAny_pure ?_)))
  rw [hx']
  show wpAny _ _ (setSeqItemAt l j v >>= _) _ _ s
  have hfin : At (s.heap.update l (Obj.mapSeq (·.setIfInBounds j v))) l (li (vs.set j v)) := by
    refine ⟨_, Heap.get?_update_self _ ho (li_free (li_map hl)), ?_⟩
    have := li_map (f := (·.setIfInBounds j v)) hl
    simpa using this
  have fin : ∃ R', Inv X R' { s with heap := s.heap.update l (Obj.mapSeq (·.setIfInBounds j v)) } ∧ Ψ () R' := ⟨R', J.update u (Heap.SameBut.update ..) hfin, kk⟩
  refine wpAny_bind (wpAny_setSeqItemAt ho hd ?_)
  first
    | exact wpAny_bind (wpAny_pure (wpAny_pure ⟨.none, rfl, wpAny_pure fin⟩))
    | exact wpAny_pure ⟨.none, rfl, wpAny_pure fin⟩⟩
end

/-! for -/
theorem t_for {target iter : Expr} {body orelse : List Stmt} {pos : Pos} {Ψ : Flow → Led → Prop} (k : Tr X A R (eval iter env) fun x R1 => Tr X A R1 (pyIter x) fun it R2 => TrC X A R2 (.forLoop target it body orelse env) Ψ)
    (hs : ∀ x, foldedSetIterable iter env x = pure x) : Tr X A R (exec (.For target iter body orelse pos) env) Ψ := ⟨fun s I =>
  wpAny_For (k.use I fun x s₁ R₁ I₁ k₁ => k₁.use I₁ fun it s₂ R₂ I₂ k₂ => k₂.use I₂ fun f s₃ R₃ I₃ h => ⟨R₃, I₃, h⟩) hs⟩
theorem tc_for {target : Expr} {it : Value} {body orelse : List Stmt} {n : Nat} {cells : Nat → Led} {need : Led → Prop} {item : Nat → Value → Led → Prop} {Φ : Flow → Led → Prop} (It : Iter X A target it n cells need item)
    (W : Nat → Led → Prop) (hneed : ∀ i S, W i S → need S)
    (turn : ∀ i v T S, i < n → W i S → item i v T → Tr X A (T ++ (cells (i + 1) ++ S)) (assign target env v) fun _ R1 => Tr X A R1 (execs body env) (Lo (fun R2 => ∃ S2, (cells (i + 1) ++ S2).Sublist R2 ∧ W (i + 1) S2) Φ))
    (fin : ∀ S, W n S → Tr X A S (execs orelse env) Φ) {S : Led} (h0 : W 0 S) (hR : R = cells 0 ++ S) : TrC X A R (.forLoop target it body orelse env) Φ := by
  subst hR
  refine ⟨fun s I => ?_⟩
  refine codeAny_forLoop_any (fun k s => ∃ i S, k = n - i ∧ i ≤ n ∧ W i S ∧ Inv X (cells i ++ S) s) ?_ n ⟨0, S, rfl, Nat.zero_le _, h0, I⟩
  rintro k s ⟨i, S, rfl, hi, hW, J⟩
  rcases Nat.lt_or_ge i n with hlt | hge
  · refine (It.next i S hlt (hneed _ _ hW)).use J fun r s' R1 J1 h => ?_
    obtain ⟨v, rfl, hg⟩ := h
    refine hg.use J1 fun _ s'' R2 J2 h2 => ?_
    obtain ⟨T, rfl, hi'⟩ := h2
    refine (turn i v T S hlt hW hi').use J2 fun _ s3 R3 J3 h3 => h3.use J3 fun f s4 R4 J4 h4 => ?_
    have step : (∃ S2, (cells (i + 1) ++ S2).Sublist R4 ∧ W (i + 1) S2) → ∃ m, m < n - i ∧ ∃ i S, m = n - i ∧ i ≤ n ∧ W i S ∧ Inv X (cells i ++ S) s4 := fun ⟨S2, hs, hw⟩ =>
      ⟨n - (i + 1), by omega, i + 1, S2, rfl, hlt, hw, J4.weak hs⟩
    cases f with
    | next => exact step h4
    | cont => exact step h4
    | brk => exact ⟨R4, J4, h4⟩
    | ret v => exact ⟨R4, J4, h4⟩
  · have : i = n := Nat.le_antisymm hi hge
    subst this
    refine (It.done S (hneed _ _ hW)).use J fun r s' R1 J1 h => ?_
    obtain ⟨rfl, rfl⟩ := h
    exact (fin _ hW).use J1 fun f s2 R2 J2 h2 => ⟨R2, J2, h2⟩

/-! comprehensions -/
def testsT (ifs : List Expr) (env : Env) : Sem Bool := forIn ifs true fun c r => if r = true then do let ok ← isTrue c env (eval c env); pure (ForInStep.yield ok) else pure (ForInStep.yield r)
theorem t_tests0 {Ψ : Bool → Led → Prop} (k : Ψ true R) : Tr X A R (testsT [] env) Ψ := ⟨fun s I => wpAny_tests_nil ⟨_, I, k⟩⟩
theorem t_tests1 {Ψ : Bool → Led → Prop} {c : Expr} (k : Tr X A R (isTrue c env (eval c env)) Ψ) : Tr X A R (testsT [c] env) Ψ := ⟨fun s I => wpAny_tests_one (k.run s I)⟩

def closes (Cs : List (Str × Addr)) : List (Str × NameKind) → List (Str × Addr) → Option (List (Str × Addr))
  | [], acc => some acc
  | (n, k) :: r, acc => if k == .free then (match Cs.lookup n with | some c => closes Cs r ((n, c) :: acc) | none => none) else closes Cs r acc
theorem closureFor_of {scope : Scope} {cl : List (Str × Addr)} (h : closes env.cells scope.names [] = some cl) : closureFor scope env = pure cl := by
  have key : ∀ (names : List (Str × NameKind)) (acc : List (Str × Addr)), closes env.cells names acc = some cl →
      (forIn names acc fun (x : Str × NameKind) (cs : List (Str × Addr)) => if x.2 == .free then (do let a ← cellOf env x.1; pure (ForInStep.yield ((x.1, a) :: cs))) else pure (ForInStep.yield cs) : Sem (List (Str × Addr))) = pure cl := by
    intro names
    induction names with
    | nil => intro acc h; cases h; rfl
    | cons x r ih =>
      intro acc h
      obtain ⟨n, k⟩ := x
      rw [List.forIn_cons]
      unfold closes at h
      by_cases hk : (k == NameKind.free) = true
      · rw [if_pos hk] at h
        dsimp only
        rw [if_pos hk]
        cases hl : env.cells.lookup n with
        | none => rw [hl] at h; cases h
        | some c =>
          rw [hl] at h
          have hc : cellOf env n = pure c := by unfold cellOf; rw [hl]
          rw [hc]
          simp only [pure_bind]
          exact ih _ h
      · rw [if_neg hk] at h
        dsimp only
        rw [if_neg hk]
        simp only [pure_bind]
        exact ih _ h
  unfold closureFor
  have := key scope.names [] h
  simpa using this
end
end Mine
namespace Mine
open PySem PySem.W PySem.Calls PyProof.Rows

theorem lookup_relabel {env : Env} : ∀ {names : List (Str × NameKind)} {x : Str} {k : NameKind}, names.lookup x = some k →
    (names.map fun (n, k) => if (k == NameKind.free && env.scope.kind == .function && env.kindOf n == some .cell) then (n, NameKind.cell) else (n, k)).lookup x = some (if (k == NameKind.free && env.scope.kind == .function && env.kindOf x == some .cell) then NameKind.cell else k)
  | [], _, _, h => by simp at h
  | (n, k) :: r, x, k', h => by
    have ih := @lookup_relabel env r x k'
    show List.lookup x ((if (k == NameKind.free && env.scope.kind == .function && env.kindOf n == some .cell) = true then (n, NameKind.cell) else (n, k)) :: _) = _
    cases hx : x == n with
    | true =>
      have e : x = n := by simpa using hx
      subst e
      simp only [List.lookup_cons, hx] at h
      cases h
      by_cases hc : (k == NameKind.free && env.scope.kind == .function && env.kindOf x == some .cell) = true
      · rw [if_pos hc, if_pos hc]; simp
      · rw [if_neg hc, if_neg hc]; simp
    | false =>
      simp only [List.lookup_cons, hx] at h
      by_cases hc : (k == NameKind.free && env.scope.kind == .function && env.kindOf n == some .cell) = true
      · rw [if_pos hc]; simp only [List.lookup_cons, hx]; exact ih h
      · rw [if_neg hc]; simp only [List.lookup_cons, hx]; exact ih h

/-- what a comprehension's own scope says -/
structure CoScope (scope : Scope) (x : Str) (Gs : List Str) (cl : List (Str × Addr)) : Prop where
  k : scope.kind = .function
  cell : ∀ y ∈ scope.names, y.2 ≠ .cell
  names : ∀ y ∈ scope.names, y.2 = .local → scope.names.lookup y.1 = some .local
  x : scope.names.lookup x = some .local ∧ (x == ("__debug__" : Str)) = false
  g : ∀ g ∈ Gs, scope.names.lookup g = some .globalImplicit ∧ (g == ("__debug__" : Str)) = false ∧ g ≠ "__name__"
  c : ∀ z ∈ cl.map (·.1), scope.names.lookup z = some .free ∧ (z == ("__debug__" : Str)) = false ∧ (z == ("__classdict__" : Str)) = false
  nd : (cl.map (·.1)).Nodup

section
variable {X : Amb} {A : Around} {R : Led} {env : Env} {mg mb : Str → Option Value} {K : Frag} {N Gs : List Str} {Cs : List (Str × Addr)}
theorem fn_comp {scope : Scope} {x : Str} {Gs' : List Str} {cl : List (Str × Addr)} (F : Fn env N Gs Cs) (S : CoScope scope x Gs' cl) (C : Addr) : Fn (compEnvC scope cl C env) [x] Gs' cl where
  kind := S.k
  loc := fun y hy => by
    rw [List.mem_singleton] at hy
    subst hy
    show List.lookup y (relabel scope env).names = _
    exact lookup_relabel_local S.x.1
  glo := fun y hy => by
    exact (lookup_relabel (env := env) (S.g y hy).1).trans (by simp)
  g := F.g
  b := F.b
  ce := rfl
  cel := fun z hz => by
    show List.lookup z.1 (relabel scope env).names = _ ∨ List.lookup z.1 (relabel scope env).names = _
    have := lookup_relabel (env := env) (S.c z.1 (List.mem_map.mpr ⟨z, hz, rfl⟩)).1
    unfold relabel
    rw [this]
    split
    · exact .inl rfl
    · exact .inr rfl
  cnd := S.nd
  dN := fun y hy => by
    rw [List.mem_singleton] at hy
    subst hy
    exact S.x.2
  dG := fun y hy => (S.g y hy).2
  dC := fun z hz => (S.c z.1 (List.mem_map.mpr ⟨z, hz, rfl⟩)).2

theorem Upd.append {a : Addr} {c c' : Cell} {P S S' : Led} (h : Upd a c c' S S') : Upd a c c' (P ++ S) (P ++ S') := by
  induction P with
  | nil => exact h
  | cons p P ih => exact .tail ih

/-- a turn of a comprehension: what the tests and the value do -/
def CoTurn (X : Amb) (A : Around) (cenv : Env) (x : Str) (ifs : List Expr) (elt : Expr) (n : Nat) (cells : Nat → Led) (item : Nat → Value → Led → Prop) (Y : Nat → List Value → Prop) (S : Led) : Prop :=
  ∀ D i v ys, i < n → item i v [] → Y i ys → Tr X A (cells (i + 1) ++ (ow D (li ys) :: ow cenv.locals (fr [x] [some v]) :: S)) (testsT ifs cenv) fun ok R1 =>
    Br ok (Tr X A R1 (eval elt cenv) fun y R2 => (cells (i + 1) ++ (ow D (li ys) :: ow cenv.locals (fr [x] [some v]) :: S)).Sublist R2 ∧ Y (i + 1) (ys ++ [y]))
      ((cells (i + 1) ++ (ow D (li ys) :: ow cenv.locals (fr [x] [some v]) :: S)).Sublist R1 ∧ Y (i + 1) ys)

theorem tc_compLoop {elt iter : Expr} {x : Str} {px : Pos} {ifs : List Expr} {scope : Scope} {pos : Pos} {it : Value} {cenv : Env} {n : Nat} {cells : Nat → Led} {need : Led → Prop} {item : Nat → Value → Led → Prop} {Y : Nat → List Value → Prop} {S : Led} {Gs' : List Str} {cl : List (Str × Addr)} {Φ : Flow → Led → Prop} {D : Addr}
    (It : Iter X A (.Name x px) it n cells need item) (hitem : ∀ i v T, item i v T → T = []) (hneed : ∀ P, need (P ++ S)) (hY : ∀ i ys, i ≤ n → Y i ys → ys.length ≤ sizeLine) (F : Fn cenv [x] Gs' cl)
    (turn : CoTurn X A cenv x ifs elt n cells item Y S) (fin : ∀ ys pv, Y n ys → Φ .next (ow D (li ys) :: ow cenv.locals (fr [x] [pv]) :: S)) {pv : Option Value} {ys : List Value} (h0 : Y 0 ys) :
    TrC X A (cells 0 ++ (ow D (li ys) :: ow cenv.locals (fr [x] [pv]) :: S)) (.compLoop (.ListComp elt [⟨.Name x px, iter, ifs, 0⟩] scope pos) 0 it (.ref D) cenv) Φ := by
  refine ⟨fun s I => ?_⟩
  refine codeAny_compLoop_tests (fun k s => ∃ i ys pv, k = n - i ∧ i ≤ n ∧ Y i ys ∧ Inv X (cells i ++ (ow D (li ys) :: ow cenv.locals (fr [x] [pv]) :: S)) s) ?_ n ⟨0, ys, pv, rfl, Nat.zero_le _, h0, I⟩
  rintro k s ⟨i, ys, pv, rfl, hi, hy, J⟩
  have hn : need (ow D (li ys) :: ow cenv.locals (fr [x] [pv]) :: S) := hneed [_, _]
  rcases Nat.lt_or_ge i n with hlt | hge
  · refine (It.next i _ hlt hn).use J fun r s' R1 J1 h => ?_
    obtain ⟨v, rfl, hg⟩ := h
    have hgo : letOwnedTupleGo (.Name x px) it v = pure () := rfl
    have st : Tr X A R1 (letOwnedTupleGo (.Name x px) it v >>= fun _ => assign (.Name x px) cenv v) fun _ R3 => R3 = cells (i + 1) ++ (ow D (li ys) :: ow cenv.locals (fr [x] [some v]) :: S) ∧ item i v [] := by
      refine Tr.bind (hg.mono fun _ R2 h2 => ?_)
      obtain ⟨T, rfl, hit⟩ := h2
      have := hitem _ _ _ hit
      subst this
      exact t_assignName (f_store (vs := [pv]) (vs' := [some v]) F .head (Upd.append (P := []) (Upd.append (P := cells (i + 1)) (.tail .head))) ⟨rfl, hit⟩)
    rw [hgo, pure_bind] at st
    refine st.use J1 fun _ s3 R3 J3 e3 => ?_
    obtain ⟨e3, hit⟩ := e3
    subst e3
    refine (turn D i v ys hlt hit hy).use J3 fun ok s4 R4 J4 h4 => ?_
    cases ok with
    | true =>
      rw [if_pos rfl]
      refine Tr.use h4 J4 fun y s5 R5 J5 h5 => ?_
      have J5' := J5.weak h5.1
      have ap : Tr X A (cells (i + 1) ++ (ow D (li ys) :: ow cenv.locals (fr [x] [some v]) :: S)) (call (.builtin "list.append") [.ref D, y]) fun _ R6 => R6 = cells (i + 1) ++ (ow D (li (ys ++ [y])) :: ow cenv.locals (fr [x] [some v]) :: S) :=
        t_append (hY i ys hi hy) (Upd.append .head) rfl
      refine ap.use J5' fun _ s6 R6 J6 e6 => ?_
      subst e6
      exact ⟨n - (i + 1), by omega, i + 1, ys ++ [y], some v, rfl, hlt, h5.2, J6⟩
    | false =>
      rw [if_neg (by simp)]
      exact ⟨n - (i + 1), by omega, i + 1, ys, some v, rfl, hlt, h4.2, J4.weak h4.1⟩
  · have : i = n := Nat.le_antisymm hi hge
    subst this
    refine (It.done _ hn).use J fun r s' R1 J1 h => ?_
    obtain ⟨rfl, rfl⟩ := h
    exact ⟨_, J1, fin _ _ hy⟩
/-- a comprehension, its value used by u or given back -/
theorem t_compCore {elt iter : Expr} {x : Str} {px : Pos} {ifs : List Expr} {scope : Scope} {pos : Pos} {cl : List (Str × Addr)} {Gs' : List Str} {use : Option (Value → Sem Unit)} {Q : Value → Led → Prop} (F : Fn env N Gs Cs) (hcl : closes Cs scope.names [] = some cl) (Sc : CoScope scope x Gs' cl)
    (k : Tr X A R (eval iter env) fun xv R1 => Tr X A R1 (pyIter xv) fun it R2 => ∃ (n : Nat) (cells : Nat → Led) (need : Led → Prop) (item : Nat → Value → Led → Prop) (Y : Nat → List Value → Prop) (S : Led), R2 = cells 0 ++ S ∧ Iter X A (.Name x px) it n cells need item ∧ (∀ i v T, item i v T → T = []) ∧ (∀ P, need (P ++ S)) ∧
      Y 0 [] ∧ (∀ i ys, i ≤ n → Y i ys → ys.length ≤ sizeLine) ∧ (∀ cenv, Fn cenv [x] Gs' cl → CoTurn X A cenv x ifs elt n cells item Y S) ∧
      (∀ D ys C pv, Y n ys → match use with
        | none => Q (.ref D) (ow D (li ys) :: S)
        | some u => Tr X A (ow D (li ys) :: ow C (fr [x] [pv]) :: S) (u (.ref D)) fun _ R3 => ∃ S', R3 = ow D (li ys) :: ow C (fr [x] [pv]) :: S' ∧ Q .none (ow D (li ys) :: S')))
    (hs : ∀ x, foldedSetIterable iter env x = pure x) : Tr X A R (comprehension (.ListComp elt [⟨.Name x px, iter, ifs, 0⟩] scope pos) scope env (firstIterPos [⟨.Name x px, iter, ifs, 0⟩] pos) (newList []) false (eval iter env) use) Q := by
  refine ⟨fun s I => ?_⟩
  refine wpAny_comprehension_free (cl := cl) rfl hs (closureFor_of (by rw [F.ce]; exact hcl)) Sc.k Sc.names (k.use I fun xv s₁ R1 I1 k1 => k1.use I1 fun it s₂ R2 I2 k2 => ?_)
  obtain ⟨n, cells, need, item, Y, S, rfl, It, hitem, hneed, hY0, hY, turn, fin⟩ := k2
  refine wpAny_newObj_type (wpAny_newFunctionEnv Sc.cell (by intro y hy; simp at hy) (fun h₁ hns₁ hsb₁ => ?_) Sc.k)
  dsimp only at hns₁ hsb₁ ⊢
  generalize hH2 : s₂.heap.push { cls := .type "list", dict := none, data := .seq ([] : List Value).toArray } = H2 at hns₁ hsb₁ ⊢
  have hC : H2.objs.size = s₂.heap.objs.size + 1 := by rw [← hH2, Heap.size_push]
  have J1 : InvH X (ow s₂.heap.objs.size (li []) :: (cells 0 ++ S)) H2 s₂.gens s₂.os := by
    rw [← hH2]
    exact I2.push (c := li []) _ rfl ⟨_, rfl⟩
  have hk1 : ∀ b o, H2.get? b = some o → h₁.get? b = some o := fun b o e => hsb₁.extBut b o (Nat.ne_of_lt (Heap.lt_size e)) (Heap.get?_push_of_some _ e)
  have hs1 : H2.objs.size ≤ h₁.objs.size := by rw [hsb₁.1, Heap.size_push]; exact Nat.le_succ _
  have J2 : InvH X (ow H2.objs.size (fr [x] [none]) :: ow s₂.heap.objs.size (li []) :: (cells 0 ++ S)) h₁ s₂.gens s₂.os := by
    refine J1.grow1 hk1 hs1 ?_ (Nat.le_refl _)
    obtain ⟨o, es, ep, e, z1, z2, z3⟩ := hns₁
    refine ⟨o, e, List.pairwise_singleton _ _, es, ep, z1, z2, fun y => (z3 y).trans ?_⟩
    simp [look]
  -- the order of the entries
  have J3 : InvH X (cells 0 ++ (ow s₂.heap.objs.size (li []) :: ow H2.objs.size (fr [x] [none]) :: S)) h₁ s₂.gens s₂.os := by
    refine J2.step [] (fun _ h => nomatch h) (fun _ _ _ e => e) (Nat.le_refl _) (fun p hp => J2.own p ?_) (fun p hp hu => .inl ⟨p, ?_, rfl, hu⟩) ?_ (fun p hp hu => ⟨p, ?_, rfl⟩)
    · simp only [List.mem_append, List.mem_cons] at hp ⊢
      rcases hp with h | h | h | h <;> simp [h]
    · simp only [List.mem_append, List.mem_cons] at hp ⊢
      rcases hp with h | h | h | h <;> simp [h]
    · refine (List.Perm.pairwise_iff (fun h hw => Ne.symm (h hw.symm)) ?_).mp J2.apart
      have p1 : (ow H2.objs.size (fr [x] [none]) :: ow s₂.heap.objs.size (li []) :: (cells 0 ++ S)).Perm (ow s₂.heap.objs.size (li []) :: ow H2.objs.size (fr [x] [none]) :: (cells 0 ++ S)) := List.Perm.swap _ _ _
      refine p1.trans ?_
      exact (List.perm_append_comm_assoc [ow s₂.heap.objs.size (li []), ow H2.objs.size (fr [x] [none])] (cells 0) S)
    · simp only [List.mem_append, List.mem_cons] at hp ⊢
      rcases hp with h | h | h | h <;> simp [h]
  have Fc := fn_comp F Sc H2.objs.size
  have L : TrC X A (cells 0 ++ (ow s₂.heap.objs.size (li []) :: ow (compEnvC scope cl H2.objs.size env).locals (fr [x] [none]) :: S)) (.compLoop (.ListComp elt [⟨.Name x px, iter, ifs, 0⟩] scope pos) 0 it (.ref s₂.heap.objs.size) (compEnvC scope cl H2.objs.size env)) fun f R' => f = .next ∧ ∃ ys pv, Y n ys ∧ R' = ow s₂.heap.objs.size (li ys) :: ow H2.objs.size (fr [x] [pv]) :: S :=
    tc_compLoop It hitem hneed hY Fc (turn _ Fc) (fun ys pv hy => ⟨rfl, ys, pv, hy, rfl⟩) hY0
  have last : ∀ (s' : Shared) (ys pv), Y n ys → Inv X (ow s₂.heap.objs.size (li ys) :: ow H2.objs.size (fr [x] [pv]) :: S) s' →
      compPost (model X.prog X.w) A (fun _ _ => False) use (fun v s' => ∃ R', Inv X R' s' ∧ Q v R') (.ref s₂.heap.objs.size) H2.objs.size (.ok .next) s' := fun s' ys pv hy J => by
    have hf := fin s₂.heap.objs.size ys H2.objs.size pv hy
    unfold compPost
    cases use with
    | none =>
      have hn := (J.fr (.tail .head)).2
      exact ⟨_, hn, fun h' hs' => ⟨_, InvH.drop (P := [ow s₂.heap.objs.size (li ys)]) (J : InvH X ([ow s₂.heap.objs.size (li ys)] ++ ow H2.objs.size (fr [x] [pv]) :: S) _ _ _) hs'.extBut (Nat.le_of_eq hs'.1.symm), hf⟩⟩
    | some u =>
      refine hf.use J fun _ s'' R3 J3 h3 => ?_
      obtain ⟨S', rfl, hq⟩ := h3
      have hn := (J3.fr (.tail .head)).2
      exact ⟨_, hn, fun h' hs' => ⟨_, InvH.drop (P := [ow s₂.heap.objs.size (li ys)]) (J3 : InvH X ([ow s₂.heap.objs.size (li ys)] ++ ow H2.objs.size (fr [x] [pv]) :: S') _ _ _) hs'.extBut (Nat.le_of_eq hs'.1.symm), hq⟩⟩
  have L' : ∀ s₃ : Shared, Inv X (cells 0 ++ (ow s₂.heap.objs.size (li []) :: ow H2.objs.size (fr [x] [none]) :: S)) s₃ →
      codeAny (model X.prog X.w) A (.compLoop (.ListComp elt [⟨.Name x px, iter, ifs, 0⟩] scope pos) 0 it (.ref s₂.heap.objs.size) (compEnvC scope cl H2.objs.size env)) (compPost (model X.prog X.w) A (fun _ _ => False) use (fun v s' => ∃ R', Inv X R' s' ∧ Q v R') (.ref s₂.heap.objs.size) H2.objs.size) s₃ := fun s₃ J =>
    codeAny_mono (L.run s₃ J) fun r s' h => by
      cases r with
      | error e => exact h.elim
      | ok f =>
        obtain ⟨R', J', rfl, ys, pv, hy, rfl⟩ := h
        exact last s' ys pv hy J'
  have hst : InvH X (cells 0 ++ (ow s₂.heap.objs.size (li []) :: ow H2.objs.size (fr [x] [none]) :: S)) h₁ s₂.gens s₂.os := J3
  refine codeAny_compStart_list (L' _ hst) ?_
  have hn : need (ow s₂.heap.objs.size (li []) :: ow H2.objs.size (fr [x] [none]) :: S) := hneed [_, _]
  refine wpAny_mono ((It.self _ hn).run _ hst) (fun v s' h => ?_) fun _ _ h => h.elim
  obtain ⟨R', J', rfl, rfl⟩ := h
  exact L' s' J'
theorem t_comp {elt iter : Expr} {x : Str} {px : Pos} {ifs : List Expr} {scope : Scope} {pos : Pos} {cl : List (Str × Addr)} {Gs' : List Str} {Ψ : Value → Led → Prop} (F : Fn env N Gs Cs) (hcl : closes Cs scope.names [] = some cl) (Sc : CoScope scope x Gs' cl) (hs : ∀ x, foldedSetIterable iter env x = pure x)
    (k : Tr X A R (eval iter env) fun xv R1 => Tr X A R1 (pyIter xv) fun it R2 => ∃ (n : Nat) (cells : Nat → Led) (need : Led → Prop) (item : Nat → Value → Led → Prop) (Y : Nat → List Value → Prop) (S : Led), R2 = cells 0 ++ S ∧ Iter X A (.Name x px) it n cells need item ∧ (∀ i v T, item i v T → T = []) ∧ (∀ P, need (P ++ S)) ∧
      Y 0 [] ∧ (∀ i ys, i ≤ n → Y i ys → ys.length ≤ sizeLine) ∧ (∀ cenv, Fn cenv [x] Gs' cl → CoTurn X A cenv x ifs elt n cells item Y S) ∧
      (∀ D ys, Y n ys → Ψ (.ref D) (ow D (li ys) :: S))) : Tr X A R (eval (.ListComp elt [⟨.Name x px, iter, ifs, 0⟩] scope pos) env) Ψ := by
  rw [eval_ListComp]
  refine t_compCore (use := none) F hcl Sc (k.mono fun xv R1 k1 => k1.mono fun it R2 k2 => ?_) hs
  obtain ⟨n, cells, need, item, Y, S, a, b, c, d, e, f, g, h⟩ := k2
  exact ⟨n, cells, need, item, Y, S, a, b, c, d, e, f, g, fun D ys _ _ hy => h D ys hy⟩
/-- y = [..], the store exchanged with the comprehension's end -/
theorem t_assignComp {elt iter : Expr} {x y : Str} {px py : Pos} {ifs : List Expr} {scope : Scope} {pos spos : Pos} {cl : List (Str × Addr)} {Gs' : List Str} {Ψ : Flow → Led → Prop} {vs : List (Option Value)} (F : Fn env N Gs Cs) (hcl : closes Cs scope.names [] = some cl) (Sc : CoScope scope x Gs' cl) (hs : ∀ x, foldedSetIterable iter env x = pure x)
    (hy : y ∈ N) (hsw : env.scope.kind = .function → env.kindOf y = some .local → swapsWith (.ListComp elt [⟨.Name x px, iter, ifs, 0⟩] scope pos) (some (.Name y py)) spos.line env = pure true)
    (k : Tr X A R (eval iter env) fun xv R1 => Tr X A R1 (pyIter xv) fun it R2 => ∃ (n : Nat) (cells : Nat → Led) (need : Led → Prop) (item : Nat → Value → Led → Prop) (Y : Nat → List Value → Prop) (S : Led), R2 = cells 0 ++ S ∧ Iter X A (.Name x px) it n cells need item ∧ (∀ i v T, item i v T → T = []) ∧ (∀ P, need (P ++ S)) ∧
      Y 0 [] ∧ (∀ i ys, i ≤ n → Y i ys → ys.length ≤ sizeLine) ∧ (∀ cenv, Fn cenv [x] Gs' cl → CoTurn X A cenv x ifs elt n cells item Y S) ∧
      (∀ D ys, Y n ys → ∃ vs vs' S', VarSet y (some (.ref D)) N vs vs' ∧ Upd env.locals (fr N vs) (fr N vs') S S' ∧ Ψ .next (ow D (li ys) :: S'))) : Tr X A R (exec (.Assign [.Name y py] (.ListComp elt [⟨.Name x px, iter, ifs, 0⟩] scope pos) spos) env) Ψ := by
  have hsw' := hsw F.kind (F.loc _ hy)
  rw [exec_Assign_Name_used _ _ _ _ hsw']
  have e : evalThenUse (.ListComp elt [⟨.Name x px, iter, ifs, 0⟩] scope pos) env (assign (.Name y py) env) = (do let _ ← comprehension (.ListComp elt [⟨.Name x px, iter, ifs, 0⟩] scope pos) scope env (firstIterPos [⟨.Name x px, iter, ifs, 0⟩] pos) (newList []) false (eval iter env) (some (assign (.Name y py) env))) := rfl
  rw [e]
  refine Tr.bind (t_at (Tr.bind (Tr.bind ?_)))
  refine (t_compCore (use := some (assign (.Name y py) env)) (Q := fun _ => Ψ .next) F hcl Sc (k.mono fun xv R1 k1 => k1.mono fun it R2 k2 => ?_) hs).mono fun _ _ h => Tr.pure (Tr.pure h)
  obtain ⟨n, cells, need, item, Y, S, a, b, c, d, e, f, g, h⟩ := k2
  refine ⟨n, cells, need, item, Y, S, a, b, c, d, e, f, g, fun D ys C pv hy => ?_⟩
  obtain ⟨vs, vs', S', hv, hu, hq⟩ := h D ys hy
  exact t_assignName (f_store F hv (.tail (.tail hu)) ⟨S', rfl, hq⟩)
end
end Mine
namespace Mine
open PySem PySem.W PySem.Calls PyProof.Rows

theorem bindsLook {N : List Str} {vs : List (Option Value)} {binds : List (Str × Value)} (hnd : N.Nodup) (hb : binds.map (·.1) = N.take binds.length) (hvs : vs = binds.map (fun x => some x.2) ++ List.replicate (N.length - binds.length) none) (x : Str) : binds.reverse.lookup x = look N vs x := by
  have hbn : (binds.map (·.1)).Nodup := by rw [hb]; exact hnd.sublist (List.take_sublist _ _)
  have e1 : binds.reverse.lookup x = binds.lookup x := by
    clear hb hvs
    induction binds with
    | nil => rfl
    | cons p ps ih =>
      have hq := List.nodup_cons.mp hbn
      rw [List.reverse_cons, List.lookup_append, ih hq.2]
      obtain ⟨y, v⟩ := p
      by_cases hx : x = y
      · subst hx
        have : ps.lookup x = none := by
          rw [List.lookup_eq_none_iff]
          intro p hp
          have : x ≠ p.1 := fun e => hq.1 (List.mem_map.mpr ⟨p, hp, e.symm⟩)
          simpa using this
        rw [this]; simp
      · have : (x == y) = false := by simpa using hx
        simp [List.lookup_cons, this]
  rw [e1]
  have e2 : N = binds.map (·.1) ++ N.drop binds.length := by rw [hb, List.take_append_drop]
  generalize N.length - binds.length = j at hvs
  rw [e2, hvs]
  have hz : ∀ (M : List Str) k, look M (List.replicate k none) x = none := by
    intro M
    induction M with
    | nil => intro k; rfl
    | cons m M ih => intro k; cases k with
      | zero => rfl
      | succ k =>
        simp only [List.replicate_succ, look]; split
        · rfl
        · exact ih k
  generalize N.drop binds.length = M
  clear e1 e2 hb hvs hbn
  induction binds with
  | nil => simp [hz]
  | cons p ps ih =>
    obtain ⟨y, v⟩ := p
    by_cases hx : x = y
    · subst hx; simp [look]
    · have : (x == y) = false := by simpa using hx
      simp only [List.lookup_cons, this, List.map_cons, List.cons_append, look, hx, if_false]
      exact ih

section
variable {X : Amb} {A : Around} {R R' : Led} {env : Env} {mg mb : Str → Option Value} {K : Frag} {N Gs : List Str} {Cs : List (Str × Addr)}
/-- a def made by a def is called -/
theorem tc_fnI {name qual : Str} {params : Arguments} {body : List Stmt} {scope : Scope} {cl : List (Str × Addr)} {doc pm ctv : Value} {c' a : Addr} {vals : List Value} {binds : List (Str × Value)} {n : Nat} {Φ : Flow → Led → Prop} {N : List Str} (Gs : List Str) (vs : List (Option Value)) (G : GlobOk X mg mb) (hroom : Room A (n + 1))
    (ho : Has a (ob (fnMade name qual params body scope cl doc pm c' ctv)) R) (hcd : Has c' (rc qual) R) (hbind : bindArgs (fnX name qual params body scope cl .none .none doc pm none (.ref c') ctv) ⟨vals, []⟩ = Pure.pure binds)
    (hcell : ∀ x ∈ scope.names, x.2 ≠ .cell) 
    (hN : N = (scope.names.filterMap fun x => if x.2 = .local then some x.1 else none)) (hGs : ∀ x ∈ Gs, scope.names.lookup x = some .globalImplicit ∧ (x == ("__debug__" : Str)) = false ∧ x ≠ "__name__") (hnd : N.Nodup ∧ ∀ x ∈ N, scope.names.lookup x = some .local ∧ (x == ("__debug__" : Str)) = false)
    (FN : List Str) (hFN : cl.map (·.1) = FN) (hCs : (∀ z ∈ FN, scope.names.lookup z = some .free ∧ (z == ("__debug__" : Str)) = false ∧ (z == ("__classdict__" : Str)) = false) ∧ FN.Nodup) (hb : binds.map (·.1) = N.take binds.length) (hvs : vs = binds.map (fun x => some x.2) ++ List.replicate (N.length - binds.length) none)
    (k : ∀ env B, Room B n → Fn env N Gs cl → Tr X B (ow env.locals (fr N vs) :: R) (execs body env) fun f R' => ∃ R'', R''.Sublist R' ∧ Φ (.ret (match f with | .ret v => v | _ => .none)) R'')
    (hco : scope.isCoroutine = false) (hgen : scope.isGenerator = false) (hk : scope.kind = .function) : TrC X A R (.call (.ref a) ⟨vals, []⟩) Φ := by
  have hlk := bindsLook hnd.1 hb hvs
  subst hFN
  refine tc_def (fd := fnX name qual params body scope cl .none .none doc pm none (.ref c') ctv) G hroom (o := fnMade name qual params body scope cl doc pm c' ctv) (fun s I => (I.at ho).ob) rfl (fun s I => (I.at hcd).rc) rfl hbind hcell (fun x hx => (hnd.2 _ ?_).1) (fun L r => ?_) hco hgen hk
  · have : x.1 ∈ binds.map (·.1) := List.mem_map.mpr ⟨x, hx, rfl⟩
    rw [hb] at this
    exact List.mem_of_mem_take this
  · have F : Fn (callEnv (fnX name qual params body scope cl .none .none doc pm none (.ref c') ctv) L a) N Gs cl := ⟨hk, fun x hx => (hnd.2 x hx).1, fun x hx => (hGs x hx).1, rfl, rfl, rfl, (fun z hz => .inr (hCs.1 z.1 (List.mem_map.mpr ⟨z, hz, rfl⟩)).1), hCs.2, fun x hx => (hnd.2 x hx).2, fun x hx => (hGs x hx).2, fun z hz => (hCs.1 z.1 (List.mem_map.mpr ⟨z, hz, rfl⟩)).2⟩
    refine ⟨fun s I => (k _ _ r F).run s (I.update .head ⟨rfl, fun _ _ => rfl⟩ ?_)⟩
    obtain ⟨o, e, es, ep, z1, z2, z3⟩ := I.own _ (.head _)
    exact ⟨o, e, hnd.1, es, ep, z1, z2, fun y => (z3 y).trans (hlk y)⟩

theorem lookup_map_snd {α β : Type} {f : Str → α → β} : ∀ (l : List (Str × α)) (x : Str), (l.map fun p => (p.1, f p.1 p.2)).lookup x = (l.lookup x).map (f x)
  | [], _ => rfl
  | (k, v) :: r, x => by
    rw [List.map_cons, List.lookup_cons, List.lookup_cons]
    cases h : x == k with
    | true =>
      have : x = k := by simpa using h
      subst this; rfl
    | false => exact lookup_map_snd r x

theorem zip_fst_snd {α β : Type} : ∀ l : List (α × β), (l.map (·.1)).zip (l.map (·.2)) = l
  | [] => rfl
  | (a, b) :: r => by simp [zip_fst_snd r]
theorem zipW_map (f : Str → Option Value) (g : Addr → Option Value → Ent) : ∀ cs : List (Str × Addr), List.zipWith g (cs.map (·.2)) ((cs.map (·.1)).map f) = cs.map fun z => g z.2 (f z.1)
  | [] => rfl
  | z :: r => by simp [zipW_map f g r]
theorem len3 {α : Type} : ∀ {l : List α}, l.length = 3 → ∃ x y z, l = [x, y, z]
  | [x, y, z], _ => ⟨x, y, z, rfl⟩
theorem len4 {α : Type} : ∀ {l : List α}, l.length = 4 → ∃ x y z u, l = [x, y, z, u]
  | [x, y, z, u], _ => ⟨x, y, z, u, rfl⟩
theorem len9 {α : Type} : ∀ {l : List α}, l.length = 9 → ∃ a b c d e f g h i, l = [a, b, c, d, e, f, g, h, i]
  | [a, b, c, d, e, f, g, h, i], _ => ⟨a, b, c, d, e, f, g, h, i, rfl⟩
theorem t_led {α : Type} {X : Amb} {A : Around} {R : Led} (R' : Led) {t : Sem α} {Ψ : α → Led → Prop} (k : Tr X A R' t Ψ) (e : R = R') : Tr X A R t Ψ := e ▸ k
/-- a def of the text with cells of its own -/
theorem tc_fnC {oc : Value} {od : Option Addr} {osl : Array (Option Value)} {fd : FuncData} {a : Addr} {body : List Stmt} {vals : List Value} {binds : List (Str × Value)} {n : Nat} {Φ : Flow → Led → Prop} {N : List Str} (Gs CN : List Str) (vs cvs : List (Option Value)) (C : KOk X K) (G : GlobOk X mg mb) (hroom : Room A (n + 1))
    (ho : K.lookup a = some ⟨oc, od, .func fd, osl⟩) (hcd : codeIn K fd.code fd.qualname = true) (hbody : fd.body = .stmts body) (hbind : bindArgs fd ⟨vals, []⟩ = Pure.pure binds)
    (hg : fd.globals = mainGlobals ∧ fd.builtins = builtinsNs ∧ fd.closure = [])
    (hCN : ∀ L, (cellsFrom (L + 1) fd.scope.names []).map (·.1) = CN)
    (BN : List Str) (hBN : binds.map (·.1) = BN) (hk1 : ∀ x ∈ BN, fd.scope.names.lookup x = some .local ∨ (fd.scope.names.lookup x = some .cell ∧ x ∈ CN))
    (hGs : ∀ x ∈ Gs, fd.scope.names.lookup x = some .globalImplicit ∧ (x == ("__debug__" : Str)) = false ∧ x ≠ "__name__") (hnd : N.Nodup ∧ ∀ x ∈ N, fd.scope.names.lookup x = some .local ∧ (x == ("__debug__" : Str)) = false)
    (hcs : CN.Nodup ∧ ∀ z ∈ CN, fd.scope.names.lookup z = some .cell ∧ (z == ("__debug__" : Str)) = false ∧ (z == ("__classdict__" : Str)) = false)
    (hL : ∀ x, bindL (fun y => fd.scope.names.lookup y) binds (fun _ => none) x = look N vs x) (hC : CN.map (bindC (fun y => fd.scope.names.lookup y) binds (fun _ => none)) = cvs)
    (k : ∀ env B as, as.length = CN.length → Room B n → Fn env N Gs (CN.zip as) → (∀ x ∈ CN, env.kindOf x = some .cell) → env.code = fd.code → env.qual = fd.qualname ++ ".<locals>." → Tr X B (ow env.locals (fr N vs) :: (List.zipWith (fun c v => ow c (cl v)) as cvs ++ R)) (execs body env) fun f R' => ∃ R'', R''.Sublist R' ∧ Φ (.ret (match f with | .ret v => v | _ => .none)) R'')
    (hco : fd.scope.isCoroutine = false) (hgen : fd.scope.isGenerator = false) (hk : fd.scope.kind = .function) : TrC X A R (.call (.ref a) ⟨vals, []⟩) Φ := by
  refine ⟨fun s I => ?_⟩
  refine codeAny_call_cells hroom.lt (C.inK I _ _ ho) rfl (let ⟨mc, h1, h2⟩ := G.nl; ⟨mc, I.nsOf h1 G.nc, h2⟩) (codeRec_of (C.inK I) hcd) hbody hbind hg.2.2 (fun x hx => ?_) (fun s₁ Y => ?_) hco hgen hk
  · rcases hk1 x.1 (hBN ▸ List.mem_map.mpr ⟨x, hx, rfl⟩) with h | ⟨h, hm⟩
    · exact .inl h
    · refine .inr ⟨h, ?_⟩
      rw [← hCN s.heap.objs.size] at hm
      obtain ⟨z, hz, e⟩ := List.mem_map.mp hm
      have : (cellsFrom (s.heap.objs.size + 1) fd.scope.names []).lookup z.1 = some z.2 := lookup_of_mem (by rw [hCN]; exact hcs.1) (by cases z; exact hz)
      rw [← e, this]; rfl
  · generalize hcsD : cellsFrom (s.heap.objs.size + 1) fd.scope.names [] = cs at Y
    have hm : cs.map (·.1) = CN := by rw [← hcsD]; exact hCN _
    have ecells : (callEnvC fd s.heap.objs.size a).cells = cs := hcsD
    have F : Fn (callEnvC fd s.heap.objs.size a) N Gs cs := ⟨hk, fun x hx => (hnd.2 x hx).1, fun x hx => (hGs x hx).1, hg.1, hg.2.1, ecells, (fun z hz => .inl (hcs.2 z.1 (hm ▸ List.mem_map.mpr ⟨z, hz, rfl⟩)).1), hm ▸ hcs.1, fun x hx => (hnd.2 x hx).2, fun x hx => (hGs x hx).2, fun z hz => (hcs.2 z.1 (hm ▸ List.mem_map.mpr ⟨z, hz, rfl⟩)).2⟩
    have ezip : CN.zip (cs.map (·.2)) = cs := by
      rw [← hm]
      exact zip_fst_snd cs
    have ecv : List.zipWith (fun c v => ow c (cl v)) (cs.map (·.2)) cvs = cs.map fun z => ow z.2 (cl (bindC (fun y => fd.scope.names.lookup y) binds (fun _ => none) z.1)) := by
      rw [← hC, ← hm]
      exact zipW_map (bindC (fun y => fd.scope.names.lookup y) binds fun _ => none) (fun c v => ow c (cl v)) cs
    have k1 := k (callEnvC fd s.heap.objs.size a) (A.deeper (callEnvC fd s.heap.objs.size a)) (cs.map (·.2)) (by rw [← hm]; simp) (hroom.deeper _) (by rw [ezip]; exact F) (fun x hx => (hcs.2 x hx).1) rfl rfl
    rw [ecv] at k1
    refine Tr.use k1 (s := s₁) ?_ fun f s' R' I' h => ?_
    · have hY := Y
      rw [ecells] at hY
      obtain ⟨h', tk, e⟩ := Y.toInCall.same
      have hkeep := Y.toInCall.keep
      have hsz : s.heap.objs.size ≤ s₁.heap.objs.size := Nat.le_of_lt (Nat.lt_of_le_of_lt Y.toInCall.fresh Y.toInCall.ns.lt)
      have I1 : InvH X ((ow s.heap.objs.size (fr N vs) :: cs.map fun z => ow z.2 (cl (bindC (fun y => fd.scope.names.lookup y) binds (fun _ => none) z.1))) ++ R) s₁.heap s₁.gens s₁.os := by
        have e1 : s₁.gens = s.gens := by rw [e]
        have e2 : s₁.os = s.os := by rw [e]
        rw [e1, e2]
        refine InvH.grow (I : InvH X R s.heap s.gens s.os) hkeep hsz (fun p hp => ?_) ?_
        · rcases List.mem_cons.mp hp with rfl | hp
          · refine ⟨?_, Nat.le_refl _⟩
            obtain ⟨o, es, ep, z0, z1, z2, z3⟩ := hY.toInCall.ns
            exact ⟨o, z0, hnd.1, es, ep, z1, z2, fun y => (z3 y).trans (hL y)⟩
          · obtain ⟨z, hz, rfl⟩ := List.mem_map.mp hp
            have hmem : z.1 ∈ CN := hm ▸ List.mem_map.mpr ⟨z, hz, rfl⟩
            refine ⟨?_, Nat.le_of_lt (hY.above z.1 z.2 hz)⟩
            have := hY.cell z.1 z.2 (lookup_of_mem (hm ▸ hcs.1) hz)
            obtain ⟨o, e0, e1⟩ := this
            exact ⟨o, e0, e1⟩
        · refine List.pairwise_cons.mpr ⟨fun p hp => ?_, ?_⟩
          · obtain ⟨z, hz, rfl⟩ := List.mem_map.mp hp
            exact Nat.ne_of_lt (hY.above z.1 z.2 hz)
          · exact List.pairwise_map.mpr (hY.apart.imp fun h => h)
      exact I1
    · obtain ⟨R'', h1, h2⟩ := h
      exact ⟨R'', I'.weak h1, h2⟩
end
end Mine
namespace Mine
open PySem PySem.W PySem.Calls PyProof.Rows

section
variable {X : Amb} {A : Around} {R R' : Led} {env : Env} {mg mb : Str → Option Value} {K : Frag} {N Gs : List Str} {Cs : List (Str × Addr)}

theorem GlobOk.at {T : Tab} (G : GlobOk X mg mb) (hT : T ∈ X.tabs) {h : Heap} {g : Array GenState} {os : OsState} (I : InvH X R h g os) : h.BuiltinsAt mg T.P := by
  obtain ⟨bm, ob, b1, b2, b3, b4, b5, b6, b7⟩ := G.bm
  refine ⟨bm, ob, b1, b2, fun e => ?_, b4 T hT, I.kept _ _ b3 b4, b5, b6, b7⟩
  obtain ⟨o, es, ep, e1, hd, _⟩ := G.g
  rw [e, e1] at b3; cases b3; rw [hd] at b7; cases b7

theorem pairOr {α : Type} {S : α → α → Prop} (sy : ∀ a b, S a b → S b a) : ∀ {l : List α}, l.Pairwise S → ∀ {a b : α}, a ∈ l → b ∈ l → a = b ∨ S a b
  | x :: r, hp, a, b, ha, hb => by
    have hp' := List.pairwise_cons.mp hp
    rcases List.mem_cons.mp ha with e | ha' <;> rcases List.mem_cons.mp hb with e' | hb'
    · exact .inl (e.trans e'.symm)
    · subst e; exact .inr (hp'.1 b hb')
    · subst e'; exact .inr (sy _ _ (hp'.1 a ha'))
    · exact pairOr sy hp'.2 ha' hb'
theorem TabOk.table {h : Heap} {R : Led} {t : Tab} (x : TabOk h R t) : ∃ ps, h.TableAt t.c t.P ps ∧ ∀ q u, ps[1]? ≠ some (.str q u) := by
  cases x with
  | emp a b => exact ⟨_, b, by simp⟩
  | one c' a b c d => exact ⟨_, b, by simp [rawInt]⟩
theorem TabOk.ne_rc {h : Heap} {R : Led} {t : Tab} (x : TabOk h R t) {c : Addr} {q : Str} (hc : At h c (rc q)) : c ≠ t.P := fun e => by
  obtain ⟨ps, ⟨_, hP⟩, hn⟩ := x.table
  obtain ⟨o, e1, vs, u, e2, e3⟩ := hc
  rw [e, hP] at e1; cases e1
  cases e2
  exact hn _ _ e3
/-- a def within a def: its code is made once, its function each time -/
theorem t_def {Ψ : Flow → Led → Prop} {name : Str} {params : Arguments} {body : List Stmt} {scope : Scope} {pos : Pos} {cls : List (Str × Addr)} (T : Tab) (hT : T ∈ X.tabs) (G : GlobOk X mg mb) (F : Fn env N Gs Cs) (hcode : env.code = .ref T.c) (hpos : T.pos = pos) (hq : T.q = qualnameIn env name name) (hcl : closes Cs scope.names [] = some cls)
    (hd0 : params.defaults = []) (hk0 : params.kw_defaults = []) (ha : annTrees params none env = [])
    (k : ∀ f c' doc ctv, Tr X A (ow f (ob (fnMade name (qualnameIn env name name) params body scope cls doc ((mg "__name__").getD .none) c' ctv)) :: fx c' (rc (qualnameIn env name name)) :: R) (storeName env name (.ref f)) fun _ => Ψ .next) : Tr X A R (exec (.FunctionDef name params body [] none [] scope none name pos) env) Ψ := by
  refine ⟨fun s I => nestDef_K hd0 hk0 ha ?_⟩
  have hclo : closureFor scope env = Pure.pure cls := closureFor_of (by rw [F.ce]; exact hcl)
  have ct := I.ctab T hT
  have hgP : mainGlobals ≠ T.P := G.ng T hT
  have hgn := I.nsOf G.g G.ng
  have done : ∀ (f : Addr) (h' : Heap) (tk : Tok) (c' : Addr) (doc ctv : Value), InvH X (ow f (ob (fnMade name (qualnameIn env name name) params body scope cls doc ((mg "__name__").getD .none) c' ctv)) :: fx c' (rc (qualnameIn env name name)) :: R) h' s.gens s.os →
      wpAny (model X.prog X.w) A (storeName env name (.ref f)) (fun _ s'' => ∃ R', Inv X R' s'' ∧ Ψ .next R') (fun _ _ => False) { s with heap := h', toks := tk } := fun f h' tk c' doc ctv J =>
    (k f c' doc ctv).run { s with heap := h', toks := tk } J
  rcases I.tab T hT with ⟨hC, hTa⟩ | ⟨c', hC, hTa, hcr, hro⟩
  · have CH := CodeHd.of hC hTa
    refine makeFunction_K (mg := mg) hclo F.g hgn hcode CH hTa.2 trivial rfl hgP (G.at hT I) fun c' ctv doc h' tk hx hge hlt hrec htb => ?_
    refine done h'.objs.size _ tk c' doc ctv ?_
    have hk1 : ∀ b o, b ≠ T.P → s.heap.get? b = some o → (h'.push (fnMade name (qualnameIn env name name) params body scope cls doc ((mg "__name__").getD .none) c' ctv)).get? b = some o := fun b o hb e => Heap.get?_push_of_some _ (hx b o hb e)
    have hcP : T.c ≠ T.P := by
      obtain ⟨o, vs, file, tf, flags, tg, inF, text, tt, op, _, _, _, _, _, _, _, _, _, _, h11⟩ := hC
      exact h11
    have hsz : s.heap.objs.size ≤ h'.objs.size := Nat.le_of_lt (Nat.lt_of_le_of_lt hge hlt)
    have hRP : ∀ p ∈ R, p.a ≠ T.P := fun p hp => I.offP hp hT
    obtain ⟨o₀, vs₀, e1, e2, e3, e4⟩ := hTa.1
    generalize hob : fnMade name (qualnameIn env name name) params body scope cls doc ((mg "__name__").getD .none) c' ctv = ob₁ at hk1
    have htab' : (h'.push ob₁).TableAt T.c T.P (#[] ++ #[rawInt pos.line, rawInt pos.col, .ref c']) := ⟨⟨o₀, vs₀, hk1 _ _ hcP e1, e2, e3, e4⟩, Heap.get?_push_of_some _ htb⟩
    have hlt' : ∀ p ∈ R, p.a < s.heap.objs.size := fun p hp => (I.own p hp).lt
    have hrc : At (h'.push ob₁) c' (rc (qualnameIn env name name)) := (At.ofRc hrec).keeps fun b o e => Heap.get?_push_of_some _ e
    have hCH : CodeHd (h'.push ob₁) T.c T.P := by
      obtain ⟨o, vs, file, tf, flags, tg, inF, text, tt, z1, r⟩ := CH
      exact ⟨o, vs, file, tf, flags, tg, inF, text, tt, hk1 _ _ hcP z1, r⟩
    exact {
      old := let ⟨ps, h0⟩ := ct.2.2.2; I.old.step_table h0 hTa htab' (fun b o hb e => hk1 b o hb e) ct.2.2.1
      kept := fun a o e ht => hk1 _ _ (ht T hT) (I.kept a o e ht)
      size := by rw [Heap.size_push]; exact Nat.le_trans I.size (Nat.le_succ_of_le hsz)
      own := fun p hp => by
        rcases List.mem_cons.mp hp with rfl | hp
        · exact ⟨_, Heap.get?_push_size _ (by rw [← hob]; rfl), rfl⟩
        · rcases List.mem_cons.mp hp with rfl | hp
          · exact hrc
          · obtain ⟨o, z1, z2⟩ := I.own p hp
            exact ⟨o, hk1 _ _ (hRP p hp) z1, z2⟩
      above := fun p hp hu => by
        rcases List.mem_cons.mp hp with rfl | hp
        · exact Nat.le_trans I.size hsz
        · rcases List.mem_cons.mp hp with rfl | hp
          · cases hu
          · exact I.above p hp hu
      apart := by
        refine List.pairwise_cons.mpr ⟨fun p hp _ => ?_, List.pairwise_cons.mpr ⟨fun p hp _ => ?_, I.apart⟩⟩
        · rcases List.mem_cons.mp hp with rfl | hp
          · exact Nat.ne_of_gt hlt
          · exact Nat.ne_of_gt (Nat.lt_of_lt_of_le (hlt' p hp) hsz)
        · exact Nat.ne_of_gt (Nat.lt_of_lt_of_le (hlt' p hp) hge)
      off := fun p hp hu t ht => by
        rcases List.mem_cons.mp hp with rfl | hp
        · cases hu
        · rcases List.mem_cons.mp hp with rfl | hp
          · exact Nat.ne_of_gt (Nat.lt_of_lt_of_le (I.ctab t ht).1 (Nat.le_trans I.size hge))
          · exact I.off p hp hu t ht
      tab := fun t ht => by
        have hno : ∀ c'' : Addr, c'' < s.heap.objs.size → (∀ p ∈ R, p.a = c'' → p.w = false) → ∀ p ∈ (ow h'.objs.size (ob ob₁) :: fx c' (rc (qualnameIn env name name)) :: R), p.a = c'' → p.w = false := fun c'' hc'' d p hp e => by
          rcases List.mem_cons.mp hp with rfl | hp
          · exact absurd e (Nat.ne_of_gt (Nat.lt_of_lt_of_le hc'' hsz))
          · rcases List.mem_cons.mp hp with rfl | hp
            · rfl
            · exact d p hp e
        rcases pairOr (S := fun t u : Tab => t.P ≠ u.P ∧ t.c ≠ u.P ∧ u.c ≠ t.P) (fun a b x => ⟨Ne.symm x.1, x.2.2, x.2.1⟩) I.dtab ht hT with rfl | hne
        · refine .one c' (by rw [hpos]; exact hCH.code htab'.2 (by simp [TriplesOk, rawInt])) (by rw [hpos]; exact htab') (by rw [hq]; exact hrc) fun p hp e => ?_
          rcases List.mem_cons.mp hp with rfl | hp
          · exact absurd e (Nat.ne_of_gt hlt)
          · rcases List.mem_cons.mp hp with rfl | hp
            · rfl
            · exact absurd e (Nat.ne_of_lt (Nat.lt_of_lt_of_le (hlt' p hp) hge))
        · have tk : ∀ {ps}, s.heap.TableAt t.c t.P ps → (h'.push ob₁).TableAt t.c t.P ps := fun x => let ⟨⟨o, vs, a, r⟩, b⟩ := x; ⟨⟨o, vs, hk1 _ _ hne.2.1 a, r⟩, hk1 _ _ hne.1 b⟩
          have ck : ∀ {ps}, s.heap.IsCode t.c t.P ps → (h'.push ob₁).IsCode t.c t.P ps := fun x => x.extBut (a := T.P) (fun b o hb e => hk1 b o hb e) hne.2.1 hne.1
          rcases I.tab t ht with ⟨a, b⟩ | ⟨c'', a, b, c, d⟩
          · exact .emp (ck a) (tk b)
          · have hcT : c'' ≠ T.P := (I.tab T hT).ne_rc c
            obtain ⟨o, z1, z2⟩ := c
            exact .one c'' (ck a) (tk b) ⟨o, hk1 _ _ hcT z1, z2⟩ (hno c'' (Heap.lt_size z1) d)
      ctab := I.ctab
      dtab := I.dtab
      gens := I.gens
      os := I.os }
  · have CH := CodeHd.of hC hTa
    rw [hpos] at hC hTa
    refine makeFunction_hit (mg := mg) (cv := .ref c') hclo F.g hgn hcode CH hTa.2 (by simp [TriplesOk, rawInt]) (by simp [codeAmong, rawInt]) (G.at hT I) fun ctv doc h' tk hk hsz => ?_
    refine done h'.objs.size _ tk c' doc ctv ?_
    rw [hq] at hcr
    have J : InvH X (ow h'.objs.size (ob (fnMade name (qualnameIn env name name) params body scope cls doc ((mg "__name__").getD .none) c' ctv)) :: R) (h'.push (fnMade name (qualnameIn env name name) params body scope cls doc ((mg "__name__").getD .none) c' ctv)) s.gens s.os :=
      I.grow1 (fun b o e => Heap.get?_push_of_some _ (hk b o e)) (by rw [Heap.size_push]; exact Nat.le_succ_of_le hsz) ⟨_, Heap.get?_push_size _ rfl, rfl⟩ hsz
    have hrc := hcr.keeps (h' := h'.push (fnMade name (qualnameIn env name name) params body scope cls doc ((mg "__name__").getD .none) c' ctv)) fun b o e => Heap.get?_push_of_some _ (hk b o e)
    have hfc : c' < h'.objs.size := Nat.lt_of_lt_of_le hcr.lt hsz
    exact {
      old := J.old
      kept := J.kept
      size := J.size
      own := fun p hp => by
        rcases List.mem_cons.mp hp with rfl | hp
        · exact J.own _ (.head _)
        · rcases List.mem_cons.mp hp with rfl | hp
          · exact hrc
          · exact J.own p (.tail _ hp)
      above := fun p hp hu => by
        rcases List.mem_cons.mp hp with rfl | hp
        · exact J.above _ (.head _) hu
        · rcases List.mem_cons.mp hp with rfl | hp
          · cases hu
          · exact J.above p (.tail _ hp) hu
      apart := by
        have ap := List.pairwise_cons.mp J.apart
        refine List.pairwise_cons.mpr ⟨fun p hp hw => ?_, List.pairwise_cons.mpr ⟨fun p hp hw => ?_, ap.2⟩⟩
        · rcases List.mem_cons.mp hp with rfl | hp
          · exact Nat.ne_of_gt hfc
          · exact ap.1 p hp hw
        · rcases hw with hw | hw
          · cases hw
          · intro e
            rw [hro p hp e.symm] at hw; cases hw
      off := fun p hp hu t ht => by
        rcases List.mem_cons.mp hp with rfl | hp
        · cases hu
        · rcases List.mem_cons.mp hp with rfl | hp
          · exact (I.tab t ht).ne_rc hcr
          · exact I.off p hp hu t ht
      tab := fun t ht => (I.tab t ht).keeps (fun b o e => Heap.get?_push_of_some _ (hk b o e)) fun p hp hu => by
        rcases List.mem_cons.mp hp with rfl | hp
        · exact .inr hsz
        · rcases List.mem_cons.mp hp with rfl | hp
          · cases hu
          · exact .inl hp
      ctab := I.ctab
      dtab := I.dtab
      gens := J.gens
      os := J.os }
theorem t_defF {Ψ : Flow → Led → Prop} {name : Str} {params : Arguments} {body : List Stmt} {scope : Scope} {pos : Pos} {cls : List (Str × Addr)} (T : Tab) (hT : T ∈ X.tabs) (G : GlobOk X mg mb) (F : Fn env N Gs Cs) (hcode : env.code = .ref T.c) (hpos : T.pos = pos) (hq : T.q = qualnameIn env name name) (hcl : closes Cs scope.names [] = some cls)
    (hd0 : params.defaults = []) (hk0 : params.kw_defaults = []) (ha : annTrees params none env = [])
    (k : ∀ f c' F, (∃ doc pm ctv, F = fnMade name T.q params body scope cls doc pm c' ctv) → Tr X A (ow f (ob F) :: fx c' (rc T.q) :: R) (storeName env name (.ref f)) fun _ => Ψ .next) : Tr X A R (exec (.FunctionDef name params body [] none [] scope none name pos) env) Ψ :=
  t_def T hT G F hcode hpos hq hcl hd0 hk0 ha fun f c' doc ctv => by
    rw [← hq]
    exact k f c' _ ⟨doc, _, ctv, rfl⟩
end
end Mine
namespace Mine
open PySem PySem.W PySem.Calls PyProof.Rows PySem.SeqAt

section
variable {X : Amb} {A : Around} {R R' : Led} {env : Env} {mg mb : Str → Option Value} {K : Frag}
section
variable {Ψ : Value → Led → Prop} {a b : Int} {t u : Tok}
theorem t_fdiv (hb : b ≠ 0) (hs : b.natAbs.log2 < 9000) (k : ∀ t, Ψ (.int (a.fdiv b) t) R) : Tr X A R (binaryOp .FloorDiv (.int a t) (.int b u)) Ψ := ⟨fun s I => by
  exact floordiv_int hb ⟨R, I, k _⟩ (.inl (PyProof.noPylong_of_log2 hs))⟩
theorem t_divmod (hb : b ≠ 0) (hs : b.natAbs.log2 < 9000) (k : ∀ r t u, Ψ (.ref r) (ow r (tu [.int (a.fdiv b) t, .int (a.fmod b) u]) :: R)) : Tr X A R (call (.builtin "divmod") [.int a t, .int b u]) Ψ := ⟨fun s I => by
  exact divmod_int hb ⟨_, InvH.push (c := tu [.int (a.fdiv b) s.toks, .int (a.fmod b) (s.toks + 1)]) I _ rfl ⟨rfl, _, rfl⟩, k _ _ _⟩ (.inl (PyProof.noPylong_of_log2 hs))⟩
theorem t_neg (k : ∀ t, Ψ (.int (-a) t) R) : Tr X A R (unaryOp .USub (.int a t)) Ψ := ⟨fun s I => by exact PyProof.Rows.neg_int ⟨R, I, k _⟩⟩
theorem t_bits (k : ∀ t', Ψ (.int (Builtin.Int.intBits a) t') R) : Tr X A R (call (.builtin "int.bit_length") [.int a t]) Ψ := ⟨fun s I => by exact call_int_bit_length ⟨R, I, k _⟩⟩
theorem t_mulL {l : Addr} {vs : List Value} {x : Int} (h : Has l (li vs) R) (hlo : -(2 ^ 63 : Int) ≤ x) (hhi : x < 2 ^ 63) (hsz : vs.length * x.toNat ≤ 2 ^ 24) (k : ∀ D, Ψ (.ref D) (ow D (li (List.replicate x.toNat vs).flatten) :: R)) : Tr X A R (binaryOp .Mult (.ref l) (.int x u)) Ψ := ⟨fun s I => by
  obtain ⟨o, ho, n, rfl⟩ := I.at h
  have hsz' : vs.toArray.size * x.toNat ≤ 2 ^ 24 := by simpa using hsz
  refine wpAny_binaryOp_repeat_ref (T := "list") (U := "int") (by decide) ⟨_, ho, rfl⟩ (fun s' => typeIs_int s' x u) noFill_list_mul PySem.F.fills_int_mul PySem.F.slot_int_rmul repeat_list PySem.F.slot_int_index.lookup
    (call_meets PySem.F.slot_int_rmul (typeIs_int s x u) PySem.F.entry_int_rmul (PySem.F.args_int_rmul_2 _ _) (lm_int_rmul_list_any x u l vs.toArray n none #[])
      ⟨ho, rfl, ⟨_, ho, rfl⟩, call_meets PySem.F.slot_list_mul ⟨_, ho, rfl⟩ PySem.F.entry_list_mul (PySem.F.args_list_mul_2 _ _)
        (lm_list_mul_any l vs.toArray n none #[] x u (by simp [Builtin.List.listFitsIndex]; omega) (by omega) (by simp [Builtin.List.listTooLong, sizeLine]; omega))
        ⟨ho, ?_⟩⟩)
  rw [listMul_foldl_if]
  exact ⟨_, I.push (c := li (List.replicate x.toNat vs).flatten) _ rfl ⟨_, by simp; rfl⟩, k _⟩⟩
theorem t_addL {l b : Addr} {vs ws : List Value} (h : Has l (li vs) R) (h' : Has b (li ws) R) (hsz : vs.length + ws.length ≤ sizeLine) (k : ∀ D, Ψ (.ref D) (ow D (li (vs ++ ws)) :: R)) : Tr X A R (binaryOp .Add (.ref l) (.ref b)) Ψ := ⟨fun s I => by
  obtain ⟨o, ho, n, rfl⟩ := I.at h
  obtain ⟨o', ho', n', rfl⟩ := I.at h'
  refine concat_meets ⟨_, ho, rfl⟩ ⟨_, ho', rfl⟩ noFill_list_add seq_list_add PySem.F.slot_list_add PySem.F.entry_list_add (PySem.F.args_list_add_2 _ _) (list_addW l b vs.toArray ws.toArray n n' none none #[] #[] (by simpa using hsz)) ⟨ho, ho', ?_⟩
  exact ⟨_, I.push (c := li (vs ++ ws)) _ rfl ⟨_, by simp; rfl⟩, k _⟩⟩
theorem t_reverse {l : Addr} {vs : List Value} {R' : Led} (hz : vs.length ≤ sizeLine) (uu : Upd l (li vs) (li vs.reverse) R R') (k : Ψ .none R') : Tr X A R (call (.builtin "list.reverse") [.ref l]) Ψ := ⟨fun s I => by
  obtain ⟨o, ho, hl⟩ := I.at uu.has
  have hl' := hl
  obtain ⟨n, rfl⟩ := hl'
  refine call_meets PySem.F.slot_list_reverse ⟨_, ho, rfl⟩ PySem.F.entry_list_reverse (PySem.F.args_list_reverse_1 _) (AutoSeq1.list_reverse_list_0 l vs.toArray n (by simpa using hz)) ⟨ho, ?_⟩
  refine ⟨R', I.update uu (Heap.SameBut.update ..) ⟨_, Heap.get?_update_self _ ho rfl, ?_⟩, k⟩
  have := li_map (f := fun x => x.reverse) hl
  simpa using this⟩

/-! lists of ints told apart -/
theorem intsEq : ∀ {vs ws : List Value} {ns ms : List Int}, IntsAre vs ns → IntsAre ws ms → vs.length = ws.length → ∃ e : Nat → Bool, ((List.range vs.length).all e = (ns == ms)) ∧ ∀ (A : Around) (s : Shared) j (h1 : j < vs.length) (h2 : j < ws.length), EqAt A s vs[j] ws[j] (e j)
  | _, _, _, _, .nil, .nil, _ => ⟨fun _ => true, by simp, fun A s j h => by simp at h⟩
  | _, _, _, _, .cons n t h, .cons m u h', hl => by
    obtain ⟨e, h1, h2⟩ := intsEq h h' (by simpa using hl)
    refine ⟨fun j => match j with | 0 => n == m | j + 1 => e j, ?_, fun A s j => ?_⟩
    · rw [List.length_cons, List.range_succ_eq_map, List.all_cons, List.all_map]
      show ((n == m) && (List.range _).all e) = _
      rw [h1]; rfl
    · cases j with
      | zero => intro _ _; exact EqAt.int_int n t m u
      | succ j => intro h3 h4; exact h2 A s j (by simpa using h3) (by simpa using h4)
theorem ints_len : ∀ {vs : List Value} {ns : List Int}, IntsAre vs ns → vs.length = ns.length
  | _, _, .nil => rfl
  | _, _, .cons _ _ h => by simp [ints_len h]
theorem rcInts {s : Shared} {l b : Addr} {vs ws : List Value} {ns ms : List Int} (hl : s.heap.IsList l vs.toArray) (hb : s.heap.IsList b ws.toArray) (hi : IntsAre vs ns) (hj : IntsAre ws ms) (hu : A.units < cLine) : RcAt A s (.ref l) (.ref b) (ns == ms) := by
  by_cases hz : vs.length = ws.length
  · obtain ⟨e, h1, h2⟩ := intsEq hi hj hz
    rw [← h1]
    have := RcAt.lists (e := e) hl hb (by simpa using hz) hu (fun j a b => by simpa using h2 A.in1 s j (by simpa using a) (by simpa using b))
    simpa using this
  · have hne : ns ≠ ms := fun e => hz (by rw [ints_len hi, ints_len hj, e])
    have : (ns == ms) = false := by simpa using hne
    rw [this]
    exact RcAt.lists_lengths hl hb (by simpa using hz) hu
theorem rcNeInts {s : Shared} {l b : Addr} {vs ws : List Value} {ns ms : List Int} (hl : s.heap.IsList l vs.toArray) (hb : s.heap.IsList b ws.toArray) (hi : IntsAre vs ns) (hj : IntsAre ws ms) (hu : A.units < cLine) : RcNeAt A s (.ref l) (.ref b) (ns != ms) := by
  by_cases hz : vs.length = ws.length
  · obtain ⟨e, h1, h2⟩ := intsEq hi hj hz
    have e1 : (ns != ms) = !(List.range vs.length).all e := by rw [h1]; rfl
    rw [e1]
    have := RcNeAt.lists (e := e) hl hb (by simpa using hz) hu (fun j a b => by simpa using h2 A.in1 s j (by simpa using a) (by simpa using b))
    simpa using this
  · have hne : ns ≠ ms := fun e => hz (by rw [ints_len hi, ints_len hj, e])
    have : (ns != ms) = true := by simpa using hne
    rw [this]
    exact RcNeAt.lists_lengths hl hb (by simpa using hz) hu
theorem t_eqInts {l b : Addr} {vs ws : List Value} {ns ms : List Int} (h : Has l (li vs) R) (h' : Has b (li ws) R) (hi : IntsAre vs ns) (hj : IntsAre ws ms) {n : Nat} (hr : Room A n) (k : Ψ (.bool (ns == ms)) R) : Tr X A R (compareOp .Eq (.ref l) (.ref b)) Ψ := ⟨fun s I =>
  rcInts (I.at h).isList (I.at h').isList hi hj hr.line _ _ _ _ ⟨R, I, k⟩⟩
theorem t_neInts {l b : Addr} {vs ws : List Value} {ns ms : List Int} (h : Has l (li vs) R) (h' : Has b (li ws) R) (hi : IntsAre vs ns) (hj : IntsAre ws ms) {n : Nat} (hr : Room A n) (k : Ψ (.bool (ns != ms)) R) : Tr X A R (compareOp .NotEq (.ref l) (.ref b)) Ψ := ⟨fun s I =>
  rcNeInts (I.at h).isList (I.at h').isList hi hj hr.line _ _ _ _ ⟨R, I, k⟩⟩

theorem t_subTu {value slice : Expr} {l : Addr} {vs : List Value} {u : Tok} {i : Int} {v : Value} (h : Has l (tu vs) R) (h0 : 0 ≤ i) (hi : i < vs.length) (hv : vs[i.toNat]? = some v) (hz : vs.length ≤ sizeLine) (k : Ψ v R)
    (hs : subscripted slice false (.ref l) (.int i u) = operate [.ref l, .int i u] (getItem (.ref l) (.int i u)) := by rfl) : Tr X A R (subscriptTail value slice (.ref l) (.int i u)) Ψ := by
  have hT : ∀ s, Inv X R s → IsTup s.heap l vs.toArray := fun s I => by
    obtain ⟨o, ho, z⟩ := I.at h
    exact ⟨o, ho, z⟩
  refine t_subTail (fun s I => (hT s I).typeIs) slot_tuple_getitem.lookup hs ⟨fun s I => ?_⟩
  rw [sizeLine_eq] at hz
  refine PyProof.Rows.getItem_tuple (hT s I) (by omega) (by omega) (j := i.toNat) ?_ (by simpa using hv) ⟨R, I, k⟩
  unfold seqIndex?
  simp
  omega
end
section
variable {Φ : Value × List Value → Led → Prop} {pl : Sem Bool}
theorem t_mBits {a : Int} {t : Tok} (k : Φ (.builtin "int.bit_length", [.int a t]) R) : Tr X A R (getMethod (.int a t) "bit_length" pl) Φ := ⟨fun s I => by exact getMethod_int_bit_length ⟨R, I, k⟩⟩
theorem li_noDict {s : Shared} {l : Addr} {vs : List Value} (h : At s.heap l (li vs)) : s.heap.NoDictAt (.ref l) := by
  obtain ⟨o, ho, n, rfl⟩ := h
  first
    | exact ⟨_, ho, rfl⟩
    | exact fun a e => by cases e; exact ⟨_, ho, rfl⟩
theorem t_mAppend {l : Addr} {vs : List Value} (h : Has l (li vs) R) (k : Φ (.builtin "list.append", [.ref l]) R) : Tr X A R (getMethod (.ref l) "append" pl) Φ := ⟨fun s I =>
  getMethod_list_of PySem.F.slot_list_append PySem.F.type_list_append (I.at h).isList (li_noDict (I.at h)) ⟨R, I, k⟩⟩
theorem t_mReverse {l : Addr} {vs : List Value} (h : Has l (li vs) R) (k : Φ (.builtin "list.reverse", [.ref l]) R) : Tr X A R (getMethod (.ref l) "reverse" pl) Φ := ⟨fun s I =>
  getMethod_list_of PySem.F.slot_list_reverse PySem.F.type_list_reverse (I.at h).isList (li_noDict (I.at h)) ⟨R, I, k⟩⟩
end
theorem f_expr {N Gs : List Str} {Cs : List (Str × Addr)} {Ψ : Flow → Led → Prop} {e : Expr} {pos : Pos} (F : Fn env N Gs Cs) (k : Tr X A R (eval e env) fun v R1 => NoRef v (Ψ .next R1)) (hs : swapsWith e none pos.line env = Pure.pure false) : Tr X A R (exec (.Expr e pos) env) Ψ :=
  t_expr k (by unfold interactive; rw [F.kind]; rfl) hs
theorem f_assignTup2 {Ψ : Flow → Led → Prop} {x y : Str} {p1 p2 p pos : Pos} {k' : Nat} {value : Expr} (hh : A.handled = none)
    (k : Tr X A R (eval value env) fun v R1 => ∃ t v1 v2, v = .ref t ∧ Has t (tu [v1, v2]) R1 ∧ Tr X A R1 (storeName env x v1) fun _ R2 => Tr X A R2 (storeName env y v2) fun _ => Ψ .next)
    (hw : swappedStores [.Tuple [.Name x p1, .Name y p2] k' p] value env = Pure.pure none) (hs : swapsWithSole [.Tuple [.Name x p1, .Name y p2] k' p] value pos.line env = Pure.pure false) : Tr X A R (exec (.Assign [.Tuple [.Name x p1, .Name y p2] k' p] value pos) env) Ψ := by
  refine t_assignTup (k.mono fun v R1 h => ?_) hw hs
  obtain ⟨t, v1, v2, rfl, ht, k⟩ := h
  refine t_assignTuple hh ht rfl rfl ?_
  exact t_inOrder (t_assignName (k.mono fun _ R2 k2 => t_inOrder (t_assignName (k2.mono fun _ R3 k3 => t_inOrder0 k3))))
/-- a call of a def that the ledger holds -/
theorem t_callL0 {Ψ : Value → Led → Prop} {pos : Pos} {args : List Expr} {a : Addr} {Fo : Obj} (h0 : Has a (ob Fo) R) (hF : ∃ fd, Fo.data = .func fd) (hst : (backTo pos (starEach args env)).any (·.1) = false) (k : Tr X A R (spliced (backTo pos (starEach args env))) fun vs R1 => Has a (ob Fo) R1 ∧ Tr X A R1 (call (.ref a) vs) Ψ) : Tr X A R (callWith pos (.ref a) [] (backTo pos (starEach args env)) []) Ψ := by
  obtain ⟨fd, hF⟩ := hF
  exact t_callFn (fd := fd) hst (k.mono fun vs R1 h => ⟨fun s I => ⟨_, (I.at h.1).ob, hF⟩, h.2⟩)
theorem t_tList {Ψ : Bool → Led → Prop} {l : Addr} {vs : List Value} (h : Has l (li vs) R) (hz : vs.length ≤ sizeLine) (k : Ψ (!vs.isEmpty) R) : Tr X A R (truthy (.ref l)) Ψ := ⟨fun s I => by
  refine wpAny_truthy_list (I.at h).isList (by rw [sizeLine_eq] at hz; simp; omega) ⟨R, I, ?_⟩
  have : (vs.toArray.isEmpty) = vs.isEmpty := by simp
  rw [this]; exact k⟩
theorem t_assignSub {Ψ : Flow → Led → Prop} {o i : Expr} {pos' pos : Pos} {value : Expr} (k : Tr X A R (eval value env) fun v R1 => Tr X A R1 (eval o env) fun ov R2 => Tr X A R2 (eval i env) fun iv R3 => Tr X A R3 (setItem ov iv v) fun _ => Ψ .next)
    (hs : swapsWith value (some (.Subscript o i pos')) pos.line env = pure false) : Tr X A R (exec (.Assign [.Subscript o i pos'] value pos) env) Ψ := ⟨fun s I =>
  wpAny_Assign_Subscript (k.use I fun v s₁ R₁ I₁ k₁ => k₁.use I₁ fun ov s₂ R₂ I₂ k₂ => k₂.use I₂ fun iv s₃ R₃ I₃ k₃ => k₃.run s₃ I₃) hs⟩
end
end Mine
namespace Mine
open PySem PySem.W PySem.Calls PyProof.Rows

theorem and_top (x s : Nat) : x &&& (x / 2 ^ s * 2 ^ s) = x / 2 ^ s * 2 ^ s := by
  apply Nat.eq_of_testBit_eq
  intro i
  rw [Nat.testBit_and, Nat.testBit_mul_two_pow, Nat.testBit_div_two_pow]
  by_cases h : s ≤ i
  · have : i - s + s = i := Nat.sub_add_cancel h
    simp [h, this]
  · simp [h]
theorem or_top (x s : Nat) : x ||| (x / 2 ^ s * 2 ^ s) = x := by
  apply Nat.eq_of_testBit_eq
  intro i
  rw [Nat.testBit_or, Nat.testBit_mul_two_pow, Nat.testBit_div_two_pow]
  by_cases h : s ≤ i
  · have : i - s + s = i := Nat.sub_add_cancel h
    simp [h, this]
  · simp [h]
theorem xor_nat (x y : Nat) : Builtin.bitXor (x : Int) (y : Int) = ((x ||| y : Nat) : Int) - ((x &&& y : Nat) : Int) := by
  have e1 : Builtin.bitAnd (x : Int) (y : Int) = ((x &&& y : Nat) : Int) := by
    unfold Builtin.bitAnd
    simp
  have n1 : ∀ z : Nat, decide ((0 : Int) ≤ Builtin.bitNot (z : Int)) = false := fun z => by
    unfold Builtin.bitNot
    simp; omega
  have n2 : ∀ z : Int, Builtin.bitNot (Builtin.bitNot z) = z := fun z => by unfold Builtin.bitNot; omega
  unfold Builtin.bitXor
  rw [e1]
  congr 1
  unfold Builtin.bitOr Builtin.bitAnd
  rw [n1, n1]
  simp only [n2, Int.toNat_natCast]
theorem xor_low (x s : Nat) : Builtin.bitXor (x : Int) ((x / 2 ^ s * 2 ^ s : Nat) : Int) = ((x % 2 ^ s : Nat) : Int) := by
  rw [xor_nat, and_top, or_top]
  have := Nat.div_add_mod x (2 ^ s)
  rw [Nat.mul_comm] at this
  omega

/-- the digits of x, the least first -/
def dg (n : Nat) : Nat → Nat → List Int
  | _, 0 => []
  | x, m + 1 => ((x % 2 ^ n : Nat) : Int) :: dg n (x / 2 ^ n) m
theorem dg_len (n : Nat) : ∀ m x, (dg n x m).length = m
  | 0, _ => rfl
  | m + 1, x => by simp [dg, dg_len n m]
theorem dg_add (n : Nat) : ∀ (k m x : Nat), dg n x (k + m) = dg n (x % 2 ^ (n * k)) k ++ dg n (x / 2 ^ (n * k)) m
  | 0, m, x => by simp [dg]
  | k + 1, m, x => by
    have e : k + 1 + m = (k + m) + 1 := by omega
    have hp : 2 ^ (n * (k + 1)) = 2 ^ n * 2 ^ (n * k) := by rw [Nat.mul_succ, Nat.pow_add, Nat.mul_comm]
    rw [e]
    show _ :: dg n (x / 2 ^ n) (k + m) = (_ :: dg n (x % 2 ^ (n * (k + 1)) / 2 ^ n) k) ++ _
    rw [dg_add n k m, hp]
    have h1 : x % (2 ^ n * 2 ^ (n * k)) % 2 ^ n = x % 2 ^ n := Nat.mod_mul_right_mod _ _ _
    have h2 : x % (2 ^ n * 2 ^ (n * k)) / 2 ^ n = x / 2 ^ n % 2 ^ (n * k) := Nat.mod_mul_right_div_self _ _ _
    rw [h1, h2, Nat.div_div_eq_div_mul]
    simp
theorem dg_one (n x : Nat) (h : x < 2 ^ (n * 1)) : dg n x 1 = [(x : Int)] := by
  rw [Nat.mul_one] at h
  simp [dg, Nat.mod_eq_of_lt h]
theorem dg_get (n : Nat) : ∀ (m x j : Nat), j < m → (dg n x m)[j]? = some ((x / 2 ^ (n * j) % 2 ^ n : Nat) : Int)
  | 0, _, _, h => absurd h (Nat.not_lt_zero _)
  | m + 1, x, 0, _ => by simp [dg]
  | m + 1, x, j + 1, h => by
    show (dg n (x / 2 ^ n) m)[j]? = _
    rw [dg_get n m (x / 2 ^ n) j (by omega), Nat.div_div_eq_div_mul, ← Nat.pow_add, Nat.mul_succ, Nat.add_comm (n * j) n]
theorem ints_get : ∀ {vs : List Value} {ns : List Int}, IntsAre vs ns → ∀ {j : Nat} {v : Value}, vs[j]? = some v → ∃ i t, v = .int i t ∧ ns[j]? = some i
  | _, _, .nil, _, _, h => by simp at h
  | _, _, .cons i t r, 0, v, h => by simp at h; exact ⟨i, t, h.symm, by simp⟩
  | _, _, .cons i t r, j + 1, v, h => by
    obtain ⟨k, u, e, z⟩ := ints_get r (by simpa using h)
    exact ⟨k, u, e, by simpa using z⟩
/-- a step of the long division -/
theorem div_step (a b n j : Nat) : ((a / 2 ^ (n * (j + 1)) % b) * 2 ^ n + a / 2 ^ (n * j) % 2 ^ n) % b = a / 2 ^ (n * j) % b := by
  have h1 : a / 2 ^ (n * (j + 1)) = a / 2 ^ (n * j) / 2 ^ n := by rw [Nat.div_div_eq_div_mul, ← Nat.pow_add, Nat.mul_succ]
  have h2 : a / 2 ^ (n * j) = (a / 2 ^ (n * j) / 2 ^ n) * 2 ^ n + a / 2 ^ (n * j) % 2 ^ n := by
    have := Nat.div_add_mod (a / 2 ^ (n * j)) (2 ^ n)
    rw [Nat.mul_comm] at this
    exact this.symm
  rw [h1]
  conv => rhs; rw [h2]
  rw [Nat.add_mod, Nat.mul_mod, Nat.mod_mod, ← Nat.mul_mod, ← Nat.add_mod]
theorem dg_zero (n : Nat) : ∀ m, dg n 0 m = List.replicate m 0
  | 0 => rfl
  | m + 1 => by simp [dg, dg_zero n m, List.replicate_succ]
theorem dg_pad {n x M p : Nat} (h : x < 2 ^ (n * M)) (hp : M ≤ p) : dg n x p = dg n x M ++ List.replicate (p - M) 0 := by
  have := dg_add n M (p - M) x
  rw [Nat.add_sub_cancel' hp, Nat.mod_eq_of_lt h, Nat.div_eq_of_lt h, dg_zero] at this
  exact this
theorem ints_zeros {t : Tok} : ∀ k, IntsAre (List.replicate k (Value.int 0 t)) (List.replicate k 0)
  | 0 => .nil
  | k + 1 => .cons _ _ (ints_zeros k)
theorem fdiv_nat (x b : Nat) : (x : Int).fdiv (b : Int) = ((x / b : Nat) : Int) := by
  rw [Int.fdiv_eq_ediv_of_nonneg _ (by omega)]; push_cast; rfl
theorem fmod_nat (x b : Nat) : (x : Int).fmod (b : Int) = ((x % b : Nat) : Int) := by
  rw [Int.fmod_eq_emod_of_nonneg _ (by omega)]; push_cast; rfl
theorem bits_nat (a : Nat) : a < 2 ^ (Builtin.Int.intBits (a : Int)) := by
  unfold Builtin.Int.intBits
  by_cases h : a = 0
  · subst h; decide
  · have : ((a : Int) == 0) = false := by simp; exact h
    rw [this]
    simp only [Bool.false_eq_true, if_false, Int.natAbs_natCast]
    exact Nat.lt_log2_self
theorem bits_le {a k : Nat} (h : a < 2 ^ k) : Builtin.Int.intBits (a : Int) ≤ k := by
  unfold Builtin.Int.intBits
  by_cases h0 : a = 0
  · subst h0; simp
  · have : ((a : Int) == 0) = false := by simp; exact h0
    rw [this]
    simp only [Bool.false_eq_true, if_false, Int.natAbs_natCast]
    exact (Nat.log2_lt h0).mpr h
theorem shr_nat (x s : Nat) : ((x : Int).fdiv (2 ^ ((s : Int)).toNat)) = ((x / 2 ^ s : Nat) : Int) := by
  rw [Int.toNat_natCast]
  rw [Int.fdiv_eq_ediv_of_nonneg _ (by exact Int.le_of_lt (Int.pow_pos (by decide)))]
  push_cast
  rfl
end Mine
namespace Mine
open PySem PySem.W PySem.Calls PyProof.Rows

theorem step_done {m : Sre.M} (h : m.outcome.isSome = true) : m.step = m := by
  unfold Sre.M.step
  rw [if_pos h]
theorem runFor_done {m : Sre.M} (h : m.outcome.isSome = true) : ∀ n, m.runFor n = m
  | 0 => rfl
  | n + 1 => by
    unfold Sre.M.runFor
    rw [if_pos h]
theorem runFor_succ (m : Sre.M) (n : Nat) : m.runFor (n + 1) = m.step.runFor n := by
  conv => lhs; unfold Sre.M.runFor
  by_cases h : m.outcome.isSome = true
  · rw [if_pos h, step_done h, runFor_done h]
  · rw [if_neg h]
theorem runFor_add (m : Sre.M) : ∀ a b, m.runFor (a + b) = (m.runFor a).runFor b := by
  intro a
  induction a generalizing m with
  | zero => intro b; rw [Nat.zero_add]; rfl
  | succ a ih =>
    intro b
    rw [show a + 1 + b = (a + b) + 1 by omega, runFor_succ, runFor_succ, ih]
theorem runFor_end {m : Sre.M} {K : Nat} (h : (m.runFor K).outcome.isSome = true) {J : Nat} (hJ : K ≤ J) : m.runFor J = m.runFor K := by
  obtain ⟨d, rfl⟩ := Nat.exists_eq_add_of_le hJ
  rw [runFor_add, runFor_done h]

section
variable {X : Amb} {A : Around} {R : Led}
theorem t_drive {Ψ : Sre.M → Led → Prop} : ∀ (T : Nat) (m : Sre.M) (K : Nat), (m.runFor K).outcome.isSome = true → K ≤ 4 * T → 0 < T → Ψ (m.runFor K) R → Tr X A R (Builtin.Re.reDrive T m) Ψ
  | 0, _, _, _, _, h, _ => absurd h (Nat.lt_irrefl _)
  | T + 1, m, K, h, hK, _, k => by
    unfold Builtin.Re.reDrive
    show Tr X A R (if (m.runFor 4).outcome.isSome = true then pure (m.runFor 4) else (do rule "sre.turn"; Builtin.Re.reDrive T (m.runFor 4))) Ψ
    by_cases h4 : (m.runFor 4).outcome.isSome = true
    · rw [if_pos h4]
      have e : m.runFor K = m.runFor 4 := by
        rcases Nat.le_total K 4 with hl | hl
        · exact (runFor_end h hl).symm
        · exact runFor_end h4 hl
      rw [e] at k
      exact Tr.pure k
    · rw [if_neg h4]
      have hK4 : 4 < K := by
        rcases Nat.lt_or_ge 4 K with hl | hl
        · exact hl
        · exact absurd (by rw [runFor_end h hl]; exact h) h4
      obtain ⟨d, rfl⟩ := Nat.exists_eq_add_of_le (Nat.le_of_lt hK4)
      rw [runFor_add] at h k
      refine Tr.bind (t_rule ?_)
      exact t_drive T (m.runFor 4) d h (by omega) (by omega) k
theorem t_runEnd {Ψ : Option Sre.M → Led → Prop} {m : Sre.M} (K : Nat) (hK : K ≤ 2 ^ 60) (b : Bool) (h : (m.runFor K).outcome = some (if b then .matched else .failed)) (k : Ψ (if b then some (m.runFor K) else none) R) : Tr X A R (Builtin.Re.reRunToEnd m) Ψ := by
  unfold Builtin.Re.reRunToEnd
  refine Tr.bind (t_drive (2 ^ 64) m K (by rw [h]; rfl) (by omega) (by decide) ?_)
  generalize m.runFor K = m' at h k
  have loop : ∀ (l : List Nat) {Φ : PUnit → Led → Prop}, Φ PUnit.unit R → Tr X A R (forIn l PUnit.unit fun i (_ : PUnit) => (if m'.seen.has i = true then (rule (Sre.names.getD i "") >>= fun _ => pure (ForInStep.yield PUnit.unit)) else pure (ForInStep.yield PUnit.unit) : Sem (ForInStep PUnit))) Φ := by
    intro l
    induction l with
    | nil => intro Φ h; exact Tr.pure h
    | cons i l ih =>
      intro Φ h
      rw [List.forIn_cons]
      refine Tr.bind ?_
      by_cases hs : m'.seen.has i = true
      · rw [if_pos hs]
        exact Tr.bind (t_rule (Tr.pure (ih h)))
      · rw [if_neg hs]
        exact Tr.pure (ih h)
  refine Tr.bind (loop _ ?_)
  rw [h]
  cases b
  · exact Tr.pure k
  · exact Tr.pure k
end
end Mine
namespace Mine
open PySem

def code1 : Array Nat := #[14, 4, 0, 1, 1, 6, 1, 16, 46, 1]
/-- the machine -/
def mm (text : Array Nat) (lim s : Nat) (first : Bool) (seen : Sre.Seen) (pc pos hd : Nat) (ans : Option Bool) (fr : List Sre.Frame) (w : Nat) (out : Option Sre.Outcome) : Sre.M :=
  { code := code1, text, lim, start := s, lastStart := lim, pc, pos, handed := hd, outermost := first, marks := #[], frames := fr, weight := w, seen, answer := ans, outcome := out }
def f1 (s : Nat) (first : Bool) : List Sre.Frame := [{ wait := .nextStart, pc := 5, pos := s, outermost := first }]
/-- at a start -/
def mS (text : Array Nat) (lim s : Nat) (first : Bool) (seen : Sre.Seen) : Sre.M := mm text lim s first seen 5 s s none (f1 s first) 1 none
def bol (text : Array Nat) (s : Nat) : Bool := s == 0 || text.getD (s - 1) 0 == 10
section
variable (text : Array Nat) (lim s : Nat) (first : Bool) (seen : Sre.Seen)
theorem s1 : (mS text lim s first seen).step = if bol text s then mm text lim s first ((seen.add 6).add 44) 7 s s none (f1 s first) 1 none else mm text lim s first ((seen.add 6).add 44) 5 s s (some false) (f1 s first) 1 none := by rfl
theorem s2 : (mm text lim s first seen 7 s s none (f1 s first) 1 none).step = if s ≥ lim then mm text lim s first (seen.add 16) 7 s s (some false) (f1 s first) 1 none else (if (text.getD s 0 == 46) = true then mm text lim s first (seen.add 16) 9 (s + 1) s none (f1 s first) 1 none else mm text lim s first (seen.add 16) 7 s s (some false) (f1 s first) 1 none) := by
  show (if s ≥ lim then _ else _) = _
  by_cases h : s ≥ lim
  · rw [if_pos h, if_pos h]; rfl
  · rw [if_neg h, if_neg h]
    show (match (Except.ok (text.getD s 0 == 46, seen.add 16) : Except String (Bool × Sre.Seen)) with | .error why => _ | .ok (false, seen) => _ | .ok (true, seen) => _) = _
    cases hb : (text.getD s 0 == 46)
    · rfl
    · rfl
theorem s3 : (mm text lim s first seen 9 (s + 1) s none (f1 s first) 1 none).step = mm text lim s first (seen.add 1) 9 (s + 1) (s + 1) (some true) (f1 s first) 1 none := by
  cases first <;> rfl
theorem s4 (pc p hd : Nat) : (mm text lim s first seen pc p hd (some true) (f1 s first) 1 none).step = mm text lim s first seen 5 s hd (some true) [] 0 none := by rfl
theorem s5 (hd : Nat) : (mm text lim s first seen 5 s hd (some true) [] 0 none).step = mm text lim s first seen 5 s hd (some true) [] 0 (some .matched) := by rfl
theorem s6 (pc : Nat) : (mm text lim s first seen pc s s (some false) (f1 s first) 1 none).step = if s < lim then mS text lim (s + 1) false seen else mm text lim s first seen 5 s s (some false) [] 0 none := by
  show (if s < lim then _ else _) = _
  by_cases h : s < lim
  · rw [if_pos h, if_pos h]; rfl
  · rw [if_neg h, if_neg h]; rfl
theorem s7 : (mm text lim s first seen 5 s s (some false) [] 0 none).step = mm text lim s first seen 5 s s (some false) [] 0 (some .failed) := by rfl
end

def hit1 (text : Array Nat) (lim s : Nat) : Bool := bol text s && decide (s < lim) && text.getD s 0 == 46
def seek1 (text : Array Nat) (lim : Nat) : Nat → Nat → Option Nat
  | 0, s => if hit1 text lim s then some s else none
  | d + 1, s => if hit1 text lim s then some s else seek1 text lim d (s + 1)
/-- how a search ended -/
def Ends (o : Option (Nat × Nat)) (m : Sre.M) : Prop := match o with
  | some (p, h) => m.outcome = some .matched ∧ m.start = p ∧ m.handed = h
  | none => m.outcome = some .failed
theorem turn1 (text : Array Nat) (lim s : Nat) (first : Bool) (seen : Sre.Seen) :
    (hit1 text lim s = true → Ends (some (s, s + 1)) ((mS text lim s first seen).runFor 5)) ∧
    (hit1 text lim s = false → s < lim → ∃ k seen', k ≤ 3 ∧ (mS text lim s first seen).runFor k = mS text lim (s + 1) false seen') ∧
    (hit1 text lim s = false → ¬ s < lim → ∃ k, k ≤ 4 ∧ Ends none ((mS text lim s first seen).runFor k)) := by
  have e1 := s1 text lim s first seen
  unfold hit1
  by_cases hb : bol text s = true
  · rw [if_pos hb] at e1
    have e2 := s2 text lim s first ((seen.add 6).add 44)
    by_cases hl : s < lim
    · rw [if_neg (Nat.not_le.mpr hl)] at e2
      by_cases hc : (text.getD s 0 == 46) = true
      · rw [if_pos hc] at e2
        refine ⟨fun _ => ?_, fun h => ?_, fun h => ?_⟩
        · rw [runFor_succ, e1, runFor_succ, e2, runFor_succ, s3, runFor_succ, s4, runFor_succ, s5]
          exact ⟨rfl, rfl, rfl⟩
        · rw [hb, hc, decide_eq_true hl] at h; cases h
        · rw [hb, hc, decide_eq_true hl] at h; cases h
      · rw [if_neg hc] at e2
        refine ⟨fun h => ?_, fun _ _ => ⟨3, ((seen.add 6).add 44).add 16, Nat.le_refl _, ?_⟩, fun _ h => absurd hl h⟩
        · rw [Bool.not_eq_true] at hc
          rw [hc, Bool.and_false] at h; cases h
        · rw [runFor_succ, e1, runFor_succ, e2, runFor_succ, s6, if_pos hl]; rfl
    · rw [if_pos (Nat.not_lt.mp hl)] at e2
      refine ⟨fun h => ?_, fun _ h => absurd h hl, fun _ _ => ⟨4, Nat.le_refl _, ?_⟩⟩
      · rw [decide_eq_false hl, Bool.and_false, Bool.false_and] at h; cases h
      · rw [runFor_succ, e1, runFor_succ, e2, runFor_succ, s6, if_neg hl, runFor_succ, s7]; rfl
  · rw [if_neg hb] at e1
    rw [Bool.not_eq_true] at hb
    refine ⟨fun h => ?_, fun _ hl => ⟨2, (seen.add 6).add 44, by omega, ?_⟩, fun _ hl => ⟨3, by omega, ?_⟩⟩
    · rw [hb, Bool.false_and, Bool.false_and] at h; cases h
    · rw [runFor_succ, e1, runFor_succ]
      rw [s6, if_pos hl]; rfl
    · rw [runFor_succ, e1, runFor_succ]
      rw [s6, if_neg hl, runFor_succ, s7]; rfl
theorem search1 (text : Array Nat) (lim : Nat) : ∀ (d s : Nat) (first : Bool) (seen : Sre.Seen), s + d = lim → ∃ K, K ≤ 3 * d + 5 ∧ Ends ((seek1 text lim d s).map fun p => (p, p + 1)) ((mS text lim s first seen).runFor K)
  | 0, s, first, seen, h => by
    have t := turn1 text lim s first seen
    unfold seek1
    cases hh : hit1 text lim s
    · obtain ⟨k, hk, e⟩ := t.2.2 hh (by omega)
      exact ⟨k, by omega, e⟩
    · exact ⟨5, by omega, t.1 hh⟩
  | d + 1, s, first, seen, h => by
    have t := turn1 text lim s first seen
    unfold seek1
    cases hh : hit1 text lim s
    · obtain ⟨k, seen', hk, e⟩ := t.2.1 hh (by omega)
      obtain ⟨K, hK, e'⟩ := search1 text lim d (s + 1) false seen' (by omega)
      refine ⟨k + K, by omega, ?_⟩
      rw [runFor_add, e]
      exact e'
    · exact ⟨5, by omega, t.1 hh⟩
theorem find1 (text : Array Nat) (lim s : Nat) (h : s ≤ lim) : ∃ K, K ≤ 3 * lim + 5 ∧ Ends ((seek1 text lim (lim - s) s).map fun p => (p, p + 1)) ((Sre.forSearch code1 text 0 s lim false).runFor K) := by
  by_cases hl : s < lim
  · have e : Sre.forSearch code1 text 0 s lim false = mS text lim s true (({} : Sre.Seen).add 14) := by
      show (if (decide (s > lim) || decide (lim - s < 1)) = true then _ else _) = _
      have : (decide (s > lim) || decide (lim - s < 1)) = false := by rw [Bool.or_eq_false_iff]; exact ⟨decide_eq_false (by omega), decide_eq_false (by omega)⟩
      rw [if_neg (by rw [this]; decide)]
      rfl
    rw [e]
    obtain ⟨K, hK, z⟩ := search1 text lim (lim - s) s true (({} : Sre.Seen).add 14) (by omega)
    exact ⟨K, by omega, z⟩
  · have hs : s = lim := by omega
    subst hs
    have hit : hit1 text s s = false := by unfold hit1; simp
    have e0 : seek1 text s (s - s) s = none := by rw [Nat.sub_self]; unfold seek1; rw [hit]; rfl
    rw [e0]
    refine ⟨1, by omega, ?_⟩
    rw [runFor_succ]
    have e : Sre.forSearch code1 text 0 s s false = Sre.M.say { code := code1, text, lim := s, start := s, pc := 5, pos := s, handed := s, marks := #[], seen := ({} : Sre.Seen).add 14 } false := by
      show (if (decide (s > s) || decide (s - s < 1)) = true then _ else _) = _
      have : (decide (s > s) || decide (s - s < 1)) = true := by rw [Nat.sub_self]; simp
      rw [if_pos this]
      rfl
    rw [e]
    rfl
end Mine
namespace Mine
open PySem

def code2 : Array Nat := #[14, 9, 4, 1, 2, 16, 10, 16, 13, 0, 7, 7, 16, 13, 16, 10, 15, 18, 5, 16, 10, 15, 13, 11, 16, 13, 5, 5, 0, 16, 10, 1, 15, 2, 0, 1]
def m2 (text : Array Nat) (lim s : Nat) (ls : Nat) (first : Bool) (seen : Sre.Seen) (pc pos hd : Nat) (om : Bool) (ans : Option Bool) (fr : List Sre.Frame) (w : Nat) (out : Option Sre.Outcome) : Sre.M :=
  { code := code2, text, lim, start := s, lastStart := ls, pc, pos, handed := hd, outermost := om, marks := #[], frames := fr, weight := w, seen, answer := ans, outcome := out }
def g1 (s : Nat) : Sre.Frame := { wait := .nextStart, pc := 10, pos := s, outermost := true }
def g2 (s alt : Nat) : Sre.Frame := { wait := .nextBranch, pc := alt, pos := s, outermost := true, kept := { lastmark := -1, lastindex := -1, whole := false, marks := #[] } }
def g3 (p : Nat) : Sre.Frame := { wait := .lookNot, pc := 26, pos := p, outermost := true, kept := { lastmark := -1, lastindex := -1, whole := false, marks := #[] } }
section
variable (text : Array Nat) (lim s ls : Nat) (first : Bool) (seen : Sre.Seen)
-- the branch is entered
theorem b1 : (m2 text lim s ls first seen 10 s s true none [g1 s] 1 none).step = m2 text lim s ls first (seen.add 7) 12 s s true none [g2 s 11, g1 s] 2 none := by rfl
theorem l12 : (m2 text lim s ls first seen 12 s s true none [g2 s 11, g1 s] 2 none).step = if s ≥ lim then m2 text lim s ls first (seen.add 16) 12 s s true (some false) [g2 s 11, g1 s] 2 none else (if (text.getD s 0 == 13) = true then m2 text lim s ls first (seen.add 16) 14 (s + 1) s true none [g2 s 11, g1 s] 2 none else m2 text lim s ls first (seen.add 16) 12 s s true (some false) [g2 s 11, g1 s] 2 none) := by
  show (if s ≥ lim then _ else _) = _
  by_cases h : s ≥ lim
  · rw [if_pos h, if_pos h]; rfl
  · rw [if_neg h, if_neg h]
    show (match (Except.ok (text.getD s 0 == 13, seen.add 16) : Except String (Bool × Sre.Seen)) with | .error why => _ | .ok (false, seen) => _ | .ok (true, seen) => _) = _
    cases hb : (text.getD s 0 == 13)
    · rfl
    · rfl
theorem l14 : (m2 text lim s ls first seen 14 (s + 1) s true none [g2 s 11, g1 s] 2 none).step = if (s + 1) ≥ lim then m2 text lim s ls first (seen.add 16) 14 (s + 1) s true (some false) [g2 s 11, g1 s] 2 none else (if (text.getD (s + 1) 0 == 10) = true then m2 text lim s ls first (seen.add 16) 16 ((s + 1) + 1) s true none [g2 s 11, g1 s] 2 none else m2 text lim s ls first (seen.add 16) 14 (s + 1) s true (some false) [g2 s 11, g1 s] 2 none) := by
  show (if (s + 1) ≥ lim then _ else _) = _
  by_cases h : (s + 1) ≥ lim
  · rw [if_pos h, if_pos h]; rfl
  · rw [if_neg h, if_neg h]
    show (match (Except.ok (text.getD (s + 1) 0 == 10, seen.add 16) : Except String (Bool × Sre.Seen)) with | .error why => _ | .ok (false, seen) => _ | .ok (true, seen) => _) = _
    cases hb : (text.getD (s + 1) 0 == 10)
    · rfl
    · rfl
theorem l19 : (m2 text lim s ls first seen 19 s s true none [g2 s 18, g1 s] 2 none).step = if s ≥ lim then m2 text lim s ls first (seen.add 16) 19 s s true (some false) [g2 s 18, g1 s] 2 none else (if (text.getD s 0 == 10) = true then m2 text lim s ls first (seen.add 16) 21 (s + 1) s true none [g2 s 18, g1 s] 2 none else m2 text lim s ls first (seen.add 16) 19 s s true (some false) [g2 s 18, g1 s] 2 none) := by
  show (if s ≥ lim then _ else _) = _
  by_cases h : s ≥ lim
  · rw [if_pos h, if_pos h]; rfl
  · rw [if_neg h, if_neg h]
    show (match (Except.ok (text.getD s 0 == 10, seen.add 16) : Except String (Bool × Sre.Seen)) with | .error why => _ | .ok (false, seen) => _ | .ok (true, seen) => _) = _
    cases hb : (text.getD s 0 == 10)
    · rfl
    · rfl
theorem l24 : (m2 text lim s ls first seen 24 s s true none [g2 s 23, g1 s] 2 none).step = if s ≥ lim then m2 text lim s ls first (seen.add 16) 24 s s true (some false) [g2 s 23, g1 s] 2 none else (if (text.getD s 0 == 13) = true then m2 text lim s ls first (seen.add 16) 26 (s + 1) s true none [g2 s 23, g1 s] 2 none else m2 text lim s ls first (seen.add 16) 24 s s true (some false) [g2 s 23, g1 s] 2 none) := by
  show (if s ≥ lim then _ else _) = _
  by_cases h : s ≥ lim
  · rw [if_pos h, if_pos h]; rfl
  · rw [if_neg h, if_neg h]
    show (match (Except.ok (text.getD s 0 == 13, seen.add 16) : Except String (Bool × Sre.Seen)) with | .error why => _ | .ok (false, seen) => _ | .ok (true, seen) => _) = _
    cases hb : (text.getD s 0 == 13)
    · rfl
    · rfl
theorem l29 : (m2 text lim s ls first seen 29 (s + 1) (s + 1) false none [g3 (s + 1), g2 s 23, g1 s] 3 none).step = if (s + 1) ≥ lim then m2 text lim s ls first (seen.add 16) 29 (s + 1) (s + 1) false (some false) [g3 (s + 1), g2 s 23, g1 s] 3 none else (if (text.getD (s + 1) 0 == 10) = true then m2 text lim s ls first (seen.add 16) 31 ((s + 1) + 1) (s + 1) false none [g3 (s + 1), g2 s 23, g1 s] 3 none else m2 text lim s ls first (seen.add 16) 29 (s + 1) (s + 1) false (some false) [g3 (s + 1), g2 s 23, g1 s] 3 none) := by
  show (if (s + 1) ≥ lim then _ else _) = _
  by_cases h : (s + 1) ≥ lim
  · rw [if_pos h, if_pos h]; rfl
  · rw [if_neg h, if_neg h]
    show (match (Except.ok (text.getD (s + 1) 0 == 10, seen.add 16) : Except String (Bool × Sre.Seen)) with | .error why => _ | .ok (false, seen) => _ | .ok (true, seen) => _) = _
    cases hb : (text.getD (s + 1) 0 == 10)
    · rfl
    · rfl
theorem j16 (p : Nat) : (m2 text lim s ls first seen 16 p s true none [g2 s 11, g1 s] 2 none).step = m2 text lim s ls first (seen.add 15) 35 p s true none [g2 s 11, g1 s] 2 none := by rfl
theorem j21 (p : Nat) : (m2 text lim s ls first seen 21 p s true none [g2 s 18, g1 s] 2 none).step = m2 text lim s ls first (seen.add 15) 35 p s true none [g2 s 18, g1 s] 2 none := by rfl
theorem j32 (p hd : Nat) : (m2 text lim s ls first seen 32 p hd true none [g2 s 23, g1 s] 2 none).step = m2 text lim s ls first (seen.add 15) 35 p hd true none [g2 s 23, g1 s] 2 none := by rfl
theorem e35 (p hd : Nat) (fr : List Sre.Frame) : (m2 text lim s ls first seen 35 p hd true none fr 2 none).step = m2 text lim s ls first (seen.add 1) 35 p p true (some true) fr 2 none := by rfl
theorem a26 : (m2 text lim s ls first seen 26 (s + 1) s true none [g2 s 23, g1 s] 2 none).step = m2 text lim s ls first (seen.add 5) 29 (s + 1) (s + 1) false none [g3 (s + 1), g2 s 23, g1 s] 3 none := by rfl
theorem r12 (pc : Nat) : (m2 text lim s ls first seen pc (s + 1) s true (some false) [g2 s 11, g1 s] 2 none).step = m2 text lim s ls first seen 19 s s true none [g2 s 18, g1 s] 2 none := by rfl
theorem r12' (pc : Nat) : (m2 text lim s ls first seen pc s s true (some false) [g2 s 11, g1 s] 2 none).step = m2 text lim s ls first seen 19 s s true none [g2 s 18, g1 s] 2 none := by rfl
theorem r19 (pc : Nat) : (m2 text lim s ls first seen pc s s true (some false) [g2 s 18, g1 s] 2 none).step = m2 text lim s ls first seen 24 s s true none [g2 s 23, g1 s] 2 none := by rfl
theorem r29 (pc : Nat) : (m2 text lim s ls first seen pc (s + 1) (s + 1) false (some false) [g3 (s + 1), g2 s 23, g1 s] 3 none).step = m2 text lim s ls first seen 32 (s + 1) (s + 1) true none [g2 s 23, g1 s] 2 none := by rfl
theorem w2 (alt pc p hd : Nat) : (m2 text lim s ls first seen pc p hd true (some true) [g2 s alt, g1 s] 2 none).step = m2 text lim s ls first seen alt s hd true (some true) [g1 s] 1 none := by rfl
theorem w1 (pc p hd : Nat) : (m2 text lim s ls first seen pc p hd true (some true) [g1 s] 1 none).step = m2 text lim s ls first seen 10 s hd true (some true) [] 0 none := by rfl
theorem w0 (hd : Nat) : (m2 text lim s ls first seen 10 s hd true (some true) [] 0 none).step = m2 text lim s ls first seen 10 s hd true (some true) [] 0 (some .matched) := by rfl
end

def isEnd (c : Nat) : Bool := c == 10 || c == 13
def hand2 (text : Array Nat) (lim s : Nat) : Nat := if text.getD s 0 = 13 ∧ s + 1 < lim ∧ text.getD (s + 1) 0 = 10 then s + 2 else s + 1
def Good2 (text : Array Nat) (lim s : Nat) (m : Sre.M) : Prop := ∃ K, K ≤ 30 ∧ Ends (some (s, hand2 text lim s)) (m.runFor K)
theorem good_step {text : Array Nat} {lim s : Nat} {m m' : Sre.M} {n : Nat} (e : m.step = m') (h : ∃ K, K ≤ n ∧ Ends (some (s, hand2 text lim s)) (m'.runFor K)) : ∃ K, K ≤ n + 1 ∧ Ends (some (s, hand2 text lim s)) (m.runFor K) := by
  obtain ⟨K, hK, z⟩ := h
  exact ⟨K + 1, by omega, by rw [runFor_succ, e]; exact z⟩
section
variable (text : Array Nat) (lim s ls : Nat) (first : Bool)
theorem won (seen : Sre.Seen) (alt p hd : Nat) (hh : p = hand2 text lim s) : ∃ K, K ≤ 4 ∧ Ends (some (s, hand2 text lim s)) ((m2 text lim s ls first seen 35 p hd true none [g2 s alt, g1 s] 2 none).runFor K) := by
  refine ⟨4, Nat.le_refl _, ?_⟩
  rw [runFor_succ, e35, runFor_succ, w2, runFor_succ, w1, runFor_succ, w0]
  exact ⟨rfl, rfl, hh⟩
theorem end2 (seen : Sre.Seen) (hl : s < lim) (hc : isEnd (text.getD s 0) = true) : ∃ K, K ≤ 30 ∧ Ends (some (s, hand2 text lim s)) ((m2 text lim s ls first seen 10 s s true none [g1 s] 1 none).runFor K) := by
  have hnl : ¬ s ≥ lim := Nat.not_le.mpr hl
  refine good_step (n := 29) (b1 text lim s ls first seen) ?_
  by_cases h13 : text.getD s 0 = 13
  · have e13 : (text.getD s 0 == 13) = true := by rw [h13]; rfl
    have e10 : ¬ (text.getD s 0 == 10) = true := by rw [h13]; decide
    have z := l12 text lim s ls first (seen.add 7)
    rw [if_neg hnl, if_pos e13] at z
    refine good_step (n := 28) z ?_
    have z := l14 text lim s ls first ((seen.add 7).add 16)
    by_cases hn : s + 1 < lim ∧ text.getD (s + 1) 0 = 10
    · have hh : hand2 text lim s = s + 2 := by unfold hand2; rw [if_pos ⟨h13, hn.1, hn.2⟩]
      rw [if_neg (Nat.not_le.mpr hn.1), if_pos (by rw [hn.2]; rfl)] at z
      refine good_step (n := 27) z (good_step (n := 26) (j16 text lim s ls first _ _) ?_)
      obtain ⟨K, hK, e⟩ := won text lim s ls first (((seen.add 7).add 16).add 16 |>.add 15) 11 (s + 1 + 1) s (by rw [hh])
      exact ⟨K, by omega, e⟩
    · have hh : hand2 text lim s = s + 1 := by unfold hand2; rw [if_neg (fun q => hn ⟨q.2.1, q.2.2⟩)]
      have z' : (m2 text lim s ls first ((seen.add 7).add 16) 14 (s + 1) s true none [g2 s 11, g1 s] 2 none).step = m2 text lim s ls first (((seen.add 7).add 16).add 16) 14 (s + 1) s true (some false) [g2 s 11, g1 s] 2 none := by
        by_cases hq : s + 1 ≥ lim
        · rw [z, if_pos hq]
        · rw [z, if_neg hq, if_neg]
          intro q
          exact hn ⟨by omega, by simpa using q⟩
      refine good_step (n := 27) z' (good_step (n := 26) (r12 text lim s ls first _ _) ?_)
      have y := l19 text lim s ls first (((seen.add 7).add 16).add 16)
      rw [if_neg hnl, if_neg e10] at y
      refine good_step (n := 25) y (good_step (n := 24) (r19 text lim s ls first _ _) ?_)
      have y := l24 text lim s ls first ((((seen.add 7).add 16).add 16).add 16)
      rw [if_neg hnl, if_pos e13] at y
      refine good_step (n := 23) y (good_step (n := 22) (a26 text lim s ls first _) ?_)
      have y := l29 text lim s ls first ((((((seen.add 7).add 16).add 16).add 16).add 16).add 5)
      have y' : (m2 text lim s ls first ((((((seen.add 7).add 16).add 16).add 16).add 16).add 5) 29 (s + 1) (s + 1) false none [g3 (s + 1), g2 s 23, g1 s] 3 none).step = m2 text lim s ls first (((((((seen.add 7).add 16).add 16).add 16).add 16).add 5).add 16) 29 (s + 1) (s + 1) false (some false) [g3 (s + 1), g2 s 23, g1 s] 3 none := by
        by_cases hq : s + 1 ≥ lim
        · rw [y, if_pos hq]
        · rw [y, if_neg hq, if_neg]
          intro q
          exact hn ⟨by omega, by simpa using q⟩
      refine good_step (n := 21) y' (good_step (n := 20) (r29 text lim s ls first _ _) (good_step (n := 19) (j32 text lim s ls first _ _ _) ?_))
      obtain ⟨K, hK, e⟩ := won text lim s ls first (((((((((seen.add 7).add 16).add 16).add 16).add 16).add 5).add 16)).add 15) 23 (s + 1) (s + 1) (by rw [hh])
      exact ⟨K, by omega, e⟩
  · have e10 : (text.getD s 0 == 10) = true := by
      unfold isEnd at hc
      rw [Bool.or_eq_true] at hc
      rcases hc with h | h
      · exact h
      · exact absurd (by simpa using h) h13
    have e13 : ¬ (text.getD s 0 == 13) = true := by simpa using h13
    have hh : hand2 text lim s = s + 1 := by unfold hand2; rw [if_neg (fun q => h13 q.1)]
    have z := l12 text lim s ls first (seen.add 7)
    rw [if_neg hnl, if_neg e13] at z
    refine good_step (n := 28) z (good_step (n := 27) (r12' text lim s ls first _ _) ?_)
    have y := l19 text lim s ls first ((seen.add 7).add 16)
    rw [if_neg hnl, if_pos e10] at y
    refine good_step (n := 26) y (good_step (n := 25) (j21 text lim s ls first _ _) ?_)
    obtain ⟨K, hK, e⟩ := won text lim s ls first ((((seen.add 7).add 16).add 16).add 15) 18 (s + 1) s (by rw [hh])
    exact ⟨K, by omega, e⟩
end

def seek2 (text : Array Nat) : Nat → Nat → Option Nat
  | 0, _ => none
  | d + 1, s => if isEnd (text.getD s 0) then some s else seek2 text d (s + 1)
theorem inset2 (c : Nat) (seen : Sre.Seen) : ∃ seen', Sre.inSet code2 c code2.size 5 true seen = .ok (isEnd c, seen') := by
  unfold isEnd
  by_cases h10 : c = 10
  · subst h10; exact ⟨_, rfl⟩
  · by_cases h13 : c = 13
    · subst h13; exact ⟨_, rfl⟩
    · have e1 : (c == 10) = false := by simpa using h10
      have e2 : (c == 13) = false := by simpa using h13
      refine ⟨((seen.add 16).add 16).add 0, ?_⟩
      rw [e1, e2]
      show (if (c == 10) = true then _ else _) = _
      rw [if_neg (by rw [e1]; decide)]
      show (if (c == 13) = true then _ else _) = _
      rw [if_neg (by rw [e2]; decide)]
      rfl
theorem admitted2 (m : Sre.M) (hm : m.code = code2) : ∀ (d s fuel : Nat) (seen : Sre.Seen), s + d = m.lim → d < fuel → ∃ seen', m.admitted fuel s seen = .ok (seek2 m.text d s, seen')
  | 0, s, fuel + 1, seen, h, _ => by
    refine ⟨seen, ?_⟩
    unfold Sre.M.admitted seek2
    rw [if_pos (by omega)]
  | d + 1, s, fuel + 1, seen, h, hf => by
    unfold Sre.M.admitted seek2
    rw [if_neg (by omega), hm]
    obtain ⟨seen', e⟩ := inset2 (m.text.getD s 0) seen
    rw [e]
    cases hb : isEnd (m.text.getD s 0)
    · obtain ⟨seen2, e2⟩ := admitted2 m hm d (s + 1) fuel seen' (by omega) (by omega)
      exact ⟨seen2, e2⟩
    · exact ⟨seen', rfl⟩
theorem seek2_some {text : Array Nat} : ∀ {d s p : Nat}, seek2 text d s = some p → s ≤ p ∧ p < s + d ∧ isEnd (text.getD p 0) = true
  | 0, _, _, h => by unfold seek2 at h; cases h
  | d + 1, s, p, h => by
    unfold seek2 at h
    by_cases hb : isEnd (text.getD s 0) = true
    · rw [if_pos hb] at h; cases h; exact ⟨Nat.le_refl _, by omega, hb⟩
    · rw [if_neg hb] at h
      have := seek2_some h
      exact ⟨by omega, by omega, this.2.2⟩
theorem find2 (text : Array Nat) (lim s : Nat) (h : s ≤ lim) : ∃ K, K ≤ 30 ∧ Ends ((seek2 text (lim - s) s).map fun p => (p, hand2 text lim p)) ((Sre.forSearch code2 text 0 s lim false).runFor K) := by
  by_cases hl : s < lim
  · have e : Sre.forSearch code2 text 0 s lim false = (m2 text lim s lim true (({} : Sre.Seen).add 14) 10 s s true none [] 0 none).attemptFrom s true := by
      show (if (decide (s > lim) || decide (lim - s < 1)) = true then _ else _) = _
      have : (decide (s > lim) || decide (lim - s < 1)) = false := by rw [Bool.or_eq_false_iff]; exact ⟨decide_eq_false (by omega), decide_eq_false (by omega)⟩
      rw [if_neg (by rw [this]; decide)]
      rfl
    rw [e]
    obtain ⟨seen', ea⟩ := admitted2 (m2 text lim s lim true (({} : Sre.Seen).add 14) 10 s s true none [] 0 none) rfl (lim - s) s (lim + 1 - s) (({} : Sre.Seen).add 14) (by show s + (lim - s) = lim; omega) (by omega)
    have ef : (m2 text lim s lim true (({} : Sre.Seen).add 14) 10 s s true none [] 0 none).attemptFrom s true = (match seek2 text (lim - s) s with
        | some p => m2 text lim p lim true seen' 10 p p true none [g1 p] 1 none
        | none => m2 text lim s lim true seen' 10 s s true (some false) [] 0 none) := by
      unfold Sre.M.attemptFrom
      have hfs : (m2 text lim s lim true (({} : Sre.Seen).add 14) 10 s s true none [] 0 none).hasFirstSet = true := rfl
      rw [hfs, if_neg (by simp)]
      show (match Sre.M.admitted _ (lim + 1 - s) s (({} : Sre.Seen).add 14) with | .ok (some s, seen) => _ | .ok (none, seen) => _ | .error why => _) = _
      rw [ea]
      show (match (Except.ok (seek2 text (lim - s) s, seen') : Except String (Option Nat × Sre.Seen)) with | .ok (some s, seen) => _ | .ok (none, seen) => _ | .error why => _) = _
      cases seek2 text (lim - s) s <;> rfl
    rw [ef]
    cases hs : seek2 text (lim - s) s with
    | none => exact ⟨1, by omega, by rw [runFor_succ]; rfl⟩
    | some p =>
      have z := seek2_some hs
      exact end2 text lim p lim true seen' (by omega) z.2.2
  · have hs : s = lim := by omega
    subst hs
    rw [Nat.sub_self]
    refine ⟨1, by omega, ?_⟩
    rw [runFor_succ]
    have e : Sre.forSearch code2 text 0 s s false = m2 text s s 0 true (({} : Sre.Seen).add 14) 10 s s true (some false) [] 0 none := by
      show (if (decide (s > s) || decide (s - s < 1)) = true then _ else _) = _
      have : (decide (s > s) || decide (s - s < 1)) = true := by rw [Nat.sub_self]; simp
      rw [if_pos this]
      rfl
    rw [e]
    rfl
end Mine
namespace Mine
open PySem

/-- what a sub leaves: the pieces from s on -/
def pieces (find : Nat → Option (Nat × Nat)) (repl : List Nat) (t : List Nat) : Nat → Nat → List (List Nat)
  | 0, _ => []
  | f + 1, s => match find s with
    | none => if s < t.length then [t.drop s] else []
    | some (p, h) => (if s < p then [(t.drop s).take (p - s)] else []) ++ repl :: pieces find repl t f h

def crlfL : List Nat → List Nat
  | [] => []
  | 13 :: 10 :: r => 13 :: 10 :: crlfL r
  | c :: r => if isEnd c then 13 :: 10 :: crlfL r else c :: crlfL r
theorem crlf_plain {c : Nat} {r : List Nat} (h : isEnd c = false) : crlfL (c :: r) = c :: crlfL r := by
  rw [crlfL.eq_3 c r (by intro r' e1 e2; subst e1; cases h), h]
  rfl
theorem crlf_cr {r : List Nat} : crlfL (13 :: 10 :: r) = 13 :: 10 :: crlfL r := by rw [crlfL]
theorem crlf_end {c : Nat} {r : List Nat} (h : isEnd c = true) (hn : ∀ r', ¬ (c = 13 ∧ r = 10 :: r')) : crlfL (c :: r) = 13 :: 10 :: crlfL r := by
  rw [crlfL.eq_3 c r (fun r' e1 e2 => hn r' ⟨e1, e2⟩), h]
  rfl
theorem crlf_append : ∀ (a b : List Nat), (∀ c ∈ a, isEnd c = false) → crlfL (a ++ b) = a ++ crlfL b
  | [], _, _ => rfl
  | c :: a, b, h => by
    rw [List.cons_append, crlf_plain (h c (.head _)), crlf_append a b fun d hd => h d (.tail _ hd)]
    rfl
theorem seek2_plain {text : Array Nat} : ∀ {d s : Nat}, (∀ p, seek2 text d s = some p → ∀ j, s ≤ j → j < p → isEnd (text.getD j 0) = false) ∧ (seek2 text d s = none → ∀ j, s ≤ j → j < s + d → isEnd (text.getD j 0) = false)
  | 0, s => by
    refine ⟨fun p h => ?_, fun _ j h1 h2 => by omega⟩
    unfold seek2 at h; cases h
  | d + 1, s => by
    have ih := @seek2_plain text d (s + 1)
    unfold seek2
    cases hb : isEnd (text.getD s 0)
    · refine ⟨fun p h j h1 h2 => ?_, fun h j h1 h2 => ?_⟩
      · rcases Nat.eq_or_lt_of_le h1 with e | e
        · rw [← e]; exact hb
        · exact ih.1 p h j e h2
      · rcases Nat.eq_or_lt_of_le h1 with e | e
        · rw [← e]; exact hb
        · exact ih.2 h j e (by omega)
    · refine ⟨fun p h j h1 h2 => ?_, fun h => ?_⟩
      · have : s = p := by injection h
        omega
      · cases h
theorem getD_list (t : List Nat) (j : Nat) : t.toArray.getD j 0 = t.getD j 0 := by simp [List.getD]
theorem plain_drop {t : List Nat} {s p : Nat} (h : ∀ j, s ≤ j → j < p → isEnd (t.toArray.getD j 0) = false) : ∀ c ∈ (t.drop s).take (p - s), isEnd c = false := by
  intro c hc
  obtain ⟨i, hi, e⟩ := List.mem_iff_getElem.mp hc
  have hi' : i < p - s ∧ s + i < t.length := by
    rw [List.length_take, List.length_drop] at hi
    omega
  have := h (s + i) (by omega) (by omega)
  rw [List.getElem_take, List.getElem_drop] at e
  rw [← e]
  rw [getD_list] at this
  simpa [List.getD, hi'.2] using this

def find2L (t : List Nat) (s : Nat) : Option (Nat × Nat) := (seek2 t.toArray (t.length - s) s).map fun p => (p, hand2 t.toArray t.length p)
theorem getD_at {t : List Nat} {p : Nat} (h : p < t.length) : t.toArray.getD p 0 = t[p] := by
  rw [getD_list]; simp [List.getD, h]
theorem split_drop (t : List Nat) {s p : Nat} (h : s ≤ p) : t.drop s = (t.drop s).take (p - s) ++ t.drop p := by
  have : t.drop p = (t.drop s).drop (p - s) := by rw [List.drop_drop]; congr 1; omega
  rw [this, List.take_append_drop]
theorem crlf_pieces (t : List Nat) : ∀ f s, t.length - s < f → s ≤ t.length → (pieces (find2L t) [13, 10] t f s).flatten = crlfL (t.drop s)
  | 0, _, h, _ => absurd h (Nat.not_lt_zero _)
  | f + 1, s, hf, hs => by
    unfold pieces
    have hp := @seek2_plain t.toArray (t.length - s) s
    cases hq : seek2 t.toArray (t.length - s) s with
    | none =>
      have e : find2L t s = none := by unfold find2L; rw [hq]; rfl
      rw [e]
      have hall := plain_drop (t := t) (s := s) (p := t.length) (fun j h1 h2 => hp.2 hq j h1 (by omega))
      have htake : (t.drop s).take (t.length - s) = t.drop s := List.take_of_length_le (by rw [List.length_drop]; omega)
      rw [htake] at hall
      have := crlf_append (t.drop s) [] hall
      rw [List.append_nil] at this
      rw [this]
      have hn : crlfL [] = [] := by rw [crlfL]
      rw [hn, List.append_nil]
      show (if s < t.length then [t.drop s] else []).flatten = t.drop s
      by_cases hl : s < t.length
      · rw [if_pos hl]; simp
      · rw [if_neg hl]
        have : t.drop s = [] := List.drop_of_length_le (by omega)
        rw [this]; rfl
    | some p =>
      have e : find2L t s = some (p, hand2 t.toArray t.length p) := by unfold find2L; rw [hq]; rfl
      rw [e]
      have z := seek2_some hq
      have hpl : p < t.length := by omega
      have hall := plain_drop (t := t) (s := s) (p := p) (hp.1 p hq)
      have hend := z.2.2
      rw [getD_at hpl] at hend
      have hh1 : p < hand2 t.toArray t.length p := by unfold hand2; split <;> omega
      have hh2 : hand2 t.toArray t.length p ≤ t.length := by unfold hand2; split <;> omega
      have ih := crlf_pieces t f (hand2 t.toArray t.length p) (by omega) hh2
      show ((if s < p then [(t.drop s).take (p - s)] else []) ++ [13, 10] :: pieces (find2L t) [13, 10] t f (hand2 t.toArray t.length p)).flatten = _
      rw [List.flatten_append, List.flatten_cons, ih]
      have er : crlfL (t.drop s) = (t.drop s).take (p - s) ++ crlfL (t.drop p) := (congrArg crlfL (split_drop t z.1)).trans (crlf_append _ _ hall)
      rw [er]
      have hfirst : (if s < p then [(t.drop s).take (p - s)] else []).flatten = (t.drop s).take (p - s) := by
        by_cases hl : s < p
        · rw [if_pos hl]; simp
        · rw [if_neg hl]
          have : p - s = 0 := by omega
          rw [this]; simp
      rw [hfirst]
      congr 1
      have hd : t.drop p = t[p] :: t.drop (p + 1) := List.drop_eq_getElem_cons hpl
      by_cases hc : t.toArray.getD p 0 = 13 ∧ p + 1 < t.length ∧ t.toArray.getD (p + 1) 0 = 10
      · have eh : hand2 t.toArray t.length p = p + 2 := by unfold hand2; rw [if_pos hc]
        rw [eh]
        have hd2 : t.drop (p + 1) = t[p + 1]'hc.2.1 :: t.drop (p + 2) := List.drop_eq_getElem_cons hc.2.1
        have a1 := hc.1
        have a2 := hc.2.2
        rw [getD_at hpl] at a1
        rw [getD_at hc.2.1] at a2
        rw [hd, hd2, a1, a2, crlf_cr]
        rfl
      · have eh : hand2 t.toArray t.length p = p + 1 := by unfold hand2; rw [if_neg hc]
        rw [eh, hd, crlf_end hend]
        · rfl
        · rintro r' ⟨e1, e2⟩
          have hl1 : p + 1 < t.length := by
            rcases Nat.lt_or_ge (p + 1) t.length with h | h
            · exact h
            · rw [List.drop_of_length_le h] at e2; cases e2
          have hd2 : t.drop (p + 1) = t[p + 1]'hl1 :: t.drop (p + 2) := List.drop_eq_getElem_cons hl1
          rw [hd2] at e2
          injection e2 with e3 _
          exact hc ⟨by rw [getD_at hpl]; exact e1, hl1, by rw [getD_at hl1]; exact e3⟩

def dotsL : Bool → List Nat → List Nat
  | _, [] => []
  | b, c :: r => (if b && c == 46 then [46, 46] else [c]) ++ dotsL (c == 10) r
def find1L (t : List Nat) (s : Nat) : Option (Nat × Nat) := (seek1 t.toArray t.length (t.length - s) s).map fun p => (p, p + 1)
theorem bol_succ {t : List Nat} {s : Nat} (h : s < t.length) : bol t.toArray (s + 1) = (t[s] == 10) := by
  unfold bol
  rw [Nat.add_sub_cancel, getD_at h]
  simp
theorem dots_at {t : List Nat} {s : Nat} (h : s < t.length) : dotsL (bol t.toArray s) (t.drop s) = (if hit1 t.toArray t.length s then [46, 46] else [t[s]]) ++ dotsL (bol t.toArray (s + 1)) (t.drop (s + 1)) := by
  rw [List.drop_eq_getElem_cons h, bol_succ h]
  unfold hit1
  rw [decide_eq_true h, Bool.and_true, getD_at h]
  rfl
theorem dots_none {t : List Nat} : ∀ d s, s + d = t.length → seek1 t.toArray t.length d s = none → dotsL (bol t.toArray s) (t.drop s) = t.drop s
  | 0, s, h, _ => by
    have : t.drop s = [] := List.drop_of_length_le (by omega)
    rw [this]; rfl
  | d + 1, s, h, hq => by
    unfold seek1 at hq
    have hl : s < t.length := by omega
    cases hb : hit1 t.toArray t.length s
    · rw [hb] at hq
      rw [dots_at hl, hb, dots_none d (s + 1) (by omega) hq]
      exact (List.drop_eq_getElem_cons hl).symm
    · rw [hb] at hq; cases hq
theorem dots_some {t : List Nat} {p : Nat} : ∀ d s, s + d = t.length → seek1 t.toArray t.length d s = some p → s ≤ p ∧ p < t.length ∧ hit1 t.toArray t.length p = true ∧ dotsL (bol t.toArray s) (t.drop s) = (t.drop s).take (p - s) ++ dotsL (bol t.toArray p) (t.drop p)
  | 0, s, h, hq => by
    unfold seek1 at hq
    have : hit1 t.toArray t.length s = false := by unfold hit1; rw [decide_eq_false (by omega)]; simp
    rw [this] at hq; cases hq
  | d + 1, s, h, hq => by
    unfold seek1 at hq
    have hl : s < t.length := by omega
    cases hb : hit1 t.toArray t.length s
    · rw [hb] at hq
      obtain ⟨h1, h2, h3, h4⟩ := dots_some d (s + 1) (by omega) hq
      refine ⟨by omega, h2, h3, ?_⟩
      rw [dots_at hl, hb, h4]
      have e : p - s = (p - (s + 1)) + 1 := by omega
      rw [e, List.drop_eq_getElem_cons hl, List.take_succ_cons]
      rfl
    · rw [hb] at hq
      have : s = p := by injection hq
      subst this
      exact ⟨Nat.le_refl _, hl, hb, by rw [Nat.sub_self]; rfl⟩
theorem dots_pieces (t : List Nat) : ∀ f s, t.length - s < f → s ≤ t.length → (pieces (find1L t) [46, 46] t f s).flatten = dotsL (bol t.toArray s) (t.drop s)
  | 0, _, h, _ => absurd h (Nat.not_lt_zero _)
  | f + 1, s, hf, hs => by
    unfold pieces
    cases hq : seek1 t.toArray t.length (t.length - s) s with
    | none =>
      have e : find1L t s = none := by unfold find1L; rw [hq]; rfl
      rw [e, dots_none _ s (by omega) hq]
      show (if s < t.length then [t.drop s] else []).flatten = t.drop s
      by_cases hl : s < t.length
      · rw [if_pos hl]; simp
      · rw [if_neg hl]
        have : t.drop s = [] := List.drop_of_length_le (by omega)
        rw [this]; rfl
    | some p =>
      have e : find1L t s = some (p, p + 1) := by unfold find1L; rw [hq]; rfl
      obtain ⟨h1, h2, h3, h4⟩ := dots_some _ s (by omega) hq
      rw [e, h4]
      have ih := dots_pieces t f (p + 1) (by omega) (by omega)
      show ((if s < p then [(t.drop s).take (p - s)] else []) ++ [46, 46] :: pieces (find1L t) [46, 46] t f (p + 1)).flatten = _
      rw [List.flatten_append, List.flatten_cons, ih]
      have hfirst : (if s < p then [(t.drop s).take (p - s)] else []).flatten = (t.drop s).take (p - s) := by
        by_cases hl : s < p
        · rw [if_pos hl]; simp
        · rw [if_neg hl]
          have : p - s = 0 := by omega
          rw [this]; simp
      rw [hfirst, dots_at h2, h3]
      rfl
end Mine
namespace Mine
open PySem PySem.W PySem.Calls PyProof.Rows

/-- a pattern object of a text pattern without groups -/
structure PatOk (X : Amb) (R : Led) (a c : Addr) (code : Array Nat) : Prop where
  pat : ∀ s, Inv X R s → ∃ o p fl t g, s.heap.get? a = some o ∧ o.data = .fields #[p, fl, .int 0 t, .none, .none, .ref c, .int 0 g]
  tup : ∀ s, Inv X R s → ∃ o vs n, s.heap.get? c = some o ∧ o.data = .seq vs n ∧ (vs.map Builtin.Re.reRawOf).map (·.toNat) = code
section
variable {X : Amb} {A : Around} {R : Led}
theorem t_whole {a c : Addr} {code : Array Nat} {x : Str} {t : Tok} (P : PatOk X R a c code) {Ψ : Builtin.Re.ReTarget → Led → Prop} (k : Ψ ⟨.ref a, .str x t, code, x.cps, 0, 0, 0, x.cps.size⟩ R) : Tr X A R (Builtin.Re.reWholeTarget (.ref a) (.str x t)) Ψ := by
  refine ⟨fun s I => ?_⟩
  obtain ⟨o, p, fl, tt, g, ho, hd⟩ := P.pat s I
  obtain ⟨o', vs, n, ho', hd', hc⟩ := P.tup s I
  unfold Builtin.Re.reWholeTarget
  refine wpAny_bind (wpAny_fieldsOf ho hd ?_)
  refine wpAny_bind (m := Builtin.Re.reTextOf (.str x t)) (wpAny_of_eq (a := (x.cps, 0)) rfl ?_)
  try dsimp only
  rw [if_neg (show ¬ ((Builtin.Re.reRawNat (#[p, fl, Value.int 0 tt, Value.none, Value.none, Value.ref c, Value.int 0 g].getD 6 Value.none) == 0 && 0 == 1) = true) from (by rw [Bool.and_eq_true]; exact fun h => nomatch h.2))]
  rw [if_neg (show ¬ ((Builtin.Re.reRawNat (#[p, fl, Value.int 0 tt, Value.none, Value.none, Value.ref c, Value.int 0 g].getD 6 Value.none) == 1 && 0 == 0) = true) from Bool.false_ne_true)]
  refine wpAny_bind (m := Builtin.Re.reNoCollectionInside (.str x t) 0) (wpAny_of_eq (a := ()) rfl ?_)
  refine wpAny_bind (m := Builtin.Re.reRawItems (.ref c)) ?_
  unfold Builtin.Re.reRawItems
  refine wpAny_bind (wpAny_seqItems ho' hd' (wpAny_pure ?_))
  refine wpAny_pure ⟨R, I, ?_⟩
  have : Array.map (fun x => x.toNat) (Array.map Builtin.Re.reRawOf ((some vs).getD #[])) = code := hc
  rw [this]
  exact k
end
end Mine
namespace Mine
open PySem PySem.W PySem.Calls PyProof.Rows PySem.Builtin PySem.Builtin.Re

theorem owner_re : Manifest.owners.lookup (String.ofList ['n', 'r', 'e', 't', 't', 'a', 'P', '.', 'e', 'r'].reverse) = some Manifest.sig_re_Pattern := by kernel_rfl
theorem args_re_sub (a b c : Value) : argsOk "re.Pattern.sub" ⟨[a, b, c], []⟩ := by
  unfold argsOk; rw [signature?_of (id := "re.Pattern.sub") (n := ['b', 'u', 's']) (o := ['n', 'r', 'e', 't', 't', 'a', 'P', '.', 'e', 'r']) (by kernel_rfl) owner_re]; kernel_rfl
theorem slot_re_sub : Slot "re.Pattern" "sub" "re.Pattern.sub" :=
  .of (owner := "re.Pattern") (n := "sub") (by rw [typeLookup_type, builtinLookup_eq_fast]; kernel_rfl) (by decide +kernel) (by decide +kernel) (by decide +kernel)
    (by first | exact .inl (by decide +kernel) | exact .inr (by decide +kernel)) (by rw [isSubtype_type]; kernel_rfl)
theorem type_re_sub : typeOf (.builtin "re.Pattern.sub") = pure (.type "method_descriptor") := by show builtinType _ = _; rw [builtinType_eq_fast]; kernel_rfl
theorem plainAttrs_re : PlainAttrs "re.Pattern" :=
  ⟨⟨"object.__getattribute__", by rw [typeLookup_type, builtinLookup_eq_fast]; kernel_rfl, by decide +kernel⟩, by rw [typeLookup_type, builtinLookup_eq_fast]; kernel_rfl⟩
theorem entry_re_sub : entryFor table "re.Pattern.sub" = some Builtin.«re.Pattern.sub» := entryFor_of_tree (by kernel_rfl)
theorem entry_re_loop : entryFor table "re.Pattern.sub.loop" = some Builtin.«re.Pattern.sub.loop» := entryFor_of_tree (by kernel_rfl)
theorem plain_re_loop : plainId "re.Pattern.sub.loop" = true := by decide +kernel
end Mine
namespace Mine
open PySem PySem.W PySem.Calls PyProof.Rows PySem.Builtin PySem.Builtin.Re


def loopNext (p : Value) (x : Str) (t : Tok) (r : Str) (u : Tok) (n : Int) (L : Addr) (m : Sre.M) : Sem Fin := do
  updateSeq L (·.push (.str r u))
  again (.builtin "re.Pattern.sub.loop" ⟨[p, .str x t, .str r u, rawInt 0, rawInt 0, rawInt (n + 1), rawInt m.handed, rawInt m.handed, .bool (m.handed == m.start), .ref L, .bool false], []⟩)
def loopEnd (t' : ReTarget) (L : Addr) : Sem Fin := do
  let joiner ← reSlice t'.text t'.kind 0 0
  let y ← seqItems? (.ref L)
  if (y.getD #[]).isEmpty then ret joiner else do
    let text ← call (.builtin (if t'.kind == 0 then "str.join" else "bytes.join")) [joiner, .ref L]
    ret text
theorem loop_tree (p : Value) (x : Str) (t : Tok) (r : Str) (u : Tok) (n d st : Int) (L : Addr) : «re.Pattern.sub.loop» ⟨[p, .str x t, .str r u, rawInt 0, rawInt 0, rawInt n, rawInt d, rawInt st, .bool false, .ref L, .bool false], []⟩ = (do
  let t' ← reWholeTarget p (.str x t)
  reLiteralCannotBeTurned (.str r u)
  let o ← reNextFound t' st.toNat false
  match o with
  | some m => (if d.toNat < m.start then (do let v ← reSlice t'.text t'.kind d.toNat m.start; updateSeq L (·.push v); loopNext p x t r u n L m) else loopNext p x t r u n L m)
  | none => (if d.toNat < t'.lim then (do let v ← reSlice t'.text t'.kind d.toNat t'.lim; updateSeq L (·.push v); loopEnd t' L) else loopEnd t' L)) := by
  unfold «re.Pattern.sub.loop» loopNext loopEnd
  rfl
theorem named3 (a b : Value) : reNamed "re.Pattern.sub" "sub" ["repl", "string", "count"] 2 [a, b] [] = pure [some a, some b, none] := by rfl
theorem noCall_str : typeLookup (.type "str") "__call__" = pure none := by rw [typeLookup_type, builtinLookup_eq_fast]; kernel_rfl

section
variable {X : Amb} {A : Around} {R R' : Led}
theorem t_eq {α : Type} {t : Sem α} {v : α} {Ψ : α → Led → Prop} (e : t = pure v) (k : Ψ v R) : Tr X A R t Ψ := by subst e; exact Tr.pure k
theorem t_special {v : Value} {T : String} {name : Str} {r : Option Value} {Ψ : Option Value → Led → Prop} (hT : ∀ s, Inv X R s → s.TypeIs v T) (h : typeLookup (.type T) name = pure r) (k : Ψ r R) : Tr X A R (specialOf v name) Ψ := ⟨fun s I => wpAny_specialOf (hT s I) h ⟨R, I, k⟩⟩
theorem t_mkStr {x : Str} {Ψ : Value → Led → Prop} (hx : x.length ≤ sizeLine) (k : ∀ t, Ψ (.str x t) R) : Tr X A R (mkStr x) Ψ := ⟨fun s I => wpAny_mkStr ⟨R, I, k _⟩ hx⟩
theorem t_push {l : Addr} {vs : List Value} {v : Value} {Ψ : Unit → Led → Prop} (hz : vs.length ≤ sizeLine) (u : Upd l (li vs) (li (vs ++ [v])) R R') (k : Ψ () R') : Tr X A R (updateSeq l (·.push v)) Ψ := ⟨fun s J => by
  obtain ⟨o, ho, hl⟩ := J.at u.has
  have hd : ∃ n, o.data = .seq vs.toArray n := let ⟨n, e⟩ := hl; ⟨n, by rw [e]⟩
  obtain ⟨n, hd⟩ := hd
  refine wpAny_updateSeq ho hd ⟨R', J.update u (Heap.SameBut.update ..) ⟨_, Heap.get?_update_self _ ho (li_free (li_map hl)), ?_⟩, k⟩ (by simpa using hz) (by simpa using hz)
  have := li_map (f := (·.push v)) hl
  simpa using this⟩
theorem t_seqItems {l : Addr} {vs : List Value} {Ψ : Option (Array Value) → Led → Prop} (h : Has l (li vs) R) (k : Ψ (some vs.toArray) R) : Tr X A R (seqItems? (.ref l)) Ψ := ⟨fun s J => by
  obtain ⟨o, ho, hl⟩ := J.at h
  have hd : ∃ n, o.data = .seq vs.toArray n := let ⟨n, e⟩ := hl; ⟨n, by rw [e]⟩
  obtain ⟨n, hd⟩ := hd
  exact wpAny_seqItems ho hd ⟨R, J, k⟩⟩
theorem t_join {l : Addr} {vs : List Value} {ys : List Str} {x : Str} {t : Tok} {Ψ : Value → Led → Prop} (h : Has l (li vs) R) (hi : StrsAre vs ys) (hok : (ys.map (·.length)).sum + ys.length * x.length ≤ 16777216) (k : ∀ t', Ψ (.str (Txt.join x ys) t') R) : Tr X A R (call (.builtin "str.join") [.str x t, .ref l]) Ψ := ⟨fun s J =>
  join_list (J.at h).isList hi hok fun t' k' => ⟨R, J, k t'⟩⟩
/-- what a built-in's body leaves -/
def FinOk (X : Amb) (A : Around) (Φ : Flow → Led → Prop) (f : Fin) (R : Led) : Prop := match f with
  | .done r => Φ r R
  | .again c => c.quiet = true ∧ TrC X A R c Φ
theorem tc_builtin {id : String} {args : Args} {b : Builtin} {Φ : Flow → Led → Prop} (hb : entryFor table id = some b) (hp : plainId id = true) (k : Tr X A.in1 R (b args) (FinOk X A Φ)) : TrC X A R (.builtin id args) Φ := ⟨fun s I => by
  refine codeAny_builtin hb ?_
  rw [Around.under_plainId hp]
  exact wpAny_mono (k.run s I) (fun f s' ⟨R', I', h⟩ => by
    cases f with
    | done f => exact ⟨R', I', h⟩
    | again c => exact ⟨h.1, h.2.run s' I'⟩) fun _ _ h => h.elim⟩
theorem tc_callBuiltin {T : String} {name : Str} {id : String} {self : Value} {rest : List Value} {b : Builtin} {Φ : Flow → Led → Prop} (slot : Slot T name id) (hT : ∀ s, Inv X R s → s.TypeIs self T) (args : argsOk id ⟨self :: rest, []⟩) (hb : entryFor table id = some b) (k : Tr X A.in1 R (b ⟨self :: rest, []⟩) (FinOk X A Φ)) : TrC X A R (.call (.builtin id) ⟨self :: rest, []⟩) Φ := ⟨fun s I => by
  refine codeAny_call_builtin slot.plain hb (slot.check _ _ _ _ _ _ _ _ (hT s I) args ?_)
  exact wpAny_mono (k.run s I) (fun f s' ⟨R', I', h⟩ => by
    cases f with
    | done f => exact ⟨R', I', h⟩
    | again c => exact ⟨h.1, h.2.run s' I'⟩) fun _ _ h => h.elim⟩
end

theorem sub_tree (p : Value) (x : Str) (t : Tok) (r : Str) (u : Tok) (hr : r.cps.contains 92 = false) {X : Amb} {A : Around} {R : Led} {Φ : Fin → Led → Prop}
    (k : Tr X A R (do
      let _ ← holding [.str r u] (reWholeTarget p (.str x t))
      let l ← newList []
      again (.builtin "re.Pattern.sub.loop" ⟨[p, .str x t, .str r u, rawInt 0, rawInt 0, rawInt 0, rawInt 0, rawInt 0, .bool false, l, .bool false], []⟩)) Φ) : Tr X A R («re.Pattern.sub» ⟨[p, .str r u, .str x t], []⟩) Φ := by
  unfold «re.Pattern.sub» reSubstitute
  dsimp only
  rw [named3]
  rw [pure_bind]
  dsimp only
  refine Tr.bind (Tr.pure ?_)
  refine Tr.bind (t_special (fun s _ => typeIs_str s r u) noCall_str ?_)
  rw [if_neg (show ¬ ((none : Option Value).isSome = true) from Bool.false_ne_true)]
  refine Tr.bind (t_eq (v := some r) rfl ?_)
  dsimp only
  rw [hr]
  refine Tr.bind (Tr.pure ?_)
  rw [if_neg (show ¬ ((none : Option Value).isSome = true) from Bool.false_ne_true)]
  rw [if_pos (show (!false) = true from rfl)]
  refine Tr.bind (Tr.pure ?_)
  exact k

theorem joinE : ∀ (ys : List Str), (Txt.join ⟨#[]⟩ ys).cps.toList = (ys.map (·.cps.toList)).flatten := by
  have key : ∀ (l : List Str) (acc : Array Nat), (l.foldl (fun acc p => acc ++ (#[] : Array Nat) ++ p.cps) acc).toList = acc.toList ++ (l.map (·.cps.toList)).flatten := by
    intro l
    induction l with
    | nil => intro acc; simp
    | cons y l ih => intro acc; rw [List.foldl_cons, ih]; simp
  intro ys
  cases ys with
  | nil => rfl
  | cons y l =>
    show (l.foldl (fun acc p => acc ++ (#[] : Array Nat) ++ p.cps) y.cps).toList = _
    rw [key]; simp

def toS (l : List Nat) : Str := ⟨l.toArray⟩
theorem toS_list (l : List Nat) : (toS l).cps.toList = l := rfl
/-- the text of a list of pieces -/
inductive Pcs : List Value → List (List Nat) → Prop
  | nil : Pcs [] []
  | cons {l t vs ls} : Pcs vs ls → Pcs (.str (toS l) t :: vs) (l :: ls)
theorem Pcs.append {vs ws : List Value} {ls ms : List (List Nat)} (h : Pcs vs ls) (h' : Pcs ws ms) : Pcs (vs ++ ws) (ls ++ ms) := by
  induction h with
  | nil => exact h'
  | cons _ ih => exact .cons ih
theorem Pcs.one (l : List Nat) (t : Tok) : Pcs [.str (toS l) t] [l] := .cons .nil
theorem Pcs.strs {vs : List Value} {ls : List (List Nat)} (h : Pcs vs ls) : StrsAre vs (ls.map toS) := by
  induction h with
  | nil => exact .nil
  | cons _ ih => exact .cons _ _ ih
theorem flat_len (ls : List (List Nat)) : ((ls.map toS).map (·.length)).sum = ls.flatten.length := by
  induction ls with
  | nil => rfl
  | cons l ls ih => simp only [List.map_cons, List.sum_cons, List.flatten_cons, List.length_append, ih]; rfl

structure Finds (code : Array Nat) (tl : List Nat) (find : Nat → Option (Nat × Nat)) : Prop where
  run : ∀ s, s ≤ tl.length → ∃ K, K ≤ 3 * tl.length + 30 ∧ Ends (find s) ((Sre.forSearch code tl.toArray 0 s tl.length false).runFor K)
  ok : ∀ s p h, s ≤ tl.length → find s = some (p, h) → s ≤ p ∧ p < h ∧ h ≤ tl.length

section
variable {X : Amb} {A : Around} {R : Led}
theorem t_reSlice {tl : List Nat} {b e : Nat} {Ψ : Value → Led → Prop} (hz : tl.length ≤ sizeLine) (k : ∀ t, Ψ (.str (toS ((tl.drop b).take (e - b))) t) R) : Tr X A R (reSlice tl.toArray 0 b e) Ψ := by
  have e1 : tl.toArray.extract b e = ((tl.drop b).take (e - b)).toArray := by simp
  show Tr X A R (mkStr ⟨tl.toArray.extract b e⟩) Ψ
  rw [e1]
  refine t_mkStr ?_ k
  show ((tl.drop b).take (e - b)).toArray.size ≤ sizeLine
  rw [List.size_toArray, List.length_take, List.length_drop]
  omega
theorem t_loopEnd {B : Around} {tl : List Nat} {p s : Value} {code : Array Nat} {L : Addr} {vs : List Value} {ls : List (List Nat)} {Φ : Flow → Led → Prop} (hz : tl.length ≤ sizeLine) (hs : Pcs vs ls) (hl : ls.flatten.length ≤ 16777216) (k : ∀ t, Φ (.ret (.str (toS ls.flatten) t)) (ow L (li vs) :: R)) :
    Tr X B (ow L (li vs) :: R) (loopEnd ⟨p, s, code, tl.toArray, 0, 0, 0, tl.length⟩ L) (FinOk X A Φ) := by
  unfold loopEnd
  refine Tr.bind (t_reSlice hz fun t => Tr.bind (t_seqItems .head ?_))
  show Tr X B _ (if vs.toArray.isEmpty = true then _ else _) _
  cases hs with
  | nil => exact Tr.pure (k _)
  | @cons l t' vs' ls' hs =>
    rw [if_neg (by simp)]
    have e0 : (List.take (0 - 0) (List.drop 0 tl)) = [] := by simp
    rw [e0]
    refine Tr.bind (t_join (x := toS []) .head (Pcs.cons hs).strs ?_ fun t'' => Tr.pure ?_)
    · rw [flat_len]
      have : (toS []).length = 0 := rfl
      rw [this, Nat.mul_zero]; exact hl
    · have e : Txt.join (toS []) ((l :: ls').map toS) = toS (l :: ls').flatten := by
        have h := joinE ((l :: ls').map toS)
        have e1 : ((l :: ls').map toS).map (·.cps.toList) = l :: ls' := by rw [List.map_map]; exact List.map_id _
        rw [e1] at h
        show Txt.join ⟨#[]⟩ _ = (⟨(l :: ls').flatten.toArray⟩ : Str)
        rw [← h]
      rw [e]
      exact k _
theorem tc_loop {a c : Addr} {code : Array Nat} {tl rl : List Nat} {t u : Tok} (P : ∀ R, PatOk X R a c code) {find : Nat → Option (Nat × Nat)} (Fi : Finds code tl find) (hz : tl.length ≤ 10000) {L : Addr} {Φ : Flow → Led → Prop} (total : List (List Nat)) (htot : total.flatten.length ≤ 16777216)
    (kk : ∀ vs t', Φ (.ret (.str (toS total.flatten) t')) (ow L (li vs) :: R)) :
    ∀ (f s : Nat) (n : Int) (vs : List Value) (ls : List (List Nat)), tl.length - s < f → s ≤ tl.length → vs.length + 2 * f ≤ 30000 → Pcs vs ls → total = ls ++ pieces find rl tl f s →
      TrC X A (ow L (li vs) :: R) (.builtin "re.Pattern.sub.loop" ⟨[.ref a, .str (toS tl) t, .str (toS rl) u, rawInt 0, rawInt 0, rawInt n, rawInt (s : Nat), rawInt (s : Nat), .bool false, .ref L, .bool false], []⟩) Φ
  | 0, _, _, _, _, h, _, _, _, _ => absurd h (Nat.not_lt_zero _)
  | f + 1, s, n, vs, ls, hf, hs, hv, hp, ht => by
    have hz' : tl.length ≤ sizeLine := by rw [sizeLine_eq]; omega
    have hv' : vs.length ≤ sizeLine := by rw [sizeLine_eq]; omega
    refine tc_builtin entry_re_loop plain_re_loop ?_
    rw [loop_tree]
    refine Tr.bind (t_whole (P _) ?_)
    refine Tr.bind (t_eq (v := ()) rfl ?_)
    obtain ⟨K, hK, hE⟩ := Fi.run s hs
    have hsz : (toS tl).cps.size = tl.length := List.size_toArray
    show Tr X A.in1 _ (reRunToEnd (Sre.forSearch code tl.toArray 0 ((s : Nat) : Int).toNat (toS tl).cps.size false) >>= _) _
    rw [hsz, Int.toNat_natCast]
    unfold pieces at ht
    cases hq : find s with
    | none =>
      rw [hq] at hE ht
      refine Tr.bind (t_runEnd K (by omega) false hE ?_)
      show Tr X A.in1 _ (if s < tl.length then _ else _) _
      by_cases hl : s < tl.length
      · rw [if_pos hl]
        rw [if_pos hl] at ht
        refine Tr.bind (t_reSlice hz' fun t' => Tr.bind (t_push hv' .head ?_))
        have e1 : (tl.drop s).take (tl.length - s) = tl.drop s := List.take_of_length_le (by rw [List.length_drop]; omega)
        rw [e1]
        refine t_loopEnd hz' (hp.append (Pcs.one _ _)) (by rw [← ht]; exact htot) fun t'' => ?_
        rw [← ht]
        exact kk _ _
      · rw [if_neg hl]
        rw [if_neg hl, List.append_nil] at ht
        refine t_loopEnd hz' hp (by rw [← ht]; exact htot) fun t'' => ?_
        rw [← ht]
        exact kk _ _
    | some ph =>
      obtain ⟨p, h⟩ := ph
      rw [hq] at hE ht
      obtain ⟨h1, h2, h3⟩ := Fi.ok s p h hs hq
      obtain ⟨o1, o2, o3⟩ := hE
      refine Tr.bind (t_runEnd K (by omega) true o1 ?_)
      generalize (Sre.forSearch code tl.toArray 0 s tl.length false).runFor K = m at o2 o3
      have next : ∀ (vs' : List Value) (ls' : List (List Nat)), vs'.length ≤ vs.length + 1 → Pcs vs' ls' → total = ls' ++ rl :: pieces find rl tl f h → Tr X A.in1 (ow L (li vs') :: R) (loopNext (.ref a) (toS tl) t (toS rl) u n L m) (FinOk X A Φ) := fun vs' ls' hl hp' ht' => by
        unfold loopNext
        refine Tr.bind (t_push (by rw [sizeLine_eq]; omega) .head ?_)
        rw [o2, o3]
        have hb : (h == p) = false := by simp; omega
        rw [hb]
        refine Tr.pure ⟨plainId_quiet plain_re_loop _, ?_⟩
        refine tc_loop P Fi hz total htot kk f h (n + 1) _ _ (by omega) h3 (by rw [List.length_append, List.length_singleton]; omega) (hp'.append (Pcs.one rl u)) ?_
        rw [ht', List.append_assoc]; rfl
      show Tr X A.in1 _ (if s < m.start then _ else _) _
      rw [o2]
      by_cases hl : s < p
      · rw [if_pos hl]
        dsimp only at ht
        rw [if_pos hl] at ht
        refine Tr.bind (t_reSlice hz' fun t' => Tr.bind (t_push hv' .head ?_))
        exact next _ _ (by rw [List.length_append]; simp) (hp.append (Pcs.one _ _)) (by rw [ht, List.append_assoc])
      · rw [if_neg hl]
        dsimp only at ht
        rw [if_neg hl] at ht
        exact next _ _ (by omega) hp (by rw [ht]; rfl)
/-- a whole sub -/
theorem t_reSub {a c : Addr} {code : Array Nat} {tl rl out : List Nat} {t u : Tok} (P : ∀ R, PatOk X R a c code) (hT : ∀ R s, Inv X R s → s.TypeIs (.ref a) "re.Pattern") {find : Nat → Option (Nat × Nat)} (Fi : Finds code tl find) (hz : tl.length ≤ 10000) (hr : (toS rl).cps.contains 92 = false)
    (hout : (pieces find rl tl (tl.length + 1) 0).flatten = out) (hl : out.length ≤ 16777216) {Ψ : Value → Led → Prop} (k : ∀ t', Ψ (.str (toS out) t') R) : Tr X A R (call (.builtin "re.Pattern.sub") [.ref a, .str (toS rl) u, .str (toS tl) t]) Ψ := by
  refine t_call ?_
  refine tc_callBuiltin slot_re_sub (hT R) (args_re_sub _ _ _) entry_re_sub ?_
  refine sub_tree _ _ _ _ _ hr ?_
  refine Tr.bind (Tr.holding (t_whole (P _) (Tr.bind (t_newList (by simp) fun L => ?_))))
  refine Tr.pure ⟨plainId_quiet plain_re_loop _, ?_⟩
  have := tc_loop (A := A) (R := R) (L := L) (t := t) (u := u) (rl := rl) (Φ := fun fl R' => ∃ R'', R''.Sublist R' ∧ ∃ v, fl = .ret v ∧ Ψ v R'') P Fi hz (pieces find rl tl (tl.length + 1) 0) (by rw [hout]; exact hl) (fun vs t' => ⟨R, List.sublist_cons_self _ _, _, rfl, by rw [hout]; exact k _⟩) (tl.length + 1) 0 0 [] [] (by omega) (Nat.zero_le _) (by simp; omega) .nil rfl
  refine ⟨fun s I => this.use I fun f s' R' I' h => ?_⟩
  obtain ⟨R'', hs, v, e, hk⟩ := h
  exact ⟨R'', I'.weak hs, v, e, hk⟩
end
end Mine
namespace Mine
open PySem PySem.W PySem.Calls PyProof.Rows

def coOk (scope : Scope) (x : Str) (Gs CN : List Str) : Bool :=
  decide (scope.kind = .function) && scope.names.all (fun y => decide (y.2 ≠ .cell)) && scope.names.all (fun y => decide (y.2 = .local → scope.names.lookup y.1 = some .local)) &&
  decide (scope.names.lookup x = some .local ∧ (x == ("__debug__" : Str)) = false) && Gs.all (fun g => decide (scope.names.lookup g = some .globalImplicit ∧ (g == ("__debug__" : Str)) = false ∧ g ≠ "__name__")) &&
  CN.all (fun z => decide (scope.names.lookup z = some .free ∧ (z == ("__debug__" : Str)) = false ∧ (z == ("__classdict__" : Str)) = false)) && decide (CN.Nodup)
theorem coScope {scope : Scope} {x : Str} {Gs : List Str} {cl : List (Str × Addr)} (CN : List Str) (hcn : cl.map (·.1) = CN) (h : coOk scope x Gs CN = true) : CoScope scope x Gs cl := by
  unfold coOk at h
  simp only [Bool.and_eq_true, decide_eq_true_eq, List.all_eq_true] at h
  obtain ⟨⟨⟨⟨⟨⟨h1, h2⟩, h3⟩, h4⟩, h5⟩, h6⟩, h7⟩ := h
  exact ⟨h1, h2, h3, h4, h5, fun z hz => h6 z (hcn ▸ hz), hcn ▸ h7⟩

theorem look_none : ∀ (M : List Str) (k : Nat) (x : Str), look M (List.replicate k none) x = none
  | [], k, x => rfl
  | m :: M, 0, x => rfl
  | m :: M, k + 1, x => by
    simp only [List.replicate_succ, look]
    split
    · rfl
    · exact look_none M k x
theorem look_pad : ∀ (N M : List Str) (vs : List (Option Value)) (k : Nat) (h : N.length = vs.length) (x : Str), look (N ++ M) (vs ++ List.replicate k none) x = look N vs x
  | [], M, [], k, _, x => look_none M k x
  | n :: N, M, v :: vs, k, h, x => by
    simp only [List.cons_append, look]
    split
    · rfl
    · exact look_pad N M vs k (by simpa using h) x
theorem InvH.perm {X : Amb} {R R' : Led} {h : Heap} {g : Array GenState} {os : OsState} (I : InvH X R h g os) (hp : R.Perm R') : InvH X R' h g os where
  old := I.old
  kept := I.kept
  size := I.size
  own := fun p m => I.own p (hp.mem_iff.mpr m)
  above := fun p m => I.above p (hp.mem_iff.mpr m)
  apart := (List.Perm.pairwise_iff (fun h hw => Ne.symm (h hw.symm)) hp).mp I.apart
  off := fun p m => I.off p (hp.mem_iff.mpr m)
  tab := fun t ht => (I.tab t ht).keeps (fun _ _ e => e) fun p m _ => .inl (hp.mem_iff.mpr m)
  ctab := I.ctab
  dtab := I.dtab
  gens := I.gens
  os := I.os
theorem Tr.perm {α : Type} {X : Amb} {A : Around} {R R' : Led} {t : Sem α} {Ψ : α → Led → Prop} (hp : R.Perm R') (x : Tr X A R' t Ψ) : Tr X A R t Ψ := ⟨fun s I => x.run s (InvH.perm I hp)⟩
theorem Tr.front {α : Type} {X : Amb} {A : Around} {a : Ent} {S : Led} {t : Sem α} {Ψ : α → Led → Prop} (P : Led) (x : Tr X A (a :: (P ++ S)) t Ψ) : Tr X A (P ++ a :: S) t Ψ := x.perm List.perm_middle
section
variable {X : Amb} {A : Around} {R : Led} {env : Env} {mg mb : Str → Option Value} {N Gs : List Str} {Cs : List (Str × Addr)}

theorem swap_cell {elt : Expr} {gs : List Comprehension} {scope : Scope} {pos py : Pos} {y : Str} {l : Nat} (h : env.kindOf y = some .cell) : swapsWith (.ListComp elt gs scope pos) (some (.Name y py)) l env = Pure.pure false := by
  unfold swapsWith
  simp only [h]
  have : (some NameKind.cell == some NameKind.local) = false := by decide
  rw [this]
  simp
theorem swap_local {elt : Expr} {gs : List Comprehension} {scope : Scope} {pos py : Pos} {y : Str} {l : Nat} (hl : (py.line == pos.line) = true) (ha : (scope.names.any fun (n, k) => n == y && (k == .local || k == .cell)) = false) (hk : env.scope.kind = .function) (h : env.kindOf y = some .local) : swapsWith (.ListComp elt gs scope pos) (some (.Name y py)) l env = Pure.pure true := by
  unfold swapsWith
  have hb : env.blockKind = .function := by
    unfold Env.blockKind
    rw [hk]; rfl
  have e : (Expr.ListComp elt gs scope pos).pos = pos := rfl
  simp only [hb, h, e, ha, hl]
  rfl

/-- a comprehension's turns, each told by its place -/
def Turns (X : Amb) (A : Around) (x : Str) (Gs' : List Str) (cl : List (Str × Addr)) (elt : Expr) (n : Nat) (item : Nat → Value → Prop) (E : Nat → Value → Prop) (S : Led) : Prop :=
  ∀ cenv, Fn cenv [x] Gs' cl → ∀ P i v, i < n → item i v → Tr X A (P ++ (ow cenv.locals (fr [x] [some v]) :: S)) (eval elt cenv) fun y R2 => (P ++ (ow cenv.locals (fr [x] [some v]) :: S)).Sublist R2 ∧ E i y
def Got (n : Nat) (E : Nat → Value → Prop) (ys : List Value) : Prop := ys.length = n ∧ ∀ j v, ys[j]? = some v → E j v
theorem Got.push {n : Nat} {E : Nat → Value → Prop} {ys : List Value} {y : Value} (h : Got n E ys) (hy : E n y) : Got (n + 1) E (ys ++ [y]) := by
  refine ⟨by rw [List.length_append, h.1]; rfl, fun j v hv => ?_⟩
  rcases Nat.lt_or_ge j n with hl | hl
  · rw [List.getElem?_append_left (by rw [h.1]; exact hl)] at hv
    exact h.2 j v hv
  · rw [List.getElem?_append_right (by rw [h.1]; exact hl), h.1] at hv
    have : j = n := by
      rcases Nat.lt_or_ge 0 (j - n) with h' | h'
      · rw [List.getElem?_eq_none (by simp only [List.length_singleton]; exact h')] at hv; cases hv
      · omega
    subst this
    rw [Nat.sub_self] at hv
    have : y = v := by simpa using hv
    exact this ▸ hy
theorem Got.ints {n : Nat} {f : Nat → Int} {ys : List Value} (h : Got n (fun j v => ∃ t, v = .int (f j) t) ys) : IntsAre ys ((List.range n).map f) := by
  obtain ⟨h1, h2⟩ := h
  induction n generalizing ys f with
  | zero =>
    have : ys = [] := List.length_eq_zero_iff.mp h1
    subst this; exact .nil
  | succ n ih =>
    cases ys with
    | nil => simp at h1
    | cons y ys =>
      obtain ⟨t, rfl⟩ := h2 0 y rfl
      rw [List.range_succ_eq_map, List.map_cons, List.map_map]
      exact .cons _ _ (ih (f := fun j => f (j + 1)) (by simpa using h1) fun j v hv => h2 (j + 1) v hv)
theorem Got.strs {n : Nat} {f : Nat → Str} {ys : List Value} (h : Got n (fun j v => ∃ t, v = .str (f j) t) ys) : StrsAre ys ((List.range n).map f) := by
  obtain ⟨h1, h2⟩ := h
  induction n generalizing ys f with
  | zero =>
    have : ys = [] := List.length_eq_zero_iff.mp h1
    subst this; exact .nil
  | succ n ih =>
    cases ys with
    | nil => simp at h1
    | cons y ys =>
      obtain ⟨t, rfl⟩ := h2 0 y rfl
      rw [List.range_succ_eq_map, List.map_cons, List.map_map]
      exact .cons _ _ (ih (f := fun j => f (j + 1)) (by simpa using h1) fun j v hv => h2 (j + 1) v hv)

theorem turns_co {x : Str} {Gs' : List Str} {cl : List (Str × Addr)} {elt : Expr} {n : Nat} {item : Nat → Value → Prop} {E : Nat → Value → Prop} {S : Led} {cells : Nat → Led} {it : Nat → Value → Led → Prop} (hit : ∀ i v T, it i v T → item i v) (h : Turns X A x Gs' cl elt n item E S) (cenv : Env) (F : Fn cenv [x] Gs' cl) :
    CoTurn X A cenv x [] elt n cells it (fun i ys => Got i E ys) S := by
  intro D i v ys hi hv hy
  refine t_tests0 (br_t ?_)
  have := h cenv F (cells (i + 1) ++ [ow D (li ys)]) i v hi (hit _ _ _ hv)
  rw [List.append_assoc] at this
  exact this.mono fun y R2 h => ⟨h.1, hy.push h.2⟩

/-- over a range -/
def CompR (X : Amb) (A : Around) (x : Str) (Gs' : List Str) (cl : List (Str × Addr)) (elt : Expr) (K : Led → Nat → (Nat → Value → Prop) → Prop) (xv : Value) (R : Led) : Prop :=
  ∃ r n E, xv = .ref r ∧ Has r (rng 0 (n : Nat) 1) R ∧ n < 100000 ∧ Turns X A x Gs' cl elt n (fun i v => ∃ t, v = .int i t) E R ∧ K R n E
/-- over a list -/
def CompL (X : Amb) (A : Around) (x : Str) (Gs' : List Str) (cl : List (Str × Addr)) (elt : Expr) (K : Led → Nat → (Nat → Value → Prop) → Prop) (xv : Value) (R : Led) : Prop :=
  ∃ l vs E, xv = .ref l ∧ Has l (li vs) R ∧ vs.length < 100000 ∧ Turns X A x Gs' cl elt vs.length (fun i v => vs[i]? = some v) E R ∧ K R vs.length E

section
variable {elt iter : Expr} {x y : Str} {px py : Pos} {scope : Scope} {pos spos : Pos} {cl : List (Str × Addr)} {Gs' : List Str}
theorem t_compR {Ψ : Value → Led → Prop} (hh : A.handled = none) (F : Fn env N Gs Cs) (hcl : closes Cs scope.names [] = some cl) (Sc : CoScope scope x Gs' cl) (hs : ∀ x, foldedSetIterable iter env x = pure x)
    (k : Tr X A R (eval iter env) (CompR X A x Gs' cl elt fun S n E => ∀ D ys, Got n E ys → Ψ (.ref D) (ow D (li ys) :: S))) : Tr X A R (eval (.ListComp elt [⟨.Name x px, iter, [], 0⟩] scope pos) env) Ψ := by
  refine t_comp F hcl Sc hs (k.mono fun xv R1 h => ?_)
  obtain ⟨r, n, E, rfl, hr, hn, ht, hk⟩ := h
  refine t_iterR (n := n) rfl (by omega) hr fun I => ?_
  refine ⟨n, _, _, _, (fun i ys => Got i E ys), R1, ?_, iter_range hh I 0 1 n, fun _ _ _ h => h.2, fun _ => trivial, ⟨rfl, fun j v h => by simp at h⟩, fun i ys hi hy => by rw [hy.1, sizeLine_eq]; omega, fun cenv Fc => turns_co (fun i v T h => ?_) ht cenv Fc, fun D ys hy => hk D ys hy⟩
  · simp
  · obtain ⟨⟨t, rfl⟩, _⟩ := h
    exact ⟨t, by simp⟩
theorem t_asgR {Ψ : Flow → Led → Prop} (hh : A.handled = none) (F : Fn env N Gs Cs) (hcl : closes Cs scope.names [] = some cl) (Sc : CoScope scope x Gs' cl) (hs : ∀ x, foldedSetIterable iter env x = pure x)
    (hy : y ∈ N) (hl : (py.line == pos.line) = true) (ha : (scope.names.any fun (n, k) => n == y && (k == .local || k == .cell)) = false)
    (k : Tr X A R (eval iter env) (CompR X A x Gs' cl elt fun S n E => ∀ D ys, Got n E ys → ∃ vs vs' S', VarSet y (some (.ref D)) N vs vs' ∧ Upd env.locals (fr N vs) (fr N vs') S S' ∧ Ψ .next (ow D (li ys) :: S'))) : Tr X A R (exec (.Assign [.Name y py] (.ListComp elt [⟨.Name x px, iter, [], 0⟩] scope pos) spos) env) Ψ := by
  refine t_assignComp (vs := []) F hcl Sc hs hy (fun hk h => swap_local hl ha hk h) (k.mono fun xv R1 h => ?_)
  obtain ⟨r, n, E, rfl, hr, hn, ht, hk⟩ := h
  refine t_iterR (n := n) rfl (by omega) hr fun I => ?_
  refine ⟨n, _, _, _, (fun i ys => Got i E ys), R1, ?_, iter_range hh I 0 1 n, fun _ _ _ h => h.2, fun _ => trivial, ⟨rfl, fun j v h => by simp at h⟩, fun i ys hi hy => by rw [hy.1, sizeLine_eq]; omega, fun cenv Fc => turns_co (fun i v T h => ?_) ht cenv Fc, fun D ys hy => hk D ys hy⟩
  · simp
  · obtain ⟨⟨t, rfl⟩, _⟩ := h
    exact ⟨t, by simp⟩
theorem t_compL {Ψ : Value → Led → Prop} (hh : A.handled = none) (F : Fn env N Gs Cs) (hcl : closes Cs scope.names [] = some cl) (Sc : CoScope scope x Gs' cl) (hs : ∀ x, foldedSetIterable iter env x = pure x)
    (k : Tr X A R (eval iter env) (CompL X A x Gs' cl elt fun S n E => ∀ D ys, Got n E ys → Ψ (.ref D) (ow D (li ys) :: S))) : Tr X A R (eval (.ListComp elt [⟨.Name x px, iter, [], 0⟩] scope pos) env) Ψ := by
  refine t_comp F hcl Sc hs (k.mono fun xv R1 h => ?_)
  obtain ⟨l, vs, E, rfl, hr, hn, ht, hk⟩ := h
  have ag : ∀ P, Has l (li vs) (P ++ R1) := fun P => hr.append
  refine t_iterL hr fun I => ?_
  exact ⟨vs.length, _, _, _, (fun i ys => Got i E ys), R1, rfl, iter_list hh I l vs, fun _ _ _ h => h.2, ag, ⟨rfl, fun j v h => by simp at h⟩, fun i ys hi hy => by rw [hy.1, sizeLine_eq]; omega, fun cenv Fc => turns_co (fun i v T h => h.1) ht cenv Fc, fun D ys hy => hk D ys hy⟩
theorem t_asgL {Ψ : Flow → Led → Prop} (hh : A.handled = none) (F : Fn env N Gs Cs) (hcl : closes Cs scope.names [] = some cl) (Sc : CoScope scope x Gs' cl) (hs : ∀ x, foldedSetIterable iter env x = pure x)
    (hy : y ∈ N) (hl : (py.line == pos.line) = true) (ha : (scope.names.any fun (n, k) => n == y && (k == .local || k == .cell)) = false)
    (k : Tr X A R (eval iter env) (CompL X A x Gs' cl elt fun S n E => ∀ D ys, Got n E ys → ∃ vs vs' S', VarSet y (some (.ref D)) N vs vs' ∧ Upd env.locals (fr N vs) (fr N vs') S S' ∧ Ψ .next (ow D (li ys) :: S'))) : Tr X A R (exec (.Assign [.Name y py] (.ListComp elt [⟨.Name x px, iter, [], 0⟩] scope pos) spos) env) Ψ := by
  refine t_assignComp (vs := []) F hcl Sc hs hy (fun hk h => swap_local hl ha hk h) (k.mono fun xv R1 h => ?_)
  obtain ⟨l, vs, E, rfl, hr, hn, ht, hk⟩ := h
  have ag : ∀ P, Has l (li vs) (P ++ R1) := fun P => hr.append
  refine t_iterL hr fun I => ?_
  exact ⟨vs.length, _, _, _, (fun i ys => Got i E ys), R1, rfl, iter_list hh I l vs, fun _ _ _ h => h.2, ag, ⟨rfl, fun j v h => by simp at h⟩, fun i ys hi hy => by rw [hy.1, sizeLine_eq]; omega, fun cenv Fc => turns_co (fun i v T h => h.1) ht cenv Fc, fun D ys hy => hk D ys hy⟩
/-- the ints of a list that pass a test -/
theorem t_compFilt {Ψ : Value → Led → Prop} {test : Expr} {px' : Pos} (hh : A.handled = none) (F : Fn env N Gs Cs) (hcl : closes Cs scope.names [] = some cl) (Sc : CoScope scope x Gs' cl) (hs : ∀ x, foldedSetIterable iter env x = pure x)
    (k : Tr X A R (eval iter env) fun xv R1 => ∃ l vs ns p, xv = .ref l ∧ Has l (li vs) R1 ∧ vs.length < 100000 ∧ IntsAre vs ns ∧
      (∀ cenv, Fn cenv [x] Gs' cl → ∀ P i t, Tr X A (P ++ (ow cenv.locals (fr [x] [some (.int i t)]) :: R1)) (isTrue test cenv (eval test cenv)) fun b R2 => (P ++ (ow cenv.locals (fr [x] [some (.int i t)]) :: R1)).Sublist R2 ∧ b = p i) ∧
      (∀ D ys, IntsAre ys (ns.filter p) → Ψ (.ref D) (ow D (li ys) :: R1))) : Tr X A R (eval (.ListComp (.Name x px') [⟨.Name x px, iter, [test], 0⟩] scope pos) env) Ψ := by
  refine t_comp F hcl Sc hs (k.mono fun xv R1 h => ?_)
  obtain ⟨l, vs, ns, p, rfl, hr, hn, hi, ht, hk⟩ := h
  have ag : ∀ P, Has l (li vs) (P ++ R1) := fun P => hr.append
  have hlen := ints_len hi
  refine t_iterL hr fun I => ?_
  refine ⟨vs.length, _, _, _, (fun i ys => IntsAre ys ((ns.take i).filter p)), R1, rfl, iter_list hh I l vs, fun _ _ _ h => h.2, ag, by simpa using IntsAre.nil, fun i ys hi hy => ?_, fun cenv Fc => ?_, fun D ys hy => hk D ys (by rw [hlen, List.take_length] at hy; exact hy)⟩
  · have := List.length_filter_le p (ns.take i)
    rw [List.length_take] at this
    rw [ints_len hy, sizeLine_eq]; omega
  · intro D i v ys hlt hv hy
    obtain ⟨m, t, rfl, hm⟩ := ints_get hi hv.1
    have e : ns.take (i + 1) = ns.take i ++ [m] := by rw [List.take_add_one, hm]; rfl
    refine t_tests1 ?_
    have := ht cenv Fc ([ow I (lit l (i + 1))] ++ [ow D (li ys)]) m t
    rw [List.append_assoc] at this
    refine this.mono fun b R2 h => ?_
    obtain ⟨hsub, rfl⟩ := h
    refine br_by (fun hb => ?_) fun hb => ?_
    · refine Tr.weak hsub (f_name Fc (vs := [some (.int m t)]) (.tail (.tail .head)) .head ⟨List.Sublist.refl _, ?_⟩)
      show IntsAre _ (List.filter p (List.take (i + 1) ns))
      rw [e, List.filter_append]
      have : List.filter p [m] = [m] := by simp [hb]
      rw [this]
      exact hy.append (.cons _ _ .nil)
    · refine ⟨hsub, ?_⟩
      show IntsAre _ (List.filter p (List.take (i + 1) ns))
      rw [e, List.filter_append]
      have : List.filter p [m] = [] := by simp [hb]
      rw [this, List.append_nil]
      exact hy
end
end
end Mine
namespace Mine
open PySem

/-! the mail: what quotedata makes of rows -/
def rowL (D ll : Nat → Nat) (e : Nat → List Nat) (j : Nat) : List Nat := List.replicate (D j) 46 ++ List.replicate (ll j + 1) (97 + j) ++ e j
def rowsL (D ll : Nat → Nat) (e : Nat → List Nat) (js : List Nat) : List Nat := (js.map (rowL D ll e)).flatten
theorem plain_row (D ll : Nat → Nat) (j : Nat) : ∀ c ∈ List.replicate (D j) 46 ++ List.replicate (ll j + 1) (97 + j), isEnd c = false := by
  intro c hc
  unfold isEnd
  rcases List.mem_append.mp hc with h | h
  · have := List.eq_of_mem_replicate h
    subst this; rfl
  · have := List.eq_of_mem_replicate h
    subst this
    rw [Bool.or_eq_false_iff]
    exact ⟨by simp; omega, by simp; omega⟩
theorem rows_head {D ll : Nat → Nat} {e : Nat → List Nat} (hD : ∀ j, 1 ≤ D j) : ∀ js, rowsL D ll e js = [] ∨ ∃ r, rowsL D ll e js = 46 :: r
  | [] => .inl rfl
  | j :: js => .inr (by
      unfold rowsL
      rw [List.map_cons, List.flatten_cons]
      unfold rowL
      obtain ⟨k, hk⟩ : ∃ k, D j = k + 1 := ⟨D j - 1, by have := hD j; omega⟩
      rw [hk, List.replicate_succ]
      exact ⟨_, rfl⟩)
theorem crlf_rows {D ll : Nat → Nat} {e : Nat → List Nat} (hD : ∀ j, 1 ≤ D j) (he : ∀ j, e j = [10] ∨ e j = [13] ∨ e j = [13, 10]) : ∀ js, crlfL (rowsL D ll e js) = rowsL D ll (fun _ => [13, 10]) js
  | [] => by show crlfL [] = []; rw [crlfL]
  | j :: js => by
    have ih := crlf_rows (ll := ll) hD he js
    have hd := rows_head (ll := ll) (e := e) hD js
    unfold rowsL at ih hd ⊢
    rw [List.map_cons, List.flatten_cons, List.map_cons, List.flatten_cons]
    generalize hr : (List.map (rowL D ll e) js).flatten = rest at ih hd ⊢
    rw [← ih]
    unfold rowL
    suffices hs : crlfL (e j ++ rest) = 13 :: 10 :: crlfL rest by
      rw [List.append_assoc, crlf_append _ _ (plain_row D ll j), hs]; simp
    rcases he j with h | h | h
    · rw [h]
      show crlfL (10 :: rest) = _
      rw [crlf_end rfl (by rintro r' ⟨h1, _⟩; cases h1)]
    · rw [h]
      show crlfL (13 :: rest) = _
      rw [crlf_end rfl (by
        rintro r' ⟨_, h2⟩
        rcases hd with h3 | ⟨r, h3⟩
        · rw [h3] at h2; cases h2
        · rw [h3] at h2; cases h2)]
    · rw [h]
      show crlfL (13 :: 10 :: rest) = _
      rw [crlf_cr]
theorem dots_false {a b : List Nat} : ∀ (h : ∀ c ∈ a, c ≠ 10), dotsL false (a ++ b) = a ++ dotsL false b := by
  induction a with
  | nil => intro _; rfl
  | cons c a ih =>
    intro h
    have hc : (c == 10) = false := by simpa using h c (.head _)
    show (if (false && c == 46) = true then [46, 46] else [c]) ++ dotsL (c == 10) (a ++ b) = _
    rw [hc, ih fun d hd => h d (.tail _ hd)]
    rfl
theorem dots_rows {D ll : Nat → Nat} (hD : ∀ j, 1 ≤ D j) : ∀ js, dotsL true (rowsL D ll (fun _ => [13, 10]) js) = rowsL (fun j => D j + 1) ll (fun _ => [13, 10]) js
  | [] => rfl
  | j :: js => by
    have ih := dots_rows (ll := ll) hD js
    unfold rowsL at ih ⊢
    rw [List.map_cons, List.flatten_cons, List.map_cons, List.flatten_cons, ← ih]
    generalize (List.map (rowL D ll fun _ => [13, 10]) js).flatten = rest
    unfold rowL
    obtain ⟨k, hk⟩ : ∃ k, D j = k + 1 := ⟨D j - 1, by have := hD j; omega⟩
    have hnm : ∀ c ∈ List.replicate (ll j + 1) (97 + j), c ≠ 10 := fun c hc => by have := List.eq_of_mem_replicate hc; omega
    generalize List.replicate (ll j + 1) (97 + j) = nm at *
    show dotsL true (List.replicate (D j) 46 ++ nm ++ [13, 10] ++ rest) = List.replicate (D j + 1) 46 ++ nm ++ [13, 10] ++ dotsL true rest
    rw [hk]
    have e1 : List.replicate (k + 1) 46 ++ nm ++ [13, 10] ++ rest = 46 :: ((List.replicate k 46 ++ nm ++ [13]) ++ 10 :: rest) := by simp [List.replicate_succ]
    have e2 : List.replicate (k + 1 + 1) 46 ++ nm ++ [13, 10] ++ dotsL true rest = 46 :: 46 :: ((List.replicate k 46 ++ nm ++ [13]) ++ 10 :: dotsL true rest) := by simp [List.replicate_succ]
    rw [e1, e2]
    show [46, 46] ++ dotsL (46 == 10) _ = _
    have : (46 == 10) = false := rfl
    rw [this, dots_false (by
      intro c hc
      rcases List.mem_append.mp hc with h | h
      · rcases List.mem_append.mp h with h | h
        · have := List.eq_of_mem_replicate h; omega
        · exact hnm c h
      · rw [List.mem_singleton] at h; omega)]
    rfl
theorem quote_rows {D ll : Nat → Nat} {e : Nat → List Nat} (hD : ∀ j, 1 ≤ D j) (he : ∀ j, e j = [10] ∨ e j = [13] ∨ e j = [13, 10]) (js : List Nat) : dotsL true (crlfL (rowsL D ll e js)) = rowsL (fun j => D j + 1) ll (fun _ => [13, 10]) js := by
  rw [crlf_rows hD he, dots_rows hD]
end Mine
namespace Mine
open PySem
/-- one row more -/
def addStep (p : Nat) (d : Int) (e o : List Int) : List Int := (List.range p).map fun r => e.getD r 0 + o.getD (((r : Int) - d) % p).toNat 0
def addAll (p : Nat) : List Int → List Int × List Int → List Int × List Int
  | [], eo => eo
  | d :: ds, eo => addAll p ds (addStep p d eo.1 eo.2, addStep p d eo.2 eo.1)
def add0 (p : Nat) : List Int × List Int := (1 :: List.replicate (p - 1) 0, List.replicate p 0)
theorem addStep_len {p : Nat} {d : Int} {e o : List Int} : (addStep p d e o).length = p := by simp [addStep]
theorem addAll_snoc (p : Nat) : ∀ (ds : List Int) (d : Int) (eo : List Int × List Int), addAll p (ds ++ [d]) eo = (addStep p d (addAll p ds eo).1 (addAll p ds eo).2, addStep p d (addAll p ds eo).2 (addAll p ds eo).1)
  | [], _, _ => rfl
  | a :: ds, d, eo => addAll_snoc p ds d _
theorem addAll_len {p : Nat} : ∀ {ds : List Int} {eo : List Int × List Int}, eo.1.length = p → eo.2.length = p → (addAll p ds eo).1.length = p ∧ (addAll p ds eo).2.length = p
  | [], _, h1, h2 => ⟨h1, h2⟩
  | d :: ds, eo, h1, h2 => addAll_len (ds := ds) (addStep_len (d := d) (e := eo.1) (o := eo.2)) (addStep_len (d := d) (e := eo.2) (o := eo.1))

/-! the figures -/
def V : List Int → Int
  | [] => 0
  | a :: l => a + 64 * V l
theorem V_snoc : ∀ (l : List Int) (x : Int), V (l ++ [x]) = V l + 64 ^ l.length * x
  | [], x => by simp [V]
  | a :: l, x => by
    show a + 64 * V (l ++ [x]) = (a + 64 * V l) + 64 ^ (l.length + 1) * x
    rw [V_snoc l x, Int.pow_succ, Int.mul_comm (64 ^ l.length) 64, Int.mul_assoc, Int.mul_add]
    omega
theorem V_add (f g : Nat → Int) : ∀ l : List Nat, V (l.map fun r => f r + g r) = V (l.map f) + V (l.map g)
  | [] => rfl
  | a :: l => by
    show (f a + g a) + 64 * V (l.map fun r => f r + g r) = (f a + 64 * V (l.map f)) + (g a + 64 * V (l.map g))
    rw [V_add f g l, Int.mul_add]; omega
theorem rangeD (L : List Int) : (List.range L.length).map (fun j => L.getD j 0) = L := by
  apply List.ext_getElem
  · simp
  · intro j h1 h2
    simp only [List.getElem_map, List.getElem_range]
    rw [List.getD_eq_getElem?_getD, List.getElem?_eq_getElem h2]; rfl
/-- o moved by d -/
def gD (p : Nat) (o : List Int) (d : Int) (r : Nat) : Int := o.getD (((r : Int) - d) % p).toNat 0
def rot (p : Nat) (o : List Int) (d : Int) : List Int := (List.range p).map (gD p o d)
theorem gD_zero {q : Nat} {o : List Int} {d : Int} : gD (q + 1) o (d + 1) 0 = gD (q + 1) o d q := by
  unfold gD
  have : (((0 : Nat) : Int) - (d + 1)) % ((q + 1 : Nat) : Int) = (((q : Nat) : Int) - d) % ((q + 1 : Nat) : Int) := by
    have e : ((q : Nat) : Int) - d = ((0 : Nat) : Int) - (d + 1) + ((q + 1 : Nat) : Int) := by push_cast; omega
    rw [e, Int.add_emod_right]
  rw [this]
theorem gD_succ {q r : Nat} {o : List Int} {d : Int} : gD (q + 1) o (d + 1) (r + 1) = gD (q + 1) o d r := by
  unfold gD
  have : (((r + 1 : Nat) : Int) - (d + 1)) = ((r : Nat) : Int) - d := by push_cast; omega
  rw [this]
theorem V_rot_succ {q : Nat} {o : List Int} {d : Int} : V (rot (q + 1) o (d + 1)) = 64 * V (rot (q + 1) o d) - (64 ^ (q + 1) - 1) * gD (q + 1) o d q := by
  have e1 : rot (q + 1) o (d + 1) = gD (q + 1) o d q :: (List.range q).map (gD (q + 1) o d) := by
    unfold rot
    rw [List.range_succ_eq_map, List.map_cons, List.map_map, gD_zero]
    congr 1
    apply List.map_congr_left
    intro r _
    exact gD_succ
  have e2 : rot (q + 1) o d = (List.range q).map (gD (q + 1) o d) ++ [gD (q + 1) o d q] := by
    unfold rot
    rw [List.range_succ, List.map_append]; rfl
  rw [e1, e2, V_snoc]
  show gD (q + 1) o d q + 64 * V _ = _
  rw [List.length_map, List.length_range, Int.mul_add, Int.pow_succ, Int.sub_mul, Int.one_mul, ← Int.mul_assoc, Int.mul_comm 64 (64 ^ q)]
  omega
theorem rot_zero {o : List Int} : rot o.length o 0 = o := by
  conv => rhs; rw [← rangeD o]
  unfold rot
  apply List.map_congr_left
  intro r hr
  have hr := List.mem_range.mp hr
  unfold gD
  have : (((r : Nat) : Int) - 0) % (o.length : Int) = (r : Int) := by
    rw [Int.sub_zero]; exact Int.emod_eq_of_lt (by omega) (by omega)
  rw [this, Int.toNat_natCast]
theorem V_rot {q : Nat} {o : List Int} (ho : o.length = q + 1) : ∀ d : Nat, ∃ k : Int, V (rot (q + 1) o (d : Nat)) = 64 ^ d * V o + (64 ^ (q + 1) - 1) * k
  | 0 => ⟨0, by
      have := rot_zero (o := o)
      rw [ho] at this
      show V (rot (q + 1) o 0) = _
      rw [this]; simp⟩
  | d + 1 => by
    obtain ⟨k, hk⟩ := V_rot ho d
    refine ⟨64 * k - gD (q + 1) o d q, ?_⟩
    have e : ((d + 1 : Nat) : Int) = (d : Int) + 1 := by push_cast; rfl
    rw [e, V_rot_succ, hk]
    generalize (64 : Int) ^ (q + 1) - 1 = M
    rw [Int.pow_succ, Int.mul_add, Int.mul_sub, ← Int.mul_assoc, ← Int.mul_assoc, ← Int.mul_assoc, Int.mul_comm 64 (64 ^ d), Int.mul_comm 64 M]
    omega
theorem V_step {q : Nat} {e o : List Int} (he : e.length = q + 1) (ho : o.length = q + 1) (d : Nat) : ∃ k : Int, V (addStep (q + 1) d e o) = V e + 64 ^ d * V o + (64 ^ (q + 1) - 1) * k := by
  obtain ⟨k, hk⟩ := V_rot ho d
  refine ⟨k, ?_⟩
  have : addStep (q + 1) d e o = (List.range (q + 1)).map fun r => e.getD r 0 + gD (q + 1) o d r := rfl
  rw [this, V_add]
  have e1 := rangeD e
  rw [he] at e1
  rw [e1]
  show V e + V (rot (q + 1) o d) = _
  rw [hk]; omega

/-- the numbers of the sets of an even and an odd number of rows -/
def EO : List Nat → Nat × Nat → Nat × Nat
  | [], p => p
  | d :: ds, p => EO ds (p.1 + 64 ^ d * p.2, p.2 + 64 ^ d * p.1)
theorem EO_snoc : ∀ (ds : List Nat) (d : Nat) (p : Nat × Nat), EO (ds ++ [d]) p = ((EO ds p).1 + 64 ^ d * (EO ds p).2, (EO ds p).2 + 64 ^ d * (EO ds p).1)
  | [], _, _ => rfl
  | a :: ds, d, p => EO_snoc ds d _
def asI (ds : List Nat) : List Int := ds.map fun n : Nat => (n : Int)
theorem EO_cong {q : Nat} : ∀ (ds : List Nat) (p : Nat × Nat) (eo : List Int × List Int), eo.1.length = q + 1 → eo.2.length = q + 1 → (∃ k : Int, (p.1 : Int) = V eo.1 + (64 ^ (q + 1) - 1) * k) → (∃ k : Int, (p.2 : Int) = V eo.2 + (64 ^ (q + 1) - 1) * k) →
    (∃ k : Int, ((EO ds p).1 : Int) = V (addAll (q + 1) (asI ds) eo).1 + (64 ^ (q + 1) - 1) * k) ∧ (∃ k : Int, ((EO ds p).2 : Int) = V (addAll (q + 1) (asI ds) eo).2 + (64 ^ (q + 1) - 1) * k)
  | [], p, eo, _, _, h1, h2 => ⟨h1, h2⟩
  | d :: ds, p, eo, l1, l2, ⟨k1, h1⟩, ⟨k2, h2⟩ => by
    refine EO_cong ds _ _ addStep_len addStep_len ?_ ?_
    · obtain ⟨k, hk⟩ := V_step l1 l2 d
      refine ⟨k1 + 64 ^ d * k2 - k, ?_⟩
      show ((p.1 + 64 ^ d * p.2 : Nat) : Int) = V (addStep (q + 1) d eo.1 eo.2) + _
      rw [hk]
      push_cast
      rw [h1, h2]
      generalize (64 : Int) ^ (q + 1) - 1 = M
      rw [Int.mul_add, Int.mul_sub, Int.mul_add, ← Int.mul_assoc (64 ^ d) M, ← Int.mul_assoc M (64 ^ d), Int.mul_comm (64 ^ d) M]
      omega
    · obtain ⟨k, hk⟩ := V_step l2 l1 d
      refine ⟨k2 + 64 ^ d * k1 - k, ?_⟩
      show ((p.2 + 64 ^ d * p.1 : Nat) : Int) = V (addStep (q + 1) d eo.2 eo.1) + _
      rw [hk]
      push_cast
      rw [h1, h2]
      generalize (64 : Int) ^ (q + 1) - 1 = M
      rw [Int.mul_add, Int.mul_sub, Int.mul_add, ← Int.mul_assoc (64 ^ d) M, ← Int.mul_assoc M (64 ^ d), Int.mul_comm (64 ^ d) M]
      omega
/-! bounds -/
def Bd (b : Int) (l : List Int) : Prop := ∀ j, 0 ≤ l.getD j 0 ∧ l.getD j 0 ≤ b
theorem Bd.step {p : Nat} {b c : Int} {d : Int} {e o : List Int} (hb : 0 ≤ b) (hc : 0 ≤ c) (h1 : Bd b e) (h2 : Bd c o) : Bd (b + c) (addStep p d e o) := by
  intro j
  unfold addStep
  rw [List.getD_eq_getElem?_getD (l := List.map _ _), List.getElem?_map]
  rcases Nat.lt_or_ge j p with h | h
  · rw [List.getElem?_range h]
    show 0 ≤ e.getD j 0 + o.getD _ 0 ∧ e.getD j 0 + o.getD _ 0 ≤ b + c
    have := h1 j
    have := h2 (((j : Int) - d) % p).toNat
    omega
  · rw [List.getElem?_eq_none (by simpa using h)]
    exact ⟨Int.le_refl _, by show (0 : Int) ≤ b + c; omega⟩
theorem Bd.le {b c : Int} {l : List Int} (h : Bd b l) (hc : b ≤ c) : Bd c l := fun j => ⟨(h j).1, Int.le_trans (h j).2 hc⟩
theorem Bd.all {p : Nat} : ∀ (ds : List Int) (b : Int) (eo : List Int × List Int), 0 ≤ b → Bd b eo.1 → Bd b eo.2 → Bd (b * 2 ^ ds.length) (addAll p ds eo).1 ∧ Bd (b * 2 ^ ds.length) (addAll p ds eo).2
  | [], b, eo, _, h1, h2 => by simpa [addAll] using ⟨h1, h2⟩
  | d :: ds, b, eo, hb, h1, h2 => by
    have := Bd.all (p := p) ds (b + b) (addStep p d eo.1 eo.2, addStep p d eo.2 eo.1) (by omega) (h1.step hb hb h2) (h2.step hb hb h1)
    have e : (b + b) * 2 ^ ds.length = b * 2 ^ (d :: ds).length := by
      rw [List.length_cons, Int.pow_succ, ← Int.mul_assoc, Int.add_mul]
      omega
    rw [e] at this
    exact this
theorem Bd.start {p : Nat} : Bd 1 (add0 p).1 ∧ Bd 0 (add0 p).2 := by
  constructor
  · intro j
    cases j with
    | zero => exact (⟨by decide, by decide⟩ : 0 ≤ (1 : Int) ∧ (1 : Int) ≤ 1)
    | succ j =>
      show 0 ≤ (List.replicate (p - 1) (0 : Int)).getD j 0 ∧ (List.replicate (p - 1) (0 : Int)).getD j 0 ≤ 1
      rw [List.getD_eq_getElem?_getD, List.getElem?_replicate]
      split <;> exact ⟨by decide, by decide⟩
  · intro j
    show 0 ≤ (List.replicate p (0 : Int)).getD j 0 ∧ (List.replicate p (0 : Int)).getD j 0 ≤ 0
    rw [List.getD_eq_getElem?_getD, List.getElem?_replicate]
    split <;> exact ⟨by decide, by decide⟩
theorem Bd.fin {p : Nat} {ds : List Int} (h0 : ds ≠ []) (h6 : ds.length ≤ 6) : Bd 62 (addAll p ds (add0 p)).1 ∧ Bd 62 (addAll p ds (add0 p)).2 := by
  cases ds with
  | nil => exact absurd rfl h0
  | cons d ds =>
    have s1 := (Bd.start (p := p)).1.step (p := p) (d := d) (by decide) (by decide) (Bd.start (p := p)).2
    have s2 := (Bd.start (p := p)).2.step (p := p) (d := d) (by decide) (by decide) (Bd.start (p := p)).1
    have := Bd.all (p := p) ds 1 (addStep p d (add0 p).1 (add0 p).2, addStep p d (add0 p).2 (add0 p).1) (by decide) s1 s2
    have hl : ds.length ≤ 5 := by simpa using h6
    have h32 : (1 : Int) * 2 ^ ds.length ≤ 62 := by
      generalize ds.length = n at hl
      match n, hl with
      | 0, _ => decide
      | 1, _ => decide
      | 2, _ => decide
      | 3, _ => decide
      | 4, _ => decide
      | 5, _ => decide
    exact ⟨this.1.le h32, this.2.le h32⟩
theorem V_bd : ∀ {l : List Int}, Bd 62 l → 0 ≤ V l ∧ 63 * V l + 62 ≤ 62 * 64 ^ l.length
  | [], _ => ⟨Int.le_refl _, by simp [V]⟩
  | a :: l, h => by
    have h1 := h 0
    have h2 := V_bd (l := l) fun j => by have := h (j + 1); simpa using this
    have e : (a :: l).getD 0 0 = a := rfl
    rw [e] at h1
    show 0 ≤ a + 64 * V l ∧ 63 * (a + 64 * V l) + 62 ≤ 62 * 64 ^ (l.length + 1)
    rw [Int.pow_succ]
    omega
/-- the figures of a value -/
theorem dg_V : ∀ {l : List Int} {x : Nat}, Bd 62 l → (x : Int) = V l → dg 6 x l.length = l
  | [], _, _, _ => rfl
  | a :: l, x, h, hx => by
    have h1 := h 0
    have hl : Bd 62 l := fun j => by have := h (j + 1); simpa using this
    have e : (a :: l).getD 0 0 = a := rfl
    rw [e] at h1
    have hv := (V_bd hl).1
    have hx' : (x : Int) = a + 64 * V l := hx
    show ((x % 2 ^ 6 : Nat) : Int) :: dg 6 (x / 2 ^ 6) l.length = a :: l
    have e1 : ((x % 2 ^ 6 : Nat) : Int) = a := by omega
    rw [e1, dg_V hl (x := x / 2 ^ 6) (by omega)]
theorem fold_one {q x : Nat} {l : List Int} (hl : l.length = q + 1) (hb : Bd 62 l) (hk : ∃ k : Int, (x : Int) = V l + (64 ^ (q + 1) - 1) * k) : dg 6 (x % (64 ^ (q + 1) - 1)) (q + 1) = l := by
  obtain ⟨k, hk⟩ := hk
  have hv := V_bd hb
  rw [hl] at hv
  have h64 : (64 : Nat) ≤ 64 ^ (q + 1) := by rw [Nat.pow_succ]; have := Nat.pow_pos (a := 64) (n := q) (by decide); omega
  have e0 : ((64 ^ (q + 1) - 1 : Nat) : Int) = 64 ^ (q + 1) - 1 := by
    rw [Int.ofNat_sub (by omega)]; push_cast; rfl
  have e1 : ((x % (64 ^ (q + 1) - 1) : Nat) : Int) = V l := by
    rw [Int.natCast_emod, e0, hk, Int.add_mul_emod_self_left]
    refine Int.emod_eq_of_lt hv.1 ?_
    have : (64 : Int) ≤ 64 ^ (q + 1) := by exact_mod_cast h64
    omega
  have := dg_V hb e1
  rw [hl] at this
  exact this
theorem V_zeros : ∀ n, V (List.replicate n 0) = 0
  | 0 => rfl
  | n + 1 => by rw [List.replicate_succ]; show 0 + 64 * V (List.replicate n 0) = 0; rw [V_zeros n]; rfl
/-- what _law_folded and _law_added say is the same -/
theorem folded_added {p : Nat} (hp : 0 < p) {ds : List Nat} (h0 : ds ≠ []) (h6 : ds.length ≤ 6) :
    dg 6 ((EO ds (1, 0)).1 % (64 ^ p - 1)) p = (addAll p (asI ds) (add0 p)).1 ∧ dg 6 ((EO ds (1, 0)).2 % (64 ^ p - 1)) p = (addAll p (asI ds) (add0 p)).2 := by
  obtain ⟨q, rfl⟩ : ∃ q, p = q + 1 := ⟨p - 1, by omega⟩
  have l0 : (add0 (q + 1)).1.length = q + 1 := by simp [add0]
  have l1 : (add0 (q + 1)).2.length = q + 1 := by simp [add0]
  have c := EO_cong ds (1, 0) (add0 (q + 1)) l0 l1 ⟨0, by simp [add0, V, V_zeros]⟩ ⟨0, by simp [add0, V_zeros]⟩
  have hl := addAll_len (p := q + 1) (ds := asI ds) l0 l1
  have hb := Bd.fin (p := q + 1) (ds := asI ds) (by unfold asI; simpa using h0) (by unfold asI; simpa using h6)
  exact ⟨fold_one hl.1 hb.1 c.1, fold_one hl.2 hb.2 c.2⟩
theorem EO_bd : ∀ (ds : List Nat) (p : Nat × Nat), (∀ d ∈ ds, d ≤ 7) → (EO ds p).1 + (EO ds p).2 ≤ (p.1 + p.2) * 2 ^ (43 * ds.length)
  | [], p, _ => by simp [EO]
  | d :: ds, p, h => by
    have ih := EO_bd ds (p.1 + 64 ^ d * p.2, p.2 + 64 ^ d * p.1) fun d' hm => h d' (.tail _ hm)
    have hd := h d (.head _)
    have h7 : 64 ^ d ≤ 64 ^ 7 := Nat.pow_le_pow_right (by decide) hd
    have e1 : (p.1 + 64 ^ d * p.2) + (p.2 + 64 ^ d * p.1) = (p.1 + p.2) * (1 + 64 ^ d) := by
      rw [Nat.mul_add, Nat.mul_one, Nat.add_mul, Nat.mul_comm p.1, Nat.mul_comm p.2]; omega
    have e2 : 2 ^ (43 * (d :: ds).length) = 2 ^ 43 * 2 ^ (43 * ds.length) := by rw [List.length_cons, Nat.mul_succ, Nat.add_comm, Nat.pow_add]
    have e3 : (p.1 + p.2) * (1 + 64 ^ d) ≤ (p.1 + p.2) * 2 ^ 43 := Nat.mul_le_mul_left _ (by omega)
    show (EO ds _).1 + (EO ds _).2 ≤ _
    refine Nat.le_trans ih ?_
    show ((p.1 + 64 ^ d * p.2) + (p.2 + 64 ^ d * p.1)) * 2 ^ (43 * ds.length) ≤ _
    rw [e1, e2, ← Nat.mul_assoc]
    exact Nat.mul_le_mul_right _ e3
theorem EO_400 {ds : List Nat} (h : ∀ d ∈ ds, d ≤ 7) (h6 : ds.length ≤ 6) : (EO ds (1, 0)).1 < 2 ^ 400 ∧ (EO ds (1, 0)).2 < 2 ^ 400 := by
  have := EO_bd ds (1, 0) h
  have h1 : (1 + 0) * 2 ^ (43 * ds.length) ≤ 2 ^ 258 := by rw [Nat.add_zero, Nat.one_mul]; exact Nat.pow_le_pow_right (by decide) (by omega)
  have h2 : (2 : Nat) ^ 258 < 2 ^ 400 := by decide
  have h3 := Nat.le_trans this h1
  exact ⟨Nat.lt_of_le_of_lt (Nat.le_trans (Nat.le_add_right _ _) h3) h2, Nat.lt_of_le_of_lt (Nat.le_trans (Nat.le_add_left _ _) h3) h2⟩
theorem plus_step (a b q : Int) : (a + b) * (1 + q) = (a + q * b) + (b + q * a) := by
  rw [Int.mul_add, Int.mul_one, Int.add_mul, Int.mul_comm a, Int.mul_comm b]; omega
theorem minus_step (a b q : Int) : (a - b) * (1 - q) = (a + q * b) - (b + q * a) := by
  rw [Int.mul_sub, Int.mul_one, Int.sub_mul, Int.mul_comm a, Int.mul_comm b]; omega
end Mine
namespace Mine
open PySem

def subStep (p : Nat) (d : Int) (a : List Int) : List Int := (List.range p).map fun r => a.getD r 0 - a.getD (((r : Int) - d) % p).toNat 0
def apartL (p : Nat) (e o : List Int) : List Int := (List.range p).map fun r => e.getD r 0 - o.getD r 0
theorem map_getD {p : Nat} {f : Nat → Int} {j : Nat} (h : j < p) : ((List.range p).map f).getD j 0 = f j := by
  rw [List.getD_eq_getElem?_getD, List.getElem?_map, List.getElem?_range h]; rfl
theorem idx_lt {p : Nat} (hp : 0 < p) (r : Nat) (d : Int) : (((r : Int) - d) % p).toNat < p := by
  have := Int.emod_nonneg ((r : Int) - d) (b := (p : Int)) (by omega)
  have := Int.emod_lt_of_pos ((r : Int) - d) (b := (p : Int)) (by omega)
  omega
theorem apart_step {p : Nat} (hp : 0 < p) (d : Int) (e o : List Int) : apartL p (addStep p d e o) (addStep p d o e) = subStep p d (apartL p e o) := by
  unfold apartL subStep
  apply List.map_congr_left
  intro r hr
  have hr := List.mem_range.mp hr
  unfold addStep
  rw [map_getD hr, map_getD hr, map_getD hr, map_getD (idx_lt hp r d)]
  omega
def subAll (p : Nat) : List Int → List Int → List Int
  | [], a => a
  | d :: ds, a => subAll p ds (subStep p d a)
theorem apart_all {p : Nat} (hp : 0 < p) : ∀ (ds : List Int) (eo : List Int × List Int), apartL p (addAll p ds eo).1 (addAll p ds eo).2 = subAll p ds (apartL p eo.1 eo.2)
  | [], _ => rfl
  | d :: ds, eo => by
    show apartL p (addAll p ds _).1 (addAll p ds _).2 = subAll p ds (subStep p d _)
    rw [apart_all hp ds, apart_step hp]
theorem getD_zeros (p j : Nat) : (List.replicate p (0 : Int)).getD j 0 = 0 := by
  rw [List.getD_eq_getElem?_getD, List.getElem?_replicate]
  split <;> rfl
theorem sub_zeros {p : Nat} (d : Int) : subStep p d (List.replicate p 0) = List.replicate p 0 := by
  unfold subStep
  apply List.ext_getElem
  · simp
  · intro j h1 h2
    simp only [List.getElem_map, List.getElem_range, List.getElem_replicate, getD_zeros]
    rfl
theorem subAll_zeros {p : Nat} : ∀ ds : List Int, subAll p ds (List.replicate p 0) = List.replicate p 0
  | [] => rfl
  | d :: ds => by
    show subAll p ds (subStep p d _) = _
    rw [sub_zeros, subAll_zeros ds]
theorem sub_mult {p : Nat} {d : Int} {a : List Int} (hd : d % p = 0) : subStep p d a = List.replicate p 0 := by
  unfold subStep
  apply List.ext_getElem
  · simp
  · intro r h1 h2
    simp only [List.getElem_map, List.getElem_range, List.getElem_replicate]
    have hr : r < p := by simpa using h1
    have : (((r : Int) - d) % p).toNat = r := by
      have e : ((r : Int) - d) % p = r := by
        rw [Int.sub_emod, hd, Int.sub_zero, Int.emod_emod]
        exact Int.emod_eq_of_lt (by omega) (by omega)
      rw [e, Int.toNat_natCast]
    rw [this]; omega
/-- one row's dots a multiple of the prime -/
theorem fleck_mult {p : Nat} : ∀ (ds : List Int) (a : List Int), (∃ d ∈ ds, d % (p : Int) = 0) → subAll p ds a = List.replicate p 0
  | [], _, ⟨_, h, _⟩ => nomatch h
  | d :: ds, a, ⟨d', hm, hd⟩ => by
    show subAll p ds (subStep p d a) = _
    rcases List.mem_cons.mp hm with rfl | hm
    · rw [sub_mult hd, subAll_zeros]
    · exact fleck_mult ds _ ⟨d', hm, hd⟩
/-- the rests alone count -/
theorem sub_rest {p : Nat} (d : Int) (a : List Int) : subStep p d a = subStep p (d % p) a := by
  unfold subStep
  apply List.map_congr_left
  intro r _
  rw [Int.sub_emod_emod]
def pow1 (p c : Nat) : Nat := p ^ ((c - 1) / (p - 1))
def okL (p c : Nat) (a : List Int) : Bool := (a.all fun g => g % (pow1 p c : Nat) == 0) && (a.any fun g => g % (pow1 p c * p : Nat) != 0)
/-- all rows with rests among rs -/
def chk (p c : Nat) (rs : List Nat) : Nat → List Int → Bool
  | 0, a => okL p c a
  | n + 1, a => rs.all fun s => chk p c rs n (subStep p (s : Nat) a)
theorem chk_all {p c : Nat} {rs : List Nat} : ∀ (n : Nat) (a : List Int) (ds : List Int), chk p c rs n a = true → ds.length = n → (∀ d ∈ ds, ∃ s ∈ rs, d % (p : Int) = ((s : Nat) : Int)) → okL p c (subAll p ds a) = true
  | 0, a, ds, h, hl, _ => by
    have : ds = [] := List.length_eq_zero_iff.mp hl
    subst this; exact h
  | n + 1, a, [], h, hl, _ => by cases hl
  | n + 1, a, d :: ds, h, hl, hd => by
    show okL p c (subAll p ds (subStep p d a)) = true
    rw [sub_rest]
    obtain ⟨s, hm, hs⟩ := hd d (.head _)
    rw [hs]
    unfold chk at h
    rw [List.all_eq_true] at h
    exact chk_all n _ ds (h s hm) (by simpa using hl) fun d' hm => hd d' (.tail _ hm)
def a0 (p : Nat) : List Int := 1 :: List.replicate (p - 1) 0
theorem chk2 : (chk 2 4 [1] 4 (a0 2) && chk 2 5 [1] 5 (a0 2) && chk 2 6 [1] 6 (a0 2)) = true := by decide +kernel
theorem chk3 : (chk 3 4 [1, 2] 4 (a0 3) && chk 3 5 [1, 2] 5 (a0 3) && chk 3 6 [1, 2] 6 (a0 3)) = true := by decide +kernel
theorem chk51 : (chk 5 4 [2, 3] 4 (a0 5) && chk 5 5 [2, 3] 5 (a0 5) && chk 5 6 [2, 3] 6 (a0 5)) = true := by decide +kernel
theorem chk52 : (chk 5 4 [1, 3, 4] 4 (a0 5) && chk 5 5 [1, 3, 4] 5 (a0 5) && chk 5 6 [1, 3, 4] 6 (a0 5)) = true := by decide +kernel
theorem chk53 : (chk 5 4 [2, 4] 4 (a0 5) && chk 5 5 [2, 4] 5 (a0 5) && chk 5 6 [2, 4] 6 (a0 5)) = true := by decide +kernel
theorem chk_c {p : Nat} {rs : List Nat} (h : (chk p 4 rs 4 (a0 p) && chk p 5 rs 5 (a0 p) && chk p 6 rs 6 (a0 p)) = true) {c : Nat} (h4 : 4 ≤ c) (h6 : c ≤ 6) : chk p c rs c (a0 p) = true := by
  simp only [Bool.and_eq_true] at h
  match c, h4, h6 with
  | 4, _, _ => exact h.1.1
  | 5, _, _ => exact h.1.2
  | 6, _, _ => exact h.2
theorem apart0 {p : Nat} (hp : 0 < p) : apartL p (add0 p).1 (add0 p).2 = a0 p := by
  unfold apartL
  have hl : (add0 p).1.length = p := by simp [add0]; omega
  have : (List.range p).map (fun r => (add0 p).1.getD r 0 - (add0 p).2.getD r 0) = (List.range p).map fun r => (add0 p).1.getD r 0 := by
    apply List.map_congr_left
    intro r _
    show (add0 p).1.getD r 0 - (List.replicate p (0 : Int)).getD r 0 = _
    rw [getD_zeros, Int.sub_zero]
  rw [this]
  have := rangeD (add0 p).1
  rw [hl] at this
  rw [this]; rfl
/-- the sets apart: Fleck -/
theorem fleck {p c t : Nat} (hp : p = 2 ∨ p = 3 ∨ p = 5) (h4 : 4 ≤ c) (h6 : c ≤ 6) (ht : t = 1 ∨ t = 2 ∨ t = 3) {ds : List Int} (hl : ds.length = c) (hd : ∀ d ∈ ds, d = ((1 + t : Nat) : Int) ∨ d = ((2 + t : Nat) : Int) ∨ d = ((4 + t : Nat) : Int)) :
    ((∃ d ∈ ds, d % (p : Int) = 0) → apartL p (addAll p ds (add0 p)).1 (addAll p ds (add0 p)).2 = List.replicate p 0) ∧
    ((∀ d ∈ ds, d % (p : Int) ≠ 0) → okL p c (apartL p (addAll p ds (add0 p)).1 (addAll p ds (add0 p)).2) = true) := by
  have hp0 : 0 < p := by omega
  rw [apart_all hp0, apart0 hp0]
  refine ⟨fun h => fleck_mult ds _ h, fun h => ?_⟩
  have key : ∀ rs, (chk p 4 rs 4 (a0 p) && chk p 5 rs 5 (a0 p) && chk p 6 rs 6 (a0 p)) = true → (∀ d ∈ ds, ∃ s ∈ rs, d % (p : Int) = ((s : Nat) : Int)) → okL p c (subAll p ds (a0 p)) = true := fun rs h1 h2 => chk_all c _ ds (chk_c h1 h4 h6) hl h2
  rcases hp with rfl | rfl | rfl
  · refine key [1] chk2 fun d hm => ⟨1, by simp, ?_⟩
    have := h d hm
    omega
  · refine key [1, 2] chk3 fun d hm => ?_
    have := h d hm
    have : d % 3 = 1 ∨ d % 3 = 2 := by omega
    rcases this with h | h
    · exact ⟨1, by simp, by omega⟩
    · exact ⟨2, by simp, by omega⟩
  · rcases ht with rfl | rfl | rfl
    · refine key [2, 3] chk51 fun d hm => ?_
      have h1 := h d hm
      have : d % 5 = 2 ∨ d % 5 = 3 := by rcases hd d hm with h2 | h2 | h2 <;> omega
      rcases this with h | h
      · exact ⟨2, by simp, by omega⟩
      · exact ⟨3, by simp, by omega⟩
    · refine key [1, 3, 4] chk52 fun d hm => ?_
      have h1 := h d hm
      have : d % 5 = 1 ∨ d % 5 = 3 ∨ d % 5 = 4 := by rcases hd d hm with h2 | h2 | h2 <;> omega
      rcases this with h | h | h
      · exact ⟨1, by simp, by omega⟩
      · exact ⟨3, by simp, by omega⟩
      · exact ⟨4, by simp, by omega⟩
    · refine key [2, 4] chk53 fun d hm => ?_
      have h1 := h d hm
      have : d % 5 = 2 ∨ d % 5 = 4 := by rcases hd d hm with h2 | h2 | h2 <;> omega
      rcases this with h | h
      · exact ⟨2, by simp, by omega⟩
      · exact ⟨4, by simp, by omega⟩
end Mine
namespace Mine
open PySem PySem.W PySem.Calls PyProof.Rows PySem.SeqAt PySem.StrLaws

theorem toS_add (a b : List Nat) : toS a ++ toS b = toS (a ++ b) := by
  show (⟨a.toArray ++ b.toArray⟩ : Str) = ⟨(a ++ b).toArray⟩
  simp
theorem toS_len (a : List Nat) : (toS a).length = a.length := List.size_toArray
theorem toS_list' (a : List Nat) : (toS a).cps.toList = a := rfl
theorem mul_one_char (c n : Nat) : Txt.mul (toS [c]) (n : Nat) = toS (List.replicate n c) := by
  have key : ∀ (k : Nat) (acc : Array Nat), (List.replicate k #[c]).foldl (· ++ ·) acc = acc ++ (List.replicate k c).toArray := by
    intro k
    induction k with
    | zero => intro acc; simp
    | succ k ih => intro acc; rw [List.replicate_succ, List.foldl_cons, ih, List.replicate_succ]; apply Array.toList_inj.mp; simp
  unfold Txt.mul
  by_cases h0 : (n : Int) < 1
  · have : n = 0 := by omega
    subst this
    rw [if_pos h0]; rfl
  · rw [if_neg h0]
    by_cases h1 : n = 1
    · subst h1
      rfl
    · have hl : (toS [c]).length = 1 := rfl
      have : ((n : Int) == 1 || (toS [c]).length == 0) = false := by rw [hl]; simp; omega
      rw [if_neg (by rw [this]; decide)]
      show (⟨(List.replicate ((n : Int)).toNat #[c]).foldl (· ++ ·) #[]⟩ : Str) = _
      rw [Int.toNat_natCast, key]
      simp [toS]

def linesL (qs : List (List Nat)) : List Nat := (qs.map (· ++ [13, 10])).flatten
theorem strsFrom_are : ∀ (k : Nat) (ys : List Str), StrsAre (strsFrom k ys) ys
  | _, [] => .nil
  | k, y :: r => .cons _ _ (strsFrom_are (k + 1) r)
theorem at_iff {tl : List Nat} {n i : Nat} : StrLaws.At (toS tl) (toS [13, 10]) n i ↔ i + 2 ≤ n ∧ (tl.drop i).take 2 = [13, 10] := by
  unfold StrLaws.At
  rw [StrLaws.subAt_eq]
  show i + 2 ≤ n ∧ ((tl.drop i).take 2 == [13, 10]) = true ↔ _
  rw [beq_iff_eq]
theorem cuts_lines (tl : List Nat) : ∀ (qs : List (List Nat)) (a : Nat) (cuts : List Nat) (f : Nat), (∀ q ∈ qs, 13 ∉ q) → tl.drop a = linesL qs → a ≤ tl.length → ChainG (toS tl) (toS [13, 10]) tl.length a cuts f → (∀ k, f ≤ k → ¬ StrLaws.At (toS tl) (toS [13, 10]) tl.length k) →
    partsFrom (toS tl) 2 a cuts = (qs ++ [[]]).map toS ∧ cuts.length = qs.length
  | [], a, cuts, f, _, hd, ha, hc, hf => by
    have hl : a = tl.length := by
      have : (tl.drop a).length = 0 := by rw [hd]; rfl
      rw [List.length_drop] at this
      omega
    cases cuts with
    | nil =>
      refine ⟨?_, rfl⟩
      show [Builtin.Str.strSub (toS tl) a tl.toArray.size] = [toS []]
      have : Builtin.Str.strSub (toS tl) a tl.toArray.size = toS [] := by
        have h := StrLaws.strSub_toList (toS tl) a tl.toArray.size
        have : tl.toArray.size = tl.length := List.size_toArray
        rw [toS_list', this, hd] at h
        have h2 : (List.take (tl.length - a) (linesL [])) = [] := by simp [linesL]
        rw [h2] at h
        rw [this]
        generalize Builtin.Str.strSub (toS tl) a tl.length = z at h
        obtain ⟨⟨z⟩⟩ := z
        have : z = [] := h
        rw [this]; rfl
      rw [this]
    | cons c r =>
      have := (at_iff.mp hc.2.1).1
      have := hc.1
      omega
  | q :: qs, a, cuts, f, hq, hd, ha, hc, hf => by
    have hq13 := hq q (.head _)
    have hd' : tl.drop a = q ++ 13 :: 10 :: linesL qs := by rw [hd]; simp [linesL]
    have hlen : tl.length = a + (q.length + (2 + (linesL qs).length)) := by
      have := congrArg List.length hd'
      rw [List.length_drop] at this
      simp at this
      omega
    have hat : StrLaws.At (toS tl) (toS [13, 10]) tl.length (a + q.length) := at_iff.mpr ⟨by omega, by rw [← List.drop_drop, hd']; simp⟩
    have hno : ∀ k, a ≤ k → k < a + q.length → ¬ StrLaws.At (toS tl) (toS [13, 10]) tl.length k := fun k h1 h2 hk => by
      have h3 := (at_iff.mp hk).2
      obtain ⟨j, rfl⟩ := Nat.exists_eq_add_of_le h1
      rw [← List.drop_drop, hd', List.drop_append_of_le_length (by omega)] at h3
      have : (q.drop j) ≠ [] := by
        intro e
        have := congrArg List.length e
        rw [List.length_drop] at this
        simp at this
        omega
      obtain ⟨x, r, e⟩ := List.exists_cons_of_ne_nil this
      rw [e] at h3
      have hx : x = 13 := by
        have := congrArg List.head? h3
        simpa using this
      exact hq13 (List.mem_of_mem_drop (i := j) (by rw [e, hx]; exact .head _))
    cases cuts with
    | nil =>
      have e : f = a := hc
      exact absurd hat (hf _ (by omega))
    | cons c r =>
      obtain ⟨h1, h2, h3, h4⟩ := hc
      have hce : c = a + q.length := by
        rcases Nat.lt_trichotomy c (a + q.length) with h | h | h
        · exact absurd h2 (hno c h1 h)
        · exact h
        · exact absurd hat (h3 _ (by omega) h)
      subst hce
      have hdn : tl.drop (a + q.length + 2) = linesL qs := by
        rw [← List.drop_drop, ← List.drop_drop, hd']; simp
      have ih := cuts_lines tl qs (a + q.length + 2) r f (fun q' h => hq q' (.tail _ h)) hdn (by omega) h4 hf
      refine ⟨?_, by rw [List.length_cons, List.length_cons, ih.2]⟩
      show Builtin.Str.strSub (toS tl) a (a + q.length) :: partsFrom (toS tl) 2 (a + q.length + 2) r = toS q :: (qs ++ [[]]).map toS
      rw [ih.1]
      congr 1
      have h := StrLaws.strSub_toList (toS tl) a (a + q.length)
      rw [toS_list', hd', show a + q.length - a = q.length by omega, List.take_left] at h
      generalize Builtin.Str.strSub (toS tl) a (a + q.length) = z at h
      obtain ⟨⟨z⟩⟩ := z
      have : z = q := h
      rw [this]; rfl
theorem kind_crlf : Builtin.Str.strKind (toS [13, 10]) = 1 := by decide +kernel
theorem kind_pos (x : Str) : 1 ≤ Builtin.Str.strKind x := by unfold Builtin.Str.strKind; split <;> (try split) <;> omega
theorem parts_lines {tl : List Nat} {qs : List (List Nat)} (ht : tl = linesL qs) (hq : ∀ q ∈ qs, 13 ∉ q) (hn : qs ≠ []) :
    (decide ((toS tl).length < (toS [13, 10]).length) || decide (Builtin.Str.strKind (toS tl) < Builtin.Str.strKind (toS [13, 10]))) = false ∧ (Builtin.Str.occurrences (toS tl) (toS [13, 10]) 0 (toS tl).length ((toS tl).length + 1)).isEmpty = false ∧
    Builtin.Str.partsBetween (toS tl) (Builtin.Str.occurrences (toS tl) (toS [13, 10]) 0 (toS tl).length ((toS tl).length + 1)) (toS [13, 10]).length = (qs ++ [[]]).map toS := by
  obtain ⟨f, hc, hf⟩ := StrLaws.occ_tight (toS tl) (toS [13, 10]) (by decide)
  have hl : (toS tl).length = tl.length := toS_len tl
  rw [hl] at hc hf ⊢
  obtain ⟨k1, k2⟩ := cuts_lines tl qs 0 _ f hq (by rw [List.drop_zero]; exact ht) (Nat.zero_le _) hc hf
  refine ⟨?_, ?_, ?_⟩
  · rw [Bool.or_eq_false_iff, kind_crlf]
    refine ⟨decide_eq_false ?_, decide_eq_false (by have := kind_pos (toS tl); omega)⟩
    show ¬ tl.length < 2
    cases qs with
    | nil => exact absurd rfl hn
    | cons q qs => rw [ht]; simp [linesL]; omega
  · cases he : Builtin.Str.occurrences (toS tl) (toS [13, 10]) 0 tl.length (tl.length + 1) with
    | nil =>
      rw [he] at k2
      exact absurd (List.length_eq_zero_iff.mp k2.symm) hn
    | cons _ _ => rfl
  · rw [StrLaws.partsBetween_eq]
    exact k1
section
variable {X : Amb} {A : Around} {R : Led} {env : Env}
section
variable {Ψ : Value → Led → Prop} {t u : Tok}
theorem t_sum {l : Addr} {vs : List Value} {ns : List Int} (hh : A.handled = none) (h : Has l (li vs) R) (hi : IntsAre vs ns) (hz : ns.length ≤ 100) (hn : ∀ n ∈ ns, 0 ≤ n ∧ n ≤ 1000) (k : ∀ t, Ψ (.int ns.sum t) R) : Tr X A R (call (.builtin "sum") [.ref l]) Ψ := ⟨fun s I => by
  refine any_size (call_sum_walk ?_)
  have hl := (I.at h).isList
  have hlt : l < s.heap.objs.size := (I.at h).lt
  have hlen := ints_len hi
  have pre : ∀ j, j ≤ ns.length → preSum (fun i => ns.getD i 0) j = (ns.take j).sum := by
    intro j hj
    induction j with
    | zero => simp [preSum]
    | succ j ih =>
      have e : ns.take (j + 1) = ns.take j ++ [ns.getD j 0] := by
        rw [List.take_add_one, List.getElem?_eq_getElem (by omega)]
        simp [List.getElem?_eq_getElem (show j < ns.length by omega)]
      rw [e, List.sum_append, ← ih (by omega)]
      simp [preSum]
  have bnd : ∀ m : List Int, (∀ n ∈ m, 0 ≤ n ∧ n ≤ 1000) → 0 ≤ m.sum ∧ m.sum ≤ 1000 * m.length := by
    intro m
    induction m with
    | nil => intro _; simp
    | cons a m ih =>
      intro h
      have h1 := h a (.head _)
      have h2 := ih fun n hn => h n (.tail _ hn)
      simp only [List.sum_cons, List.length_cons]
      omega
  refine wpAny_pyIter_list hl ⟨s.heap.objs.size, [s.heap.objs.size, l], [s.heap.objs.size], vs.toArray.size, _, _, fun i => ns.getD i 0, rfl, Walks.list (A := A.in1) hh s.heap.objs.size l (Nat.ne_of_lt hlt) vs.toArray, ⟨⟨_, Heap.get?_push_size _ rfl, rfl, rfl⟩, Heap.IsList.push hl _⟩, ?_, ?_, ?_, ?_⟩
  · intro b hb
    show b < (s.heap.push _).objs.size
    rw [Heap.size_push]
    simp at hb
    rcases hb with e | e
    · rw [e]; exact Nat.lt_succ_self _
    · rw [e]; exact Nat.lt_succ_of_lt hlt
  · intro i v hv
    obtain ⟨m, t, e, hm⟩ := ints_get hi (j := i) (v := v) (by simpa using hv)
    exact ⟨t, by show v = Value.int (ns.getD i 0) t; rw [e, List.getD_eq_getElem?_getD, hm]; rfl⟩
  · intro j hj
    have hj' : j < ns.length := by simpa [hlen] using hj
    have h1 := hn (ns.getD j 0) (by rw [List.getD_eq_getElem?_getD, List.getElem?_eq_getElem hj']; exact List.getElem_mem hj')
    have h2 := bnd (ns.take (j + 1)) fun n hn' => hn n (List.mem_of_mem_take hn')
    rw [← pre (j + 1) (by omega)] at h2
    have h3 : (ns.take (j + 1)).length ≤ 100 := by rw [List.length_take]; omega
    have e4 : (fun i => ns.getD i 0) j = ns.getD j 0 := rfl
    rw [e4]
    refine ⟨⟨?_, ?_⟩, ⟨?_, ?_⟩⟩ <;> omega
  · intro h' tk t' hk hsz
    have e : preSum (fun i => ns.getD i 0) vs.toArray.size = ns.sum := by
      rw [List.size_toArray, hlen, pre _ (Nat.le_refl _), List.take_length]
    rw [e]
    refine ⟨R, InvH.grow0 I (fun b o eb => hk b o (by simp; exact Nat.ne_of_lt (Heap.lt_size eb)) (Heap.get?_push_of_some _ eb)) hsz, k t'⟩⟩
theorem t_chr {i : Nat} (hi : i < 1000) (k : ∀ t, Ψ (.str (toS [i]) t) R) : Tr X A R (call (.builtin "chr") [.int (i : Nat) t]) Ψ := ⟨fun s I =>
  P.chr_of_int (by rw [Bool.or_eq_false_iff]; exact ⟨decide_eq_false (by omega), decide_eq_false (by omega)⟩) ⟨R, I, k _⟩⟩
theorem t_mulC {c n : Nat} (hn : n < 1000) (k : ∀ t, Ψ (.str (toS (List.replicate n c)) t) R) : Tr X A R (binaryOp .Mult (.str (toS [c]) t) (.int (n : Nat) u)) Ψ := ⟨fun s I => by
  have hl : (toS [c]).length = 1 := rfl
  refine SB.mul ⟨?_, ?_, ?_⟩ fun t' k' => ⟨R, I, ?_⟩
  · rw [Bool.or_eq_false_iff]; exact ⟨decide_eq_false (by omega), decide_eq_false (by omega)⟩
  · intro h1 _
    rw [hl]
    have : 1 ≤ (2 ^ 63 - 1) / (n : Int) := by
      rw [Int.le_ediv_iff_mul_le (by omega)]; omega
    omega
  · intro _ _
    rw [hl]
    unfold PySem.Builtin.Str.tooLong
    rw [sizeLine_eq]
    exact decide_eq_false (by omega)
  · rw [mul_one_char]; exact k _⟩
theorem t_addS {a b : List Nat} (hz : a.length + b.length ≤ 100000) (k : ∀ t, Ψ (.str (toS (a ++ b)) t) R) : Tr X A R (binaryOp .Add (.str (toS a) t) (.str (toS b) u)) Ψ := ⟨fun s I =>
  PyProof.Rows.add_str (fun t' tk => ⟨R, I, by rw [toS_add]; exact k _⟩) (by rw [toS_len, toS_len, sizeLine_eq]; omega)⟩
theorem t_split {tl : List Nat} {qs : List (List Nat)} (ht : tl = linesL qs) (hq : ∀ q ∈ qs, 13 ∉ q) (hn : qs ≠ []) (hz : tl.length ≤ 10000) (hz' : qs.length ≤ 10000) (k : ∀ D vs, StrsAre vs ((qs ++ [[]]).map toS) → Ψ (.ref D) (ow D (li vs) :: R)) : Tr X A R (call (.builtin "str.split") [.str (toS tl) t, .str (toS [13, 10]) u]) Ψ := ⟨fun s I => by
  obtain ⟨h1, h2, h3⟩ := parts_lines ht hq hn
  refine call_meets F.slot_str_split (typeIs_str _ _ _) F.entry_str_split (F.args_str_split_2 _ _) (meets_str_split_sep (toS tl) (toS [13, 10]) t u h1 rfl h2 (by rw [toS_len, sizeLine_eq]; omega) (by rw [h3, List.length_map, List.length_append, sizeLine_eq]; simp; omega)) ?_
  rw [h3]
  refine ⟨_, I.push (c := li (strsFrom s.toks ((qs ++ [[]]).map toS))) _ rfl ⟨_, rfl⟩, k _ _ (strsFrom_are _ _)⟩⟩
end
section
variable {Φ : Value × List Value → Led → Prop} {x : Str} {t : Tok} {pl : Sem Bool}
theorem t_mSplit (k : Φ (.builtin "str.split", [.str x t]) R) : Tr X A R (getMethod (.str x t) "split" pl) Φ := ⟨fun s I => by with_reducible exact GM.split ⟨R, I, k⟩⟩
theorem t_mJoin (k : Φ (.builtin "str.join", [.str x t]) R) : Tr X A R (getMethod (.str x t) "join" pl) Φ := ⟨fun s I => by with_reducible exact GM.join ⟨R, I, k⟩⟩
end
/-- a join of known pieces -/
theorem t_joinP {l : Addr} {vs : List Value} {n : Nat} {f : Nat → List Nat} {t : Tok} {Ψ : Value → Led → Prop} (h : Has l (li vs) R) (hg : Got n (fun j v => ∃ t, v = .str (toS (f j)) t) vs) (hz : (((List.range n).map f).flatten).length ≤ 100000) (k : ∀ t', Ψ (.str (toS ((List.range n).map f).flatten) t') R) : Tr X A R (call (.builtin "str.join") [.str (toS []) t, .ref l]) Ψ := by
  have hs := Got.strs (f := fun j => toS (f j)) hg
  have e0 : (List.range n).map (fun j => toS (f j)) = ((List.range n).map f).map toS := by rw [List.map_map]; rfl
  rw [e0] at hs
  refine t_join h hs ?_ fun t' => ?_
  · rw [flat_len]
    have : (toS []).length = 0 := rfl
    rw [this]; omega
  · have e : Txt.join (toS []) (((List.range n).map f).map toS) = toS ((List.range n).map f).flatten := by
      have h := joinE (((List.range n).map f).map toS)
      have e1 : (((List.range n).map f).map toS).map (·.cps.toList) = (List.range n).map f := by rw [List.map_map]; exact List.map_id _
      rw [e1] at h
      show Txt.join ⟨#[]⟩ _ = (⟨((List.range n).map f).flatten.toArray⟩ : Str)
      rw [← h]
    rw [e]; exact k _

/-! lists of two lists of ints, alike -/
theorem ints_same {vs : List Value} {ns ms : List Int} (h : IntsAre vs ns) (h' : IntsAre vs ms) : ns = ms := by
  induction h generalizing ms with
  | nil => cases h'; rfl
  | cons i t h ih => cases h' with | cons j u h' => rw [ih h']
theorem eqAt_ints {A : Around} {s : Shared} {l b : Addr} {vs ws : List Value} {ns : List Int} (hl : s.heap.IsList l vs.toArray) (hb : s.heap.IsList b ws.toArray) (hi : IntsAre vs ns) (hj : IntsAre ws ns) (hu : A.units < cLine) : EqAt A s (.ref l) (.ref b) true := by
  by_cases e : l = b
  · subst e; exact EqAt.same _
  · have := rcInts hl hb hi hj hu
    have e2 : (ns == ns) = true := by simp
    rw [e2] at this
    exact EqAt.of_refs e this
theorem t_nePair {a b e1 o1 e2 o2 : Addr} {v1 w1 v2 w2 : List Value} {n m : List Int} {Ψ : Value → Led → Prop} {k' : Nat} (ha : Has a (li [.ref e1, .ref o1]) R) (hb : Has b (li [.ref e2, .ref o2]) R) (h1 : Has e1 (li v1) R) (h2 : Has o1 (li w1) R) (h3 : Has e2 (li v2) R) (h4 : Has o2 (li w2) R)
    (i1 : IntsAre v1 n) (i2 : IntsAre w1 m) (i3 : IntsAre v2 n) (i4 : IntsAre w2 m) (hr : Room A (k' + 1)) (k : Ψ (.bool false) R) : Tr X A R (compareOp .NotEq (.ref a) (.ref b)) Ψ := ⟨fun s I => by
  have hla : s.heap.IsList a (#[.ref e1, .ref o1] : Array Value) := (I.at ha).isList
  have hlb : s.heap.IsList b (#[.ref e2, .ref o2] : Array Value) := (I.at hb).isList
  have key := RcNeAt.lists (A := A) (s := s) (e := fun _ => true) hla hlb rfl hr.line (fun j h1' h2' => by
    have hu := (Room.in1 hr).line
    match j, h1', h2' with
    | 0, _, _ => exact eqAt_ints (I.at h1).isList (I.at h3).isList i1 i3 hu
    | 1, _, _ => exact eqAt_ints (I.at h2).isList (I.at h4).isList i2 i4 hu
    | j + 2, h, _ => exact absurd h (by simp))
  have e : (!(List.range (#[Value.ref e1, Value.ref o1] : Array Value).size).all fun _ => true) = false := by simp
  rw [e] at key
  exact key _ _ _ _ ⟨R, I, k⟩⟩
end
end Mine
namespace Mine
open PySem PySem.W PySem.Calls PyProof.Rows

def zipO (f0 : Value) (TI TO : Addr) : Obj := { cls := .type "zip", dict := none, data := .fields #[f0, .bool false, .bool false, .ref TI, .ref TO], slots := #[] }
def pairO (a b : Value) : Obj := { cls := .type "tuple", data := .seq #[a, b] }
def somePair : Cell := fun o => ∃ a b, o = pairO a b
/-- the cells of a zip of two lists -/
def zipC (z TI TO i1 i2 l1 l2 : Addr) (i : Nat) : Led := [ow z (ob (zipO .none TI TO)), ow TI (ob (pairO (.ref i1) (.ref i2))), ow TO somePair, ow i1 (lit l1 i), ow i2 (lit l2 i)]

section
variable {z TI TO i1 i2 l1 l2 : Addr} {i : Nat} {S : Led}
theorem mZ : ow z (ob (zipO .none TI TO)) ∈ zipC z TI TO i1 i2 l1 l2 i ++ S := by unfold zipC; simp
theorem mI : ow TI (ob (pairO (.ref i1) (.ref i2))) ∈ zipC z TI TO i1 i2 l1 l2 i ++ S := by unfold zipC; simp
theorem mO : ow TO somePair ∈ zipC z TI TO i1 i2 l1 l2 i ++ S := by unfold zipC; simp
theorem m1 : ow i1 (lit l1 i) ∈ zipC z TI TO i1 i2 l1 l2 i ++ S := by unfold zipC; simp
theorem m2' : ow i2 (lit l2 i) ∈ zipC z TI TO i1 i2 l1 l2 i ++ S := by unfold zipC; simp
end
section
variable {X : Amb} {A : Around} {R : Led} {env : Env}
theorem zip_apart {z TI TO i1 i2 l1 l2 : Addr} {i : Nat} {v1 v2 : List Value} {S : Led} {h : Heap} {g : Array GenState} {os : OsState} (I : InvH X (zipC z TI TO i1 i2 l1 l2 i ++ S) h g os) (h1 : Has l1 (li v1) S) (h2 : Has l2 (li v2) S) : ZipApart z TI TO i1 i2 l1 l2 := by
  obtain ⟨w1, n1⟩ := h1.mem
  obtain ⟨w2, n2⟩ := h2.mem
  have ap := I.apart
  unfold zipC at ap
  simp only [List.cons_append, List.nil_append] at ap
  have a1 := List.pairwise_cons.mp ap
  have a2 := List.pairwise_cons.mp a1.2
  have a3 := List.pairwise_cons.mp a2.2
  have a4 := List.pairwise_cons.mp a3.2
  have a5 := List.pairwise_cons.mp a4.2
  have q : ∀ {p : Ent} {l : Led} {a : Addr} {c : Cell}, (∀ q ∈ l, (ow a c).w = true ∨ q.w = true → (ow a c).a ≠ q.a) → p ∈ l → a ≠ p.a := fun h m => h _ m (.inl rfl)
  exact {
    TIz := Ne.symm (q a1.1 (p := ow TI (ob (pairO (.ref i1) (.ref i2)))) (by simp))
    TOz := Ne.symm (q a1.1 (p := ow TO somePair) (by simp))
    i1z := Ne.symm (q a1.1 (p := ow i1 (lit l1 i)) (by simp))
    i2z := Ne.symm (q a1.1 (p := ow i2 (lit l2 i)) (by simp))
    TITO := q a2.1 (p := ow TO somePair) (by simp)
    TIi1 := q a2.1 (p := ow i1 (lit l1 i)) (by simp)
    TIi2 := q a2.1 (p := ow i2 (lit l2 i)) (by simp)
    TOi1 := q a3.1 (p := ow i1 (lit l1 i)) (by simp)
    TOi2 := q a3.1 (p := ow i2 (lit l2 i)) (by simp)
    i12 := q a4.1 (p := ow i2 (lit l2 i)) (by simp)
    l1z := Ne.symm (q a1.1 (p := ⟨l1, li v1, w1⟩) (by simp [n1]))
    l1TO := Ne.symm (q a3.1 (p := ⟨l1, li v1, w1⟩) (by simp [n1]))
    l1i1 := Ne.symm (q a4.1 (p := ⟨l1, li v1, w1⟩) (by simp [n1]))
    l1i2 := Ne.symm (q a5.1 (p := ⟨l1, li v1, w1⟩) (by simp [n1]))
    l2z := Ne.symm (q a1.1 (p := ⟨l2, li v2, w2⟩) (by simp [n2]))
    l2TO := Ne.symm (q a3.1 (p := ⟨l2, li v2, w2⟩) (by simp [n2]))
    l2i1 := Ne.symm (q a4.1 (p := ⟨l2, li v2, w2⟩) (by simp [n2]))
    l2i2 := Ne.symm (q a5.1 (p := ⟨l2, li v2, w2⟩) (by simp [n2])) }
theorem apart_S {z TI TO i1 i2 l1 l2 : Addr} {i : Nat} {S : Led} {h : Heap} {g : Array GenState} {os : OsState} (I : InvH X (zipC z TI TO i1 i2 l1 l2 i ++ S) h g os) : ∀ p ∈ S, p.a ≠ z ∧ p.a ≠ TI ∧ p.a ≠ TO ∧ p.a ≠ i1 ∧ p.a ≠ i2 := fun p hp => by
  have ap := I.apart
  rw [List.pairwise_append] at ap
  have := fun a (ha : a ∈ zipC z TI TO i1 i2 l1 l2 i) => Ne.symm (ap.2.2 a ha p hp (.inl (by unfold zipC at ha; simp at ha; rcases ha with rfl | rfl | rfl | rfl | rfl <;> rfl)))
  exact ⟨this (ow z (ob (zipO .none TI TO))) (by simp [zipC]), this (ow TI (ob (pairO (.ref i1) (.ref i2)))) (by simp [zipC]), this (ow TO somePair) (by simp [zipC]), this (ow i1 (lit l1 i)) (by simp [zipC]), this (ow i2 (lit l2 i)) (by simp [zipC])⟩
theorem iter_zip {elts : List Expr} {k' : Nat} {pos : Pos} (hh : A.handled = none) (z TI TO i1 i2 l1 l2 : Addr) (v1 v2 : List Value) (hle : v2.length ≤ v1.length) : Iter X A (.Tuple elts k' pos) (.ref z) v2.length (zipC z TI TO i1 i2 l1 l2) (fun S => Has l1 (li v1) S ∧ Has l2 (li v2) S)
    (fun i v T => ∃ t x y, v = .ref t ∧ v1[i]? = some x ∧ v2[i]? = some y ∧ T = [ow t (tu [x, y])]) where
  next := fun i S hi hl => ⟨fun s J => by
    have D := zip_apart J hl.1 hl.2
    have hS := apart_S J
    have gz : IsZip s.heap z TI TO .none := (J.own _ mZ).ob
    have gI : IsPair s.heap TI (.ref i1) (.ref i2) := (J.own _ mI).ob
    obtain ⟨oO, gO, pa, pb, rfl⟩ := J.own _ mO
    have g1 : s.heap.IsListIter i1 l1 i := J.own _ m1
    have g2 : s.heap.IsListIter i2 l2 i := J.own _ m2'
    have gl1 : s.heap.IsList l1 v1.toArray := (J.at (Has.append (P := zipC z TI TO i1 i2 l1 l2 i) hl.1)).isList
    have gl2 : s.heap.IsList l2 v2.toArray := (J.at (Has.append (P := zipC z TI TO i1 i2 l1 l2 i) hl.2)).isList
    have hx : v1.toArray[i]? = some v1[i] := by simp
    have hy : v2.toArray[i]? = some v2[i] := by simp
    refine wpAny_pyNext_zip_item D gz gI gO g1 g2 gl1 gl2 hx hy fun h' z1 z2 z3 z4 z5 z6 hk => ?_
    have lt : ∀ {c o}, s.heap.get? c = some o → s.heap.objs.size ≠ c := fun e => Nat.ne_of_gt (Heap.lt_size e)
    have hkW : ∀ b o, b ∉ [z, TO, i1, i2] → s.heap.get? b = some o → h'.get? b = some o := fun b o hb e => by
      simp only [List.mem_cons, List.not_mem_nil, or_false, not_or] at hb
      exact hk b o hb.1 hb.2.1 hb.2.2.1 hb.2.2.2 e
    have J1 : InvH X (ow s.heap.objs.size (tu [v1[i], v2[i]]) :: ow z (ob (zipO (rawInt s.heap.objs.size) TI TO)) :: ow TI (ob (pairO (.ref i1) (.ref i2))) :: ow TO somePair :: ow i1 (lit l1 (i + 1)) :: ow i2 (lit l2 (i + 1)) :: S) h' s.gens s.os := by
      refine J.step [z, TO, i1, i2] (fun a ha => ?_) hkW (by rw [z6]; omega) (fun p hp => ?_) (fun p hp hu => ?_) ?_ (fun p hp hu => ?_)
      · simp only [List.mem_cons, List.not_mem_nil, or_false] at ha
        rcases ha with rfl | rfl | rfl | rfl
        · exact ⟨_, mZ, rfl, rfl⟩
        · exact ⟨_, mO, rfl, rfl⟩
        · exact ⟨_, m1, rfl, rfl⟩
        · exact ⟨_, m2', rfl, rfl⟩
      · simp only [List.mem_cons] at hp
        rcases hp with rfl | rfl | rfl | rfl | rfl | rfl | hp
        · exact ⟨_, z5, rfl, _, rfl⟩
        · exact ⟨_, z1, rfl⟩
        · exact ⟨_, hk _ _ D.TIz D.TITO D.TIi1 D.TIi2 gI, rfl⟩
        · exact ⟨_, z2, _, _, rfl⟩
        · exact z3
        · exact z4
        · have := hS p hp
          exact J.keepAt hkW (List.mem_append_right _ hp) (by simp [this])
      · simp only [List.mem_cons] at hp
        rcases hp with rfl | rfl | rfl | rfl | rfl | rfl | hp
        · exact .inr (Nat.le_refl _)
        · exact .inl ⟨_, mZ, rfl, rfl⟩
        · exact .inl ⟨_, mI, rfl, rfl⟩
        · exact .inl ⟨_, mO, rfl, rfl⟩
        · exact .inl ⟨_, m1, rfl, rfl⟩
        · exact .inl ⟨_, m2', rfl, rfl⟩
        · exact .inl ⟨p, List.mem_append_right _ hp, rfl, hu⟩
      · have ap := J.apart
        have ltS : ∀ p ∈ zipC z TI TO i1 i2 l1 l2 i ++ S, s.heap.objs.size ≠ p.a := fun p hp => Nat.ne_of_gt (J.own p hp).lt
        refine List.pairwise_cons.mpr ⟨fun p hp _ => ?_, ?_⟩
        · simp only [List.mem_cons] at hp
          rcases hp with rfl | rfl | rfl | rfl | rfl | hp
          · exact lt gz
          · exact lt gI
          · exact lt gO
          · obtain ⟨_, e, _⟩ := g1; exact lt e
          · obtain ⟨_, e, _⟩ := g2; exact lt e
          · exact ltS p (List.mem_append_right _ hp)
        · unfold zipC at ap
          simp only [List.cons_append, List.nil_append, List.pairwise_cons] at ap ⊢
          simp only [List.mem_cons, forall_eq_or_imp] at ap ⊢
          exact ap
      · simp only [List.mem_cons] at hp
        rcases hp with rfl | rfl | rfl | rfl | rfl | rfl | hp
        · cases hu
        · cases hu
        · cases hu
        · cases hu
        · cases hu
        · cases hu
        · exact ⟨p, List.mem_append_right _ hp, rfl⟩
    refine ⟨_, J1, _, rfl, ⟨fun s2 J2 => ?_⟩⟩
    have gz2 : IsZip s2.heap z TI TO (rawInt s.heap.objs.size) := (J2.own (ow z (ob (zipO (rawInt s.heap.objs.size) TI TO))) (by simp)).ob
    refine wpAny_letOwnedTupleGo_zip gz2 fun h2 w1 w2 => ⟨[ow s.heap.objs.size (tu [v1[i], v2[i]])] ++ (zipC z TI TO i1 i2 l1 l2 (i + 1) ++ S), ?_, [ow s.heap.objs.size (tu [v1[i], v2[i]])], rfl, _, _, _, rfl, by simp, by simp, rfl⟩
    exact J2.update (.tail .head) w2 ⟨_, w1, rfl⟩⟩
  done := fun S hl => ⟨fun s J => by
    have D := zip_apart J hl.1 hl.2
    have hS := apart_S J
    have gz : IsZip s.heap z TI TO .none := (J.own _ mZ).ob
    have gI : IsPair s.heap TI (.ref i1) (.ref i2) := (J.own _ mI).ob
    obtain ⟨oO, gO, pa, pb, rfl⟩ := J.own _ mO
    have g1 : s.heap.IsListIter i1 l1 v2.length := J.own _ m1
    have g2 : s.heap.IsListIter i2 l2 v2.length := J.own _ m2'
    have gl1 : s.heap.IsList l1 v1.toArray := (J.at (Has.append (P := zipC z TI TO i1 i2 l1 l2 v2.length) hl.1)).isList
    have gl2 : s.heap.IsList l2 v2.toArray := (J.at (Has.append (P := zipC z TI TO i1 i2 l1 l2 v2.length) hl.2)).isList
    refine any_size (wpAny_pyNext_zip_end hh D gz gI gO g1 g2 gl1 gl2 (.inr (by simp)) fun h' hk hsz => ?_)
    have hkW : ∀ b o, b ∉ [z, TO, i1, i2] → s.heap.get? b = some o → h'.get? b = some o := fun b o hb e => by
      simp only [List.mem_cons, List.not_mem_nil, or_false, not_or] at hb
      exact hk b o hb.1 hb.2.1 hb.2.2.1 hb.2.2.2 e
    refine ⟨S, ?_, rfl, rfl⟩
    refine J.step [z, TO, i1, i2] (fun a ha => ?_) hkW hsz (fun p hp => ?_) (fun p hp hu => .inl ⟨p, List.mem_append_right _ hp, rfl, hu⟩) (List.pairwise_append.mp J.apart).2.1 (fun p hp hu => ⟨p, List.mem_append_right _ hp, rfl⟩)
    · simp only [List.mem_cons, List.not_mem_nil, or_false] at ha
      rcases ha with rfl | rfl | rfl | rfl
      · exact ⟨_, mZ, rfl, rfl⟩
      · exact ⟨_, mO, rfl, rfl⟩
      · exact ⟨_, m1, rfl, rfl⟩
      · exact ⟨_, m2', rfl, rfl⟩
    · have := hS p hp
      exact J.keepAt hkW (List.mem_append_right _ hp) (by simp [this])⟩
  self := fun S hl => ⟨fun s J => by
    have gz : IsZip s.heap z TI TO .none := (J.own _ mZ).ob
    exact wpAny_pyIter_zip gz ⟨_, J, rfl, rfl⟩⟩
theorem t_zip {l1 l2 : Addr} {v1 v2 : List Value} {Ψ : Value → Led → Prop} (h1 : Has l1 (li v1) R) (h2 : Has l2 (li v2) R) (k : ∀ z TI TO i1 i2, Ψ (.ref z) (zipC z TI TO i1 i2 l1 l2 0 ++ R)) : Tr X A R (call (.type "zip") [.ref l1, .ref l2]) Ψ := ⟨fun s I => by
  refine call_zip_2 (I.at h1).isList (I.at h2).isList fun h' z1 z2 z3 z4 z5 z6 hk => ⟨_, ?_, k _ (s.heap.objs.size + 2) (s.heap.objs.size + 3) s.heap.objs.size (s.heap.objs.size + 1)⟩
  refine InvH.grow I hk (by rw [z6]; omega) (fun p hp => ?_) ?_
  · unfold zipC at hp
    simp only [List.mem_cons, List.not_mem_nil, or_false] at hp
    rcases hp with rfl | rfl | rfl | rfl | rfl
    · exact ⟨⟨_, z1, rfl⟩, Nat.le_add_right _ _⟩
    · exact ⟨⟨_, z2, rfl⟩, Nat.le_add_right _ _⟩
    · exact ⟨⟨_, z3, _, _, rfl⟩, Nat.le_add_right _ _⟩
    · exact ⟨z4, Nat.le_refl _⟩
    · exact ⟨z5, Nat.le_add_right _ _⟩
  · unfold zipC
    simp⟩
theorem t_iterZip {z TI TO i1 i2 l1 l2 : Addr} {Ψ : Value → Led → Prop} (k : Ψ (.ref z) (zipC z TI TO i1 i2 l1 l2 0 ++ R)) : Tr X A (zipC z TI TO i1 i2 l1 l2 0 ++ R) (pyIter (.ref z)) Ψ := ⟨fun s J => by
  have gz : IsZip s.heap z TI TO .none := (J.own _ mZ).ob
  exact wpAny_pyIter_zip gz ⟨_, J, k⟩⟩
end
end Mine
namespace Mine
open PySem PySem.W PySem.Calls PyProof.Rows
theorem range_getD (L : List Int) : (List.range L.length).map (fun j => L.getD j 0) = L := by
  apply List.ext_getElem
  · simp
  · intro j h1 h2
    simp only [List.getElem_map, List.getElem_range]
    rw [List.getD_eq_getElem?_getD, List.getElem?_eq_getElem h2]; rfl
theorem Got.list {n : Nat} {L : List Int} {ys : List Value} (hn : n = L.length) (h : Got n (fun j v => ∃ t, v = .int (L.getD j 0) t) ys) : IntsAre ys L := by
  subst hn
  have := Got.ints (f := fun j => L.getD j 0) h
  rwa [range_getD] at this
theorem getD_map {l : List Int} {j : Nat} {m : Int} {f : Int → Int} (h : l[j]? = some m) : (l.map f).getD j 0 = f m := by
  rw [List.getD_eq_getElem?_getD, List.getElem?_map, h]; rfl
theorem got_strs_at {n : Nat} {E : Nat → Value → Prop} {ys : List Value} (h : Got n E ys) {j : Nat} (hj : j < n) : ∃ v, ys[j]? = some v ∧ E j v := by
  have : j < ys.length := by rw [h.1]; exact hj
  exact ⟨ys[j], List.getElem?_eq_getElem this, h.2 j _ (List.getElem?_eq_getElem this)⟩
theorem fmod_pos (a b : Int) (hb : 0 < b) : a.fmod b = a % b := Int.fmod_eq_emod_of_nonneg _ (by omega)
theorem fdiv_pos (a b : Int) (hb : 0 < b) : a.fdiv b = a / b := Int.fdiv_eq_ediv_of_nonneg _ (by omega)
theorem pk3 (a b c : Int) (q : Nat) (h : q < 3) (t1 t2 t3 : Tok) : [Value.int a t1, .int b t2, .int c t3][((q : Nat) : Int).toNat]? = some (.int ([a, b, c].getD q 0) ([t1, t2, t3].getD q t1)) := by
  rw [Int.toNat_natCast]
  match q, h with
  | 0, _ => rfl
  | 1, _ => rfl
  | 2, _ => rfl
theorem pk4 (a b c d : Int) (q : Nat) (h : q < 4) (t1 t2 t3 t4 : Tok) : [Value.int a t1, .int b t2, .int c t3, .int d t4][((q : Nat) : Int).toNat]? = some (.int ([a, b, c, d].getD q 0) ([t1, t2, t3, t4].getD q t1)) := by
  rw [Int.toNat_natCast]
  match q, h with
  | 0, _ => rfl
  | 1, _ => rfl
  | 2, _ => rfl
  | 3, _ => rfl
theorem pk3s (a b c : Str) (q : Nat) (h : q < 3) (t1 t2 t3 : Tok) : [Value.str a t1, .str b t2, .str c t3][((q : Nat) : Int).toNat]? = some (.str ([a, b, c].getD q a) ([t1, t2, t3].getD q t1)) := by
  rw [Int.toNat_natCast]
  match q, h with
  | 0, _ => rfl
  | 1, _ => rfl
  | 2, _ => rfl
theorem getD_cast : ∀ (l : List Nat) (q : Nat), (l.map fun n : Nat => (n : Int)).getD q 0 = ((l.getD q 0 : Nat) : Int)
  | [], _ => rfl
  | a :: l, 0 => rfl
  | a :: l, q + 1 => by simpa using getD_cast l q
theorem int_eq {a b : Int} {t : Tok} (h : a = b) : ∃ t', Value.int a t = Value.int b t' := ⟨t, by rw [h]⟩
theorem str_eq {a b : Str} {t : Tok} (h : a = b) : ∃ t', Value.str a t = Value.str b t' := ⟨t, by rw [h]⟩
theorem flat_le {f : Nat → List Nat} {m : Nat} (h : ∀ j, (f j).length ≤ m) : ∀ n, ((List.range n).map f).flatten.length ≤ m * n
  | 0 => by simp
  | n + 1 => by
    rw [List.range_succ, List.map_append, List.flatten_append, List.length_append]
    have := flat_le h n
    have := h n
    simp only [List.map_cons, List.map_nil, List.flatten_cons, List.flatten_nil, List.append_nil]
    rw [Nat.mul_succ]; omega
section
variable {X : Amb} {A : Around} {R : Led} {env : Env}
section
variable {Ψ : Value → Led → Prop}
theorem t_upto {value : Expr} {lower upper : Option Expr} {p : Pos} {b a : Addr} {vs : List Value} {ns : List Int} {y : Int} {t : Tok} (hz : vs.length ≤ 10000) (hl : Has b (li vs) R) (h : Has a (ob { cls := .type "slice", data := .fields #[.none, .int y t, .none] }) R) (hi : IntsAre vs ns) (h0 : 0 ≤ y)
    (k : ∀ c ws, IntsAre ws (ns.take y.toNat) → Ψ (.ref c) (ow c (li ws) :: R)) : Tr X A R (subscriptTail value (.Slice lower upper none p) (.ref b) (.ref a)) Ψ :=
  t_cutL (by rw [sizeLine_eq]; omega) (fun s I => (I.at hl).isList) h .none (.int _ _) fun c => k c _ (slice_ints_uptoW hi h0)
theorem t_from {value : Expr} {lower upper : Option Expr} {p : Pos} {b a : Addr} {vs : List Value} {ns : List Int} {y : Int} {t : Tok} (hz : vs.length ≤ 10000) (hl : Has b (li vs) R) (h : Has a (ob { cls := .type "slice", data := .fields #[.int y t, .none, .none] }) R) (hi : IntsAre vs ns) (h0 : 0 ≤ y)
    (k : ∀ c ws, IntsAre ws (ns.drop y.toNat) → Ψ (.ref c) (ow c (li ws) :: R)) : Tr X A R (subscriptTail value (.Slice lower upper none p) (.ref b) (.ref a)) Ψ :=
  t_cutL (by rw [sizeLine_eq]; omega) (fun s I => (I.at hl).isList) h (.int _ _) .none fun c => k c _ (slice_ints_fromW hi h0)
end
end
end Mine
namespace Mine
open PySem PySem.W PySem.Calls PyProof.Rows
set_option maxHeartbeats 8000000 in
open_top hd for PySem.Challenge.rw_sh0033_01
local macro_rules | `(tactic| kbo_bools) => `(tactic| first
  | ((with_reducible refine' br_t ?_))
  | ((with_reducible refine' br_f ?_))
  | ((with_reducible refine' nr_none ?_))
  | ((with_reducible refine' nr_int ?_))
  | ((with_reducible refine' go_next ?_))
  | ((with_reducible refine' go_ret ?_))
  | ((with_reducible refine' go_brk ?_))
  | ((with_reducible refine' go_cont ?_))
  | ((with_reducible refine' lo_next ?_))
  | ((with_reducible refine' lo_cont ?_))
  | ((with_reducible refine' lo_brk ?_))
  | ((with_reducible refine' lo_ret ?_))
  | ((with_reducible refine' t_execs ?_))
  | ((with_reducible refine' t_execs0 ?_))
  | ((with_reducible refine' t_assign ?zk ?zh); (case zh => exact rfl))
  | ((with_reducible refine' t_swapAssign ‹Fn _ _ _ _› ?zh ?zx ?zy ?z1 ?z2 ?z3 ?z4 ?z5 ?z6 ?z7 ?z8 ?zk); (case zh => exact Room.h (by assumption)); (case zx => (repeat (first | with_reducible exact List.mem_cons_self | with_reducible apply List.mem_cons_of_mem))); (case zy => (repeat (first | with_reducible exact List.mem_cons_self | with_reducible apply List.mem_cons_of_mem))); (case z1 => rfl); (case z2 => decide +kernel); (case z3 => rfl); (case z4 => rfl); (case z5 => rfl); (case z6 => rfl); (case z7 => exact fun _ => rfl); (case z8 => exact fun _ => rfl))
  | ((with_reducible refine' f_assignTup2 ?zi ?zk ?zh ?zj); (case zi => exact Room.h (by assumption)); (case zh => exact rfl); (case zj => exact rfl))
  | ((with_reducible refine' t_for ?zk ?zh); (case zh => exact fun _ => rfl))
  | ((with_reducible refine' t_assignName ?_))
  | ((with_reducible refine' t_if ?_))
  | ((with_reducible refine' t_ret ?_))
  | ((with_reducible refine' t_while ?_))
  | ((with_reducible refine' t_aug ?_))
  | ((with_reducible refine' f_expr ‹Fn _ _ _ _› ?zk ?zh); (case zh => exact rfl))
  | ((with_reducible refine' t_ret0 ?_))
  | ((with_reducible refine' t_isCmp ?zk ?zh); (case zh => exact rfl))
  | ((with_reducible refine' t_isNot ?_))
  | ((with_reducible refine' t_isAnd ?_))
  | ((with_reducible refine' t_isAnd0 ?_))
  | ((with_reducible refine' t_isOr ?_))
  | ((with_reducible refine' t_isOr0 ?_))
  | ((with_reducible refine' t_isPlain ?zk ?zh); (case zh => exact rfl))
  | ((with_reducible refine' t_int ?_); intro _)
  | ((with_reducible refine' t_str ?_); intro _)
  | ((with_reducible refine' t_none ?_))
  | ((with_reducible refine' t_bool ?_))
  | ((with_reducible refine' f_name ‹Fn _ _ _ _› ?zh ?zv ?zk); (case zh => (repeat (first | with_reducible exact Has.head | with_reducible assumption | with_reducible apply Has.tail | with_reducible apply Has.append))); (case zv => (repeat (first | with_reducible exact Var.head | with_reducible apply Var.tail))))
  | ((with_reducible refine' f_load ‹Fn _ _ _ _› ?zh ?zv ?zk); (case zh => (repeat (first | with_reducible exact Has.head | with_reducible assumption | with_reducible apply Has.tail | with_reducible apply Has.append))); (case zv => (repeat (first | with_reducible exact Var.head | with_reducible apply Var.tail))))
  | ((with_reducible refine' f_nameC ‹Fn _ _ _ _› ?zx ?zh ?zk); (case zx => (repeat (first | with_reducible exact List.mem_cons_self | with_reducible apply List.mem_cons_of_mem))); (case zh => (repeat (first | with_reducible exact Has.head | with_reducible assumption | with_reducible apply Has.tail | with_reducible apply Has.append))))
  | ((with_reducible refine' f_glob ‹Fn _ _ _ _› ‹GlobOk _ _ _› ?zx ?zv ?zk); (case zx => (repeat (first | with_reducible exact List.mem_cons_self | with_reducible apply List.mem_cons_of_mem))); (case zv => with_reducible assumption))
  | ((with_reducible refine' f_built ‹Fn _ _ _ _› ‹GlobOk _ _ _› ?zx ?zm ?zv ?zk); (case zx => (repeat (first | with_reducible exact List.mem_cons_self | with_reducible apply List.mem_cons_of_mem))); (case zm => with_reducible assumption); (case zv => (first | with_reducible exact bt_len | with_reducible exact bt_range | with_reducible exact bt_min | with_reducible exact bt_divmod | with_reducible exact bt_list | with_reducible exact bt_reversed | with_reducible exact bt_sum | with_reducible exact bt_chr | with_reducible exact bt_zip)))
  | ((with_reducible refine' t_binop ?_))
  | ((with_reducible refine' t_cmp ?zk ?zh); (case zh => exact rfl))
  | ((with_reducible refine' t_callName ?_))
  | ((with_reducible refine' t_callMeth ?zk ?zh); (case zh => exact rfl))
  | ((with_reducible refine' t_subscr ?_))
  | ((with_reducible refine' t_slice ?_))
  | ((with_reducible refine' t_tuple ?_))
  | ((with_reducible refine' t_list ?_))
  | ((with_reducible refine' t_orNone ‹Fn _ _ _ _› ?zh ?zv ?zk); (case zh => (repeat (first | with_reducible exact Has.head | with_reducible assumption | with_reducible apply Has.tail | with_reducible apply Has.append))); (case zv => (repeat (first | with_reducible exact Var.head | with_reducible apply Var.tail))))
  | ((with_reducible refine' t_or2 ?_))
  | ((with_reducible refine' t_unary ?_))
  | ((with_reducible refine' t_ifExp ?_))
  | ((with_reducible refine' t_args0 ?_))
  | ((with_reducible refine' t_args ?zk ?zh); (case zh => exact rfl))
  | ((with_reducible refine' t_partNone ?_))
  | ((with_reducible refine' t_partSome ?_))
  | ((with_reducible refine' f_store ‹Fn _ _ _ _› ?zv ?zh ?zk); (case zh => (repeat (first | with_reducible exact Upd.head | with_reducible apply Upd.tail | with_reducible apply Upd.append))); (case zv => (repeat (first | with_reducible exact VarSet.head | with_reducible apply VarSet.tail))))
  | ((with_reducible refine' f_storeC ‹Fn _ _ _ _› ?zx ?zc ?zh ?zk); (case zx => (repeat (first | with_reducible exact List.mem_cons_self | with_reducible apply List.mem_cons_of_mem))); (case zc => with_reducible assumption); (case zh => (repeat (first | with_reducible exact Upd.head | with_reducible apply Upd.tail | with_reducible apply Upd.append))))
  | ((with_reducible refine' t_cutP ?zs ?zh ?zp ?zq ?zk); (case zs => with_reducible assumption); (case zh => (repeat (first | with_reducible exact Has.head | with_reducible assumption | with_reducible apply Has.tail | with_reducible apply Has.append))); (case zp => (first | with_reducible exact IsPart.none | with_reducible exact IsPart.int _ _ | with_reducible assumption)); (case zq => (first | with_reducible exact IsPart.none | with_reducible exact IsPart.int _ _ | with_reducible assumption)))
  | ((with_reducible refine' t_tStr ?zs ?zk); (case zs => with_reducible assumption))
  | ((with_reducible refine' t_lenS ?zs ?zk); (case zs => with_reducible assumption))
  | ((with_reducible refine' t_add ?_); intro _)
  | ((with_reducible refine' t_iadd ?_); intro _)
  | ((with_reducible refine' t_sub ?_); intro _)
  | ((with_reducible refine' t_isub ?_); intro _)
  | ((with_reducible refine' t_geI ?_))
  | ((with_reducible refine' t_ltI ?_))
  | ((with_reducible refine' t_gtI ?_))
  | ((with_reducible refine' t_leI ?_))
  | ((with_reducible refine' t_eqI ?_))
  | ((with_reducible refine' t_neI ?_))
  | ((with_reducible refine' t_eqS ?_))
  | ((with_reducible refine' t_neS ?_))
  | ((with_reducible refine' t_tBool ?_))
  | ((with_reducible refine' t_tInt ?_))
  | ((with_reducible refine' t_mFind ?_))
  | ((with_reducible refine' t_mRfind ?_))
  | ((with_reducible refine' t_callB0 ?zh ?zk); (case zh => exact rfl))
  | ((with_reducible refine' t_callB1 ?zh ?zk); (case zh => exact rfl))
  | ((with_reducible refine' t_callT0 ?zh ?zk); (case zh => exact rfl))
  | ((with_reducible refine' t_callK0 ‹KOk _ _› ?zo ?zh ?zk); (case zo => k_is); (case zh => exact rfl))
  | ((with_reducible refine' t_mBits ?_))
  | ((with_reducible refine' t_bits ?_); intro _)
  | ((with_reducible refine' t_neg ?_); intro _)
  | ((with_reducible refine' t_mAppend ?zh ?zk); (case zh => (repeat (first | with_reducible exact Has.head | with_reducible assumption | with_reducible apply Has.tail | with_reducible apply Has.append))))
  | ((with_reducible refine' t_mReverse ?zh ?zk); (case zh => (repeat (first | with_reducible exact Has.head | with_reducible assumption | with_reducible apply Has.tail | with_reducible apply Has.append))))
  | ((with_reducible refine' t_lenL ?zh ?zs ?zk); (case zh => (repeat (first | with_reducible exact Has.head | with_reducible assumption | with_reducible apply Has.tail | with_reducible apply Has.append))); (case zs => with_reducible assumption))
  | ((with_reducible refine' t_tList ?zh ?zs ?zk); (case zh => (repeat (first | with_reducible exact Has.head | with_reducible assumption | with_reducible apply Has.tail | with_reducible apply Has.append))); (case zs => with_reducible assumption))
  | ((with_reducible refine' t_assignSub ?zk ?zh); (case zh => exact rfl))
  | ((with_reducible refine' t_point ?_))
  | ((with_reducible refine' And.intro ?zz ?zk); (case zz => exact sz_lit rfl))
  | (with_reducible intro _))
local macro_rules | `(tactic| kp_flats) => `(tactic| repeat kbo_bools)
local macro_rules | `(tactic| kas_types) => `(tactic| (repeat (first | with_reducible exact List.Sublist.refl _ | with_reducible refine List.Sublist.cons_cons _ ?_ | with_reducible refine List.Sublist.cons _ ?_)))
theorem filled (P : Params) : PySem.Challenge.rw_sh0033_01 = PySem.Challenge.rw_sh0033_01 ∧ hd.heap_39 P = hd.heap_39 P := by k_fill; exact ⟨rfl, rfl⟩
section
open PySem PySem.W PySem.Calls PyProof.Rows PySem.Builtin
def rowS (D k l : Nat) : Str := ⟨(List.replicate D 46 ++ List.replicate (l + 1) (97 + k)).toArray⟩
def nameS (k l : Nat) : Str := ⟨(List.replicate (l + 1) (97 + k)).toArray⟩
def dotS (D : Nat) : Str := ⟨(List.replicate D 46).toArray⟩
theorem row_len {D k l : Nat} : (rowS D k l).length = D + (l + 1) := by simp [rowS, Str.length]
theorem name_len {k l : Nat} : (nameS k l).length = l + 1 := by simp [nameS, Str.length]
theorem dot_len {D : Nat} : (dotS D).length = D := by simp [dotS, Str.length]
def cutAt (m : Nat) : Option Int := if m = 0 then none else some (-(m : Int))

theorem lev_facts0 : ((List.range 8).all fun D => (List.range 6).all fun k => (List.range 2).all fun l => D == 0 ||
    (((rowS D k l).cps.toList == (nameS k l).cps.toList) == false && Txt.slice (rowS D k l) (some 0) none == rowS D k l && Txt.slice (nameS k l) (some 0) none == nameS k l
    && (seqIndex? 0 (rowS D k l).length).bind ((rowS D k l).cps[·]?) == some 46 && (seqIndex? 0 (nameS k l).length).bind ((nameS k l).cps[·]?) == some (97 + k)
    && Txt.slice (rowS D k l) none (cutAt (l + 1)) == dotS D && Txt.slice (nameS k l) none (cutAt (l + 1)) == (⟨#[]⟩ : Str))) = true := by decide +kernel
theorem lev_facts1 : ((List.range 8).all fun D => (List.range 6).all fun k => (List.range 2).all fun l => (List.range 2).all fun m => D == 0 || l < m ||
    (decide (0 < (Txt.slice (rowS D k l) none (cutAt m)).length) && decide ((Txt.slice (rowS D k l) none (cutAt m)).length < 100) && decide (0 < (Txt.slice (nameS k l) none (cutAt m)).length) && decide ((Txt.slice (nameS k l) none (cutAt m)).length < 100)
    && (seqIndex? (-(m : Int) - 1) (rowS D k l).length).bind ((rowS D k l).cps[·]?) == some (97 + k) && (seqIndex? (-(m : Int) - 1) (nameS k l).length).bind ((nameS k l).cps[·]?) == some (97 + k))) = true := by decide +kernel
structure LevF (D k l : Nat) : Prop where
  ne : ((rowS D k l).cps.toList == (nameS k l).cps.toList) = false
  r0 : Txt.slice (rowS D k l) (some 0) none = rowS D k l
  n0 : Txt.slice (nameS k l) (some 0) none = nameS k l
  rc : (seqIndex? 0 (rowS D k l).length).bind ((rowS D k l).cps[·]?) = some 46
  nc : (seqIndex? 0 (nameS k l).length).bind ((nameS k l).cps[·]?) = some (97 + k)
  re : Txt.slice (rowS D k l) none (cutAt (l + 1)) = dotS D
  nn : Txt.slice (nameS k l) none (cutAt (l + 1)) = (⟨#[]⟩ : Str)
structure LevM (D k l m : Nat) : Prop where
  r : 0 < (Txt.slice (rowS D k l) none (cutAt m)).length
  r' : (Txt.slice (rowS D k l) none (cutAt m)).length < 100
  n : 0 < (Txt.slice (nameS k l) none (cutAt m)).length
  n' : (Txt.slice (nameS k l) none (cutAt m)).length < 100
  rc : (seqIndex? (-(m : Int) - 1) (rowS D k l).length).bind ((rowS D k l).cps[·]?) = some (97 + k)
  nc : (seqIndex? (-(m : Int) - 1) (nameS k l).length).bind ((nameS k l).cps[·]?) = some (97 + k)
theorem levF {D k l : Nat} (hD : D < 8) (hk : k < 6) (hl : l < 2) (h0 : 0 < D) : LevF D k l := by
  have h := lev_facts0
  simp only [List.all_eq_true, List.mem_range] at h
  have h := h D hD k hk l hl
  have e : (D == 0) = false := by simpa using Nat.ne_of_gt h0
  rw [e, Bool.false_or] at h
  simp only [Bool.and_eq_true, beq_iff_eq] at h
  obtain ⟨⟨⟨⟨⟨⟨a, b⟩, c⟩, d⟩, e⟩, f⟩, g⟩ := h
  exact ⟨a, b, c, d, e, f, g⟩
theorem levM {D k l m : Nat} (hD : D < 8) (hk : k < 6) (hl : l < 2) (h0 : 0 < D) (hm : m ≤ l) : LevM D k l m := by
  have h := lev_facts1
  simp only [List.all_eq_true, List.mem_range] at h
  have h := h D hD k hk l hl m (by omega)
  have e : (D == 0) = false := by simpa using Nat.ne_of_gt h0
  have e' : decide (l < m) = false := by simpa using hm
  rw [e, e', Bool.false_or, Bool.false_or] at h
  simp only [Bool.and_eq_true, beq_iff_eq, decide_eq_true_eq] at h
  obtain ⟨⟨⟨⟨⟨a, b⟩, c⟩, d⟩, e⟩, f⟩ := h
  exact ⟨a, b, c, d, e, f⟩

set_option maxHeartbeats 0 in
theorem lev1 {X : Amb} {A : Around} {R : Led} {mg mb : Str → Option Value} (C : KOk X (hd.heap_39 X.w.params)) (G : GlobOk X mg mb) {D k l : Nat} (hD : D < 8) (hD0 : 0 < D) (hk : k < 6) (hl : l < 2) {t u v : Tok} {i : Int} {n : Nat} (hr : Room A (n + 1)) {Ψ : Value → Led → Prop} (kk : ∀ t', Ψ (.int (2 * D) t') R) :
    Tr X A R (call (.ref 111) [.str (rowS D k l) t, .str (nameS k l) u, .int i v] []) Ψ := by
  have gl : mg (Str.ofString "len") = none := mg_none_of C.k G.g (by k_is)
  have gm := mg_of (n := Str.ofString "_MOVE_COST") C.k G.g (by k_is)
  have f := levF hD hk hl hD0
  have q1 : (((rowS D k l).length : Int) != 0) = true := by rw [row_len]; simp; omega
  have q2 : (((nameS k l).length : Int) != 0) = true := by rw [name_len]; simp; omega
  have q4 : (((dotS D).length : Int) != 0) = true := by rw [dot_len]; simp; omega
  have q5 : (((⟨#[]⟩ : Str).length : Int) != 0) = false := by decide +kernel
  have q6 : ((⟨#[97 + k]⟩ : Str).cps.toList == (⟨#[97 + k]⟩ : Str).cps.toList) = true := by simp
  have q3 : ((⟨#[46]⟩ : Str).cps.toList == (⟨#[97 + k]⟩ : Str).cps.toList) = false := by simp; omega
  have z1 : (rowS D k l).length ≤ sizeLine := by rw [row_len, sizeLine_eq]; omega
  have z2 : (nameS k l).length ≤ sizeLine := by rw [name_len, sizeLine_eq]; omega
  have z3 : (dotS D).length ≤ sizeLine := by rw [dot_len, sizeLine_eq]; omega
  have z4 : (⟨#[]⟩ : Str).length ≤ sizeLine := by decide +kernel
  refine t_call ?_
  refine' tc_fnF (N := [Str.ofString "a", Str.ofString "b", Str.ofString "max_cost", Str.ofString "pre", Str.ofString "post", Str.ofString "row", Str.ofString "result", Str.ofString "bindex", Str.ofString "bchar", Str.ofString "distance", Str.ofString "minimum", Str.ofString "index", Str.ofString "substitute", Str.ofString "insert_delete"]) [Str.ofString "_MOVE_COST", Str.ofString "len"] [some (.str (rowS D k l) t), some (.str (nameS k l) u), some (.int i v), none, none, none, none, none, none, none, none, none, none, none] (binds := [(Str.ofString "a", .str (rowS D k l) t), (Str.ofString "b", .str (nameS k l) u), (Str.ofString "max_cost", .int i v)]) C G hr ?ho ?hcd ?hbody ?hbind ?hcell ?hg ?hN ?hGs ?hnd ?hb ?hvs ?_ ?c1 ?c2 ?c3
  case ho => k_is
  case hcd => k_is
  case hbody => exact rfl
  case hbind => exact rfl
  case c1 => exact rfl
  case c2 => exact rfl
  case c3 => exact rfl
  case hg => exact ⟨rfl, rfl, rfl⟩
  case hcell => decide
  case hN => rfl
  case hGs => decide +kernel
  case hnd => decide +kernel
  case hb => rfl
  case hvs => rfl
  intro env B r F
  kp_flats
  refine br_n f.ne ?_
  kp_flats
  refine tc_turn ?_
  kp_flats
  rw [f.r0]
  kp_flats
  with_reducible refine br_y q1 ?_
  kp_flats
  rw [f.n0]
  kp_flats
  with_reducible refine br_y q2 ?_
  kp_flats
  refine t_subS (by decide) f.rc ?_ rfl
  kp_flats
  refine t_subS (by decide) f.nc ?_ rfl
  kp_flats
  with_reducible refine br_n q3 ?_
  kp_flats
  rw [f.r0]
  kp_flats
  rw [f.n0]
  kp_flats
  rename_i tp _ _ _ _ _ _ _ ta _ tb tq
  refine tc_whileS (fun n (x : Int × Tok) => (n : Int) - x.1 = l + 1 ∧ x.1 ≤ 0) (fun x => ow env.locals (fr ([Str.ofString "a", Str.ofString "b", Str.ofString "max_cost", Str.ofString "pre", Str.ofString "post", Str.ofString "row", Str.ofString "result", Str.ofString "bindex", Str.ofString "bchar", Str.ofString "distance", Str.ofString "minimum", Str.ofString "index", Str.ofString "substitute", Str.ofString "insert_delete"]) [some (.str (rowS D k l) ta), some (.str (nameS k l) tb), some (.int i v), some (.int 0 tp), some (.int x.1 x.2), none, none, none, none, none, none, none, none, none]) :: R) ?_ (l + 1) (0, tq) ⟨by simp, by simp⟩ (by kas_types)
  rintro n ⟨p, tk⟩ hnm
  have hnm : (n : Int) - p = l + 1 ∧ p ≤ 0 := hnm
  obtain ⟨hnm, hp0⟩ := hnm
  obtain ⟨m, rfl⟩ : ∃ m : Nat, p = -(m : Int) := ⟨(-p).toNat, by omega⟩
  dsimp only
  have hcut : (if (-(m : Int)) = 0 then none else some (-(m : Int))) = cutAt m := by unfold cutAt; by_cases h : m = 0 <;> simp [h]
  rcases Nat.eq_zero_or_pos n with h0 | h0
  · have hm : m = l + 1 := by omega
    subst hm
    kp_flats
    rw [hcut, f.re]
    kp_flats
    with_reducible refine br_y q4 ?_
    kp_flats
    rw [hcut, f.nn]
    kp_flats
    with_reducible refine br_n q5 ?_
    kp_flats
    rw [hcut, f.re, f.nn]
    kp_flats
    (with_reducible refine' br_n ?zz ?_); (case zz => rw [q4]; rfl)
    kp_flats
    (with_reducible refine' br_y ?zz ?_); (case zz => rw [q5]; rfl)
    kp_flats
    refine t_mul (.of_left (by decide)) fun _ => ?_
    kp_flats
    rw [dot_len]
    exact ⟨R, by kas_types, _, rfl, kk _⟩
  · have g := levM hD hk hl hD0 (m := m) (by omega)
    have g1 : (((Txt.slice (rowS D k l) none (cutAt m)).length : Int) != 0) = true := by have := g.r; simp; omega
    have g2 : (((Txt.slice (nameS k l) none (cutAt m)).length : Int) != 0) = true := by have := g.n; simp; omega
    have z5 : (Txt.slice (rowS D k l) none (cutAt m)).length ≤ sizeLine := by have := g.r'; rw [sizeLine_eq]; omega
    have z6 : (Txt.slice (nameS k l) none (cutAt m)).length ≤ sizeLine := by have := g.n'; rw [sizeLine_eq]; omega
    have hlt : (decide (-(m : Int) - 1 < -(2 ^ 63 : Int)) || decide (-(m : Int) - 1 ≥ 2 ^ 63)) = false := by rw [Bool.or_eq_false_iff]; exact ⟨decide_eq_false (by omega), decide_eq_false (by omega)⟩
    kp_flats
    rw [hcut]
    kp_flats
    with_reducible refine br_y g1 ?_
    kp_flats
    rw [hcut]
    kp_flats
    with_reducible refine br_y g2 ?_
    kp_flats
    refine t_subS hlt g.rc ?_ rfl
    kp_flats
    refine t_subS hlt g.nc ?_ rfl
    kp_flats
    with_reducible refine br_y q6 ?_
    kp_flats
    exact ⟨n - 1, (-(m : Int) - 1, _), by omega, ⟨by dsimp only; omega, by dsimp only; omega⟩, by kas_types⟩
end
section
open PySem PySem.W PySem.Calls PyProof.Rows
theorem strip_facts0 : ((List.range 8).all fun D => (List.range 6).all fun k => (List.range 2).all fun l => D == 0 || (Txt.find (rowS D k l) "\n" == -1 && find4 (rowS D k l) ":" 0 (D + (l + 1) : Nat) == -1 && rfind4 (rowS D k l) "." 0 (D + (l + 1) : Nat) == ((D : Int) - 1) && (Txt.slice (rowS D k l) (some (D : Int)) (some ((D + (l + 1) : Nat) : Int)) == nameS k l))) = true := by decide +kernel
theorem strip_facts (D : Nat) (hD : D < 8) (k : Nat) (hk : k < 6) (l : Nat) (hl : l < 2) (h0 : 0 < D) : Txt.find (rowS D k l) "\n" = -1 ∧ find4 (rowS D k l) ":" 0 (D + (l + 1) : Nat) = -1 ∧ rfind4 (rowS D k l) "." 0 (D + (l + 1) : Nat) = ((D : Int) - 1) ∧ Txt.slice (rowS D k l) (some (D : Int)) (some ((D + (l + 1) : Nat) : Int)) = nameS k l := by
  have h := strip_facts0
  simp only [List.all_eq_true, List.mem_range] at h
  have h := h D hD k hk l hl
  have e : (D == 0) = false := by simpa using Nat.ne_of_gt h0
  rw [e, Bool.false_or] at h
  simp only [Bool.and_eq_true, beq_iff_eq] at h
  exact ⟨h.1.1.1, h.1.1.2, h.1.2, h.2⟩
theorem strip1 {X : Amb} {A : Around} {R : Led} {mg mb : Str → Option Value} (C : KOk X (hd.heap_39 X.w.params)) (G : GlobOk X mg mb) {D k l : Nat} (hD : D < 8) (hD0 : 0 < D) (hk : k < 6) (hl : l < 2) {t : Tok} {n : Nat} (hr : Room A (n + 1)) {Ψ : Value → Led → Prop} (kk : ∀ t', Ψ (.str (nameS k l) t') R) :
    Tr X A R (call (.ref 80) [.str (rowS D k l) t] []) Ψ := by
  refine t_call ?_
  have gl : mg (Str.ofString "len") = none := mg_none_of C.k G.g (by k_is)
  obtain ⟨f1, f2, f3, f4⟩ := strip_facts D hD k hk l hl hD0
  refine' tc_fnF (N := [Str.ofString "msg", Str.ofString "start", Str.ofString "end", Str.ofString "i"]) [Str.ofString "len"] [some (.str (rowS D k l) t), none, none, none] (binds := [(Str.ofString "msg", .str (rowS D k l) t)]) C G hr ?ho ?hcd ?hbody ?hbind ?hcell ?hg ?hN ?hGs ?hnd ?hb ?hvs ?_ ?c1 ?c2 ?c3
  case ho => k_is
  case hcd => k_is
  case hbody => exact rfl
  case hbind => exact rfl
  case c1 => exact rfl
  case c2 => exact rfl
  case c3 => exact rfl
  case hg => exact ⟨rfl, rfl, rfl⟩
  case hcell => decide
  case hN => rfl
  case hGs => decide +kernel
  case hnd => decide +kernel
  case hb => rfl
  case hvs => rfl
  intro env B r F
  kp_flats
  refine t_lenS (by rw [row_len, sizeLine_eq]; omega) fun _ => ?_
  rw [row_len]
  kp_flats
  refine t_find fun _ => ?_
  rw [f1]
  kp_flats
  refine br_n (by decide) ?_
  kp_flats
  refine t_find4 fun _ => ?_
  rw [f2]
  kp_flats
  refine br_n (by decide) ?_
  kp_flats
  refine t_rfind4 fun _ => ?_
  rw [f3]
  kp_flats
  refine br_y (decide_eq_true (by omega)) ?_
  kp_flats
  refine t_cutS (l := some (_, _)) (u := some (_, _)) (by rw [row_len, sizeLine_eq]; omega) .head fun _ => ?_
  show Go _ _ _ _ _ (.ret (.str (Txt.slice (rowS D k l) (some ((D : Int) - 1 + 1)) (some ((D + (l + 1) : Nat) : Int))) _)) _
  rw [Int.sub_add_cancel, f4]
  kp_flats
  exact ⟨R, by kas_types, _, rfl, kk _⟩
end
section
open PySem PySem.W PySem.Calls PyProof.Rows
set_option maxHeartbeats 0 in
theorem div1 {X : Amb} {A : Around} {R : Led} {mg mb : Str → Option Value} (C : KOk X (hd.heap_39 X.w.params)) (G : GlobOk X mg mb) {a b m : Int} {t u v : Tok} {n : Nat} (hr : Room A (n + 1)) (hb : b ≠ 0) (hs : b.natAbs.log2 < 9000) (ha : (Builtin.Int.intBits a : Int) - m ≤ 4000) {Ψ : Value → Led → Prop} (kk : ∀ r t u, Ψ (.ref r) (ow r (tu [.int (a.fdiv b) t, .int (a.fmod b) u]) :: R)) :
    Tr X A R (call (.ref 38) [.int a t, .int b u, .int m v] []) Ψ := by
  have g1 : mg (Str.ofString "divmod") = none := mg_none_of C.k G.g (by k_is)
  have g2 := mg_of (n := Str.ofString "_DIV_LIMIT") C.k G.g (by k_is)
  refine t_call ?_
  refine' tc_fnF (N := [Str.ofString "a", Str.ofString "b", Str.ofString "n", Str.ofString "pad", Str.ofString "half_n", Str.ofString "mask", Str.ofString "b1", Str.ofString "b2", Str.ofString "q1", Str.ofString "r", Str.ofString "q2"]) [Str.ofString "_DIV_LIMIT", Str.ofString "divmod"] [some (.int a t), some (.int b u), some (.int m v), none, none, none, none, none, none, none, none] (binds := [(Str.ofString "a", .int a t), (Str.ofString "b", .int b u), (Str.ofString "n", .int m v)]) C G hr ?ho ?hcd ?hbody ?hbind ?hcell ?hg ?hN ?hGs ?hnd ?hb ?hvs ?_ ?c1 ?c2 ?c3
  case ho => k_is
  case hcd => k_is
  case hbody => exact rfl
  case hbind => exact rfl
  case c1 => exact rfl
  case c2 => exact rfl
  case c3 => exact rfl
  case hg => exact ⟨rfl, rfl, rfl⟩
  case hcell => decide
  case hN => rfl
  case hGs => decide +kernel
  case hnd => decide +kernel
  case hb => rfl
  case hvs => rfl
  intro env B r F
  kp_flats
  refine br_y (decide_eq_true ha) ?_
  kp_flats
  refine t_divmod hb hs fun r' t' u' => ?_
  kp_flats
  exact ⟨ow r' (tu [.int (a.fdiv b) t', .int (a.fmod b) u']) :: R, by kas_types, _, rfl, kk _ _ _⟩
end
section
open PySem PySem.W PySem.Calls PyProof.Rows
def tabI : Tab := ⟨51, 47, ⟨33, 4, 42, 28⟩, "_int2digits.<locals>.inner"⟩

set_option maxHeartbeats 0 in
theorem int2 {X : Amb} {A : Around} {R : Led} {mg mb : Str → Option Value} (C : KOk X (hd.heap_39 X.w.params)) (G : GlobOk X mg mb) (hT : tabI ∈ X.tabs) {a n : Nat} {t u : Tok} (hn : 0 < n) (hn' : n < 100) (hz : a < 2 ^ 400) (hr : Room A 450) {Ψ : Value → Led → Prop} (kk : ∀ r ds, IntsAre ds (dg n a ((Builtin.Int.intBits (a : Int) + n - 1) / n)) → Ψ (.ref r) (ow r (li ds) :: R)) :
    Tr X A R (call (.ref 52) [.int a t, .int n u] []) Ψ := by
  have g1 : mg (Str.ofString "len") = none := mg_none_of C.k G.g (by k_is)
  refine t_call ?_
  refine' tc_fnC (N := [Str.ofString "a"]) [Str.ofString "len"] [Str.ofString "inner", Str.ofString "a_digits", Str.ofString "n"] [some (.int a t)] [none, none, some (.int n u)] (binds := [(Str.ofString "a", .int a t), (Str.ofString "n", .int n u)]) C G hr ?ho ?hcd ?hbody ?hbind ?hg ?hCN [Str.ofString "a", Str.ofString "n"] ?hBN ?hk1 ?hGs ?hnd ?hcs ?hL ?hC ?_ ?c1 ?c2 ?c3
  case ho => k_is
  case hcd => k_is
  case hbody => exact rfl
  case hbind => exact rfl
  case c1 => exact rfl
  case c2 => exact rfl
  case c3 => exact rfl
  case hg => exact ⟨rfl, rfl, rfl⟩
  case hCN => exact fun L => rfl
  case hBN => exact rfl
  case hk1 => decide +kernel
  case hGs => decide +kernel
  case hnd => decide +kernel
  case hcs => decide +kernel
  case hL => exact fun x => rfl
  case hC => exact rfl
  intro env B as hm r F hk hcode hqual
  obtain ⟨cI, cA, cN, rfl⟩ := len3 hm
  have F : Fn env ([Str.ofString "a"]) ([Str.ofString "len"]) [(Str.ofString "inner", cI), (Str.ofString "a_digits", cA), (Str.ofString "n", cN)] := F
  refine t_led (ow env.locals (fr ([Str.ofString "a"]) [some (.int a t)]) :: ow cI (cl none) :: ow cA (cl none) :: ow cN (cl (some (.int n u))) :: R) ?_ rfl
  have kI : env.kindOf (Str.ofString "inner") = some .cell := hk _ (by (repeat (first | with_reducible exact List.mem_cons_self | with_reducible apply List.mem_cons_of_mem)))
  have kA : env.kindOf (Str.ofString "a_digits") = some .cell := hk _ (by (repeat (first | with_reducible exact List.mem_cons_self | with_reducible apply List.mem_cons_of_mem)))
  have hq : tabI.q = qualnameIn env (Str.ofString "inner") (Str.ofString "inner") := by
    unfold qualnameIn
    rw [kI, hqual]
    rfl
  generalize hM : (Builtin.Int.intBits (a : Int) + n - 1) / n = M at kk
  have hMb : M ≤ 400 := by
    rw [← hM]
    have := bits_le hz
    refine Nat.le_trans (Nat.div_le_div_right (Nat.sub_le_sub_right (Nat.add_le_add_right this n) 1)) ?_
    rw [Nat.div_le_iff_le_mul hn]
    have : 400 * 1 ≤ 400 * n := Nat.mul_le_mul_left _ hn
    omega
  have hMa : a < 2 ^ (n * M) := by
    refine Nat.lt_of_lt_of_le (bits_nat a) (Nat.pow_le_pow_right (by decide) ?_)
    rw [← hM]
    have := Nat.div_add_mod (Builtin.Int.intBits (a : Int) + n - 1) n
    have h2 := Nat.mod_lt (Builtin.Int.intBits (a : Int) + n - 1) hn
    omega
  have em : ((Builtin.Int.intBits (a : Int) : Int) + n - 1).fdiv n = (M : Int) := by
    have e : (Builtin.Int.intBits (a : Int) : Int) + n - 1 = ((Builtin.Int.intBits (a : Int) + n - 1 : Nat) : Int) := by omega
    rw [e, ← hM, Int.fdiv_eq_ediv_of_nonneg _ (by omega)]
    push_cast
    rfl
  have hM0 : M = 0 ↔ a = 0 := by
    constructor
    · intro h
      rw [h, Nat.mul_zero] at hMa
      omega
    · intro h
      subst h
      rw [← hM]
      show (0 + n - 1) / n = 0
      exact Nat.div_eq_of_lt (by omega)
  kp_flats
  refine t_fdiv (by omega) (by rw [Int.natAbs_natCast]; exact Nat.lt_of_le_of_lt (Nat.log2_le_self n) (by omega)) fun tm => ?_
  rw [em]
  refine t_mulL .head (by omega) (by omega) (by simp; omega) fun D => ?_
  kp_flats
  rename_i t0 _ _ _ _ _
  obtain ⟨zs, hzs, hzl⟩ : ∃ zs, (List.replicate ((M : Int)).toNat [Value.int 0 t0]).flatten = zs ∧ zs.length = M := ⟨_, rfl, by simp⟩
  rw [hzs]
  refine t_defF (cls := [(Str.ofString "n", cN), (Str.ofString "inner", cI), (Str.ofString "a_digits", cA)]) tabI hT G F hcode rfl hq rfl rfl rfl rfl fun f c' Fo hFo => ?_
  have key : ∀ m, 0 < m → m ≤ 400 → ∀ (P Q : Led) (vs p md r0 : List Value) (x : Nat) (A' : Around) (t1 t2 t3 : Tok) (L Rr : Int) (Ψ' : Value → Led → Prop), (∀ v, let S := P ++ ow D (li v) :: Q; Has f (ob Fo) S ∧ Has c' (rc tabI.q) S ∧ Has cA (cl (some (.ref D))) S ∧ Has cI (cl (some (.ref f))) S ∧ Has cN (cl (some (.int n u))) S) →
      md.length = m → x < 2 ^ (n * m) → p.length + m ≤ 400 → vs = p ++ md ++ r0 → L = p.length → Rr = p.length + m → Room A' m → (∀ ds, IntsAre ds (dg n x m) → Ψ' .none (P ++ ow D (li (p ++ ds ++ r0)) :: Q)) →
      Tr X A' (P ++ ow D (li vs) :: Q) (call (.ref f) [.int x t1, .int L t2, .int Rr t3]) Ψ' := by
    obtain ⟨doc, pm, ctv, rfl⟩ := hFo
    intro m
    induction m using Nat.strongRecOn with
    | ind m ih =>
    intro hm0 hm4 P Q vs p md r0 x A' t1 t2 t3 L Rr Ψ' hh hmd hx hp hvs hL hRr hrm kk
    subst hvs
    obtain ⟨h1, h2, h3, h4, h5⟩ := hh (p ++ md ++ r0)
    have hh' : ∀ e : Ent, ∀ v, let S := (e :: P) ++ ow D (li v) :: Q; Has f (ob (fnMade _ tabI.q _ _ _ _ doc pm c' ctv)) S ∧ Has c' (rc tabI.q) S ∧ Has cA (cl (some (.ref D))) S ∧ Has cI (cl (some (.ref f))) S ∧ Has cN (cl (some (.int n u))) S := fun e v => ⟨.tail (hh v).1, .tail (hh v).2.1, .tail (hh v).2.2.1, .tail (hh v).2.2.2.1, .tail (hh v).2.2.2.2⟩
    obtain ⟨m', rfl⟩ : ∃ m', m = m' + 1 := ⟨m - 1, by omega⟩
    refine t_call ?_
    refine' tc_fnI (N := [Str.ofString "x", Str.ofString "L", Str.ofString "R", Str.ofString "mid", Str.ofString "shift", Str.ofString "upper", Str.ofString "lower"]) [] [some (.int x t1), some (.int L t2), some (.int Rr t3), none, none, none, none] (binds := [(Str.ofString "x", .int x t1), (Str.ofString "L", .int L t2), (Str.ofString "R", .int Rr t3)]) G hrm ?ho ?hcd ?hbind ?hcell ?hN ?hGs ?hnd [Str.ofString "n", Str.ofString "inner", Str.ofString "a_digits"] ?hFN ?hCs ?hb ?hvs ?_ ?c1 ?c2 ?c3
    case ho => (repeat (first | with_reducible exact Has.head | with_reducible assumption | with_reducible apply Has.tail | with_reducible apply Has.append))
    case hcd => (repeat (first | with_reducible exact Has.head | with_reducible assumption | with_reducible apply Has.tail | with_reducible apply Has.append))
    case c1 => exact rfl
    case c2 => exact rfl
    case c3 => exact rfl
    case hbind => exact rfl
    case hcell => decide
    case hN => rfl
    case hGs => exact fun _ h => nomatch h
    case hnd => decide +kernel
    case hFN => exact rfl
    case hCs => decide +kernel
    case hb => rfl
    case hvs => rfl
    intro env B r F
    kp_flats
    by_cases hm1 : m' = 0
    · subst hm1
      with_reducible refine br_y (beq_iff_eq.mpr (by omega)) ?_
      kp_flats
      refine' t_setItem (vs := p ++ md ++ r0) (by omega) (by omega) (by simp; omega) ?su ?sk
      case su => (repeat (first | with_reducible exact Upd.head | with_reducible apply Upd.tail | with_reducible apply Upd.append))
      kp_flats
      have es : (p ++ md ++ r0).set L.toNat (Value.int x t1) = p ++ [Value.int x t1] ++ r0 := by
        obtain ⟨y, rfl⟩ := List.length_eq_one_iff.mp hmd
        have : L.toNat = p.length := by omega
        rw [this]; simp
      rw [es]
      exact ⟨P ++ ow D (li (p ++ [Value.int x t1] ++ r0)) :: Q, by kas_types, _, rfl, kk _ (by rw [dg_one n x hx]; exact .cons _ _ .nil)⟩
    · with_reducible refine br_n (beq_eq_false_iff_ne.mpr (by omega)) ?_
      kp_flats
      have e1 : (L + Rr).fdiv (2 ^ ((1 : Int)).toNat) = ((p.length + (m' + 1) / 2 : Nat) : Int) := by
        have : L + Rr = ((2 * p.length + (m' + 1) : Nat) : Int) := by omega
        rw [this]
        have := shr_nat (2 * p.length + (m' + 1)) 1
        rw [show ((1 : Nat) : Int) = 1 from rfl] at this
        rw [this]
        congr 1
        omega
      refine t_shr (by decide) fun _ => ?_
      rw [e1]
      generalize hk1 : (m' + 1) / 2 = k1 at *
      kp_flats
      have e2 : (((p.length + k1 : Nat) : Int) - L) * n = ((n * k1 : Nat) : Int) := by
        have : ((p.length + k1 : Nat) : Int) - L = (k1 : Int) := by omega
        rw [this, Int.mul_comm]; push_cast; rfl
      have hb1 : n * k1 ≤ 100 * 400 := Nat.mul_le_mul (by omega) (by omega)
      refine t_mul (.of_right (intBits_le_64 (by omega) (by omega))) fun _ => ?_
      rw [e2]
      kp_flats
      refine t_shr (by omega) fun _ => ?_
      rw [shr_nat]
      kp_flats
      have hup : x / 2 ^ (n * k1) < 2 ^ (n * (m' + 1 - k1)) := by
        rw [Nat.div_lt_iff_lt_mul (Nat.two_pow_pos _), ← Nat.pow_add, ← Nat.mul_add]
        have : m' + 1 - k1 + k1 = m' + 1 := by omega
        rw [this]; exact hx
      have hb2 : n * (m' + 1 - k1) ≤ 100 * 400 := Nat.mul_le_mul (by omega) (by omega)
      refine t_shl (by omega) (by have := bits_le hup; omega) fun _ => ?_
      have e3 : ((x / 2 ^ (n * k1) : Nat) : Int) * 2 ^ (((n * k1 : Nat) : Int)).toNat = ((x / 2 ^ (n * k1) * 2 ^ (n * k1) : Nat) : Int) := by
        rw [Int.toNat_natCast]; push_cast; rfl
      rw [e3]
      refine t_xor fun _ => ?_
      rw [xor_low]
      kp_flats
      obtain ⟨md1, md2, rfl, hl1⟩ : ∃ md1 md2, md = md1 ++ md2 ∧ md1.length = k1 := ⟨md.take k1, md.drop k1, (List.take_append_drop _ _).symm, by rw [List.length_take]; omega⟩
      have hl2 : md2.length = m' + 1 - k1 := by rw [List.length_append] at hmd; omega
      have ev : p ++ (md1 ++ md2) ++ r0 = p ++ md1 ++ (md2 ++ r0) := by simp
      rw [ev] at h1 h2 h3 h4 h5 ⊢
      refine' t_callL0 (a := f) ?qa1 ?qb1 ?qc1 ?qd1
      case qa1 => (repeat (first | with_reducible exact Has.head | with_reducible assumption | with_reducible apply Has.tail | with_reducible apply Has.append))
      case qb1 => exact ⟨_, rfl⟩
      case qc1 => exact rfl
      kp_flats
      refine And.intro (by (repeat (first | with_reducible exact Has.head | with_reducible assumption | with_reducible apply Has.tail | with_reducible apply Has.append))) ?_
      refine ih k1 (by omega) (by omega) (by omega) (_ :: P) Q _ p md1 (md2 ++ r0) (x % 2 ^ (n * k1)) _ _ _ _ _ _ _ (hh' _) hl1 (Nat.mod_lt _ (Nat.two_pow_pos _)) (by omega) rfl hL (by push_cast; omega) (r.le (by omega)) fun ds1 hd1 => ?_
      rw [List.cons_append]
      have hdl : ds1.length = k1 := by rw [ints_len hd1, dg_len]
      have ev2 : p ++ ds1 ++ (md2 ++ r0) = (p ++ ds1) ++ md2 ++ r0 := by simp
      rw [ev2]
      obtain ⟨h1, h2, h3, h4, h5⟩ := hh ((p ++ ds1) ++ md2 ++ r0)
      kp_flats
      refine' t_callL0 (a := f) ?qa2 ?qb2 ?qc2 ?qd2
      case qa2 => (repeat (first | with_reducible exact Has.head | with_reducible assumption | with_reducible apply Has.tail | with_reducible apply Has.append))
      case qb2 => exact ⟨_, rfl⟩
      case qc2 => exact rfl
      kp_flats
      refine And.intro (by (repeat (first | with_reducible exact Has.head | with_reducible assumption | with_reducible apply Has.tail | with_reducible apply Has.append))) ?_
      refine ih (m' + 1 - k1) (by omega) (by omega) (by omega) (_ :: P) Q _ (p ++ ds1) md2 r0 (x / 2 ^ (n * k1)) _ _ _ _ _ _ _ (hh' _) hl2 hup (by rw [List.length_append]; omega) rfl (by rw [List.length_append]; push_cast; omega) (by rw [List.length_append]; push_cast; omega) (r.le (by omega)) fun ds2 hd2 => ?_
      rw [List.cons_append]
      kp_flats
      have ev3 : p ++ ds1 ++ ds2 ++ r0 = p ++ (ds1 ++ ds2) ++ r0 := by simp
      rw [ev3]
      have hdg : IntsAre (ds1 ++ ds2) (dg n x (m' + 1)) := by
        have := dg_add n k1 (m' + 1 - k1) x
        rw [show k1 + (m' + 1 - k1) = m' + 1 by omega] at this
        rw [this]; exact hd1.append hd2
      exact ⟨P ++ ow D (li (p ++ (ds1 ++ ds2) ++ r0)) :: Q, by kas_types, _, rfl, kk _ hdg⟩
  kp_flats
  by_cases ha0 : a = 0
  · have hM' : M = 0 := hM0.mpr ha0
    subst ha0
    with_reducible refine br_n (by decide) ?_
    kp_flats
    have : zs = [] := List.length_eq_zero_iff.mp (hzl.trans hM')
    subst this
    exact ⟨ow D (li []) :: R, by kas_types, _, rfl, kk _ _ (by rw [hM']; exact .nil)⟩
  · have hM' : M ≠ 0 := fun h => ha0 (hM0.mp h)
    with_reducible refine br_y (bne_iff_ne.mpr (by omega)) ?_
    kp_flats
    refine' t_callL0 (a := f) ?qa3 ?qb3 ?qc3 ?qd3
    case qa3 => (repeat (first | with_reducible exact Has.head | with_reducible assumption | with_reducible apply Has.tail | with_reducible apply Has.append))
    case qb3 => obtain ⟨_, _, _, rfl⟩ := hFo; exact ⟨_, rfl⟩
    case qc3 => exact rfl
    kp_flats
    refine' t_lenL (vs := zs) ?qa9 (by rw [hzl, sizeLine_eq]; omega) fun _ => ?qd9
    case qa9 => (repeat (first | with_reducible exact Has.head | with_reducible assumption | with_reducible apply Has.tail | with_reducible apply Has.append))
    kp_flats
    refine And.intro (by (repeat (first | with_reducible exact Has.head | with_reducible assumption | with_reducible apply Has.tail | with_reducible apply Has.append))) ?_
    refine key M (by omega) hMb [ow f (ob Fo), fx c' (rc tabI.q)] (_ :: _ :: _ :: _ :: _ :: R) zs [] zs [] a B t _ _ 0 _ _ (fun v => ⟨.head, .tail .head, by (repeat (first | with_reducible exact Has.head | with_reducible assumption | with_reducible apply Has.tail | with_reducible apply Has.append)), by (repeat (first | with_reducible exact Has.head | with_reducible assumption | with_reducible apply Has.tail | with_reducible apply Has.append)), by (repeat (first | with_reducible exact Has.head | with_reducible assumption | with_reducible apply Has.tail | with_reducible apply Has.append))⟩) hzl hMa (by simp; omega) (by simp) rfl (by simp [hzl]) (r.le (by omega)) fun ds hds => ?_
    rw [List.nil_append, List.append_nil]
    refine nr_none (go_next ?_)
    show Tr X B (ow f (ob Fo) :: fx c' (rc tabI.q) :: ow D (li ds) :: ow _ _ :: ow env.locals _ :: ow cI _ :: ow cA _ :: ow cN _ :: R) _ _
    kp_flats
    exact ⟨ow D (li ds) :: R, by kas_types, _, rfl, kk _ _ hds⟩
end
section
open PySem PySem.W PySem.Calls PyProof.Rows
def tabD : Tab := ⟨58, 54, ⟨48, 4, 53, 55⟩, "_digits2int.<locals>.inner"⟩
/-- small figures -/
def Small (n : Nat) (vs : List Value) : Prop := ∀ v ∈ vs, ∃ (d : Nat) (t : Tok), v = .int d t ∧ d < 2 ^ n
set_option maxHeartbeats 0 in
theorem dig2 {X : Amb} {A : Around} {R : Led} {mg mb : Str → Option Value} (C : KOk X (hd.heap_39 X.w.params)) (G : GlobOk X mg mb) (hT : tabD ∈ X.tabs) {D : Addr} {vs : List Value} {n : Nat} {u : Tok} (hn : 0 < n) (hn' : n < 100) (hD : Has D (li vs) R) (hvs : Small n vs) (hl : vs.length ≤ 400) (hr : Room A 450) {Ψ : Value → Led → Prop} (kk : ∀ v t, Ψ (.int v t) R) :
    Tr X A R (call (.ref 59) [.ref D, .int n u] []) Ψ := by
  have g1 : mg (Str.ofString "len") = none := mg_none_of C.k G.g (by k_is)
  refine t_call ?_
  refine' tc_fnC (N := []) [Str.ofString "len"] [Str.ofString "inner", Str.ofString "n", Str.ofString "digits"] [] [none, some (.int n u), some (.ref D)] (binds := [(Str.ofString "digits", .ref D), (Str.ofString "n", .int n u)]) C G hr ?ho ?hcd ?hbody ?hbind ?hg ?hCN [Str.ofString "digits", Str.ofString "n"] ?hBN ?hk1 ?hGs ?hnd ?hcs ?hL ?hC ?_ ?c1 ?c2 ?c3
  case ho => k_is
  case hcd => k_is
  case hbody => exact rfl
  case hbind => exact rfl
  case c1 => exact rfl
  case c2 => exact rfl
  case c3 => exact rfl
  case hg => exact ⟨rfl, rfl, rfl⟩
  case hCN => exact fun L => rfl
  case hBN => exact rfl
  case hk1 => decide +kernel
  case hGs => decide +kernel
  case hnd => decide +kernel
  case hcs => decide +kernel
  case hL => exact fun x => rfl
  case hC => exact rfl
  intro env B as hm r F hk hcode hqual
  obtain ⟨cI, cN, cD, rfl⟩ := len3 hm
  have F : Fn env [] ([Str.ofString "len"]) [(Str.ofString "inner", cI), (Str.ofString "n", cN), (Str.ofString "digits", cD)] := F
  refine t_led (ow env.locals (fr [] []) :: ow cI (cl none) :: ow cN (cl (some (.int n u))) :: ow cD (cl (some (.ref D))) :: R) ?_ rfl
  have kI : env.kindOf (Str.ofString "inner") = some .cell := hk _ (by (repeat (first | with_reducible exact List.mem_cons_self | with_reducible apply List.mem_cons_of_mem)))
  have hq : tabD.q = qualnameIn env (Str.ofString "inner") (Str.ofString "inner") := by
    unfold qualnameIn
    rw [kI, hqual]
    rfl
  kp_flats
  refine t_defF (cls := [(Str.ofString "n", cN), (Str.ofString "inner", cI), (Str.ofString "digits", cD)]) tabD hT G F hcode rfl hq rfl rfl rfl rfl fun f c' Fo hFo => ?_
  have key : ∀ m, 0 < m → m ≤ 400 → ∀ (Q : Led) (L : Nat) (A' : Around) (t2 t3 : Tok) (Lz Rr : Int) (Ψ' : Value → Led → Prop), Has f (ob Fo) Q → Has c' (rc tabD.q) Q → Has cD (cl (some (.ref D))) Q → Has cI (cl (some (.ref f))) Q → Has cN (cl (some (.int n u))) Q → Has D (li vs) Q →
      L + m ≤ vs.length → Lz = L → Rr = L + m → Room A' m → (∀ (v : Nat) t, v < 2 ^ (n * m) → Ψ' (.int v t) Q) →
      Tr X A' Q (call (.ref f) [.int Lz t2, .int Rr t3]) Ψ' := by
    obtain ⟨doc, pm, ctv, rfl⟩ := hFo
    intro m
    induction m using Nat.strongRecOn with
    | ind m ih =>
    intro hm0 hm4 Q L A' t2 t3 Lz Rr Ψ' h1 h2 h3 h4 h5 h6 hL hLz hRr hrm kk
    obtain ⟨m', rfl⟩ : ∃ m', m = m' + 1 := ⟨m - 1, by omega⟩
    refine t_call ?_
    refine' tc_fnI (N := [Str.ofString "L", Str.ofString "R", Str.ofString "mid", Str.ofString "shift"]) [] [some (.int Lz t2), some (.int Rr t3), none, none] (binds := [(Str.ofString "L", .int Lz t2), (Str.ofString "R", .int Rr t3)]) G hrm ?ho ?hcd ?hbind ?hcell ?hN ?hGs ?hnd [Str.ofString "n", Str.ofString "inner", Str.ofString "digits"] ?hFN ?hCs ?hb ?hvs ?_ ?c1 ?c2 ?c3
    case ho => (repeat (first | with_reducible exact Has.head | with_reducible assumption | with_reducible apply Has.tail | with_reducible apply Has.append))
    case hcd => (repeat (first | with_reducible exact Has.head | with_reducible assumption | with_reducible apply Has.tail | with_reducible apply Has.append))
    case c1 => exact rfl
    case c2 => exact rfl
    case c3 => exact rfl
    case hbind => exact rfl
    case hcell => decide
    case hN => rfl
    case hGs => exact fun _ h => nomatch h
    case hnd => decide +kernel
    case hFN => exact rfl
    case hCs => decide +kernel
    case hb => rfl
    case hvs => rfl
    intro env B r F
    kp_flats
    by_cases hm1 : m' = 0
    · subst hm1
      with_reducible refine br_y (beq_iff_eq.mpr (by omega)) ?_
      kp_flats
      have hlt : L < vs.length := by omega
      obtain ⟨d, td, ed, hdl⟩ := hvs vs[L] (List.getElem_mem hlt)
      refine' t_subL (vs := vs) (v := .int d td) ?sa (by omega) (by omega) ?sb ?sc rfl
      case sa => (repeat (first | with_reducible exact Has.head | with_reducible assumption | with_reducible apply Has.tail | with_reducible apply Has.append))
      case sb =>
        have : Lz.toNat = L := by omega
        rw [this, List.getElem?_eq_getElem hlt, ed]
      kp_flats
      exact ⟨Q, by kas_types, _, rfl, kk _ _ (by rw [Nat.zero_add, Nat.mul_one]; exact hdl)⟩
    · with_reducible refine br_n (beq_eq_false_iff_ne.mpr (by omega)) ?_
      kp_flats
      have e1 : (Lz + Rr).fdiv (2 ^ ((1 : Int)).toNat) = ((L + (m' + 1) / 2 : Nat) : Int) := by
        have : Lz + Rr = ((2 * L + (m' + 1) : Nat) : Int) := by omega
        rw [this]
        have := shr_nat (2 * L + (m' + 1)) 1
        rw [show ((1 : Nat) : Int) = 1 from rfl] at this
        rw [this]
        congr 1
        omega
      refine t_shr (by decide) fun _ => ?_
      rw [e1]
      generalize hk1 : (m' + 1) / 2 = k1 at *
      kp_flats
      have e2 : (((L + k1 : Nat) : Int) - Lz) * n = ((n * k1 : Nat) : Int) := by
        have : ((L + k1 : Nat) : Int) - Lz = (k1 : Int) := by omega
        rw [this, Int.mul_comm]; push_cast; rfl
      have hb1 : n * k1 ≤ 100 * 400 := Nat.mul_le_mul (by omega) (by omega)
      have hb2 : n * (m' + 1 - k1) ≤ 100 * 400 := Nat.mul_le_mul (by omega) (by omega)
      refine t_mul (.of_right (intBits_le_64 (by omega) (by omega))) fun _ => ?_
      rw [e2]
      kp_flats
      refine' t_callL0 (a := f) ?qa1 ?qb1 ?qc1 ?qd1
      case qa1 => (repeat (first | with_reducible exact Has.head | with_reducible assumption | with_reducible apply Has.tail | with_reducible apply Has.append))
      case qb1 => exact ⟨_, rfl⟩
      case qc1 => exact rfl
      kp_flats
      refine And.intro (by (repeat (first | with_reducible exact Has.head | with_reducible assumption | with_reducible apply Has.tail | with_reducible apply Has.append))) ?_
      refine ih (m' + 1 - k1) (by omega) (by omega) (by omega) (_ :: Q) (L + k1) _ _ _ _ _ _ (.tail h1) (.tail h2) (.tail h3) (.tail h4) (.tail h5) (.tail h6) (by omega) rfl (by push_cast; omega) (r.le (by omega)) fun v1 _ hv1 => ?_
      kp_flats
      refine t_shl (by omega) (by have := bits_le hv1; omega) fun _ => ?_
      have e3 : ((v1 : Nat) : Int) * 2 ^ (((n * k1 : Nat) : Int)).toNat = ((v1 * 2 ^ (n * k1) : Nat) : Int) := by
        rw [Int.toNat_natCast]; push_cast; rfl
      rw [e3]
      kp_flats
      refine' t_callL0 (a := f) ?qa2 ?qb2 ?qc2 ?qd2
      case qa2 => (repeat (first | with_reducible exact Has.head | with_reducible assumption | with_reducible apply Has.tail | with_reducible apply Has.append))
      case qb2 => exact ⟨_, rfl⟩
      case qc2 => exact rfl
      kp_flats
      refine And.intro (by (repeat (first | with_reducible exact Has.head | with_reducible assumption | with_reducible apply Has.tail | with_reducible apply Has.append))) ?_
      refine ih k1 (by omega) (by omega) (by omega) (_ :: Q) L _ _ _ _ _ _ (.tail h1) (.tail h2) (.tail h3) (.tail h4) (.tail h5) (.tail h6) (by omega) hLz (by push_cast; omega) (r.le (by omega)) fun v2 _ hv2 => ?_
      kp_flats
      have e4 : ((v1 * 2 ^ (n * k1) : Nat) : Int) + (v2 : Int) = ((v1 * 2 ^ (n * k1) + v2 : Nat) : Int) := by push_cast; rfl
      have hlast : v1 * 2 ^ (n * k1) + v2 < 2 ^ (n * (m' + 1)) := by
        have : n * (m' + 1) = n * (m' + 1 - k1) + n * k1 := by rw [← Nat.mul_add]; congr 1; omega
        rw [this, Nat.pow_add]
        have h7 : (v1 + 1) * 2 ^ (n * k1) ≤ 2 ^ (n * (m' + 1 - k1)) * 2 ^ (n * k1) := Nat.mul_le_mul_right _ hv1
        rw [Nat.add_mul, Nat.one_mul] at h7
        omega
      exact ⟨Q, by kas_types, _, rfl, by rw [e4]; exact kk _ _ hlast⟩
  kp_flats
  have hz : vs.length ≤ sizeLine := by rw [sizeLine_eq]; omega
  refine' t_tList (vs := vs) ?sd hz ?se
  case sd => (repeat (first | with_reducible exact Has.head | with_reducible assumption | with_reducible apply Has.tail | with_reducible apply Has.append))
  by_cases hv0 : vs.length = 0
  · have : vs = [] := List.length_eq_zero_iff.mp hv0
    subst this
    with_reducible refine br_n rfl ?_
    kp_flats
    exact ⟨R, by kas_types, _, rfl, kk _ _⟩
  · have hne : (!vs.isEmpty) = true := by
      cases vs with
      | nil => exact absurd rfl hv0
      | cons _ _ => rfl
    with_reducible refine br_y hne ?_
    kp_flats
    refine' t_callL0 (a := f) ?qa3 ?qb3 ?qc3 ?qd3
    case qa3 => (repeat (first | with_reducible exact Has.head | with_reducible assumption | with_reducible apply Has.tail | with_reducible apply Has.append))
    case qb3 => obtain ⟨_, _, _, rfl⟩ := hFo; exact ⟨_, rfl⟩
    case qc3 => exact rfl
    kp_flats
    refine And.intro (by (repeat (first | with_reducible exact Has.head | with_reducible assumption | with_reducible apply Has.tail | with_reducible apply Has.append))) ?_
    refine key vs.length (by omega) hl _ 0 B _ _ 0 vs.length _ (by (repeat (first | with_reducible exact Has.head | with_reducible assumption | with_reducible apply Has.tail | with_reducible apply Has.append))) (by (repeat (first | with_reducible exact Has.head | with_reducible assumption | with_reducible apply Has.tail | with_reducible apply Has.append))) (by (repeat (first | with_reducible exact Has.head | with_reducible assumption | with_reducible apply Has.tail | with_reducible apply Has.append))) (by (repeat (first | with_reducible exact Has.head | with_reducible assumption | with_reducible apply Has.tail | with_reducible apply Has.append))) (by (repeat (first | with_reducible exact Has.head | with_reducible assumption | with_reducible apply Has.tail | with_reducible apply Has.append))) (by (repeat (first | with_reducible exact Has.head | with_reducible assumption | with_reducible apply Has.tail | with_reducible apply Has.append))) (by omega) rfl (by simp) (r.le (by omega)) fun v _ _ => ?_
    kp_flats
    exact ⟨R, by kas_types, _, rfl, kk _ _⟩
end
section
open PySem PySem.W PySem.Calls PyProof.Rows
theorem q_small {a b n : Nat} (hb : 0 < b) (h : a < b * 2 ^ n) : a / b < 2 ^ n := by
  rw [Nat.div_lt_iff_lt_mul hb, Nat.mul_comm]; exact h
set_option maxHeartbeats 0 in
theorem dmp {X : Amb} {A : Around} {R : Led} {mg mb : Str → Option Value} (C : KOk X (hd.heap_39 X.w.params)) (G : GlobOk X mg mb) (hT1 : tabI ∈ X.tabs) (hT2 : tabD ∈ X.tabs) {a b n : Nat} {t u : Tok} (hn : 0 < n) (hn' : n < 100) (hbn : Builtin.Int.intBits (b : Int) = n) (hb0 : 0 < b) (hz : a < 2 ^ 400) (hr : Room A 460) {Ψ : Value → Led → Prop} (kk : ∀ r q t u, Ψ (.ref r) (ow r (tu [.int q t, .int ((a % b : Nat) : Int) u]) :: R)) :
    Tr X A R (call (.ref 66) [.int a t, .int b u] []) Ψ := by
  have g1 : mg (Str.ofString "reversed") = none := mg_none_of C.k G.g (by k_is)
  have g2 := mg_of (n := Str.ofString "_int2digits") C.k G.g (by k_is)
  have g3 := mg_of (n := Str.ofString "_div2n1n") C.k G.g (by k_is)
  have g4 := mg_of (n := Str.ofString "_digits2int") C.k G.g (by k_is)
  refine t_call ?_
  refine' tc_fnF (N := [Str.ofString "a", Str.ofString "b", Str.ofString "n", Str.ofString "a_digits", Str.ofString "r", Str.ofString "q_digits", Str.ofString "a_digit", Str.ofString "q_digit", Str.ofString "q"]) [Str.ofString "_int2digits", Str.ofString "reversed", Str.ofString "_div2n1n", Str.ofString "_digits2int"] [some (.int a t), some (.int b u), none, none, none, none, none, none, none] (binds := [(Str.ofString "a", .int a t), (Str.ofString "b", .int b u)]) C G hr ?ho ?hcd ?hbody ?hbind ?hcell ?hg ?hN ?hGs ?hnd ?hb ?hvs ?_ ?c1 ?c2 ?c3
  case ho => k_is
  case hcd => k_is
  case hbody => exact rfl
  case hbind => exact rfl
  case c1 => exact rfl
  case c2 => exact rfl
  case c3 => exact rfl
  case hg => exact ⟨rfl, rfl, rfl⟩
  case hcell => decide
  case hN => rfl
  case hGs => decide +kernel
  case hnd => decide +kernel
  case hb => rfl
  case hvs => rfl
  intro env B r F
  kp_flats
  rw [hbn]
  kp_flats
  rename_i tn
  refine int2 C G hT1 hn hn' hz (r.le (by omega)) fun D ds hds => ?_
  have hMb : (Builtin.Int.intBits (a : Int) + n - 1) / n ≤ 400 := by
    have := bits_le hz
    refine Nat.le_trans (Nat.div_le_div_right (Nat.sub_le_sub_right (Nat.add_le_add_right this n) 1)) ?_
    rw [Nat.div_le_iff_le_mul hn]
    have : 400 * 1 ≤ 400 * n := Nat.mul_le_mul_left _ hn
    omega
  have hMa : a < 2 ^ (n * ((Builtin.Int.intBits (a : Int) + n - 1) / n)) := by
    refine Nat.lt_of_lt_of_le (bits_nat a) (Nat.pow_le_pow_right (by decide) ?_)
    have := Nat.div_add_mod (Builtin.Int.intBits (a : Int) + n - 1) n
    have h2 := Nat.mod_lt (Builtin.Int.intBits (a : Int) + n - 1) hn
    omega
  generalize (Builtin.Int.intBits (a : Int) + n - 1) / n = M at hds hMb hMa
  have hdl : ds.length = M := by rw [ints_len hds, dg_len]
  kp_flats
  refine' t_reversed (vs := ds) ?ra fun I => ?rb
  case ra => (repeat (first | with_reducible exact Has.head | with_reducible assumption | with_reducible apply Has.tail | with_reducible apply Has.append))
  kp_flats
  refine' t_iterRev ?rc ?rd
  case rc => (repeat (first | with_reducible exact Has.head | with_reducible assumption | with_reducible apply Has.tail | with_reducible apply Has.append))
  rename_i t0 Q
  have hb2 : b < 2 ^ n := by have := bits_nat b; rwa [hbn] at this
  refine tc_for (iter_rev (Room.h r) I D ds) (fun i S => ∃ (tr : Tok) (x1 x2 : Option Value) (qs : List Value), S = ow Q (li qs) :: ow D (li ds) :: ow env.locals (fr ([Str.ofString "a", Str.ofString "b", Str.ofString "n", Str.ofString "a_digits", Str.ofString "r", Str.ofString "q_digits", Str.ofString "a_digit", Str.ofString "q_digit", Str.ofString "q"]) [some (.int a t), some (.int b u), some (.int n tn), some (.ref D), some (.int ((a / 2 ^ (n * (M - i)) % b : Nat) : Int) tr), some (.ref Q), x1, x2, none]) :: R ∧ Small n qs ∧ qs.length = i) ?_ ?_ ?_ (S := ow Q (li []) :: ow D (li ds) :: ow env.locals (fr ([Str.ofString "a", Str.ofString "b", Str.ofString "n", Str.ofString "a_digits", Str.ofString "r", Str.ofString "q_digits", Str.ofString "a_digit", Str.ofString "q_digit", Str.ofString "q"]) [some (.int a t), some (.int b u), some (.int n tn), some (.ref D), some (.int 0 t0), some (.ref Q), none, none, none]) :: R) ?_ rfl
  · rintro i S ⟨tr, x1, x2, qs, rfl, _, _⟩
    exact .tail .head
  · rintro i v T S hi ⟨tr, x1, x2, qs, rfl, hqs, hql⟩ ⟨hv, rfl⟩
    obtain ⟨z, tz, rfl, hz⟩ := ints_get hds hv
    rw [hdl] at hi hz
    rw [dg_get n M a (M - 1 - i) (by omega)] at hz
    cases hz
    show Tr X B (ow I (rev D _) :: ow Q (li qs) :: ow D (li ds) :: ow env.locals _ :: R) _ _
    kp_flats
    have e0 : M - i = M - 1 - i + 1 := by omega
    have e1 : M - (i + 1) = M - 1 - i := by omega
    have hst := div_step a b n (M - 1 - i)
    rw [← e0] at hst
    have hd2 : a / 2 ^ (n * (M - 1 - i)) % 2 ^ n < 2 ^ n := Nat.mod_lt _ (Nat.two_pow_pos _)
    have hr2 : a / 2 ^ (n * (M - i)) % b < b := Nat.mod_lt _ hb0
    rw [e1]
    generalize a / 2 ^ (n * (M - i)) % b = rr at hst hr2 ⊢
    generalize a / 2 ^ (n * (M - 1 - i)) % 2 ^ n = dd at hst hd2 ⊢
    have hx : rr * 2 ^ n + dd < b * 2 ^ n := by
      have h7 : (rr + 1) * 2 ^ n ≤ b * 2 ^ n := Nat.mul_le_mul_right _ hr2
      rw [Nat.add_mul, Nat.one_mul] at h7
      omega
    have hxb : Builtin.Int.intBits ((rr * 2 ^ n + dd : Nat) : Int) ≤ 2 * n := by
      refine bits_le (Nat.lt_of_lt_of_le hx ?_)
      rw [show 2 * n = n + n by omega, Nat.pow_add]
      exact Nat.mul_le_mul_right _ (Nat.le_of_lt hb2)
    have hrb : Builtin.Int.intBits ((rr : Nat) : Int) ≤ n := bits_le (Nat.lt_trans hr2 hb2)
    refine t_shl (by omega) (by omega) fun _ => ?_
    have e3 : ((rr : Nat) : Int) * 2 ^ ((n : Int)).toNat = ((rr * 2 ^ n : Nat) : Int) := by
      rw [Int.toNat_natCast]; push_cast; rfl
    rw [e3]
    kp_flats
    have e4 : ((rr * 2 ^ n : Nat) : Int) + (dd : Int) = ((rr * 2 ^ n + dd : Nat) : Int) := by push_cast; rfl
    rw [e4]
    refine div1 C G (r.le (n := 459) (m := 1) (by omega)) (by omega) (by rw [Int.natAbs_natCast]; exact Nat.lt_of_le_of_lt (Nat.log2_le_self b |> fun _ => (Nat.le_of_lt ((Nat.log2_lt (by omega)).mpr hb2))) (by omega)) (by omega) fun r' tq tr' => ?_
    rw [fdiv_nat, fmod_nat, hst]
    refine ⟨_, _, _, rfl, .head, ?_⟩
    kp_flats
    have hqz : qs.length ≤ sizeLine := by rw [sizeLine_eq]; omega
    refine' t_append hqz ?qa ?qb
    case qa => (repeat (first | with_reducible exact Upd.head | with_reducible apply Upd.tail | with_reducible apply Upd.append))
    kp_flats
    refine ⟨ow Q (li (qs ++ [.int ((rr * 2 ^ n + dd) / b : Nat) tq])) :: ow D (li ds) :: ow env.locals (fr ([Str.ofString "a", Str.ofString "b", Str.ofString "n", Str.ofString "a_digits", Str.ofString "r", Str.ofString "q_digits", Str.ofString "a_digit", Str.ofString "q_digit", Str.ofString "q"]) [some (.int a t), some (.int b u), some (.int n tn), some (.ref D), some (.int ((a / 2 ^ (n * (M - 1 - i)) % b : Nat) : Int) tr'), some (.ref Q), some (.int dd tz), some (.int ((rr * 2 ^ n + dd) / b : Nat) tq), none]) :: R, ?_, _, _, _, _, rfl, ?_, ?_⟩
    · show List.Sublist (ow I (rev D _) :: ow Q (li _) :: ow D (li ds) :: ow env.locals (fr _ _) :: R) _
      kas_types
    · intro v hv
      rcases List.mem_append.mp hv with h | h
      · exact hqs v h
      · rw [List.mem_singleton] at h
        exact ⟨_, _, h, q_small hb0 hx⟩
    · rw [List.length_append, hql]; rfl
  · rintro S ⟨tr, x1, x2, qs, rfl, hqs, hql⟩
    rw [hdl] at hql
    have er : a / 2 ^ (n * (M - ds.length)) % b = a % b := by rw [hdl, Nat.sub_self, Nat.mul_zero, Nat.pow_zero, Nat.div_one]
    rw [er]
    kp_flats
    have hqz : qs.length ≤ sizeLine := by rw [sizeLine_eq]; omega
    refine' t_reverse hqz ?qc ?qd
    case qc => (repeat (first | with_reducible exact Upd.head | with_reducible apply Upd.tail | with_reducible apply Upd.append))
    kp_flats
    refine dig2 C G hT2 hn hn' (vs := qs.reverse) (by (repeat (first | with_reducible exact Has.head | with_reducible assumption | with_reducible apply Has.tail | with_reducible apply Has.append))) (fun v h => hqs v (List.mem_reverse.mp h)) (by rw [List.length_reverse]; omega) (r.le (by omega)) fun q tq => ?_
    kp_flats
    exact ⟨ow _ (tu [.int q tq, .int ((a % b : Nat) : Int) tr]) :: R, by kas_types, _, rfl, kk _ _ _ _⟩
  · refine ⟨t0, none, none, [], ?_, fun _ h => (nomatch h), rfl⟩
    have : a / 2 ^ (n * (M - 0)) % b = 0 := by rw [Nat.sub_zero, Nat.div_eq_of_lt hMa, Nat.zero_mod]
    rw [this]; rfl
end
section
open PySem PySem.W PySem.Calls PyProof.Rows
set_option maxHeartbeats 0 in
theorem idm {X : Amb} {A : Around} {R : Led} {mg mb : Str → Option Value} (C : KOk X (hd.heap_39 X.w.params)) (G : GlobOk X mg mb) (hT1 : tabI ∈ X.tabs) (hT2 : tabD ∈ X.tabs) {a b n : Nat} {t u : Tok} (hn : 0 < n) (hn' : n < 100) (hbn : Builtin.Int.intBits (b : Int) = n) (hb0 : 0 < b) (hz : a < 2 ^ 400) (hr : Room A 470) {Ψ : Value → Led → Prop} (kk : ∀ r q t u, Ψ (.ref r) (ow r (tu [.int q t, .int ((a % b : Nat) : Int) u]) :: R)) :
    Tr X A R (call (.ref 73) [.int a t, .int b u] []) Ψ := by
  have g1 := mg_of (n := Str.ofString "_divmod_pos") C.k G.g (by k_is)
  refine t_call ?_
  refine' tc_fnF (N := [Str.ofString "a", Str.ofString "b", Str.ofString "q", Str.ofString "r"]) [Str.ofString "_divmod_pos"] [some (.int a t), some (.int b u), none, none] (binds := [(Str.ofString "a", .int a t), (Str.ofString "b", .int b u)]) C G hr ?ho ?hcd ?hbody ?hbind ?hcell ?hg ?hN ?hGs ?hnd ?hb ?hvs ?_ ?c1 ?c2 ?c3
  case ho => k_is
  case hcd => k_is
  case hbody => exact rfl
  case hbind => exact rfl
  case c1 => exact rfl
  case c2 => exact rfl
  case c3 => exact rfl
  case hg => exact ⟨rfl, rfl, rfl⟩
  case hcell => decide
  case hN => rfl
  case hGs => decide +kernel
  case hnd => decide +kernel
  case hb => rfl
  case hvs => rfl
  intro env B r F
  kp_flats
  with_reducible refine br_n (beq_eq_false_iff_ne.mpr (by omega)) ?_
  kp_flats
  with_reducible refine br_n (decide_eq_false (by omega)) ?_
  kp_flats
  with_reducible refine br_n (decide_eq_false (by omega)) ?_
  kp_flats
  refine dmp C G hT1 hT2 hn hn' hbn hb0 hz (r.le (by omega)) fun r' q tq tr => ?_
  kp_flats
  exact ⟨ow r' (tu [.int q tq, .int ((a % b : Nat) : Int) tr]) :: R, by kas_types, _, rfl, kk _ _ _ _⟩
set_option maxHeartbeats 0 in
theorem lfo {X : Amb} {A : Around} {R : Led} {mg mb : Str → Option Value} (C : KOk X (hd.heap_39 X.w.params)) (G : GlobOk X mg mb) (hT1 : tabI ∈ X.tabs) (hT2 : tabD ∈ X.tabs) {a p : Nat} {t u : Tok} (hp : 0 < p) (hp' : p < 10) (hz : a < 2 ^ 400) (hr : Room A 480) {Ψ : Value → Led → Prop} (kk : ∀ r ds, IntsAre ds (dg 6 (a % (64 ^ p - 1)) p) → Ψ (.ref r) (ow r (li ds) :: R)) :
    Tr X A R (call (.ref 118) [.int a t, .int p u] []) Ψ := by
  have g1 := mg_of (n := Str.ofString "int_divmod") C.k G.g (by k_is)
  have g2 := mg_of (n := Str.ofString "_int2digits") C.k G.g (by k_is)
  have g3 : mg (Str.ofString "len") = none := mg_none_of C.k G.g (by k_is)
  refine t_call ?_
  refine' tc_fnF (N := [Str.ofString "number", Str.ofString "prime", Str.ofString "left", Str.ofString "figures"]) [Str.ofString "int_divmod", Str.ofString "_int2digits", Str.ofString "len"] [some (.int a t), some (.int p u), none, none] (binds := [(Str.ofString "number", .int a t), (Str.ofString "prime", .int p u)]) C G hr ?ho ?hcd ?hbody ?hbind ?hcell ?hg ?hN ?hGs ?hnd ?hb ?hvs ?_ ?c1 ?c2 ?c3
  case ho => k_is
  case hcd => k_is
  case hbody => exact rfl
  case hbind => exact rfl
  case c1 => exact rfl
  case c2 => exact rfl
  case c3 => exact rfl
  case hg => exact ⟨rfl, rfl, rfl⟩
  case hcell => decide
  case hN => rfl
  case hGs => decide +kernel
  case hnd => decide +kernel
  case hb => rfl
  case hvs => rfl
  intro env B r F
  kp_flats
  refine t_pow (by omega) (by have : Builtin.Int.intBits (64 : Int) = 7 := by decide +kernel
                              rw [this]; omega) fun _ => ?_
  kp_flats
  have h64 : 0 < 64 ^ p := Nat.pow_pos (by decide)
  have h641 : 1 < 64 ^ p := Nat.one_lt_pow (by omega) (by decide)
  have e1 : ((64 : Int) ^ ((p : Int)).toNat) - 1 = ((64 ^ p - 1 : Nat) : Int) := by
    rw [Int.toNat_natCast, Int.ofNat_sub h64]; push_cast; rfl
  rw [e1]
  have h6 : (64 : Nat) ^ p = 2 ^ (6 * p) := by rw [Nat.pow_mul]
  have hbits : Builtin.Int.intBits ((64 ^ p - 1 : Nat) : Int) = 6 * p := by
    refine Nat.le_antisymm (bits_le (by rw [← h6]; omega)) ?_
    have h7 := bits_nat (64 ^ p - 1)
    rw [h6] at h7
    have h8 : 2 ^ (6 * p - 1) ≤ 2 ^ (6 * p) - 1 := by
      have : 2 ^ (6 * p) = 2 ^ (6 * p - 1) * 2 := by rw [← Nat.pow_succ]; congr 1; omega
      have := Nat.two_pow_pos (6 * p - 1)
      omega
    have h9 : 6 * p - 1 < Builtin.Int.intBits ((2 ^ (6 * p) - 1 : Nat) : Int) := (Nat.pow_lt_pow_iff_right (by decide)).mp (Nat.lt_of_le_of_lt h8 h7)
    rw [h6]
    omega
  refine idm C G hT1 hT2 (n := 6 * p) (by omega) (by omega) hbits (by omega) hz (r.le (by omega)) fun r' q tq tr => ?_
  kp_flats
  refine' t_subTu (vs := [.int q tq, .int ((a % (64 ^ p - 1) : Nat) : Int) tr]) .head (by decide) (by simp) rfl (sz_lit rfl) ?_ rfl
  have hx : a % (64 ^ p - 1) < 2 ^ (6 * p) := by
    have := Nat.mod_lt a (show 64 ^ p - 1 > 0 by omega)
    rw [← h6]; omega
  generalize a % (64 ^ p - 1) = x at *
  kp_flats
  have hx4 : x < 2 ^ 400 := Nat.lt_of_lt_of_le hx (Nat.pow_le_pow_right (by decide) (by omega))
  refine int2 C G hT1 (n := 6) (by decide) (by decide) hx4 (r.le (by omega)) fun D ds hds => ?_
  have hM : (Builtin.Int.intBits (x : Int) + 6 - 1) / 6 ≤ p := by
    have := bits_le hx
    omega
  have hxM : x < 2 ^ (6 * ((Builtin.Int.intBits (x : Int) + 6 - 1) / 6)) := Nat.lt_of_lt_of_le (bits_nat x) (Nat.pow_le_pow_right (by decide) (by omega))
  generalize (Builtin.Int.intBits (x : Int) + 6 - 1) / 6 = M at hds hM hxM
  have hdl : ds.length = M := by rw [ints_len hds, dg_len]
  have hdz : ds.length ≤ sizeLine := by rw [sizeLine_eq]; omega
  kp_flats
  rename_i t0 Z _ _
  have e2 : (p : Int) - (ds.length : Int) = ((p - M : Nat) : Int) := by rw [hdl]; omega
  rw [e2]
  refine t_mulL .head (by omega) (by omega) (by simp; omega) fun E => ?_
  have e3 : (List.replicate (((p - M : Nat) : Int)).toNat [Value.int 0 t0]).flatten = List.replicate (p - M) (Value.int 0 t0) := by rw [Int.toNat_natCast]; simp
  rw [e3]
  refine' t_addL (vs := ds) (ws := List.replicate (p - M) (Value.int 0 t0)) ?qa .head (by rw [List.length_replicate, sizeLine_eq]; omega) fun H => ?qb
  case qa => (repeat (first | with_reducible exact Has.head | with_reducible assumption | with_reducible apply Has.tail | with_reducible apply Has.append))
  kp_flats
  have hfin : IntsAre (ds ++ List.replicate (p - M) (Value.int 0 t0)) (dg 6 x p) := by
    rw [dg_pad hxM hM]
    exact hds.append (ints_zeros _)
  exact ⟨ow H (li (ds ++ List.replicate (p - M) (Value.int 0 t0))) :: R, by kas_types, _, rfl, kk _ _ hfin⟩
end
section
open PySem PySem.W PySem.Calls PyProof.Rows
section
variable {X : Amb} {A : Around} {R : Led}
theorem seek1_le {text : Array Nat} {lim : Nat} : ∀ {d s p : Nat}, s + d = lim → seek1 text lim d s = some p → s ≤ p ∧ p < lim
  | 0, s, p, h, hq => by
    unfold seek1 at hq
    have : hit1 text lim s = false := by unfold hit1; rw [decide_eq_false (by omega)]; simp
    rw [this] at hq; cases hq
  | d + 1, s, p, h, hq => by
    unfold seek1 at hq
    cases hb : hit1 text lim s
    · rw [hb] at hq
      have := seek1_le (by omega) hq
      omega
    · rw [hb] at hq
      have : s = p := by injection hq
      omega
theorem finds1 (tl : List Nat) : Finds code1 tl (find1L tl) where
  run := fun s hs => by
    obtain ⟨K, hK, hE⟩ := find1 tl.toArray tl.length s hs
    exact ⟨K, by omega, hE⟩
  ok := fun s p h hs hq => by
    unfold find1L at hq
    cases hk : seek1 tl.toArray tl.length (tl.length - s) s with
    | none => rw [hk] at hq; cases hq
    | some q =>
      rw [hk] at hq
      cases hq
      have := seek1_le (by omega) hk
      omega
theorem finds2 (tl : List Nat) : Finds code2 tl (find2L tl) where
  run := fun s hs => by
    obtain ⟨K, hK, hE⟩ := find2 tl.toArray tl.length s hs
    exact ⟨K, by omega, hE⟩
  ok := fun s p h hs hq => by
    unfold find2L at hq
    cases hk : seek2 tl.toArray (tl.length - s) s with
    | none => rw [hk] at hq; cases hq
    | some q =>
      rw [hk] at hq
      cases hq
      have := seek2_some hk
      unfold hand2
      split <;> omega
theorem t_mSub {a : Addr} {Φ : Value × List Value → Led → Prop} {pl : Sem Bool} (hT : ∀ R s, Inv X R s → ∃ o, s.heap.get? a = some o ∧ o.cls = .type "re.Pattern" ∧ o.dict = none) (k : Φ (.builtin "re.Pattern.sub", [.ref a]) R) : Tr X A R (getMethod (.ref a) "sub" pl) Φ := ⟨fun s I => by
  obtain ⟨o, ho, hc, hd⟩ := hT R s I
  exact getMethod_builtin ⟨o, ho, hc⟩ plainAttrs_re slot_re_sub type_re_sub (fun b e => by cases e; exact ⟨o, ho, hd⟩) ⟨R, I, k⟩⟩
end
theorem look_of {K : Frag} {a : Addr} {c : Value} {d : Option Addr} {dt : Data} {sl : Array (Option Value)} (h : K.lookup a = some ⟨c, d, dt, sl⟩) : K.lookup a = some ⟨c, d, dt, sl⟩ := h
theorem pat_of {X : Amb} {K : Frag} (C : KOk X K) {a c : Addr} {p fl tv : Value} {t g : Tok} {n : Nat} {d : Option Addr} {sl sl' : Array (Option Value)} {d' : Option Addr} {vs : Array Value} {code : Array Nat}
    (h1 : K.lookup a = some ⟨.type "re.Pattern", d, .fields #[p, fl, .int 0 t, .none, .none, .ref c, .int 0 g], sl⟩) (h2 : K.lookup c = some ⟨tv, d', .seq vs n, sl'⟩) (hc : (vs.map Builtin.Re.reRawOf).map (·.toNat) = code) : ∀ R, PatOk X R a c code := fun R =>
  ⟨fun s I => ⟨_, p, fl, t, g, C.inK I _ _ h1, rfl⟩, fun s I => ⟨_, vs, n, C.inK I _ _ h2, rfl, hc⟩⟩
theorem crlf_len : ∀ (l : List Nat), (crlfL l).length ≤ 2 * l.length := by
  intro l
  induction l using crlfL.induct with
  | case1 => simp [crlfL]
  | case2 r ih => rw [crlf_cr]; simp only [List.length_cons]; omega
  | case3 c r h hc ih => rw [crlfL.eq_3 c r h, if_pos hc]; simp only [List.length_cons]; omega
  | case4 c r h hc ih => rw [crlfL.eq_3 c r h, if_neg hc]; simp only [List.length_cons]; omega
theorem dots_len : ∀ (b : Bool) (l : List Nat), (dotsL b l).length ≤ 2 * l.length
  | _, [] => by simp [dotsL]
  | b, c :: r => by
    have := dots_len (c == 10) r
    unfold dotsL
    split <;> simp only [List.length_append, List.length_cons, List.length_nil] <;> omega
set_option maxHeartbeats 0 in
theorem quo {X : Amb} {A : Around} {R : Led} {mg mb : Str → Option Value} (C : KOk X (hd.heap_39 X.w.params)) (G : GlobOk X mg mb) {tl : List Nat} {t : Tok} {n : Nat} (hz : tl.length ≤ 1000) (hr : Room A (n + 1)) {Ψ : Value → Led → Prop} (kk : ∀ t', Ψ (.str (toS (dotsL true (crlfL tl))) t') R) :
    Tr X A R (call (.ref 97) [.str (toS tl) t] []) Ψ := by
  have g1 := mg_of (n := Str.ofString "_twin_re_1") C.k G.g (by k_is)
  have g2 := mg_of (n := Str.ofString "_twin_re_2") C.k G.g (by k_is)
  have g3 := mg_of (n := Str.ofString "CRLF") C.k G.g (by k_is)
  have h1 := look_of (K := hd.heap_39 X.w.params) (a := 85) (by k_is)
  have h2 := look_of (K := hd.heap_39 X.w.params) (a := 84) (by k_is)
  have h3 := look_of (K := hd.heap_39 X.w.params) (a := 90) (by k_is)
  have h4 := look_of (K := hd.heap_39 X.w.params) (a := 89) (by k_is)
  have P1 := pat_of (code := code1) C h1 h2 (by decide +kernel)
  have P2 := pat_of (code := code2) C h3 h4 (by decide +kernel)
  have T1 : ∀ R s, Inv X R s → ∃ o, s.heap.get? 85 = some o ∧ o.cls = .type "re.Pattern" ∧ o.dict = none := fun R s I => ⟨_, C.inK I _ _ h1, rfl, rfl⟩
  have T2 : ∀ R s, Inv X R s → ∃ o, s.heap.get? 90 = some o ∧ o.cls = .type "re.Pattern" ∧ o.dict = none := fun R s I => ⟨_, C.inK I _ _ h3, rfl, rfl⟩
  have e1 : Str.ofString ".." = toS [46, 46] := by decide +kernel
  have e2 : Str.ofString "\r\n" = toS [13, 10] := by decide +kernel
  have c0 := crlf_len tl
  have p2 := crlf_pieces tl (tl.length + 1) 0 (by omega) (Nat.zero_le _)
  have p1 := dots_pieces (crlfL tl) ((crlfL tl).length + 1) 0 (by omega) (Nat.zero_le _)
  have c1 := dots_len true (crlfL tl)
  refine t_call ?_
  refine' tc_fnF (N := [Str.ofString "data"]) [Str.ofString "_twin_re_1", Str.ofString "_twin_re_2", Str.ofString "CRLF"] [some (.str (toS tl) t)] (binds := [(Str.ofString "data", .str (toS tl) t)]) C G hr ?ho ?hcd ?hbody ?hbind ?hcell ?hg ?hN ?hGs ?hnd ?hb ?hvs ?_ ?c1 ?c2 ?c3
  case ho => k_is
  case hcd => k_is
  case hbody => exact rfl
  case hbind => exact rfl
  case c1 => exact rfl
  case c2 => exact rfl
  case c3 => exact rfl
  case hg => exact ⟨rfl, rfl, rfl⟩
  case hcell => decide
  case hN => rfl
  case hGs => decide +kernel
  case hnd => decide +kernel
  case hb => rfl
  case hvs => rfl
  intro env B r F
  kp_flats
  refine t_mSub T1 ?_
  kp_flats
  rw [e1]
  refine t_mSub T2 ?_
  kp_flats
  rw [e2]
  refine t_reSub P2 (fun R s I => let ⟨o, h1, h2, _⟩ := T2 R s I; ⟨o, h1, h2⟩) (finds2 tl) (by omega) (by decide +kernel) p2 (by rw [List.drop_zero]; omega) fun _ => ?_
  rw [List.drop_zero]
  kp_flats
  refine t_reSub P1 (fun R s I => let ⟨o, h1, h2, _⟩ := T1 R s I; ⟨o, h1, h2⟩) (finds1 (crlfL tl)) (by omega) (by decide +kernel) p1 (by rw [List.drop_zero]; show (dotsL true (crlfL tl)).length ≤ _; omega) fun _ => ?_
  rw [List.drop_zero]
  kp_flats
  exact ⟨R, by kas_types, _, rfl, kk _⟩
end
section
open PySem PySem.W PySem.Calls PyProof.Rows
theorem ints_at : ∀ {vs : List Value} {ns : List Int}, IntsAre vs ns → ∀ {j : Nat}, j < ns.length → ∃ t, vs[j]? = some (.int (ns.getD j 0) t)
  | _, _, .nil, _, h => absurd h (Nat.not_lt_zero _)
  | _, _, .cons i t r, 0, _ => ⟨t, rfl⟩
  | _, _, .cons i t r, j + 1, h => by
    obtain ⟨u, e⟩ := ints_at r (j := j) (by simpa using h)
    exact ⟨u, by simpa using e⟩
theorem rep_ints {t : Tok} (n : Nat) : IntsAre (List.replicate n [Value.int 0 t]).flatten (List.replicate n 0) := by
  have : (List.replicate n [Value.int 0 t]).flatten = List.replicate n (Value.int 0 t) := by simp
  rw [this]; exact ints_zeros n
set_option maxHeartbeats 0 in
theorem lad {X : Amb} {A : Around} {R : Led} {mg mb : Str → Option Value} (C : KOk X (hd.heap_39 X.w.params)) (G : GlobOk X mg mb) {p : Nat} {L : Addr} {vs : List Value} {ds : List Int} {t : Tok} {n : Nat} (hp : 0 < p) (hp' : p < 10) (hL : Has L (li vs) R) (hv : IntsAre vs ds) (hz : vs.length ≤ 100) (hr : Room A (n + 1))
    {Ψ : Value → Led → Prop} (kk : ∀ r E O es os, IntsAre es (addAll p ds (add0 p)).1 → IntsAre os (addAll p ds (add0 p)).2 → Ψ (.ref r) (ow r (li [.ref E, .ref O]) :: ow E (li es) :: ow O (li os) :: R)) :
    Tr X A R (call (.ref 123) [.ref L, .int p t] []) Ψ := by
  have g1 : mg (Str.ofString "range") = none := mg_none_of C.k G.g (by k_is)
  refine t_call ?_
  refine' tc_fnC (N := [Str.ofString "dots", Str.ofString "more"]) [Str.ofString "range"] [Str.ofString "d", Str.ofString "odd", Str.ofString "even", Str.ofString "prime"] [some (.ref L), none] [none, none, none, some (.int p t)] (binds := [(Str.ofString "dots", .ref L), (Str.ofString "prime", .int p t)]) C G hr ?ho ?hcd ?hbody ?hbind ?hg ?hCN [Str.ofString "dots", Str.ofString "prime"] ?hBN ?hk1 ?hGs ?hnd ?hcs ?hL ?hC ?_ ?c1 ?c2 ?c3
  case ho => k_is
  case hcd => k_is
  case hbody => exact rfl
  case hbind => exact rfl
  case c1 => exact rfl
  case c2 => exact rfl
  case c3 => exact rfl
  case hg => exact ⟨rfl, rfl, rfl⟩
  case hCN => exact fun L => rfl
  case hBN => exact rfl
  case hk1 => decide +kernel
  case hGs => decide +kernel
  case hnd => decide +kernel
  case hcs => decide +kernel
  case hL => exact fun x => Eq.trans rfl (look_pad ([Str.ofString "dots"]) ([Str.ofString "more"]) [some (.ref L)] 1 rfl x).symm
  case hC => exact rfl
  intro env B as hm r F hk hcode hqual
  obtain ⟨cD, cO, cE, cP, rfl⟩ := len4 hm
  have F : Fn env ([Str.ofString "dots", Str.ofString "more"]) ([Str.ofString "range"]) [(Str.ofString "d", cD), (Str.ofString "odd", cO), (Str.ofString "even", cE), (Str.ofString "prime", cP)] := F
  refine t_led (ow env.locals (fr ([Str.ofString "dots", Str.ofString "more"]) [some (.ref L), none]) :: ow cD (cl none) :: ow cO (cl none) :: ow cE (cl none) :: ow cP (cl (some (.int p t))) :: R) ?_ rfl
  have kD : env.kindOf (Str.ofString "d") = some .cell := hk _ (by (repeat (first | with_reducible exact List.mem_cons_self | with_reducible apply List.mem_cons_of_mem)))
  have kO : env.kindOf (Str.ofString "odd") = some .cell := hk _ (by (repeat (first | with_reducible exact List.mem_cons_self | with_reducible apply List.mem_cons_of_mem)))
  have kE : env.kindOf (Str.ofString "even") = some .cell := hk _ (by (repeat (first | with_reducible exact List.mem_cons_self | with_reducible apply List.mem_cons_of_mem)))
  clear hcode hqual hm
  kp_flats
  have e1 : (p : Int) - 1 = ((p - 1 : Nat) : Int) := by omega
  rw [e1]
  refine t_mulL .head (by omega) (by omega) (by simp; omega) fun D1 => ?_
  refine' t_addL (vs := [.int 1 _]) ?zb .head (by simp [sizeLine_eq]; omega) fun E0 => ?_
  case zb => (repeat (first | with_reducible exact Has.head | with_reducible assumption | with_reducible apply Has.tail | with_reducible apply Has.append))
  kp_flats
  refine t_mulL .head (by omega) (by omega) (by simp; omega) fun O0 => ?_
  kp_flats
  refine' t_iterL (vs := vs) ?za fun I => ?_
  case za => (repeat (first | with_reducible exact Has.head | with_reducible assumption | with_reducible apply Has.tail | with_reducible apply Has.append))
  refine TrC.weak (R' := ow I (lit L 0) :: ow O0 (li (List.replicate ((p : Int)).toNat [Value.int 0 _]).flatten) :: ow E0 (li ([Value.int 1 _] ++ (List.replicate (((p - 1 : Nat) : Int)).toNat [Value.int 0 _]).flatten)) :: ow env.locals (fr ([Str.ofString "dots", Str.ofString "more"]) [some (.ref L), none]) :: ow cD (cl none) :: ow cO (cl (some (.ref O0))) :: ow cE (cl (some (.ref E0))) :: ow cP (cl (some (.int p t))) :: R) (by kas_types) ?_
  have hdl : vs.length = ds.length := ints_len hv
  refine tc_for (iter_list (Room.h r) I L vs) (fun i S => ∃ (E O : Addr) (es os : List Value) (mv dv : Option Value), S = ow O (li os) :: ow E (li es) :: ow env.locals (fr ([Str.ofString "dots", Str.ofString "more"]) [some (.ref L), mv]) :: ow cD (cl dv) :: ow cO (cl (some (.ref O))) :: ow cE (cl (some (.ref E))) :: ow cP (cl (some (.int p t))) :: R ∧ IntsAre es (addAll p (ds.take i) (add0 p)).1 ∧ IntsAre os (addAll p (ds.take i) (add0 p)).2) ?_ ?_ ?_ ⟨E0, O0, _, _, none, none, rfl, ?ze, ?zo⟩ rfl
  case ze => exact IntsAre.append (.cons _ _ .nil) (rep_ints _)
  case zo => exact rep_ints _
  · rintro i S ⟨E, O, es, os, mv, dv, rfl, _, _⟩
    (repeat (first | with_reducible exact Has.head | with_reducible assumption | with_reducible apply Has.tail | with_reducible apply Has.append))
  · rintro i v T S hi ⟨E, O, es, os, mv, dv, rfl, he, ho⟩ ⟨hv', rfl⟩
    obtain ⟨d, td, rfl, hd⟩ := ints_get hv hv'
    have hsn : ds.take (i + 1) = ds.take i ++ [d] := by rw [List.take_add_one, hd]; rfl
    have hlen := addAll_len (p := p) (ds := ds.take i) (eo := add0 p) (by simp [add0]; omega) (by simp [add0])
    rw [hsn, addAll_snoc]
    generalize addAll p (ds.take i) (add0 p) = eo at he ho hlen ⊢
    obtain ⟨el, ol⟩ := eo
    dsimp only at he ho hlen ⊢
    show Tr X B (ow I (lit L (i + 1)) :: ow O (li os) :: ow E (li es) :: ow env.locals _ :: ow cD _ :: ow cO _ :: ow cE _ :: ow cP _ :: R) _ _
    kp_flats
    have key : ∀ (P S : Led) (c1 c2 : Str) (a1 a2 : Addr) (E1 E2 : Addr) (l1 l2 : List Value) (n1 n2 : List Int) (cl' : List (Str × Addr)) (cenv : Env) (i : Nat) (ti : Tok) (p1 p2 p3 p4 p5 p6 p7 p8 p9 pa pb : Pos), n1.length = p → n2.length = p → IntsAre l1 n1 → IntsAre l2 n2 →
        Fn cenv ([Str.ofString "r"]) [] cl' → (c1, a1) ∈ cl' → (c2, a2) ∈ cl' → (Str.ofString "d", cD) ∈ cl' → (Str.ofString "prime", cP) ∈ cl' → Has a1 (cl (some (.ref E1))) S → Has a2 (cl (some (.ref E2))) S → Has cD (cl (some (.int d td))) S → Has cP (cl (some (.int p t))) S → Has E1 (li l1) S → Has E2 (li l2) S → i < p →
        Tr X B (P ++ (ow cenv.locals (fr ([Str.ofString "r"]) [some (.int i ti)]) :: S)) (eval (.BinOp (.Subscript (.Name c1 p1) (.Name (Str.ofString "r") p2) p3) .Add (.Subscript (.Name c2 p4) (.BinOp (.BinOp (.Name (Str.ofString "r") p5) .Sub (.Name (Str.ofString "d") p6) p7) .Mod (.Name (Str.ofString "prime") p8) p9) pa) pb) cenv) fun y R2 =>
          (P ++ (ow cenv.locals (fr ([Str.ofString "r"]) [some (.int i ti)]) :: S)).Sublist R2 ∧ ∃ t, y = .int ((addStep p d n1 n2).getD i 0) t := by
      intro P S c1 c2 a1 a2 E1 E2 l1 l2 n1 n2 cl' cenv i ti p1 p2 p3 p4 p5 p6 p7 p8 p9 pa pb hn1 hn2 hi1 hi2 Fc m1 m2 m3 m4 h1 h2 h3 h4 h5 h6 hip
      have ga : ∀ {a : Addr} {c : Cell}, Has a c S → Has a c (P ++ (ow cenv.locals (fr ([Str.ofString "r"]) [some (.int i ti)]) :: S)) := fun h => (Has.tail h).append
      have gl : Has cenv.locals (fr ([Str.ofString "r"]) [some (.int i ti)]) (P ++ (ow cenv.locals (fr ([Str.ofString "r"]) [some (.int i ti)]) :: S)) := Has.head.append
      obtain ⟨t1, e1⟩ := ints_at hi1 (j := i) (by omega)
      have hq : ((i : Int) - d).fmod p = ((((i : Int) - d) % p).toNat : Int) := by
        rw [Int.fmod_eq_emod_of_nonneg _ (by omega)]
        have := Int.emod_nonneg ((i : Int) - d) (b := (p : Int)) (by omega)
        omega
      have hq2 : (((i : Int) - d) % p).toNat < p := by
        have := Int.emod_nonneg ((i : Int) - d) (b := (p : Int)) (by omega)
        have := Int.emod_lt_of_pos ((i : Int) - d) (b := (p : Int)) (by omega)
        omega
      obtain ⟨t2, e2⟩ := ints_at hi2 (j := (((i : Int) - d) % p).toNat) (by omega)
      refine t_binop (t_subscr (f_nameC Fc m1 (ga h1) (f_name Fc gl .head ?_)))
      refine t_subL (ga h5) (by omega) (by omega) (by rw [Int.toNat_natCast]; exact e1) ?_ rfl
      refine t_subscr (f_nameC Fc m2 (ga h2) (t_binop (t_binop (f_name Fc gl .head (f_nameC Fc m3 (ga h3) (t_sub fun _ => f_nameC Fc m4 (ga h4) (t_mod (by omega) fun _ => ?_)))))))
      rw [hq]
      refine t_subL (ga h6) (by omega) (by omega) (by rw [Int.toNat_natCast]; exact e2) ?_ rfl
      refine t_add fun t' => ⟨List.Sublist.refl _, t', ?_⟩
      congr 1
      unfold addStep
      rw [List.getD_eq_getElem?_getD (l := List.map _ _), List.getElem?_map, List.getElem?_range hip]
      rfl
    have fin : ∀ {n1 n2 : List Int} {ys : List Value}, Got p (fun j v => ∃ t, v = .int ((addStep p d n1 n2).getD j 0) t) ys → IntsAre ys (addStep p d n1 n2) := fun {n1 n2 ys} h => by
      have := h.ints (f := fun j => (addStep p d n1 n2).getD j 0)
      have e : (List.range p).map (fun j => (addStep p d n1 n2).getD j 0) = addStep p d n1 n2 := by
        apply List.ext_getElem
        · simp [addStep]
        · intro j h1 h2
          simp only [List.getElem_map, List.getElem_range]
          rw [List.getD_eq_getElem?_getD, List.getElem?_eq_getElem h2]; rfl
      rwa [e] at this
    refine t_asgR (x := Str.ofString "r") (Gs' := []) (cl := [(Str.ofString "prime", cP), (Str.ofString "odd", cO), (Str.ofString "even", cE), (Str.ofString "d", cD)]) (Room.h r) F rfl (coScope ([Str.ofString "prime", Str.ofString "odd", Str.ofString "even", Str.ofString "d"]) rfl (by decide +kernel)) (fun _ => rfl) (by (repeat (first | with_reducible exact List.mem_cons_self | with_reducible apply List.mem_cons_of_mem))) rfl (by decide +kernel) ?_
    kp_flats
    refine t_range1 fun rr => ?_
    refine ⟨rr, p, fun j v => ∃ t, v = .int ((addStep p d el ol).getD j 0) t, rfl, .head, by omega, ?_, ?_⟩
    · rintro cenv Fc P i v hip ⟨ti, rfl⟩
      refine' key P _ _ _ cE cO E O es os el ol _ cenv i ti _ _ _ _ _ _ _ _ _ _ _ hlen.1 hlen.2 he ho Fc ?m1 ?m2 ?m3 ?m4 ?h1 ?h2 ?h3 ?h4 ?h5 ?h6 hip
      case m1 => (repeat (first | with_reducible exact List.mem_cons_self | with_reducible apply List.mem_cons_of_mem))
      case m2 => (repeat (first | with_reducible exact List.mem_cons_self | with_reducible apply List.mem_cons_of_mem))
      case m3 => (repeat (first | with_reducible exact List.mem_cons_self | with_reducible apply List.mem_cons_of_mem))
      case m4 => (repeat (first | with_reducible exact List.mem_cons_self | with_reducible apply List.mem_cons_of_mem))
      case h1 => (repeat (first | with_reducible exact Has.head | with_reducible assumption | with_reducible apply Has.tail | with_reducible apply Has.append))
      case h2 => (repeat (first | with_reducible exact Has.head | with_reducible assumption | with_reducible apply Has.tail | with_reducible apply Has.append))
      case h3 => (repeat (first | with_reducible exact Has.head | with_reducible assumption | with_reducible apply Has.tail | with_reducible apply Has.append))
      case h4 => (repeat (first | with_reducible exact Has.head | with_reducible assumption | with_reducible apply Has.tail | with_reducible apply Has.append))
      case h5 => (repeat (first | with_reducible exact Has.head | with_reducible assumption | with_reducible apply Has.tail | with_reducible apply Has.append))
      case h6 => (repeat (first | with_reducible exact Has.head | with_reducible assumption | with_reducible apply Has.tail | with_reducible apply Has.append))

    intro M ms hms
    refine ⟨_, _, _, .tail .head, by (repeat (first | with_reducible exact Upd.head | with_reducible apply Upd.tail | with_reducible apply Upd.append)), ?_⟩
    kp_flats
    refine t_assign ?_ (swap_cell kO)
    refine t_compR (x := Str.ofString "r") (Gs' := []) (cl := [(Str.ofString "prime", cP), (Str.ofString "odd", cO), (Str.ofString "even", cE), (Str.ofString "d", cD)]) (Room.h r) F rfl (coScope ([Str.ofString "prime", Str.ofString "odd", Str.ofString "even", Str.ofString "d"]) rfl (by decide +kernel)) (fun _ => rfl) ?_
    kp_flats
    refine t_range1 fun rr2 => ?_
    refine ⟨rr2, p, fun j v => ∃ t, v = .int ((addStep p d ol el).getD j 0) t, rfl, .head, by omega, ?_, ?_⟩
    · rintro cenv Fc P i v hip ⟨ti, rfl⟩
      refine' key P _ _ _ cO cE O E os es ol el _ cenv i ti _ _ _ _ _ _ _ _ _ _ _ hlen.2 hlen.1 ho he Fc ?mm1 ?mm2 ?mm3 ?mm4 ?hh1 ?hh2 ?hh3 ?hh4 ?hh5 ?hh6 hip
      case mm1 => (repeat (first | with_reducible exact List.mem_cons_self | with_reducible apply List.mem_cons_of_mem))
      case mm2 => (repeat (first | with_reducible exact List.mem_cons_self | with_reducible apply List.mem_cons_of_mem))
      case mm3 => (repeat (first | with_reducible exact List.mem_cons_self | with_reducible apply List.mem_cons_of_mem))
      case mm4 => (repeat (first | with_reducible exact List.mem_cons_self | with_reducible apply List.mem_cons_of_mem))
      case hh1 => (repeat (first | with_reducible exact Has.head | with_reducible assumption | with_reducible apply Has.tail | with_reducible apply Has.append))
      case hh2 => (repeat (first | with_reducible exact Has.head | with_reducible assumption | with_reducible apply Has.tail | with_reducible apply Has.append))
      case hh3 => (repeat (first | with_reducible exact Has.head | with_reducible assumption | with_reducible apply Has.tail | with_reducible apply Has.append))
      case hh4 => (repeat (first | with_reducible exact Has.head | with_reducible assumption | with_reducible apply Has.tail | with_reducible apply Has.append))
      case hh5 => (repeat (first | with_reducible exact Has.head | with_reducible assumption | with_reducible apply Has.tail | with_reducible apply Has.append))
      case hh6 => (repeat (first | with_reducible exact Has.head | with_reducible assumption | with_reducible apply Has.tail | with_reducible apply Has.append))

    intro O' os' hos'
    show Tr X B (ow O' (li os') :: _) _ _
    refine Tr.weak (R' := ow O' (li os') :: ow M (li ms) :: ow I (lit L (i + 1)) :: ow env.locals (fr ([Str.ofString "dots", Str.ofString "more"]) [some (.ref L), some (.ref M)]) :: ow cD (cl (some (.int d td))) :: ow cO (cl (some (.ref O))) :: ow cE (cl (some (.ref E))) :: ow cP (cl (some (.int p t))) :: R) (by kas_types) (Tr.front [_, _] ?_)
    show Tr X B (ow I (lit L (i + 1)) :: ow O' (li os') :: ow M (li ms) :: ow env.locals _ :: ow cD _ :: ow cO _ :: ow cE _ :: ow cP _ :: R) _ _
    kp_flats
    exact ⟨_, List.Sublist.refl _, M, O', ms, os', _, _, rfl, fin hms, fin hos'⟩
  · rintro S ⟨E, O, es, os, mv, dv, rfl, he, ho⟩
    rw [hdl, List.take_length] at he ho
    refine Tr.front [_] ?_
    show Tr X B (ow E (li es) :: ow O (li os) :: ow env.locals _ :: ow cD _ :: ow cO _ :: ow cE _ :: ow cP _ :: R) _ _
    kp_flats
    exact ⟨ow _ (li [.ref E, .ref O]) :: ow E (li es) :: ow O (li os) :: R, by kas_types, _, rfl, kk _ _ _ _ _ he ho⟩
end
section
open PySem PySem.W PySem.Calls PyProof.Rows
def drawsOf (xs : List Int) : List Int := xs.take 10
def totalOf (xs : List Int) : Nat := (((drawsOf xs).map (· % 1000)).sum).toNat
def primeOf (T : Nat) : Nat := [3, 2, 5].getD (T % 3) 0
def countOf (T : Nat) : Nat := 4 + T / 3 % 3
def numsOf (xs : List Int) (c : Nat) : List Nat := ((drawsOf xs ++ ([0, 7, 8, 15, 16, 23] : List Int).drop (drawsOf xs).length).take c).map fun x => (x % 24).toNat
set_option maxHeartbeats 0 in
theorem lawc {X : Amb} {A : Around} {R : Led} {mg mb : Str → Option Value} (C : KOk X (hd.heap_39 X.w.params)) (G : GlobOk X mg mb) (hT1 : tabI ∈ X.tabs) (hT2 : tabD ∈ X.tabs) {S : Addr} {vs : List Value} {xs : List Int} (hS : X.h₀.IsList S vs.toArray) (hSt : ∀ t ∈ X.tabs, S ≠ t.P) (hv : IntsAre vs xs) (hz : vs.length ≤ 63) (hr : Room A 600)
    {Ψ : Value → Led → Prop} (kk : Ψ (.bool true) R) :
    Tr X A R (call (.ref 128) [.ref S] []) Ψ := by
  have g1 : mg (Str.ofString "sum") = none := mg_none_of C.k G.g (by k_is)
  have g2 : mg (Str.ofString "len") = none := mg_none_of C.k G.g (by k_is)
  have g3 : mg (Str.ofString "range") = none := mg_none_of C.k G.g (by k_is)
  have g4 : mg (Str.ofString "zip") = none := mg_none_of C.k G.g (by k_is)
  have g5 : mg (Str.ofString "chr") = none := mg_none_of C.k G.g (by k_is)
  have g6 := mg_of (n := Str.ofString "quotedata") C.k G.g (by k_is)
  have g7 := mg_of (n := Str.ofString "_strip_exception_details") C.k G.g (by k_is)
  have g8 := mg_of (n := Str.ofString "_levenshtein_distance") C.k G.g (by k_is)
  have g9 := mg_of (n := Str.ofString "_law_folded") C.k G.g (by k_is)
  have ga := mg_of (n := Str.ofString "_law_added") C.k G.g (by k_is)
  refine t_call ?_
  refine' tc_fnC (N := [Str.ofString "script", Str.ofString "draws", Str.ofString "total", Str.ofString "count", Str.ofString "text", Str.ofString "prices", Str.ofString "row", Str.ofString "name", Str.ofString "bare", Str.ofString "d", Str.ofString "dots", Str.ofString "plus", Str.ofString "minus", Str.ofString "apart"]) [Str.ofString "sum", Str.ofString "len", Str.ofString "range", Str.ofString "quotedata", Str.ofString "zip", Str.ofString "_strip_exception_details", Str.ofString "_levenshtein_distance", Str.ofString "_law_folded", Str.ofString "_law_added"] [Str.ofString "power", Str.ofString "odd", Str.ofString "even", Str.ofString "turn", Str.ofString "ends", Str.ofString "names", Str.ofString "first", Str.ofString "numbers", Str.ofString "prime"] [some (.ref S), none, none, none, none, none, none, none, none, none, none, none, none, none] [none, none, none, none, none, none, none, none, none] (binds := [(Str.ofString "script", .ref S)]) C G hr ?ho ?hcd ?hbody ?hbind ?hg ?hCN [Str.ofString "script"] ?hBN ?hk1 ?hGs ?hnd ?hcs ?hL ?hC ?_ ?c1 ?c2 ?c3
  case ho => k_is
  case hcd => k_is
  case hbody => exact rfl
  case hbind => exact rfl
  case c1 => exact rfl
  case c2 => exact rfl
  case c3 => exact rfl
  case hg => exact ⟨rfl, rfl, rfl⟩
  case hCN => exact fun L => rfl
  case hBN => exact rfl
  case hk1 => decide +kernel
  case hGs => decide +kernel
  case hnd => decide +kernel
  case hcs => decide +kernel
  case hL => exact fun x => Eq.trans rfl (look_pad ([Str.ofString "script"]) ([Str.ofString "draws", Str.ofString "total", Str.ofString "count", Str.ofString "text", Str.ofString "prices", Str.ofString "row", Str.ofString "name", Str.ofString "bare", Str.ofString "d", Str.ofString "dots", Str.ofString "plus", Str.ofString "minus", Str.ofString "apart"]) [some (.ref S)] 13 rfl x).symm
  case hC => exact rfl
  intro env B as hm r F hk hcode hqual
  obtain ⟨cPow, cOdd, cEven, cTurn, cEnds, cNames, cFirst, cNums, cPrime, rfl⟩ := len9 hm
  clear hcode hqual hm
  have F : Fn env ([Str.ofString "script", Str.ofString "draws", Str.ofString "total", Str.ofString "count", Str.ofString "text", Str.ofString "prices", Str.ofString "row", Str.ofString "name", Str.ofString "bare", Str.ofString "d", Str.ofString "dots", Str.ofString "plus", Str.ofString "minus", Str.ofString "apart"]) ([Str.ofString "sum", Str.ofString "len", Str.ofString "range", Str.ofString "quotedata", Str.ofString "zip", Str.ofString "_strip_exception_details", Str.ofString "_levenshtein_distance", Str.ofString "_law_folded", Str.ofString "_law_added"]) [(Str.ofString "power", cPow), (Str.ofString "odd", cOdd), (Str.ofString "even", cEven), (Str.ofString "turn", cTurn), (Str.ofString "ends", cEnds), (Str.ofString "names", cNames), (Str.ofString "first", cFirst), (Str.ofString "numbers", cNums), (Str.ofString "prime", cPrime)] := F
  refine t_led (ow env.locals (fr ([Str.ofString "script", Str.ofString "draws", Str.ofString "total", Str.ofString "count", Str.ofString "text", Str.ofString "prices", Str.ofString "row", Str.ofString "name", Str.ofString "bare", Str.ofString "d", Str.ofString "dots", Str.ofString "plus", Str.ofString "minus", Str.ofString "apart"]) [some (.ref S), none, none, none, none, none, none, none, none, none, none, none, none, none]) :: ow cPow (cl none) :: ow cOdd (cl none) :: ow cEven (cl none) :: ow cTurn (cl none) :: ow cEnds (cl none) :: ow cNames (cl none) :: ow cFirst (cl none) :: ow cNums (cl none) :: ow cPrime (cl none) :: R) ?_ rfl
  have kPow : env.kindOf (Str.ofString "power") = some .cell := hk _ (by (repeat (first | with_reducible exact List.mem_cons_self | with_reducible apply List.mem_cons_of_mem)))
  have kOdd : env.kindOf (Str.ofString "odd") = some .cell := hk _ (by (repeat (first | with_reducible exact List.mem_cons_self | with_reducible apply List.mem_cons_of_mem)))
  have kEven : env.kindOf (Str.ofString "even") = some .cell := hk _ (by (repeat (first | with_reducible exact List.mem_cons_self | with_reducible apply List.mem_cons_of_mem)))
  have kTurn : env.kindOf (Str.ofString "turn") = some .cell := hk _ (by (repeat (first | with_reducible exact List.mem_cons_self | with_reducible apply List.mem_cons_of_mem)))
  have kEnds : env.kindOf (Str.ofString "ends") = some .cell := hk _ (by (repeat (first | with_reducible exact List.mem_cons_self | with_reducible apply List.mem_cons_of_mem)))
  have kNames : env.kindOf (Str.ofString "names") = some .cell := hk _ (by (repeat (first | with_reducible exact List.mem_cons_self | with_reducible apply List.mem_cons_of_mem)))
  have kFirst : env.kindOf (Str.ofString "first") = some .cell := hk _ (by (repeat (first | with_reducible exact List.mem_cons_self | with_reducible apply List.mem_cons_of_mem)))
  have kNums : env.kindOf (Str.ofString "numbers") = some .cell := hk _ (by (repeat (first | with_reducible exact List.mem_cons_self | with_reducible apply List.mem_cons_of_mem)))
  have kPrime : env.kindOf (Str.ofString "prime") = some .cell := hk _ (by (repeat (first | with_reducible exact List.mem_cons_self | with_reducible apply List.mem_cons_of_mem)))
  clear hk
  have hxl : vs.length = xs.length := ints_len hv
  kp_flats
  refine t_cutL (vs := vs) (by rw [sizeLine_eq]; omega) (fun s I => hS.at fun o e => InvH.kept I _ _ e hSt) .head .none (.int _ _) fun DL => ?_
  have hdv := slice_ints_uptoW hv (y := 10) (by decide)
  generalize (slicePick vs.toArray none (some 10) none).toList = dvs at hdv
  have hdl : dvs.length ≤ 10 := by rw [ints_len hdv, List.length_take]; exact Nat.min_le_left _ _
  kp_flats
  refine t_compL (x := Str.ofString "x") (Gs' := []) (cl := []) (Room.h r) F rfl (coScope [] rfl (by decide +kernel)) (fun _ => rfl) ?_
  kp_flats
  refine ⟨DL, dvs, fun j v => ∃ t, v = .int ((((drawsOf xs).map (· % 1000))).getD j 0) t, rfl, by (repeat (first | with_reducible exact Has.head | with_reducible assumption | with_reducible apply Has.tail | with_reducible apply Has.append)), by omega, ?_, ?_⟩
  · intro cenv Fc P i v hi hvi
    obtain ⟨m, t, rfl, hm⟩ := ints_get hdv hvi
    kp_flats
    refine t_mod (by decide) fun _ => ?_
    exact ⟨by kas_types, int_eq (by rw [getD_map (m := m) (by simpa [drawsOf] using hm), fmod_pos _ _ (by decide)])⟩
  intro D ys hys
  have hdl2 : dvs.length = ((drawsOf xs).map (· % 1000)).length := by rw [List.length_map, ints_len hdv]; rfl
  have hys' := Got.list hdl2 hys
  have hmod : ∀ n ∈ (drawsOf xs).map (· % 1000), 0 ≤ n ∧ n ≤ 1000 := fun n hn => by
    obtain ⟨m, _, rfl⟩ := List.mem_map.mp hn
    show 0 ≤ m % 1000 ∧ m % 1000 ≤ 1000
    omega
  kp_flats
  refine t_sum (Room.h r) .head hys' (by omega) hmod fun tT => ?_
  have hT : (((drawsOf xs).map (· % 1000)).sum) = ((totalOf xs : Nat) : Int) := by
    unfold totalOf
    have : ∀ m : List Int, (∀ n ∈ m, 0 ≤ n ∧ n ≤ 1000) → 0 ≤ m.sum := by
      intro m
      induction m with
      | nil => intro _; simp
      | cons a m ih =>
        intro h
        have h1 := h a (.head _)
        have h2 := ih fun n hn => h n (.tail _ hn)
        simp only [List.sum_cons]
        omega
    have := this _ hmod
    omega
  rw [hT]
  clear hys hys' hmod hdl2 hT
  refine Tr.weak (R' := ow DL (li dvs) :: ow env.locals (fr ([Str.ofString "script", Str.ofString "draws", Str.ofString "total", Str.ofString "count", Str.ofString "text", Str.ofString "prices", Str.ofString "row", Str.ofString "name", Str.ofString "bare", Str.ofString "d", Str.ofString "dots", Str.ofString "plus", Str.ofString "minus", Str.ofString "apart"]) [some (.ref S), some (.ref DL), none, none, none, none, none, none, none, none, none, none, none, none]) :: ow cPow (cl none) :: ow cOdd (cl none) :: ow cEven (cl none) :: ow cTurn (cl none) :: ow cEnds (cl none) :: ow cNames (cl none) :: ow cFirst (cl none) :: ow cNums (cl none) :: ow cPrime (cl none) :: R) (by kas_types) ?_
  generalize hTT : totalOf xs = T
  kp_flats
  refine t_mod (by decide) fun _ => ?_
  rw [fmod_pos _ _ (by decide)]
  have hq : ((T : Nat) : Int) % 3 = ((T % 3 : Nat) : Int) := by omega
  rw [hq]
  refine t_subL .head (by omega) (by omega) (pk3 3 2 5 (T % 3) (Nat.mod_lt _ (by decide)) _ _ _) ?_ rfl
  have hP : ([3, 2, 5] : List Int).getD (T % 3) 0 = ((primeOf T : Nat) : Int) := getD_cast [3, 2, 5] (T % 3)
  rw [hP]
  have hpp : primeOf T = 2 ∨ primeOf T = 3 ∨ primeOf T = 5 := by
    unfold primeOf
    have : T % 3 < 3 := Nat.mod_lt _ (by decide)
    generalize T % 3 = q at this
    match q, this with
    | 0, _ => exact .inr (.inl rfl)
    | 1, _ => exact .inl rfl
    | 2, _ => exact .inr (.inr rfl)
  generalize primeOf T = p at hpp ⊢
  kp_flats
  refine t_fdiv (by decide) (by decide) fun _ => ?_
  rw [fdiv_pos _ _ (by decide)]
  kp_flats
  refine t_mod (by decide) fun _ => ?_
  rw [fmod_pos _ _ (by decide)]
  kp_flats
  have hc : (4 : Int) + (T : Int) / 3 % 3 = ((countOf T : Nat) : Int) := by unfold countOf; push_cast; rfl
  rw [hc]
  have hcc : 4 ≤ countOf T ∧ countOf T ≤ 6 := by unfold countOf; omega
  generalize hcT : countOf T = c at hcc ⊢
  kp_flats
  have hdz : dvs.length ≤ sizeLine := by rw [sizeLine_eq]; omega
  have hd0 : dvs.length = (drawsOf xs).length := by rw [ints_len hdv]; rfl
  refine t_assign ?_ (swap_cell kNums)
  refine t_compL (x := Str.ofString "x") (Gs' := []) (cl := []) (Room.h r) F rfl (coScope [] rfl (by decide +kernel)) (fun _ => rfl) ?_
  kp_flats
  refine' t_from (ns := [0, 7, 8, 15, 16, 23]) (by simp) ?a2 .head (.cons _ _ (.cons _ _ (.cons _ _ (.cons _ _ (.cons _ _ (.cons _ _ .nil)))))) (by omega) fun FL fvs hfv => ?_
  case a2 => (repeat (first | with_reducible exact Has.head | with_reducible assumption | with_reducible apply Has.tail | with_reducible apply Has.append))
  rw [Int.toNat_natCast, hd0] at hfv
  have hfl : fvs.length ≤ 6 := by rw [ints_len hfv, List.length_drop]; exact Nat.sub_le _ _
  refine' t_addL (vs := dvs) ?a3 .head (by rw [sizeLine_eq]; omega) fun GL => ?_
  case a3 => (repeat (first | with_reducible exact Has.head | with_reducible assumption | with_reducible apply Has.tail | with_reducible apply Has.append))
  kp_flats
  have hgv := IntsAre.append hdv hfv
  refine' t_upto (vs := dvs ++ fvs) (by rw [List.length_append]; omega) ?a4 .head hgv (by omega) fun NS nsv hns => ?_
  case a4 => (repeat (first | with_reducible exact Has.head | with_reducible assumption | with_reducible apply Has.tail | with_reducible apply Has.append))
  rw [Int.toNat_natCast] at hns
  have hsl : nsv.length = c := by
    rw [ints_len hns, List.length_take, List.length_append, List.length_drop]
    have e6 : ([0, 7, 8, 15, 16, 23] : List Int).length = 6 := rfl
    rw [e6]
    show min c ((drawsOf xs).length + (6 - (drawsOf xs).length)) = c
    omega
  generalize List.take c (List.take (Int.toNat 10) xs ++ List.drop (drawsOf xs).length [0, 7, 8, 15, 16, 23]) = src at hns
  obtain ⟨num, hnum⟩ : ∃ num : Nat → Nat, num = fun j => ((src.getD j 0) % 24).toNat := ⟨_, rfl⟩
  have hnl : ∀ j, num j < 24 := fun j => by rw [hnum]; show ((src.getD j 0) % 24).toNat < 24; omega
  refine ⟨NS, nsv, fun j v => ∃ t, v = .int ((num j : Nat) : Int) t, rfl, .head, by omega, ?_, ?_⟩
  · intro cenv Fc P i v hi hvi
    obtain ⟨m, t, rfl, hm⟩ := ints_get hns hvi
    kp_flats
    refine t_mod (by decide) fun _ => ?_
    refine ⟨by kas_types, int_eq ?_⟩
    rw [fmod_pos _ _ (by decide), hnum]
    show m % 24 = (((src.getD i 0) % 24).toNat : Int)
    rw [List.getD_eq_getElem?_getD, hm]
    show m % 24 = ((m % 24).toNat : Int)
    omega
  intro NL nv hnv
  rw [hsl] at hnv
  clear hns hsl hgv hfl hfv hnum
  kp_flats
  show Tr X B (ow NL (li nv) :: _) _ _
  refine Tr.weak (R' := ow NL (li nv) :: ow env.locals (fr ([Str.ofString "script", Str.ofString "draws", Str.ofString "total", Str.ofString "count", Str.ofString "text", Str.ofString "prices", Str.ofString "row", Str.ofString "name", Str.ofString "bare", Str.ofString "d", Str.ofString "dots", Str.ofString "plus", Str.ofString "minus", Str.ofString "apart"]) [some (.ref S), some (.ref DL), some (.int T _), some (.int c _), none, none, none, none, none, none, none, none, none, none]) :: ow cPow (cl none) :: ow cOdd (cl none) :: ow cEven (cl none) :: ow cTurn (cl none) :: ow cEnds (cl none) :: ow cNames (cl none) :: ow cFirst (cl none) :: ow cNums (cl (some (.ref NL))) :: ow cPrime (cl (some (.int p _))) :: R) (by kas_types) ?_
  rename_i tpr _ _ _ _ tc _ _ _ _ _ _ _ _ _ _
  obtain ⟨d0, hd0⟩ : ∃ d0 : Nat → Nat, d0 = fun j => [1, 4, 1, 2].getD (num j % 4) 0 := ⟨_, rfl⟩
  refine t_assign ?_ (swap_cell kFirst)
  refine t_compL (x := Str.ofString "x") (Gs' := []) (cl := []) (Room.h r) F rfl (coScope [] rfl (by decide +kernel)) (fun _ => rfl) ?_
  kp_flats
  refine ⟨NL, nv, fun j v => ∃ t, v = .int ((d0 j : Nat) : Int) t, rfl, .head, by rw [hnv.1]; omega, ?_, ?_⟩
  · intro cenv Fc P i v hi hvi
    obtain ⟨t, rfl⟩ := hnv.2 i v hvi
    kp_flats
    refine t_mod (by decide) fun _ => ?_
    rw [fmod_pos _ _ (by decide), show ((num i : Nat) : Int) % 4 = ((num i % 4 : Nat) : Int) by omega]
    refine t_subL .head (by omega) (by omega) (pk4 1 4 1 2 (num i % 4) (Nat.mod_lt _ (by decide)) _ _ _ _) ?_ rfl
    refine ⟨by kas_types, int_eq ?_⟩
    rw [hd0]
    exact getD_cast [1, 4, 1, 2] (num i % 4)
  intro FL1 fv hfv
  rw [hnv.1] at hfv
  have hd3 : ∀ j, d0 j = 1 ∨ d0 j = 2 ∨ d0 j = 4 := fun j => by
    rw [hd0]
    show [1, 4, 1, 2].getD (num j % 4) 0 = 1 ∨ [1, 4, 1, 2].getD (num j % 4) 0 = 2 ∨ [1, 4, 1, 2].getD (num j % 4) 0 = 4
    have : num j % 4 < 4 := Nat.mod_lt _ (by decide)
    generalize num j % 4 = q at this
    match q, this with
    | 0, _ => exact .inl rfl
    | 1, _ => exact .inr (.inr rfl)
    | 2, _ => exact .inl rfl
    | 3, _ => exact .inr (.inl rfl)
  have hdb : ∀ j, 1 ≤ d0 j ∧ d0 j ≤ 4 := fun j => by have := hd3 j; omega
  kp_flats
  obtain ⟨ll, hll⟩ : ∃ ll : Nat → Nat, ll = fun j => num j / 12 := ⟨_, rfl⟩
  have hlb : ∀ j, ll j < 2 := fun j => by rw [hll]; show num j / 12 < 2; have := hnl j; omega
  refine t_assign ?_ (swap_cell kNames)
  refine t_compR (x := Str.ofString "k") (Gs' := [Str.ofString "chr"]) (cl := [(Str.ofString "numbers", cNums)]) (Room.h r) F rfl (coScope ([Str.ofString "numbers"]) rfl (by decide +kernel)) (fun _ => rfl) ?_
  kp_flats
  refine t_range1 fun rg1 => ?_
  refine ⟨rg1, c, fun j v => ∃ t, v = .str (toS (List.replicate (ll j + 1) (97 + j))) t, rfl, .head, by omega, ?_, ?_⟩
  · rintro cenv Fc P i v hi ⟨ti, rfl⟩
    obtain ⟨nvi, hn1, tn, rfl⟩ := got_strs_at hnv hi
    kp_flats
    have e97 : (97 : Int) + (i : Int) = ((97 + i : Nat) : Int) := by push_cast; rfl
    rw [e97]
    refine t_chr (by omega) fun _ => ?_
    kp_flats
    refine' t_subL (vs := nv) ?b1 (by omega) (by omega) (by rw [Int.toNat_natCast]; exact hn1) ?b2 rfl
    case b1 => (repeat (first | with_reducible exact Has.head | with_reducible assumption | with_reducible apply Has.tail | with_reducible apply Has.append))
    kp_flats
    refine t_fdiv (by decide) (by decide) fun _ => ?_
    rw [fdiv_pos _ _ (by decide)]
    kp_flats
    have e12 : (1 : Int) + ((num i : Nat) : Int) / 12 = ((ll i + 1 : Nat) : Int) := by rw [hll]; push_cast; omega
    rw [e12]
    refine t_mulC (by have := hlb i; omega) fun _ => ?_
    exact ⟨by kas_types, _, rfl⟩
  intro ML mv hmv
  kp_flats
  obtain ⟨en, hen⟩ : ∃ en : Nat → List Nat, en = fun j => [[10], [13], [13, 10]].getD (num j / 4 % 3) [10] := ⟨_, rfl⟩
  refine t_assign ?_ (swap_cell kEnds)
  refine t_compL (x := Str.ofString "x") (Gs' := []) (cl := []) (Room.h r) F rfl (coScope [] rfl (by decide +kernel)) (fun _ => rfl) ?_
  kp_flats
  refine ⟨NL, nv, fun j v => ∃ t, v = .str (toS (en j)) t, rfl, by (repeat (first | with_reducible exact Has.head | with_reducible assumption | with_reducible apply Has.tail | with_reducible apply Has.append)), by rw [hnv.1]; omega, ?_, ?_⟩
  · intro cenv Fc P i v hi hvi
    obtain ⟨t, rfl⟩ := hnv.2 i v hvi
    kp_flats
    refine t_fdiv (by decide) (by decide) fun _ => ?_
    rw [fdiv_pos _ _ (by decide)]
    kp_flats
    refine t_mod (by decide) fun _ => ?_
    rw [fmod_pos _ _ (by decide), show ((num i : Nat) : Int) / 4 % 3 = ((num i / 4 % 3 : Nat) : Int) by omega]
    refine t_subL .head (by omega) (by omega) (pk3s _ _ _ (num i / 4 % 3) (Nat.mod_lt _ (by decide)) _ _ _) ?_ rfl
    refine ⟨by kas_types, str_eq ?_⟩
    rw [hen]
    have : num i / 4 % 3 < 3 := Nat.mod_lt _ (by decide)
    show _ = toS ([[10], [13], [13, 10]].getD (num i / 4 % 3) [10])
    generalize num i / 4 % 3 = q at this
    match q, this with
    | 0, _ => decide +kernel
    | 1, _ => decide +kernel
    | 2, _ => decide +kernel
  intro EL ev hev
  rw [hnv.1] at hev
  have hens : ∀ j, en j = [10] ∨ en j = [13] ∨ en j = [13, 10] := fun j => by
    rw [hen]
    have : num j / 4 % 3 < 3 := Nat.mod_lt _ (by decide)
    show [[10], [13], [13, 10]].getD (num j / 4 % 3) [10] = [10] ∨ [[10], [13], [13, 10]].getD (num j / 4 % 3) [10] = [13] ∨ [[10], [13], [13, 10]].getD (num j / 4 % 3) [10] = [13, 10]
    generalize num j / 4 % 3 = q at this
    match q, this with
    | 0, _ => exact .inl rfl
    | 1, _ => exact .inr (.inl rfl)
    | 2, _ => exact .inr (.inr rfl)
  clear hen hll hd0
  kp_flats
  have eE : Str.ofString "" = toS [] := by decide +kernel
  have eD : Str.ofString "." = toS [46] := by decide +kernel
  have eN : Str.ofString "\r\n" = toS [13, 10] := by decide +kernel
  rw [eE]
  refine t_mJoin ?_
  kp_flats
  refine t_compR (x := Str.ofString "k") (Gs' := []) (cl := [(Str.ofString "names", cNames), (Str.ofString "first", cFirst), (Str.ofString "ends", cEnds)]) (Room.h r) F rfl (coScope ([Str.ofString "names", Str.ofString "first", Str.ofString "ends"]) rfl (by decide +kernel)) (fun _ => rfl) ?_
  kp_flats
  refine t_range1 fun rg2 => ?_
  refine ⟨rg2, c, fun j v => ∃ t, v = .str (toS (List.replicate (d0 j) 46 ++ List.replicate (ll j + 1) (97 + j) ++ en j)) t, rfl, .head, by omega, ?_, ?_⟩
  · rintro cenv Fc P i v hi ⟨ti, rfl⟩
    obtain ⟨_, hf1, tf, rfl⟩ := got_strs_at hfv hi
    obtain ⟨_, hm1, tm, rfl⟩ := got_strs_at hmv hi
    obtain ⟨_, he1, te, rfl⟩ := got_strs_at hev hi
    have hd4 := hdb i
    have hl2 := hlb i
    have hel : (en i).length ≤ 2 := by rcases hens i with h | h | h <;> rw [h] <;> decide
    kp_flats
    refine' t_subL (vs := fv) ?c1 (by omega) (by omega) (by rw [Int.toNat_natCast]; exact hf1) ?c2 rfl
    case c1 => (repeat (first | with_reducible exact Has.head | with_reducible assumption | with_reducible apply Has.tail | with_reducible apply Has.append))
    rw [eD]
    refine t_mulC (by omega) fun _ => ?_
    kp_flats
    refine' t_subL (vs := mv) ?c3 (by omega) (by omega) (by rw [Int.toNat_natCast]; exact hm1) ?c4 rfl
    case c3 => (repeat (first | with_reducible exact Has.head | with_reducible assumption | with_reducible apply Has.tail | with_reducible apply Has.append))
    refine t_addS (by rw [List.length_replicate, List.length_replicate]; omega) fun _ => ?_
    kp_flats
    refine' t_subL (vs := ev) ?c5 (by omega) (by omega) (by rw [Int.toNat_natCast]; exact he1) ?c6 rfl
    case c5 => (repeat (first | with_reducible exact Has.head | with_reducible assumption | with_reducible apply Has.tail | with_reducible apply Has.append))
    refine t_addS (by rw [List.length_append, List.length_replicate, List.length_replicate]; omega) fun _ => ?_
    exact ⟨by kas_types, _, rfl⟩
  intro JL jv hjv
  kp_flats
  have hT0 : ((List.range c).map fun j => List.replicate (d0 j) 46 ++ List.replicate (ll j + 1) (97 + j) ++ en j).flatten.length ≤ 10 * c := flat_le (fun j => by
    have := hdb j
    have := hlb j
    have hel : (en j).length ≤ 2 := by rcases hens j with h | h | h <;> rw [h] <;> decide
    rw [List.length_append, List.length_append, List.length_replicate, List.length_replicate]; omega) c
  refine t_joinP (f := fun j => List.replicate (d0 j) 46 ++ List.replicate (ll j + 1) (97 + j) ++ en j) .head hjv (by omega) fun tt => ?_
  kp_flats
  refine t_range2 fun rg3 => ?_
  refine t_iterR2 (n := 3) (by decide) (by decide) (by decide) .head fun I => ?_
  have hrl : ∀ j, (rowL d0 ll en j) = List.replicate (d0 j) 46 ++ List.replicate (ll j + 1) (97 + j) ++ en j := fun _ => rfl
  have hT1 : ((List.range c).map fun j => List.replicate (d0 j) 46 ++ List.replicate (ll j + 1) (97 + j) ++ en j).flatten = rowsL (fun j => d0 j + 0) ll en (List.range c) := rfl
  rw [hT1]
  clear hT1 hrl hT0
  refine TrC.weak (R' := ow I (rit (1 + ((0 : Nat) : Int) * 1) (((3 : Nat) : Int) - ((0 : Nat) : Int)) 1) :: ow EL (li ev) :: ow ML (li mv) :: ow FL1 (li fv) :: ow env.locals (fr ([Str.ofString "script", Str.ofString "draws", Str.ofString "total", Str.ofString "count", Str.ofString "text", Str.ofString "prices", Str.ofString "row", Str.ofString "name", Str.ofString "bare", Str.ofString "d", Str.ofString "dots", Str.ofString "plus", Str.ofString "minus", Str.ofString "apart"]) [some (.ref S), some (.ref DL), some (.int T tT), some (.int c _), some (.str (toS (rowsL (fun j => d0 j + 0) ll en (List.range c))) tt), none, none, none, none, none, none, none, none, none]) :: ow cPow (cl none) :: ow cOdd (cl none) :: ow cEven (cl none) :: ow cTurn (cl none) :: ow cEnds (cl (some (.ref EL))) :: ow cNames (cl (some (.ref ML))) :: ow cFirst (cl (some (.ref FL1))) :: ow cNums (cl (some (.ref NL))) :: ow cPrime (cl (some (.int p _))) :: R) (by kas_types) ?_
  obtain ⟨tx, htx⟩ : ∃ tx : Nat → List Nat, tx = fun i => rowsL (fun j => d0 j + i) ll (if i = 0 then en else fun _ => [13, 10]) (List.range c) := ⟨_, rfl⟩
  have htx0 : rowsL (fun j => d0 j + 0) ll en (List.range c) = tx 0 := by rw [htx]; rfl
  have htxs : ∀ i, tx (i + 1) = rowsL (fun j => d0 j + (i + 1)) ll (fun _ => [13, 10]) (List.range c) := fun i => by rw [htx]; rfl
  have htxq : ∀ i, dotsL true (crlfL (tx i)) = tx (i + 1) := fun i => by
    rw [htxs, htx]
    exact quote_rows (D := fun j => d0 j + i) (fun j => by have := hdb j; show 1 ≤ d0 j + i; omega) (fun j => by
      by_cases h0 : i = 0
      · rw [if_pos h0]; exact hens j
      · rw [if_neg h0]; exact .inr (.inr rfl)) _
  have htxl : ∀ i, i < 4 → (tx i).length ≤ 20 * c := fun i hi => by
    rw [htx]
    refine flat_le (fun j => ?_) c
    show (List.replicate (d0 j + i) 46 ++ List.replicate (ll j + 1) (97 + j) ++ (if i = 0 then en else fun _ => [13, 10]) j).length ≤ 20
    have := hdb j
    have := hlb j
    have hel : ((if i = 0 then en else fun _ => [13, 10]) j).length ≤ 2 := by
      by_cases h0 : i = 0
      · rw [if_pos h0]; rcases hens j with h | h | h <;> rw [h] <;> decide
      · rw [if_neg h0]; exact Nat.le_refl 2
    rw [List.length_append, List.length_append, List.length_replicate, List.length_replicate]; omega
  rw [htx0]
  clear htx0 htx hjv hev
  have hp0 : 0 < p := by omega
  have hp6 : p < 6 := by omega
  refine tc_for (iter_range (Room.h r) I 1 1 3) (fun i Sx => ∃ (tT tc tp tt : Tok) (x1 x2 x3 x4 x5 x6 x7 x8 x9 y1 y2 y3 y4 : Option Value), Sx = ow EL (li ev) :: ow ML (li mv) :: ow FL1 (li fv) :: ow env.locals (fr ([Str.ofString "script", Str.ofString "draws", Str.ofString "total", Str.ofString "count", Str.ofString "text", Str.ofString "prices", Str.ofString "row", Str.ofString "name", Str.ofString "bare", Str.ofString "d", Str.ofString "dots", Str.ofString "plus", Str.ofString "minus", Str.ofString "apart"]) [some (.ref S), some (.ref DL), some (.int T tT), some (.int c tc), some (.str (toS (tx i)) tt), x1, x2, x3, x4, x5, x6, x7, x8, x9]) :: ow cPow (cl y4) :: ow cOdd (cl y3) :: ow cEven (cl y2) :: ow cTurn (cl y1) :: ow cEnds (cl (some (.ref EL))) :: ow cNames (cl (some (.ref ML))) :: ow cFirst (cl (some (.ref FL1))) :: ow cNums (cl (some (.ref NL))) :: ow cPrime (cl (some (.int p tp))) :: R) (fun _ _ _ => trivial) ?_ ?_ ⟨_, _, _, _, _, _, _, _, _, _, _, _, _, _, _, _, _, rfl⟩ rfl
  · rintro i v T0 Sx hi ⟨tT, tc, tp, tt, x1, x2, x3, x4, x5, x6, x7, x8, x9, y1, y2, y3, y4, rfl⟩ ⟨⟨tv, rfl⟩, rfl⟩
    have ei : (1 : Int) + (i : Int) * 1 = ((i + 1 : Nat) : Int) := by push_cast; omega
    rw [ei]
    obtain ⟨rr, hrr⟩ : ∃ rr, rr = rit (1 + ((i + 1 : Nat) : Int) * 1) (((3 : Nat) : Int) - ((i + 1 : Nat) : Int)) 1 := ⟨_, rfl⟩
    rw [← hrr]
    show Tr X B (ow I rr :: ow EL (li ev) :: ow ML (li mv) :: ow FL1 (li fv) :: ow env.locals _ :: ow cPow _ :: ow cOdd _ :: ow cEven _ :: ow cTurn _ :: ow cEnds _ :: ow cNames _ :: ow cFirst _ :: ow cNums _ :: ow cPrime _ :: R) _ _
    kp_flats
    refine quo C G (by have := htxl i (by omega); omega) (r.le (n := 599) (m := 1) (by omega)) fun tq => ?_
    rw [htxq]
    kp_flats
    refine t_mJoin ?_
    kp_flats
    refine t_compR (x := Str.ofString "k") (Gs' := []) (cl := [(Str.ofString "turn", cTurn), (Str.ofString "names", cNames), (Str.ofString "first", cFirst)]) (Room.h r) F rfl (coScope ([Str.ofString "turn", Str.ofString "names", Str.ofString "first"]) rfl (by decide +kernel)) (fun _ => rfl) ?_
    kp_flats
    refine t_range1 fun rg4 => ?_
    refine ⟨rg4, c, fun j v => ∃ t, v = .str (toS (rowL (fun j => d0 j + (i + 1)) ll (fun _ => [13, 10]) j)) t, rfl, .head, by omega, ?_, ?_⟩
    · rintro cenv Fc P j v hj ⟨ti, rfl⟩
      obtain ⟨_, hf1, tf, rfl⟩ := got_strs_at hfv hj
      obtain ⟨_, hm1, tm, rfl⟩ := got_strs_at hmv hj
      have hd4 := hdb j
      have hl2 := hlb j
      kp_flats
      refine' t_subL (vs := fv) ?d1 (by omega) (by omega) (by rw [Int.toNat_natCast]; exact hf1) ?d2 rfl
      case d1 => (repeat (first | with_reducible exact Has.head | with_reducible assumption | with_reducible apply Has.tail | with_reducible apply Has.append))
      kp_flats
      have es : ((d0 j : Nat) : Int) + ((i + 1 : Nat) : Int) = ((d0 j + (i + 1) : Nat) : Int) := by push_cast; rfl
      rw [es, eD]
      refine t_mulC (by omega) fun _ => ?_
      kp_flats
      refine' t_subL (vs := mv) ?d3 (by omega) (by omega) (by rw [Int.toNat_natCast]; exact hm1) ?d4 rfl
      case d3 => (repeat (first | with_reducible exact Has.head | with_reducible assumption | with_reducible apply Has.tail | with_reducible apply Has.append))
      refine t_addS (by rw [List.length_replicate, List.length_replicate]; omega) fun _ => ?_
      kp_flats
      rw [eN]
      refine t_addS (by rw [List.length_append, List.length_replicate, List.length_replicate]; show _ + 2 ≤ _; omega) fun _ => ?_
      exact ⟨by kas_types, _, rfl⟩
    intro JL2 jv2 hjv2
    kp_flats
    refine t_joinP (f := rowL (fun j => d0 j + (i + 1)) ll (fun _ => [13, 10])) .head hjv2 (by have := htxl (i + 1) (by omega); rw [htxs] at this; show (rowsL _ _ _ _).length ≤ _; omega) fun tj => ?_
    have ejt : ((List.range c).map (rowL (fun j => d0 j + (i + 1)) ll (fun _ => [13, 10]))).flatten = tx (i + 1) := (htxs i).symm
    rw [ejt]
    kp_flats
    refine br_n (by simp) ?_
    kp_flats
    rename_i PL
    refine t_mSplit ?_
    kp_flats
    rw [eN]
    refine t_split (qs := (List.range c).map fun j => List.replicate (d0 j + (i + 1)) 46 ++ List.replicate (ll j + 1) (97 + j)) ?_ ?_ ?_ (by have := htxl (i + 1) (by omega); omega) (by rw [List.length_map, List.length_range]; omega) fun SL sv hsv => ?_
    · rw [htxs]
      unfold rowsL linesL
      rw [List.map_map]; rfl
    · intro q hq
      obtain ⟨j, _, rfl⟩ := List.mem_map.mp hq
      intro hm
      rcases List.mem_append.mp hm with h | h
      · have := List.eq_of_mem_replicate h; omega
      · have := List.eq_of_mem_replicate h; omega
    · intro h
      have := congrArg List.length h
      rw [List.length_map, List.length_range] at this
      have h0 : c = 0 := this
      omega
    kp_flats
    refine' t_zip (v1 := sv) (v2 := mv) ?e1 ?e2 fun z TI TO i1 i2 => ?_
    case e1 => (repeat (first | with_reducible exact Has.head | with_reducible assumption | with_reducible apply Has.tail | with_reducible apply Has.append))
    case e2 => (repeat (first | with_reducible exact Has.head | with_reducible assumption | with_reducible apply Has.tail | with_reducible apply Has.append))
    refine t_iterZip ?_
    have hsl : sv.length = c + 1 := by
      have : ∀ {vs : List Value} {ys : List Str}, StrsAre vs ys → vs.length = ys.length := by
        intro vs ys h
        induction h with
        | nil => rfl
        | cons _ _ _ ih => simp [ih]
      rw [this hsv]; simp
    have hml : mv.length = c := hmv.1
    refine TrC.weak (R' := zipC z TI TO i1 i2 SL ML 0 ++ (ow SL (li sv) :: ow PL (li []) :: ow I rr :: ow EL (li ev) :: ow ML (li mv) :: ow FL1 (li fv) :: ow env.locals (fr ([Str.ofString "script", Str.ofString "draws", Str.ofString "total", Str.ofString "count", Str.ofString "text", Str.ofString "prices", Str.ofString "row", Str.ofString "name", Str.ofString "bare", Str.ofString "d", Str.ofString "dots", Str.ofString "plus", Str.ofString "minus", Str.ofString "apart"]) [some (.ref S), some (.ref DL), some (.int T tT), some (.int c tc), some (.str (toS (tx (i + 1))) tq), some (.ref PL), x2, x3, x4, x5, x6, x7, x8, x9]) :: ow cPow (cl y4) :: ow cOdd (cl y3) :: ow cEven (cl y2) :: ow cTurn (cl (some (.int ((i + 1 : Nat) : Int) tv))) :: ow cEnds (cl (some (.ref EL))) :: ow cNames (cl (some (.ref ML))) :: ow cFirst (cl (some (.ref FL1))) :: ow cNums (cl (some (.ref NL))) :: ow cPrime (cl (some (.int p tp))) :: R)) (List.Sublist.append_left (by kas_types) _) ?_
    refine tc_for (iter_zip (Room.h r) z TI TO i1 i2 SL ML sv mv (by omega)) (fun j Sx => ∃ (ps : List Value) (x2 x3 x4 : Option Value), Sx = ow SL (li sv) :: ow PL (li ps) :: ow I rr :: ow EL (li ev) :: ow ML (li mv) :: ow FL1 (li fv) :: ow env.locals (fr ([Str.ofString "script", Str.ofString "draws", Str.ofString "total", Str.ofString "count", Str.ofString "text", Str.ofString "prices", Str.ofString "row", Str.ofString "name", Str.ofString "bare", Str.ofString "d", Str.ofString "dots", Str.ofString "plus", Str.ofString "minus", Str.ofString "apart"]) [some (.ref S), some (.ref DL), some (.int T tT), some (.int c tc), some (.str (toS (tx (i + 1))) tq), some (.ref PL), x2, x3, x4, x5, x6, x7, x8, x9]) :: ow cPow (cl y4) :: ow cOdd (cl y3) :: ow cEven (cl y2) :: ow cTurn (cl (some (.int ((i + 1 : Nat) : Int) tv))) :: ow cEnds (cl (some (.ref EL))) :: ow cNames (cl (some (.ref ML))) :: ow cFirst (cl (some (.ref FL1))) :: ow cNums (cl (some (.ref NL))) :: ow cPrime (cl (some (.int p tp))) :: R ∧ Got j (fun j v => ∃ t, v = .int (2 * ((d0 j + (i + 1) : Nat) : Int)) t) ps) ?_ ?_ ?_ ⟨[], _, _, _, rfl, rfl, fun j v h => by simp at h⟩ rfl
    · rintro j Sx ⟨ps, x2, x3, x4, rfl, _⟩
      exact ⟨.head, by (repeat (first | with_reducible exact Has.head | with_reducible assumption | with_reducible apply Has.tail | with_reducible apply Has.append))⟩
    · rintro j v T2 Sx hj ⟨ps, x2, x3, x4, rfl, hps⟩ ⟨tt2, x, y, rfl, hx, hy, rfl⟩
      rw [hml] at hj
      have hd4 := hdb j
      have hl2 := hlb j
      obtain ⟨tx1, rfl⟩ : ∃ t, x = .str (rowS (d0 j + (i + 1)) j (ll j)) t := by
        have hat : ∀ {vs : List Value} {ys : List Str}, StrsAre vs ys → ∀ {j : Nat} {v : Value} {y : Str}, vs[j]? = some v → ys[j]? = some y → ∃ t, v = .str y t := by
          intro vs ys h
          induction h with
          | nil => intro j v y h; simp at h
          | cons y t _ ih =>
            intro j v y' h h'
            cases j with
            | zero =>
              simp at h h'
              subst h h'
              exact ⟨t, rfl⟩
            | succ j => exact ih (by simpa using h) (by simpa using h')
        refine hat hsv hx ?_
        rw [List.getElem?_map, List.getElem?_append_left (by rw [List.length_map, List.length_range]; omega), List.getElem?_map, List.getElem?_range hj]
        rfl
      obtain ⟨tx2, rfl⟩ : ∃ t, y = .str (nameS j (ll j)) t := hmv.2 j y hy
      show Tr X B (ow tt2 (tu _) :: ow z (ob (zipO .none TI TO)) :: ow TI (ob (pairO (.ref i1) (.ref i2))) :: ow TO somePair :: ow i1 (lit SL (j + 1)) :: ow i2 (lit ML (j + 1)) :: ow SL (li sv) :: ow PL (li ps) :: ow I rr :: ow EL (li ev) :: ow ML (li mv) :: ow FL1 (li fv) :: ow env.locals _ :: ow cPow _ :: ow cOdd _ :: ow cEven _ :: ow cTurn _ :: ow cEnds _ :: ow cNames _ :: ow cFirst _ :: ow cNums _ :: ow cPrime _ :: R) _ _
      refine t_assignTuple (vs := [_, _]) (Room.h r) .head rfl rfl ?_
      refine t_inOrder (t_assignName ?_)
      kp_flats
      refine t_inOrder (t_assignName ?_)
      kp_flats
      refine t_inOrder0 ?_
      kp_flats
      refine strip1 C G (by omega) (by omega) (by omega) hl2 (r.le (n := 599) (m := 1) (by omega)) fun tb => ?_
      kp_flats
      refine br_n (by simp) ?_
      have zr : (rowS (d0 j + (i + 1)) j (ll j)).length ≤ sizeLine := by rw [row_len, sizeLine_eq]; omega
      kp_flats
      refine t_mul (.of_left (by decide)) fun _ => ?_
      kp_flats
      refine lev1 C G (by omega) (by omega) (by omega) hl2 (r.le (n := 599) (m := 1) (by omega)) fun tl => ?_
      kp_flats
      refine' t_append (by rw [hps.1, sizeLine_eq]; omega) ?e3 ?e4
      case e3 => (repeat (first | with_reducible exact Upd.head | with_reducible apply Upd.tail | with_reducible apply Upd.append))
      kp_flats
      refine ⟨_, List.Sublist.cons _ (List.Sublist.refl _), _, _, _, _, rfl, hps.push ⟨_, rfl⟩⟩
    · rintro Sx ⟨ps, x2, x3, x4, rfl, hps⟩
      rw [hml] at hps
      kp_flats
      refine t_compL (x := Str.ofString "d") (Gs' := []) (cl := [(Str.ofString "turn", cTurn)]) (Room.h r) F rfl (coScope ([Str.ofString "turn"]) rfl (by decide +kernel)) (fun _ => rfl) ?_
      kp_flats
      refine ⟨FL1, fv, fun j v => ∃ t, v = .int (2 * ((d0 j + (i + 1) : Nat) : Int)) t, rfl, by (repeat (first | with_reducible exact Has.head | with_reducible assumption | with_reducible apply Has.tail | with_reducible apply Has.append)), by rw [hfv.1]; omega, ?_, ?_⟩
      · intro cenv Fc P j v hj hvj
        obtain ⟨tf, rfl⟩ := hfv.2 j v hvj
        kp_flats
        refine t_mul (.of_left (by decide)) fun _ => ?_
        exact ⟨by kas_types, int_eq (by push_cast; rfl)⟩
      intro QL qv hqv
      rw [hfv.1] at hqv
      kp_flats
      refine' t_neInts (vs := ps) (ws := qv) ?f1 .head (Got.ints (f := fun j => 2 * ((d0 j + (i + 1) : Nat) : Int)) hps) (Got.ints (f := fun j => 2 * ((d0 j + (i + 1) : Nat) : Int)) hqv) r ?f2
      case f1 => (repeat (first | with_reducible exact Has.head | with_reducible assumption | with_reducible apply Has.tail | with_reducible apply Has.append))
      kp_flats
      refine br_n (by simp) ?_
      kp_flats
      refine t_asgL (x := Str.ofString "price") (Gs' := []) (cl := []) (Room.h r) F rfl (coScope [] rfl (by decide +kernel)) (fun _ => rfl) (by (repeat (first | with_reducible exact List.mem_cons_self | with_reducible apply List.mem_cons_of_mem))) rfl (by decide +kernel) ?_
      kp_flats
      refine ⟨PL, ps, fun j v => ∃ t, v = .int ((d0 j + (i + 1) : Nat) : Int) t, rfl, by (repeat (first | with_reducible exact Has.head | with_reducible assumption | with_reducible apply Has.tail | with_reducible apply Has.append)), by rw [hps.1]; omega, ?_, ?_⟩
      · intro cenv Fc P j v hj hvj
        obtain ⟨tf, rfl⟩ := hps.2 j v hvj
        kp_flats
        refine t_fdiv (by decide) (by decide) fun _ => ?_
        exact ⟨by kas_types, int_eq (by rw [fdiv_pos _ _ (by decide)]; omega)⟩
      intro DS dv hdv
      rw [hps.1] at hdv
      refine ⟨_, _, _, (.tail (.tail (.tail (.tail (.tail (.tail (.tail (.tail (.tail (.tail .head)))))))))), by (repeat (first | with_reducible exact Upd.head | with_reducible apply Upd.tail | with_reducible apply Upd.append)), ?_⟩
      obtain ⟨dl, hdl⟩ : ∃ dl : List Nat, dl = (List.range c).map fun j => d0 j + (i + 1) := ⟨_, rfl⟩
      have hdi : IntsAre dv (asI dl) := by
        have := Got.ints (f := fun j => ((d0 j + (i + 1) : Nat) : Int)) hdv
        rw [hdl]
        unfold asI
        rw [List.map_map]; exact this
      have hdc : dl.length = c := by rw [hdl, List.length_map, List.length_range]
      have hdm : ∀ d ∈ dl, d ≤ 7 := fun d hm => by
        rw [hdl] at hm
        obtain ⟨j, _, rfl⟩ := List.mem_map.mp hm
        have := hdb j
        omega
      have hd7 : ∀ d ∈ asI dl, d = ((1 + (i + 1) : Nat) : Int) ∨ d = ((2 + (i + 1) : Nat) : Int) ∨ d = ((4 + (i + 1) : Nat) : Int) := fun d hm => by
        rw [hdl] at hm
        unfold asI at hm
        rw [List.map_map] at hm
        obtain ⟨j, _, rfl⟩ := List.mem_map.mp hm
        rcases hd3 j with h | h | h
        · exact .inl (by show ((d0 j + (i + 1) : Nat) : Int) = _; rw [h])
        · exact .inr (.inl (by show ((d0 j + (i + 1) : Nat) : Int) = _; rw [h]))
        · exact .inr (.inr (by show ((d0 j + (i + 1) : Nat) : Int) = _; rw [h]))
      clear hdl hqv hps hdv hsv
      kp_flats
      show Tr X B (ow DS (li dv) :: _) _ _
      refine t_iterL .head fun I2 => ?_
      refine TrC.weak (R' := ow I2 (lit DS 0) :: ow DS (li dv) :: ow I rr :: ow EL (li ev) :: ow ML (li mv) :: ow FL1 (li fv) :: ow env.locals (fr ([Str.ofString "script", Str.ofString "draws", Str.ofString "total", Str.ofString "count", Str.ofString "text", Str.ofString "prices", Str.ofString "row", Str.ofString "name", Str.ofString "bare", Str.ofString "d", Str.ofString "dots", Str.ofString "plus", Str.ofString "minus", Str.ofString "apart"]) [some (.ref S), some (.ref DL), some (.int T tT), some (.int c tc), some (.str (toS (tx (i + 1))) tq), some (.ref PL), x2, x3, x4, x5, some (.ref DS), some (.int 1 _), some (.int 1 _), x9]) :: ow cPow (cl y4) :: ow cOdd (cl y3) :: ow cEven (cl y2) :: ow cTurn (cl (some (.int ((i + 1 : Nat) : Int) tv))) :: ow cEnds (cl (some (.ref EL))) :: ow cNames (cl (some (.ref ML))) :: ow cFirst (cl (some (.ref FL1))) :: ow cNums (cl (some (.ref NL))) :: ow cPrime (cl (some (.int p tp))) :: R) (by kas_types) ?_
      have hdvl : dv.length = c := by rw [ints_len hdi]; unfold asI; rw [List.length_map, hdc]
      refine tc_for (iter_list (Room.h r) I2 DS dv) (fun k Sx => ∃ (x5 : Option Value) (ta tb : Tok), Sx = ow DS (li dv) :: ow I rr :: ow EL (li ev) :: ow ML (li mv) :: ow FL1 (li fv) :: ow env.locals (fr ([Str.ofString "script", Str.ofString "draws", Str.ofString "total", Str.ofString "count", Str.ofString "text", Str.ofString "prices", Str.ofString "row", Str.ofString "name", Str.ofString "bare", Str.ofString "d", Str.ofString "dots", Str.ofString "plus", Str.ofString "minus", Str.ofString "apart"]) [some (.ref S), some (.ref DL), some (.int T tT), some (.int c tc), some (.str (toS (tx (i + 1))) tq), some (.ref PL), x2, x3, x4, x5, some (.ref DS), some (.int (((EO (dl.take k) (1, 0)).1 : Int) + ((EO (dl.take k) (1, 0)).2 : Int)) ta), some (.int (((EO (dl.take k) (1, 0)).1 : Int) - ((EO (dl.take k) (1, 0)).2 : Int)) tb), x9]) :: ow cPow (cl y4) :: ow cOdd (cl y3) :: ow cEven (cl y2) :: ow cTurn (cl (some (.int ((i + 1 : Nat) : Int) tv))) :: ow cEnds (cl (some (.ref EL))) :: ow cNames (cl (some (.ref ML))) :: ow cFirst (cl (some (.ref FL1))) :: ow cNums (cl (some (.ref NL))) :: ow cPrime (cl (some (.int p tp))) :: R) ?_ ?_ ?_ ⟨_, _, _, rfl⟩ rfl
      · rintro k Sx ⟨x5, ta, tb, rfl⟩
        exact .head
      · rintro k v T2 Sx hk2 ⟨x5, ta, tb, rfl⟩ ⟨hvk, rfl⟩
        obtain ⟨m, tm, rfl, hm⟩ := ints_get hdi hvk
        obtain ⟨dd, hdd, rfl⟩ : ∃ dd : Nat, dl[k]? = some dd ∧ m = (dd : Int) := by
          unfold asI at hm
          rw [List.getElem?_map] at hm
          cases h : dl[k]? with
          | none => rw [h] at hm; cases hm
          | some dd => rw [h] at hm; exact ⟨dd, rfl, by injection hm with h'; exact h'.symm⟩
        have hd7' : dd ≤ 7 := hdm dd (List.mem_of_getElem? hdd)
        have etk : dl.take (k + 1) = dl.take k ++ [dd] := by rw [List.take_add_one, hdd]; rfl
        rw [etk, EO_snoc]
        generalize EO (dl.take k) (1, 0) = eo
        obtain ⟨ea, oa⟩ := eo
        have h64 : (64 : Int) ^ ((dd : Nat) : Int).toNat = ((64 ^ dd : Nat) : Int) := by rw [Int.toNat_natCast]; push_cast; rfl
        have h647 : 64 ^ dd ≤ 64 ^ 7 := Nat.pow_le_pow_right (by decide) hd7'
        have hb64 : Builtin.Int.intBits (64 : Int) = 7 := by decide +kernel
        show Tr X B (ow I2 (lit DS (k + 1)) :: ow DS (li dv) :: ow I rr :: ow EL (li ev) :: ow ML (li mv) :: ow FL1 (li fv) :: ow env.locals _ :: ow cPow _ :: ow cOdd _ :: ow cEven _ :: ow cTurn _ :: ow cEnds _ :: ow cNames _ :: ow cFirst _ :: ow cNums _ :: ow cPrime _ :: R) _ _
        kp_flats
        refine t_pow (by omega) (by rw [hb64]; omega) fun _ => ?_
        rw [h64]
        kp_flats
        generalize hq6 : 64 ^ dd = q6 at *
        refine t_mul (.of_right (intBits_le_64 (by omega) (by omega))) fun _ => ?_
        kp_flats
        refine t_pow (by omega) (by rw [hb64]; omega) fun _ => ?_
        rw [h64]
        kp_flats
        refine t_mul (.of_right (intBits_le_64 (by omega) (by omega))) fun _ => ?_
        kp_flats
        have ep : ((ea : Nat) : Int) + ((q6 : Nat) : Int) * (oa : Int) = ((ea + q6 * oa : Nat) : Int) := by push_cast; rfl
        have eq : ((oa : Nat) : Int) + ((q6 : Nat) : Int) * (ea : Int) = ((oa + q6 * ea : Nat) : Int) := by push_cast; rfl
        rw [plus_step, minus_step, ep, eq]
        exact ⟨_, List.Sublist.refl _, some (.int dd tm), _, _, rfl⟩
      · rintro Sx ⟨x5, ta, tb, rfl⟩
        have etk : dl.take dv.length = dl := by rw [hdvl, ← hdc]; exact List.take_length
        rw [etk]
        have hbo := EO_400 hdm (by omega)
        have hfa := folded_added hp0 (ds := dl) (by intro h; rw [h] at hdc; simp at hdc; omega) (by omega)
        generalize EO dl (1, 0) = eo at hbo hfa
        obtain ⟨ea, oa⟩ := eo
        dsimp only at hbo hfa
        kp_flats
        refine t_fdiv (by decide) (by decide) fun _ => ?_
        have e2 : (((ea : Nat) : Int) + (oa : Int) + ((ea : Int) - (oa : Int))).fdiv 2 = (ea : Int) := by rw [fdiv_pos _ _ (by decide)]; omega
        have e3 : (((ea : Nat) : Int) + (oa : Int) - ((ea : Int) - (oa : Int))).fdiv 2 = (oa : Int) := by rw [fdiv_pos _ _ (by decide)]; omega
        show Tr X B _ (spliced _) _
        rw [e2]
        kp_flats
        refine lfo C G hT1 hT2 (a := ea) hp0 (by omega) hbo.1 (r.le (by omega)) fun r1 es hes => ?_
        rw [hfa.1] at hes
        kp_flats
        refine t_fdiv (by decide) (by decide) fun _ => ?_
        show Tr X B _ (spliced _) _
        rw [e3]
        kp_flats
        refine lfo C G hT1 hT2 (a := oa) hp0 (by omega) hbo.2 (r.le (by omega)) fun r2 os hos => ?_
        rw [hfa.2] at hos
        kp_flats
        refine' lad (vs := dv) (ds := asI dl) C G hp0 (by omega) ?g1 hdi (by omega) (r.le (n := 599) (m := 1) (by omega)) fun rL E2 O2 es2 os2 hes2 hos2 => ?_
        case g1 => (repeat (first | with_reducible exact Has.head | with_reducible assumption | with_reducible apply Has.tail | with_reducible apply Has.append))
        kp_flats
        refine' t_nePair (k' := 0) (v1 := es) (w1 := os) (v2 := es2) (w2 := os2) ?h1 ?h2 ?h3 ?h4 ?h5 ?h6 hes hos hes2 hos2 (r.le (by omega)) ?h7
        case h1 => (repeat (first | with_reducible exact Has.head | with_reducible assumption | with_reducible apply Has.tail | with_reducible apply Has.append))
        case h2 => (repeat (first | with_reducible exact Has.head | with_reducible assumption | with_reducible apply Has.tail | with_reducible apply Has.append))
        case h3 => (repeat (first | with_reducible exact Has.head | with_reducible assumption | with_reducible apply Has.tail | with_reducible apply Has.append))
        case h4 => (repeat (first | with_reducible exact Has.head | with_reducible assumption | with_reducible apply Has.tail | with_reducible apply Has.append))
        case h5 => (repeat (first | with_reducible exact Has.head | with_reducible assumption | with_reducible apply Has.tail | with_reducible apply Has.append))
        case h6 => (repeat (first | with_reducible exact Has.head | with_reducible assumption | with_reducible apply Has.tail | with_reducible apply Has.append))
        kp_flats
        have hal := addAll_len (p := p) (ds := asI dl) (eo := add0 p) (by simp [add0]; omega) (by simp [add0])
        have hfk := fleck (p := p) (c := c) (t := i + 1) (by omega) hcc.1 hcc.2 (by omega) (ds := asI dl) (by unfold asI; rw [List.length_map, hdc]) hd7
        generalize addAll p (asI dl) (add0 p) = eo at hes hos hal hfk
        obtain ⟨eL, oL⟩ := eo
        dsimp only at hes hos hal hfk
        clear hes2 hos2 hfa e2 e3
        show Tr X B (ow rL (li _) :: _) _ _
        refine t_asgR (x := Str.ofString "r") (Gs' := []) (cl := [(Str.ofString "odd", cOdd), (Str.ofString "even", cEven)]) (Room.h r) F rfl (coScope ([Str.ofString "odd", Str.ofString "even"]) rfl (by decide +kernel)) (fun _ => rfl) (by (repeat (first | with_reducible exact List.mem_cons_self | with_reducible apply List.mem_cons_of_mem))) rfl (by decide +kernel) ?_
        kp_flats
        refine t_range1 fun rg5 => ?_
        refine ⟨rg5, p, fun j v => ∃ t, v = .int ((apartL p eL oL).getD j 0) t, rfl, .head, by omega, ?_, ?_⟩
        · rintro cenv Fc P j v hj ⟨ti, rfl⟩
          obtain ⟨u1, f1⟩ := ints_at hes (j := j) (by omega)
          obtain ⟨u2, f2⟩ := ints_at hos (j := j) (by omega)
          kp_flats
          refine' t_subL (vs := es) ?k1 (by omega) (by omega) (by rw [Int.toNat_natCast]; exact f1) ?k2 rfl
          case k1 => (repeat (first | with_reducible exact Has.head | with_reducible assumption | with_reducible apply Has.tail | with_reducible apply Has.append))
          kp_flats
          refine' t_subL (vs := os) ?k3 (by omega) (by omega) (by rw [Int.toNat_natCast]; exact f2) ?k4 rfl
          case k3 => (repeat (first | with_reducible exact Has.head | with_reducible assumption | with_reducible apply Has.tail | with_reducible apply Has.append))
          kp_flats
          exact ⟨by kas_types, int_eq (by unfold apartL; rw [map_getD hj])⟩
        intro AL av hav0
        have hav := Got.list (L := apartL p eL oL) (by simp [apartL]) hav0
        have havl : av.length = p := hav0.1
        refine ⟨_, _, _, (.tail (.tail (.tail (.tail (.tail (.tail (.tail (.tail (.tail (.tail (.tail (.tail (.tail .head))))))))))))), by (repeat (first | with_reducible exact Upd.head | with_reducible apply Upd.tail | with_reducible apply Upd.append)), ?_⟩
        kp_flats
        have ec1 : ((c : Nat) : Int) - 1 = ((c - 1 : Nat) : Int) := by omega
        have ep1 : ((p : Nat) : Int) - 1 = ((p - 1 : Nat) : Int) := by omega
        rw [ec1]
        kp_flats
        rw [ep1]
        refine t_fdiv (by omega) (by rw [Int.natAbs_natCast]; exact Nat.lt_of_le_of_lt (Nat.log2_le_self _) (by omega)) fun _ => ?_
        rw [fdiv_nat]
        have hq5 : (c - 1) / (p - 1) ≤ 5 := Nat.le_trans (Nat.div_le_self _ _) (by omega)
        have hb3 : Builtin.Int.intBits ((p : Nat) : Int) ≤ 3 := bits_le (by omega)
        have hb15 := Nat.mul_le_mul hb3 hq5
        refine t_pow (Int.natCast_nonneg _) (by exact_mod_cast (Nat.le_trans hb15 (by decide) : _ ≤ 2 ^ 27)) fun _ => ?_
        have epw : ((p : Nat) : Int) ^ ((((c - 1) / (p - 1) : Nat) : Int)).toNat = ((pow1 p c : Nat) : Int) := by rw [Int.toNat_natCast]; unfold pow1; push_cast; rfl
        rw [epw]
        have hpw0 : 0 < pow1 p c := Nat.pow_pos hp0
        have hpw5 : pow1 p c ≤ 5 ^ 5 := Nat.le_trans (Nat.pow_le_pow_left (by omega) _) (Nat.pow_le_pow_right (by decide) hq5)
        unfold okL at hfk
        generalize pow1 p c = pw at hpw0 hpw5 hfk ⊢
        kp_flats
        refine t_compFilt (x := Str.ofString "d") (Gs' := []) (cl := [(Str.ofString "prime", cPrime)]) (Room.h r) F rfl (coScope ([Str.ofString "prime"]) rfl (by decide +kernel)) (fun _ => rfl) ?_
        kp_flats
        refine ⟨DS, dv, asI dl, fun m => m.fmod p == 0, rfl, by (repeat (first | with_reducible exact Has.head | with_reducible assumption | with_reducible apply Has.tail | with_reducible apply Has.append)), by omega, hdi, ?_, ?_⟩
        · intro cenv Fc P m tm
          kp_flats
          refine t_mod (by omega) fun _ => ?_
          kp_flats
          exact ⟨by kas_types, rfl⟩
        intro KL kv hkv
        kp_flats
        refine' t_neInts (vs := kv) (ws := []) ?n1 .head hkv .nil r ?n2
        case n1 => (repeat (first | with_reducible exact Has.head | with_reducible assumption | with_reducible apply Has.tail | with_reducible apply Has.append))
        kp_flats
        refine br_by (fun hb => ?_) (fun hb => ?_)
        · have haz := hfk.1 (by
            have hne : (asI dl).filter (fun m => m.fmod p == 0) ≠ [] := by simpa using hb
            obtain ⟨d, hd⟩ := List.exists_mem_of_ne_nil _ hne
            rw [List.mem_filter, beq_iff_eq, fmod_pos _ _ (by omega)] at hd
            exact ⟨d, hd.1, hd.2⟩)
          rw [haz] at hav
          kp_flats
          refine t_mulL .head (by omega) (by omega) (by simp; omega) fun ZL => ?_
          rw [Int.toNat_natCast]
          refine' t_neInts (vs := av) ?n3 .head hav (rep_ints p) r ?n4
          case n3 => (repeat (first | with_reducible exact Has.head | with_reducible assumption | with_reducible apply Has.tail | with_reducible apply Has.append))
          kp_flats
          refine br_n (by simp) ?_
          kp_flats
          refine' ⟨_, ?fin1, tT, tc, tp, tq, _, _, _, _, _, _, _, _, _, _, _, _, _, rfl⟩
          case fin1 =>
            show List.Sublist (ow I rr :: ow EL (li ev) :: ow ML (li mv) :: ow FL1 (li fv) :: _) _
            kas_types
        · have hok := hfk.2 (by
            intro d hm hd0
            have hne : (asI dl).filter (fun m => m.fmod p == 0) = [] := by simpa using hb
            have : d ∈ (asI dl).filter (fun m => m.fmod p == 0) := by
              rw [List.mem_filter, beq_iff_eq, fmod_pos _ _ (by omega)]
              exact ⟨hm, hd0⟩
            rw [hne] at this
            cases this)
          rw [Bool.and_eq_true, List.all_eq_true, List.any_eq_true] at hok
          obtain ⟨ok1, gg, ok2, ok3⟩ := hok
          have hf1 : (apartL p eL oL).filter (fun g => g.fmod (pw : Nat) != 0) = [] := by
            rw [List.filter_eq_nil_iff]
            intro g hg
            have := ok1 g hg
            rw [fmod_pos _ _ (by omega)]
            simpa using this
          have hf2 : (apartL p eL oL).filter (fun g => g.fmod ((pw : Nat) * (p : Nat) : Int) != 0) ≠ [] := by
            intro h
            rw [List.filter_eq_nil_iff] at h
            have hz := h gg ok2
            have hpos : (0 : Int) < (pw : Nat) * (p : Nat) := Int.mul_pos (by omega) (by omega)
            rw [fmod_pos _ _ hpos] at hz
            have e : ((pw * p : Nat) : Int) = (pw : Int) * (p : Int) := by push_cast; rfl
            rw [e] at ok3
            exact hz ok3
          kp_flats
          refine t_compFilt (x := Str.ofString "g") (Gs' := []) (cl := [(Str.ofString "power", cPow)]) (Room.h r) F rfl (coScope ([Str.ofString "power"]) rfl (by decide +kernel)) (fun _ => rfl) ?_
          kp_flats
          refine ⟨AL, av, apartL p eL oL, fun g => g.fmod (pw : Nat) != 0, rfl, by (repeat (first | with_reducible exact Has.head | with_reducible assumption | with_reducible apply Has.tail | with_reducible apply Has.append)), by omega, hav, ?_, ?_⟩
          · intro cenv Fc P m tm
            kp_flats
            refine t_mod (by omega) fun _ => ?_
            kp_flats
            exact ⟨by kas_types, rfl⟩
          intro KL2 kv2 hkv2
          rw [hf1] at hkv2
          kp_flats
          refine' t_neInts (vs := kv2) (ws := []) ?n5 .head hkv2 .nil r ?n6
          case n5 => (repeat (first | with_reducible exact Has.head | with_reducible assumption | with_reducible apply Has.tail | with_reducible apply Has.append))
          kp_flats
          refine br_n (by simp) ?_
          kp_flats
          refine t_compFilt (x := Str.ofString "g") (Gs' := []) (cl := [(Str.ofString "prime", cPrime), (Str.ofString "power", cPow)]) (Room.h r) F rfl (coScope ([Str.ofString "prime", Str.ofString "power"]) rfl (by decide +kernel)) (fun _ => rfl) ?_
          kp_flats
          refine ⟨AL, av, apartL p eL oL, fun g => g.fmod ((pw : Nat) * (p : Nat) : Int) != 0, rfl, by (repeat (first | with_reducible exact Has.head | with_reducible assumption | with_reducible apply Has.tail | with_reducible apply Has.append)), by omega, hav, ?_, ?_⟩
          · intro cenv Fc P m tm
            kp_flats
            refine t_mul (.of_right (intBits_le_64 (by omega) (by omega))) fun _ => ?_
            refine t_mod (by
              have hpos : (0 : Int) < (pw : Nat) * (p : Nat) := Int.mul_pos (by omega) (by omega)
              omega) fun _ => ?_
            kp_flats
            exact ⟨by kas_types, rfl⟩
          intro KL3 kv3 hkv3
          kp_flats
          refine' t_eqInts (vs := kv3) (ws := []) ?n7 .head hkv3 .nil r ?n8
          case n7 => (repeat (first | with_reducible exact Has.head | with_reducible assumption | with_reducible apply Has.tail | with_reducible apply Has.append))
          kp_flats
          refine br_n (by simpa using hf2) ?_
          kp_flats
          refine' ⟨_, ?fin2, tT, tc, tp, tq, _, _, _, _, _, _, _, _, _, _, _, _, _, rfl⟩
          case fin2 =>
            show List.Sublist (ow I rr :: ow EL (li ev) :: ow ML (li mv) :: ow FL1 (li fv) :: _) _
            kas_types
  · rintro Sx ⟨tT, tc, tp, tt, x1, x2, x3, x4, x5, x6, x7, x8, x9, y1, y2, y3, y4, rfl⟩
    kp_flats
    exact ⟨R, by kas_types, _, rfl, kk⟩
end
section
open PySem PySem.W PySem.Calls PyProof.Rows
theorem noTab1 (P : Params) : (hd.heap_39 P).lookup 47 = none := by kernel_rfl
theorem noTab2 (P : Params) : (hd.heap_39 P).lookup 54 = none := by kernel_rfl
theorem finL {w : World} {s₁ : Shared} {mg mb : Str → Option Value} (KX : (hd.heap_39 w.params).In s₁.heap) (hT : TabsAt [(58, 54), (51, 47)] s₁.heap) (g : s₁.heap.Ns mainGlobals mg) (b : s₁.heap.Ns builtinsNs mb) (nl : s₁.heap.NoLimit) (bs : ∀ x : Str, x ≠ "__name__" → mb x = bootBuiltins x)
    (bm : ∃ bm ob, mg "__builtins__" = some (.ref bm) ∧ bm ≠ builtinsNs ∧ s₁.heap.get? bm = some ob ∧ ob.cls = .type "module" ∧ ob.dict = some builtinsNs ∧ ob.data = .plain)
    {fa : Addr} (hmg : mg (Str.ofString "law") = some (.ref fa)) (hg : s₁.gens = #[]) {S : Addr} {vs : List Value} {xs : List Int} (hl : s₁.heap.IsList S vs.toArray) (hi : IntsAre vs xs) (hn : xs.length ≤ 63) :
    wpAny (model PySem.Challenge.rw_sh0033_01.row.prog w) callerA (call (.ref fa) [.ref S]) (fun v s' => v = .bool true ∧ OldK s₁.heap s'.heap ∧ s'.os = s₁.os ∧ s'.gens = #[]) (fun _ _ => False) s₁ := by
  have t1 := hT (51, 47) (by simp)
  have t2 := hT (58, 54) (by simp)
  have lt1 : (47 : Addr) < s₁.heap.objs.size := Heap.lt_size t1.2
  have lt2 : (54 : Addr) < s₁.heap.objs.size := Heap.lt_size t2.2
  have lc1 : (51 : Addr) < s₁.heap.objs.size := by obtain ⟨o, _, _, _, _, _, _, _, _, e, _⟩ := t1.1; exact Heap.lt_size e
  have lc2 : (58 : Addr) < s₁.heap.objs.size := by obtain ⟨o, _, _, _, _, _, _, _, _, e, _⟩ := t2.1; exact Heap.lt_size e
  let X : Amb := ⟨PySem.Challenge.rw_sh0033_01.row.prog, w, s₁.heap, s₁.os, [tabI, tabD]⟩
  have hall : ∀ {P : Tab → Prop}, P tabI → P tabD → ∀ t ∈ X.tabs, P t := fun h1 h2 t ht => by
    rcases List.mem_cons.mp ht with rfl | ht
    · exact h1
    · rcases List.mem_cons.mp ht with rfl | ht
      · exact h2
      · cases ht
  have C : KOk X (hd.heap_39 X.w.params) := ⟨KX, hall (noTab1 _) (noTab2 _)⟩
  obtain ⟨bmA, ob, b1, b2, b3, b4, b5, b6⟩ := bm
  have nbm : ∀ {P : Addr}, s₁.heap.get? P = some (tabObj #[]) → bmA ≠ P := fun h e => by
    rw [e, h] at b3
    cases b3
    cases b6
  have G : GlobOk X mg mb := ⟨g, b, nl, hall (by decide) (by decide), hall (by decide) (by decide), hall (by decide) (by decide), bs, ⟨bmA, ob, b1, b2, b3, hall (nbm t1.2) (nbm t2.2), b4, b5, b6⟩⟩
  have hfa : mg (Str.ofString "law") = some (.ref 128) := mg_of (n := Str.ofString "law") C.k G.g (by k_is)
  rw [hfa] at hmg
  have e128 : fa = 128 := by injection hmg with h; injection h with h; exact h.symm
  subst e128
  have I : Inv X [] s₁ := {
    old := OldK.refl _
    kept := fun a o e _ => e
    size := Nat.le_refl _
    own := fun _ h => nomatch h
    above := fun _ h => nomatch h
    apart := .nil
    off := fun _ h => nomatch h
    tab := hall (.emp (t1.1.code t1.2 (by simp [TriplesOk])) (t1.1.tab t1.2)) (.emp (t2.1.code t2.2 (by simp [TriplesOk])) (t2.1.tab t2.2))
    ctab := hall ⟨lt1, lc1, by decide, _, t1.1.tab t1.2⟩ ⟨lt2, lc2, by decide, _, t2.1.tab t2.2⟩
    dtab := by
      refine List.pairwise_cons.mpr ⟨fun t ht => ?_, List.pairwise_singleton _ _⟩
      rw [List.mem_singleton] at ht
      subst ht
      decide
    gens := hg
    os := rfl }
  have nS : ∀ {P : Addr}, s₁.heap.get? P = some (tabObj #[]) → S ≠ P := fun h e => by
    obtain ⟨o, e1, e2, _⟩ := hl
    rw [e, h] at e1
    cases e1
    cases e2
  have L := lawc (X := X) (A := callerA) (R := []) C G (List.mem_cons_self) (List.mem_cons_of_mem _ List.mem_cons_self) (S := S) (vs := vs) (xs := xs) hl (hall (nS t1.2) (nS t2.2)) hi (by rw [ints_len hi]; exact hn) ⟨by decide, by decide, rfl⟩ (Ψ := fun v _ => v = .bool true) rfl
  exact wpAny_mono (L.run s₁ I) (fun v s' ⟨R', I', h⟩ => ⟨h, I'.old, I'.os, I'.gens⟩) fun _ _ h => h
end
end Mine
open PySem PySem.W PySem.Calls PyProof.Rows
set_option maxHeartbeats 8000000 in
theorem PySem.Challenge.cw_sh0033_01_holds : PySem.Challenge.rw_sh0033_01.Holds := by
  refine Mine.hd (by
    k_fill
    intro w s₀ s₁ mg mb G Y fa o pm cd doc dV kV ho hd hcd hD hmg hg args vals as hpre hlay hrd hwl hlo
    have KX := km_in_of Y
    km_tabs Y
    refine Ground.open G ?_
    intro T B D TE TW
    try (refine guard_noD D (by decide +kernel) ?_; clear D)
    km_lay T hmg ho hd cd
    wrow_args hpre hlay hrd hwl hlo
    rename_i xs _ _ _ _ _ _ S vs _ hl _ _ _ hi _ hc _
    refine wpAny_mono (Mine.finL KX hT9 T.g T.b T.nolimit T.builtins T.bmain hmg hg hl hi (by omega)) (fun v s' h => ?_) fun _ _ h => h.elim
    obtain ⟨rfl, h1, h2, h3⟩ := h
    refine ⟨.inl ⟨_, _, [], rfl, fun _ => rfl, ReadsW.bool true, ?_, fun _ => ⟨List.nodup_nil, fun _ hm => nomatch hm⟩⟩, h1, h2, by rw [h3]; exact AllBare.empty⟩
    first | rfl | wrow_post)
