import PyProof.Rows.All
import Wide.All
import OpenK.AllK
import Wide.FinOn
import PySem.Challenge.RW_pe0160_01
open PySem PySem.W PyProof.Rows PySem.Calls
set_option Elab.async false
set_option maxRecDepth 100000
set_option linter.unusedSimpArgs false
set_option linter.unusedVariables false
namespace Mine
open_top hd for PySem.Challenge.rw_pe0160_01
noncomputable section

abbrev prog : Program := PySem.Challenge.rw_pe0160_01.row.toRowW.prog

/-- the makers' tables: address, the qualified name of what is made there -/
noncomputable def tabs : List (Addr × Str) := [(30, "_int2digits.<locals>.inner"), (37, "_digits2int.<locals>.inner"), (100, "_law_halved.<locals>.<lambda>"), (114, "_law_parted.<locals>.<lambda>")]
abbrev IsTab (a : Addr) : Prop := a = 30 ∨ a = 37 ∨ a = 100 ∨ a = 114

set_option genInjectivity false in
set_option genSizeOf false in
structure Base where
  w : World
  G : Heap
  mg : Str → Option Value
  mb : Str → Option Value
  g : G.Ns mainGlobals mg
  b : G.Ns builtinsNs mb
  nolimit : G.NoLimit
  bi : ∀ x : Str, x ≠ "__name__" → mb x = bootBuiltins x
  K : (Mine.hd.heap_39 w.params).In G
  hid : ∀ P, IsTab P → G.get? P = none
  bmain : ∃ bm ob, mg "__builtins__" = some (.ref bm) ∧ bm ≠ builtinsNs ∧ G.get? bm = some ob ∧ ob.cls = .type "module" ∧ ob.dict = some builtinsNs ∧ ob.data = .plain

abbrev Base.M (β : Base) : Model := model prog β.w
abbrev Base.F (β : Base) : Frag := Mine.hd.heap_39 β.w.params

noncomputable def TabOk (h : Heap) (P : Addr) (q : Str) : Prop :=
  ∃ ps : Array Value, h.get? P = some (tabObj ps) ∧ TriplesOk ps.toList ∧
    ∀ pos : Pos, codeAmong pos ps.toList = none ∨ ∃ c, codeAmong pos ps.toList = some (.ref c) ∧ h.CodeRec (.ref c) q ∧ 125 ≤ c
noncomputable def TabsOk (h : Heap) : Prop := ∀ p ∈ tabs, TabOk h p.1 p.2
theorem isTab_iff {a : Addr} : IsTab a ↔ a ∈ tabs.map (·.1) := by simp [tabs, IsTab]
theorem isTab_lt {a : Addr} (h : IsTab a) : a < 125 := by rcases h with h | h | h | h <;> subst h <;> decide
theorem TabsOk.there {h : Heap} (T : TabsOk h) {P : Addr} (hP : IsTab P) : ∃ o, h.get? P = some o := by
  obtain ⟨p, hp, rfl⟩ := List.mem_map.mp (isTab_iff.mp hP)
  obtain ⟨ps, e, _⟩ := T p hp
  exact ⟨_, e⟩

/-- a code object that a table names -/
noncomputable def TabCode (h : Heap) (c : Addr) : Prop := ∃ P ps pos, IsTab P ∧ h.get? P = some (tabObj ps) ∧ codeAmong pos ps.toList = some (.ref c)

/-- growth: all but the tables stays as it was -/
noncomputable def Ext0 (h h' : Heap) : Prop := ∀ b o, h.get? b = some o → ¬ IsTab b → h'.get? b = some o
theorem Ext0.refl (h : Heap) : Ext0 h h := fun _ _ e _ => e
theorem Ext0.trans {h h' h'' : Heap} (x : Ext0 h h') (y : Ext0 h' h'') : Ext0 h h'' := fun b o e n => y b o (x b o e n) n

abbrev OP := Obj → Prop
abbrev Led := List (Addr × OP)

structure W (β : Base) (h₀ h : Heap) (l : Led) : Prop where
  base0 : ∀ b o, β.G.get? b = some o → h₀.get? b = some o
  tabs0 : ∀ P, IsTab P → ∃ o, h₀.get? P = some o
  tabs : TabsOk h
  grow : Ext0 h₀ h
  codes : ∀ c, TabCode h c → TabCode h₀ c ∨ h₀.get? c = none
  led : ∀ p ∈ l, (∃ o, h.get? p.1 = some o ∧ p.2 o) ∧ h₀.get? p.1 = none ∧ ¬ TabCode h p.1
  nd : l.Pairwise fun p q => p.1 ≠ q.1

/-- one place of the ledger changed -/
inductive Upd : Led → Addr → OP → OP → Led → Prop where
  | head {a P P' l} : Upd ((a, P) :: l) a P P' ((a, P') :: l)
  | tail {q a P P' l l'} : Upd l a P P' l' → Upd (q :: l) a P P' (q :: l')
/-- one place of the ledger gone -/
inductive Del : Led → Addr → OP → Led → Prop where
  | head {a P l} : Del ((a, P) :: l) a P l
  | tail {q a P l l'} : Del l a P l' → Del (q :: l) a P (q :: l')
section
variable {β : Base} {h₀ h h' : Heap} {l l' : Led} {a : Addr} {P P' : OP} {o : Obj}

theorem tab_q {P : Addr} (h : IsTab P) : ∃ q, (P, q) ∈ tabs := by
  rcases h with h | h | h | h <;> subst h <;> exact ⟨_, by simp [tabs]; rfl⟩
theorem TabsOk.code (T : TabsOk h) {c : Addr} (x : TabCode h c) : (∃ q, h.CodeRec (.ref c) q) ∧ 125 ≤ c := by
  obtain ⟨P, ps, pos, hP, e, f⟩ := x
  obtain ⟨q, hq⟩ := tab_q hP
  obtain ⟨ps', e', _, k⟩ := T _ hq
  rw [e] at e'; cases e'
  rcases k pos with k | ⟨c', k, r, l⟩
  · rw [f] at k; cases k
  · rw [f] at k; cases k; exact ⟨⟨q, r⟩, l⟩
theorem codeRec_get {c : Addr} {q : Str} (x : h.CodeRec (.ref c) q) : ∃ o, h.get? c = some o := let ⟨_, o, _, _, e, ho, _⟩ := x; ⟨o, by cases e; exact ho⟩

theorem W.base (H : W β h₀ h l) : ∀ b o, β.G.get? b = some o → h.get? b = some o := fun b o e =>
  H.grow b o (H.base0 b o e) fun t => by rw [β.hid b t] at e; cases e
theorem W.notTab (H : W β h₀ h l) {p : Addr × OP} (hp : p ∈ l) : ¬ IsTab p.1 := fun t => by
  obtain ⟨o, e⟩ := H.tabs0 _ t
  rw [(H.led p hp).2.1] at e; cases e
theorem W.get (H : W β h₀ h l) (hm : (a, P) ∈ l) : ∃ o, h.get? a = some o ∧ P o := (H.led _ hm).1
theorem W.start (H : W β h₀ h l) : W β h h [] :=
  ⟨H.base, fun _ t => H.tabs.there t, H.tabs, .refl h, fun _ x => .inl x, (fun _ hp => nomatch hp), .nil⟩
theorem W.drop (H : W β h₀ h l) : W β h₀ h [] := ⟨H.base0, H.tabs0, H.tabs, H.grow, H.codes, (fun _ hp => nomatch hp), .nil⟩
theorem W.lift (H : W β h₀ h l) (H' : W β h h' l') : W β h₀ h' l := by
  refine ⟨H.base0, H.tabs0, H'.tabs, H.grow.trans H'.grow, fun c x => ?_, fun p hp => ⟨?_, (H.led p hp).2.1, fun x => ?_⟩, H.nd⟩
  · rcases H'.codes c x with y | y
    · exact H.codes c y
    · refine .inr ?_
      cases e : h₀.get? c with
      | none => rfl
      | some o =>
        have := H.grow c o e fun t => absurd (isTab_lt t) (Nat.not_lt.mpr (H'.tabs.code x).2)
        rw [y] at this; cases this
  · obtain ⟨o, e, x⟩ := (H.led p hp).1
    exact ⟨o, H'.grow _ _ e (H.notTab hp), x⟩
  · rcases H'.codes _ x with y | y
    · exact (H.led p hp).2.2 y
    · obtain ⟨o, e, _⟩ := (H.led p hp).1
      rw [y] at e; cases e
theorem W.lift2 (H : W β h₀ h l) (H' : W β h h' l') : W β h₀ h' (l' ++ l) := by
  have L := H.lift H'
  refine ⟨L.base0, L.tabs0, L.tabs, L.grow, L.codes, fun p hp => ?_, ?_⟩
  · rcases List.mem_append.mp hp with hp | hp
    · obtain ⟨x, n, c⟩ := H'.led p hp
      refine ⟨x, ?_, c⟩
      cases e : h₀.get? p.1 with
      | none => rfl
      | some o =>
        have := H.grow _ o e (H'.notTab hp)
        rw [n] at this; cases this
    · exact L.led p hp
  · refine List.pairwise_append.mpr ⟨H'.nd, H.nd, fun p hp q hq e => ?_⟩
    obtain ⟨o, x, _⟩ := (H.led q hq).1
    rw [← e, (H'.led p hp).2.1] at x; cases x
theorem W.sub (H : W β h₀ h l) (hs : l'.Sublist l) : W β h₀ h l' :=
  ⟨H.base0, H.tabs0, H.tabs, H.grow, H.codes, fun p hp => H.led p (hs.subset hp), H.nd.sublist hs⟩

theorem W.size_new (H : W β h₀ h l) : h₀.get? h.objs.size = none := by
  cases e : h₀.get? h.objs.size with
  | none => rfl
  | some o =>
    by_cases t : IsTab h.objs.size
    · obtain ⟨o', e'⟩ := H.tabs.there t
      exact absurd (Heap.lt_size e') (Nat.lt_irrefl _)
    · exact absurd (Heap.lt_size (H.grow _ _ e t)) (Nat.lt_irrefl _)

theorem codeRec_ext {c : Addr} {q : Str} (x : h.CodeRec (.ref c) q) (k : ∀ o, h.get? c = some o → h'.get? c = some o) : h'.CodeRec (.ref c) q :=
  let ⟨c', o, vs, t, e, ho, r⟩ := x; ⟨c', o, vs, t, e, by cases e; exact k o ho, r⟩
theorem TabsOk.ext (T : TabsOk h) (k : ∀ b o, IsTab b ∨ TabCode h b → h.get? b = some o → h'.get? b = some o) : TabsOk h' := fun p hp => by
  obtain ⟨ps, e, t, c⟩ := T p hp
  have hP : IsTab p.1 := isTab_iff.mpr (List.mem_map_of_mem hp)
  refine ⟨ps, k _ _ (.inl hP) e, t, fun pos => (c pos).imp id fun ⟨c, e', r, l⟩ => ⟨c, e', codeRec_ext r fun o => k _ o (.inr ⟨_, ps, pos, hP, e, e'⟩), l⟩⟩
theorem TabCode.back (T : TabsOk h) (k : ∀ b o, IsTab b → h.get? b = some o → h'.get? b = some o) {c : Addr} (x : TabCode h' c) : TabCode h c := by
  obtain ⟨P, ps, pos, hP, e, f⟩ := x
  obtain ⟨o, e'⟩ := T.there hP
  have := k _ _ hP e'
  rw [e] at this; cases this
  exact ⟨P, ps, pos, hP, e', f⟩

theorem W.keeps (H : W β h₀ h l) (k : ∀ b o, h.get? b = some o → h'.get? b = some o) : W β h₀ h' l :=
  ⟨H.base0, H.tabs0, H.tabs.ext fun b o _ => k b o, fun b o e n => k b o (H.grow b o e n), fun c x => H.codes c (x.back H.tabs fun b o _ => k b o),
    fun p hp => ⟨let ⟨o, e, x⟩ := (H.led p hp).1; ⟨o, k _ _ e, x⟩, (H.led p hp).2.1, fun x => (H.led p hp).2.2 (x.back H.tabs fun b o _ => k b o)⟩, H.nd⟩
theorem W.add (H : W β h₀ h l) (hn : h₀.get? a = none) (hc : ¬ TabCode h a) (ha : ∀ p ∈ l, p.1 ≠ a) (ho : ∃ o, h.get? a = some o ∧ P o) : W β h₀ h ((a, P) :: l) :=
  ⟨H.base0, H.tabs0, H.tabs, H.grow, H.codes, fun p hp => (List.mem_cons.mp hp).elim (fun e => by subst e; exact ⟨ho, hn, hc⟩) fun hp => H.led p hp, .cons (fun p hp => (ha p hp).symm) H.nd⟩
theorem W.lt (H : W β h₀ h l) {p : Addr × OP} (hp : p ∈ l) : p.1 < h.objs.size := let ⟨_, e, _⟩ := (H.led p hp).1; Heap.lt_size e
theorem W.push0 (H : W β h₀ h l) (o : Obj) : W β h₀ (h.push o) l := H.keeps fun _ _ e => Heap.get?_push_of_some o e
theorem W.size_code (H : W β h₀ h l) : ¬ TabCode h h.objs.size := fun x => by
  obtain ⟨⟨q, r⟩, _⟩ := H.tabs.code x
  obtain ⟨o, e⟩ := codeRec_get r
  exact absurd (Heap.lt_size e) (Nat.lt_irrefl _)
/-- a new object, at the next address, in a heap that keeps all others -/
theorem W.new (H : W β h₀ h l) (k : ∀ b o, h.get? b = some o → h'.get? b = some o) (ho : ∃ o, h'.get? h.objs.size = some o ∧ P o) : W β h₀ h' ((h.objs.size, P) :: l) :=
  (H.keeps k).add H.size_new (fun x => H.size_code (x.back H.tabs fun b o _ => k b o)) (fun _ hp => Nat.ne_of_lt (H.lt hp)) ho
theorem W.push (H : W β h₀ h l) (o : Obj) (hP : P o) (hf : o.isFreed = false) : W β h₀ (h.push o) ((h.objs.size, P) :: l) :=
  H.new (fun _ _ e => Heap.get?_push_of_some o e) ⟨o, Heap.get?_push_size _ hf, hP⟩

theorem Upd.mem (U : Upd l a P P' l') : (a, P) ∈ l := by
  induction U with
  | head => exact .head _
  | tail _ ih => exact .tail _ ih
theorem Upd.cases' (U : Upd l a P P' l') (nd : l.Pairwise fun p q => p.1 ≠ q.1) : ∀ p ∈ l', p = (a, P') ∨ (p ∈ l ∧ p.1 ≠ a) := by
  induction U with
  | head =>
    intro p hp
    rcases List.mem_cons.mp hp with e | hp
    · exact .inl e
    · exact .inr ⟨.tail _ hp, ((List.pairwise_cons.mp nd).1 p hp).symm⟩
  | tail U ih =>
    intro p hp
    rcases List.mem_cons.mp hp with e | hp
    · subst e; exact .inr ⟨.head _, (List.pairwise_cons.mp nd).1 _ U.mem⟩
    · exact (ih (List.pairwise_cons.mp nd).2 p hp).imp id fun ⟨x, y⟩ => ⟨.tail _ x, y⟩
theorem Upd.map (U : Upd l a P P' l') : l'.map (·.1) = l.map (·.1) := by
  induction U with
  | head => rfl
  | tail _ ih => simp [ih]
theorem pairwise_map {l : Led} : (l.Pairwise fun p q => p.1 ≠ q.1) ↔ (l.map (·.1)).Pairwise (· ≠ ·) := by rw [List.pairwise_map]
theorem W.upd' (H : W β h₀ h l) (U : Upd l a P P' l') (hs : Heap.ExtBut a h h') (ho : ∃ o, h'.get? a = some o ∧ P' o) : W β h₀ h' l' := by
  have nt := H.notTab U.mem
  have hk : ∀ b o, b ≠ a → h.get? b = some o → h'.get? b = some o := hs
  obtain ⟨_, na, nc⟩ := H.led _ U.mem
  have kt : ∀ b o, IsTab b → h.get? b = some o → h'.get? b = some o := fun b o t e => hk b o (fun q => nt (q ▸ t)) e
  refine ⟨H.base0, H.tabs0, H.tabs.ext (fun b o t e => t.elim (fun t => kt b o t e) fun t => hk b o (fun q => nc (q ▸ t)) e), ?_, fun c x => H.codes c (x.back H.tabs kt), ?_, ?_⟩
  · intro b o e n
    by_cases q : b = a
    · subst q; rw [na] at e; cases e
    · exact hk b o q (H.grow b o e n)
  · intro p hp
    rcases U.cases' H.nd p hp with e | ⟨hp, q⟩
    · subst e; exact ⟨ho, na, fun x => nc (x.back H.tabs kt)⟩
    · obtain ⟨⟨o, e, x⟩, n, c⟩ := H.led p hp
      exact ⟨⟨o, hk _ o q e, x⟩, n, fun x => c (x.back H.tabs kt)⟩
  · rw [pairwise_map, U.map, ← pairwise_map]; exact H.nd
theorem W.upd (H : W β h₀ h l) (U : Upd l a P P' l') (hs : Heap.SameBut a h h') (ho : ∃ o, h'.get? a = some o ∧ P' o) : W β h₀ h' l' := H.upd' U hs.extBut ho
theorem Del.mem (U : Del l a P l') : (a, P) ∈ l := by
  induction U with
  | head => exact .head _
  | tail _ ih => exact .tail _ ih
theorem Del.sub (U : Del l a P l') : l'.Sublist l := by
  induction U with
  | head => exact .cons _ (.refl _)
  | tail _ ih => exact .cons_cons _ ih
theorem Del.ne (U : Del l a P l') (nd : l.Pairwise fun p q => p.1 ≠ q.1) : ∀ p ∈ l', p.1 ≠ a := by
  induction U with
  | head => exact fun p hp => ((List.pairwise_cons.mp nd).1 p hp).symm
  | tail U ih =>
    intro p hp
    rcases List.mem_cons.mp hp with e | hp
    · subst e; exact (List.pairwise_cons.mp nd).1 _ U.mem
    · exact ih (List.pairwise_cons.mp nd).2 p hp
theorem W.del (H : W β h₀ h l) (U : Del l a P l') (hs : Heap.ExtBut a h h') : W β h₀ h' l' := by
  have nt := H.notTab U.mem
  have hk : ∀ b o, b ≠ a → h.get? b = some o → h'.get? b = some o := hs
  obtain ⟨_, na, nc⟩ := H.led _ U.mem
  have kt : ∀ b o, IsTab b → h.get? b = some o → h'.get? b = some o := fun b o t e => hk b o (fun q => nt (q ▸ t)) e
  refine ⟨H.base0, H.tabs0, H.tabs.ext (fun b o t e => t.elim (fun t => kt b o t e) fun t => hk b o (fun q => nc (q ▸ t)) e), ?_, fun c x => H.codes c (x.back H.tabs kt), ?_, H.nd.sublist U.sub⟩
  · intro b o e n
    by_cases q : b = a
    · subst q; rw [na] at e; cases e
    · exact hk b o q (H.grow b o e n)
  · intro p hp
    obtain ⟨⟨o, e, x⟩, n, c⟩ := H.led p (U.sub.subset hp)
    exact ⟨⟨o, hk _ o (U.ne H.nd p hp) e, x⟩, n, fun x => c (x.back H.tabs kt)⟩
end

abbrev S (s : Shared) (h : Heap) (t : Nat) : Shared := { s with heap := h, toks := t }
abbrev NoE : Value → Shared → Prop := fun _ _ => False

structure AOk (A : Around) (n : Nat) : Prop where
  handled : A.handled = none
  depth : A.depth + n < recursionLimit
  units : A.units + 20 * n + 100 < cLine
theorem AOk.deeper {A : Around} {n : Nat} (h : AOk A (n + 1)) (env : Env) : AOk (A.deeper env) n :=
  ⟨h.handled, by have := h.depth; show A.depth + 1 + n < _; (first | lia | omega), by have := h.units; show A.units + 3 + 20 * n + 100 < _; (first | lia | omega)⟩
theorem AOk.room {A : Around} {n : Nat} (h : AOk A n) : A.depth < recursionLimit := by have := h.depth; (first | lia | omega)
theorem AOk.cunits {A : Around} {n : Nat} (h : AOk A n) : A.units < cLine := by have := h.units; (first | lia | omega)
theorem AOk.mono {A : Around} {n m : Nat} (h : AOk A n) (hm : m ≤ n) : AOk A m := ⟨h.handled, by have := h.depth; (first | lia | omega), by have := h.units; (first | lia | omega)⟩

noncomputable def Has (h : Heap) (a : Addr) (P : OP) : Prop := (∃ o, h.get? a = some o ∧ P o) ∧ ¬ IsTab a

noncomputable def NsO (bs : List (Str × Value)) : OP := fun o => ∃ es ep, o.data = .dict es ep ∧ StrKeys es ∧ ∀ n, nsFind es n = bs.lookup n
noncomputable def ListO (vs : List Value) : OP := fun o => ∃ n, o = { cls := .type "list", dict := none, data := .seq vs.toArray n, slots := #[] }
noncomputable def TupO (vs : List Value) : OP := fun o => ∃ n, o = { cls := .type "tuple", dict := none, data := .seq vs.toArray n, slots := #[] }
noncomputable def IsO (o₁ : Obj) : OP := fun o => o = o₁
noncomputable def CellO (v : Option Value) : OP := fun o => o.data = .cell v
noncomputable def SliceO (l u st : Value) : OP := fun o => o.cls = .type "slice" ∧ o.data = .fields #[l, u, st]
noncomputable def RangeO (a b c : Int) : OP := fun o => ∃ t u v, o = { cls := .type "range", dict := none, data := .fields #[.int a t, .int b u, .int c v], slots := #[] }
noncomputable def RItO (x left : Int) : OP := fun o => o = { cls := .type "range_iterator", dict := none, data := .fields #[rawInt x, rawInt left, rawInt 1], slots := #[] }
noncomputable def LItO (a : Addr) (i : Nat) : OP := fun o => o.cls = .type "list_iterator" ∧ o.data = .fields #[.ref a, .int i 0]

section
variable {β : Base} {A : Around} {s : Shared} {h₀ h h' : Heap} {t n : Nat} {l l' : Led} {env : Env} {E : Value → Shared → Prop} {a : Addr} {P : OP} {Q : Value → Shared → Prop}

theorem W.has (H : W β h₀ h l) (hm : (a, P) ∈ l) : Has h a P := ⟨H.get hm, H.notTab hm⟩
theorem W.old (H : W β h₀ h l) (x : Has h₀ a P) : Has h a P := ⟨let ⟨o, e, p⟩ := x.1; ⟨o, H.grow a o e x.2, p⟩, x.2⟩
theorem Has.ext {h h' : Heap} (x : Has h a P) (k : Ext0 h h') : Has h' a P := ⟨let ⟨o, e, p⟩ := x.1; ⟨o, k a o e x.2, p⟩, x.2⟩

theorem W.frag (H : W β h₀ h l) : β.F.In h := fun a o e => H.base a o (β.K a o e)
theorem W.mg (H : W β h₀ h l) : h.Ns mainGlobals β.mg := β.g.keeps H.base
theorem W.mb (H : W β h₀ h l) : h.Ns builtinsNs β.mb := β.b.keeps H.base
theorem W.nolimit (H : W β h₀ h l) : h.NoLimit := β.nolimit.keeps H.base

theorem r_int {i c pos} (k : ∀ t₁ t', Q (.int i t₁) (S s h t')) : wpAny β.M A (eval (.Constant (.int i) c pos) env) Q E (S s h t) := wpAny_Constant_int (k _ _)
theorem r_str {x c pos} (k : ∀ t₁ t', Q (.str x t₁) (S s h t')) : wpAny β.M A (eval (.Constant (.str x) c pos) env) Q E (S s h t) := wpAny_Constant_str (k _ _)

theorem r_local {x : Str} {pos : Pos} {bs : List (Str × Value)} {v : Value} (H : W β h₀ h l) (hk : env.scope.kind = .function) (hl : env.kindOf x = some .local) (hm : (env.locals, NsO bs) ∈ l) (hv : bs.lookup x = some v)
    (hd : (x == ("__debug__" : Str)) = false) (k : Q v (S s h t)) : wpAny β.M A (eval (.Name x pos) env) Q E (S s h t) := by
  obtain ⟨o, e, es, ep, hd', hs, hf⟩ := H.get hm
  exact wpAny_Name (wpAny_loadName_local (m := fun n => bs.lookup n) hk hl ⟨o, es, ep, e, hd', hs, hf⟩ hv k) hd
theorem r_cell {x : Str} {pos : Pos} {c : Addr} {v : Value} (H : W β h₀ h l) (hk : env.scope.kind = .function) (hl : env.kindOf x = some .cell) (hc : env.cells.lookup x = some c) (hm : (c, CellO (some v)) ∈ l)
    (hd : (x == ("__debug__" : Str)) = false) (k : Q v (S s h t)) : wpAny β.M A (eval (.Name x pos) env) Q E (S s h t) := by
  obtain ⟨o, e, p⟩ := H.get hm
  exact wpAny_Name (wpAny_loadName_cell hk hl hc ⟨o, e, p⟩ k) hd
theorem r_free {x : Str} {pos : Pos} {c : Addr} {v : Value} (hm : Has h c (CellO (some v))) (hk : env.scope.kind = .function) (hl : env.kindOf x = some .free) (hc : env.cells.lookup x = some c)
    (hd : (x == ("__debug__" : Str)) = false) (hn : (x == ("__classdict__" : Str)) = false) (k : Q v (S s h t)) : wpAny β.M A (eval (.Name x pos) env) Q E (S s h t) := by
  obtain ⟨⟨o, e, p⟩, _⟩ := hm
  exact wpAny_Name (wpAny_loadName_free hk hl hc ⟨o, e, p⟩ k hn) hd
theorem r_glob {x : Str} {pos : Pos} {v : Value} (H : W β h₀ h l) (hk : env.scope.kind = .function) (hl : env.kindOf x = some .globalImplicit) (hg : env.globals = mainGlobals) (hv : nsIn β.F mainGlobals x = some (some v))
    (hd : (x == ("__debug__" : Str)) = false) (k : Q v (S s h t)) : wpAny β.M A (eval (.Name x pos) env) Q E (S s h t) :=
  Name_function_global hk hl (loadGlobal_global (mg := β.mg) (by rw [hg]; exact H.mg) (mg_of β.K β.g hv) k) hd
theorem r_built {x : Str} {pos : Pos} {v : Value} (H : W β h₀ h l) (hk : env.scope.kind = .function) (hl : env.kindOf x = some .globalImplicit) (hg : env.globals = mainGlobals) (hb : env.builtins = builtinsNs) (hn : nsIn β.F mainGlobals x = some none)
    (hv : bootBuiltins x = some v) (hx : x ≠ "__name__") (hd : (x == ("__debug__" : Str)) = false) (k : Q v (S s h t)) : wpAny β.M A (eval (.Name x pos) env) Q E (S s h t) :=
  Name_function_global hk hl (loadGlobal_builtin (mg := β.mg) (mb := β.mb) (by rw [hg]; exact H.mg) (mg_none_of β.K β.g hn) (by rw [hb]; exact H.mb) ((β.bi x hx).trans hv) k) hd

theorem r_storeG {x : Str} {bs bs' : List (Str × Value)} {v : Value} {Q : Unit → Shared → Prop} (H : W β h₀ h l) (hl : env.kindOf x = some .local) (hk : env.scope.kind = .function) (U : Upd l env.locals (NsO bs) (NsO bs') l') (hb : ∀ n, bs'.lookup n = if n = x then some v else bs.lookup n)
    (k : ∀ h' t', W β h₀ h' l' → Q () (S s h' t')) : wpAny β.M A (storeName env x v) Q E (S s h t) := by
  obtain ⟨o, e, es, ep, hd', hs, hf⟩ := H.get U.mem
  refine wpAny_storeName_local (m := fun n => bs.lookup n) hl ⟨o, es, ep, e, hd', hs, hf⟩ (fun h' hn hsb => k h' _ (H.upd U hsb ?_)) (by rw [hk]; rfl)
  obtain ⟨o', es', ep', e', d', s', f'⟩ := hn
  refine ⟨o', e', es', ep', d', s', fun n => ?_⟩
  rw [f' n, hb]
theorem look_cons (x : Str) (v : Value) (bs : List (Str × Value)) (n : Str) : List.lookup n ((x, v) :: bs) = if n = x then some v else bs.lookup n := by
  rw [List.lookup_cons]
  by_cases h : n = x
  · subst h; simp
  · rw [show (n == x) = false from by simpa using h, if_neg h]
theorem look_cons2 (x : Str) (v v' : Value) (bs : List (Str × Value)) (n : Str) : List.lookup n ((x, v) :: bs) = if n = x then some v else List.lookup n ((x, v') :: bs) := by
  rw [look_cons, look_cons]; split <;> rfl
theorem r_store {x : Str} {bs : List (Str × Value)} {v : Value} {Q : Unit → Shared → Prop} (H : W β h₀ h l) (hl : env.kindOf x = some .local) (hk : env.scope.kind = .function) (U : Upd l env.locals (NsO bs) (NsO ((x, v) :: bs)) l')
    (k : ∀ h' t', W β h₀ h' l' → Q () (S s h' t')) : wpAny β.M A (storeName env x v) Q E (S s h t) := r_storeG H hl hk U (look_cons x v bs) k
/-- a loop's own name: there from the turn before, or not yet -/
theorem r_storeJ {x : Str} {bs bs₀ : List (Str × Value)} {v : Value} {Q : Unit → Shared → Prop} (H : W β h₀ h l) (hl : env.kindOf x = some .local) (hk : env.scope.kind = .function) (hb : bs = bs₀ ∨ ∃ v', bs = (x, v') :: bs₀) (U : Upd l env.locals (NsO bs) (NsO ((x, v) :: bs₀)) l')
    (k : ∀ h' t', W β h₀ h' l' → Q () (S s h' t')) : wpAny β.M A (storeName env x v) Q E (S s h t) := by
  refine r_storeG H hl hk U ?_ k
  rcases hb with rfl | ⟨v', rfl⟩
  · exact look_cons x v _
  · exact look_cons2 x v v' _
theorem r_storeC {x : Str} {c : Addr} {v₀ : Option Value} {v : Value} {Q : Unit → Shared → Prop} (H : W β h₀ h l) (hk : env.scope.kind = .function) (hl : env.kindOf x = some .cell) (hc : env.cells.lookup x = some c) (U : Upd l c (CellO v₀) (CellO (some v)) l')
    (k : ∀ h' t', W β h₀ h' l' → Q () (S s h' t')) : wpAny β.M A (storeName env x v) Q E (S s h t) := by
  obtain ⟨o, e, p⟩ := H.get U.mem
  refine wpAny_storeName_cell hk hl hc ⟨o, e, p⟩ (fun h' hn hsb => k h' _ (H.upd U hsb ?_))
  obtain ⟨o', e', p'⟩ := hn
  exact ⟨o', e', p'⟩

-- ints
theorem r_add {x y : Int} {t₁ t₂} (k : ∀ t₁ t', Q (.int (x + y) t₁) (S s h t')) : wpAny β.M A (binaryOp .Add (.int x t₁) (.int y t₂)) Q E (S s h t) := add_int (k _ _)
theorem r_sub {x y : Int} {t₁ t₂} (k : ∀ t₁ t', Q (.int (x - y) t₁) (S s h t')) : wpAny β.M A (binaryOp .Sub (.int x t₁) (.int y t₂)) Q E (S s h t) := sub_int (k _ _)
theorem r_eq {x y : Int} {t₁ t₂} (k : Q (.bool (x == y)) (S s h t)) : wpAny β.M A (compareOp .Eq (.int x t₁) (.int y t₂)) Q E (S s h t) := eq_int k
theorem r_ne {x y : Int} {t₁ t₂} (k : Q (.bool (x != y)) (S s h t)) : wpAny β.M A (compareOp .NotEq (.int x t₁) (.int y t₂)) Q E (S s h t) := ne_int k
theorem r_lt {x y : Int} {t₁ t₂} (k : Q (.bool (decide (x < y))) (S s h t)) : wpAny β.M A (compareOp .Lt (.int x t₁) (.int y t₂)) Q E (S s h t) := lt_int k
theorem r_le {x y : Int} {t₁ t₂} (k : Q (.bool (decide (x ≤ y))) (S s h t)) : wpAny β.M A (compareOp .LtE (.int x t₁) (.int y t₂)) Q E (S s h t) := le_int k
theorem r_gt {x y : Int} {t₁ t₂} (k : Q (.bool (decide (x > y))) (S s h t)) : wpAny β.M A (compareOp .Gt (.int x t₁) (.int y t₂)) Q E (S s h t) := gt_int k
theorem str_eq_lists (x y : Str) : (x.cps.toList == y.cps.toList) = (x == y) := by
  rw [Bool.eq_iff_iff]; simp only [beq_iff_eq]
  exact ⟨fun h => Str.ext' (Array.toList_inj.mp h), fun h => h ▸ rfl⟩
theorem r_seq {x y : Str} {t₁ t₂} (k : Q (.bool (x == y)) (S s h t)) : wpAny β.M A (compareOp .Eq (.str x t₁) (.str y t₂)) Q E (S s h t) := eq_str ((str_eq_lists x y).symm ▸ k)
theorem r_sne {x y : Str} {t₁ t₂} (k : Q (.bool (x != y)) (S s h t)) : wpAny β.M A (compareOp .NotEq (.str x t₁) (.str y t₂)) Q E (S s h t) := ne_str (by
  have e : (x.cps.toList != y.cps.toList) = (x != y) := by unfold bne; rw [str_eq_lists]
  exact e.symm ▸ k)
theorem r_truth {b : Bool} {Q : Bool → Shared → Prop} (k : Q b (S s h t)) : wpAny β.M A (truthy (.bool b)) Q E (S s h t) := wpAny_truthy_bool k

-- calls
theorem r_lenS {x : Str} {t₁} (hx : x.length < 2 ^ 63) (k : ∀ t₁ t', Q (.int x.length t₁) (S s h t')) : wpAny β.M A (call (.builtin "len") [.str x t₁]) Q E (S s h t) := len_str (by (first | lia | omega)) (k _ _)
theorem r_range1 {y : Int} {t₂} (H : W β h₀ h l) (k : ∀ r h' t', W β h₀ h' ((r, RangeO 0 y 1) :: l) → Q (.ref r) (S s h' t')) : wpAny β.M A (call (.type "range") [.int y t₂]) Q E (S s h t) :=
  call_range_1 (k _ _ _ (H.push _ ⟨_, _, _, rfl⟩ rfl))
theorem r_range2 {x y : Int} {t₁ t₂} (H : W β h₀ h l) (k : ∀ r h' t', W β h₀ h' ((r, RangeO x y 1) :: l) → Q (.ref r) (S s h' t')) : wpAny β.M A (call (.type "range") [.int x t₁, .int y t₂]) Q E (S s h t) :=
  call_range_2 (k _ _ _ (H.push _ ⟨_, _, _, rfl⟩ rfl))
theorem small_of {x y : Int} (hx : -(2 ^ 62) < x ∧ x < 2 ^ 62) (hy : -(2 ^ 62) < y ∧ y < 2 ^ 62) : Builtin.Range.small x y 1 = true := by
  unfold Builtin.Range.small Builtin.Range.rangeFitsLong
  rw [rangeSize_one]
  simp only [Bool.and_eq_true, decide_eq_true_eq, Bool.or_eq_true, beq_iff_eq]
  split <;> (split <;> simp <;> (first | lia | omega))
theorem r_iterR {x y : Int} {r : Addr} (H : W β h₀ h l) (hr : (r, RangeO x y 1) ∈ l) (hx : -(2 ^ 62) < x ∧ x < 2 ^ 62) (hy : -(2 ^ 62) < y ∧ y < 2 ^ 62)
    (k : ∀ i h' t', W β h₀ h' ((i, RItO x ((y - x).toNat : Int)) :: l) → Q (.ref i) (S s h' t')) : wpAny β.M A (pyIter (.ref r)) Q E (S s h t) := by
  obtain ⟨o, e, t₁, t₂, t₃, rfl⟩ := H.get hr
  refine wpAny_pyIter_range (t := t₁) (u := t₂) (v := t₃) e (small_of hx hy) (k _ _ _ (H.push _ ?_ rfl))
  rw [rangeSize_nat]
  rfl

-- slices
theorem r_Slice {lower upper step : Option Expr} {p : Pos}
    (k : wpAny β.M A (evalPart lower env) (fun lv s₁ => wpAny β.M A (evalPart upper env) (fun uv s₂ => wpAny β.M A (evalPart step env) (fun sv s₃ => ∃ h₀ h l t, s₃ = S s h t ∧ W β h₀ h l ∧ ∀ i h' t', W β h₀ h' ((i, SliceO lv uv sv) :: l) → Q (.ref i) (S s h' t')) E s₂) E s₁) E (S s h t)) :
    wpAny β.M A (eval (.Slice lower upper step p) env) Q E (S s h t) := by
  refine wpAny_Slice (wpAny_mono k (fun lv s₁ h₁ => wpAny_mono h₁ (fun uv s₂ h₂ => wpAny_mono h₂ (fun sv s₃ h₃ => ?_) fun _ _ x => x) fun _ _ x => x) fun _ _ x => x)
  obtain ⟨h₀, h, l, t, rfl, H, k⟩ := h₃
  exact k _ _ _ (H.push _ ⟨rfl, rfl⟩ rfl)

noncomputable def pOf : Value → Option (Int × Tok)
  | .int i t => some (i, t)
  | _ => none
theorem r_tailS {value slice : Expr} {x : Str} {t₁ : Tok} {i : Addr} {lo hi : Option (Int × Tok)} (H : W β h₀ h ((i, SliceO (partValue lo) (partValue hi) .none) :: l)) (hx : x.length ≤ sizeLine)
    (hs : subscripted slice false (.str x t₁) (.ref i) = operate [.ref i, .str x t₁] (getItem (.str x t₁) (.ref i))) (ht : ∀ r, letTemporaryGo value (.str x t₁) r = pure ())
    (k : ∀ t₁ t', W β h₀ h l → Q (.str (Txt.slice x (lo.map (·.1)) (hi.map (·.1))) t₁) (S s h t')) :
    wpAny β.M A (subscriptTail value slice (.str x t₁) (.ref i)) Q E (S s h t) := by
  obtain ⟨o, e, p, q⟩ := H.get (.head _)
  have H' := H.sub (List.sublist_cons_self _ _)
  exact tail_of_ItemOn ⟨"str", _, F.slot_str_getitem.lookup, typeIs_str _ _ _, wpAny_getItem_str_slice (l := lo) (u := hi) (st := none) ⟨o, e, p, q⟩ rfl
    (post_val_or_str ⟨Nat.le_trans (Txt.slice_le x _ _) hx, fun t' k' => k t' k' H'⟩)⟩ hs ht

-- a def of the text's called
noncomputable def RetP (β : Base) (s : Shared) (h : Heap) (R : Value → Led → Prop) (f : Flow) (s' : Shared) : Prop :=
  ∃ h' t' l', s' = S s h' t' ∧ W β h h' l' ∧ R (match f with | .ret v => v | _ => .none) l'
theorem RetP.ret {R : Value → Led → Prop} {v : Value} (H : W β h h' l) (hs : l'.Sublist l) (r : R v l') : RetP β s h R (.ret v) (S s h' t) := ⟨h', t, l', rfl, H.sub hs, r⟩
theorem RetP.next {R : Value → Led → Prop} (H : W β h h' l) (hs : l'.Sublist l) (r : R .none l') : RetP β s h R .next (S s h' t) := ⟨h', t, l', rfl, H.sub hs, r⟩
/-- an int, and nothing else that one could look at -/
noncomputable def IntR (x : Int) (v : Value) (l : Led) : Prop := l = [] ∧ ∃ t, v = .int x t
theorem IntR.of {x y : Int} {t : Tok} (e : y = x) : IntR x (.int y t) [] := ⟨rfl, t, by rw [e]⟩
theorem RetP.int {x y : Int} {t₁ : Tok} (H : W β h h' l) (e : y = x) : RetP β s h (IntR x) (.ret (.int y t₁)) (S s h' t) := .ret H (List.nil_sublist _) (.of e)

theorem W.frame {bs : List (Str × Value)} (H : W β h₀ h l) (hn : h'.Ns h.objs.size (fun x => bs.lookup x)) (k : ∀ b o, h.get? b = some o → h'.get? b = some o) : W β h₀ h' ((h.objs.size, NsO bs) :: l) :=
  let ⟨o, es, ep, e, d, st, f⟩ := hn
  H.new k ⟨o, e, es, ep, d, st, f⟩

theorem r_call {fa : Addr} {fo : Obj} {name qual : Str} {params : Arguments} {body : List Stmt} {scope : Scope} {cl : List (Str × Addr)} {dV kV doc pm cdv ct : Value} {an : Option Addr} {pos : List Value} {kw : List (Str × Value)} (binds : List (Str × Value)) {R : Value → Led → Prop}
    (hA : AOk A (n + 1)) (H : W β h₀ h l) (ho : β.F.lookup fa = some fo) (hd : fo.data = .func (fnX name qual params body scope cl dV kV doc pm an cdv ct)) (hcd : codeIn β.F cdv qual = true)
    (hbind : BindsTo (S s h t) (fnX name qual params body scope cl dV kV doc pm an cdv ct) ⟨pos, kw⟩ binds) (hcell : ∀ x ∈ scope.names, x.2 ≠ .cell) (hloc : ∀ x ∈ binds, scope.names.lookup x.1 = some .local)
    (hco : scope.isCoroutine = false) (hgen : scope.isGenerator = false) (hk : scope.kind = .function)
    (hb : ∀ A L h₁ t₁, AOk A n → W β h h₁ [(L, NsO binds.reverse)] → wpAny β.M A (execs body (envX qual scope L fa cdv cl)) (RetP β s h R) NoE (S s h₁ t₁))
    (k : ∀ v h' t' l', W β h₀ h' (l' ++ l) → R v l' → Q v (S s h' t')) : wpAny β.M A (call (.ref fa) pos kw) Q E (S s h t) := by
  refine wpAny_call (codeAny_call_def (fd := fnX name qual params body scope cl dV kV doc pm an cdv ct) hA.room (H.frag fa fo ho) hd H.nolimit (codeRec_of H.frag hcd) rfl hbind hcell hloc (fun h₁ hns hk₁ => ?_) hco hgen hk)
  refine wpAny_mono (hb _ h.objs.size h₁ _ (hA.deeper _) (H.start.frame hns hk₁)) (fun f s' hr => ?_) fun _ _ x => x.elim
  obtain ⟨h', t', l', rfl, H', r⟩ := hr
  exact k _ _ _ _ (H.lift2 H') r

-- loops
noncomputable def LoopP (β : Base) (s : Shared) (h₀ : Heap) (it : Addr) (P : OP) (J : Led → Prop) (Q : Flow → Shared → Prop) (f : Flow) (s' : Shared) : Prop :=
  match f with
  | .ret v => Q (.ret v) s'
  | .brk => Q .next s'
  | _ => ∃ h t l, s' = S s h t ∧ W β h₀ h ((it, P) :: l) ∧ J l
theorem LoopP.next {it : Addr} {P : OP} {J : Led → Prop} {Q : Flow → Shared → Prop} (H : W β h₀ h ((it, P) :: l)) (j : J l) : LoopP β s h₀ it P J Q .next (S s h t) := ⟨h, t, l, rfl, H, j⟩

theorem LoopP.ret {it : Addr} {P : OP} {J : Led → Prop} {Q : Flow → Shared → Prop} {v : Value} {s' : Shared} (k : Q (.ret v) s') : LoopP β s h₀ it P J Q (.ret v) s' := k

theorem r_forR {target iter : Expr} {body : List Stmt} {pos : Pos} {Q : Flow → Shared → Prop}
    (hs : ∀ x, foldedSetIterable iter env x = pure x)
    (k : wpAny β.M A (eval iter env) (fun x s₁ => wpAny β.M A (pyIter x) (fun it s₂ => codeAny β.M A (.forLoop target it body [] env) (fun r s' => match r with | .ok f => Q f s' | .error _ => False) s₂) E s₁) E (S s h t)) :
    wpAny β.M A (exec (.For target iter body [] pos) env) Q E (S s h t) :=
  wpAny_For (wpAny_mono k (fun x s₁ h₁ => wpAny_mono h₁ (fun it s₂ h₂ => codeAny_mono h₂ fun r s' hr => by cases r with | ok f => exact hr | error e => exact hr.elim) fun _ _ x => x) fun _ _ x => x) hs

theorem r_loopR {target : Expr} {body : List Stmt} {it : Addr} {x : Int} {N : Nat} {Q : Flow → Shared → Prop} (hA : AOk A n) (J : Nat → Led → Prop)
    (H : W β h₀ h ((it, RItO x N) :: l)) (j : J 0 l) (ht : ∀ v, letOwnedTupleGo target (.ref it) v = pure ())
    (turn : ∀ (i : Nat) l h t t₁ (JJ : Led → Prop), (∀ l', J (i + 1) l' → JJ l') → i < N → J i l → W β h₀ h ((it, RItO (x + (i + 1 : Nat)) (N - (i + 1) : Nat)) :: l) →
      wpAny β.M A (assign target env (.int (x + i) t₁)) (fun _ s₂ => wpAny β.M A (execs body env) (LoopP β s h₀ it (RItO (x + (i + 1 : Nat)) (N - (i + 1) : Nat)) JJ Q) NoE s₂) NoE (S s h t))
    (done : ∀ l h t, J N l → W β h₀ h l → Q .next (S s h t)) :
    codeAny β.M A (.forLoop target (.ref it) body [] env) (fun r s' => match r with | .ok f => Q f s' | .error _ => False) (S s h t) := by
  refine codeAny_forLoop (fun m s' => ∃ i l h t, s' = S s h t ∧ m = N - i ∧ i ≤ N ∧ J i l ∧ W β h₀ h ((it, RItO (x + i) (N - i : Nat)) :: l)) ?_ N ⟨0, l, h, t, rfl, rfl, Nat.zero_le _, j, by simpa using H⟩ ht
  rintro m s' ⟨i, l, h, t, rfl, rfl, hi, j, H⟩
  obtain ⟨o, e, p⟩ := H.get (.head _)
  subst p
  by_cases hlt : i < N
  · refine wpAny_pyNext_range_item e (by (first | lia | omega)) fun h' hit hsb => ?_
    have H' : W β h₀ h' ((it, RItO (x + (i + 1 : Nat)) (N - (i + 1) : Nat)) :: l) := H.upd .head hsb ⟨_, hit, by
      have e1 : x + (i : Int) + 1 = x + ((i + 1 : Nat) : Int) := by (first | lia | omega)
      have e2 : ((N - i : Nat) : Int) - 1 = ((N - (i + 1) : Nat) : Int) := by (first | lia | omega)
      rw [RItO, ← e1, ← e2]⟩
    refine wpAny_mono (turn i l h' _ _ (J (i + 1)) (fun _ x => x) hlt j H') (fun _ s₂ h₂ => wpAny_mono h₂ (fun f s₃ h₃ => ?_) fun _ _ x => x.elim) fun _ _ x => x.elim
    cases f with
    | ret v => exact h₃
    | brk => exact h₃
    | next =>
      obtain ⟨h, t, l, rfl, H, j⟩ := h₃
      exact ⟨N - (i + 1), by (first | lia | omega), i + 1, l, h, t, rfl, rfl, hlt, j, H⟩
    | cont =>
      obtain ⟨h, t, l, rfl, H, j⟩ := h₃
      exact ⟨N - (i + 1), by (first | lia | omega), i + 1, l, h, t, rfl, rfl, hlt, j, H⟩
  · have : i = N := by (first | lia | omega)
    subst this
    refine wpAny_pyNext_range_end hA.handled e (by (first | lia | omega)) fun h' hx => ?_
    exact wpAny_execs_nil (done l h' _ j (H.del .head hx))
theorem gl_div2n1n : nsIn β.F mainGlobals (Str.ofString "_div2n1n") = some (some (.ref 21)) := by kernel_rfl
theorem gl_int2digits : nsIn β.F mainGlobals (Str.ofString "_int2digits") = some (some (.ref 35)) := by kernel_rfl
theorem gl_digits2int : nsIn β.F mainGlobals (Str.ofString "_digits2int") = some (some (.ref 42)) := by kernel_rfl
theorem gl_divmod_pos : nsIn β.F mainGlobals (Str.ofString "_divmod_pos") = some (some (.ref 49)) := by kernel_rfl
theorem gl_int_divmod : nsIn β.F mainGlobals (Str.ofString "int_divmod") = some (some (.ref 56)) := by kernel_rfl
theorem gl_bisect_left : nsIn β.F mainGlobals (Str.ofString "bisect_left") = some (some (.ref 65)) := by kernel_rfl
theorem gl_replace : nsIn β.F mainGlobals (Str.ofString "replace") = some (some (.ref 72)) := by kernel_rfl
theorem gl_split_list : nsIn β.F mainGlobals (Str.ofString "_split_list") = some (some (.ref 79)) := by kernel_rfl
theorem gl_law_rows : nsIn β.F mainGlobals (Str.ofString "_law_rows") = some (some (.ref 84)) := by kernel_rfl
theorem gl_law_leading : nsIn β.F mainGlobals (Str.ofString "_law_leading") = some (some (.ref 91)) := by kernel_rfl
theorem gl_law_counts : nsIn β.F mainGlobals (Str.ofString "_law_counts") = some (some (.ref 98)) := by kernel_rfl
theorem gl_law_halved : nsIn β.F mainGlobals (Str.ofString "_law_halved") = some (some (.ref 105)) := by kernel_rfl
theorem gl_law_walked : nsIn β.F mainGlobals (Str.ofString "_law_walked") = some (some (.ref 112)) := by kernel_rfl
theorem gl_law_parted : nsIn β.F mainGlobals (Str.ofString "_law_parted") = some (some (.ref 119)) := by kernel_rfl
theorem gl_DIV : nsIn β.F mainGlobals (Str.ofString "_DIV_LIMIT") = some (some (.int 4000 189)) := by kernel_rfl
theorem gl_len : nsIn β.F mainGlobals (Str.ofString "len") = some none := by kernel_rfl
theorem gl_range : nsIn β.F mainGlobals (Str.ofString "range") = some none := by kernel_rfl
theorem gl_sum : nsIn β.F mainGlobals (Str.ofString "sum") = some none := by kernel_rfl
theorem gl_divmod : nsIn β.F mainGlobals (Str.ofString "divmod") = some none := by kernel_rfl
theorem gl_list : nsIn β.F mainGlobals (Str.ofString "list") = some none := by kernel_rfl
theorem gl_reversed : nsIn β.F mainGlobals (Str.ofString "reversed") = some none := by kernel_rfl
theorem boot_sum : bootBuiltins "sum" = some (.builtin "sum") := by decide +kernel
theorem boot_divmod : bootBuiltins "divmod" = some (.builtin "divmod") := by decide +kernel
theorem boot_list : bootBuiltins "list" = some (.type "list") := by decide +kernel
theorem boot_reversed : bootBuiltins "reversed" = some (.type "reversed") := by decide +kernel
end
section
variable {β : Base} {A : Around} {s : Shared} {h₀ h h' : Heap} {t n : Nat} {l l' : Led} {env : Env} {E : Value → Shared → Prop} {a : Addr} {P : OP} {Q : Value → Shared → Prop}
noncomputable def Then (M : Model) (A : Around) (env : Env) (rest : List Stmt) (Q : Flow → Shared → Prop) (E : Value → Shared → Prop) (f : Flow) (s' : Shared) : Prop := match f with
  | .next => wpAny M A (execs rest env) Q E s'
  | f => Q f s'
theorem then_next {M : Model} {rest : List Stmt} {Q : Flow → Shared → Prop} {s' : Shared} (k : wpAny M A (execs rest env) Q E s') : Then M A env rest Q E .next s' := k
theorem then_ret {M : Model} {rest : List Stmt} {Q : Flow → Shared → Prop} {s' : Shared} {v : Value} (k : Q (.ret v) s') : Then M A env rest Q E (.ret v) s' := k
theorem r_cons {st : Stmt} {rest : List Stmt} {Q : Flow → Shared → Prop} (k : wpAny β.M A (exec st env) (Then β.M A env rest Q E) E (S s h t)) : wpAny β.M A (execs (st :: rest) env) Q E (S s h t) :=
  wpAny_execs_cons (wpAny_mono k (fun f _ h => by cases f <;> exact h) fun _ _ x => x)
theorem r_assign {x : Str} {p pos : Pos} {value : Expr} {Q : Flow → Shared → Prop} (hs : swapsWith value (some (.Name x p)) pos.line env = pure false)
    (k : wpAny β.M A (eval value env) (fun v s₁ => wpAny β.M A (storeName env x v) (fun _ s₂ => Q .next s₂) E s₁) E (S s h t)) : wpAny β.M A (exec (.Assign [.Name x p] value pos) env) Q E (S s h t) := wpAny_Assign_Name k hs
theorem int_res {x y : Int} {t : Tok} (e : x = y) : ∃ t', Value.int x t = Value.int y t' := ⟨t, by rw [e]⟩
theorem i_tt {X Y : Prop} (k : X) : if true = true then X else Y := k
theorem i_ff {X Y : Prop} (k : Y) : if false = true then X else Y := k
theorem i_of {b : Bool} {X Y : Prop} (hb : b = true) (k : X) : if b = true then X else Y := by rw [if_pos hb]; exact k
theorem i_not {b : Bool} {X Y : Prop} (hb : b = false) (k : Y) : if b = true then X else Y := by rw [if_neg (by rw [hb]; exact Bool.false_ne_true)]; exact k
theorem ite_split {b : Bool} {X Y : Prop} (h1 : b = true → X) (h2 : b = false → Y) : if b = true then X else Y := by cases b <;> simp_all
theorem r_cwF {pos : Pos} {f : Addr} {e : Expr} {rest : List Expr} {o : Obj} {fd : FuncData} (hdat : o.data = .func fd)
    (he : starEach (e :: rest) env = (false, eval e env) :: starEach rest env)
    (k : wpAny β.M A (spliced (backTo pos (starEach (e :: rest) env))) (fun vs s₁ => s₁.heap.get? f = some o ∧ wpAny β.M A (call (.ref f) vs) Q E s₁) E (S s h t)) :
    wpAny β.M A (callWith pos (.ref f) [] (backTo pos (starEach (e :: rest) env)) []) Q E (S s h t) := by
  rw [he] at k ⊢
  exact Calls.callWith_function (o := o) (fd := fd) (Calls.evalArgs_plain (wpAny_mono k (fun vs s₁ h₁ => ⟨⟨h₁.1, hdat⟩, h₁.2⟩) fun _ _ x => x))
theorem r_cwB {pos : Pos} {id : String} {first : List Value} {e : Expr} {rest : List Expr}
    (he : starEach (e :: rest) env = (false, eval e env) :: starEach rest env) (hplain : (backTo pos (starEach rest env)).any (·.1) = false)
    (k : wpAny β.M A (spliced (backTo pos (starEach (e :: rest) env))) (fun vs s₁ => wpAny β.M A (call (.builtin id) (first ++ vs)) Q E s₁) E (S s h t)) :
    wpAny β.M A (callWith pos (.builtin id) first (backTo pos (starEach (e :: rest) env)) []) Q E (S s h t) := callWith_method1 k he hplain
theorem r_tail_ss {value slice : Expr} {x : Str} {t₁ u₁ u₂ : Tok} {i : Addr} {lo hi : Int} (H : W β h₀ h ((i, SliceO (.int lo u₁) (.int hi u₂) .none) :: l)) (hx : x.length ≤ sizeLine)
    (hs : subscripted slice false (.str x t₁) (.ref i) = operate [.ref i, .str x t₁] (getItem (.str x t₁) (.ref i))) (ht : ∀ r, letTemporaryGo value (.str x t₁) r = pure ())
    (k : ∀ t₁ t', W β h₀ h l → Q (.str (Txt.slice x (some lo) (some hi)) t₁) (S s h t')) : wpAny β.M A (subscriptTail value slice (.str x t₁) (.ref i)) Q E (S s h t) :=
  r_tailS (lo := some (lo, u₁)) (hi := some (hi, u₂)) H hx hs ht k
theorem r_tail_sn {value slice : Expr} {x : Str} {t₁ u₁ : Tok} {i : Addr} {lo : Int} (H : W β h₀ h ((i, SliceO (.int lo u₁) .none .none) :: l)) (hx : x.length ≤ sizeLine)
    (hs : subscripted slice false (.str x t₁) (.ref i) = operate [.ref i, .str x t₁] (getItem (.str x t₁) (.ref i))) (ht : ∀ r, letTemporaryGo value (.str x t₁) r = pure ())
    (k : ∀ t₁ t', W β h₀ h l → Q (.str (Txt.slice x (some lo) none) t₁) (S s h t')) : wpAny β.M A (subscriptTail value slice (.str x t₁) (.ref i)) Q E (S s h t) :=
  r_tailS (lo := some (lo, u₁)) (hi := none) H hx hs ht k
theorem r_tail_ns {value slice : Expr} {x : Str} {t₁ u₂ : Tok} {i : Addr} {hi : Int} (H : W β h₀ h ((i, SliceO .none (.int hi u₂) .none) :: l)) (hx : x.length ≤ sizeLine)
    (hs : subscripted slice false (.str x t₁) (.ref i) = operate [.ref i, .str x t₁] (getItem (.str x t₁) (.ref i))) (ht : ∀ r, letTemporaryGo value (.str x t₁) r = pure ())
    (k : ∀ t₁ t', W β h₀ h l → Q (.str (Txt.slice x none (some hi)) t₁) (S s h t')) : wpAny β.M A (subscriptTail value slice (.str x t₁) (.ref i)) Q E (S s h t) :=
  r_tailS (lo := none) (hi := some (hi, u₂)) H hx hs ht k
theorem r_cwB0 {pos : Pos} {id : String} {e : Expr} {rest : List Expr}
    (he : starEach (e :: rest) env = (false, eval e env) :: starEach rest env) (hplain : (backTo pos (starEach rest env)).any (·.1) = false)
    (k : wpAny β.M A (spliced (backTo pos (starEach (e :: rest) env))) (fun vs s₁ => wpAny β.M A (call (.builtin id) vs) Q E s₁) E (S s h t)) :
    wpAny β.M A (callWith pos (.builtin id) [] (backTo pos (starEach (e :: rest) env)) []) Q E (S s h t) := callWith_method1 k he hplain
theorem r_cwT {pos : Pos} {T : String} {e : Expr} {rest : List Expr}
    (he : starEach (e :: rest) env = (false, eval e env) :: starEach rest env) (hplain : (backTo pos (starEach rest env)).any (·.1) = false)
    (k : wpAny β.M A (spliced (backTo pos (starEach (e :: rest) env))) (fun vs s₁ => wpAny β.M A (call (.type T) vs) Q E s₁) E (S s h t)) :
    wpAny β.M A (callWith pos (.type T) [] (backTo pos (starEach (e :: rest) env)) []) Q E (S s h t) := callWith_type1 k he hplain
end
section
variable {β : Base} {A : Around} {s : Shared} {h₀ h h' : Heap} {t n : Nat} {l l' : Led} {env : Env} {E : Value → Shared → Prop} {a : Addr} {P : OP} {Q : Value → Shared → Prop}
theorem Has.isList {vs : List Value} (x : Has h a (ListO vs)) : h.IsList a vs.toArray := let ⟨⟨o, e, n, p⟩, _⟩ := x; ⟨o, e, by rw [p], n, by rw [p]⟩
theorem Has.isTup {vs : List Value} (x : Has h a (TupO vs)) : IsTup h a vs.toArray := let ⟨⟨o, e, n, p⟩, _⟩ := x; ⟨o, e, by rw [p], n, by rw [p]⟩
theorem Has.get {o : Obj} (x : Has h a (IsO o)) : h.get? a = some o := let ⟨⟨_, e, p⟩, _⟩ := x; p ▸ e

theorem r_list {elts : List Expr} {pos : Pos}
    (k : wpAny β.M A (spliced (backTo pos (starEach elts env))) (fun vs s₁ => ∃ h₀ h l t, s₁ = S s h t ∧ W β h₀ h l ∧ vs.length ≤ sizeLine ∧ ∀ a h' t', W β h₀ h' ((a, ListO vs) :: l) → Q (.ref a) (S s h' t')) E (S s h t)) :
    wpAny β.M A (eval (.List elts pos) env) Q E (S s h t) :=
  wpAny_List (wpAny_mono k (fun vs s₁ h₁ => let ⟨_, _, _, _, e, H, hs, k⟩ := h₁; ⟨hs, by subst e; exact k _ _ _ (H.push _ ⟨_, rfl⟩ rfl)⟩) fun _ _ x => x)
theorem r_tuple {elts : List Expr} {c : Nat} {pos : Pos}
    (k : wpAny β.M A (spliced (backTo pos (starEach elts env))) (fun vs s₁ => ∃ h₀ h l t, s₁ = S s h t ∧ W β h₀ h l ∧ vs.length ≤ sizeLine ∧ ∀ a h' t', W β h₀ h' ((a, TupO vs) :: l) → Q (.ref a) (S s h' t')) E (S s h t)) :
    wpAny β.M A (eval (.Tuple elts c pos) env) Q E (S s h t) :=
  wpAny_Tuple (wpAny_mono k (fun vs s₁ h₁ => let ⟨_, _, _, _, e, H, hs, k⟩ := h₁; ⟨hs, by subst e; exact k _ _ _ (H.push _ ⟨_, rfl⟩ rfl)⟩) fun _ _ x => x)
theorem r_expr {e : Expr} {pos : Pos} {Q : Flow → Shared → Prop} (hi : interactive env = false) (hs : swapsWith e none pos.line env = pure false) (k : wpAny β.M A (eval e env) (fun _ s₁ => Q .next s₁) E (S s h t)) :
    wpAny β.M A (exec (.Expr e pos) env) Q E (S s h t) := wpAny_Expr_any k hi hs

theorem r_appM {o elt : Expr} {apos pos : Pos} (hbase : attributeBase o "append" env (eval o env) = eval o env)
    (hfew : ((backTo pos (starEach [elt] env)).all (fun x => !x.1) && (backToKw pos (keywordEach [] env)).all (fun x => x.1.isSome) && decide (([elt] : List Expr).length + ([] : List Keyword).length + (if ([] : List Keyword).isEmpty then 0 else 1) < 30)) = true)
    (hline : (apos.endLine == pos.line) = true) (htrees : backTo pos (starEach [elt] env) = [(false, eval elt env)])
    (k : wpAny β.M A (eval o env) (fun ov s₁ => ∃ D h t vs, ov = .ref D ∧ s₁ = S s h t ∧ Has h D (ListO vs) ∧ wpAny β.M A (eval elt env) (fun y s₂ => wpAny β.M A (call (.builtin "list.append") [.ref D, y]) Q E s₂) E (S s h t)) E (S s h t)) :
    wpAny β.M A (eval (.Call (.Attribute o (Str.ofString "append") apos) [elt] [] pos) env) Q E (S s h t) := by
  refine wpAny_Call_append hbase hfew hline htrees (wpAny_mono k (fun ov s₁ h₁ => ?_) fun _ _ x => x)
  obtain ⟨D, h, t, vs, rfl, rfl, ⟨⟨o, e, n, p⟩, _⟩, k⟩ := h₁
  exact ⟨D, _, rfl, ⟨o, n, e, by rw [p], by rw [p], by rw [p]⟩, k⟩
theorem r_app {D : Addr} {vs : List Value} {y : Value} (H : W β h₀ h l) (U : Upd l D (ListO vs) (ListO (vs ++ [y])) l') (hs : vs.length ≤ sizeLine) (k : ∀ h' t', W β h₀ h' l' → Q .none (S s h' t')) :
    wpAny β.M A (call (.builtin "list.append") [.ref D, y]) Q E (S s h t) := by
  obtain ⟨o, e, n, rfl⟩ := H.get U.mem
  refine append_at (its := vs.toArray) (n := n) (hsz := by simpa using hs) e fun h' hs ho' => k h' _ (H.upd U hs ⟨_, ho', n + 1, ?_⟩)
  rw [List.push_toArray]

theorem r_iterL {lst : Addr} {vs : List Value} (H : W β h₀ h l) (hl : Has h lst (ListO vs)) (k : ∀ i h' t', W β h₀ h' ((i, LItO lst 0) :: l) → Q (.ref i) (S s h' t')) : wpAny β.M A (pyIter (.ref lst)) Q E (S s h t) :=
  wpAny_pyIter_list hl.isList (k _ _ _ (H.push _ ⟨rfl, rfl⟩ rfl))

theorem r_loopLT {target : Expr} {body : List Stmt} {it lst : Addr} {vs : List Value} {Q : Flow → Shared → Prop} (hA : AOk A n) (J : Nat → Led → Prop)
    (H : W β h₀ h ((it, LItO lst 0) :: l)) (j : J 0 l)
    (ht : ∀ (h : Heap) (t i : Nat) (v : Value) (Q : Unit → Shared → Prop), v ∈ vs → h.IsListIter it lst i → Q () (S s h t) → wpAny β.M A (letOwnedTupleGo target (.ref it) v) Q NoE (S s h t))
    (hl : ∀ i l h, J i l → W β h₀ h ((it, LItO lst i) :: l) → Has h lst (ListO vs))
    (turn : ∀ i v l h t (JJ : Led → Prop), (∀ l', J (i + 1) l' → JJ l') → vs[i]? = some v → J i l → W β h₀ h ((it, LItO lst (i + 1)) :: l) →
      wpAny β.M A (assign target env v) (fun _ s₂ => wpAny β.M A (execs body env) (LoopP β s h₀ it (LItO lst (i + 1)) JJ Q) NoE s₂) NoE (S s h t))
    (done : ∀ l h t, J vs.length l → W β h₀ h l → Q .next (S s h t)) :
    codeAny β.M A (.forLoop target (.ref it) body [] env) (fun r s' => match r with | .ok f => Q f s' | .error _ => False) (S s h t) := by
  refine codeAny_forLoop_any (fun m s' => ∃ i l h t, s' = S s h t ∧ m = vs.length - i ∧ i ≤ vs.length ∧ J i l ∧ W β h₀ h ((it, LItO lst i) :: l)) ?_ vs.length ⟨0, l, h, t, rfl, rfl, Nat.zero_le _, j, H⟩
  rintro m s' ⟨i, l, h, t, rfl, rfl, hi, j, H⟩
  have hL := hl i l h j H
  obtain ⟨o, e, p, q⟩ := H.get (.head _)
  have hit : h.IsListIter it lst i := ⟨o, e, p, q⟩
  by_cases hlt : i < vs.length
  · have hv : vs[i]? = some vs[i] := List.getElem?_eq_getElem hlt
    refine wpAny_pyNext_list_item hit hL.isList (x := vs[i]) (by simp [hlt]) fun h' hit' hsb => ?_
    have H' : W β h₀ h' ((it, LItO lst (i + 1)) :: l) := H.upd .head hsb (let ⟨o, e, p, q⟩ := hit'; ⟨o, e, p, q⟩)
    show wpAny _ _ _ _ _ _
    refine wpAny_mono (E := NoE) (ht h' _ (i + 1) _ _ (List.getElem_mem hlt) hit' ?_) (fun _ _ x => x) fun _ _ x => x.elim
    refine wpAny_mono (turn i _ l h' _ (J (i + 1)) (fun _ x => x) hv j H') (fun _ s₂ h₂ => wpAny_mono h₂ (fun f s₃ h₃ => ?_) fun _ _ x => x.elim) fun _ _ x => x.elim
    cases f with
    | ret v => exact h₃
    | brk => exact h₃
    | next =>
      obtain ⟨h, t, l, rfl, H, j⟩ := h₃
      exact ⟨vs.length - (i + 1), by (first | lia | omega), i + 1, l, h, t, rfl, rfl, hlt, j, H⟩
    | cont =>
      obtain ⟨h, t, l, rfl, H, j⟩ := h₃
      exact ⟨vs.length - (i + 1), by (first | lia | omega), i + 1, l, h, t, rfl, rfl, hlt, j, H⟩
  · have : i = vs.length := by (first | lia | omega)
    subst this
    refine wpAny_pyNext_list_end hA.handled hit hL.isList (by simp) fun h' hx => ?_
    exact wpAny_execs_nil (done l h' _ j (H.del .head hx))
theorem r_loopL {target : Expr} {body : List Stmt} {it lst : Addr} {vs : List Value} {Q : Flow → Shared → Prop} (hA : AOk A n) (J : Nat → Led → Prop)
    (H : W β h₀ h ((it, LItO lst 0) :: l)) (j : J 0 l) (ht : ∀ v, letOwnedTupleGo target (.ref it) v = pure ())
    (hl : ∀ i l h, J i l → W β h₀ h ((it, LItO lst i) :: l) → Has h lst (ListO vs))
    (turn : ∀ i v l h t (JJ : Led → Prop), (∀ l', J (i + 1) l' → JJ l') → vs[i]? = some v → J i l → W β h₀ h ((it, LItO lst (i + 1)) :: l) →
      wpAny β.M A (assign target env v) (fun _ s₂ => wpAny β.M A (execs body env) (LoopP β s h₀ it (LItO lst (i + 1)) JJ Q) NoE s₂) NoE (S s h t))
    (done : ∀ l h t, J vs.length l → W β h₀ h l → Q .next (S s h t)) :
    codeAny β.M A (.forLoop target (.ref it) body [] env) (fun r s' => match r with | .ok f => Q f s' | .error _ => False) (S s h t) :=
  r_loopLT hA J H j (fun _ _ _ v _ _ _ k => by rw [ht v]; exact wpAny_pure k) hl turn done

theorem r_lenL {lst : Addr} {vs : List Value} (hl : Has h lst (ListO vs)) (hs : vs.length < 2 ^ 62) (k : ∀ t₁ t', Q (.int vs.length t₁) (S s h t')) : wpAny β.M A (call (.builtin "len") [.ref lst]) Q E (S s h t) :=
  len_list hl.isList (by simp; (first | lia | omega)) (by simpa using k _ _)
theorem r_trueT {lst : Addr} {vs : List Value} {Q : Bool → Shared → Prop} (hl : Has h lst (TupO vs)) (hs : vs.length < 2 ^ 62) (k : ∀ t', Q (!vs.isEmpty) (S s h t')) : wpAny β.M A (truthy (.ref lst)) Q E (S s h t) :=
  truthy_tuple hl.isTup (by simp; (first | lia | omega)) (by simpa using k _)
theorem r_trueL {lst : Addr} {vs : List Value} {Q : Bool → Shared → Prop} (hl : Has h lst (ListO vs)) (hs : vs.length < 2 ^ 62) (k : ∀ t', Q (!vs.isEmpty) (S s h t')) : wpAny β.M A (truthy (.ref lst)) Q E (S s h t) :=
  wpAny_truthy_list hl.isList (by simp; (first | lia | omega)) (by simpa using k _)
theorem r_item {value slice : Expr} {lst : Addr} {vs : List Value} {i : Int} {u : Tok} {v : Value} {ops : List Value} (hl : Has h lst (ListO vs)) (hn : vs.length < 2 ^ 62) (hi : 0 ≤ i) (hv : vs[i.toNat]? = some v)
    (hs : subscripted slice false (.ref lst) (.int i u) = operate ops (getItem (.ref lst) (.int i u)))
    (k : Q v (S s h t)) : wpAny β.M A (subscriptTail value slice (.ref lst) (.int i u)) Q E (S s h t) := by
  have hlt : i.toNat < vs.length := (List.getElem?_eq_some_iff.mp hv).1
  exact tail_any hl.isList.typeIs slot_list_getitem.lookup (wpAny_getItem_list hl.isList hi (by (first | lia | omega)) (by simpa using hv) k) hs
theorem r_itemT {value slice : Expr} {lst : Addr} {vs : List Value} {i : Int} {u : Tok} {v : Value} {ops : List Value} (hl : Has h lst (TupO vs)) (hn : vs.length < 2 ^ 62) (hi : 0 ≤ i) (hv : vs[i.toNat]? = some v)
    (hs : subscripted slice false (.ref lst) (.int i u) = operate ops (getItem (.ref lst) (.int i u)))
    (k : Q v (S s h t)) : wpAny β.M A (subscriptTail value slice (.ref lst) (.int i u)) Q E (S s h t) := by
  have hlt : i.toNat < vs.length := (List.getElem?_eq_some_iff.mp hv).1
  refine tail_any hl.isTup.typeIs slot_tuple_getitem.lookup (getItem_tuple (j := i.toNat) hl.isTup (by (first | lia | omega)) (by (first | lia | omega)) ?_ (by simpa using hv) k) hs
  unfold seqIndex?
  simp
  (first | lia | omega)
end
section
variable {β : Base} {A : Around} {s : Shared} {h₀ h h' : Heap} {t n : Nat} {l l' : Led} {env : Env} {E : Value → Shared → Prop} {a : Addr} {P : OP} {Q : Value → Shared → Prop}

/-- a method of a built-in type, called -/
theorem r_meth {o : Expr} {name : Str} {apos pos : Pos} {args : List Expr} {T id : String} (pa : PlainAttrs T) (slot : Slot T name id) (hty : typeOf (.builtin id) = pure (.type "method_descriptor"))
    (hbase : attributeBase o name env (eval o env) = eval o env)
    (hfew : ((backTo pos (starEach args env)).all (fun x => !x.1) && (backToKw pos (keywordEach [] env)).all (fun x => x.1.isSome) && decide (args.length + ([] : List Keyword).length + (if ([] : List Keyword).isEmpty then 0 else 1) < 30)) = true)
    (hline : (apos.endLine == pos.line) = true)
    (k : wpAny β.M A (eval o env) (fun ov s₁ => (s₁.TypeIs ov T ∧ ∀ a, ov = .ref a → ∃ ob, s₁.heap.get? a = some ob ∧ ob.dict = none) ∧ wpAny β.M A (callWith pos (.builtin id) [ov] (backTo pos (starEach args env)) []) Q E s₁) E (S s h t)) :
    wpAny β.M A (eval (.Call (.Attribute o name apos) args [] pos) env) Q E (S s h t) :=
  wpAny_Call_method hbase hfew hline pa slot hty (wpAny_mono k (fun ov s₁ h₁ => ⟨h₁.1.1, h₁.1.2, h₁.2⟩) fun _ _ x => x)
theorem meth_str {x : Str} {u : Tok} {s₁ : Shared} {X : Prop} (k : X) : (s₁.TypeIs (.str x u) "str" ∧ ∀ a, Value.str x u = .ref a → ∃ ob, s₁.heap.get? a = some ob ∧ ob.dict = none) ∧ X := ⟨⟨typeIs_str _ _ _, fun _ e => nomatch e⟩, k⟩
theorem meth_int {x : Int} {u : Tok} {s₁ : Shared} {X : Prop} (k : X) : (s₁.TypeIs (.int x u) "int" ∧ ∀ a, Value.int x u = .ref a → ∃ ob, s₁.heap.get? a = some ob ∧ ob.dict = none) ∧ X := ⟨⟨typeIs_int _ _ _, fun _ e => nomatch e⟩, k⟩
theorem meth_list {vs : List Value} {X : Prop} (hl : Has h a (ListO vs)) (k : X) : ((S s h t).TypeIs (.ref a) "list" ∧ ∀ b, Value.ref a = .ref b → ∃ ob, (S s h t).heap.get? b = some ob ∧ ob.dict = none) ∧ X :=
  ⟨⟨hl.isList.typeIs, fun b e => by obtain ⟨⟨o, e', n, rfl⟩, _⟩ := hl; cases e; exact ⟨_, e', rfl⟩⟩, k⟩
theorem r_cwB1 {pos : Pos} {id : String} {v : Value} {e : Expr} {rest : List Expr}
    (he : starEach (e :: rest) env = (false, eval e env) :: starEach rest env) (hplain : (backTo pos (starEach rest env)).any (·.1) = false)
    (k : wpAny β.M A (spliced (backTo pos (starEach (e :: rest) env))) (fun vs s₁ => wpAny β.M A (call (.builtin id) (v :: vs)) Q E s₁) E (S s h t)) :
    wpAny β.M A (callWith pos (.builtin id) [v] (backTo pos (starEach (e :: rest) env)) []) Q E (S s h t) := callWith_method1 k he hplain

open PySem.Builtin PySem.Builtin.Str in
theorem r_split {x y : Str} {u₁ u₂ : Tok} (H : W β h₀ h l) (hy : 0 < y.length) (hx : x.length < 1000)
    (k : ∀ a ps h' t', W β h₀ h' ((a, ListO (strValues ps)) :: l) → ps.map (·.1) = Txt.split x y → Q (.ref a) (S s h' t')) :
    wpAny β.M A (call (.builtin "str.split") [.str x u₁, .str y u₂]) Q E (S s h t) := by
  have hz := sizeLine_eq
  have hy' : (y.length == 0) = false := by simp; (first | lia | omega)
  have hn : (partsBetween x (occurrences x y 0 x.length (x.length + 1)) y.length).length ≤ sizeLine := by
    have e1 := StrLaws.occ_length_le x y 0 x.length (x.length + 1)
    rw [length_partsBetween]; (first | lia | omega)
  cases h1 : (decide (x.length < y.length) || decide (strKind x < strKind y))
  · cases hf : (occurrences x y 0 x.length (x.length + 1)).isEmpty
    · refine call_meets F.slot_str_split (typeIs_str _ _ _) F.entry_str_split (F.args_str_split_2 _ _) (meets_str_split_sep x y u₁ u₂ h1 hy' hf (by (first | lia | omega)) hn) ?_
      show wants Q E _ { S s h t with toks := _, heap := h.push { cls := .type "list", data := .seq (strsFrom t (partsBetween x (occurrences x y 0 x.length (x.length + 1)) y.length)).toArray } }
      rw [strsFrom_eq]
      exact k _ (numbered t _) _ _ (H.push _ ⟨_, rfl⟩ rfl) ((numbered_texts _ _).trans ((if_neg (ne_true_of_eq_false h1)).trans (if_neg (ne_true_of_eq_false hf))).symm)
    · exact call_meets F.slot_str_split (typeIs_str _ _ _) F.entry_str_split (F.args_str_split_2 _ _) (meets_str_split_not_found x y u₁ u₂ h1 hy' hf)
        (k _ [(x, u₁)] _ _ (H.push _ ⟨_, rfl⟩ rfl) ((if_neg (ne_true_of_eq_false h1)).trans (if_pos hf)).symm)
  · exact call_meets F.slot_str_split (typeIs_str _ _ _) F.entry_str_split (F.args_str_split_2 _ _) (meets_str_split_cannot_occur x y u₁ u₂ h1)
      (k _ [(x, u₁)] _ _ (H.push _ ⟨_, rfl⟩ rfl) (if_pos h1).symm)
theorem r_join {x : Str} {u₁ : Tok} {ps : List (Str × Tok)} {texts : List Str} (hl : Has h a (ListO (strValues ps))) (ht : ps.map (·.1) = texts) (hok : JoinOk x texts = true)
    (k : ∀ t₁ t', Q (.str (Txt.join x texts) t₁) (S s h t')) : wpAny β.M A (call (.builtin "str.join") [.str x u₁, .ref a]) Q E (S s h t) :=
  SC.join hl.isList ht hok k

theorem r_tupFrom {value slice : Expr} {tp i : Addr} {vs : List Value} {c : Nat} {u : Tok} {ops : List Value} (H : W β h₀ h ((i, SliceO (.int c u) .none .none) :: l)) (ht : Has h tp (TupO vs)) (h1 : 1 ≤ c) (hc : c ≤ vs.length) (hn : vs.length < 1000)
    (hs : subscripted slice false (.ref tp) (.ref i) = operate ops (getItem (.ref tp) (.ref i)))
    (k : ∀ b h' t', W β h₀ h' ((b, TupO (vs.drop c)) :: l) → Q (.ref b) (S s h' t')) : wpAny β.M A (subscriptTail value slice (.ref tp) (.ref i)) Q E (S s h t) := by
  have hz := sizeLine_eq
  obtain ⟨o, e, p, q⟩ := H.get (.head _)
  refine tail_any ht.isTup.typeIs slot_tuple_getitem.lookup (getItem_tuple_from (a := c) (u := u) ht.isTup ⟨o, e, p, q⟩ h1 (by simpa using hc) (k _ _ _ ?_) (by simp; (first | lia | omega))) hs
  exact (H.sub (List.sublist_cons_self _ _)).push _ ⟨_, rfl⟩ rfl

-- while, turn by turn
noncomputable def UnrP (β : Base) (A : Around) (c : Code) (Q : Flow → Shared → Prop) (f : Flow) (s' : Shared) : Prop := match f with
  | .ret v => Q (.ret v) s'
  | .brk => Q .next s'
  | _ => codeAny β.M A c (fun r s' => match r with | .ok f => Q f s' | .error _ => False) s'
theorem UnrP.next {c : Code} {Q : Flow → Shared → Prop} {s' : Shared} (k : codeAny β.M A c (fun r s' => match r with | .ok f => Q f s' | .error _ => False) s') : UnrP β A c Q .next s' := k
theorem UnrP.ret {c : Code} {Q : Flow → Shared → Prop} {v : Value} {s' : Shared} (k : Q (.ret v) s') : UnrP β A c Q (.ret v) s' := k
theorem r_while {test : Expr} {body : List Stmt} {pos : Pos} {Q : Flow → Shared → Prop} (k : codeAny β.M A (.whileLoop test body [] env) (fun r s' => match r with | .ok f => Q f s' | .error _ => False) (S s h t)) :
    wpAny β.M A (exec (.While test body [] pos) env) Q E (S s h t) :=
  wpAny_While (codeAny_mono k fun r s' hr => by cases r with | ok f => exact hr | error e => exact hr.elim)
theorem r_whileU {test : Expr} {body : List Stmt} {Q : Flow → Shared → Prop}
    (k : wpAny β.M A (isTrue test env (eval test env)) (fun b s₂ => if b = true then wpAny β.M A (execs body env) (UnrP β A (.whileLoop test body [] env) Q) NoE s₂ else Q .next s₂) NoE (S s h t)) :
    codeAny β.M A (.whileLoop test body [] env) (fun r s' => match r with | .ok f => Q f s' | .error _ => False) (S s h t) := by
  refine codeAny_of_tree ?_
  show wpAny _ A ((whileTurn test body [] env).onRaise (fun x => do noteFrame x env; theTreesLotGoes x)) _ _ _
  refine wpAny_noted ?_
  simp only [whileTurn]
  refine wpAny_bind (wpAny_mono k (fun b s₂ h₂ => ?_) fun _ _ h' => h'.elim)
  cases b with
  | false =>
    simp only [Bool.false_eq_true, if_false] at h₂ ⊢
    exact wpAny_bind (wpAny_execs_nil (wpAny_pure h₂))
  | true =>
    simp only [if_true] at h₂ ⊢
    refine wpAny_bind (wpAny_mono h₂ (fun f s₃ h₃ => ?_) fun _ _ h' => h'.elim)
    cases f with
    | next => exact wpAny_pure ⟨rfl, h₃⟩
    | cont => exact wpAny_pure ⟨rfl, h₃⟩
    | brk => exact wpAny_pure h₃
    | ret v => exact wpAny_pure h₃

/-- a def with a star parameter behind the plain ones -/
theorem r_callV {fa : Addr} {fo : Obj} {name qual : Str} {params : Arguments} {body : List Stmt} {scope : Scope} {dV kV doc pm cdv ct : Value} {an : Option Addr} {pos : List Value} {kw : List (Str × Value)} (ws : List Value) (binds : Value → List (Str × Value)) {R : Value → Led → Prop}
    (hA : AOk A (n + 1)) (H : W β h₀ h l) (ho : β.F.lookup fa = some fo) (hd : fo.data = .func (fnX name qual params body scope [] dV kV doc pm an cdv ct)) (hcd : codeIn β.F cdv qual = true)
    (hbind : bindArgs (fnX name qual params body scope [] dV kV doc pm an cdv ct) ⟨pos, kw⟩ = (newTuple ws >>= fun v => pure (binds v))) (hws : ws.length ≤ sizeLine) (hcell : ∀ x ∈ scope.names, x.2 ≠ .cell) (hloc : ∀ v, ∀ x ∈ binds v, scope.names.lookup x.1 = some .local)
    (hco : scope.isCoroutine = false) (hgen : scope.isGenerator = false) (hk : scope.kind = .function)
    (hb : ∀ A a L h₁ t₁, AOk A n → W β h h₁ [(L, NsO (binds (.ref a)).reverse), (a, TupO ws)] → wpAny β.M A (execs body (envX qual scope L fa cdv [])) (RetP β s h R) NoE (S s h₁ t₁))
    (k : ∀ v h' t' l', W β h₀ h' (l' ++ l) → R v l' → Q v (S s h' t')) : wpAny β.M A (call (.ref fa) pos kw) Q E (S s h t) := by
  refine wpAny_call (codeAny_call_function (fd := fnX name qual params body scope [] dV kV doc pm an cdv ct) (body := body) hA.room (H.frag fa fo ho) hd hco hgen rfl (codeRec_of H.frag hcd) ?_)
  rw [hbind]
  have H₁ : W β h (h.push { cls := .type "tuple", data := .seq ws.toArray }) [(h.objs.size, TupO ws)] := H.start.push _ ⟨_, rfl⟩ rfl
  refine wpAny_bind (wpAny_newTuple (wpAny_pure (wpAny_newFunctionEnv hcell (hloc _) (fun h₁ hns hsb => ⟨?_, ?_⟩) hk)) hws)
  · exact H₁.nolimit.fresh _ hsb
  · have hk₁ : ∀ b o, (h.push { cls := .type "tuple", data := .seq ws.toArray }).get? b = some o → h₁.get? b = some o := fun b o e => hsb.extBut b o (Nat.ne_of_lt (Heap.lt_size e)) (Heap.get?_push_of_some _ e)
    have H₂ := H₁.frame (bs := (binds (.ref h.objs.size)).reverse) hns hk₁
    refine codeAny_func (wpAny_mono (hb _ _ _ h₁ _ (hA.deeper _) H₂) (fun f s' hr => ?_) fun _ _ x => x.elim)
    obtain ⟨h', t', l', rfl, H', r⟩ := hr
    exact k _ _ _ _ (H.lift2 H') r
end
theorem len62 {n : Nat} (h : n ≤ 1000) : n < 2 ^ 62 := by omega
theorem len62' {n : Nat} (h : n < 1000) : n < 2 ^ 62 := by omega
theorem len63 {n : Nat} (h : n < 100) : n < 2 ^ 63 := by omega
theorem sizeK {n : Nat} (h : n ≤ 1000) : n ≤ sizeLine := by have hz := sizeLine_eq; omega
theorem sizeK' {n : Nat} (h : n < 100) : n ≤ sizeLine := by have hz := sizeLine_eq; omega
theorem it0 : -(2 ^ 62) < (0 : Int) ∧ (0 : Int) < 2 ^ 62 := by decide
theorem itS {T : Nat} (h : T ≤ 6) : -(2 ^ 62) < (T : Int) + 1 ∧ (T : Int) + 1 < 2 ^ 62 := by omega
theorem t1000 {T : Nat} (h : T ≤ 6) : T + 1 ≤ 1000 := by omega
section
variable {β : Base} {A : Around} {s : Shared} {h₀ h h' : Heap} {t n : Nat} {l l' : Led} {env : Env} {E : Value → Shared → Prop} {a : Addr} {P : OP} {Q : Value → Shared → Prop}
theorem W.conv {bs bs' : List (Str × Value)} (H : W β h₀ h l) (U : Upd l a (NsO bs) (NsO bs') l') (hb : ∀ n, bs'.lookup n = bs.lookup n) : W β h₀ h l' := by
  refine H.upd' U (fun _ _ _ e => e) ?_
  obtain ⟨o, e, es, ep, d, k, f⟩ := H.get U.mem
  exact ⟨o, e, es, ep, d, k, fun n => (f n).trans (hb n).symm⟩
noncomputable def LookEq (l1 l2 : List (Str × Value)) : List Str → Prop
  | [] => True
  | x :: r => l1.lookup x = l2.lookup x ∧ LookEq l1 l2 r
theorem LookEq.mem {l1 l2 : List (Str × Value)} : ∀ {ks : List Str}, LookEq l1 l2 ks → ∀ x ∈ ks, l1.lookup x = l2.lookup x
  | _ :: _, h, x, hx => (List.mem_cons.mp hx).elim (fun e => by subst e; exact h.1) fun hx => h.2.mem x hx
theorem lookup_out {n : Str} : ∀ {l : List (Str × Value)}, n ∉ l.map (·.1) → l.lookup n = none
  | [], _ => rfl
  | (x, v) :: r, h => by
    rw [look_cons, if_neg (fun e => h (by subst e; exact .head _))]
    exact lookup_out fun q => h (.tail _ q)
theorem look_eq {l1 l2 : List (Str × Value)} (hk : ((l2.map (·.1)).all fun x => (l1.map (·.1)).contains x) = true) (h : LookEq l1 l2 (l1.map (·.1))) (n : Str) : l1.lookup n = l2.lookup n := by
  by_cases hn : n ∈ l1.map (·.1)
  · exact h.mem n hn
  · rw [lookup_out hn, lookup_out]
    intro q
    exact hn (List.contains_iff_mem.mp (List.all_eq_true.mp hk n q))
theorem W.convK {bs bs' : List (Str × Value)} (H : W β h₀ h l) (U : Upd l a (NsO bs) (NsO bs') l') (hk : ((bs.map (·.1)).all fun x => (bs'.map (·.1)).contains x) = true) (hb : LookEq bs' bs (bs'.map (·.1))) : W β h₀ h l' := H.conv U (look_eq hk hb)
theorem r_is {x y : Value} (hp : plainIs x y = true) (k : Q (.bool (x == y)) (S s h t)) : wpAny β.M A (compareOp .Is x y) Q E (S s h t) := wpAny_is_plain hp k
theorem r_none {c pos} (k : Q .none (S s h t)) : wpAny β.M A (eval (.Constant .none c pos) env) Q E (S s h t) := wpAny_Constant_none k
theorem r_fdiv {x y : Int} {t₁ t₂} (hy : y ≠ 0) (hp : Builtin.divisionGoesByPylong x y = false) (k : ∀ t₁ t', Q (.int (x.fdiv y) t₁) (S s h t')) : wpAny β.M A (binaryOp .FloorDiv (.int x t₁) (.int y t₂)) Q E (S s h t) := floordiv_int hy (k _ _) (.inl hp)
theorem r_mod {x y : Int} {t₁ t₂} (hy : y ≠ 0) (k : ∀ t₁ t', Q (.int (x.fmod y) t₁) (S s h t')) : wpAny β.M A (binaryOp .Mod (.int x t₁) (.int y t₂)) Q E (S s h t) := mod_int' hy (k _ _)

-- a while by what holds ahead of each turn, and a count of turns
noncomputable def WhileP (β : Base) (s : Shared) (h₀ : Heap) (J : Led → Prop) (Q : Flow → Shared → Prop) (f : Flow) (s' : Shared) : Prop := match f with
  | .ret v => Q (.ret v) s'
  | .brk => Q .next s'
  | _ => ∃ h t l, s' = S s h t ∧ W β h₀ h l ∧ J l
theorem WhileP.next {J : Led → Prop} {Q : Flow → Shared → Prop} (H : W β h₀ h l) (j : J l) : WhileP β s h₀ J Q .next (S s h t) := ⟨h, t, l, rfl, H, j⟩
theorem r_whileJ {test : Expr} {body : List Stmt} {Q : Flow → Shared → Prop} (N : Nat) (J : Nat → Led → Prop) (H : W β h₀ h l) (j : J 0 l)
    (turn : ∀ (i : Nat) l h t (JJ : Led → Prop), (∀ l', J (i + 1) l' → JJ l') → J i l → W β h₀ h l → wpAny β.M A (isTrue test env (eval test env)) (fun b s₂ => if b = true then (i < N ∧ wpAny β.M A (execs body env) (WhileP β s h₀ JJ Q) NoE s₂) else Q .next s₂) NoE (S s h t)) :
    codeAny β.M A (.whileLoop test body [] env) (fun r s' => match r with | .ok f => Q f s' | .error _ => False) (S s h t) := by
  refine codeAny_whileLoop (fun m s' => ∃ i l h t, s' = S s h t ∧ m = N - i ∧ J i l ∧ W β h₀ h l) ?_ N ⟨0, l, h, t, rfl, rfl, j, H⟩
  rintro m s' ⟨i, l, h, t, rfl, rfl, j, H⟩
  refine wpAny_mono (turn i l h t (J (i + 1)) (fun _ x => x) j H) (fun b s₂ h₂ => ?_) fun _ _ x => x.elim
  cases b with
  | false => exact wpAny_execs_nil h₂
  | true =>
    obtain ⟨hi, h₂⟩ : i < N ∧ _ := h₂
    refine wpAny_mono h₂ (fun f s₃ h₃ => ?_) fun _ _ x => x.elim
    cases f with
    | ret v => exact h₃
    | brk => exact h₃
    | next =>
      obtain ⟨h, t, l, rfl, H, j⟩ := h₃
      exact ⟨N - (i + 1), by omega, i + 1, l, h, t, rfl, rfl, j, H⟩
    | cont =>
      obtain ⟨h, t, l, rfl, H, j⟩ := h₃
      exact ⟨N - (i + 1), by omega, i + 1, l, h, t, rfl, rfl, j, H⟩
/-- a frame's names, but for some that may stand or not -/
noncomputable def NsU (ks : List Str) (bs : List (Str × Value)) : OP := fun o => ∃ es ep, o.data = .dict es ep ∧ StrKeys es ∧ ∀ n, ks.contains n = false → nsFind es n = bs.lookup n
theorem W.unk {ks : List Str} {bs bs₀ : List (Str × Value)} (H : W β h₀ h l) (U : Upd l a (NsO bs) (NsU ks bs₀) l') (hk : ((bs.map (·.1)).all fun x => (bs₀.map (·.1)).contains x || ks.contains x) = true) (hb : LookEq bs₀ bs (bs₀.map (·.1))) : W β h₀ h l' := by
  refine H.upd' U (fun _ _ _ e => e) ?_
  obtain ⟨o, e, es, ep, d, k, f⟩ := H.get U.mem
  refine ⟨o, e, es, ep, d, k, fun n hn => (f n).trans ?_⟩
  by_cases hm : n ∈ bs₀.map (·.1)
  · exact (hb.mem n hm).symm
  · rw [lookup_out hm, lookup_out]
    intro q
    have := List.all_eq_true.mp hk n q
    rw [hn, Bool.or_false] at this
    exact hm (List.contains_iff_mem.mp this)
theorem r_localU {x : Str} {pos : Pos} {ks : List Str} {bs : List (Str × Value)} {v : Value} (H : W β h₀ h l) (hk : env.scope.kind = .function) (hl : env.kindOf x = some .local) (hm : (env.locals, NsU ks bs) ∈ l) (hv : bs.lookup x = some v) (hn : ks.contains x = false)
    (hd : (x == ("__debug__" : Str)) = false) (k : Q v (S s h t)) : wpAny β.M A (eval (.Name x pos) env) Q E (S s h t) := by
  obtain ⟨o, e, es, ep, hd', hs, hf⟩ := H.get hm
  exact wpAny_Name (wpAny_loadName_local (m := fun n => nsFind es n) hk hl ⟨o, es, ep, e, hd', hs, fun _ => rfl⟩ ((hf x hn).trans hv) k) hd
theorem r_storeV {x : Str} {ks ks' : List Str} {bs : List (Str × Value)} {v : Value} {Q : Unit → Shared → Prop} (H : W β h₀ h l) (hl : env.kindOf x = some .local) (hk : env.scope.kind = .function) (U : Upd l env.locals (NsU ks bs) (NsU ks' ((x, v) :: bs)) l')
    (hn : ∀ n, n ≠ x → ks'.contains n = false → ks.contains n = false) (k : ∀ h' t', W β h₀ h' l' → Q () (S s h' t')) : wpAny β.M A (storeName env x v) Q E (S s h t) := by
  obtain ⟨o, e, es, ep, hd', hs, hf⟩ := H.get U.mem
  refine wpAny_storeName_local (m := fun n => nsFind es n) hl ⟨o, es, ep, e, hd', hs, fun _ => rfl⟩ (fun h' hn' hsb => k h' _ (H.upd U hsb ?_)) (by rw [hk]; rfl)
  obtain ⟨o', es', ep', e', d', s', f'⟩ := hn'
  refine ⟨o', e', es', ep', d', s', fun n hc => ?_⟩
  rw [f' n, look_cons]
  show (if n = x then some v else nsFind es n) = _
  by_cases hx : n = x
  · rw [if_pos hx, if_pos hx]
  · rw [if_neg hx, if_neg hx]; exact hf n (hn n hx hc)
theorem r_storeU {x : Str} {ks : List Str} {bs : List (Str × Value)} {v : Value} {Q : Unit → Shared → Prop} (H : W β h₀ h l) (hl : env.kindOf x = some .local) (hk : env.scope.kind = .function) (U : Upd l env.locals (NsU ks bs) (NsU ks ((x, v) :: bs)) l')
    (k : ∀ h' t', W β h₀ h' l' → Q () (S s h' t')) : wpAny β.M A (storeName env x v) Q E (S s h t) := r_storeV H hl hk U (fun _ _ h => h) k
theorem r_store1 {x : Str} {bs : List (Str × Value)} {v : Value} {Q : Unit → Shared → Prop} (H : W β h₀ h l) (hl : env.kindOf x = some .local) (hk : env.scope.kind = .function) (U : Upd l env.locals (NsU [x] bs) (NsO ((x, v) :: bs)) l')
    (k : ∀ h' t', W β h₀ h' l' → Q () (S s h' t')) : wpAny β.M A (storeName env x v) Q E (S s h t) := by
  obtain ⟨o, e, es, ep, hd', hs, hf⟩ := H.get U.mem
  refine wpAny_storeName_local (m := fun n => nsFind es n) hl ⟨o, es, ep, e, hd', hs, fun _ => rfl⟩ (fun h' hn' hsb => k h' _ (H.upd U hsb ?_)) (by rw [hk]; rfl)
  obtain ⟨o', es', ep', e', d', s', f'⟩ := hn'
  refine ⟨o', e', es', ep', d', s', fun n => ?_⟩
  rw [f' n, look_cons]
  show (if n = x then some v else nsFind es n) = _
  by_cases hx : n = x
  · rw [if_pos hx, if_pos hx]
  · rw [if_neg hx, if_neg hx]
    refine hf n ?_
    rw [List.contains_cons, List.contains_nil, Bool.or_false]
    simpa using hx
end
section
variable {β : Base} {A : Around} {s : Shared} {h₀ h h' : Heap} {t n : Nat} {l l' : Led} {env : Env} {E : Value → Shared → Prop} {a : Addr} {P : OP} {Q : Value → Shared → Prop}
theorem W.above (H : W β h₀ h l) {c : Addr} (hc : h.objs.size ≤ c) : h₀.get? c = none := by
  cases e : h₀.get? c with
  | none => rfl
  | some o =>
    by_cases t : IsTab c
    · obtain ⟨o', e'⟩ := H.tabs.there t
      exact absurd (Heap.lt_size e') (Nat.not_lt.mpr hc)
    · exact absurd (Heap.lt_size (H.grow _ _ e t)) (Nat.not_lt.mpr hc)
theorem TabsOk.code_lt (T : TabsOk h) {c : Addr} (x : TabCode h c) : c < h.objs.size := by
  obtain ⟨⟨q, r⟩, _⟩ := T.code x
  obtain ⟨o, e⟩ := codeRec_get r
  exact Heap.lt_size e
theorem W.cells {cs : List (Str × Addr)} {cm m : Str → Option Value} {bs : List (Str × Value)} (H : W β h₀ h l) (k : ∀ b o, h.get? b = some o → h'.get? b = some o) (hn : h'.Ns h.objs.size m) (hb : ∀ n, m n = bs.lookup n)
    (hc : ∀ n c, (n, c) ∈ cs → h'.IsCell c (cm n)) (ap : cs.Pairwise fun x y => x.2 ≠ y.2) (ab : ∀ n c, (n, c) ∈ cs → h.objs.size < c) :
    W β h₀ h' ((h.objs.size, NsO bs) :: ((cs.map fun p => (p.2, CellO (cm p.1))) ++ l)) := by
  have Hk := H.keeps k
  have hF : W β h₀ h' ((h.objs.size, NsO bs) :: l) := by
    obtain ⟨o, es, ep, e, d, st, f⟩ := hn
    exact H.new k ⟨o, e, es, ep, d, st, fun n => (f n).trans (hb n)⟩
  have back : ∀ c, TabCode h' c → TabCode h c := fun c x => x.back H.tabs fun b o _ => k b o
  refine ⟨Hk.base0, Hk.tabs0, Hk.tabs, Hk.grow, Hk.codes, fun p hp => ?_, ?_⟩
  · rcases List.mem_cons.mp hp with e | hp
    · exact hF.led p (e ▸ .head _)
    · rcases List.mem_append.mp hp with hp | hp
      · obtain ⟨⟨n, c⟩, hm, rfl⟩ := List.mem_map.mp hp
        obtain ⟨o, e, d⟩ := hc n c hm
        exact ⟨⟨o, e, d⟩, H.above (Nat.le_of_lt (ab n c hm)), fun x => absurd (H.tabs.code_lt (back _ x)) (Nat.not_lt.mpr (Nat.le_of_lt (ab n c hm)))⟩
      · exact hF.led p (.tail _ hp)
  · refine .cons (fun p hp => ?_) (List.pairwise_append.mpr ⟨?_, H.nd, fun p hp q hq e => ?_⟩)
    · rcases List.mem_append.mp hp with hp | hp
      · obtain ⟨⟨n, c⟩, hm, rfl⟩ := List.mem_map.mp hp
        exact Nat.ne_of_lt (ab n c hm)
      · exact (Nat.ne_of_lt (H.lt hp)).symm
    · exact List.pairwise_map.mpr ap
    · obtain ⟨⟨n, c⟩, hm, rfl⟩ := List.mem_map.mp hp
      exact absurd (Nat.lt_trans (H.lt hq) (ab n c hm)) (by rw [← e]; exact Nat.lt_irrefl _)

theorem r_callC {fa : Addr} {fo : Obj} {name qual : Str} {params : Arguments} {body : List Stmt} {scope : Scope} {dV kV doc pm cdv ct : Value} {an : Option Addr} {pos : List Value} {kw : List (Str × Value)} (binds bs : List (Str × Value)) {R : Value → Led → Prop}
    (hA : AOk A (n + 1)) (H : W β h₀ h l) (ho : β.F.lookup fa = some fo) (hd : fo.data = .func (fnX name qual params body scope [] dV kV doc pm an cdv ct)) (hcd : codeIn β.F cdv qual = true)
    (hbind : BindsTo (S s h t) (fnX name qual params body scope [] dV kV doc pm an cdv ct) ⟨pos, kw⟩ binds)
    (hkind : (binds.all fun y => scope.names.lookup y.1 == some .local || scope.names.lookup y.1 == some .cell) = true) (hnd : ((cellsFrom 0 scope.names []).map (·.1)).Nodup)
    (hbs : ∀ n, bindL (fun x => scope.names.lookup x) binds (fun _ => none) n = bs.lookup n)
    (hco : scope.isCoroutine = false) (hgen : scope.isGenerator = false) (hk : scope.kind = .function)
    (hb : ∀ A L h₁ t₁, AOk A n → W β h h₁ ((L, NsO bs) :: ((cellsFrom (L + 1) scope.names []).map fun p => (p.2, CellO (bindC (fun x => scope.names.lookup x) binds (fun _ => none) p.1)))) →
      wpAny β.M A (execs body (envX qual scope L fa cdv (cellsFrom (L + 1) scope.names []))) (RetP β s h R) NoE (S s h₁ t₁))
    (k : ∀ v h' t' l', W β h₀ h' (l' ++ l) → R v l' → Q v (S s h' t')) : wpAny β.M A (call (.ref fa) pos kw) Q E (S s h t) := by
  refine wpAny_call (codeAny_call_function (fd := fnX name qual params body scope [] dV kV doc pm an cdv ct) (body := body) hA.room (H.frag fa fo ho) hd hco hgen rfl (codeRec_of H.frag hcd) (hbind _ _ _ _ ?_))
  refine wpAny_newFunctionEnv_cells hk (kindsX hkind _) fun env' he s' x => ?_
  subst he
  obtain ⟨h₁, tk, rfl, hk₁⟩ := x.done
  refine ⟨H.nolimit.keeps hk₁, codeAny_func ?_⟩
  have H₁ := H.start.cells (cs := cellsFrom (h.objs.size + 1) scope.names []) (cm := bindC (fun x => scope.names.lookup x) binds (fun _ => none)) (bs := bs) hk₁ x.toInCall.ns hbs
    (fun n c hm => x.cell n c (lookup_of_mem_nodup (cellsFrom_names scope.names 0 (h.objs.size + 1) [] [] rfl ▸ hnd) hm)) x.apart x.above
  rw [List.append_nil] at H₁
  refine wpAny_mono (hb _ h.objs.size h₁ _ (hA.deeper _) H₁) (fun f s' hr => ?_) fun _ _ x => x.elim
  obtain ⟨h', t', l', rfl, H', r⟩ := hr
  exact k _ _ _ _ (H.lift2 H') r
end
section
variable {β : Base} {A : Around} {s : Shared} {h₀ h h' : Heap} {t n : Nat} {l l' : Led} {env : Env} {E : Value → Shared → Prop} {a : Addr} {P : OP} {Q : Value → Shared → Prop}
theorem among_append (pos p2 : Pos) (c : Value) : ∀ ps : List Value, TriplesOk ps → codeAmong pos (ps ++ [rawInt p2.line, rawInt p2.col, c]) = (codeAmong pos ps).or (if ((p2.line : Int) == pos.line && (p2.col : Int) == pos.col) = true then some c else none)
  | [], _ => by
    simp only [List.nil_append, codeAmong, rawInt, Option.or]
  | .int ln t1 :: .int cl t2 :: d :: r, h => by
    have ih := among_append pos p2 c r h
    simp only [List.cons_append, codeAmong]
    split
    · rfl
    · exact ih
theorem triples_append (p2 : Pos) (c : Value) : ∀ ps : List Value, TriplesOk ps → TriplesOk (ps ++ [rawInt p2.line, rawInt p2.col, c])
  | [], _ => trivial
  | .int _ _ :: .int _ _ :: _ :: r, h => triples_append p2 c r h

theorem tabs_one : ∀ p ∈ Mine.tabs, ∀ r ∈ Mine.tabs, p.1 = r.1 → p.2 = r.2 := by decide +kernel
theorem W.table {Pt : Addr} {q : Str} {ps : Array Value} {p2 : Pos} {c : Addr} (H : W β h₀ h l) (hq : (Pt, q) ∈ Mine.tabs) (hP : h.get? Pt = some (tabObj ps)) (ht : TriplesOk ps.toList)
    (hx : Heap.ExtBut Pt h h') (hc : h.objs.size ≤ c) (hr : h'.CodeRec (.ref c) q) (hP' : h'.get? Pt = some (tabObj (ps ++ #[rawInt p2.line, rawInt p2.col, .ref c]))) : W β h₀ h' l := by
  have iT : IsTab Pt := isTab_iff.mpr (List.mem_map_of_mem hq)
  have h125 : 125 ≤ c := by
    refine Nat.le_trans ?_ hc
    have e := H.base 124 _ (β.K 124 _ rfl)
    exact Heap.lt_size e
  have code_ne : ∀ b, TabCode h b → b ≠ Pt := fun b x e => absurd (isTab_lt iT) (Nat.not_lt.mpr (e ▸ (H.tabs.code x).2))
  have codes' : ∀ b, TabCode h' b → TabCode h b ∨ b = c := by
    rintro b ⟨P₂, ps₂, pos, hP₂, e, f⟩
    by_cases e2 : P₂ = Pt
    · subst e2
      rw [hP'] at e
      cases e
      rw [Array.toList_append] at f
      have f' := (among_append pos p2 (.ref c) ps.toList ht).symm.trans f
      cases g : codeAmong pos ps.toList with
      | some d =>
        rw [g] at f'
        cases f'
        exact .inl ⟨_, ps, pos, iT, hP, g⟩
      | none =>
        rw [g] at f'
        simp only [Option.none_or] at f'
        split at f'
        · cases f'; exact .inr rfl
        · cases f'
    · obtain ⟨o, e3⟩ := H.tabs.there hP₂
      have e4 := hx _ _ e2 e3
      rw [e] at e4; cases e4
      exact .inl ⟨P₂, ps₂, pos, hP₂, e3, f⟩
  have lt_c : ∀ b, TabCode h b → b < c := fun b x => Nat.lt_of_lt_of_le (H.tabs.code_lt x) hc
  refine ⟨H.base0, H.tabs0, fun p hp => ?_, ?_, fun b x => ?_, fun p hp => ?_, H.nd⟩
  · obtain ⟨ps₂, e, t, k⟩ := H.tabs p hp
    by_cases e2 : p.1 = Pt
    · have hpq : p.2 = q := by
        exact tabs_one p hp (Pt, q) hq e2
      rw [e2, hP] at e
      cases e
      refine ⟨_, e2 ▸ hP', ?_, fun pos => ?_⟩
      · rw [Array.toList_append]; exact triples_append p2 _ _ t
      · rw [Array.toList_append]
        have f := among_append pos p2 (.ref c) ps.toList ht
        cases g : codeAmong pos ps.toList with
        | some d =>
          rw [g] at f
          rcases k pos with k | ⟨c₂, k, r, l⟩
          · rw [g] at k; cases k
          · rw [g] at k; cases k
            exact .inr ⟨c₂, f, codeRec_ext r fun o => hx _ o (code_ne _ ⟨_, ps, pos, iT, hP, g⟩), l⟩
        | none =>
          rw [g] at f
          simp only [Option.none_or] at f
          by_cases hh : ((p2.line : Int) == pos.line && (p2.col : Int) == pos.col) = true
          · rw [if_pos hh] at f; exact .inr ⟨c, f, hpq ▸ hr, h125⟩
          · rw [if_neg hh] at f; exact .inl f
    · have iT2 : IsTab p.1 := isTab_iff.mpr (List.mem_map_of_mem hp)
      exact ⟨ps₂, hx _ _ e2 e, t, fun pos => (k pos).imp id fun ⟨c₂, e5, r, l⟩ => ⟨c₂, e5, codeRec_ext r fun o => hx _ o (code_ne _ ⟨_, ps₂, pos, iT2, e, e5⟩), l⟩⟩
  · intro b o e nt
    exact hx b o (fun q => nt (q ▸ iT)) (H.grow b o e nt)
  · rcases codes' b x with x | rfl
    · exact H.codes b x
    · exact .inr (H.above hc)
  · obtain ⟨⟨o, e, pp⟩, nn, cc⟩ := H.led p hp
    refine ⟨⟨o, hx _ _ (fun q => H.notTab hp (q ▸ iT)) e, pp⟩, nn, fun x => ?_⟩
    rcases codes' _ x with x | x
    · exact cc x
    · exact absurd (Heap.lt_size e) (Nat.not_lt.mpr (x ▸ hc))
end
section
variable {β : Base} {A : Around} {s : Shared} {h₀ h h' : Heap} {t n : Nat} {l l' : Led} {env : Env} {E : Value → Shared → Prop} {a : Addr} {P : OP} {Q : Value → Shared → Prop}
theorem W.builtinsAt (H : W β h₀ h l) {Pt : Addr} (hP : IsTab Pt) : h.BuiltinsAt β.mg Pt := by
  obtain ⟨bm, ob, b1, b2, b3, b4, b5, b6⟩ := β.bmain
  refine ⟨bm, ob, b1, b2, fun q => ?_, fun q => ?_, H.base _ _ b3, b4, b5, b6⟩
  · obtain ⟨o, es, ep, e, hd, _⟩ := β.g
    rw [q, e] at b3; cases b3; rw [hd] at b6; cases b6
  · rw [q, β.hid Pt hP] at b3; cases b3
theorem glob_ne_tab {Pt : Addr} (hP : IsTab Pt) : mainGlobals ≠ Pt := by rcases hP with h | h | h | h <;> subst h <;> decide
abbrev Base.pm (β : Base) : Value := (β.mg "__name__").getD .none
theorem h125 (H : W β h₀ h l) : 125 ≤ h.objs.size := Heap.lt_size (H.base 124 _ (β.K 124 _ rfl))

theorem r_lambda {params : Arguments} {body : Expr} {scope : Scope} {pos : Pos} {cn : Str} {cs : Scope} {L fa c Pt : Addr} {cl clos : List (Str × Addr)} {q : Str} (H : W β h₀ h l) (hC : codeHdIn β.F c Pt = true) (hq : (Pt, q) ∈ tabs)
    (hqq : cn ++ ".<locals>." ++ "<lambda>" = q) (hcl : closureFor scope (envX cn cs L fa (.ref c) cl) = pure clos) (hdef : defaultsOf params (envX cn cs L fa (.ref c) cl) = ([], []))
    (k : ∀ f c' ctv h' t', W β h₀ h' ((f, IsO (kla_obj "<lambda>" q params body scope clos β.pm c' ctv)) :: l) → h'.CodeRec (.ref c') q → 125 ≤ c' → Q (.ref f) (S s h' t')) :
    wpAny β.M A (eval (.Lambda params body scope pos) (envX cn cs L fa (.ref c) cl)) Q E (S s h t) := by
  have iT : IsTab Pt := isTab_iff.mpr (List.mem_map_of_mem hq)
  have C := codeHd_of_K H.frag hC
  obtain ⟨ps, hP, ht, hk⟩ := H.tabs _ hq
  subst hqq
  refine kla_eval hdef ?_
  rcases hk pos with hn | ⟨c', hs, hr, hc⟩
  · refine kla_makeFunction (mg := β.mg) hcl rfl H.mg rfl C hP ht hn (glob_ne_tab iT) (H.builtinsAt iT) fun c' ctv h' tk hx hge hlt hrec htb => ?_
    exact k _ c' ctv _ _ ((H.table hq hP ht hx hge hrec htb).push _ rfl rfl) (hrec.push _) (Nat.le_trans (h125 H) hge)
  · refine kla_makeFunctionHit (mg := β.mg) hcl rfl H.mg rfl C hP ht hs (H.builtinsAt iT) fun ctv h' tk hk₁ hsz => ?_
    exact k _ c' ctv _ _ ((H.keeps hk₁).push _ rfl rfl) ((hr.keeps hk₁).push _) hc

theorem r_nest {name : Str} {params : Arguments} {body : List Stmt} {scope : Scope} {pos : Pos} {cn : Str} {cs : Scope} {L fa c Pt : Addr} {cl clos : List (Str × Addr)} {q : Str} {Q : Flow → Shared → Prop} (H : W β h₀ h l) (hC : codeHdIn β.F c Pt = true) (hq : (Pt, q) ∈ tabs)
    (hqq : qualnameIn (envX cn cs L fa (.ref c) cl) name name = q) (hcl : closureFor scope (envX cn cs L fa (.ref c) cl) = pure clos) (hd0 : params.defaults = []) (hk0 : params.kw_defaults = []) (ha : annTrees params none (envX cn cs L fa (.ref c) cl) = [])
    (k : ∀ f c' ctv doc h' t', W β h₀ h' ((f, IsO (fnMade name q params body scope clos doc β.pm c' ctv)) :: l) → h'.CodeRec (.ref c') q → 125 ≤ c' → (∀ p ∈ l, p.1 ≠ c') →
      wpAny β.M A (storeName (envX cn cs L fa (.ref c) cl) name (.ref f)) (fun _ s₁ => Q .next s₁) E (S s h' t')) :
    wpAny β.M A (exec (.FunctionDef name params body [] none [] scope none name pos) (envX cn cs L fa (.ref c) cl)) Q E (S s h t) := by
  have iT : IsTab Pt := isTab_iff.mpr (List.mem_map_of_mem hq)
  have C := codeHd_of_K H.frag hC
  obtain ⟨ps, hP, ht, hk⟩ := H.tabs _ hq
  refine nestDef_K hd0 hk0 ha ?_
  rw [hqq]
  rcases hk pos with hn | ⟨c', hs, hr, hc⟩
  · refine makeFunction_K (mg := β.mg) hcl rfl H.mg rfl C hP ht hn (glob_ne_tab iT) (H.builtinsAt iT) fun c' ctv doc h' tk hx hge hlt hrec htb => ?_
    exact k _ c' ctv doc _ _ ((H.table hq hP ht hx hge hrec htb).push _ rfl rfl) (hrec.push _) (Nat.le_trans (h125 H) hge) fun p hp => Nat.ne_of_lt (Nat.lt_of_lt_of_le (H.lt hp) hge)
  · refine makeFunction_hit (mg := β.mg) hcl rfl H.mg rfl C hP ht hs (H.builtinsAt iT) fun ctv doc h' tk hk₁ hsz => ?_
    exact k _ c' ctv doc _ _ ((H.keeps hk₁).push _ rfl rfl) ((hr.keeps hk₁).push _) hc fun p hp e => (H.led p hp).2.2 (e ▸ ⟨Pt, ps, pos, iT, hP, hs⟩)

theorem r_storeCS {x : Str} {c : Addr} {v₀ : Option Value} {v : Value} {Q : Unit → Shared → Prop} (H : W β h₀ h l) (hk : env.scope.kind = .function) (hl : env.kindOf x = some .cell) (hc : env.cells.lookup x = some c) (U : Upd l c (CellO v₀) (CellO (some v)) l')
    (k : ∀ h' t', W β h₀ h' l' → Heap.SameBut c h h' → Q () (S s h' t')) : wpAny β.M A (storeName env x v) Q E (S s h t) := by
  obtain ⟨o, e, p⟩ := H.get U.mem
  refine wpAny_storeName_cell hk hl hc ⟨o, e, p⟩ (fun h' hn hsb => k h' _ (H.upd U hsb ?_) hsb)
  obtain ⟨o', e', p'⟩ := hn
  exact ⟨o', e', p'⟩
/-- a lambda called -/
theorem r_callLam {f : Addr} {name qual : Str} {params : Arguments} {body : Expr} {scope : Scope} {cl : List (Str × Addr)} {pm ctv : Value} {c' : Addr} {pos : List Value} {kw : List (Str × Value)} (binds : List (Str × Value)) {R : Value → Led → Prop}
    (hA : AOk A (n + 1)) (H : W β h₀ h l) (hf : h.get? f = some (kla_obj name qual params body scope cl pm c' ctv)) (hcd : h.CodeRec (.ref c') qual)
    (hbind : bindArgs (kla_fn name qual params body scope cl pm (.ref c') ctv) ⟨pos, kw⟩ = pure binds) (hcell : ∀ x ∈ scope.names, x.2 ≠ .cell) (hloc : ∀ x ∈ binds, scope.names.lookup x.1 = some .local)
    (hco : scope.isCoroutine = false) (hgen : scope.isGenerator = false) (hk : scope.kind = .function)
    (hb : ∀ A L h₁ t₁, AOk A n → W β h h₁ [(L, NsO binds.reverse)] → wpAny β.M A (eval body (envX qual scope L f (.ref c') cl)) (fun v s' => RetP β s h R (.ret v) s') NoE (S s h₁ t₁))
    (k : ∀ v h' t' l', W β h₀ h' (l' ++ l) → R v l' → Q v (S s h' t')) : wpAny β.M A (call (.ref f) pos kw) Q E (S s h t) := by
  refine wpAny_call (kla_callFunE (body := body) hA.room hf rfl hco hgen rfl hcd ?_)
  rw [hbind]
  refine wpAny_pure (wpAny_newFunctionEnv hcell hloc (fun h₁ hns hsb => ⟨H.nolimit.fresh _ hsb, ?_⟩) hk)
  have hk₁ : ∀ b o, h.get? b = some o → h₁.get? b = some o := fun b o e => hsb.extBut b o (Nat.ne_of_lt (Heap.lt_size e)) (Heap.get?_push_of_some _ e)
  refine kla_codeExpr (wpAny_mono (hb _ h.objs.size h₁ _ (hA.deeper _) (H.start.frame hns hk₁)) (fun f s' hr => ?_) fun _ _ x => x.elim)
  obtain ⟨h', t', l', rfl, H', r⟩ := hr
  exact k _ _ _ _ (H.lift2 H') r
/-- a def made in a def's body called -/
theorem r_callNest {f : Addr} {name qual : Str} {params : Arguments} {body : List Stmt} {scope : Scope} {cl : List (Str × Addr)} {doc pm ctv : Value} {c' : Addr} {pos : List Value} {kw : List (Str × Value)} (binds : List (Str × Value)) {R : Value → Led → Prop}
    (hA : AOk A (n + 1)) (H : W β h₀ h l) (hf : h.get? f = some (fnMade name qual params body scope cl doc pm c' ctv)) (hcd : h.CodeRec (.ref c') qual)
    (hbind : bindArgs (fnX name qual params body scope cl .none .none doc pm none (.ref c') ctv) ⟨pos, kw⟩ = pure binds) (hcell : ∀ x ∈ scope.names, x.2 ≠ .cell) (hloc : ∀ x ∈ binds, scope.names.lookup x.1 = some .local)
    (hco : scope.isCoroutine = false) (hgen : scope.isGenerator = false) (hk : scope.kind = .function)
    (hb : ∀ A L h₁ t₁, AOk A n → W β h h₁ [(L, NsO binds.reverse)] → wpAny β.M A (execs body (envX qual scope L f (.ref c') cl)) (RetP β s h R) NoE (S s h₁ t₁))
    (k : ∀ v h' t' l', W β h₀ h' (l' ++ l) → R v l' → Q v (S s h' t')) : wpAny β.M A (call (.ref f) pos kw) Q E (S s h t) := by
  refine wpAny_call (codeAny_call_def (fd := fnX name qual params body scope cl .none .none doc pm none (.ref c') ctv) hA.room hf rfl H.nolimit hcd rfl (.of_eq hbind) hcell hloc (fun h₁ hns hk₁ => ?_) hco hgen hk)
  refine wpAny_mono (hb _ h.objs.size h₁ _ (hA.deeper _) (H.start.frame hns hk₁)) (fun f s' hr => ?_) fun _ _ x => x.elim
  obtain ⟨h', t', l', rfl, H', r⟩ := hr
  exact k _ _ _ _ (H.lift2 H') r

theorem ints_of {vs : List Value} : ∀ {ns : List Int}, vs.length = ns.length → (∀ (j : Nat) v, vs[j]? = some v → ∃ m t, ns[j]? = some m ∧ v = .int m t) → IntsAre vs ns := by
  induction vs with
  | nil =>
    intro ns hl _
    cases ns with
    | nil => exact .nil
    | cons m r => cases hl
  | cons v r ih =>
    intro ns hl h
    cases ns with
    | nil => cases hl
    | cons m r' =>
      obtain ⟨m₂, t, e1, rfl⟩ := h 0 v rfl
      cases e1
      exact .cons m t (ih (by simpa using hl) fun j v e => h (j + 1) v e)
theorem r_listR {r : Addr} {N : Nat} (hA : AOk A n) (H : W β h₀ h l) (hr : (r, RangeO 0 (N : Int) 1) ∈ l) (hN : N < 1000)
    (k : ∀ a vs h' t', W β h₀ h' ((a, ListO vs) :: l) → IntsAre vs ((List.range N).map fun i : Nat => (i : Int)) → Q (.ref a) (S s h' t')) : wpAny β.M A (call (.type "list") [.ref r]) Q E (S s h t) := by
  obtain ⟨o, e, t₁, t₂, t₃, rfl⟩ := H.get hr
  refine call_list_range (t := t₁) (u := t₂) (v := t₃) (n := N) hA.handled e (small_of (by (first | lia | omega)) (by (first | lia | omega))) (by rw [rangeSize_nat]; (first | lia | omega)) (by (first | lia | omega)) fun h' tk acc' c' hk₁ hS' hacc => ?_
  refine k _ acc'.toList _ _ (H.new hk₁ ⟨_, hS', c', by simp⟩) (ints_of (by simp [hacc.1]) fun j v ev => ?_)
  have ev' : acc'[j]? = some v := by simpa using ev
  obtain ⟨t, rfl⟩ := hacc.2 j v ev'
  have hj : j < N := by
    have := (Array.getElem?_eq_some_iff.mp ev').1
    rw [hacc.1] at this; exact this
  exact ⟨j, t, by simp [hj], by congr 1; (first | lia | omega)⟩

theorem r_cwKw {pos : Pos} {f : Addr} {o : Obj} {fd : FuncData} {e kwe : Expr} {rest : List Expr} {kn : Str} {kp : Pos} (hdat : o.data = .func fd)
    (he : starEach (e :: rest) env = (false, eval e env) :: starEach rest env)
    (k : wpAny β.M A (spliced (backTo pos (starEach (e :: rest) env))) (fun vs s₁ => wpAny β.M A (eval kwe env) (fun kv s₂ => s₂.heap.get? f = some o ∧ wpAny β.M A (call (.ref f) vs [(kn, kv)]) Q E s₂) E s₁) E (S s h t)) :
    wpAny β.M A (callWith pos (.ref f) [] (backTo pos (starEach (e :: rest) env)) (backToKw pos (keywordEach [⟨some kn, kwe, kp⟩] env))) Q E (S s h t) := by
  rw [he] at k ⊢
  refine callWith_def_kw hdat (evalArgs_kw rfl (wpAny_mono k (fun vs s₁ h₁ => ?_) fun _ _ x => x))
  refine wpAny_evalAll_cons (wpAny_bind (wpAny_mono h₁ (fun kv s₂ h₂ => ?_) fun _ _ x => x))
  exact wpAny_bind (wpAny_standAt (wpAny_pure (wpAny_evalAll_nil h₂)))
end
noncomputable def foAt (β : Base) (N : Addr) : Obj := (β.F.lookup N).getD default
noncomputable def fdAt (β : Base) (N : Addr) : FuncData := match (foAt β N).data with | .func fd => fd | _ => default
noncomputable def GoG (β : Base) (s : Shared) (X : Prop) (s₁ : Shared) : Prop := (∃ h₀ h l t, s₁ = S s h t ∧ W β h₀ h l) ∧ X
section
variable {β : Base} {A : Around} {s : Shared} {h₀ h h' : Heap} {t n : Nat} {l l' : Led} {env : Env} {E : Value → Shared → Prop} {a : Addr} {P : OP} {Q : Value → Shared → Prop}
theorem GoG.mk (H : W β h₀ h l) {X : Prop} (x : X) : GoG β s X (S s h t) := ⟨⟨_, _, _, _, rfl, H⟩, x⟩
theorem r_cwG {pos : Pos} {N : Addr} {e : Expr} {rest : List Expr} (hl : β.F.lookup N = some (foAt β N)) (hd : (foAt β N).data = .func (fdAt β N))
    (he : starEach (e :: rest) env = (false, eval e env) :: starEach rest env)
    (k : wpAny β.M A (spliced (backTo pos (starEach (e :: rest) env))) (fun vs s₁ => GoG β s (wpAny β.M A (call (.ref N) vs) Q E s₁) s₁) E (S s h t)) :
    wpAny β.M A (callWith pos (.ref N) [] (backTo pos (starEach (e :: rest) env)) []) Q E (S s h t) :=
  r_cwF hd he (wpAny_mono k (fun vs s₁ h₁ => by obtain ⟨⟨h₀, h, l, t, rfl, H⟩, x⟩ := h₁; exact ⟨H.frag _ _ hl, x⟩) fun _ _ x => x)
theorem r_cwGK {pos : Pos} {N : Addr} {e kwe : Expr} {rest : List Expr} {kn : Str} {kp : Pos} (hl : β.F.lookup N = some (foAt β N)) (hd : (foAt β N).data = .func (fdAt β N))
    (he : starEach (e :: rest) env = (false, eval e env) :: starEach rest env)
    (k : wpAny β.M A (spliced (backTo pos (starEach (e :: rest) env))) (fun vs s₁ => wpAny β.M A (eval kwe env) (fun kv s₂ => GoG β s (wpAny β.M A (call (.ref N) vs [(kn, kv)]) Q E s₂) s₂) E s₁) E (S s h t)) :
    wpAny β.M A (callWith pos (.ref N) [] (backTo pos (starEach (e :: rest) env)) (backToKw pos (keywordEach [⟨some kn, kwe, kp⟩] env))) Q E (S s h t) :=
  r_cwKw hd he (wpAny_mono k (fun vs s₁ h₁ => wpAny_mono h₁ (fun kv s₂ h₂ => by obtain ⟨⟨h₀, h, l, t, rfl, H⟩, x⟩ := h₂; exact ⟨H.frag _ _ hl, x⟩) fun _ _ x => x) fun _ _ x => x)
theorem fl_21 : β.F.lookup 21 = some (foAt β 21) := rfl
theorem fd_21 : (foAt β 21).data = .func (fdAt β 21) := rfl
theorem fl_35 : β.F.lookup 35 = some (foAt β 35) := rfl
theorem fd_35 : (foAt β 35).data = .func (fdAt β 35) := rfl
theorem fl_42 : β.F.lookup 42 = some (foAt β 42) := rfl
theorem fd_42 : (foAt β 42).data = .func (fdAt β 42) := rfl
theorem fl_49 : β.F.lookup 49 = some (foAt β 49) := rfl
theorem fd_49 : (foAt β 49).data = .func (fdAt β 49) := rfl
theorem fl_56 : β.F.lookup 56 = some (foAt β 56) := rfl
theorem fd_56 : (foAt β 56).data = .func (fdAt β 56) := rfl
theorem fl_65 : β.F.lookup 65 = some (foAt β 65) := rfl
theorem fd_65 : (foAt β 65).data = .func (fdAt β 65) := rfl
theorem fl_72 : β.F.lookup 72 = some (foAt β 72) := rfl
theorem fd_72 : (foAt β 72).data = .func (fdAt β 72) := rfl
theorem fl_79 : β.F.lookup 79 = some (foAt β 79) := rfl
theorem fd_79 : (foAt β 79).data = .func (fdAt β 79) := rfl
theorem fl_84 : β.F.lookup 84 = some (foAt β 84) := rfl
theorem fd_84 : (foAt β 84).data = .func (fdAt β 84) := rfl
theorem fl_91 : β.F.lookup 91 = some (foAt β 91) := rfl
theorem fd_91 : (foAt β 91).data = .func (fdAt β 91) := rfl
theorem fl_98 : β.F.lookup 98 = some (foAt β 98) := rfl
theorem fd_98 : (foAt β 98).data = .func (fdAt β 98) := rfl
theorem fl_105 : β.F.lookup 105 = some (foAt β 105) := rfl
theorem fd_105 : (foAt β 105).data = .func (fdAt β 105) := rfl
theorem fl_112 : β.F.lookup 112 = some (foAt β 112) := rfl
theorem fd_112 : (foAt β 112).data = .func (fdAt β 112) := rfl
theorem fl_119 : β.F.lookup 119 = some (foAt β 119) := rfl
theorem fd_119 : (foAt β 119).data = .func (fdAt β 119) := rfl
end
section
variable {β : Base} {A : Around} {s : Shared} {h₀ h h' : Heap} {t n : Nat} {l l' : Led} {env : Env} {E : Value → Shared → Prop} {a : Addr} {P : OP} {Q : Unit → Shared → Prop}
theorem r_unpack2 {e1 e2 : Expr} {c : Nat} {pos : Pos} {tp : Addr} {v1 v2 : Value} (hA : AOk A n) (H : W β h₀ h l) (ht : Has h tp (TupO [v1, v2])) (he : assignEach [e1, e2] env = [(false, assign e1 env), (false, assign e2 env)])
    (k : ∀ h' t', W β h₀ h' l → wpAny β.M A (assign e1 env v1) (fun _ s₁ => wpAny β.M A (assign e2 env v2) Q E s₁) E (S s h' t')) : wpAny β.M A (assign (.Tuple [e1, e2] c pos) env (.ref tp)) Q E (S s h t) := by
  refine wpAny_assign_Tuple hA.handled ht.isTup (by rw [he]; rfl) (by rw [he]; rfl) fun h' hx => ?_
  rw [he]
  have H' := H.keeps (h' := h') fun b o e => hx b o (Nat.ne_of_lt (Heap.lt_size e)) e
  exact wpAny_assignInOrder_more (wpAny_mono (k h' _ H') (fun _ s₁ h₁ => wpAny_assignInOrder_more (wpAny_mono h₁ (fun _ s₂ h₂ => wpAny_assignInOrder_none h₂) fun _ _ x => x)) fun _ _ x => x)
theorem r_unpack3 {e1 e2 e3 : Expr} {c : Nat} {pos : Pos} {tp : Addr} {v1 v2 v3 : Value} (hA : AOk A n) (H : W β h₀ h l) (ht : Has h tp (TupO [v1, v2, v3])) (he : assignEach [e1, e2, e3] env = [(false, assign e1 env), (false, assign e2 env), (false, assign e3 env)])
    (k : ∀ h' t', W β h₀ h' l → wpAny β.M A (assign e1 env v1) (fun _ s₁ => wpAny β.M A (assign e2 env v2) (fun _ s₂ => wpAny β.M A (assign e3 env v3) Q E s₂) E s₁) E (S s h' t')) : wpAny β.M A (assign (.Tuple [e1, e2, e3] c pos) env (.ref tp)) Q E (S s h t) := by
  refine wpAny_assign_Tuple hA.handled ht.isTup (by rw [he]; rfl) (by rw [he]; rfl) fun h' hx => ?_
  rw [he]
  have H' := H.keeps (h' := h') fun b o e => hx b o (Nat.ne_of_lt (Heap.lt_size e)) e
  exact wpAny_assignInOrder_more (wpAny_mono (k h' _ H') (fun _ s₁ h₁ => wpAny_assignInOrder_more (wpAny_mono h₁ (fun _ s₂ h₂ => wpAny_assignInOrder_more (wpAny_mono h₂ (fun _ s₃ h₃ => wpAny_assignInOrder_none h₃) fun _ _ x => x)) fun _ _ x => x)) fun _ _ x => x)
theorem r_assignT {elts : List Expr} {c : Nat} {tpos : Pos} {value : Expr} {pos : Pos} {Q : Flow → Shared → Prop} (hs : swapsWithSole [.Tuple elts c tpos] value pos.line env = pure false) (hw : swappedStores [.Tuple elts c tpos] value env = pure none)
    (k : wpAny β.M A (eval value env) (fun v s₁ => wpAny β.M A (assign (.Tuple elts c tpos) env v) (fun _ s₂ => Q .next s₂) E s₁) E (S s h t)) : wpAny β.M A (exec (.Assign [.Tuple elts c tpos] value pos) env) Q E (S s h t) := Assign_Tuple k hs hw
end
section
variable {β : Base} {A : Around} {s : Shared} {h₀ h h' : Heap} {t n : Nat} {l l' : Led} {env : Env} {E : Value → Shared → Prop} {a : Addr} {P : OP} {Q : Value → Shared → Prop}
theorem W.perm (H : W β h₀ h l) (hp : l.Perm l') : W β h₀ h l' :=
  ⟨H.base0, H.tabs0, H.tabs, H.grow, H.codes, fun p hm => H.led p (hp.mem_iff.mpr hm), (hp.pairwise_iff fun {x y} (h : x.1 ≠ y.1) => h.symm).mp H.nd⟩
theorem W.swap {p q : Addr × OP} (H : W β h₀ h (p :: q :: l)) : W β h₀ h (q :: p :: l) := H.perm (.swap q p l)

theorem hide_get {D b : Addr} {o : Obj} (e : h.get? b = some o) (hb : b ≠ D) : (h.hide D).get? b = some o := (Heap.hide_ne h hb).trans e
theorem hide_none (h : Heap) (D : Addr) : (h.hide D).get? D = none := hideAll_none [D] (h := h) (.head _)
theorem tabCode_hide {D c : Addr} (hD : ¬ IsTab D) : TabCode (h.hide D) c ↔ TabCode h c := by
  constructor
  · rintro ⟨P, ps, pos, hP, e, f⟩; exact ⟨P, ps, pos, hP, Heap.of_hide e, f⟩
  · rintro ⟨P, ps, pos, hP, e, f⟩; exact ⟨P, ps, pos, hP, hide_get e (fun q => hD (q ▸ hP)), f⟩
/-- one object of the ledger lent -/
theorem W.focus {D : Addr} {P₀ : OP} (H : W β h₀ h ((D, P₀) :: l)) : W β (h.hide D) h [(D, P₀)] := by
  have hD := H.notTab (.head _)
  obtain ⟨x, n, c⟩ := H.led _ (.head _)
  refine ⟨fun b o e => hide_get (H.base b o e) fun q => ?_, fun P hP => ?_, H.tabs, fun b o e _ => Heap.of_hide e, fun c x => .inl ((tabCode_hide hD).mpr x), fun p hp => ?_, List.pairwise_singleton _ _⟩
  · have := H.base0 b o e; rw [q, n] at this; cases this
  · obtain ⟨o, e⟩ := H.tabs.there hP
    exact ⟨o, hide_get e fun q => hD (q ▸ hP)⟩
  · rw [List.mem_singleton.mp hp]; exact ⟨x, hide_none h D, c⟩
theorem W.unfocus {D : Addr} {P₀ P₁ : OP} (H : W β h₀ h ((D, P₀) :: l)) (H' : W β (h.hide D) h' ((D, P₁) :: l')) : W β h₀ h' ((D, P₁) :: l) := by
  have hD := H.notTab (.head _)
  obtain ⟨x, n, c⟩ := H.led _ (.head _)
  obtain ⟨x', n', c'⟩ := H'.led _ (.head _)
  have nd := List.pairwise_cons.mp H.nd
  have back : ∀ b, TabCode h' b → TabCode h b ∨ (h.get? b = none ∧ b ≠ D) := fun b y => by
    have hb : b ≠ D := fun q => c' (q ▸ y)
    rcases H'.codes b y with z | z
    · exact .inl ((tabCode_hide hD).mp z)
    · refine .inr ⟨?_, hb⟩
      cases e : h.get? b with
      | none => rfl
      | some o => rw [hide_get e hb] at z; cases z
  refine ⟨H.base0, H.tabs0, H'.tabs, fun b o e nt => H'.grow b o (hide_get (H.grow b o e nt) fun q => by rw [q, n] at e; cases e) nt, fun b y => ?_, fun p hp => ?_, List.pairwise_cons.mpr ⟨fun p hp => nd.1 p hp, nd.2⟩⟩
  · rcases back b y with z | ⟨z, _⟩
    · exact H.codes b z
    · refine .inr ?_
      cases e : h₀.get? b with
      | none => rfl
      | some o =>
        have := H.grow b o e fun t => absurd (isTab_lt t) (Nat.not_lt.mpr (H'.tabs.code y).2)
        rw [z] at this; cases this
  · rcases List.mem_cons.mp hp with q | hp
    · subst q; exact ⟨x', n, c'⟩
    · obtain ⟨⟨o, e, pp⟩, n₂, c₂⟩ := H.led p (.tail _ hp)
      refine ⟨⟨o, H'.grow _ _ (hide_get e (nd.1 p hp).symm) (H.notTab (.tail _ hp)), pp⟩, n₂, fun y => ?_⟩
      rcases back _ y with z | ⟨z, _⟩
      · exact c₂ z
      · rw [e] at z; cases z
theorem Ext0.hide {D : Addr} {g : Heap} (x : Ext0 g h) (hg : g.get? D = none) : Ext0 g (h.hide D) := fun b o e nt => hide_get (x b o e nt) fun q => by rw [q, hg] at e; cases e

theorem Del.perm {l l' : Led} (U : Del l a P l') : l.Perm ((a, P) :: l') := by
  induction U with
  | head => exact .refl _
  | tail _ ih => exact (List.Perm.cons _ ih).trans (.swap _ _ _)
theorem W.pick (H : W β h₀ h l) (U : Del l a P l') : W β h₀ h ((a, P) :: l') := H.perm U.perm
theorem W.hasHide {D c : Addr} {P₀ P₁ : OP} (H : W β h₀ h ((D, P₀) :: l)) (hm : (c, P₁) ∈ l) : Has (h.hide D) c P₁ := by
  obtain ⟨o, e, p⟩ := (H.led _ (.tail _ hm)).1
  exact ⟨⟨o, hide_get e ((List.pairwise_cons.mp H.nd).1 _ hm).symm, p⟩, H.notTab (.tail _ hm)⟩
/-- a def made in a def's body called; it may change one object of the ledger -/
theorem r_callNestF {f D : Addr} {P₀ : OP} {name qual : Str} {params : Arguments} {body : List Stmt} {scope : Scope} {cl : List (Str × Addr)} {doc pm ctv : Value} {c' : Addr} {pos : List Value} {kw : List (Str × Value)} (binds : List (Str × Value)) {R : Value → OP → Prop}
    (hA : AOk A (n + 1)) (H : W β h₀ h ((D, P₀) :: l)) (hf : h.get? f = some (fnMade name qual params body scope cl doc pm c' ctv)) (hcd : h.CodeRec (.ref c') qual)
    (hbind : bindArgs (fnX name qual params body scope cl .none .none doc pm none (.ref c') ctv) ⟨pos, kw⟩ = pure binds) (hcell : ∀ x ∈ scope.names, x.2 ≠ .cell) (hloc : ∀ x ∈ binds, scope.names.lookup x.1 = some .local)
    (hco : scope.isCoroutine = false) (hgen : scope.isGenerator = false) (hk : scope.kind = .function)
    (hb : ∀ A L h₁ t₁, AOk A n → W β (h.hide D) h₁ [(L, NsO binds.reverse), (D, P₀)] → wpAny β.M A (execs body (envX qual scope L f (.ref c') cl)) (RetP β s (h.hide D) (fun v l' => ∃ P₁, l' = [(D, P₁)] ∧ R v P₁)) NoE (S s h₁ t₁))
    (k : ∀ v h' t' P₁, W β h₀ h' ((D, P₁) :: l) → R v P₁ → Q v (S s h' t')) : wpAny β.M A (call (.ref f) pos kw) Q E (S s h t) := by
  refine wpAny_call (codeAny_call_def (fd := fnX name qual params body scope cl .none .none doc pm none (.ref c') ctv) hA.room hf rfl H.nolimit hcd rfl (.of_eq hbind) hcell hloc (fun h₁ hns hk₁ => ?_) hco hgen hk)
  refine wpAny_mono (hb _ h.objs.size h₁ _ (hA.deeper _) (H.focus.frame hns hk₁)) (fun f s' hr => ?_) fun _ _ x => x.elim
  obtain ⟨h', t', l', rfl, H', P₁, rfl, r⟩ := hr
  exact k _ _ _ _ (H.unfocus H') r

theorem r_cwH {pos : Pos} {f : Addr} {g : Heap} {e : Expr} {rest : List Expr} {o : Obj} {fd : FuncData} (_hf : Has g f (IsO o)) (hdat : o.data = .func fd)
    (he : starEach (e :: rest) env = (false, eval e env) :: starEach rest env)
    (k : wpAny β.M A (spliced (backTo pos (starEach (e :: rest) env))) (fun vs s₁ => s₁.heap.get? f = some o ∧ wpAny β.M A (call (.ref f) vs) Q E s₁) E (S s h t)) :
    wpAny β.M A (callWith pos (.ref f) [] (backTo pos (starEach (e :: rest) env)) []) Q E (S s h t) := r_cwF hdat he k
theorem intBits_lt {x : Int} {B : Nat} (h0 : 0 ≤ x) (h : x < 2 ^ B) : Builtin.Int.intBits x ≤ B := by
  unfold Builtin.Int.intBits
  split
  · exact Nat.zero_le _
  · rename_i hx
    have hx' : x ≠ 0 := by simpa using hx
    have h1 : x.natAbs < 2 ^ B := by
      have : (x.natAbs : Int) < ((2 ^ B : Nat) : Int) := by rw [Int.natAbs_of_nonneg h0]; push_cast; exact h
      exact_mod_cast this
    have := (Nat.log2_lt (by omega : x.natAbs ≠ 0)).mpr h1
    omega

-- ints
theorem r_mul {x y : Int} {t₁ t₂} (hm : IntMulOk x y) (k : ∀ t₁ t', Q (.int (x * y) t₁) (S s h t')) : wpAny β.M A (binaryOp .Mult (.int x t₁) (.int y t₂)) Q E (S s h t) := mul_int (k _ _) hm
theorem r_shl {x y : Int} {t₁ t₂} (hy : 0 ≤ y) (hb : (Builtin.Int.intBits x : Int) + y ≤ 2 ^ 27) (k : ∀ t₁ t', Q (.int (x * 2 ^ y.toNat) t₁) (S s h t')) : wpAny β.M A (binaryOp .LShift (.int x t₁) (.int y t₂)) Q E (S s h t) := lshift_int hy hb (k _ _)
theorem r_shr {x y : Int} {t₁ t₂} (hy : 0 ≤ y) (k : ∀ t₁ t', Q (.int (x.fdiv (2 ^ y.toNat)) t₁) (S s h t')) : wpAny β.M A (binaryOp .RShift (.int x t₁) (.int y t₂)) Q E (S s h t) := rshift_int hy (k _ _)
theorem r_xor {x y : Int} {t₁ t₂} (k : ∀ t₁ t', Q (.int (Builtin.bitXor x y) t₁) (S s h t')) : wpAny β.M A (binaryOp .BitXor (.int x t₁) (.int y t₂)) Q E (S s h t) := xor_int (k _ _)
theorem r_pow {x y : Int} {t₁ t₂} (hy : 0 ≤ y) (hb : (Builtin.Int.intBits x : Int) * y ≤ 2 ^ 27) (k : ∀ t₁ t', Q (.int (x ^ y.toNat) t₁) (S s h t')) : wpAny β.M A (binaryOp .Pow (.int x t₁) (.int y t₂)) Q E (S s h t) := pow_int hy hb (k _ _)
theorem r_bits {pos : Pos} {x : Int} {u : Tok} (k : ∀ t₁ t', Q (.int (Builtin.Int.intBits x : Nat) t₁) (S s h t')) : wpAny β.M A (callWith pos (.builtin "int.bit_length") [.int x u] (backTo pos (starEach [] env)) []) Q E (S s h t) :=
  method0_gives F.slot_int_bit_length F.entry_int_bit_length (typeIs_int _ _ _) (F.args_int_bit_length_1 _) (AutoIntG2.int_bit_length_int_0 x u) (k _ _)
theorem r_divmod {x y : Int} {t₁ t₂} (H : W β h₀ h l) (hy : y ≠ 0) (hp : Builtin.divisionGoesByPylong x y = false) (k : ∀ a t₁ t₂ h' t', W β h₀ h' ((a, TupO [.int (x.fdiv y) t₁, .int (x.fmod y) t₂]) :: l) → Q (.ref a) (S s h' t')) :
    wpAny β.M A (call (.builtin "divmod") [.int x t₁, .int y t₂]) Q E (S s h t) := divmod_int hy (k _ _ _ _ _ (H.push _ ⟨_, rfl⟩ rfl)) (.inl hp)
theorem r_trueI {x : Int} {u : Tok} {Q : Bool → Shared → Prop} (k : Q (x != 0) (S s h t)) : wpAny β.M A (truthy (.int x u)) Q E (S s h t) := truthy_int k

-- lists
theorem r_addL {a b : Addr} {vs ws : List Value} (H : W β h₀ h l) (ha : Has h a (ListO vs)) (hb : Has h b (ListO ws)) (hs : vs.length + ws.length ≤ sizeLine) (k : ∀ c h' t', W β h₀ h' ((c, ListO (vs ++ ws)) :: l) → Q (.ref c) (S s h' t')) :
    wpAny β.M A (binaryOp .Add (.ref a) (.ref b)) Q E (S s h t) := by
  obtain ⟨⟨o, e, n1, rfl⟩, _⟩ := ha
  obtain ⟨⟨o', e', n2, rfl⟩, _⟩ := hb
  refine P.add_list (items := vs.toArray) (items2 := ws.toArray) e e' (k _ _ _ (H.push _ ⟨0, ?_⟩ rfl)) (by simpa using hs)
  simp
theorem r_mulL {a : Addr} {v : Value} {x : Int} {u : Tok} (H : W β h₀ h l) (ha : Has h a (ListO [v])) (hx : -1000 < x ∧ x < 1000) (k : ∀ c h' t', W β h₀ h' ((c, ListO (List.replicate x.toNat v)) :: l) → Q (.ref c) (S s h' t')) :
    wpAny β.M A (binaryOp .Mult (.ref a) (.int x u)) Q E (S s h t) := by
  obtain ⟨⟨o, e, n1, rfl⟩, _⟩ := ha
  have hz := sizeLine_eq
  refine wpAny_binaryOp_repeat_ref (T := "list") (U := "int") (by decide) ⟨_, e, rfl⟩ (fun s' => typeIs_int s' x u) noFill_list_mul F.fills_int_mul F.slot_int_rmul repeat_list F.slot_int_index.lookup
    (call_meets F.slot_int_rmul (typeIs_int _ x u) F.entry_int_rmul (F.args_int_rmul_2 _ _) (int___rmul___int_list x u a [v].toArray n1)
      ⟨e, rfl, ⟨_, e, rfl⟩, call_meets F.slot_list_mul ⟨_, e, rfl⟩ F.entry_list_mul (F.args_list_mul_2 _ _)
        (AutoListH.list___mul___list_int_3 a [v].toArray n1 x u (by simp [Builtin.List.listFitsIndex]; omega) (by simp; omega) (by simp [Builtin.List.listTooLong, sizeLine]; omega))
        ⟨e, k _ _ _ (H.push _ ⟨0, ?_⟩ rfl)⟩⟩)
  congr 2
  apply Array.toList_inj.mp
  have : ∀ (m : Nat) (acc : Array Value), (List.foldl (fun x1 x2 => x1 ++ x2) acc (List.replicate m #[v])).toList = acc.toList ++ List.replicate m v := by
    intro m
    induction m with
    | zero => intro acc; simp
    | succ m ih => intro acc; rw [List.replicate_succ, List.foldl_cons, ih, List.replicate_succ]; simp
  simpa using this x.toNat #[]
theorem r_revM {pos : Pos} {D : Addr} {vs : List Value} (H : W β h₀ h l) (U : Upd l D (ListO vs) (ListO vs.reverse) l') (hs : vs.length ≤ sizeLine) (k : ∀ h' t', W β h₀ h' l' → Q .none (S s h' t')) :
    wpAny β.M A (callWith pos (.builtin "list.reverse") [.ref D] (backTo pos (starEach [] env)) []) Q E (S s h t) := by
  obtain ⟨o, e, n1, rfl⟩ := H.get U.mem
  refine P.reverse_list (items := vs.toArray) e (k _ _ (H.upd U (Heap.SameBut.update ..) ⟨_, IsL.update (n := n1) e (fun x => x.reverse), ?_⟩)) (by simpa using hs)
  exact ⟨_, by simp; rfl⟩
theorem r_setItem {D : Addr} {vs : List Value} {i : Int} {u : Tok} {v : Value} {Q : Unit → Shared → Prop} (H : W β h₀ h l) (U : Upd l D (ListO vs) (ListO (vs.set i.toNat v)) l') (h0 : 0 ≤ i) (h1 : i < vs.length) (h2 : vs.length < 1000) (k : ∀ h' t', W β h₀ h' l' → Q () (S s h' t')) :
    wpAny β.M A (setItem (.ref D) (.int i u) v) Q E (S s h t) := by
  obtain ⟨o, e, n1, rfl⟩ := H.get U.mem
  refine ki_setAt (items := vs.toArray) (n := n1) e h0 (by omega) (by simpa using h1) (k _ _ (H.upd U (Heap.SameBut.update ..) ⟨_, IsL.update (n := n1) e (fun x => x.setIfInBounds i.toNat v), ?_⟩))
  exact ⟨_, by simp; rfl⟩
theorem r_assignS {o i : Expr} {pos' pos : Pos} {value : Expr} {Q : Flow → Shared → Prop} (hs : swapsWith value (some (.Subscript o i pos')) pos.line env = pure false)
    (k : wpAny β.M A (eval value env) (fun v s₁ => wpAny β.M A (eval o env) (fun ov s₂ => wpAny β.M A (eval i env) (fun iv s₃ => wpAny β.M A (setItem ov iv v) (fun _ s₄ => Q .next s₄) E s₃) E s₂) E s₁) E (S s h t)) :
    wpAny β.M A (exec (.Assign [.Subscript o i pos'] value pos) env) Q E (S s h t) := wpAny_Assign_Subscript k hs

-- reversed
noncomputable def RvO (lst : Addr) (i : Int) : OP := fun o => o.cls = .type "list_reverseiterator" ∧ o.data = .fields #[.ref lst, rawInt i]
theorem r_reversed {lst : Addr} {vs : List Value} (H : W β h₀ h l) (hl : Has h lst (ListO vs)) (k : ∀ a h' t', W β h₀ h' ((a, RvO lst ((vs.length : Int) - 1)) :: l) → Q (.ref a) (S s h' t')) : wpAny β.M A (call (.type "reversed") [.ref lst]) Q E (S s h t) :=
  call_reversed_list hl.isList (k _ _ _ (H.push _ ⟨rfl, by simp [revObj]⟩ rfl))
theorem r_iterRv {it lst : Addr} {i : Int} (hi : Has h it (RvO lst i)) (k : Q (.ref it) (S s h t)) : wpAny β.M A (pyIter (.ref it)) Q E (S s h t) :=
  let ⟨⟨o, e, p, q⟩, _⟩ := hi
  wpAny_pyIter_revIter (l := lst) (i := i) ⟨o, e, p, q⟩ k
theorem r_loopRv {target : Expr} {body : List Stmt} {it lst : Addr} {vs : List Value} {Q : Flow → Shared → Prop} (hA : AOk A n) (J : Nat → Led → Prop)
    (H : W β h₀ h ((it, RvO lst ((vs.length : Int) - 1)) :: l)) (j : J 0 l) (ht : ∀ v, letOwnedTupleGo target (.ref it) v = pure ())
    (hl : ∀ i l h, J i l → W β h₀ h ((it, RvO lst ((vs.length : Int) - 1 - (i : Nat))) :: l) → Has h lst (ListO vs))
    (turn : ∀ (i : Nat) v l h t (JJ : Led → Prop), (∀ l', J (i + 1) l' → JJ l') → i < vs.length → vs[vs.length - 1 - i]? = some v → J i l → W β h₀ h ((it, RvO lst ((vs.length : Int) - 1 - (i + 1 : Nat))) :: l) →
      wpAny β.M A (assign target env v) (fun _ s₂ => wpAny β.M A (execs body env) (LoopP β s h₀ it (RvO lst ((vs.length : Int) - 1 - (i + 1 : Nat))) JJ Q) NoE s₂) NoE (S s h t))
    (done : ∀ l h t, J vs.length l → W β h₀ h l → Q .next (S s h t)) :
    codeAny β.M A (.forLoop target (.ref it) body [] env) (fun r s' => match r with | .ok f => Q f s' | .error _ => False) (S s h t) := by
  refine codeAny_forLoop (fun m s' => ∃ i l h t, s' = S s h t ∧ m = vs.length - i ∧ i ≤ vs.length ∧ J i l ∧ W β h₀ h ((it, RvO lst ((vs.length : Int) - 1 - (i : Nat))) :: l)) ?_ vs.length ⟨0, l, h, t, rfl, rfl, Nat.zero_le _, j, by simpa using H⟩ ht
  rintro m s' ⟨i, l, h, t, rfl, rfl, hi, j, H⟩
  have hL := hl i l h j H
  obtain ⟨o, e, p, q⟩ := H.get (.head _)
  by_cases hlt : i < vs.length
  · have hv : vs[vs.length - 1 - i]? = some vs[vs.length - 1 - i] := List.getElem?_eq_getElem (by omega)
    have e1 : (vs.length : Int) - 1 - (i : Nat) = ((vs.length - 1 - i : Nat) : Int) := by omega
    rw [e1] at q
    refine wpAny_pyNext_rev_item (l := lst) (i := vs.length - 1 - i) ⟨o, e, p, q⟩ hL.isList (x := vs[vs.length - 1 - i]) (by simp [show vs.length - 1 - i < vs.length by omega]) fun h' hit' hsb => ?_
    have H' : W β h₀ h' ((it, RvO lst ((vs.length : Int) - 1 - (i + 1 : Nat))) :: l) := H.upd .head hsb (by
      obtain ⟨o, e, p, q⟩ := hit'
      have e2 : ((vs.length - 1 - i : Nat) : Int) - 1 = (vs.length : Int) - 1 - (i + 1 : Nat) := by omega
      rw [e2] at q
      exact ⟨o, e, p, q⟩)
    refine wpAny_mono (turn i _ l h' _ (J (i + 1)) (fun _ x => x) hlt hv j H') (fun _ s₂ h₂ => wpAny_mono h₂ (fun f s₃ h₃ => ?_) fun _ _ x => x.elim) fun _ _ x => x.elim
    cases f with
    | ret v => exact h₃
    | brk => exact h₃
    | next =>
      obtain ⟨h, t, l, rfl, H, j⟩ := h₃
      exact ⟨vs.length - (i + 1), by omega, i + 1, l, h, t, rfl, rfl, hlt, j, H⟩
    | cont =>
      obtain ⟨h, t, l, rfl, H, j⟩ := h₃
      exact ⟨vs.length - (i + 1), by omega, i + 1, l, h, t, rfl, rfl, hlt, j, H⟩
  · have : i = vs.length := by omega
    subst this
    have e2 : (vs.length : Int) - 1 - (vs.length : Nat) = -1 := by omega
    rw [e2] at q
    refine wpAny_pyNext_rev_end (l := lst) hA.handled ⟨o, e, p, q⟩ fun h' hx => ?_
    exact wpAny_execs_nil (done l h' _ j (H.del .head hx))
end
section
variable {β : Base} {A : Around} {s : Shared} {h₀ h h' : Heap} {t n : Nat} {l l' : Led} {env cenv : Env} {E : Value → Shared → Prop} {a : Addr} {P : OP} {Q : Value → Shared → Prop}

theorem cellsFrom_acc : ∀ (names : List (Str × NameKind)) (n : Nat) (acc : List (Str × Addr)), cellsFrom n names acc = cellsFrom n names [] ++ acc
  | [], _, _ => rfl
  | (x, k) :: r, n, acc => by
    unfold cellsFrom
    split
    · rw [cellsFrom_acc r (n + 1) ((x, n) :: acc), cellsFrom_acc r (n + 1) [(x, n)], List.append_assoc]; rfl
    · exact cellsFrom_acc r n acc
/-- the frame of a comprehension -/
theorem r_compEnv {scope : Scope} {g : Addr} {cl : List (Str × Addr)} {qual : Str} {Q : Env → Shared → Prop} (H : W β h₀ h l)
    (k : ∀ C h' t', W β h₀ h' ((C, NsO []) :: (((cellsFrom (C + 1) scope.names []).map fun p => (p.2, CellO none)) ++ l)) → Q (newEnv scope C g (cellsFrom (C + 1) scope.names cl) qual none .none (some env) builtinsNs) (S s h' t')) :
    wpAny β.M A (newFunctionEnv scope g cl [] qual none .none (some env)) Q E (S s h t) := by
  simp only [newFunctionEnv, Option.isSome_some, if_true]
  refine wpAny_bind (wpAny_alloc ?_)
  refine wpAny_bind (wpAny_layCells _ (fun name kind cells => by cases hkc : kind == NameKind.cell <;> simp [hkc]) _ _ _ _ ?_)
  have ok := cellsFrom_ok scope.names (h.push { cls := .type "dict", data := .dict #[] }) (h.objs.size + 1) [] ⟨fun _ _ hm => (nomatch hm), List.Pairwise.nil⟩ (by rw [Heap.size_push]; exact Nat.le_refl _)
  rw [Heap.size_push] at ok
  have H' := H.cells (cs := cellsFrom (h.objs.size + 1) scope.names []) (cm := fun _ => none) (bs := []) (m := fun _ => none) (fun b o e => pushCells_keeps scope.names (h.push { cls := .type "dict", data := .dict #[] }) b o (Heap.get?_push_of_some _ e))
    ((Heap.Ns.new h (.type "dict")).keeps (pushCells_keeps _ _)) (fun _ => rfl) (fun n c hm => (ok.empty n c hm).1) ok.apart (fun n c hm => (ok.empty n c hm).2)
  refine wpAny_bind (wpAny_pure (wpAny_pure ?_))
  have e : (h.push { cls := .type "dict", data := .dict #[] }).objs.size = h.objs.size + 1 := Heap.size_push ..
  have kk := k h.objs.size _ t H'
  rw [← e] at kk
  exact kk

/-- what a comprehension's loop leaves -/
noncomputable def CompP (β : Base) (s : Shared) (C D : Addr) (Q : Value → Shared → Prop) (r : Result) (s' : Shared) : Prop := match r with
  | .ok _ => ∃ h₀ h t l bs, s' = S s h t ∧ W β h₀ h ((C, NsO bs) :: l) ∧ ∀ h' t', W β h₀ h' l → Q (.ref D) (S s h' t')
  | .error _ => False
theorem CompP.mk {C D : Addr} {bs : List (Str × Value)} {f : Flow} (H : W β h₀ h ((C, NsO bs) :: l)) (k : ∀ h' t', W β h₀ h' l → Q (.ref D) (S s h' t')) : CompP β s C D Q (.ok f) (S s h t) := ⟨h₀, h, t, l, bs, rfl, H, k⟩

/-- an iterator that hands itself on -/
noncomputable def Self (P : OP) : Prop := ∀ (β : Base) (A : Around) (s : Shared) (h : Heap) (t : Nat) (I : Addr) (Q : Value → Shared → Prop) (E : Value → Shared → Prop), (∃ o, h.get? I = some o ∧ P o) → Q (.ref I) (S s h t) → wpAny β.M A (pyIter (.ref I)) Q E (S s h t)
theorem self_list (lst : Addr) (i : Nat) : Self (LItO lst i) := fun β A s h t I Q E ⟨o, e, p, q⟩ k => wpAny_pyIter_listiter (l := lst) (i := i) ⟨o, e, p, q⟩ k
theorem self_range (x m : Int) : Self (RItO x m) := fun β A s h t I Q E ⟨o, e, p⟩ k => wpAny_pyIter_rangeiter (p ▸ e) k

theorem r_comp {elt target iter : Expr} {ifs : List Expr} {rest : List Comprehension} {scope : Scope} {pos : Pos} {cl : List (Str × Addr)}
    (hs : ∀ x, foldedSetIterable iter env x = pure x) (hclos : closureFor scope env = pure cl) (hkind : scope.kind = .function) (hnames : ∀ x ∈ scope.names, x.2 = .local → scope.names.lookup x.1 = some .local)
    (k : wpAny β.M A (eval iter env) (fun x s₁ => wpAny β.M A (pyIter x) (fun it s₂ => ∃ h₀ h l t I P, it = .ref I ∧ s₂ = S s h t ∧ W β h₀ h ((I, P) :: l) ∧ Self P ∧
      ∀ D C h' t', W β h₀ h' ((C, NsO []) :: (((cellsFrom (C + 1) scope.names []).map fun p => (p.2, CellO none)) ++ (D, ListO []) :: (I, P) :: l)) →
        codeAny β.M A (.compLoop (.ListComp elt (⟨target, iter, ifs, 0⟩ :: rest) scope pos) 0 (.ref I) (.ref D) (compEnvC scope (cellsFrom (C + 1) scope.names cl) C env)) (CompP β s C D Q) (S s h' t')) E s₁) E (S s h t)) :
    wpAny β.M A (eval (.ListComp elt (⟨target, iter, ifs, 0⟩ :: rest) scope pos) env) Q E (S s h t) := by
  rw [eval_ListComp]
  refine wpAny_comprehension_free (use := none) rfl hs hclos hkind hnames (wpAny_mono k (fun x s₁ h₁ => wpAny_mono h₁ (fun it s₂ h₂ => ?_) fun _ _ x => x) fun _ _ x => x)
  obtain ⟨h₀, h, l, t, I, P, rfl, rfl, H, hP, k⟩ := h₂
  refine wpAny_newList ?_ (by exact Nat.zero_le _)
  have H₁ : W β h₀ (h.push { cls := .type "list", data := .seq ([] : List Value).toArray }) ((h.objs.size, ListO []) :: (I, P) :: l) := H.push _ ⟨0, rfl⟩ rfl
  refine r_compEnv (s := s) (t := t) H₁ fun C h' t' H' => ?_
  have hI : ∃ o, h'.get? I = some o ∧ P o := H'.get (.tail _ (List.mem_append_right _ (.tail _ (.head _))))
  have body := codeAny_mono (k _ C h' t' H') (R' := compPost β.M A E none Q (.ref h.objs.size) C) fun r s' hr => by
    cases r with
    | error e => exact hr.elim
    | ok f =>
      obtain ⟨h₀, h, t, l, bs, rfl, H, k⟩ := hr
      obtain ⟨o, e, es, ep, d, st, fd⟩ := H.get (.head _)
      exact ⟨fun x => bs.lookup x, ⟨o, es, ep, e, d, st, fd⟩, fun h' hs => k h' _ (H.del .head hs.extBut)⟩
  exact codeAny_compStart_list body (hP β A s h' t' I _ _ hI body)

/-- the loop of a comprehension with one clause, over any iterator -/
theorem cloop {elt target iter : Expr} {ifs : List Expr} {scope : Scope} {pos : Pos} {it acc : Value} {R : Result → Shared → Prop} (I : Nat → Shared → Prop)
    (turn : ∀ n s, I n s → wpAny β.M A (pyNext it) (fun r s₁ => match r with
      | none => R (.ok .next) s₁
      | some v => wpAny β.M A (letOwnedTupleGo target it v) (fun _ s₁ => wpAny β.M A (assign target cenv v) (fun _ s₂ =>
          wpAny β.M A (forIn ifs true fun c r => if r = true then do let ok ← isTrue c cenv (eval c cenv); pure (ForInStep.yield ok) else pure (ForInStep.yield r)) (fun ok s₃ =>
            if ok = true then wpAny β.M A (eval elt cenv) (fun x s₄ => wpAny β.M A (call (.builtin "list.append") [acc, x]) (fun _ s₅ => ∃ m, m < n ∧ I m s₅) NoE s₄) NoE s₃
            else ∃ m, m < n ∧ I m s₃) NoE s₂) NoE s₁) NoE s₁) NoE s)
    (n : Nat) (h : I n s) : codeAny β.M A (.compLoop (.ListComp elt [⟨target, iter, ifs, 0⟩] scope pos) 0 it acc cenv) R s := by
  refine codeAny_loop rfl I (fun n s hI => ?_) n h
  show wpAny _ A ((compTurn (.ListComp elt [⟨target, iter, ifs, 0⟩] scope pos) 0 it acc cenv).onRaise (fun x => do noteFrame x cenv; theTreesLotGoes x)) _ _ s
  refine wpAny_noted (wpAny_mono (E := NoE) ?_ (fun _ _ x => x) fun _ _ x => x.elim)
  rw [compTurn_list]
  refine wpAny_bind (wpAny_standAt (wpAny_bind (wpAny_mono (turn n s hI) (fun r s₁ h₁ => ?_) fun _ _ h' => h')))
  cases r with
  | none => exact wpAny_pure h₁
  | some v =>
    refine wpAny_bind (wpAny_mono h₁ (fun _ s₁ h₁ => ?_) fun _ _ h' => h')
    refine wpAny_bind (wpAny_mono h₁ (fun _ s₂ h₂ => wpAny_bind (wpAny_mono h₂ (fun ok s₃ h₃ => ?_) fun _ _ h' => h')) fun _ _ h' => h')
    cases ok with
    | false => exact wpAny_pure ⟨rfl, h₃⟩
    | true =>
      refine wpAny_bind (wpAny_bind (wpAny_mono h₃ (fun x s₄ h₄ => wpAny_bind (wpAny_mono h₄ (fun _ s₅ h₅ => ?_) fun _ _ h' => h')) fun _ _ h' => h'))
      first
        | exact wpAny_pure (wpAny_pure ⟨rfl, h₅⟩)
        | exact wpAny_pure ⟨rfl, h₅⟩
end
section
variable {β : Base} {A : Around} {s : Shared} {h₀ h h' : Heap} {t n : Nat} {l l' : Led} {env cenv : Env} {E : Value → Shared → Prop} {a : Addr} {P : OP} {Q : Value → Shared → Prop}
theorem r_neg {x : Int} {u : Tok} (k : ∀ t₁ t', Q (.int (-x) t₁) (S s h t')) : wpAny β.M A (unaryOp .USub (.int x u)) Q E (S s h t) := neg_int (k _ _)
theorem r_sliceL {value slice : Expr} {ls i : Addr} {vs : List Value} {vl vu vk : Value} {lo hi st : Option Int} {ops : List Value} (H : W β h₀ h ((i, SliceO vl vu vk) :: l)) (hl : Has h ls (ListO vs))
    (pl : IsPart vl lo) (pu : IsPart vu hi) (pk : IsPart vk st) (h0 : st ≠ some 0) (hn : vs.length < 1000)
    (hs : subscripted slice false (.ref ls) (.ref i) = operate ops (getItem (.ref ls) (.ref i)))
    (k : ∀ b h' t', W β h₀ h' ((b, ListO (slicePick vs.toArray lo hi st).toList) :: l) → Q (.ref b) (S s h' t')) : wpAny β.M A (subscriptTail value slice (.ref ls) (.ref i)) Q E (S s h t) := by
  have hz := sizeLine_eq
  obtain ⟨o, e, p, q⟩ := H.get (.head _)
  refine tail_any hl.isList.typeIs slot_list_getitem.lookup (wpAny_getItem_list_slice hl.isList ⟨o, e, p, q⟩ pl pu pk h0 (k _ _ _ ?_) (by simp; omega)) hs
  exact (H.sub (List.sublist_cons_self _ _)).push _ ⟨0, by simp⟩ rfl
theorem r_sum {ls : Addr} {vs : List Value} {ns : List Int} (hA : AOk A n) (H : W β h₀ h l) (hl : Has h ls (ListO vs)) (hi : IntsAre vs ns) (k : ∀ t₁ h' t', W β h₀ h' l → Q (.int ns.sum t₁) (S s h' t')) :
    wpAny β.M A (call (.builtin "sum") [.ref ls]) Q E (S s h t) := by
  obtain ⟨xs, hx⟩ := hi.allInts.items
  have hl' : h.IsList ls (intItems xs) := hx ▸ hl.isList
  refine sum_intListG hA.1 hl' fun h' tk t' hk => ?_
  have e1 : ns = xs.toList.map (·.1) := by
    rw [← nums_intItems, ← hx]
    exact (show numsOf vs.toArray.toList = ns from hi.numsOf).symm
  have e2 : preSum (numAt xs) xs.size = ns.sum := by
    rw [preSum_eq, List.take_of_length_le (by simp), e1]
  rw [e2]
  exact k _ _ _ (H.keeps hk)
end
section
variable {β : Base} {A : Around} {s : Shared} {h₀ h h' : Heap} {t n : Nat} {l l' : Led} {env cenv : Env} {E : Value → Shared → Prop} {a : Addr} {P : OP} {Q : Value → Shared → Prop}

/-- what one turn of a comprehension leaves: an item to append, or none -/
noncomputable def ItemP (β : Base) (s : Shared) (h₀ : Heap) (I D : Addr) (P : OP) (ys : List Value) (J : List Value → Led → Prop) (v : Value) (s' : Shared) : Prop :=
  ∃ h t l, s' = S s h t ∧ W β h₀ h ((I, P) :: (D, ListO ys) :: l) ∧ J (ys ++ [v]) l
noncomputable def SkipP (β : Base) (s : Shared) (h₀ : Heap) (I D : Addr) (P : OP) (ys : List Value) (J : List Value → Led → Prop) (s' : Shared) : Prop :=
  ∃ h t l, s' = S s h t ∧ W β h₀ h ((I, P) :: (D, ListO ys) :: l) ∧ J ys l
theorem ItemP.mk {I D : Addr} {ys : List Value} {J : List Value → Led → Prop} {v : Value} (H : W β h₀ h ((I, P) :: (D, ListO ys) :: l)) (j : J (ys ++ [v]) l) : ItemP β s h₀ I D P ys J v (S s h t) := ⟨h, t, l, rfl, H, j⟩
theorem SkipP.mk {I D : Addr} {ys : List Value} {J : List Value → Led → Prop} (H : W β h₀ h ((I, P) :: (D, ListO ys) :: l)) (j : J ys l) : SkipP β s h₀ I D P ys J (S s h t) := ⟨h, t, l, rfl, H, j⟩

noncomputable def TestsP (β : Base) (A : Around) (ifs : List Expr) (cenv : Env) (Q : Bool → Shared → Prop) (s' : Shared) : Prop :=
  wpAny β.M A (forIn ifs true fun c r => if r = true then do let ok ← isTrue c cenv (eval c cenv); pure (ForInStep.yield ok) else pure (ForInStep.yield r)) Q NoE s'
theorem TestsP.nil {Q : Bool → Shared → Prop} {s' : Shared} (k : Q true s') : TestsP β A [] cenv Q s' := wpAny_tests_nil k
theorem TestsP.one {c : Expr} {Q : Bool → Shared → Prop} {s' : Shared} (k : wpAny β.M A (isTrue c cenv (eval c cenv)) Q NoE s') : TestsP β A [c] cenv Q s' := wpAny_tests_one k

theorem r_cloopR {elt target iter : Expr} {ifs : List Expr} {scope : Scope} {pos : Pos} {I D : Addr} {x : Int} {N : Nat} {R : Result → Shared → Prop} (hA : AOk A n) (J : Nat → List Value → Led → Prop)
    (hN : N ≤ 1000) (H : W β h₀ h ((I, RItO x N) :: (D, ListO []) :: l)) (j : J 0 [] l) (ht : ∀ v, letOwnedTupleGo target (.ref I) v = pure ()) (hlen : ∀ i ys l, J i ys l → ys.length ≤ i)
    (turn : ∀ i ys l h t t₁, i < N → J i ys l → W β h₀ h ((I, RItO (x + (i + 1 : Nat)) (N - (i + 1) : Nat)) :: (D, ListO ys) :: l) →
      wpAny β.M A (assign target cenv (.int (x + i) t₁)) (fun _ s₂ => TestsP β A ifs cenv (fun ok s₃ =>
        if ok = true then wpAny β.M A (eval elt cenv) (ItemP β s h₀ I D (RItO (x + (i + 1 : Nat)) (N - (i + 1) : Nat)) ys (J (i + 1))) NoE s₃
        else SkipP β s h₀ I D (RItO (x + (i + 1 : Nat)) (N - (i + 1) : Nat)) ys (J (i + 1)) s₃) s₂) NoE (S s h t))
    (done : ∀ ys l h t, J N ys l → W β h₀ h ((D, ListO ys) :: l) → R (.ok .next) (S s h t)) :
    codeAny β.M A (.compLoop (.ListComp elt [⟨target, iter, ifs, 0⟩] scope pos) 0 (.ref I) (.ref D) cenv) R (S s h t) := by
  refine cloop (fun m s' => ∃ i ys l h t, s' = S s h t ∧ m = N - i ∧ i ≤ N ∧ J i ys l ∧ W β h₀ h ((I, RItO (x + i) (N - i : Nat)) :: (D, ListO ys) :: l)) ?_ N ⟨0, [], l, h, t, rfl, rfl, Nat.zero_le _, j, by simpa using H⟩
  rintro m s' ⟨i, ys, l, h, t, rfl, rfl, hi, j, H⟩
  obtain ⟨o, e, p⟩ := H.get (.head _)
  subst p
  have hz := sizeLine_eq
  have hy := hlen _ _ _ j
  by_cases hlt : i < N
  · refine wpAny_pyNext_range_item e (by (first | lia | omega)) fun h' hit hsb => ?_
    have H' : W β h₀ h' ((I, RItO (x + (i + 1 : Nat)) (N - (i + 1) : Nat)) :: (D, ListO ys) :: l) := H.upd .head hsb ⟨_, hit, by
      have e1 : x + (i : Int) + 1 = x + ((i + 1 : Nat) : Int) := by (first | lia | omega)
      have e2 : ((N - i : Nat) : Int) - 1 = ((N - (i + 1) : Nat) : Int) := by (first | lia | omega)
      rw [RItO, ← e1, ← e2]⟩
    show wpAny _ _ _ _ _ _
    rw [ht]
    refine wpAny_pure (wpAny_mono (turn i ys l h' _ _ hlt j H') (fun _ s₂ h₂ => wpAny_mono h₂ (fun ok s₃ h₃ => ?_) fun _ _ x => x) fun _ _ x => x)
    cases ok with
    | false =>
      obtain ⟨h, t, l, rfl, H, j⟩ := h₃
      exact ⟨N - (i + 1), by (first | lia | omega), i + 1, ys, l, h, t, rfl, rfl, hlt, j, H⟩
    | true =>
      refine wpAny_mono h₃ (fun v s₄ h₄ => ?_) fun _ _ x => x
      obtain ⟨h, t, l, rfl, H, j⟩ := h₄
      exact r_app H (.tail .head) (by (first | lia | omega)) fun h' t' H' => ⟨N - (i + 1), by (first | lia | omega), i + 1, _, l, h', t', rfl, rfl, hlt, j, H'⟩
  · have : i = N := by (first | lia | omega)
    subst this
    refine wpAny_pyNext_range_end hA.handled e (by (first | lia | omega)) fun h' hx => ?_
    exact done ys l h' _ j (H.del .head hx)

theorem r_cloopL {elt target iter : Expr} {ifs : List Expr} {scope : Scope} {pos : Pos} {I D lst : Addr} {vs : List Value} {R : Result → Shared → Prop} (hA : AOk A n) (J : Nat → List Value → Led → Prop)
    (hN : vs.length ≤ 1000) (H : W β h₀ h ((I, LItO lst 0) :: (D, ListO []) :: l)) (j : J 0 [] l) (hlen : ∀ i ys l, J i ys l → ys.length ≤ i)
    (ht : ∀ (h : Heap) (t i : Nat) (v : Value) (Q : Unit → Shared → Prop), v ∈ vs → h.IsListIter I lst i → Q () (S s h t) → wpAny β.M A (letOwnedTupleGo target (.ref I) v) Q NoE (S s h t))
    (hl : ∀ i ys l h, J i ys l → W β h₀ h ((I, LItO lst i) :: (D, ListO ys) :: l) → Has h lst (ListO vs))
    (turn : ∀ i v ys l h t, vs[i]? = some v → J i ys l → W β h₀ h ((I, LItO lst (i + 1)) :: (D, ListO ys) :: l) →
      wpAny β.M A (assign target cenv v) (fun _ s₂ => TestsP β A ifs cenv (fun ok s₃ =>
        if ok = true then wpAny β.M A (eval elt cenv) (ItemP β s h₀ I D (LItO lst (i + 1)) ys (J (i + 1))) NoE s₃
        else SkipP β s h₀ I D (LItO lst (i + 1)) ys (J (i + 1)) s₃) s₂) NoE (S s h t))
    (done : ∀ ys l h t, J vs.length ys l → W β h₀ h ((D, ListO ys) :: l) → R (.ok .next) (S s h t)) :
    codeAny β.M A (.compLoop (.ListComp elt [⟨target, iter, ifs, 0⟩] scope pos) 0 (.ref I) (.ref D) cenv) R (S s h t) := by
  refine cloop (fun m s' => ∃ i ys l h t, s' = S s h t ∧ m = vs.length - i ∧ i ≤ vs.length ∧ J i ys l ∧ W β h₀ h ((I, LItO lst i) :: (D, ListO ys) :: l)) ?_ vs.length ⟨0, [], l, h, t, rfl, rfl, Nat.zero_le _, j, H⟩
  rintro m s' ⟨i, ys, l, h, t, rfl, rfl, hi, j, H⟩
  have hL := hl i ys l h j H
  have hz := sizeLine_eq
  have hy := hlen _ _ _ j
  obtain ⟨o, e, p, q⟩ := H.get (.head _)
  have hit : h.IsListIter I lst i := ⟨o, e, p, q⟩
  by_cases hlt : i < vs.length
  · have hv : vs[i]? = some vs[i] := List.getElem?_eq_getElem hlt
    refine wpAny_pyNext_list_item hit hL.isList (x := vs[i]) (by simp [hlt]) fun h' hit' hsb => ?_
    have H' : W β h₀ h' ((I, LItO lst (i + 1)) :: (D, ListO ys) :: l) := H.upd .head hsb (let ⟨o, e, p, q⟩ := hit'; ⟨o, e, p, q⟩)
    show wpAny _ _ _ _ _ _
    refine ht h' _ (i + 1) _ _ (List.getElem_mem hlt) hit' ?_
    refine (wpAny_mono (turn i _ ys l h' _ hv j H') (fun _ s₂ h₂ => wpAny_mono h₂ (fun ok s₃ h₃ => ?_) fun _ _ x => x) fun _ _ x => x)
    cases ok with
    | false =>
      obtain ⟨h, t, l, rfl, H, j⟩ := h₃
      exact ⟨vs.length - (i + 1), by (first | lia | omega), i + 1, ys, l, h, t, rfl, rfl, hlt, j, H⟩
    | true =>
      refine wpAny_mono h₃ (fun v s₄ h₄ => ?_) fun _ _ x => x
      obtain ⟨h, t, l, rfl, H, j⟩ := h₄
      exact r_app H (.tail .head) (by (first | lia | omega)) fun h' t' H' => ⟨vs.length - (i + 1), by (first | lia | omega), i + 1, _, l, h', t', rfl, rfl, hlt, j, H'⟩
  · have : i = vs.length := by (first | lia | omega)
    subst this
    refine wpAny_pyNext_list_end hA.handled hit hL.isList (by simp) fun h' hx => ?_
    exact done ys l h' _ j (H.del .head hx)
theorem go_name {x : Str} {pos : Pos} {I lst : Addr} {vs : List Value} : ∀ (h : Heap) (t i : Nat) (v : Value) (Q : Unit → Shared → Prop), v ∈ vs → h.IsListIter I lst i → Q () (S s h t) → wpAny β.M A (letOwnedTupleGo (.Name x pos) (.ref I) v) Q NoE (S s h t) :=
  fun _ _ _ _ _ _ _ k => wpAny_pure k
theorem go_tup {elts : List Expr} {x1} {pos : Pos} {I lst : Addr} {vs : List Value} (hr : ∀ v ∈ vs, ∃ b, v = .ref b) : ∀ (h : Heap) (t i : Nat) (v : Value) (Q : Unit → Shared → Prop), v ∈ vs → h.IsListIter I lst i → Q () (S s h t) → wpAny β.M A (letOwnedTupleGo (.Tuple elts x1 pos) (.ref I) v) Q NoE (S s h t) :=
  fun _ _ _ v _ hv hi k => by
    obtain ⟨b, rfl⟩ := hr v hv
    exact wpAny_letOwnedTupleGo_listiter hi k
end
section
variable {β : Base} {A : Around} {s : Shared} {h₀ h h' : Heap} {t n : Nat} {l l' : Led} {env cenv : Env} {E : Value → Shared → Prop} {a : Addr} {P : OP} {Q : Value → Shared → Prop}

/-- what the loop of a comprehension leaves, where its list goes into a name at once -/
noncomputable def CompU (β : Base) (A : Around) (s : Shared) (C D : Addr) (use : Value → Sem Unit) (Q : Flow → Shared → Prop) (r : Result) (s' : Shared) : Prop := match r with
  | .ok _ => wpAny β.M A (use (.ref D)) (fun _ s'' => ∃ h₀ h t l bs, s'' = S s h t ∧ W β h₀ h ((C, NsO bs) :: l) ∧ ∀ h' t', W β h₀ h' l → Q .next (S s h' t')) NoE s'
  | .error _ => False
theorem CompU.mk {C D : Addr} {use : Value → Sem Unit} {Q : Flow → Shared → Prop} {f : Flow} {s' : Shared} (k : wpAny β.M A (use (.ref D)) (fun _ s'' => ∃ h₀ h t l bs, s'' = S s h t ∧ W β h₀ h ((C, NsO bs) :: l) ∧ ∀ h' t', W β h₀ h' l → Q .next (S s h' t')) NoE s') :
    CompU β A s C D use Q (.ok f) s' := k

theorem r_compU {y : Str} {py spos : Pos} {elt target iter : Expr} {ifs : List Expr} {rest : List Comprehension} {scope : Scope} {pos : Pos} {cl : List (Str × Addr)} {Q : Flow → Shared → Prop}
    (hsw : swapsWith (.ListComp elt (⟨target, iter, ifs, 0⟩ :: rest) scope pos) (some (.Name y py)) spos.line env = pure true)
    (hs : ∀ x, foldedSetIterable iter env x = pure x) (hclos : closureFor scope env = pure cl) (hkind : scope.kind = .function) (hnames : ∀ x ∈ scope.names, x.2 = .local → scope.names.lookup x.1 = some .local)
    (k : wpAny β.M A (eval iter env) (fun x s₁ => wpAny β.M A (pyIter x) (fun it s₂ => ∃ h₀ h l t I P, it = .ref I ∧ s₂ = S s h t ∧ W β h₀ h ((I, P) :: l) ∧ Self P ∧
      ∀ D C h' t', W β h₀ h' ((C, NsO []) :: (((cellsFrom (C + 1) scope.names []).map fun p => (p.2, CellO none)) ++ (D, ListO []) :: (I, P) :: l)) →
        codeAny β.M A (.compLoop (.ListComp elt (⟨target, iter, ifs, 0⟩ :: rest) scope pos) 0 (.ref I) (.ref D) (compEnvC scope (cellsFrom (C + 1) scope.names cl) C env)) (CompU β A s C D (assign (.Name y py) env) Q) (S s h' t')) NoE s₁) NoE (S s h t)) :
    wpAny β.M A (exec (.Assign [.Name y py] (.ListComp elt (⟨target, iter, ifs, 0⟩ :: rest) scope pos) spos) env) Q E (S s h t) := by
  rw [exec_Assign_Name_used _ _ _ _ hsw]
  refine wpAny_bind (wpAny_standAt (wpAny_bind ?_))
  show wpAny _ A (do let _ ← comprehension (.ListComp elt (⟨target, iter, ifs, 0⟩ :: rest) scope pos) scope env _ (newList []) false (eval iter env) (some (assign (.Name y py) env))) _ _ _
  refine wpAny_bind (wpAny_mono (E := NoE) (wpAny_comprehension_free (use := some (assign (.Name y py) env)) (Q := fun _ s' => Q .next s') rfl hs hclos hkind hnames
    (wpAny_mono k (fun xv s₁ h₁ => wpAny_mono h₁ (fun it s₂ h₂ => ?_) fun _ _ e => e) fun _ _ e => e)) (fun _ s' hq => wpAny_pure (wpAny_pure hq)) fun _ _ e => e.elim)
  obtain ⟨h₀, h, l, t, I, P, rfl, rfl, H, hP, k⟩ := h₂
  refine wpAny_newList ?_ (by exact Nat.zero_le _)
  have H₁ : W β h₀ (h.push { cls := .type "list", data := .seq ([] : List Value).toArray }) ((h.objs.size, ListO []) :: (I, P) :: l) := H.push _ ⟨0, rfl⟩ rfl
  refine r_compEnv (s := s) (t := t) H₁ fun C h' t' H' => ?_
  have hI : ∃ o, h'.get? I = some o ∧ P o := H'.get (.tail _ (List.mem_append_right _ (.tail _ (.head _))))
  have body := codeAny_mono (k _ C h' t' H') (R' := compPost β.M A NoE (some (assign (.Name y py) env)) (fun _ s' => Q .next s') (.ref h.objs.size) C) fun r s' hr => by
    cases r with
    | error e => exact hr.elim
    | ok f =>
      refine wpAny_mono hr (fun _ s'' hq => ?_) fun _ _ e => e
      obtain ⟨h₀, h, t, l, bs, rfl, H, k⟩ := hq
      obtain ⟨o, e, es, ep, d, st, fd⟩ := H.get (.head _)
      exact ⟨fun x => bs.lookup x, ⟨o, es, ep, e, d, st, fd⟩, fun h' hs => k h' _ (H.del .head hs.extBut)⟩
  exact codeAny_compStart_list body (hP β A s h' t' I _ _ hI body)

theorem compTurn_two (elt target iter : Expr) (x1 : Str) (p1 : Pos) (iter1 : Expr) (scope : Scope) (pos : Pos) (it acc : Value) (env : Env) :
    compTurn (.ListComp elt [⟨target, iter, [], 0⟩, ⟨.Name x1 p1, iter1, [], 0⟩] scope pos) 0 it acc env = (do
      standAt iter.pos
      match ← pyNext it with
      | none => pure (.done .next)
      | some v =>
        letOwnedTupleGo target it v
        assign target env v
        let x ← eval iter1 env
        standAt iter1.pos
        let x ← foldedSetIterable iter1 env x
        let _ ← runOwn (.compStart (.ListComp elt [⟨target, iter, [], 0⟩, ⟨.Name x1 p1, iter1, [], 0⟩] scope pos) 1 (← holding [x] (pyIter x)) acc env) env
        again (.compLoop (.ListComp elt [⟨target, iter, [], 0⟩, ⟨.Name x1 p1, iter1, [], 0⟩] scope pos) 0 it acc env)) := by rfl
theorem compTurn_inner (elt target iter : Expr) (x1 : Str) (p1 : Pos) (iter1 : Expr) (scope : Scope) (pos : Pos) (it acc : Value) (env : Env) :
    compTurn (.ListComp elt [⟨target, iter, [], 0⟩, ⟨.Name x1 p1, iter1, [], 0⟩] scope pos) 1 it acc env = (do
      standAt iter1.pos
      match ← pyNext it with
      | none => pure (.done .next)
      | some v =>
        letOwnedTupleGo (.Name x1 p1) it v
        assign (.Name x1 p1) env v
        (do let _ ← call (.builtin "list.append") [acc, ← eval elt env])
        again (.compLoop (.ListComp elt [⟨target, iter, [], 0⟩, ⟨.Name x1 p1, iter1, [], 0⟩] scope pos) 1 it acc env)) := by rfl

theorem cloop0 {elt iter : Expr} {x0 x1 : Str} {p0 p1 : Pos} {iter1 : Expr} {scope : Scope} {pos : Pos} {it acc : Value} {R : Result → Shared → Prop} (I : Nat → Shared → Prop)
    (hs : ∀ x, foldedSetIterable iter1 cenv x = pure x)
    (turn : ∀ n s (II : Shared → Prop), (∀ m s', m < n → I m s' → II s') → I n s → wpAny β.M A (pyNext it) (fun r s₁ => match r with
      | none => R (.ok .next) s₁
      | some v => wpAny β.M A (assign (.Name x0 p0) cenv v) (fun _ s₂ => wpAny β.M A (eval iter1 cenv) (fun x s₃ => wpAny β.M A (pyIter x) (fun it' s₄ =>
          codeAny β.M A (.compStart (.ListComp elt [⟨.Name x0 p0, iter, [], 0⟩, ⟨.Name x1 p1, iter1, [], 0⟩] scope pos) 1 it' acc cenv) (fun r s' => match r with | .ok _ => II s' | .error _ => False) s₄) NoE s₃) NoE s₂) NoE s₁) NoE s)
    (n : Nat) (h : I n s) : codeAny β.M A (.compLoop (.ListComp elt [⟨.Name x0 p0, iter, [], 0⟩, ⟨.Name x1 p1, iter1, [], 0⟩] scope pos) 0 it acc cenv) R s := by
  refine codeAny_loop rfl I (fun n s hI => ?_) n h
  show wpAny _ A ((compTurn (.ListComp elt [⟨.Name x0 p0, iter, [], 0⟩, ⟨.Name x1 p1, iter1, [], 0⟩] scope pos) 0 it acc cenv).onRaise (fun x => do noteFrame x cenv; theTreesLotGoes x)) _ _ s
  refine wpAny_noted (wpAny_mono (E := NoE) ?_ (fun _ _ x => x) fun _ _ x => x.elim)
  rw [compTurn_two]
  refine wpAny_bind (wpAny_standAt (wpAny_bind (wpAny_mono (turn n s (fun s' => ∃ m, m < n ∧ I m s') (fun m s' h1 h2 => ⟨m, h1, h2⟩) hI) (fun r s₁ h₁ => ?_) fun _ _ h' => h')))
  cases r with
  | none => exact wpAny_pure h₁
  | some v =>
    refine wpAny_bind (wpAny_pure ?_)
    refine wpAny_bind (wpAny_mono h₁ (fun _ s₂ h₂ => ?_) fun _ _ h' => h')
    refine wpAny_bind (wpAny_mono h₂ (fun x s₃ h₃ => ?_) fun _ _ h' => h')
    refine wpAny_bind (wpAny_standAt (wpAny_bind (wpAny_of_eq (hs x) ?_)))
    refine wpAny_bind (wpAny_holding (wpAny_mono h₃ (fun it' s₄ h₄ => ?_) fun _ _ h' => h'))
    refine wpAny_bind (wpAny_runOwn (codeAny_mono h₄ fun r s' hr => ?_))
    cases r with
    | error e => exact hr.elim
    | ok f => exact wpAny_pure ⟨rfl, hr⟩
theorem cloop1 {elt iter : Expr} {x0 x1 : Str} {p0 p1 : Pos} {iter1 : Expr} {scope : Scope} {pos : Pos} {it acc : Value} {R : Result → Shared → Prop} (I : Nat → Shared → Prop)
    (turn : ∀ n s (II : Shared → Prop), (∀ m s', m < n → I m s' → II s') → I n s → wpAny β.M A (pyNext it) (fun r s₁ => match r with
      | none => R (.ok .next) s₁
      | some v => wpAny β.M A (assign (.Name x1 p1) cenv v) (fun _ s₂ => wpAny β.M A (eval elt cenv) (fun x s₄ => wpAny β.M A (call (.builtin "list.append") [acc, x]) (fun _ s₅ => II s₅) NoE s₄) NoE s₂) NoE s₁) NoE s)
    (n : Nat) (h : I n s) : codeAny β.M A (.compLoop (.ListComp elt [⟨.Name x0 p0, iter, [], 0⟩, ⟨.Name x1 p1, iter1, [], 0⟩] scope pos) 1 it acc cenv) R s := by
  refine codeAny_loop rfl I (fun n s hI => ?_) n h
  show wpAny _ A ((compTurn (.ListComp elt [⟨.Name x0 p0, iter, [], 0⟩, ⟨.Name x1 p1, iter1, [], 0⟩] scope pos) 1 it acc cenv).onRaise (fun x => do noteFrame x cenv; theTreesLotGoes x)) _ _ s
  refine wpAny_noted (wpAny_mono (E := NoE) ?_ (fun _ _ x => x) fun _ _ x => x.elim)
  rw [compTurn_inner]
  refine wpAny_bind (wpAny_standAt (wpAny_bind (wpAny_mono (turn n s (fun s' => ∃ m, m < n ∧ I m s') (fun m s' h1 h2 => ⟨m, h1, h2⟩) hI) (fun r s₁ h₁ => ?_) fun _ _ h' => h')))
  cases r with
  | none => exact wpAny_pure h₁
  | some v =>
    refine wpAny_bind (wpAny_pure ?_)
    refine wpAny_bind (wpAny_mono h₁ (fun _ s₂ h₂ => ?_) fun _ _ h' => h')
    refine wpAny_bind (wpAny_bind (wpAny_mono h₂ (fun x s₄ h₄ => wpAny_bind (wpAny_mono h₄ (fun _ s₅ h₅ => ?_) fun _ _ h' => h')) fun _ _ h' => h'))
    first
      | exact wpAny_pure (wpAny_pure ⟨rfl, h₅⟩)
      | exact wpAny_pure ⟨rfl, h₅⟩
theorem cstart1 {elt iter : Expr} {x0 x1 : Str} {p0 p1 : Pos} {iter1 : Expr} {scope : Scope} {pos : Pos} {it acc : Value} {R : Result → Shared → Prop}
    (h0 : codeAny β.M A (.compLoop (.ListComp elt [⟨.Name x0 p0, iter, [], 0⟩, ⟨.Name x1 p1, iter1, [], 0⟩] scope pos) 1 it acc cenv) R s)
    (h : wpAny β.M A (pyIter it) (fun it' s' => codeAny β.M A (.compLoop (.ListComp elt [⟨.Name x0 p0, iter, [], 0⟩, ⟨.Name x1 p1, iter1, [], 0⟩] scope pos) 1 it' acc cenv) R s') NoE s) :
    codeAny β.M A (.compStart (.ListComp elt [⟨.Name x0 p0, iter, [], 0⟩, ⟨.Name x1 p1, iter1, [], 0⟩] scope pos) 1 it acc cenv) R s := by
  refine codeAny_of_tree ?_
  show wpAny _ _ ((compStart (.ListComp elt [⟨.Name x0 p0, iter, [], 0⟩, ⟨.Name x1 p1, iter1, [], 0⟩] scope pos) 1 it acc cenv).onRaise (fun x => do noteFrame x cenv; standAt theWindowsPlace)) _ _ s
  refine wpAny_notedAt (wpAny_mono (E := NoE) ?_ (fun _ _ x => x) fun _ _ x => x.elim)
  unfold compStart
  show wpAny _ _ (ask >>= _) _ _ s
  refine wpAny_bind (wpAny_askSetting (wpAny_ite ?_))
  split
  · first
      | exact wpAny_bind (wpAny_pure (wpAny_pure (And.intro rfl h0)))
      | exact wpAny_pure (And.intro rfl h0)
  · first
      | exact wpAny_bind (wpAny_rule (wpAny_bind (wpAny_standAt (wpAny_bind (wpAny_mono h (fun it' s' h' => wpAny_pure (And.intro rfl h')) fun _ _ x => x)))))
      | (refine wpAny_bind (wpAny_rule ?_); show wpAny _ _ (standAt iter1.pos >>= _) _ _ s; exact wpAny_bind (wpAny_standAt (wpAny_bind (wpAny_mono h (fun it' s' h' => wpAny_pure (And.intro rfl h')) fun _ _ x => x))))

-- signs of a text, one after the other
noncomputable def SItO (x : Str) (u : Tok) (i : Nat) : OP := fun o => o.cls = .type "str_ascii_iterator" ∧ o.data = .fields #[.str x u, .int i 0]
theorem r_iterS {x : Str} {u : Tok} (H : W β h₀ h l) (ha : x.cps.all (· < 128) = true) (k : ∀ i h' t', W β h₀ h' ((i, SItO x u 0) :: l) → Q (.ref i) (S s h' t')) : wpAny β.M A (pyIter (.str x u)) Q E (S s h t) :=
  wpAny_pyIter_ascii ha (k _ _ _ (H.push _ ⟨rfl, rfl⟩ rfl))
theorem r_concat {x y : Str} {u₁ u₂ : Tok} (hs : x.length + y.length ≤ sizeLine) (k : ∀ t₁ t', Q (.str (x ++ y) t₁) (S s h t')) : wpAny β.M A (binaryOp .Add (.str x u₁) (.str y u₂)) Q E (S s h t) :=
  PyProof.Rows.add_str (fun t' tk => k _ _) hs
theorem lookup_some (f : Str → Option Value) (n : Str) : ∀ L : List Str, List.lookup n (L.filterMap fun k => (f k).map fun v => (k, v)) = if n ∈ L then f n else none
  | [] => rfl
  | k :: r => by
    have ih := lookup_some f n r
    by_cases hk : n = k
    · subst hk
      cases hf : f n with
      | none =>
        rw [List.filterMap_cons_none (by rw [hf]; rfl), ih, hf, ite_self, ite_self]
      | some v => rw [List.filterMap_cons_some (b := (n, v)) (by rw [hf]; rfl), look_cons, if_pos rfl, if_pos (.head _)]
    · have e : (n ∈ k :: r) ↔ n ∈ r := by simp [hk]
      cases hf : f k with
      | none => rw [List.filterMap_cons_none (by rw [hf]; rfl), ih]; simp only [e]
      | some v => rw [List.filterMap_cons_some (b := (k, v)) (by rw [hf]; rfl), look_cons, if_neg hk, ih]; simp only [e]
theorem W.known {ks : List Str} {bs : List (Str × Value)} (H : W β h₀ h ((a, NsU ks bs) :: l)) : ∃ bs', W β h₀ h ((a, NsO bs') :: l) := by
  obtain ⟨o, e, es, ep, d, k, f⟩ := H.get (.head _)
  refine ⟨(ks ++ bs.map (·.1)).filterMap fun k => (nsFind es k).map fun v => (k, v), H.upd' .head (fun _ _ _ e => e) ⟨o, e, es, ep, d, k, fun n => ?_⟩⟩
  rw [lookup_some]
  split
  · rfl
  · rename_i hn
    rw [List.mem_append, not_or] at hn
    rw [f n (by rw [Bool.eq_false_iff]; exact fun q => hn.1 (List.contains_iff_mem.mp q)), lookup_out hn.2]
end
set_option hygiene false
set_option compiler.extract_closed false
local macro_rules | `(tactic| walk_at "om") => `(tactic| first | assumption | exact Nat.le_of_ble_eq_true rfl | exact Int.natCast_nonneg _ | exact it0 | exact len62 (by assumption) | exact len62' (by assumption) | exact len63 (by assumption) | exact sizeK (by assumption) | exact sizeK' (by assumption) | exact itS (by assumption) | exact t1000 (by assumption) | exact Nat.le_of_lt_succ (by assumption) | lia | omega)
local macro_rules | `(tactic| walk_at "c1") => `(tactic| (case n1 => exact rfl))
local macro_rules | `(tactic| walk_at "c2") => `(tactic| (walk_at "c1"; (case n2 => exact rfl)))
local macro_rules | `(tactic| walk_at "c3") => `(tactic| (walk_at "c2"; (case n3 => exact rfl)))
local macro_rules | `(tactic| walk_at "c4") => `(tactic| (walk_at "c3"; (case n4 => exact rfl)))
local macro_rules | `(tactic| walk_at "hi") => `(tactic| (clear H; intro _ _ H))
local macro_rules | `(tactic| walk_at "mem") => `(tactic| first | exact List.Mem.head _ | (refine' List.Mem.tail _ ?_; walk_at "mem"))
local macro_rules | `(tactic| walk_at "upd") => `(tactic| first | exact Upd.head | (refine' Upd.tail ?up; (case up => walk_at "upd")))
local macro_rules | `(tactic| walk_at "has") => `(tactic| first | exact W.has H (by walk_at "mem") | exact W.old H (by assumption) | assumption)
local macro_rules | `(tactic| walk_at "size") => `(tactic| first | exact Nat.le_of_ble_eq_true rfl | exact sizeK (by assumption) | ((have hz := sizeLine_eq); (try simp only [List.length_append, List.length_cons, List.length_nil]); omega))
local macro_rules | `(tactic| walk_at "len") => `(tactic| first | walk_at "om" | ((try simp only [List.length_append, List.length_cons, List.length_nil, List.length_map]); omega))
local macro_rules | `(tactic| walk_at "meth") => `(tactic| first
  | (with_reducible refine' r_meth F.plainAttrs_str F.slot_str_join F.type_str_join ?n1 ?n2 ?n3 ?_)
  | (with_reducible refine' r_meth F.plainAttrs_str F.slot_str_split F.type_str_split ?n1 ?n2 ?n3 ?_)
  | (with_reducible refine' r_meth F.plainAttrs_int F.slot_int_bit_length F.type_int_bit_length ?n1 ?n2 ?n3 ?_)
  | (with_reducible refine' r_meth F.plainAttrs_list F.slot_list_reverse F.type_list_reverse ?n1 ?n2 ?n3 ?_))
local macro_rules | `(tactic| walk_at "glob") => `(tactic| ((first | with_reducible refine' r_cwG ?f1 ?f2 ?n1 ?_ | with_reducible refine' r_cwGK ?f1 ?f2 ?n1 ?_); (case f1 => exact rfl); (case f2 => exact rfl)))
local macro_rules | `(tactic| walk_at "name") => `(tactic| first
  | ((with_reducible refine' r_local H ?n1 ?n2 ?n3 ?n4 ?n5 ?_); walk_at "c2"; (case n3 => walk_at "mem"); (case n4 => exact rfl); (case n5 => exact rfl))
  | ((with_reducible refine' r_localU H ?n1 ?n2 ?n3 ?n4 ?n5 ?n6 ?_); walk_at "c2"; (case n3 => walk_at "mem"); (case n4 => exact rfl); (case n5 => exact rfl); (case n6 => exact rfl))
  | ((with_reducible refine' r_cell H ?n1 ?n2 ?n3 ?n4 ?n5 ?_); walk_at "c3"; (case n4 => walk_at "mem"); (case n5 => exact rfl))
  | ((with_reducible refine' r_free ?n1 ?n2 ?n3 ?n4 ?n5 ?n6 ?_); (case n2 => exact rfl); (case n3 => exact rfl); (case n4 => exact rfl); (case n5 => exact rfl); (case n6 => exact rfl); (case n1 => walk_at "has"))
  | ((with_reducible refine' r_glob H ?n1 ?n2 ?n3 ?n4 ?n5 ?_); (case n4 => with_reducible first | exact gl_div2n1n | exact gl_int2digits | exact gl_digits2int | exact gl_divmod_pos | exact gl_int_divmod | exact gl_bisect_left | exact gl_replace | exact gl_split_list | exact gl_law_rows | exact gl_law_leading | exact gl_law_counts | exact gl_law_halved | exact gl_law_walked | exact gl_law_parted | exact gl_DIV); walk_at "c3"; (case n5 => exact rfl))
  | ((with_reducible refine' r_built H ?n1 ?n2 ?n3 ?n4 ?n5 ?n6 ?n7 ?n8 ?_); (case n5 => with_reducible first | exact gl_len | exact gl_range | exact gl_sum | exact gl_divmod | exact gl_list | exact gl_reversed); (case n6 => with_reducible first | exact boot_len | exact boot_range | exact boot_sum | exact boot_divmod | exact boot_list | exact boot_reversed); walk_at "c4"; (case n7 => decide); (case n8 => exact rfl)))
local macro_rules | `(tactic| walk_at "st") => `(tactic| first
  | with_reducible (first | refine' r_cons ?_ | refine then_next ?_ | refine i_tt ?_ | refine i_ff ?_ | refine wpAny_execs_nil ?_ | refine then_ret ?_ | refine LoopP.ret ?_ | refine' wpAny_Return_some ?_ | refine' wpAny_If ?_ | refine' wpAny_BinOp ?_ | refine' wpAny_isTrue_BoolOp ?_ | refine' wpAny_allTrue_Or_cons ?_ | refine' wpAny_allTrue_Or_nil ?_ | refine' r_truth ?_ | refine Subscript_ ?_ | refine' r_Slice ?_ | refine evalPart_some_step ?_ | refine evalPart_none_step ?_ | refine' wpAny_Call_NameR ?_ | refine spliced_none ?_ | refine' r_eq ?_ | refine' r_ne ?_ | refine' r_lt ?_ | refine' r_le ?_ | refine' r_gt ?_ | refine' r_seq ?_ | refine' r_sne ?_ | refine meth_str ?_ | refine meth_int ?_ | refine UnrP.next ?_ | refine UnrP.ret ?_ | refine' r_while ?_ | refine' r_whileU ?_ | refine' r_none ?_ | refine' wpAny_IfExp ?_ | refine' wpAny_Call_Name_kw ?_ | refine GoG.mk H ?_ | refine' wpAny_assign_Name ?_ | refine' r_trueI ?_)
  | ((with_reducible (first | refine' r_int ?_ | refine' r_str ?_ | refine' r_add ?_ | refine' r_sub ?_ | refine' r_bits ?_ | refine' r_xor ?_)); intro _ _)
  | ((with_reducible refine' r_fdiv ?n1 ?n2 ?_); (case n1 => omega); (case n2 => exact PyProof.noPylong_small (by omega)); intro _ _)
  | ((with_reducible refine' r_mod ?n1 ?_); (case n1 => omega); intro _ _)
  | ((with_reducible refine' r_lenL ?n1 ?n2 ?_); (case n1 => walk_at "has"); (case n2 => walk_at "len"); intro _ _)
  | ((with_reducible refine' r_lenS ?n1 ?_); (case n1 => walk_at "om"); intro _ _)
  | ((with_reducible (first | refine' r_assign ?n1 ?_ | refine' wpAny_Compare1 ?_ ?n1 | refine' wpAny_isTrue_Compare1 ?_ ?n1 | refine' isTrue_plain ?_ ?n1 | refine spliced_more ?_ ?n1 | refine' r_is ?n1 ?_ | refine' r_assignS ?n1 ?_)); walk_at "c1")
  | ((with_reducible (first | refine' r_cwB0 ?n1 ?n2 ?_ | refine' r_cwB ?n1 ?n2 ?_ | refine' r_cwT ?n1 ?n2 ?_ | refine' r_expr ?n1 ?n2 ?_ | refine' r_cwB1 ?n1 ?n2 ?_ | refine' r_assignT ?n1 ?n2 ?_)); walk_at "c2")
  | ((with_reducible refine' r_store H ?n1 ?n2 ?n3 ?_); walk_at "c2"; (case n3 => walk_at "upd"); walk_at "hi")
  | ((with_reducible refine' r_store1 H ?n1 ?n2 ?n3 ?_); walk_at "c2"; (case n3 => walk_at "upd"); walk_at "hi")
  | ((with_reducible refine' r_storeU H ?n1 ?n2 ?n3 ?_); walk_at "c2"; (case n3 => walk_at "upd"); walk_at "hi")
  | ((with_reducible refine' r_storeC H ?n1 ?n2 ?n3 ?n4 ?_); walk_at "c3"; (case n4 => walk_at "upd"); walk_at "hi")
  | walk_at "name"
  | ((with_reducible refine ⟨_, _, _, _, rfl, H, ?n1, ?_⟩); (case n1 => walk_at "size"); clear H; intro _ _ _ H)
  | ((with_reducible refine ⟨_, _, _, _, rfl, H, ?_⟩); clear H; intro _ _ _ H)
  | ((with_reducible refine' r_tail_ss H ?n1 ?n2 ?n3 ?_); (case n1 => first | exact sizeK' (by assumption) | (have hz := sizeLine_eq; omega)); (case n2 => with_unfolding_all exact rfl); (case n3 => intro _; exact rfl); walk_at "hi")
  | ((with_reducible refine' r_tail_sn H ?n1 ?n2 ?n3 ?_); (case n1 => first | exact sizeK' (by assumption) | (have hz := sizeLine_eq; omega)); (case n2 => with_unfolding_all exact rfl); (case n3 => intro _; exact rfl); walk_at "hi")
  | ((with_reducible refine' r_tail_ns H ?n1 ?n2 ?n3 ?_); (case n1 => first | exact sizeK' (by assumption) | (have hz := sizeLine_eq; omega)); (case n2 => with_unfolding_all exact rfl); (case n3 => intro _; exact rfl); walk_at "hi")
  | ((with_reducible refine' r_list ?_))
  | ((with_reducible refine' r_tuple ?_))
  | ((with_reducible refine' r_appM ?n1 ?n2 ?n3 ?n4 ?_); walk_at "c4")
  | ((with_reducible refine' ⟨_, _, _, _, rfl, rfl, ?n1, ?_⟩); (case n1 => walk_at "has"))
  | ((with_reducible refine' r_app H ?n1 ?n2 ?_); (case n1 => walk_at "upd"); (case n2 => walk_at "size"); walk_at "hi")
  | ((walk_at "meth"); walk_at "c3")
  | ((with_reducible refine' meth_list ?n1 ?_); (case n1 => walk_at "has"))
  | ((with_reducible refine' r_item ?n1 ?n2 ?n3 ?n4 ?n5 ?_); (case n1 => walk_at "has"); (case n2 => walk_at "len"); (case n3 => walk_at "om"); (case n4 => exact rfl); (case n5 => with_unfolding_all exact rfl))
  | ((with_reducible refine' r_itemT ?n1 ?n2 ?n3 ?n4 ?n5 ?_); (case n1 => walk_at "has"); (case n2 => walk_at "len"); (case n3 => walk_at "om"); (case n4 => exact rfl); (case n5 => with_unfolding_all exact rfl))
  | ((with_reducible refine' r_trueT ?n1 ?n2 ?_); (case n1 => walk_at "has"); (case n2 => walk_at "len"); intro _)
  | ((with_reducible refine' r_trueL ?n1 ?n2 ?_); (case n1 => walk_at "has"); (case n2 => walk_at "len"); intro _)
  | ((walk_at "glob"); walk_at "c1")
  | ((with_reducible refine' r_unpack2 hA H ?n1 ?n2 ?_); (case n2 => exact rfl); (case n1 => walk_at "has"); walk_at "hi")
  | ((with_reducible refine' r_unpack3 hA H ?n1 ?n2 ?_); (case n2 => exact rfl); (case n1 => walk_at "has"); walk_at "hi")
  | ((with_reducible refine' r_range1 H ?_); clear H; intro _ _ _ H)
  | ((with_reducible refine' r_range2 H ?_); clear H; intro _ _ _ H))
open PySem.Builtin PySem.Builtin.Str in
/-- y stands somewhere in x -/
noncomputable def Occ (x y : Str) : Prop := ∃ i, i + y.length ≤ x.length ∧ subAt x y i = true
theorem join_length (y : Str) : ∀ ps : List Str, (Str.join y ps).length = (ps.map (·.length)).sum + (ps.length - 1) * y.length
  | [] => by simp [Str.join, Str.empty, Str.length]
  | [x] => by simp [Str.join]
  | x :: z :: r => by
    have ih := join_length y (z :: r)
    show (x ++ y ++ Str.join y (z :: r)).length = _
    rw [Str.length_append, Str.length_append, ih]
    simp only [List.map_cons, List.sum_cons, List.length_cons, Nat.add_sub_cancel]
    rw [Nat.succ_mul]
    omega
theorem join_mem (y : Str) (c : Nat) : ∀ ps : List Str, c ∈ (Str.join y ps).cps.toList → (∃ p ∈ ps, c ∈ p.cps.toList) ∨ c ∈ y.cps.toList
  | [], h => by simp [Str.join, Str.empty] at h
  | [x], h => .inl ⟨x, .head _, h⟩
  | x :: z :: r, h => by
    have h' : c ∈ (x ++ y ++ Str.join y (z :: r)).cps.toList := h
    simp only [Str.cps_append, Array.toList_append, List.mem_append] at h'
    rcases h' with (h' | h') | h'
    · exact .inl ⟨x, .head _, h'⟩
    · exact .inr h'
    · rcases join_mem y c (z :: r) h' with ⟨p, hp, hc⟩ | hc
      · exact .inl ⟨p, .tail _ hp, hc⟩
      · exact .inr hc
theorem mem_join (y : Str) (c : Nat) : ∀ ps : List Str, (∃ p ∈ ps, c ∈ p.cps.toList) → c ∈ (Str.join y ps).cps.toList
  | [], h => by obtain ⟨p, hp, _⟩ := h; cases hp
  | [x], h => by
    obtain ⟨p, hp, hc⟩ := h
    rw [List.mem_singleton.mp hp] at hc; exact hc
  | x :: z :: r, h => by
    obtain ⟨p, hp, hc⟩ := h
    show c ∈ (x ++ y ++ Str.join y (z :: r)).cps.toList
    simp only [Str.cps_append, Array.toList_append, List.mem_append]
    rcases List.mem_cons.mp hp with e | hp
    · subst e; exact .inl (.inl hc)
    · exact .inr (mem_join y c (z :: r) ⟨p, hp, hc⟩)
theorem sep_join (y : Str) (c : Nat) (hc : c ∈ y.cps.toList) (x z : Str) (r : List Str) : c ∈ (Str.join y (x :: z :: r)).cps.toList := by
  show c ∈ (x ++ y ++ Str.join y (z :: r)).cps.toList
  simp only [Str.cps_append, Array.toList_append, List.mem_append]
  exact .inl (.inr hc)

noncomputable def rep1 (x y : Str) : Str := Txt.join "#" (Txt.split x y)
theorem rep1_eq (x y : Str) : rep1 x y = Str.join "#" (Txt.split x y) := StrLaws.glued_eq_join _ _
theorem split_bounds (x y : Str) (hy : 0 < y.length) : ((Txt.split x y).map (·.length)).sum ≤ x.length ∧ (Txt.split x y).length ≤ x.length + 1 := by
  have h := join_length y (Txt.split x y)
  rw [StrLaws.join_split] at h
  have h2 : (Txt.split x y).length - 1 ≤ ((Txt.split x y).length - 1) * y.length := Nat.le_mul_of_pos_right _ hy
  omega
theorem rep1_len (x y : Str) (hy : 0 < y.length) : (rep1 x y).length ≤ 2 * x.length := by
  rw [rep1_eq, join_length]
  have h := split_bounds x y hy
  have e : (Str.ofString "#").length = 1 := by decide
  rw [e]
  omega
theorem joinOk_split (x y : Str) (hx : x.length < 1000) (hy : 0 < y.length) : JoinOk "#" (Txt.split x y) = true := by
  have h := split_bounds x y hy
  have e : (Str.ofString "#").length = 1 := by decide
  unfold JoinOk
  rw [StrLaws.joinTotal, e]
  have hz := sizeLine_eq
  simp [Builtin.Str.tooLong]
  omega
open PySem.Builtin PySem.Builtin.Str in
theorem rep1_free (x y : Str) (h : ¬ Occ x y) : rep1 x y = x := by
  have e : Txt.split x y = [x] := by
    unfold Txt.split
    split
    · rfl
    · rcases StrLaws.occ_head x y (x.length + 1) (by omega) with ⟨e, _⟩ | ⟨i, r, _, hi, _⟩
      · rw [e]; rfl
      · exact absurd ⟨i, hi.1, hi.2⟩ h
  rw [rep1_eq, e]; rfl
open PySem.Builtin PySem.Builtin.Str in
theorem rep1_hit (x y : Str) (h : Occ x y) (ha : ∀ c ∈ x.cps.toList, c < 256) : 35 ∈ (rep1 x y).cps.toList := by
  obtain ⟨j, h1, h2⟩ := h
  have hk : strKind y = 1 := by
    unfold Builtin.Str.strKind
    rw [if_pos]
    rw [StrLaws.subAt_eq] at h2
    have h3 : (x.cps.toList.drop j).take y.length = y.cps.toList := by simpa using h2
    rw [Array.all_eq_true']
    intro c hc
    have hc' : c ∈ y.cps.toList := by simpa using hc
    rw [← h3] at hc'
    have := ha c (List.mem_of_mem_drop (List.mem_of_mem_take hc'))
    simpa using this
  have hkx : ¬ strKind x < strKind y := by
    rw [hk]
    unfold Builtin.Str.strKind
    split
    · omega
    · split <;> omega
  rw [rep1_eq]
  unfold Txt.split
  rw [if_neg (by simp; omega)]
  rcases StrLaws.occ_head x y (x.length + 1) (by omega) with ⟨_, hn⟩ | ⟨i, r, e, hi, _⟩
  · exact absurd ⟨h1, h2⟩ (hn j)
  · rw [e, if_neg (by simp), StrLaws.partsBetween_eq]
    obtain ⟨p, q, e2⟩ := StrLaws.partsFrom_ne x y.length (i + y.length) r
    show 35 ∈ (Str.join "#" (strSub x 0 i :: StrLaws.partsFrom x y.length (i + y.length) r)).cps.toList
    rw [e2]
    exact sep_join _ _ (by decide) _ _ _
theorem rep1_keeps (x y : Str) (hx : 35 ∈ x.cps.toList) (hy : 35 ∉ y.cps.toList) : 35 ∈ (rep1 x y).cps.toList := by
  rw [rep1_eq]
  refine mem_join _ _ _ ?_
  have h : 35 ∈ (Str.join y (Txt.split x y)).cps.toList := by rw [StrLaws.join_split]; exact hx
  exact (join_mem y 35 _ h).resolve_right hy
abbrev B := List (Str × Value)
/-- the signs of x from the a-th up to the b-th -/
noncomputable def sub (x : Str) (a b : Nat) : Str := ⟨((x.cps.toList.drop a).take (b - a)).toArray⟩
theorem slice_sub (x : Str) {a b : Nat} (hab : a ≤ b) (hb : b ≤ x.length) : Txt.slice x (some (a : Int)) (some (b : Int)) = sub x a b := by
  unfold Txt.slice
  split
  · rename_i h
    rw [StrLaws.strSliceIndices_plain hab hb] at h
    simp at h
    have h0 : a = 0 := by omega
    have h1 : b = x.length := by omega
    subst h0 h1
    apply Str.ext'
    apply Array.toList_inj.mp
    simp [sub, Str.length, List.take_of_length_le]
  · rw [StrLaws.sliced_plain x hab hb]; rfl
noncomputable def hit (row one other : Str) (i : Nat) : Bool := sub row i (i + one.length) == one || sub row i (i + one.length) == other
noncomputable def walkedF (row one other : Str) : Int := match (List.range (row.length + 1 - one.length)).find? (hit row one other) with
  | some i => (one.length + i : Nat)
  | none => (row.length + 1 : Nat)
theorem find_range_none {p : Nat → Bool} {N : Nat} (h : ∀ i < N, p i = false) : (List.range N).find? p = none := by
  rw [List.find?_eq_none]; intro i hi; simp [h i (List.mem_range.mp hi)]
theorem find_range_some {p : Nat → Bool} {N i : Nat} (hi : i < N) (hp : p i = true) (h : ∀ j < i, p j = false) : (List.range N).find? p = some i := by
  rw [List.find?_range_eq_some]
  exact ⟨hp, List.mem_range.mpr hi, fun j hj => by simp [h j hj]⟩

set_option maxHeartbeats 1000000 in
theorem c_walked {β : Base} {A : Around} {s : Shared} {h₀ h : Heap} {t : Nat} {l : Led} {Q E : Value → Shared → Prop} {row one other : Str} {u₁ u₂ u₃ : Tok}
    (hA : AOk A 1) (H : W β h₀ h l) (h1 : row.length < 100) (h2 : one.length < 100) (h3 : other.length < 100)
    (k : ∀ t₁ h' t', W β h₀ h' l → Q (.int (walkedF row one other) t₁) (S s h' t')) :
    wpAny β.M A (call (.ref 112) [.str row u₁, .str one u₂, .str other u₃]) Q E (S s h t) := by
  refine r_call (R := IntR (walkedF row one other)) [("row", .str row u₁), ("one", .str one u₂), ("other", .str other u₃)] hA H rfl rfl rfl (.of_eq rfl) (by decide) (locs rfl) rfl rfl rfl ?_ ?_
  · clear H hA k
    intro A L h₁ t₁ hA H
    refine r_cons ?_
    refine r_forR (fun _ => rfl) ?_
    repeat (walk_at "st")
    refine r_iterR H (by walk_at "mem") (by walk_at "om") (by walk_at "om") ?_
    clear H
    intro it h₂ t₂ H
    refine r_loopR hA (fun i l => (∀ j < i, hit row one other j = false) ∧ ∃ r, l = [(r, RangeO one.length (row.length + 1) 1), (L, NsU ["k"] [("other", .str other u₃), ("one", .str one u₂), ("row", .str row u₁)])]) (H.unk (ks := ["k"]) (bs₀ := [("other", .str other u₃), ("one", .str one u₂), ("row", .str row u₁)]) (.tail (.tail .head)) rfl ⟨rfl, rfl, rfl, trivial⟩) ⟨(fun j hj => absurd hj (by walk_at "om")), _, rfl⟩ (fun _ => rfl) ?_ ?_
    · clear H
      rintro i l h₃ t₃ t₄ JJ hJ hi ⟨hn, r, rfl⟩ H
      refine wpAny_assign_Name (r_store1 H rfl rfl (.tail (.tail .head)) ?_)
      clear H
      intro h₄ t₄ H
      repeat (walk_at "st")
      have e1 : Txt.slice row (some ((one.length : Int) + i - one.length)) (some ((one.length : Int) + i)) = sub row i (i + one.length) := by
        have := slice_sub row (a := i) (b := i + one.length) (by walk_at "om") (by walk_at "om")
        rw [← this]
        congr 2 <;> omega
      have hN : i < row.length + 1 - one.length := by omega
      refine ite_split (fun hc => ?_) (fun hc => ?_)
      · repeat (walk_at "st")
        refine .int H ?_
        have hw : walkedF row one other = (one.length + i : Nat) := by
          unfold walkedF
          rw [find_range_some hN (by unfold hit; rw [← e1, hc]; rfl) hn]
        rw [hw]; omega
      · repeat (walk_at "st")
        refine ite_split (fun hd => ?_) (fun hd => ?_)
        · repeat (walk_at "st")
          refine .int H ?_
          have hw : walkedF row one other = (one.length + i : Nat) := by
            unfold walkedF
            rw [find_range_some hN (by unfold hit; rw [← e1, hc, hd]; rfl) hn]
          rw [hw]; omega
        · repeat (walk_at "st")
          refine .next (H.unk (ks := ["k"]) (bs₀ := [("other", .str other u₃), ("one", .str one u₂), ("row", .str row u₁)]) (.tail (.tail .head)) rfl ⟨rfl, rfl, rfl, trivial⟩) (hJ _ ⟨fun j hj => ?_, _, rfl⟩)
          by_cases hji : j = i
          · subst hji; unfold hit; rw [← e1, hc, hd]; rfl
          · exact hn j (by walk_at "om")
    · clear H
      rintro l h₃ t₃ ⟨hn, r, rfl⟩ H
      have hw : walkedF row one other = (row.length : Int) + 1 := by
        unfold walkedF
        rw [find_range_none fun j hj => hn j (by walk_at "om")]
        rfl
      repeat (walk_at "st")
      refine .int H ?_
      rw [hw]
  · rintro v h' t' l' H ⟨rfl, t₁, rfl⟩
    exact k _ _ _ H
/-- a predicate: what it tells of each of the items, whatever the heap has grown to -/
noncomputable def PredOk (β : Base) (n : Nat) (h : Heap) (f : Addr) (vs : List Value) (p : Value → Bool) : Prop :=
  ∀ v ∈ vs, ∀ (A : Around) (s : Shared) (h₀ h' : Heap) (t : Nat) (l : Led) (Q E : Value → Shared → Prop), AOk A n → W β h₀ h' l → Ext0 h h' →
    (∀ h'' t', W β h₀ h'' l → Q (.bool (p v)) (S s h'' t')) → wpAny β.M A (call (.ref f) [v]) Q E (S s h' t)
theorem filter_take_succ {α : Type} {vs : List α} {i : Nat} {v : α} (p : α → Bool) (hv : vs[i]? = some v) : (vs.take (i + 1)).filter p = (vs.take i).filter p ++ (if p v = true then [v] else []) := by
  rw [List.take_add_one, hv, List.filter_append]; simp [List.filter_cons]

set_option maxHeartbeats 1000000 in
theorem c_split {β : Base} {A : Around} {s : Shared} {h₀ h : Heap} {t n : Nat} {l : Led} {Q E : Value → Shared → Prop} {lst pf : Addr} {vs : List Value} {fo : Obj} {fd : FuncData} {p : Value → Bool}
    (hA : AOk A (n + 1)) (H : W β h₀ h l) (hl : Has h lst (ListO vs)) (hv : vs.length < 1000) (hf : Has h pf (IsO fo)) (hfd : fo.data = .func fd) (hp : PredOk β n h pf vs p)
    (k : ∀ a y m h' t', W β h₀ h' ((a, TupO [.ref y, .ref m]) :: (m, ListO (vs.filter fun v => !p v)) :: (y, ListO (vs.filter p)) :: l) → Q (.ref a) (S s h' t')) :
    wpAny β.M A (call (.ref 79) [.ref lst, .ref pf]) Q E (S s h t) := by
  refine r_call (R := fun v l' => ∃ a y m, v = .ref a ∧ l' = [(a, TupO [.ref y, .ref m]), (m, ListO (vs.filter fun v => !p v)), (y, ListO (vs.filter p))]) [("s", .ref lst), ("predicate", .ref pf)] hA H rfl rfl rfl (.of_eq rfl) (by decide) (locs rfl) rfl rfl rfl ?_ ?_
  · clear H hA k
    intro A L h₁ t₁ hA H
    repeat (walk_at "st")
    refine r_forR (fun _ => rfl) ?_
    repeat (walk_at "st")
    rename_i y _ _ _ _ m _ _ h₂ t₂
    refine r_iterL H (by walk_at "has") ?_
    clear H
    intro it h₃ t₃ H
    refine r_loopL hA (fun i l => l = [(m, ListO ((vs.take i).filter fun v => !p v)), (y, ListO ((vs.take i).filter p)), (L, NsU ["x"] [("no", .ref m), ("yes", .ref y), ("predicate", .ref pf), ("s", .ref lst)])]) (vs := vs) (H.unk (ks := ["x"]) (bs₀ := [("no", .ref m), ("yes", .ref y), ("predicate", .ref pf), ("s", .ref lst)]) (.tail (.tail (.tail .head))) rfl ⟨rfl, rfl, rfl, rfl, trivial⟩) rfl (fun _ => rfl) ?_ ?_ ?_
    · intro i l h _ H
      exact H.old hl
    · clear H
      rintro i v l h₄ t₄ JJ hJ hi rfl H
      have hm := List.mem_of_getElem? hi
      have hlen : ((vs.take i).filter p).length ≤ vs.length ∧ ((vs.take i).filter fun v => !p v).length ≤ vs.length :=
        ⟨Nat.le_trans (List.length_filter_le _ _) (List.length_take_le' _ _), Nat.le_trans (List.length_filter_le _ _) (List.length_take_le' _ _)⟩
      refine wpAny_assign_Name (r_store1 H rfl rfl (.tail (.tail (.tail .head))) ?_)
      clear H
      intro h₅ t₅ H
      repeat (walk_at "st")
      refine r_cwF hfd rfl ?_
      repeat (walk_at "st")
      refine ⟨(H.old hf).get, hp v hm _ _ _ _ _ _ _ _ hA H H.grow ?_⟩
      clear H
      intro h₆ t₆ H
      repeat (walk_at "st")
      refine ite_split (fun hc => ?_) (fun hc => ?_)
      · repeat (walk_at "st")
        refine .next (H.unk (ks := ["x"]) (bs₀ := [("no", .ref m), ("yes", .ref y), ("predicate", .ref pf), ("s", .ref lst)]) (.tail (.tail (.tail .head))) rfl ⟨rfl, rfl, rfl, rfl, trivial⟩) (hJ _ ?_)
        rw [filter_take_succ p hi, filter_take_succ _ hi]
        simp [hc]
      · repeat (walk_at "st")
        refine .next (H.unk (ks := ["x"]) (bs₀ := [("no", .ref m), ("yes", .ref y), ("predicate", .ref pf), ("s", .ref lst)]) (.tail (.tail (.tail .head))) rfl ⟨rfl, rfl, rfl, rfl, trivial⟩) (hJ _ ?_)
        rw [filter_take_succ p hi, filter_take_succ _ hi]
        simp [hc]
    · clear H
      rintro l h₄ t₄ rfl H
      rw [List.take_length] at H
      repeat (walk_at "st")
      refine .ret H ?_ ⟨_, y, m, rfl, rfl⟩
      exact .cons_cons _ (.cons_cons _ (.cons_cons _ (List.nil_sublist _)))
  · rintro v h' t' l' H ⟨a, y, m, rfl, rfl⟩
    exact k _ _ _ _ _ H
set_option maxHeartbeats 1000000 in
theorem c_replace {β : Base} {A : Around} {s : Shared} {h₀ h : Heap} {t : Nat} {l : Led} {Q E : Value → Shared → Prop} {x one other : Str} {u₁ u₂ u₃ u₄ u₅ : Tok}
    (hA : AOk A 1) (H : W β h₀ h l) (h1 : x.length < 100) (h2 : 0 < one.length) (h3 : 0 < other.length)
    (k : ∀ t₁ h' t', W β h₀ h' l → Q (.str (rep1 (rep1 x one) other) t₁) (S s h' t')) :
    wpAny β.M A (call (.ref 72) [.str x u₁, .str one u₂, .str "#" u₃, .str other u₄, .str "#" u₅]) Q E (S s h t) := by
  refine r_callV (R := fun v l' => l' = [] ∧ ∃ t, v = .str (rep1 (rep1 x one) other) t) [.str one u₂, .str "#" u₃, .str other u₄, .str "#" u₅] (fun v => [("text", .str x u₁), ("pairs", v)]) hA H rfl rfl rfl rfl (by walk_at "size") (by decide) (fun v => locs rfl) rfl rfl rfl ?_ ?_
  · clear H hA k
    intro A a L h₁ t₁ hA H
    repeat (walk_at "st")
    have hr : (Txt.join "#" (Txt.split x one)).length ≤ 2 * x.length := rep1_len x one h2
    refine i_of rfl ?_
    repeat (walk_at "st")
    refine r_split H (by omega) (by omega) ?_
    clear H
    intro a1 ps1 h t H hps
    repeat (walk_at "st")
    refine r_join (by walk_at "has") hps (joinOk_split _ _ (by omega) (by omega)) ?_
    intro _ _
    repeat (walk_at "st")
    refine r_tupFrom (c := 2) H (by walk_at "has") (by decide) (by exact Nat.le_of_ble_eq_true rfl) (by exact Nat.le_of_ble_eq_true rfl) (by with_unfolding_all exact rfl) ?_
    clear H
    intro b1 h t H
    repeat (walk_at "st")
    refine i_of rfl ?_
    repeat (walk_at "st")
    refine r_split H (by omega) (by omega) ?_
    clear H
    intro a2 ps2 h t H hps
    repeat (walk_at "st")
    refine r_join (by walk_at "has") hps (joinOk_split _ _ (by omega) (by omega)) ?_
    intro _ _
    repeat (walk_at "st")
    refine r_tupFrom (c := 2) H (by walk_at "has") (by decide) (by exact Nat.le_of_ble_eq_true rfl) (by exact Nat.le_of_ble_eq_true rfl) (by with_unfolding_all exact rfl) ?_
    clear H
    intro b2 h t H
    repeat (walk_at "st")
    refine i_not rfl ?_
    repeat (walk_at "st")
    exact .ret H (List.nil_sublist _) ⟨rfl, _, rfl⟩
  · rintro v h' t' l' H ⟨rfl, t, rfl⟩
    exact k _ _ _ H
/-- a key: what it tells of each count, whatever the heap has grown to -/
noncomputable def KeyOk (β : Base) (n : Nat) (h : Heap) (f : Addr) (N : Nat) (p : Nat → Bool) : Prop :=
  ∀ i < N, ∀ (u : Tok) (A : Around) (s : Shared) (h₀ h' : Heap) (t : Nat) (l : Led) (Q E : Value → Shared → Prop), AOk A n → W β h₀ h' l → Ext0 h h' →
    (∀ t₁ h'' t', W β h₀ h'' l → Q (.int (if p i then 1 else 0) t₁) (S s h'' t')) → wpAny β.M A (call (.ref f) [.int i u]) Q E (S s h' t)
/-- the least place from which p holds -/
noncomputable def First (N : Nat) (p : Nat → Bool) (r : Nat) : Prop := r ≤ N ∧ (∀ i < r, p i = false) ∧ ∀ i, r ≤ i → i < N → p i = true

set_option maxHeartbeats 1000000 in
theorem c_bisect {β : Base} {A : Around} {s : Shared} {h₀ h : Heap} {t n : Nat} {l : Led} {Q E : Value → Shared → Prop} {lst f : Addr} {vs : List Value} {N : Nat} {fo : Obj} {fd : FuncData} {p : Nat → Bool} {u : Tok}
    (hA : AOk A (n + 1)) (H : W β h₀ h l) (hl : Has h lst (ListO vs)) (hvs : IntsAre vs ((List.range N).map fun i : Nat => (i : Int))) (hN : N < 1000) (hf : Has h f (IsO fo)) (hfd : fo.data = .func fd) (hp : KeyOk β n h f N p)
    (mono : ∀ i j, i ≤ j → j < N → p i = true → p j = true)
    (k : ∀ r t₁ h' t', First N p r → W β h₀ h' l → Q (.int r t₁) (S s h' t')) :
    wpAny β.M A (call (.ref 65) [.ref lst, .int 1 u] [("key", .ref f)]) Q E (S s h t) := by
  have hlen : vs.length = N := by rw [hvs.length]; simp
  have hit : ∀ i < N, ∃ t, vs[i]? = some (.int i t) := fun i hi => hvs.get i i (by simp [hi])
  refine r_call (R := fun v l' => l' = [] ∧ ∃ r t, First N p r ∧ v = .int r t) [("a", .ref lst), ("x", .int 1 u), ("lo", .int 0 271), ("hi", .none), ("key", .ref f)] hA H rfl rfl rfl (kp_binds H.frag (fun _ => rfl)) (by decide) (locs rfl) rfl rfl rfl ?_ ?_
  · clear H hA k
    intro A L h₁ t₁ hA H
    repeat (walk_at "st")
    refine i_not rfl ?_
    repeat (walk_at "st")
    refine i_of rfl ?_
    repeat (walk_at "st")
    refine i_not rfl ?_
    refine r_cons (r_while ?_)
    rw [hlen] at H
    rename_i th hx tx
    refine r_whileJ N (fun i l => ∃ lo hi tl th, l = [(L, NsU ["mid"] [("lo", .int (lo : Nat) tl), ("hi", .int (hi : Nat) th), ("key", .ref f), ("x", .int 1 u), ("a", .ref lst)])] ∧ lo ≤ hi ∧ hi ≤ N ∧ hi - lo ≤ N - i ∧ (∀ j < lo, p j = false) ∧ (∀ j, hi ≤ j → j < N → p j = true))
      (H.unk (ks := ["mid"]) (bs₀ := ([("lo", .int (0 : Nat) 271), ("hi", .int (N : Nat) _), ("key", .ref f), ("x", .int 1 u), ("a", .ref lst)] : B)) .head rfl ⟨rfl, rfl, rfl, rfl, rfl, trivial⟩) ⟨0, N, 271, _, rfl, Nat.zero_le _, Nat.le_refl _, by omega, fun j hj => absurd hj (by walk_at "om"), fun j h1 h2 => absurd h2 (by walk_at "om")⟩ ?_
    clear H
    rintro i l h₂ t₂ JJ hJ ⟨lo, hi, tl, th, rfl, h1, h2, h3, h4, h5⟩ H
    · repeat (walk_at "st")
      refine ite_split (fun hc => ?_) (fun hc => ?_)
      · have hlt : lo < hi := by simpa using hc
        refine ⟨by omega, ?_⟩
        repeat (walk_at "st")
        rename_i tm htm
        obtain ⟨mid, hmid⟩ : ∃ mid : Nat, mid = (lo + hi) / 2 := ⟨_, rfl⟩
        have emid : ((lo : Int) + hi).fdiv 2 = (mid : Nat) := by
          rw [Int.fdiv_eq_ediv_of_nonneg _ (by walk_at "om")]; omega
        rw [emid] at H
        obtain ⟨tv, hv⟩ := hit mid (by walk_at "om")
        refine r_cwF hfd rfl ?_
        repeat (walk_at "st")
        refine r_item (i := (mid : Nat)) (v := .int mid tv) (by walk_at "has") (by walk_at "om") (by walk_at "om") (by simpa using hv) (by with_unfolding_all exact rfl) ?_
        repeat (walk_at "st")
        refine ⟨(H.old hf).get, hp mid (by walk_at "om") _ _ _ _ _ _ _ _ _ hA H H.grow ?_⟩
        clear H
        intro tk h₄ t₄ H
        repeat (walk_at "st")
        refine ite_split (fun hd => ?_) (fun hd => ?_)
        · have hpm : p mid = false := by
            cases q : p mid with
            | false => rfl
            | true => rw [q] at hd; simp at hd
          repeat (walk_at "st")
          refine .next (H.unk (ks := ["mid"]) (bs₀ := ([("lo", .int (mid + 1 : Nat) _), ("hi", .int (hi : Nat) th), ("key", .ref f), ("x", .int 1 u), ("a", .ref lst)] : B)) .head rfl ⟨rfl, rfl, rfl, rfl, rfl, trivial⟩) (hJ _ ⟨mid + 1, hi, _, th, rfl, by omega, h2, by omega, fun j hj => ?_, h5⟩)
          cases q : p j with
          | false => rfl
          | true => rw [mono j mid (by walk_at "om") (by walk_at "om") q] at hpm; cases hpm
        · have hpm : p mid = true := by
            cases q : p mid with
            | true => rfl
            | false => rw [q] at hd; simp at hd
          repeat (walk_at "st")
          refine .next (H.unk (ks := ["mid"]) (bs₀ := ([("lo", .int (lo : Nat) tl), ("hi", .int (mid : Nat) _), ("key", .ref f), ("x", .int 1 u), ("a", .ref lst)] : B)) .head rfl ⟨rfl, rfl, rfl, rfl, rfl, trivial⟩) (hJ _ ⟨lo, mid, tl, _, rfl, by omega, by omega, by omega, h4, fun j h6 h7 => mono mid j h6 h7 hpm⟩)
      · have hge : lo = hi := by
          have : ¬ ((lo : Int) < hi) := by simpa using hc
          omega
        repeat (walk_at "st")
        exact .ret H (List.nil_sublist _) ⟨rfl, lo, _, ⟨by omega, h4, by rw [hge]; exact h5⟩, rfl⟩
  · rintro v h' t' l' H ⟨rfl, r, t, hr, rfl⟩
    exact k _ _ _ _ hr H
/-- the signs ahead of the k-th tell an end -/
noncomputable def endsBy (row one other : Str) (k : Nat) : Bool := rep1 (rep1 (Txt.slice row none (some (k : Int))) one) other != Txt.slice row none (some (k : Int))
noncomputable def Plain (x : Str) : Prop := ∀ c ∈ x.cps.toList, c < 256 ∧ c ≠ 35

set_option maxHeartbeats 1000000 in
theorem c_halved0 {β : Base} {A : Around} {s : Shared} {h₀ h : Heap} {t : Nat} {l : Led} {Q E : Value → Shared → Prop} {row one other : Str} {u₁ u₂ u₃ : Tok}
    (hA : AOk A 4) (H : W β h₀ h l) (h1 : row.length < 100) (h2 : 0 < one.length) (h3 : 0 < other.length)
    (mono : ∀ i j, i ≤ j → j < row.length + 1 → endsBy row one other i = true → endsBy row one other j = true)
    (k : ∀ r t₁ h' t', First (row.length + 1) (endsBy row one other) r → W β h₀ h' l → Q (.int r t₁) (S s h' t')) :
    wpAny β.M A (call (.ref 105) [.str row u₁, .str one u₂, .str other u₃]) Q E (S s h t) := by
  refine r_callC (R := fun v l' => l' = [] ∧ ∃ r t, First (row.length + 1) (endsBy row one other) r ∧ v = .int r t) [("row", .str row u₁), ("one", .str one u₂), ("other", .str other u₃)] [] hA H rfl rfl rfl (.of_eq rfl) rfl (by decide) (fun _ => rfl) rfl rfl rfl ?_ ?_
  · clear H hA k
    intro A L h₁ t₁ hA H
    have H : W β h h₁ [(L, NsO []), (L + 1 + 1 + 1, CellO (some (.str other u₃))), (L + 1 + 1, CellO (some (.str one u₂))), (L + 1, CellO (some (.str row u₁)))] := H
    repeat (walk_at "st")
    have e : (row.length : Int) + 1 = ((row.length + 1 : Nat) : Int) := rfl
    rw [e] at H
    refine r_listR hA H (by walk_at "mem") (by walk_at "om") ?_
    clear H
    intro cnt vs h₂ t₂ H hvs
    repeat (walk_at "st")
    refine r_lambda (Pt := 100) (q := "_law_halved.<locals>.<lambda>") H (by kernel_rfl) (.tail _ (.tail _ (.head _))) rfl rfl rfl ?_
    clear H
    intro f c' ctv h₃ t₃ H hcr hc5
    repeat (walk_at "st")
    have hcR : Has h₃ (L + 1) (CellO (some (.str row u₁))) := by walk_at "has"
    have hcO : Has h₃ (L + 1 + 1) (CellO (some (.str one u₂))) := by walk_at "has"
    have hcT : Has h₃ (L + 1 + 1 + 1) (CellO (some (.str other u₃))) := by walk_at "has"
    have hf := H.has (.head _)
    refine c_bisect (n := 2) hA H (by walk_at "has") hvs (by walk_at "om") hf rfl ?_ mono ?_
    · clear H hA
      intro i hi u A s h₀ h₄ t l Q E hA H hx k
      refine r_callLam (R := IntR (if endsBy row one other i then 1 else 0)) [("k", .int i u)] hA H (hf.ext hx).get (codeRec_ext hcr fun o e => hx _ o e fun t => absurd (isTab_lt t) (Nat.not_lt.mpr hc5)) rfl (by decide) (locs rfl) rfl rfl rfl ?_ ?_
      · have hcR := hcR.ext hx
        have hcO := hcO.ext hx
        have hcT := hcT.ext hx
        clear H hA k hx
        intro A L h₅ t₅ hA H
        have hle : (Txt.slice row none (some (i : Int))).length < 100 := Nat.lt_of_le_of_lt (Txt.slice_le _ _ _) h1
        repeat (walk_at "st")
        refine c_replace (hA.mono (by walk_at "om")) H hle h2 h3 ?_
        clear H
        intro tr h₆ t₆ H
        repeat (walk_at "st")
        refine ite_split (fun hc => ?_) (fun hc => ?_)
        · repeat (walk_at "st")
          exact .int H (by rw [endsBy, hc]; rfl)
        · repeat (walk_at "st")
          exact .int H (by rw [endsBy, hc]; rfl)
      · rintro v h' t' l' H ⟨rfl, t, rfl⟩
        exact k _ _ _ H
    · clear H
      intro r t₁ h' t' hr H
      repeat (walk_at "st")
      exact .ret H (List.nil_sublist _) ⟨rfl, r, _, hr, rfl⟩
  · rintro v h' t' l' H ⟨rfl, r, t, hr, rfl⟩
    exact k _ _ _ _ hr H

theorem slice_upto (x : Str) {b : Nat} (hb : b ≤ x.length) : Txt.slice x none (some (b : Int)) = sub x 0 b := by
  rw [← slice_sub x (Nat.zero_le b) hb]
  have e : Builtin.Str.strSliceIndices none (some (b : Int)) 1 x.length = Builtin.Str.strSliceIndices (some ((0 : Nat) : Int)) (some (b : Int)) 1 x.length := by
    simp only [Builtin.Str.strSliceIndices, show ((1 : Int) > 0) = True from by simp, if_true]
    have : ¬ (((0 : Nat) : Int) < 0) := by omega
    simp only [this, if_false]
    have e1 : max (0 : Int) (min ((0 : Nat) : Int) (x.length : Int)) = 0 := by omega
    rw [e1]
  unfold Txt.slice
  rw [e]
theorem sub_toList (x : Str) (a b : Nat) : (sub x a b).cps.toList = (x.cps.toList.drop a).take (b - a) := rfl
theorem sub_len (x : Str) {a b : Nat} (hb : b ≤ x.length) : (sub x a b).length = b - a := by
  show ((x.cps.toList.drop a).take (b - a)).toArray.size = _
  simp [Str.length] at hb ⊢
  omega
theorem str_eq_iff (x y : Str) : (x == y) = (x.cps.toList == y.cps.toList) := (str_eq_lists x y).symm
theorem occ_sub (row w : Str) {k : Nat} (hk : k ≤ row.length) : Occ (sub row 0 k) w ↔ ∃ i, i + w.length ≤ k ∧ (sub row i (i + w.length) == w) = true := by
  unfold Occ
  have key : ∀ i, i + w.length ≤ k → (Builtin.Str.subAt (sub row 0 k) w i = true ↔ (sub row i (i + w.length) == w) = true) := by
    intro i hi
    rw [StrLaws.subAt_eq, str_eq_iff, sub_toList, sub_toList]
    have e : (((row.cps.toList.drop 0).take (k - 0)).drop i).take w.length = (row.cps.toList.drop i).take (i + w.length - i) := by
      rw [List.drop_zero, Nat.sub_zero, List.drop_take, List.take_take]
      congr 1
      omega
    rw [e]
  constructor
  · rintro ⟨i, h1, h2⟩
    rw [sub_len row hk, Nat.sub_zero] at h1
    exact ⟨i, h1, (key i h1).mp h2⟩
  · rintro ⟨i, h1, h2⟩
    exact ⟨i, by rw [sub_len row hk, Nat.sub_zero]; exact h1, (key i h1).mpr h2⟩
theorem sub_mem {x : Str} {a b c : Nat} (h : c ∈ (sub x a b).cps.toList) : c ∈ x.cps.toList := by
  rw [sub_toList] at h
  exact List.mem_of_mem_drop (List.mem_of_mem_take h)
theorem endsBy_iff {row one other : Str} (hr : Plain row) (ho : Plain one) (ht : Plain other) {k : Nat} (hk : k ≤ row.length) :
    endsBy row one other k = true ↔ (Occ (sub row 0 k) one ∨ Occ (sub row 0 k) other) := by
  unfold endsBy
  rw [slice_upto row hk]
  have hx : ∀ c ∈ (sub row 0 k).cps.toList, c < 256 := fun c hc => (hr c (sub_mem hc)).1
  have hn : 35 ∉ (sub row 0 k).cps.toList := fun hc => (hr 35 (sub_mem hc)).2 rfl
  have h35 : ∀ y : Str, 35 ∈ y.cps.toList → y ≠ sub row 0 k := fun y hy e => hn (e ▸ hy)
  rw [bne_iff_ne]
  constructor
  · intro h
    by_cases h1 : Occ (sub row 0 k) one
    · exact .inl h1
    · rw [rep1_free _ _ h1] at h
      by_cases h2 : Occ (sub row 0 k) other
      · exact .inr h2
      · exact absurd (rep1_free _ _ h2) h
  · intro h
    by_cases h1 : Occ (sub row 0 k) one
    · exact h35 _ (rep1_keeps _ _ (rep1_hit _ _ h1 hx) fun hc => (ht 35 hc).2 rfl)
    · rw [rep1_free _ _ h1]
      exact h35 _ (rep1_hit _ _ (h.resolve_left h1) hx)
theorem endsBy_hit {row one other : Str} (hr : Plain row) (ho : Plain one) (ht : Plain other) (hl : other.length = one.length) {k : Nat} (hk : k ≤ row.length) :
    endsBy row one other k = true ↔ ∃ i, i + one.length ≤ k ∧ hit row one other i = true := by
  rw [endsBy_iff hr ho ht hk, occ_sub row one hk, occ_sub row other hk, hl]
  unfold hit
  constructor
  · rintro (⟨i, h1, h2⟩ | ⟨i, h1, h2⟩)
    · exact ⟨i, h1, by rw [h2]; rfl⟩
    · exact ⟨i, h1, by rw [h2, Bool.or_true]⟩
  · rintro ⟨i, h1, h2⟩
    rcases Bool.or_eq_true_iff.mp h2 with h2 | h2
    · exact .inl ⟨i, h1, h2⟩
    · exact .inr ⟨i, h1, h2⟩
theorem endsBy_mono {row one other : Str} (hr : Plain row) (ho : Plain one) (ht : Plain other) (hl : other.length = one.length) :
    ∀ i j, i ≤ j → j < row.length + 1 → endsBy row one other i = true → endsBy row one other j = true := by
  intro i j hij hj h
  rw [endsBy_hit hr ho ht hl (by walk_at "om")] at h ⊢
  obtain ⟨m, h1, h2⟩ := h
  exact ⟨m, by omega, h2⟩
theorem first_walked {row one other : Str} (hr : Plain row) (ho : Plain one) (ht : Plain other) (hl : other.length = one.length) {r : Nat} (h : First (row.length + 1) (endsBy row one other) r) : (r : Int) = walkedF row one other := by
  obtain ⟨h1, h2, h3⟩ := h
  have hk : ∀ k ≤ row.length, endsBy row one other k = true ↔ ∃ i, i + one.length ≤ k ∧ hit row one other i = true := fun k hk => endsBy_hit hr ho ht hl hk
  unfold walkedF
  cases hf : (List.range (row.length + 1 - one.length)).find? (hit row one other) with
  | none =>
    have hn := List.find?_eq_none.mp hf
    have : r = row.length + 1 := by
      refine Nat.le_antisymm h1 (Nat.le_of_not_lt fun hlt => ?_)
      obtain ⟨i, hi, hh⟩ := (hk r (by walk_at "om")).mp (h3 r (Nat.le_refl _) hlt)
      exact hn i (List.mem_range.mpr (by walk_at "om")) hh
    rw [this]
  | some i =>
    rw [List.find?_range_eq_some] at hf
    obtain ⟨hh, hm, hlt⟩ := hf
    have hm := List.mem_range.mp hm
    have hN : one.length + i ≤ row.length := by omega
    have e1 : r ≤ one.length + i := by
      refine Nat.le_of_not_lt fun hq => ?_
      have := h2 (one.length + i) hq
      rw [(hk _ hN).mpr ⟨i, by omega, hh⟩] at this; cases this
    have e2 : one.length + i ≤ r := by
      refine Nat.le_of_not_lt fun hq => ?_
      obtain ⟨j, hj, hh'⟩ := (hk r (by walk_at "om")).mp (h3 r (Nat.le_refl _) (by walk_at "om"))
      have := hlt j (by walk_at "om")
      rw [hh'] at this; cases this
    have : r = one.length + i := by omega
    rw [this]
theorem c_halved {β : Base} {A : Around} {s : Shared} {h₀ h : Heap} {t : Nat} {l : Led} {Q E : Value → Shared → Prop} {row one other : Str} {u₁ u₂ u₃ : Tok}
    (hA : AOk A 4) (H : W β h₀ h l) (h1 : row.length < 100) (h2 : 0 < one.length) (hl : other.length = one.length) (hr : Plain row) (ho : Plain one) (ht : Plain other)
    (k : ∀ t₁ h' t', W β h₀ h' l → Q (.int (walkedF row one other) t₁) (S s h' t')) :
    wpAny β.M A (call (.ref 105) [.str row u₁, .str one u₂, .str other u₃]) Q E (S s h t) :=
  c_halved0 hA H h1 h2 (by walk_at "om") (endsBy_mono hr ho ht hl) fun r t₁ h' t' hf H => by rw [first_walked hr ho ht hl hf]; exact k _ _ _ H
/-- a game: a pair of a row and its end -/
noncomputable def GameOk (h : Heap) (gm : Value → Str × Int) (v : Value) : Prop := ∃ b t t', v = .ref b ∧ Has h b (TupO [.str (gm v).1 t, .int (gm v).2 t'])
theorem GameOk.ext {h h' : Heap} {gm : Value → Str × Int} {v : Value} (x : GameOk h gm v) (k : Ext0 h h') : GameOk h' gm v := let ⟨b, t, t', e, p⟩ := x; ⟨b, t, t', e, p.ext k⟩
noncomputable def byEnd (gm : Value → Str × Int) (tosses : Int) (v : Value) : Bool := decide ((gm v).2 ≤ tosses)
noncomputable def byWord (gm : Value → Str × Int) (word : Str) (v : Value) : Bool := Txt.slice (gm v).1 (some ((gm v).2 - word.length)) (some (gm v).2) == word

set_option maxHeartbeats 1000000 in
theorem c_parted {β : Base} {A : Around} {s : Shared} {h₀ h : Heap} {t : Nat} {l : Led} {Q E : Value → Shared → Prop} {lst : Addr} {vs : List Value} {gm : Value → Str × Int} {word : Str} {tosses : Int} {u₁ u₂ : Tok}
    (hA : AOk A 3) (H : W β h₀ h l) (hl : Has h lst (ListO vs)) (hv : vs.length < 1000) (hg : ∀ v ∈ vs, GameOk h gm v ∧ (gm v).1.length < 100) (hw : word.length < 100)
    (k : ∀ a f1 f2 f3 h' t', W β h₀ h' ((a, TupO [.ref f1, .ref f2, .ref f3]) :: (f2, ListO ((vs.filter (byEnd gm tosses)).filter fun v => !byWord gm word v)) :: (f1, ListO ((vs.filter (byEnd gm tosses)).filter (byWord gm word))) :: (f3, ListO (vs.filter fun v => !byEnd gm tosses v)) :: l) → Q (.ref a) (S s h' t')) :
    wpAny β.M A (call (.ref 119) [.ref lst, .str word u₁, .int tosses u₂]) Q E (S s h t) := by
  refine r_callC (R := fun v l' => ∃ a f1 f2 f3, v = .ref a ∧ l' = [(a, TupO [.ref f1, .ref f2, .ref f3]), (f2, ListO ((vs.filter (byEnd gm tosses)).filter fun v => !byWord gm word v)), (f1, ListO ((vs.filter (byEnd gm tosses)).filter (byWord gm word))), (f3, ListO (vs.filter fun v => !byEnd gm tosses v))])
    [("games", .ref lst), ("word", .str word u₁), ("tosses", .int tosses u₂)] [("games", .ref lst)] hA H rfl rfl rfl (.of_eq rfl) rfl (by decide) (fun n => by rw [look_cons]; rfl) rfl rfl rfl ?_ ?_
  · clear H hA k
    intro A L h₁ t₁ hA H
    have H₁ : W β h h₁ [(L, NsO [("games", .ref lst)]), (L + 1 + 1, CellO (some (.int tosses u₂))), (L + 1, CellO (some (.str word u₁)))] := H
    clear H
    have H := H₁
    clear H₁
    repeat (walk_at "st")
    refine r_lambda (Pt := 114) (q := "_law_parted.<locals>.<lambda>") H (by kernel_rfl) (.tail _ (.tail _ (.tail _ (.head _)))) rfl rfl rfl ?_
    clear H
    intro f c' ctv h₃ t₃ H hcr hc5
    repeat (walk_at "st")
    have hcT : Has h₃ (L + 1 + 1) (CellO (some (.int tosses u₂))) := by walk_at "has"
    have hf := H.has (.head _)
    have hg' : ∀ v ∈ vs, GameOk h₃ gm v := fun v hv => (hg v hv).1.ext H.grow
    refine c_split (n := 1) (p := byEnd gm tosses) hA H (by walk_at "has") hv hf rfl ?_ ?_
    · clear H hA
      intro v hv A s h₀ h₄ t l Q E hA H hx k
      obtain ⟨b, tr, te, rfl, hb⟩ := (hg' v hv).ext hx
      refine r_callLam (R := fun v' l' => l' = [] ∧ v' = .bool (byEnd gm tosses (.ref b))) [("game", .ref b)] hA H (hf.ext hx).get (codeRec_ext hcr fun o e => hx _ o e fun t => absurd (isTab_lt t) (Nat.not_lt.mpr hc5)) rfl (by decide) (locs rfl) rfl rfl rfl ?_ ?_
      · have hcT := hcT.ext hx
        clear H hA k hx
        intro A L h₅ t₅ hA H
        repeat (walk_at "st")
        exact .ret H (List.nil_sublist _) ⟨rfl, rfl⟩
      · rintro v h' t' l' H ⟨rfl, rfl⟩
        exact k _ _ H
    · clear H
      intro a y m h' t' H
      repeat (walk_at "st")
      refine r_lambda (Pt := 114) (q := "_law_parted.<locals>.<lambda>") H (by kernel_rfl) (.tail _ (.tail _ (.tail _ (.head _)))) rfl rfl rfl ?_
      clear H hf hcT hg' hcr hc5
      intro f₂ c₂ ctv₂ h₆ t₆ H hcr hc5
      repeat (walk_at "st")
      have hcW : Has h₆ (L + 1) (CellO (some (.str word u₁))) := by walk_at "has"
      have hf := H.has (.head _)
      have hg' : ∀ v ∈ vs.filter (byEnd gm tosses), GameOk h₆ gm v ∧ (gm v).1.length < 100 := fun v hv => ⟨(hg v (List.mem_filter.mp hv).1).1.ext H.grow, (hg v (List.mem_filter.mp hv).1).2⟩
      refine c_split (n := 1) (p := byWord gm word) hA H (by walk_at "has") (Nat.lt_of_le_of_lt (List.length_filter_le _ _) hv) hf rfl ?_ ?_
      · clear H hA
        intro v hv A s h₀ h₄ t l Q E hA H hx k
        obtain ⟨hgv, hlen⟩ := hg' v hv
        obtain ⟨b, tr, te, rfl, hb⟩ := hgv.ext hx
        refine r_callLam (R := fun v' l' => l' = [] ∧ v' = .bool (byWord gm word (.ref b))) [("game", .ref b)] hA H (hf.ext hx).get (codeRec_ext hcr fun o e => hx _ o e fun t => absurd (isTab_lt t) (Nat.not_lt.mpr hc5)) rfl (by decide) (locs rfl) rfl rfl rfl ?_ ?_
        · have hcW := hcW.ext hx
          clear H hA k hx
          intro A L h₅ t₅ hA H
          repeat (walk_at "st")
          exact .ret H (List.nil_sublist _) ⟨rfl, rfl⟩
        · rintro v h' t' l' H ⟨rfl, rfl⟩
          exact k _ _ H
      · clear H
        intro a₂ f1 f2 h' t' H
        repeat (walk_at "st")
        refine .ret H ?_ ⟨_, f1, f2, m, rfl, rfl⟩
        exact .cons_cons _ (.cons _ (.cons_cons _ (.cons_cons _ (.cons _ (.cons _ (.cons_cons _ (List.nil_sublist _)))))))
  · rintro v h' t' l' H ⟨a, f1, f2, f3, rfl, rfl⟩
    exact k _ _ _ _ _ _ H
set_option maxHeartbeats 1000000 in
theorem c_div {β : Base} {A : Around} {s : Shared} {h₀ h : Heap} {t : Nat} {l : Led} {Q E : Value → Shared → Prop} {a b n : Int} {u₁ u₂ u₃ : Tok}
    (hA : AOk A 1) (H : W β h₀ h l) (hb : 0 < b) (hp : Builtin.divisionGoesByPylong a b = false) (hs : (Builtin.Int.intBits a : Int) - n ≤ 4000)
    (k : ∀ tp t₁ t₂ h' t', W β h₀ h' ((tp, TupO [.int (a.fdiv b) t₁, .int (a.fmod b) t₂]) :: l) → Q (.ref tp) (S s h' t')) :
    wpAny β.M A (call (.ref 21) [.int a u₁, .int b u₂, .int n u₃]) Q E (S s h t) := by
  refine r_call (R := fun v l' => ∃ tp t₁ t₂, v = .ref tp ∧ l' = [(tp, TupO [.int (a.fdiv b) t₁, .int (a.fmod b) t₂])]) [("a", .int a u₁), ("b", .int b u₂), ("n", .int n u₃)] hA H rfl rfl rfl (.of_eq rfl) (by decide) (locs rfl) rfl rfl rfl ?_ ?_
  · clear H hA k
    intro A L h₁ t₁ hA H
    repeat (walk_at "st")
    refine i_of (by simpa using hs) ?_
    repeat (walk_at "st")
    refine r_divmod H (by (first | lia | omega)) hp ?_
    clear H
    intro tp t₁ t₂ h' t' H
    repeat (walk_at "st")
    exact .ret H (.cons_cons _ (List.nil_sublist _)) ⟨tp, t₁, t₂, rfl, rfl⟩
  · rintro v h' t' l' H ⟨tp, t₁, t₂, rfl, rfl⟩
    exact k _ _ _ _ _ H

theorem mid_facts {Lo Hi m N mid : Nat} (hLo : Lo + (m + 1) = Hi) (hm : 1 ≤ m) (hH : Hi ≤ N) (hN : N ≤ 10) (hmid : mid = (Lo + Hi) / 2) :
    Lo ≤ mid ∧ mid ≤ N ∧ Lo + (mid - Lo) = mid ∧ mid + (Hi - mid) = Hi ∧ 1 ≤ mid - Lo ∧ 1 ≤ Hi - mid ∧ mid - Lo < m + 1 ∧ Hi - mid < m + 1 ∧ mid - Lo ≤ m ∧ Hi - mid ≤ m ∧ mid - Lo ≤ 10 ∧ m + 1 - (mid - Lo) = Hi - mid ∧
      0 ≤ (mid : Int) - Lo ∧ (mid : Int) - Lo < 2 ^ 64 ∧ mid - Lo ≤ m + 1 ∧ m + 1 ≤ 10 ∧ Hi - mid + (mid - Lo) = m + 1 ∧ mid - Lo + (Hi - mid) = m + 1 := by
  obtain ⟨a, ha⟩ : ∃ a, mid = Lo + a := ⟨mid - Lo, by (first | lia | omega)⟩
  obtain ⟨b, hb⟩ : ∃ b, Hi = Lo + a + b := ⟨Hi - mid, by (first | lia | omega)⟩
  have h1 : 1 ≤ a ∧ 1 ≤ b := by (first | lia | omega)
  clear hmid
  subst ha hb
  have e1 : Lo + a - Lo = a := Nat.add_sub_cancel_left _ _
  have e2 : Lo + a + b - (Lo + a) = b := Nat.add_sub_cancel_left _ _
  have e3 : ((Lo + a : Nat) : Int) - (Lo : Int) = (a : Int) := by (first | lia | omega)
  rw [e1, e2, e3]
  have h2 : a + b = m + 1 := by (first | lia | omega)
  have h3 : a + b ≤ 10 := by (first | lia | omega)
  clear e1 e2 e3 hLo hm
  obtain ⟨h4, h5⟩ := h1
  rw [← h2]
  refine ⟨Nat.le_add_right _ _, by (first | lia | omega), rfl, rfl, h4, h5, by (first | lia | omega), by (first | lia | omega), by (first | lia | omega), by (first | lia | omega), by (first | lia | omega), Nat.add_sub_cancel_left _ _, by (first | lia | omega), by (first | lia | omega), by (first | lia | omega), h3, Nat.add_comm _ _, rfl⟩
/-- what digits to the base two to the n tell, the least first -/
noncomputable def valF (n : Nat) : List Int → Int
  | [] => 0
  | d :: r => d + 2 ^ n * valF n r
theorem valF_append (n : Nat) : ∀ xs ys : List Int, valF n (xs ++ ys) = valF n xs + 2 ^ (n * xs.length) * valF n ys
  | [], ys => by simp [valF]
  | d :: r, ys => by
    simp only [List.cons_append, valF, valF_append n r ys, List.length_cons]
    rw [Nat.mul_succ, Int.pow_add, Int.mul_add]
    rw [Int.mul_comm (2 ^ (n * r.length)) (2 ^ n), Int.mul_assoc]
    (first | lia | omega)
theorem valF_bound (n : Nat) : ∀ xs : List Int, (∀ d ∈ xs, 0 ≤ d ∧ d < 2 ^ n) → 0 ≤ valF n xs ∧ valF n xs < 2 ^ (n * xs.length)
  | [], _ => by simp [valF]
  | d :: r, h => by
    obtain ⟨h1, h2⟩ := valF_bound n r fun x hx => h x (.tail _ hx)
    obtain ⟨h3, h4⟩ := h d (.head _)
    have hp : (0 : Int) < 2 ^ n := Int.pow_pos (by decide)
    simp only [valF, List.length_cons, Nat.mul_succ]
    rw [Int.pow_add]
    have h5 : 2 ^ n * valF n r ≤ 2 ^ n * (2 ^ (n * r.length) - 1) := Int.mul_le_mul_of_nonneg_left (by walk_at "om") (by walk_at "om")
    have h6 : 0 ≤ 2 ^ n * valF n r := Int.mul_nonneg (by walk_at "om") h1
    rw [Int.mul_sub, Int.mul_one, Int.mul_comm (2 ^ n) (2 ^ (n * r.length))] at h5
    (first | lia | omega)
theorem take_split (ds : List Int) (Lo m k : Nat) (hk : k ≤ m) : (ds.drop Lo).take m = (ds.drop Lo).take k ++ (ds.drop (Lo + k)).take (m - k) := by
  rw [← List.drop_drop, ← List.drop_take]
  have e : (ds.drop Lo).take k = ((ds.drop Lo).take m).take k := by rw [List.take_take, Nat.min_eq_left hk]
  rw [e, List.take_append_drop]
theorem mid_eq (Lo Hi : Nat) : ((Lo : Int) + Hi).fdiv (2 ^ (1 : Int).toNat) = ((Lo + Hi) / 2 : Nat) := by
  rw [Int.fdiv_eq_ediv_of_nonneg _ (by decide)]; simp

set_option maxHeartbeats 2000000 in
theorem c_digits2int {β : Base} {A : Around} {s : Shared} {h₀ h : Heap} {t : Nat} {l : Led} {Q E : Value → Shared → Prop} {lst : Addr} {vs : List Value} {ds : List Int} {n : Nat} {u : Tok}
    (hA : AOk A 12) (H : W β h₀ h l) (hl : Has h lst (ListO vs)) (hvs : IntsAre vs ds) (hd : ∀ d ∈ ds, 0 ≤ d ∧ d < 2 ^ n) (h1 : 0 < ds.length) (h2 : ds.length ≤ 10) (hn : n ≤ 1000)
    (k : ∀ t₁ h' t', W β h₀ h' l → Q (.int (valF n ds) t₁) (S s h' t')) :
    wpAny β.M A (call (.ref 42) [.ref lst, .int n u]) Q E (S s h t) := by
  have hlen : vs.length = ds.length := hvs.length
  refine r_callC (R := IntR (valF n ds)) [("digits", .ref lst), ("n", .int n u)] [] hA H rfl rfl rfl (.of_eq rfl) rfl (by decide) (fun _ => rfl) rfl rfl rfl ?_ ?_
  · clear H hA k
    intro A L h₁ t₁ hA H
    have H₁ : W β h h₁ [(L, NsO []), (L + 1 + 1 + 1, CellO none), (L + 1 + 1, CellO (some (.int n u))), (L + 1, CellO (some (.ref lst)))] := H
    clear H
    have H := H₁
    clear H₁
    repeat (walk_at "st")
    refine r_nest (Pt := 37) (q := "_digits2int.<locals>.inner") H (by kernel_rfl) (.tail _ (.head _)) rfl rfl rfl rfl rfl ?_
    clear H
    intro f c' ctv doc h₃ t₃ H hcr hc5 hcn
    refine r_storeCS H rfl rfl rfl (.tail (.tail .head)) ?_
    clear H
    intro h₄ t₄ H hsb
    have hcr : h₄.CodeRec (.ref c') "_digits2int.<locals>.inner" := codeRec_ext hcr fun o e => (hsb.2 _ (hcn _ (.tail _ (.head _))).symm).trans e
    clear hsb hcn
    have hf := H.has (.head _)
    have hcI : Has h₄ (L + 1 + 1 + 1) (CellO (some (.ref f))) := by walk_at "has"
    have hcN : Has h₄ (L + 1 + 1) (CellO (some (.int n u))) := by walk_at "has"
    have hcD : Has h₄ (L + 1) (CellO (some (.ref lst))) := by walk_at "has"
    have hl₄ : Has h₄ lst (ListO vs) := H.old hl
    have key : ∀ m : Nat, ∀ (Lo Hi : Nat) (u₁ u₂ : Tok) (A : Around) (s : Shared) (h₀ h' : Heap) (t : Nat) (l : Led) (Q E : Value → Shared → Prop), 1 ≤ m → Lo + m = Hi → Hi ≤ ds.length → AOk A m → W β h₀ h' l → Ext0 h₄ h' →
        (∀ t₁ h'' t', W β h₀ h'' l → Q (.int (valF n ((ds.drop Lo).take m)) t₁) (S s h'' t')) → wpAny β.M A (call (.ref f) [.int Lo u₁, .int Hi u₂]) Q E (S s h' t) := by
      intro m
      induction m using Nat.strongRecOn with
      | ind m ih =>
        intro Lo Hi u₁ u₂ A s h₀ h' t l Q E hm hLo hHi hA H hx k
        obtain ⟨m, rfl⟩ : ∃ m', m = m' + 1 := ⟨m - 1, by (first | lia | omega)⟩
        refine r_callNest (R := IntR (valF n ((ds.drop Lo).take (m + 1)))) [("L", .int Lo u₁), ("R", .int Hi u₂)] hA H (hf.ext hx).get (codeRec_ext hcr fun o e => hx _ o e fun t => absurd (isTab_lt t) (Nat.not_lt.mpr hc5)) rfl (by decide) (locs rfl) rfl rfl rfl ?_ ?_
        · have hcI := hcI.ext hx
          have hcN := hcN.ext hx
          have hcD := hcD.ext hx
          have hl₄ := hl₄.ext hx
          clear H hA k
          intro A L h₅ t₅ hA H
          repeat (walk_at "st")
          refine ite_split (fun hc => ?_) (fun hc => ?_)
          · have hm0 : m = 0 := by
              have : (Lo : Int) + 1 = Hi := by simpa using hc
              (first | lia | omega)
            subst hm0
            repeat (walk_at "st")
            obtain ⟨tv, hv⟩ := hvs.get Lo ds[Lo] (by simp [show Lo < ds.length by (first | lia | omega)])
            refine r_item (i := (Lo : Nat)) (v := .int ds[Lo] tv) (by walk_at "has") (by walk_at "om") (by walk_at "om") (by simpa using hv) (by with_unfolding_all exact rfl) ?_
            repeat (walk_at "st")
            refine .int H ?_
            have e : (ds.drop Lo).take 1 = [ds[Lo]] := by rw [List.drop_eq_getElem_cons (by walk_at "om")]; rfl
            show ds[Lo] = valF n ((ds.drop Lo).take 1)
            rw [e]; simp [valF]
          · have hm0 : 1 ≤ m := by
              have : ¬ ((Lo : Int) + 1 = Hi) := by simpa using hc
              (first | lia | omega)
            obtain ⟨mid, hmid⟩ : ∃ mid : Nat, mid = (Lo + Hi) / 2 := ⟨_, rfl⟩
            have emid : ((Lo : Int) + Hi).fdiv (2 ^ (1 : Int).toNat) = (mid : Nat) := by rw [hmid]; exact mid_eq Lo Hi
            obtain ⟨m1, m2, m3, m4, m5, m6, m7, m8, m9, m10, m11, m12, m13, m14, m15, m16, m17, m18⟩ := mid_facts hLo hm0 hHi h2 hmid
            clear hmid
            repeat (walk_at "st")
            refine r_shr (by decide) ?_
            rw [emid]
            intro _ _
            repeat (walk_at "st")
            refine r_mul (.of_left (Nat.le_trans (intBits_lt (B := 64) (by walk_at "om") (by walk_at "om")) (Nat.le_refl _))) ?_
            intro _ _
            repeat (walk_at "st")
            refine r_cwH hf rfl rfl ?_
            repeat (walk_at "st")
            refine ⟨(H.old (hf.ext hx)).get, ih (Hi - mid) (by walk_at "om") mid Hi _ _ _ _ _ _ _ _ _ _ (by walk_at "om") (by walk_at "om") hHi (hA.mono (by walk_at "om")) H (hx.trans H.grow) ?_⟩
            clear H
            intro t₁ h₆ t₆ H
            repeat (walk_at "st")
            have eS : ((mid : Int) - Lo) * n = (((mid - Lo) * n : Nat) : Int) := by push_cast; rw [Int.ofNat_sub (by walk_at "om")]
            have hK : (mid - Lo) * n ≤ 10 * 1000 := Nat.mul_le_mul (by walk_at "om") hn
            have hsub : ∀ d ∈ (ds.drop mid).take (Hi - mid), 0 ≤ d ∧ d < 2 ^ n := fun d hd' => hd d (List.mem_of_mem_drop (List.mem_of_mem_take hd'))
            obtain ⟨b1, b2⟩ := valF_bound n _ hsub
            have hB : n * ((ds.drop mid).take (Hi - mid)).length ≤ 1000 * 10 := Nat.mul_le_mul hn (by simp; (first | lia | omega))
            have hbits := intBits_lt b1 b2
            rw [eS] at H ⊢
            refine r_shl (by walk_at "om") (by walk_at "om") ?_
            intro _ _
            repeat (walk_at "st")
            refine r_cwH hf rfl rfl ?_
            repeat (walk_at "st")
            refine ⟨(H.old (hf.ext hx)).get, ih (mid - Lo) (by walk_at "om") Lo mid _ _ _ _ _ _ _ _ _ _ (by walk_at "om") (by walk_at "om") (by walk_at "om") (hA.mono (by walk_at "om")) H (hx.trans H.grow) ?_⟩
            clear H
            intro t₁ h₇ t₇ H
            repeat (walk_at "st")
            refine .int H ?_
            rw [take_split ds Lo (m + 1) (mid - Lo) (by walk_at "om"), valF_append]
            have e1 : Lo + (mid - Lo) = mid := m3
            have e2 : m + 1 - (mid - Lo) = Hi - mid := m12
            have e3 : ((ds.drop Lo).take (mid - Lo)).length = mid - Lo := by simp; (first | lia | omega)
            rw [e1, e2, e3, Int.toNat_natCast, Nat.mul_comm n (mid - Lo), Int.mul_comm, Int.add_comm]
        · rintro v h' t' l' H ⟨rfl, t, rfl⟩
          exact k _ _ _ H
    repeat (walk_at "st")
    refine i_of ?_ ?_
    · cases vs with
      | nil => simp at hlen; (first | lia | omega)
      | cons _ _ => rfl
    repeat (walk_at "st")
    refine r_cwH hf rfl rfl ?_
    repeat (walk_at "st")
    rw [hlen]
    refine ⟨hf.get, key ds.length 0 ds.length _ _ _ _ _ _ _ _ _ _ (by walk_at "om") (by walk_at "om") (Nat.le_refl _) (hA.mono (by walk_at "om")) H (.refl _) ?_⟩
    clear H
    intro t₁ h₅ t₅ H
    repeat (walk_at "st")
    refine .int H ?_
    simp
  · rintro v h' t' l' H ⟨rfl, t, rfl⟩
    exact k _ _ _ H
/-- the digits of a to the base two to the n, N of them, the least first -/
noncomputable def digF (n N a : Nat) : List Int := (List.range N).map fun j => ((a / 2 ^ (n * j) % 2 ^ n : Nat) : Int)
/-- the places from Lo on, m of them, hold x's digits, and no other place is changed -/
noncomputable def DigAt (n : Nat) (vs vs' : List Value) (x Lo m : Nat) : Prop :=
  vs'.length = vs.length ∧ ∀ j, (Lo ≤ j → j < Lo + m → ∃ t, vs'[j]? = some (.int ((x / 2 ^ (n * (j - Lo)) % 2 ^ n : Nat) : Int) t)) ∧ (j < Lo ∨ Lo + m ≤ j → vs'[j]? = vs[j]?)
theorem xor_low (x k : Nat) : Builtin.bitXor (x : Int) (((x / 2 ^ k * 2 ^ k : Nat) : Int)) = ((x % 2 ^ k : Nat) : Int) := by
  rw [bitXor_and]
  have h1 : x &&& (x / 2 ^ k * 2 ^ k) = x / 2 ^ k * 2 ^ k := by
    apply Nat.eq_of_testBit_eq
    intro i
    rw [Nat.testBit_and, Nat.mul_comm, Nat.testBit_two_pow_mul]
    by_cases hi : k ≤ i
    · simp [hi, Nat.testBit_div_two_pow]
    · simp [hi]
  have h2 : Builtin.bitAnd (x : Int) (((x / 2 ^ k * 2 ^ k : Nat) : Int)) = ((x / 2 ^ k * 2 ^ k : Nat) : Int) := by
    unfold Builtin.bitAnd
    simp only [Int.natCast_nonneg, decide_true, Int.toNat_natCast]
    rw [h1]
  rw [h2]
  have h3 := Nat.div_add_mod x (2 ^ k)
  rw [Nat.mul_comm] at h3
  (first | lia | omega)
theorem dig_low (x n k i : Nat) (hi : i < k) : x % 2 ^ (n * k) / 2 ^ (n * i) % 2 ^ n = x / 2 ^ (n * i) % 2 ^ n := by
  have e : n * k = n * i + n * (k - i) := by rw [← Nat.mul_add]; congr 1; (first | lia | omega)
  rw [e, Nat.pow_add, Nat.mod_mul_right_div_self, Nat.mod_mod_of_dvd]
  exact Nat.pow_dvd_pow 2 (Nat.le_mul_of_pos_right n (by walk_at "om"))
theorem dig_high (x n k i : Nat) : x / 2 ^ (n * k) / 2 ^ (n * i) = x / 2 ^ (n * (k + i)) := by
  rw [Nat.div_div_eq_div_mul, ← Nat.pow_add, ← Nat.mul_add]
theorem digAt_join {n : Nat} {vs vs₁ vs₂ : List Value} {x Lo k m : Nat} (h1 : DigAt n vs vs₁ (x % 2 ^ (n * k)) Lo k) (h2 : DigAt n vs₁ vs₂ (x / 2 ^ (n * k)) (Lo + k) m) : DigAt n vs vs₂ x Lo (k + m) := by
  refine ⟨h2.1.trans h1.1, fun j => ⟨fun a b => ?_, fun c => ?_⟩⟩
  · by_cases hj : j < Lo + k
    · rw [(h2.2 j).2 (.inl hj)]
      obtain ⟨t, ht⟩ := (h1.2 j).1 a hj
      exact ⟨t, by rw [ht, dig_low x n k (j - Lo) (by walk_at "om")]⟩
    · obtain ⟨t, ht⟩ := (h2.2 j).1 (by walk_at "om") (by walk_at "om")
      refine ⟨t, ?_⟩
      rw [ht, dig_high, show k + (j - (Lo + k)) = j - Lo by (first | lia | omega)]
  · rw [(h2.2 j).2 (by walk_at "om"), (h1.2 j).2 (by walk_at "om")]

theorem lt_intBits (a : Nat) : a < 2 ^ Builtin.Int.intBits (a : Int) := by
  unfold Builtin.Int.intBits
  split
  · rename_i h
    have : a = 0 := by simpa using h
    subst this; decide
  · exact Nat.lt_log2_self
theorem bits_digits {n N B : Nat} (h1 : 1 ≤ n) (hN : (B + n - 1) / n = N) : B ≤ n * N := by
  have := Nat.div_add_mod (B + n - 1) n
  have h2 := Nat.mod_lt (B + n - 1) (by (first | lia | omega) : 0 < n)
  rw [hN] at this
  (first | lia | omega)

set_option maxHeartbeats 2000000 in
theorem c_int2digits {β : Base} {A : Around} {s : Shared} {h₀ h : Heap} {t : Nat} {l : Led} {Q E : Value → Shared → Prop} {a n N : Nat} {u₁ u₂ : Tok}
    (hA : AOk A 12) (H : W β h₀ h l) (h1 : 1 ≤ n) (hn : n ≤ 1000) (hN : (Builtin.Int.intBits (a : Int) + n - 1) / n = N) (hN10 : N ≤ 10)
    (k : ∀ D vs h' t', W β h₀ h' ((D, ListO vs) :: l) → IntsAre vs (digF n N a) → Q (.ref D) (S s h' t')) :
    wpAny β.M A (call (.ref 35) [.int a u₁, .int n u₂]) Q E (S s h t) := by
  refine r_callC (R := fun v l' => ∃ D vs, v = .ref D ∧ l' = [(D, ListO vs)] ∧ IntsAre vs (digF n N a)) [("a", .int a u₁), ("n", .int n u₂)] [("a", .int a u₁)] hA H rfl rfl rfl (.of_eq rfl) rfl (by decide) (fun n => by rw [look_cons]; rfl) rfl rfl rfl ?_ ?_
  · clear H hA k
    intro A L h₁ t₁ hA H
    have H₁ : W β h h₁ [(L, NsO [("a", .int a u₁)]), (L + 1 + 1 + 1, CellO none), (L + 1 + 1, CellO none), (L + 1, CellO (some (.int n u₂)))] := H
    clear H
    have H := H₁
    clear H₁
    repeat (walk_at "st")
    have eN : ((Builtin.Int.intBits (a : Int) : Int) + n - 1).fdiv n = (N : Nat) := by
      rw [Int.fdiv_eq_ediv_of_nonneg _ (by walk_at "om"), ← hN]
      have : ((Builtin.Int.intBits (a : Int) : Int) + n - 1) = ((Builtin.Int.intBits (a : Int) + n - 1 : Nat) : Int) := by (first | lia | omega)
      rw [this]; simp
    rw [eN]
    refine r_mulL H (by walk_at "has") (by walk_at "om") ?_
    clear H
    intro D h₂ t₂ H
    rw [Int.toNat_natCast] at H
    repeat (walk_at "st")
    refine r_nest (Pt := 30) (q := "_int2digits.<locals>.inner") H (by kernel_rfl) (.head _) rfl rfl rfl rfl rfl ?_
    clear H
    intro f c' ctv doc h₃ t₃ H hcr hc5 hcn
    refine r_storeCS H rfl rfl rfl (.tail (.tail (.tail (.tail .head)))) ?_
    clear H
    intro h₄ t₄ H hsb
    have hcr : h₄.CodeRec (.ref c') "_int2digits.<locals>.inner" := codeRec_ext hcr fun o e => (hsb.2 _ (hcn _ (.tail _ (.tail _ (.tail _ (.head _))))).symm).trans e
    clear hsb
    have hcD' := hcn _ (.head _)
    have H := H.pick (.tail .head)
    have hf := H.hasHide (.head _)
    have hcI := H.hasHide (.tail _ (.tail _ (.tail _ (.head _))))
    have hcD := H.hasHide (.tail _ (.tail _ (.tail _ (.tail _ (.head _)))))
    have hcN := H.hasHide (.tail _ (.tail _ (.tail _ (.tail _ (.tail _ (.head _))))))
    have hcr : (h₄.hide D).CodeRec (.ref c') "_int2digits.<locals>.inner" := codeRec_ext hcr fun o e => hide_get e hcD'.symm
    have hgD : (h₄.hide D).get? D = none := hide_none _ _
    have hx₄ : Ext0 (h₄.hide D) h₄ := fun b o e _ => Heap.of_hide e
    generalize h₄.hide D = g at hf hcI hcD hcN hcr hgD hx₄
    have key : ∀ m : Nat, ∀ (x Lo Hi : Nat) (u₁ u₂ u₃ : Tok) (A : Around) (s : Shared) (h₀ h' : Heap) (t : Nat) (l : Led) (vs : List Value) (Q E : Value → Shared → Prop), 1 ≤ m → Lo + m = Hi → Hi ≤ vs.length → vs.length ≤ 10 → x < 2 ^ (n * m) → AOk A m →
        W β h₀ h' ((D, ListO vs) :: l) → Ext0 g h' →
        (∀ h'' t' vs', W β h₀ h'' ((D, ListO vs') :: l) → DigAt n vs vs' x Lo m → Q .none (S s h'' t')) → wpAny β.M A (call (.ref f) [.int x u₁, .int Lo u₂, .int Hi u₃]) Q E (S s h' t) := by
      intro m
      induction m using Nat.strongRecOn with
      | ind m ih =>
        intro x Lo Hi u₁ u₂ u₃ A s h₀ h' t l vs Q E hm hLo hHi hvs hxb hA H hx k
        obtain ⟨m, rfl⟩ : ∃ m', m = m' + 1 := ⟨m - 1, by (first | lia | omega)⟩
        refine r_callNestF (R := fun v P₁ => v = .none ∧ ∃ vs', P₁ = ListO vs' ∧ DigAt n vs vs' x Lo (m + 1)) [("x", .int x u₁), ("L", .int Lo u₂), ("R", .int Hi u₃)] hA H (hf.ext hx).get (codeRec_ext hcr fun o e => hx _ o e fun t => absurd (isTab_lt t) (Nat.not_lt.mpr hc5)) rfl (by decide) (locs rfl) rfl rfl rfl ?_ ?_
        · have hx := hx.hide hgD
          have hf := hf.ext hx
          have hcI := hcI.ext hx
          have hcN := hcN.ext hx
          have hcD := hcD.ext hx
          clear H hA k
          generalize h'.hide D = g' at hx hf hcI hcN hcD
          intro A L h₅ t₅ hA H
          repeat (walk_at "st")
          refine ite_split (fun hc => ?_) (fun hc => ?_)
          · have hm0 : m = 0 := by
              have : (Lo : Int) + 1 = Hi := by simpa using hc
              (first | lia | omega)
            subst hm0
            repeat (walk_at "st")
            refine r_setItem H (.tail .head) (by walk_at "om") (by walk_at "om") (by walk_at "om") ?_
            clear H
            intro h₆ t₆ H
            repeat (walk_at "st")
            refine wpAny_Return_none ?_
            repeat (walk_at "st")
            refine .ret H (.cons _ (.refl _)) ⟨_, rfl, rfl, _, rfl, by simp, fun j => ⟨fun a b => ⟨u₁, ?_⟩, fun c => ?_⟩⟩
            · have hj : j = Lo := by (first | lia | omega)
              subst hj
              have : x < 2 ^ n := by simpa using hxb
              simp [show j < vs.length by (first | lia | omega), Nat.mod_eq_of_lt this]
            · rw [Int.toNat_natCast, List.getElem?_set_ne (by walk_at "om")]
          · have hm0 : 1 ≤ m := by
              have : ¬ ((Lo : Int) + 1 = Hi) := by simpa using hc
              (first | lia | omega)
            obtain ⟨mid, hmid⟩ : ∃ mid : Nat, mid = (Lo + Hi) / 2 := ⟨_, rfl⟩
            have emid : ((Lo : Int) + Hi).fdiv (2 ^ (1 : Int).toNat) = (mid : Nat) := by rw [hmid]; exact mid_eq Lo Hi
            obtain ⟨m1, m2, m3, m4, m5, m6, m7, m8, m9, m10, m11, m12, m13, m14, m15, m16, m17, m18⟩ := mid_facts hLo hm0 hHi hvs hmid
            clear hmid
            repeat (walk_at "st")
            refine r_shr (by decide) ?_
            rw [emid]
            intro _ _
            repeat (walk_at "st")
            refine r_mul (.of_left (Nat.le_trans (intBits_lt (B := 64) (by walk_at "om") (by walk_at "om")) (Nat.le_refl _))) ?_
            have eS : ((mid : Int) - Lo) * n = ((n * (mid - Lo) : Nat) : Int) := by rw [Nat.mul_comm]; push_cast; rw [Int.ofNat_sub (by walk_at "om")]
            rw [eS]
            intro _ _
            repeat (walk_at "st")
            refine r_shr (by walk_at "om") ?_
            have eU : (x : Int).fdiv (2 ^ ((n * (mid - Lo) : Nat) : Int).toNat) = ((x / 2 ^ (n * (mid - Lo)) : Nat) : Int) := by
              rw [Int.fdiv_eq_ediv_of_nonneg _ (Int.le_of_lt (Int.pow_pos (by decide))), Int.toNat_natCast]
              push_cast; rfl
            rw [eU]
            intro _ _
            repeat (walk_at "st")
            have hK : n * (mid - Lo) ≤ 1000 * 10 := Nat.mul_le_mul hn (by walk_at "om")
            have hM : n * (m + 1) ≤ 1000 * 10 := Nat.mul_le_mul hn (by walk_at "om")
            have hU : x / 2 ^ (n * (mid - Lo)) ≤ x := Nat.div_le_self _ _
            have hbits := intBits_lt (x := ((x / 2 ^ (n * (mid - Lo)) : Nat) : Int)) (B := n * (m + 1)) (Int.natCast_nonneg _) (by
              have : x / 2 ^ (n * (mid - Lo)) < 2 ^ (n * (m + 1)) := by (first | lia | omega)
              exact_mod_cast this)
            refine r_shl (by walk_at "om") (by walk_at "om") ?_
            have eT : ((x / 2 ^ (n * (mid - Lo)) : Nat) : Int) * 2 ^ ((n * (mid - Lo) : Nat) : Int).toNat = ((x / 2 ^ (n * (mid - Lo)) * 2 ^ (n * (mid - Lo)) : Nat) : Int) := by
              rw [Int.toNat_natCast]; push_cast; rfl
            rw [eT]
            intro _ _
            refine r_xor ?_
            rw [xor_low]
            intro _ _
            repeat (walk_at "st")
            refine r_cwH hf rfl rfl ?_
            repeat (walk_at "st")
            refine ⟨(H.old hf).get, ih (mid - Lo) (by walk_at "om") _ Lo mid _ _ _ _ _ _ _ _ _ vs _ _ (by walk_at "om") (by walk_at "om") (by walk_at "om") hvs (Nat.mod_lt _ (Nat.pow_pos (by decide))) (hA.mono (by walk_at "om")) H.swap (hx.trans H.grow) ?_⟩
            clear H
            intro h₆ t₆ vs₁ H d1
            repeat (walk_at "st")
            refine r_cwH hf rfl rfl ?_
            repeat (walk_at "st")
            have hxu : x / 2 ^ (n * (mid - Lo)) < 2 ^ (n * (Hi - mid)) := by
              rw [Nat.div_lt_iff_lt_mul (Nat.pow_pos (by decide)), ← Nat.pow_add, ← Nat.mul_add]
              rw [m17]; exact hxb
            refine ⟨(H.old hf).get, ih (Hi - mid) (by walk_at "om") _ mid Hi _ _ _ _ _ _ _ _ _ vs₁ _ _ (by walk_at "om") (by walk_at "om") (by rw [d1.1]; exact hHi) (by rw [d1.1]; exact hvs) hxu (hA.mono (by walk_at "om")) H (hx.trans H.grow) ?_⟩
            clear H
            intro h₇ t₇ vs₂ H d2
            repeat (walk_at "st")
            refine .next H (.cons_cons _ (List.nil_sublist _)) ⟨_, rfl, rfl, vs₂, rfl, ?_⟩
            have := digAt_join (k := mid - Lo) (m := Hi - mid) d1 (by rw [m3]; exact d2)
            rw [m18] at this
            exact this
        · rintro v h' t' P₁ H ⟨rfl, vs', rfl, hd⟩
          exact k _ _ _ H hd
    repeat (walk_at "st")
    refine ite_split (fun hc => ?_) (fun hc => ?_)
    · have ha : a ≠ 0 := by simpa using hc
      have hB := bits_digits h1 hN
      have hlt : a < 2 ^ (n * N) := Nat.lt_of_lt_of_le (lt_intBits a) (Nat.pow_le_pow_right (by decide) hB)
      have hN1 : 1 ≤ N := by
        rcases Nat.eq_zero_or_pos N with e | e
        · subst e; simp at hlt; (first | lia | omega)
        · exact e
      repeat (walk_at "st")
      refine r_cwH hf rfl rfl ?_
      repeat (walk_at "st")
      refine r_lenL (by walk_at "has") (by simp; (first | lia | omega)) ?_
      rw [List.length_replicate]
      intro _ _
      repeat (walk_at "st")
      refine ⟨(hf.ext hx₄).get, key N a 0 N _ _ _ _ _ _ _ _ _ _ _ _ hN1 (by walk_at "om") (by simp) (by simp; (first | lia | omega)) hlt (hA.mono (by walk_at "om")) H hx₄ ?_⟩
      clear H
      intro h₅ t₅ vs H hd
      repeat (walk_at "st")
      refine .ret H (.cons_cons _ (List.nil_sublist _)) ⟨D, vs, rfl, rfl, ints_of ?_ fun j v hv => ?_⟩
      · rw [hd.1]; simp [digF]
      · have hj : j < N := by
          have := (List.getElem?_eq_some_iff.mp hv).1
          rw [hd.1] at this; simpa using this
        obtain ⟨t, ht⟩ := (hd.2 j).1 (Nat.zero_le _) (by walk_at "om")
        rw [hv] at ht
        cases ht
        exact ⟨_, t, by simp [digF, hj], rfl⟩
    · have ha : a = 0 := by simpa using hc
      subst ha
      have hN0 : N = 0 := by
        rw [← hN]
        have : Builtin.Int.intBits ((0 : Nat) : Int) = 0 := rfl
        rw [this]
        exact Nat.div_eq_of_lt (by walk_at "om")
      subst hN0
      repeat (walk_at "st")
      exact .ret H (.cons_cons _ (List.nil_sublist _)) ⟨D, _, rfl, rfl, .nil⟩
  · rintro v h' t' l' H ⟨D, vs, rfl, rfl, hv⟩
    exact k _ _ _ _ H hv
theorem digF_get (n a : Nat) {N j : Nat} (h : j < N) : (digF n N a)[j]? = some ((a / 2 ^ (n * j) % 2 ^ n : Nat) : Int) := by simp [digF, h]
theorem ints_snoc {vs : List Value} {ns : List Int} (h : IntsAre vs ns) (x : Int) (t : Tok) : IntsAre (vs ++ [.int x t]) (ns ++ [x]) := by
  induction h with
  | nil => exact .cons x t .nil
  | cons n t' _ ih => exact .cons n t' ih
theorem ints_rev {vs : List Value} {ns : List Int} (h : IntsAre vs ns) : IntsAre vs.reverse ns.reverse := by
  induction h with
  | nil => exact .nil
  | cons n t' _ ih => rw [List.reverse_cons, List.reverse_cons]; exact ints_snoc ih n t'
theorem div_step {a b n k : Nat} (hb : 0 < b) :
    a / 2 ^ (n * k) / b = (a / 2 ^ (n * (k + 1)) % b * 2 ^ n + a / 2 ^ (n * k) % 2 ^ n) / b + 2 ^ n * (a / 2 ^ (n * (k + 1)) / b) ∧
    a / 2 ^ (n * k) % b = (a / 2 ^ (n * (k + 1)) % b * 2 ^ n + a / 2 ^ (n * k) % 2 ^ n) % b := by
  have e1 : a / 2 ^ (n * (k + 1)) = a / 2 ^ (n * k) / 2 ^ n := by rw [Nat.div_div_eq_div_mul, ← Nat.pow_add]; rfl
  rw [e1]
  generalize a / 2 ^ (n * k) = X
  have h1 := Nat.div_add_mod X (2 ^ n)
  have h2 := Nat.div_add_mod (X / 2 ^ n) b
  have e2 : X = b * (2 ^ n * (X / 2 ^ n / b)) + (X / 2 ^ n % b * 2 ^ n + X % 2 ^ n) := by
    calc X = 2 ^ n * (X / 2 ^ n) + X % 2 ^ n := h1.symm
      _ = 2 ^ n * (b * (X / 2 ^ n / b) + X / 2 ^ n % b) + X % 2 ^ n := by rw [h2]
      _ = _ := by rw [Nat.mul_add, ← Nat.mul_assoc, Nat.mul_comm (2 ^ n) b, Nat.mul_assoc, Nat.mul_comm (2 ^ n) (X / 2 ^ n % b), Nat.add_assoc]
  constructor
  · conv => lhs; rw [e2]
    rw [Nat.mul_add_div hb, Nat.add_comm]
  · conv => lhs; rw [e2]
    rw [Nat.mul_add_mod]
theorem bits_pos {b : Nat} (hb : 0 < b) : 1 ≤ Builtin.Int.intBits (b : Int) := by
  have := lt_intBits b
  rcases Nat.eq_zero_or_pos (Builtin.Int.intBits (b : Int)) with e | e
  · rw [e] at this; simp at this; (first | lia | omega)
  · exact e
theorem noPylong_bits {x : Int} {b : Nat} (hb : Builtin.Int.intBits (b : Int) ≤ 1000) : Builtin.divisionGoesByPylong x (b : Int) = false := by
  refine PyProof.noPylong_of_log2 ?_
  unfold Builtin.Int.intBits at hb
  split at hb
  · rename_i h
    have : b = 0 := by simpa using h
    subst this; decide
  · simp at hb ⊢; (first | lia | omega)

set_option maxHeartbeats 2000000 in
theorem c_divmod_pos {β : Base} {A : Around} {s : Shared} {h₀ h : Heap} {t : Nat} {l : Led} {Q E : Value → Shared → Prop} {a b n N : Nat} {u₁ u₂ : Tok}
    (hA : AOk A 13) (H : W β h₀ h l) (ha : 0 < a) (hb : 0 < b) (hn : Builtin.Int.intBits (b : Int) = n) (hn2 : n ≤ 1000) (hN : (Builtin.Int.intBits (a : Int) + n - 1) / n = N) (hN10 : N ≤ 10)
    (k : ∀ tp t₁ t₂ h' t', W β h₀ h' ((tp, TupO [.int ((a / b : Nat) : Int) t₁, .int ((a % b : Nat) : Int) t₂]) :: l) → Q (.ref tp) (S s h' t')) :
    wpAny β.M A (call (.ref 49) [.int a u₁, .int b u₂]) Q E (S s h t) := by
  have h1 : 1 ≤ n := hn ▸ bits_pos hb
  have hbn : b < 2 ^ n := hn ▸ lt_intBits b
  have hNb := bits_digits h1 hN
  have haN : a < 2 ^ (n * N) := Nat.lt_of_lt_of_le (lt_intBits a) (Nat.pow_le_pow_right (by decide) hNb)
  have hN1 : 1 ≤ N := by
    rcases Nat.eq_zero_or_pos N with e | e
    · subst e; simp at haN; (first | lia | omega)
    · exact e
  refine r_call (R := fun v l' => ∃ tp t₁ t₂, v = .ref tp ∧ l' = [(tp, TupO [.int ((a / b : Nat) : Int) t₁, .int ((a % b : Nat) : Int) t₂])]) [("a", .int a u₁), ("b", .int b u₂)] hA H rfl rfl rfl (.of_eq rfl) (by decide) (locs rfl) rfl rfl rfl ?_ ?_
  · clear H hA k
    intro A L h₁ t₁ hA H
    repeat (walk_at "st")
    rw [hn] at H ⊢
    refine c_int2digits hA H h1 hn2 hN hN10 ?_
    clear H
    intro Ad vs h₂ t₂ H hvs
    have hlen : vs.length = N := by rw [hvs.length]; simp [digF]
    repeat (walk_at "st")
    refine r_forR (fun _ => rfl) ?_
    repeat (walk_at "st")
    refine r_reversed H (by walk_at "has") ?_
    clear H
    intro it h₃ t₃ H
    refine r_iterRv (H.has (.head _)) ?_
    refine r_loopRv hA (vs := vs) (fun i l => ∃ Qd vq qs r tr tn, l = [(Qd, ListO vq), (Ad, ListO vs), (L, NsU ["q_digit", "a_digit"] [("r", .int (r : Nat) tr), ("q_digits", .ref Qd), ("a_digits", .ref Ad), ("n", .int n tn), ("b", .int b u₂), ("a", .int a u₁)])] ∧ IntsAre vq qs ∧ (∀ q ∈ qs, 0 ≤ q ∧ q < 2 ^ n) ∧ qs.length = i ∧
        valF n qs.reverse = ((a / 2 ^ (n * (N - i)) / b : Nat) : Int) ∧ r = a / 2 ^ (n * (N - i)) % b)
      (H.unk (ks := ["q_digit", "a_digit"]) (bs₀ := ([("r", .int (0 : Nat) _), ("q_digits", .ref _), ("a_digits", .ref Ad), ("n", .int n _), ("b", .int b u₂), ("a", .int a u₁)] : B)) (.tail (.tail (.tail .head))) rfl ⟨rfl, rfl, rfl, rfl, rfl, rfl, trivial⟩)
      ⟨_, [], [], 0, _, _, rfl, .nil, (fun _ hq => nomatch hq), rfl, ?_, ?_⟩ (fun _ => rfl) ?_ ?_ ?_
    · rw [Nat.sub_zero, Nat.div_eq_of_lt haN]; simp [valF]
    · rw [Nat.sub_zero, Nat.div_eq_of_lt haN]; simp
    · rintro i l h ⟨Qd, vq, qs, r, tr, tn, rfl, _⟩ H
      exact H.has (.tail _ (.tail _ (.head _)))
    · clear H
      rintro i v l h₄ t₄ JJ hJ hi hv ⟨Qd, vq, qs, r, tr, tn, rfl, hq1, hq2, hq3, hq4, hr⟩ H
      have hiN : i < N := by (first | lia | omega)
      rw [hlen] at hv
      obtain ⟨td, ht⟩ := hvs.get (N - 1 - i) _ (digF_get n a (show N - 1 - i < N by (first | lia | omega)))
      rw [hv] at ht
      cases ht
      clear hv
      obtain ⟨d, hd⟩ : ∃ d, d = a / 2 ^ (n * (N - 1 - i)) % 2 ^ n := ⟨_, rfl⟩
      rw [← hd]
      have hdn : d < 2 ^ n := hd ▸ Nat.mod_lt _ (Nat.pow_pos (by decide))
      have hrb : r < b := hr ▸ Nat.mod_lt _ hb
      obtain ⟨s1, s2⟩ := div_step (a := a) (n := n) (k := N - (i + 1)) hb
      have ek : N - (i + 1) + 1 = N - i := by (first | lia | omega)
      have ek2 : N - 1 - i = N - (i + 1) := by (first | lia | omega)
      rw [ek2] at hd
      rw [ek, ← hr, ← hd] at s1 s2
      have hcur : r * 2 ^ n + d < b * 2 ^ n := by
        have : (r + 1) * 2 ^ n ≤ b * 2 ^ n := Nat.mul_le_mul_right _ hrb
        rw [Nat.succ_mul] at this; (first | lia | omega)
      have hqd : (r * 2 ^ n + d) / b < 2 ^ n := by rw [Nat.div_lt_iff_lt_mul hb, Nat.mul_comm (2 ^ n) b]; exact hcur
      have hcur2 : r * 2 ^ n + d < 2 ^ (n + n) := by
        rw [Nat.pow_add]
        exact Nat.lt_of_lt_of_le hcur (Nat.mul_le_mul_right _ (Nat.le_of_lt hbn))
      have hbits := intBits_lt (x := ((r * 2 ^ n + d : Nat) : Int)) (B := n + n) (Int.natCast_nonneg _) (by exact_mod_cast hcur2)
      have hbr := intBits_lt (x := (r : Int)) (B := n) (Int.natCast_nonneg _) (by
        have : r < 2 ^ n := by (first | lia | omega)
        exact_mod_cast this)
      have eC : (r : Int) * 2 ^ (n : Int).toNat + (d : Int) = ((r * 2 ^ n + d : Nat) : Int) := by rw [Int.toNat_natCast]; push_cast; rfl
      have eq : ((r * 2 ^ n + d : Nat) : Int).fdiv (b : Int) = (((r * 2 ^ n + d) / b : Nat) : Int) := by rw [Int.fdiv_eq_ediv_of_nonneg _ (by walk_at "om")]; push_cast; rfl
      have er : ((r * 2 ^ n + d : Nat) : Int).fmod (b : Int) = (((r * 2 ^ n + d) % b : Nat) : Int) := by rw [Int.fmod_eq_emod_of_nonneg _ (by walk_at "om")]; push_cast; rfl
      refine wpAny_assign_Name (r_storeV (ks' := ["q_digit"]) H rfl rfl (.tail (.tail (.tail .head))) (fun m h1 h2 => ?_) ?_)
      · simp only [List.contains_cons, List.contains_nil, Bool.or_false] at h2 ⊢
        rw [h2]
        simpa using h1
      · clear H
        intro h₅ t₅ H
        repeat (walk_at "st")
        refine r_shl (by walk_at "om") (by walk_at "om") ?_
        intro _ _
        repeat (walk_at "st")
        rw [eC]
        refine c_div (hA.mono (by walk_at "om")) H (by walk_at "om") (noPylong_bits (by rw [hn]; exact hn2)) (by walk_at "om") ?_
        rw [eq, er]
        clear H
        intro tp t₁ t₂ h₅ t₅ H
        repeat (walk_at "st")
        have H := (H.sub (List.sublist_cons_self _ _)).unk (ks := ["q_digit", "a_digit"]) (bs₀ := ([("r", .int (((r * 2 ^ n + d) % b : Nat) : Int) _), ("q_digits", .ref Qd), ("a_digits", .ref Ad), ("n", .int n tn), ("b", .int b u₂), ("a", .int a u₁)] : B)) (.tail (.tail (.tail .head))) rfl ⟨rfl, rfl, rfl, rfl, rfl, rfl, trivial⟩
        have hvl := hq1.length
        refine r_app H (.tail .head) (by have hz := sizeLine_eq; (first | lia | omega)) ?_
        clear H
        intro h₆ t₆ H
        repeat (walk_at "st")
        refine .next H (hJ _ ⟨Qd, _, qs ++ [(((r * 2 ^ n + d) / b : Nat) : Int)], (r * 2 ^ n + d) % b, _, tn, rfl, ints_snoc hq1 _ _, ?_, by simp [hq3], ?_, s2.symm⟩)
        · intro q hq
          rcases List.mem_append.mp hq with hq | hq
          · exact hq2 q hq
          · rw [List.mem_singleton.mp hq]
            exact ⟨Int.natCast_nonneg _, by exact_mod_cast hqd⟩
        · rw [List.reverse_append, s1]
          show ((((r * 2 ^ n + d) / b : Nat) : Int)) + 2 ^ n * valF n qs.reverse = _
          rw [hq4]
          push_cast
          rfl
    · clear H
      rintro l h₄ t₄ ⟨Qd, vq, qs, r, tr, tn, rfl, hq1, hq2, hq3, hq4, hr⟩ H
      have hvl := hq1.length
      rw [hlen, Nat.sub_self, Nat.mul_zero, Nat.pow_zero, Nat.div_one] at hq4 hr
      · repeat (walk_at "st")
        refine r_revM H .head (by have hz := sizeLine_eq; (first | lia | omega)) ?_
        clear H
        intro h₅ t₅ H
        repeat (walk_at "st")
        refine c_digits2int hA H (by walk_at "has") (ints_rev hq1) (fun d hd => hq2 d (List.mem_reverse.mp hd)) (by simp; (first | lia | omega)) (by simp; (first | lia | omega)) hn2 ?_
        rw [hq4]
        clear H
        intro t₁ h₆ t₆ H
        repeat (walk_at "st")
        rw [hr] at H
        exact .ret H (.cons_cons _ (List.nil_sublist _)) ⟨_, _, _, rfl, rfl⟩
  · rintro v h' t' l' H ⟨tp, t₁, t₂, rfl, rfl⟩
    exact k _ _ _ _ _ H
set_option maxHeartbeats 2000000 in
theorem c_int_divmod {β : Base} {A : Around} {s : Shared} {h₀ h : Heap} {t : Nat} {l : Led} {Q E : Value → Shared → Prop} {a b n N : Nat} {u₁ u₂ : Tok}
    (hA : AOk A 14) (H : W β h₀ h l) (ha : 0 < a) (hb : 0 < b) (hn : Builtin.Int.intBits (b : Int) = n) (hn2 : n ≤ 1000) (hN : (Builtin.Int.intBits (a : Int) + n - 1) / n = N) (hN10 : N ≤ 10)
    (k : ∀ tp t₁ t₂ h' t', W β h₀ h' ((tp, TupO [.int ((a / b : Nat) : Int) t₁, .int ((a % b : Nat) : Int) t₂]) :: l) → Q (.ref tp) (S s h' t')) :
    wpAny β.M A (call (.ref 56) [.int a u₁, .int b u₂]) Q E (S s h t) := by
  refine r_call (R := fun v l' => ∃ tp t₁ t₂, v = .ref tp ∧ l' = [(tp, TupO [.int ((a / b : Nat) : Int) t₁, .int ((a % b : Nat) : Int) t₂])]) [("a", .int a u₁), ("b", .int b u₂)] hA H rfl rfl rfl (.of_eq rfl) (by decide) (locs rfl) rfl rfl rfl ?_ ?_
  · clear H hA k
    intro A L h₁ t₁ hA H
    repeat (walk_at "st")
    refine ite_split (fun e => ?_) (fun _ => ?_)
    · exfalso; simp at e; omega
    repeat (walk_at "st")
    refine ite_split (fun e => ?_) (fun _ => ?_)
    · exfalso; simp at e; omega
    repeat (walk_at "st")
    refine ite_split (fun e => ?_) (fun _ => ?_)
    · exfalso; simp at e; omega
    repeat (walk_at "st")
    refine c_divmod_pos hA H ha hb hn hn2 hN hN10 ?_
    clear H
    intro tp t₁ t₂ h₂ t₂ H
    repeat (walk_at "st")
    exact .ret H (.cons_cons _ (List.nil_sublist _)) ⟨_, _, _, rfl, rfl⟩
  · rintro v h' t' l' H ⟨tp, t₁, t₂, rfl, rfl⟩
    exact k _ _ _ _ _ H
noncomputable def places (a w : Nat) : Nat := (Builtin.Int.intBits (a : Int) + w - 1) / w
noncomputable def countsF (a b w T : Nat) : List Int := (digF w (places (a * 2 ^ (w * T) / b) w) (a * 2 ^ (w * T) / b) ++ List.replicate (T + 1 - places (a * 2 ^ (w * T) / b) w) 0).reverse
noncomputable def CountsOk (a b w T : Nat) : Prop := 0 < a ∧ 0 < b ∧ 1 ≤ w ∧ w ≤ 100 ∧ T ≤ 100 ∧ Builtin.Int.intBits (b : Int) ≤ 1000 ∧ Builtin.Int.intBits (a : Int) ≤ 1000 ∧
  places (a * 2 ^ (w * T)) (Builtin.Int.intBits (b : Int)) ≤ 10 ∧ places (a * 2 ^ (w * T) / b) w ≤ 10
theorem mulOk {x y : Int} (hx : Builtin.Int.intBits x ≤ 10000) (hy : Builtin.Int.intBits y ≤ 100000) : IntMulOk x y := by
  unfold IntMulOk
  intro h
  simp only [Bool.and_eq_true] at h
  have := h.2
  simp [Builtin.Int.intTooBig, bitsLine] at this
  omega
theorem ints_replicate (x : Int) (t : Tok) : ∀ n, IntsAre (List.replicate n (.int x t)) (List.replicate n x)
  | 0 => .nil
  | n + 1 => .cons x t (ints_replicate x t n)
theorem ints_append {vs ws : List Value} {ns ms : List Int} (h : IntsAre vs ns) (k : IntsAre ws ms) : IntsAre (vs ++ ws) (ns ++ ms) := by
  induction h with
  | nil => exact k
  | cons n t' _ ih => exact .cons n t' ih

set_option maxHeartbeats 2000000 in
theorem c_counts {β : Base} {A : Around} {s : Shared} {h₀ h : Heap} {t : Nat} {l : Led} {Q E : Value → Shared → Prop} {a b w T : Nat} {u₁ u₂ u₃ u₄ : Tok}
    (hA : AOk A 15) (H : W β h₀ h l) (hok : CountsOk a b w T)
    (k : ∀ D vs h' t', W β h₀ h' ((D, ListO vs) :: l) → IntsAre vs (countsF a b w T) → Q (.ref D) (S s h' t')) :
    wpAny β.M A (call (.ref 98) [.int a u₁, .int b u₂, .int w u₃, .int T u₄]) Q E (S s h t) := by
  obtain ⟨ha, hb, hw1, hw, hT, hbb, hab, hN1, hN2⟩ := hok
  refine r_call (R := fun v l' => ∃ D vs, v = .ref D ∧ l' = [(D, ListO vs)] ∧ IntsAre vs (countsF a b w T)) [("above", .int a u₁), ("below", .int b u₂), ("width", .int w u₃), ("tosses", .int T u₄)] hA H rfl rfl rfl (.of_eq rfl) (by decide) (locs rfl) rfl rfl rfl ?_ ?_
  · clear H hA k
    intro A L h₁ t₁ hA H
    repeat (walk_at "st")
    have hwb := intBits_lt (x := (w : Int)) (B := 7) (Int.natCast_nonneg _) (by walk_at "om")
    refine r_mul (.of_left (by walk_at "om")) ?_
    intro _ _
    have e1 : (w : Int) * (T : Int) = ((w * T : Nat) : Int) := by push_cast; rfl
    have hwT : w * T ≤ 100 * 100 := Nat.mul_le_mul hw hT
    rw [e1]
    refine r_pow (by walk_at "om") (by rw [show Builtin.Int.intBits (2 : Int) = 2 by decide]; omega) ?_
    intro _ _
    have e2 : ((2 : Int) ^ ((w * T : Nat) : Int).toNat) = ((2 ^ (w * T) : Nat) : Int) := by rw [Int.toNat_natCast]; push_cast; rfl
    rw [e2]
    have hp := intBits_lt (x := ((2 ^ (w * T) : Nat) : Int)) (B := w * T + 1) (Int.natCast_nonneg _) (by
      have : 2 ^ (w * T) < 2 ^ (w * T + 1) := Nat.pow_lt_pow_right (by decide) (by walk_at "om")
      exact_mod_cast this)
    refine r_mul (mulOk (by walk_at "om") (by walk_at "om")) ?_
    intro _ _
    have e3 : (a : Int) * ((2 ^ (w * T) : Nat) : Int) = ((a * 2 ^ (w * T) : Nat) : Int) := by push_cast; rfl
    rw [e3]
    repeat (walk_at "st")
    refine c_int_divmod hA H (Nat.mul_pos ha (Nat.pow_pos (by decide))) hb rfl hbb rfl hN1 ?_
    clear H
    intro tp t₁ t₂ h₂ t₂ H
    repeat (walk_at "st")
    have hA12 : AOk A 12 := hA.mono (by walk_at "om")
    refine c_int2digits hA12 H hw1 (by walk_at "om") rfl hN2 ?_
    clear H
    intro D vs h₃ t₃ H hvs
    have hlen : vs.length = places (a * 2 ^ (w * T) / b) w := by rw [hvs.length]; simp [digF, places]
    repeat (walk_at "st")
    refine r_mulL H (by walk_at "has") (by walk_at "om") ?_
    clear H
    intro Z h₄ t₄ H
    repeat (walk_at "st")
    refine r_addL H (by walk_at "has") (by walk_at "has") (by have hz := sizeLine_eq; simp; omega) ?_
    clear H
    intro Y h₅ t₅ H
    repeat (walk_at "st")
    refine wpAny_UnaryOp ?_
    repeat (walk_at "st")
    refine r_neg ?_
    intro _ _
    repeat (walk_at "st")
    refine r_sliceL H (by walk_at "has") .none .none (.int _ _) (by decide) (by simp; omega) rfl ?_
    clear H
    intro Z h₆ t₆ H
    repeat (walk_at "st")
    rw [krv_pick] at H
    refine .ret H (.cons_cons _ (List.nil_sublist _)) ⟨_, _, rfl, rfl, ?_⟩
    have e : ((T : Int) + 1 - (vs.length : Int)).toNat = T + 1 - places (a * 2 ^ (w * T) / b) w := by omega
    rw [e]
    exact ints_rev (ints_append hvs (ints_replicate _ _ _))
  · rintro v h' t' l' H ⟨D, vs, rfl, rfl, hi⟩
    exact k _ _ _ _ H hi
noncomputable def leadDig (one other : Str) (j : Nat) : Int := if (sub one (one.length - (j + 1)) one.length == sub other 0 (j + 1)) = true then 1 else 0
noncomputable def leadF (one other : Str) (w : Nat) : Int := valF w ((List.range one.length).map (leadDig one other))
theorem slice_from (x : Str) {a : Nat} (ha : a ≤ x.length) : Txt.slice x (some (a : Int)) none = sub x a x.length := by
  rw [← slice_sub x ha (Nat.le_refl _)]
  have e : Builtin.Str.strSliceIndices (some (a : Int)) none 1 x.length = Builtin.Str.strSliceIndices (some (a : Int)) (some ((x.length : Nat) : Int)) 1 x.length := by
    simp only [Builtin.Str.strSliceIndices, show ((1 : Int) > 0) = True from by simp, if_true]
    have : ¬ (((x.length : Nat) : Int) < 0) := by (first | lia | omega)
    simp only [this, if_false]
    have e1 : max (0 : Int) (min ((x.length : Nat) : Int) (x.length : Int)) = x.length := by (first | lia | omega)
    rw [e1]
  unfold Txt.slice
  rw [e]

set_option maxHeartbeats 2000000 in
theorem c_leading {β : Base} {A : Around} {s : Shared} {h₀ h : Heap} {t : Nat} {l : Led} {Q E : Value → Shared → Prop} {one other : Str} {w : Nat} {u₁ u₂ u₃ : Tok}
    (hA : AOk A 13) (H : W β h₀ h l) (h1 : 0 < one.length) (h2 : one.length ≤ 10) (ho : other.length = one.length) (hw1 : 1 ≤ w) (hw : w ≤ 1000)
    (k : ∀ t₁ h' t', W β h₀ h' l → Q (.int (leadF one other w) t₁) (S s h' t')) :
    wpAny β.M A (call (.ref 91) [.str one u₁, .str other u₂, .int w u₃]) Q E (S s h t) := by
  refine r_call (R := fun v l' => ∃ t₁, v = .int (leadF one other w) t₁ ∧ l' = []) [("one", .str one u₁), ("other", .str other u₂), ("width", .int w u₃)] hA H rfl rfl rfl (.of_eq rfl) (by decide) (locs rfl) rfl rfl rfl ?_ ?_
  · clear H hA k
    intro A L h₁ t₁ hA H
    repeat (walk_at "st")
    refine r_forR (fun _ => rfl) ?_
    repeat (walk_at "st")
    refine r_iterR H (by walk_at "mem") (by walk_at "om") (by walk_at "om") ?_
    clear H
    intro it h₂ t₂ H
    refine r_loopR hA (fun i l => ∃ r D vs, l = [(r, RangeO 1 (one.length + 1) 1), (D, ListO vs), (L, NsU ["k"] [("digits", .ref D), ("width", .int w u₃), ("other", .str other u₂), ("one", .str one u₁)])] ∧ IntsAre vs ((List.range i).map (leadDig one other))) (H.unk (ks := ["k"]) (bs₀ := [("digits", .ref _), ("width", .int w u₃), ("other", .str other u₂), ("one", .str one u₁)]) (.tail (.tail (.tail .head))) rfl ⟨rfl, rfl, rfl, rfl, trivial⟩) ⟨_, _, _, rfl, .nil⟩ (fun _ => rfl) ?_ ?_
    · clear H
      rintro i l h₃ t₃ t₄ JJ hJ hi ⟨r, D, vs, rfl, hvs⟩ H
      have hl := hvs.length
      simp at hl
      have hin : i < one.length := by (first | lia | omega)
      have e1 : Txt.slice one (some ((one.length : Int) - (1 + i))) none = sub one (one.length - (i + 1)) one.length := by
        have := slice_from one (a := one.length - (i + 1)) (by walk_at "om")
        rw [← this]
        congr 2; (first | lia | omega)
      have e2 : Txt.slice other none (some ((1 : Int) + i)) = sub other 0 (i + 1) := by
        have := slice_upto other (b := i + 1) (by walk_at "om")
        rw [← this]
        congr 2; (first | lia | omega)
      refine wpAny_assign_Name (r_store1 H rfl rfl (.tail (.tail (.tail .head))) ?_)
      clear H
      intro h₄ t₄ H
      repeat (walk_at "st")
      refine ite_split (fun hc => ?_) (fun hc => ?_) <;>
      · rw [e1, e2] at hc
        repeat (walk_at "st")
        refine .next (H.unk (ks := ["k"]) (bs₀ := [("digits", .ref D), ("width", .int w u₃), ("other", .str other u₂), ("one", .str one u₁)]) (.tail (.tail (.tail .head))) rfl ⟨rfl, rfl, rfl, rfl, trivial⟩) (hJ _ ⟨_, D, _, rfl, ?_⟩)
        rw [List.range_succ, List.map_append]
        have e3 : leadDig one other i = if (sub one (one.length - (i + 1)) one.length == sub other 0 (i + 1)) = true then 1 else 0 := rfl
        rw [hc] at e3
        show IntsAre _ (_ ++ [leadDig one other i])
        rw [e3]
        exact ints_snoc hvs _ _
    · clear H
      rintro l h₃ t₃ ⟨r, D, vs, rfl, hvs⟩ H
      have e : ((one.length : Int) + 1 - 1).toNat = one.length := by (first | lia | omega)
      rw [e] at hvs
      have hl := hvs.length
      simp at hl
      · repeat (walk_at "st")
        refine c_digits2int hA H (by walk_at "has") hvs ?_ (by simp; (first | lia | omega)) (by simp; (first | lia | omega)) hw ?_
        · intro d hd
          obtain ⟨j, _, rfl⟩ := List.mem_map.mp hd
          have : (1 : Int) < 2 ^ w := by
            have : 2 ^ 1 ≤ 2 ^ w := Nat.pow_le_pow_right (by decide) hw1
            have h3 : (1 : Nat) < 2 ^ w := by (first | lia | omega)
            exact_mod_cast h3
          unfold leadDig
          split <;> (first | lia | omega)
        · clear H
          intro t₅ h₅ t₆ H
          repeat (walk_at "st")
          exact .ret H (List.nil_sublist _) ⟨_, rfl, rfl⟩
  · rintro v h' t' l' H ⟨t₁, rfl, rfl⟩
    exact k _ _ _ H
noncomputable def signStr (c : Nat) : Str := ⟨#[c]⟩
noncomputable def growF (signs : Str) (rows : List Str) : List Str := rows.flatMap fun row => signs.cps.toList.map fun c => row ++ signStr c
noncomputable def rowsF (signs : Str) : Nat → List Str
  | 0 => [""]
  | k + 1 => growF signs (rowsF signs k)
theorem strs_snoc {vs : List Value} {xs : List Str} (h : StrsAre vs xs) (x : Str) (t : Tok) : StrsAre (vs ++ [.str x t]) (xs ++ [x]) := by
  induction h with
  | nil => exact .cons x t .nil
  | cons n t' _ ih => exact .cons n t' ih
theorem strs_len {vs : List Value} {xs : List Str} (h : StrsAre vs xs) : vs.length = xs.length := by
  induction h with
  | nil => rfl
  | cons n t' _ ih => simp [ih]
theorem strs_get {vs : List Value} {xs : List Str} (h : StrsAre vs xs) : ∀ {i : Nat} {v : Value}, vs[i]? = some v → ∃ x t, v = .str x t ∧ xs[i]? = some x := by
  induction h with
  | nil => intro i v hv; simp at hv
  | cons n t' _ ih =>
    intro i v hv
    cases i with
    | zero => simp at hv; exact ⟨n, t', hv.symm, rfl⟩
    | succ i => rw [List.getElem?_cons_succ] at hv; obtain ⟨x, t, e1, e2⟩ := ih hv; exact ⟨x, t, e1, by rw [List.getElem?_cons_succ]; exact e2⟩
theorem strs_get' {vs : List Value} {xs : List Str} (h : StrsAre vs xs) : ∀ {i : Nat} {x : Str}, xs[i]? = some x → ∃ t, vs[i]? = some (.str x t) := by
  induction h with
  | nil => intro i v hv; simp at hv
  | cons n t' _ ih =>
    intro i v hv
    cases i with
    | zero => simp at hv; exact ⟨t', by simp [hv]⟩
    | succ i => simp at hv ⊢; exact ih hv
theorem flatMap_take_succ {α γ : Type} (f : α → List γ) (xs : List α) {i : Nat} {x : α} (h : xs[i]? = some x) : (xs.take (i + 1)).flatMap f = (xs.take i).flatMap f ++ f x := by
  rw [List.take_add_one, h]; simp
theorem map_take_succ {α γ : Type} (f : α → γ) (xs : List α) {i : Nat} {x : α} (h : xs[i]? = some x) : (xs.take (i + 1)).map f = (xs.take i).map f ++ [f x] := by
  rw [List.take_add_one, h]; simp

theorem flatMap_at {α γ : Type} (f : α → List γ) (xs : List α) {i : Nat} {x : α} (h : xs[i]? = some x) : xs.flatMap f = (xs.take i).flatMap f ++ (f x ++ (xs.drop (i + 1)).flatMap f) := by
  obtain ⟨hlt, rfl⟩ := List.getElem?_eq_some_iff.mp h
  have e : xs = xs.take i ++ xs[i] :: xs.drop (i + 1) := by rw [← List.drop_eq_getElem_cons]; exact (List.take_append_drop i xs).symm
  calc xs.flatMap f = (xs.take i ++ xs[i] :: xs.drop (i + 1)).flatMap f := congrArg (List.flatMap f) e
    _ = _ := by rw [List.flatMap_append, List.flatMap_cons]
theorem cstart1S {β : Base} {A : Around} {s : Shared} {h : Heap} {t : Nat} {cenv : Env} {J : Addr} {x : Str} {u : Tok} {i : Nat} {elt iter : Expr} {x0 x1 : Str} {p0 p1 : Pos} {iter1 : Expr} {scope : Scope} {pos : Pos} {acc : Value} {R : Result → Shared → Prop}
    (hJ : h.IsStrIter J "str_ascii_iterator" x u i)
    (h0 : codeAny β.M A (.compLoop (.ListComp elt [⟨.Name x0 p0, iter, [], 0⟩, ⟨.Name x1 p1, iter1, [], 0⟩] scope pos) 1 (.ref J) acc cenv) R (S s h t)) :
    codeAny β.M A (.compStart (.ListComp elt [⟨.Name x0 p0, iter, [], 0⟩, ⟨.Name x1 p1, iter1, [], 0⟩] scope pos) 1 (.ref J) acc cenv) R (S s h t) :=
  cstart1 h0 (wpAny_pyIter_striter_ascii hJ h0)

noncomputable def RowsOk (signs : Str) (size : Nat) : Prop := ∀ k, k ≤ size → (rowsF signs k).length ≤ 1000 ∧ ∀ x ∈ rowsF signs k, x.length ≤ 100

set_option maxHeartbeats 2000000 in
theorem c_rows {β : Base} {A : Around} {s : Shared} {h₀ h : Heap} {t : Nat} {l : Led} {Q E : Value → Shared → Prop} {size : Nat} {signs : Str} {u₁ u₂ : Tok}
    (hA : AOk A 1) (H : W β h₀ h l) (ha : signs.cps.all (· < 128) = true) (hz : size ≤ 100) (hok : RowsOk signs size)
    (k : ∀ D vs h' t', W β h₀ h' ((D, ListO vs) :: l) → StrsAre vs (rowsF signs size) → Q (.ref D) (S s h' t')) :
    wpAny β.M A (call (.ref 84) [.int size u₁, .str signs u₂]) Q E (S s h t) := by
  refine r_callC (R := fun v l' => ∃ D vs, v = .ref D ∧ l' = [(D, ListO vs)] ∧ StrsAre vs (rowsF signs size)) [("size", .int size u₁), ("signs", .str signs u₂)] [("size", .int size u₁)] hA H rfl rfl rfl (.of_eq rfl) rfl (by decide) (fun n => by rw [look_cons]; rfl) rfl rfl rfl ?_ ?_
  · clear H hA k
    intro A L h₁ t₁ hA H
    have H₁ : W β h h₁ [(L, NsO [("size", .int size u₁)]), (L + 1, CellO (some (.str signs u₂)))] := H
    clear H
    have H := H₁
    clear H₁
    obtain ⟨h₀', eh⟩ : ∃ h₀', h₀' = h := ⟨_, rfl⟩
    rw [← eh] at H ⊢
    repeat (walk_at "st")
    refine r_forR (fun _ => rfl) ?_
    repeat (walk_at "st")
    refine r_iterR H (by walk_at "mem") (by walk_at "om") (by walk_at "om") ?_
    clear H
    intro it h₂ t₂ H
    refine r_loopR hA (fun i l => ∃ r D vs ls, l = (D, ListO vs) :: (r, RangeO 0 size 1) :: (L, NsU ["k"] [("rows", .ref D), ("size", .int size u₁)]) :: (L + 1, CellO (some (.str signs u₂))) :: ls ∧ StrsAre vs (rowsF signs i)) ((H.perm (.cons _ (.swap _ _ _))).unk (ks := ["k"]) (bs₀ := [("rows", .ref _), ("size", .int size u₁)]) (.tail (.tail (.tail .head))) rfl ⟨rfl, rfl, trivial⟩) ⟨_, _, _, [], rfl, .cons _ _ .nil⟩ (fun _ => rfl) ?_ ?_
    · clear H
      rintro i l h₃ t₃ t₄ JJ hJ hi ⟨r, D, vs, ls, rfl, hvs⟩ H
      refine wpAny_assign_Name (r_store1 H rfl rfl (.tail (.tail (.tail .head))) ?_)
      clear H
      intro h₄ t₄' H
      refine r_cons ?_
      refine r_compU (cl := [("signs", L + 1)]) rfl (fun _ => rfl) rfl rfl (by decide) ?_
      repeat (walk_at "st")
      refine r_iterL H (by walk_at "has") ?_
      clear H
      intro I h₅ t₅ H
      refine ⟨_, _, _, _, I, _, rfl, rfl, H, self_list _ _, ?_⟩
      clear H
      intro D' C h₆ t₆ H
      have hi' : i + 1 ≤ size := by (first | lia | omega)
      obtain ⟨hk1, hk2⟩ := hok (i + 1) hi'
      obtain ⟨hk3, hk4⟩ := hok i (by walk_at "om")
      have hvl := strs_len hvs
      have hzz := sizeLine_eq
      have H₁ := (H.perm (l' := (I, LItO D 0) :: (D', ListO []) :: (C, NsO []) :: _) (((List.Perm.swap _ _ _).cons _).trans ((List.Perm.swap _ _ _).trans ((List.Perm.swap _ _ _).cons _)))).unk (ks := ["row", "sign"]) (bs₀ := []) (.tail (.tail .head)) rfl trivial
      clear H
      refine cloop0 (fun m s' => ∃ a ys h t, s' = S s h t ∧ m = vs.length - a ∧ a ≤ vs.length ∧ StrsAre ys (((rowsF signs i).take a).flatMap fun row => signs.cps.toList.map fun c => row ++ signStr c) ∧
          W β _ h ((I, LItO D a) :: (D', ListO ys) :: (C, NsU ["row", "sign"] []) :: _)) (fun _ => rfl) ?_ vs.length ⟨0, [], _, _, rfl, rfl, Nat.zero_le _, .nil, H₁⟩
      clear H₁
      rintro m s' I₁ hI₁ ⟨a, ys, h₇, t₇, rfl, rfl, ha7, hys, H⟩
      have hL : Has h₇ D (ListO vs) := by walk_at "has"
      obtain ⟨o, eo, po, qo⟩ := H.get (.head _)
      have hit : h₇.IsListIter I D a := ⟨o, eo, po, qo⟩
      by_cases hlt : a < vs.length
      · have hv : vs[a]? = some vs[a] := List.getElem?_eq_getElem hlt
        obtain ⟨x, tx, hvx, hx⟩ := strs_get hvs hv
        refine wpAny_pyNext_list_item hit hL.isList (x := vs[a]) (by simp [hlt]) fun h' hit' hsb => ?_
        rw [hvx]
        have H' := H.upd (P' := LItO D (a + 1)) .head hsb (let ⟨o, e, p, q⟩ := hit'; ⟨o, e, p, q⟩)
        clear H
        have H := H'
        clear H'
        have hfa := flatMap_at (fun row : Str => signs.cps.toList.map fun c => row ++ signStr c) _ hx
        have hgl : (growF signs (rowsF signs i)).length ≤ 1000 := hk1
        unfold growF at hgl
        rw [hfa] at hgl
        simp only [List.length_append, List.length_map] at hgl
        have hxl := hk4 x (List.mem_of_getElem? hx)
        have hyl := strs_len hys
        refine wpAny_assign_Name (r_storeV (ks' := ["sign"]) H rfl rfl (.tail (.tail .head)) (fun m h1 h2 => ?_) ?_)
        · simp only [List.contains_cons, List.contains_nil, Bool.or_false] at h2 ⊢
          rw [h2, Bool.or_false]
          simpa using h1
        · clear H
          intro h₈ t₈ H
          repeat (walk_at "st")
          refine r_iterS H ha ?_
          clear H
          intro J h₈ t₈ H
          obtain ⟨oj, ej, pj, qj⟩ := H.get (.head _)
          refine cstart1S ⟨oj, ej, pj, qj⟩ ?_
          refine cloop1 (fun m s' => ∃ j ys h t, s' = S s h t ∧ m = signs.cps.size - j ∧ j ≤ signs.cps.size ∧ StrsAre ys ((((rowsF signs i).take a).flatMap fun row => signs.cps.toList.map fun c => row ++ signStr c) ++ (signs.cps.toList.take j).map fun c => x ++ signStr c) ∧
            W β _ h ((J, SItO signs u₂ j) :: (I, LItO D (a + 1)) :: (D', ListO ys) :: (C, NsU ["sign"] [("row", .str x tx)]) :: _)) ?_ signs.cps.size ⟨0, ys, _, _, rfl, rfl, Nat.zero_le _, by simpa using hys, H⟩
          clear H
          rintro m s' I₂ hI₂ ⟨j, ys', h₉, t₉, rfl, rfl, hj, hys', H⟩
          have hyl' := strs_len hys'
          simp only [List.length_append, List.length_map, List.length_take] at hyl'
          obtain ⟨oj, ej, pj, qj⟩ := H.get (.head _)
          have hitj : h₉.IsStrIter J "str_ascii_iterator" signs u₂ j := ⟨oj, ej, pj, qj⟩
          by_cases hjl : j < signs.cps.size
          · have hc : signs.cps[j]? = some signs.cps[j] := by simp [hjl]
            refine wpAny_pyNext_ascii_item hitj hc fun h' hit' hsb => ?_
            have H' := H.upd (P' := SItO signs u₂ (j + 1)) .head hsb (let ⟨o, e, p, q⟩ := hit'; ⟨o, e, p, q⟩)
            clear H
            have H := H'
            clear H'
            have hstep := map_take_succ (fun c => x ++ signStr c) signs.cps.toList (i := j) (x := signs.cps[j]) (by simp)
            refine wpAny_assign_Name (r_store1 H rfl rfl (.tail (.tail (.tail .head))) ?_)
            clear H
            intro h₉ t₉ H
            · repeat (walk_at "st")
              refine r_concat (by show x.length + 1 ≤ _; (first | lia | omega)) ?_
              intro _ _
              refine r_app H (.tail (.tail .head)) (by walk_at "om") ?_
              clear H
              intro h' t' H
              refine hI₂ (signs.cps.size - (j + 1)) _ (by (first | lia | omega)) ⟨j + 1, _, _, _, rfl, rfl, hjl, ?_, H.unk (ks := ["sign"]) (bs₀ := [("row", .str x tx)]) (.tail (.tail (.tail .head))) rfl ⟨rfl, trivial⟩⟩
              rw [hstep, ← List.append_assoc]
              exact strs_snoc hys' _ _
          · have hje : j = signs.cps.size := by (first | lia | omega)
            subst hje
            refine wpAny_pyNext_ascii_end hA.handled hitj (by simp) fun h' hx' => ?_
            have H' := H.del .head hx'
            refine hI₁ (vs.length - (a + 1)) _ (by (first | lia | omega)) ⟨a + 1, ys', _, _, rfl, rfl, hlt, ?_, H'.upd' (P' := NsU ["row", "sign"] []) (.tail (.tail .head)) (fun _ _ _ e => e) ?_⟩
            · rw [flatMap_take_succ _ _ hx]
              rw [List.take_of_length_le (i := signs.cps.size) (l := signs.cps.toList) (by simp)] at hys'
              exact hys'
            · obtain ⟨o, e, es, ep, d, st, f⟩ := H'.get (.tail _ (.tail _ (.head _)))
              refine ⟨o, e, es, ep, d, st, fun n hn => ?_⟩
              simp only [List.contains_cons, List.contains_nil, Bool.or_false, Bool.or_eq_false_iff] at hn
              rw [f n (by simpa using hn.2), look_cons, if_neg (by simpa using hn.1)]
      · have hae : a = vs.length := by (first | lia | omega)
        subst hae
        refine wpAny_pyNext_list_end hA.handled hit hL.isList (by simp) fun h' hx' => ?_
        have H' := H.del .head hx'
        clear H
        have H := H'
        clear H'
        rw [hvl, List.take_length] at hys
        obtain ⟨bs, H₁⟩ := H.swap.known
        clear H
        have H := H₁
        clear H₁
        refine CompU.mk ?_
        refine wpAny_assign_Name ?_
        repeat (walk_at "st")
        refine ⟨_, _, _, _, _, rfl, H, ?_⟩
        clear H
        intro h' t' H
        repeat (walk_at "st")
        exact .next ((H.swap.sub (.cons_cons _ (.cons_cons _ (.cons _ (List.Sublist.refl _))))).unk (ks := ["k"]) (bs₀ := [("rows", .ref D'), ("size", .int size u₁)]) (.tail (.tail (.tail .head))) rfl ⟨rfl, rfl, trivial⟩) (hJ _ ⟨r, D', ys, ls, rfl, hys⟩)
    · clear H
      rintro l h₃ t₃ ⟨r, D, vs, ls, rfl, hvs⟩ H
      have e : ((size : Int) - 0).toNat = size := by (first | lia | omega)
      rw [e] at hvs
      · repeat (walk_at "st")
        exact .ret H (.cons_cons _ (List.nil_sublist _)) ⟨_, _, rfl, rfl, hvs⟩
  · rintro v h' t' l' H ⟨D, vs, rfl, rfl, hi⟩
    exact k _ _ _ _ H hi
section
variable {β : Base} {A : Around} {s : Shared} {h₀ h h' : Heap} {t n : Nat} {l l' : Led} {env cenv : Env} {E : Value → Shared → Prop} {a : Addr} {P : OP} {Q : Value → Shared → Prop}

theorem perm3 {α : Type} (a b c : α) (l : List α) : (a :: b :: c :: l).Perm (c :: b :: a :: l) :=
  ((List.Perm.swap _ _ _).cons _).trans ((List.Perm.swap _ _ _).trans ((List.Perm.swap _ _ _).cons _))
theorem perm3r {α : Type} (a b c : α) (l : List α) : (a :: b :: c :: l).Perm (c :: a :: b :: l) := ((List.Perm.swap _ _ _).cons _).trans (List.Perm.swap _ _ _)
theorem perm3l {α : Type} (a b c : α) (l : List α) : (a :: b :: c :: l).Perm (b :: c :: a :: l) := (List.Perm.swap _ _ _).trans ((List.Perm.swap _ _ _).cons _)

/-- numbers from a range, the name a local one -/
theorem loopRL {elt iter : Expr} {x : Str} {px : Pos} {scope : Scope} {pos : Pos} {N : Nat} {f : Nat → Int} {C D I : Addr} {R : Result → Shared → Prop} (hA : AOk A n) (hN : N ≤ 1000)
    (hk : cenv.kindOf x = some .local) (hsk : cenv.scope.kind = .function) (hC : cenv.locals = C) (H : W β h₀ h ((C, NsO []) :: (D, ListO []) :: (I, RItO 0 N) :: l))
    (turn : ∀ (i : Nat) lc h' t' t₁ (QQ : Value → Shared → Prop), (∀ u h'' t'', W β h₀ h'' ((C, NsO [(x, .int i t₁)]) :: lc) → QQ (.int (f i) u) (S s h'' t'')) → i < N → W β h₀ h' l → W β h₀ h' ((C, NsO [(x, .int i t₁)]) :: lc) → wpAny β.M A (eval elt cenv) QQ NoE (S s h' t'))
    (done : ∀ ys bs h' t', W β h₀ h' ((C, NsO bs) :: (D, ListO ys) :: l) → IntsAre ys ((List.range N).map f) → R (.ok .next) (S s h' t')) :
    codeAny β.M A (.compLoop (.ListComp elt [⟨.Name x px, iter, [], 0⟩] scope pos) 0 (.ref I) (.ref D) cenv) R (S s h t) := by
  subst hC
  refine r_cloopR hA (fun i ys l' => ys.length = i ∧ ∃ bs, l' = (cenv.locals, NsO bs) :: l ∧ IntsAre ys ((List.range i).map f) ∧ (bs = [] ∨ ∃ v, bs = [(x, v)])) hN (H.perm (perm3 _ _ _ _)) ⟨rfl, [], rfl, .nil, .inl rfl⟩ (fun _ => rfl) (fun i ys l j => Nat.le_of_eq j.1) ?_ ?_
  · rintro i ys l' h' t' t₁ hi ⟨hy, bs, rfl, hys, hbs⟩ H
    rw [Int.zero_add]
    refine wpAny_assign_Name (r_storeJ H hk hsk hbs (.tail (.tail .head)) ?_)
    intro h₂ t₂ H
    refine TestsP.nil ?_
    rw [if_pos rfl]
    refine turn i _ h₂ t₂ t₁ _ (fun u h'' t'' H₃ => ?_) hi (H.sub (.cons _ (.cons _ (.cons _ (List.Sublist.refl _))))) (H.perm (perm3r _ _ _ _))
    exact .mk (H₃.perm (perm3l _ _ _ _)) ⟨by simp [hy], _, rfl, by rw [List.range_succ, List.map_append]; exact ints_snoc hys _ _, .inr ⟨_, rfl⟩⟩
  · rintro ys l' h' t' ⟨hy, bs, rfl, hys, hbs⟩ H
    exact done ys bs h' t' H.swap hys

/-- numbers from a range, the name a cell -/
theorem loopRC {elt iter : Expr} {x : Str} {px : Pos} {scope : Scope} {pos : Pos} {N : Nat} {f : Nat → Int} {C c D I : Addr} {R : Result → Shared → Prop} (hA : AOk A n) (hN : N ≤ 1000)
    (hk : cenv.kindOf x = some .cell) (hsk : cenv.scope.kind = .function) (hc : cenv.cells.lookup x = some c) (H : W β h₀ h ((C, NsO []) :: (c, CellO none) :: (D, ListO []) :: (I, RItO 0 N) :: l))
    (turn : ∀ (i : Nat) (p q r : Addr × OP) h' t' t₁ (QQ : Value → Shared → Prop), (∀ u h'' t'', W β h₀ h'' ((c, CellO (some (.int i t₁))) :: p :: q :: r :: l) → QQ (.int (f i) u) (S s h'' t'')) → i < N → W β h₀ h' ((c, CellO (some (.int i t₁))) :: p :: q :: r :: l) → wpAny β.M A (eval elt cenv) QQ NoE (S s h' t'))
    (done : ∀ ys bs h' t', W β h₀ h' ((C, NsO bs) :: (D, ListO ys) :: l) → IntsAre ys ((List.range N).map f) → R (.ok .next) (S s h' t')) :
    codeAny β.M A (.compLoop (.ListComp elt [⟨.Name x px, iter, [], 0⟩] scope pos) 0 (.ref I) (.ref D) cenv) R (S s h t) := by
  refine r_cloopR hA (fun i ys l' => ys.length = i ∧ ∃ v₀, l' = (c, CellO v₀) :: (C, NsO []) :: l ∧ IntsAre ys ((List.range i).map f)) hN
    (H.perm (l' := (I, RItO 0 N) :: (D, ListO []) :: (c, CellO none) :: (C, NsO []) :: l) (((perm3 _ _ _ _).cons _).trans ((List.Perm.swap _ _ _).trans ((perm3l _ _ _ _).cons _)))) ⟨rfl, _, rfl, .nil⟩ (fun _ => rfl) (fun i ys l j => Nat.le_of_eq j.1) ?_ ?_
  · rintro i ys l' h' t' t₁ hi ⟨hy, v₀, rfl, hys⟩ H
    rw [Int.zero_add]
    refine wpAny_assign_Name (r_storeC H hsk hk hc (.tail (.tail .head)) ?_)
    intro h₂ t₂ H
    refine TestsP.nil ?_
    rw [if_pos rfl]
    refine turn i _ _ _ h₂ t₂ t₁ _ (fun u h'' t'' H₃ => ?_) hi (H.perm (perm3r _ _ _ _))
    exact .mk (H₃.perm (perm3l _ _ _ _)) ⟨by simp [hy], _, rfl, by rw [List.range_succ, List.map_append]; exact ints_snoc hys _ _⟩
  · rintro ys l' h' t' ⟨hy, v₀, rfl, hys⟩ H
    exact done ys [] h' t' ((H.sub (.cons_cons _ (.cons _ (List.Sublist.refl _)))).swap) hys

theorem pairs_get {vs : List Value} {ys : List Int} {f : Value → Int} {i : Nat} {v : Value} (hv : vs[i]? = some v) (e : ys = (vs.take i).map f) : ys ++ [f v] = (vs.take (i + 1)).map f := by
  rw [e, map_take_succ _ _ hv]

/-- what is stored by one turn over games -/
theorem gameStore {gm : Value → Str × Int} {v : Value} {p₁ p₂ p₃ : Pos} {cc : Nat} {C : Addr} {bs : List (Str × Value)} {p q : Addr × OP} {Q : Unit → Shared → Prop} (hA : AOk A n) (H : W β h₀ h (p :: q :: (C, NsO bs) :: l)) (hg : GameOk h gm v)
    (hk1 : cenv.kindOf "row" = some .local) (hk2 : cenv.kindOf "end" = some .local) (hsk : cenv.scope.kind = .function) (hC : cenv.locals = C)
    (hbs : bs = ([] : B) ∨ ∃ x y, bs = ([("end", x), ("row", y)] : B))
    (k : ∀ te tr h' t', W β h₀ h' ((C, NsO [("end", .int (gm v).2 te), ("row", .str (gm v).1 tr)]) :: p :: q :: l) → Q () (S s h' t')) :
    wpAny β.M A (assign (.Tuple [.Name "row" p₁, .Name "end" p₂] cc p₃) cenv v) Q E (S s h t) := by
  obtain ⟨b, tr, te, rfl, hb⟩ := hg
  subst hC
  refine r_unpack2 hA H hb rfl ?_
  clear H
  intro h₁ t₁ H
  refine wpAny_assign_Name (r_store H hk1 hsk (.tail (.tail .head)) ?_)
  clear H
  intro h₂ t₂ H
  refine wpAny_assign_Name (r_store H hk2 hsk (.tail (.tail .head)) ?_)
  clear H
  intro h₃ t₃ H
  rcases hbs with rfl | ⟨x, y, rfl⟩
  · exact k te tr _ _ (H.perm (perm3r _ _ _ _))
  · exact k te tr _ _ ((H.convK (bs' := ([("end", .int (gm (.ref b)).2 te), ("row", .str (gm (.ref b)).1 tr)] : B)) (.tail (.tail .head)) rfl ⟨rfl, rfl, trivial⟩).perm (perm3r _ _ _ _))

noncomputable def gameTarget (p₁ p₂ p₃ : Pos) (cc : Nat) : Expr := .Tuple [.Name "row" p₁, .Name "end" p₂] cc p₃
theorem games_ref {gm : Value → Str × Int} {vs : List Value} (hg : ∀ v ∈ vs, GameOk h gm v) : ∀ v ∈ vs, ∃ b, v = .ref b := fun v hv => let ⟨b, _, _, e, _⟩ := hg v hv; ⟨b, e⟩
/-- a number from each game -/
theorem loopGM {elt iter : Expr} {p₁ p₂ p₃ : Pos} {cc : Nat} {scope : Scope} {pos : Pos} {gm : Value → Str × Int} {f : Value → Int} {vs : List Value} {lst C D I : Addr} {R : Result → Shared → Prop} (hA : AOk A n) (hN : vs.length ≤ 1000)
    (hl : ∀ h', W β h₀ h' l → Has h' lst (ListO vs)) (hg : ∀ h', W β h₀ h' l → ∀ v ∈ vs, GameOk h' gm v)
    (hk1 : cenv.kindOf "row" = some .local) (hk2 : cenv.kindOf "end" = some .local) (hsk : cenv.scope.kind = .function) (hC : cenv.locals = C) (H : W β h₀ h ((C, NsO []) :: (D, ListO []) :: (I, LItO lst 0) :: l))
    (turn : ∀ v lc h' t' te tr (QQ : Value → Shared → Prop), (∀ u h'' t'', W β h₀ h'' ((C, NsO [("end", .int (gm v).2 te), ("row", .str (gm v).1 tr)]) :: lc) → QQ (.int (f v) u) (S s h'' t'')) → v ∈ vs → W β h₀ h' l → W β h₀ h' ((C, NsO [("end", .int (gm v).2 te), ("row", .str (gm v).1 tr)]) :: lc) → wpAny β.M A (eval elt cenv) QQ NoE (S s h' t'))
    (done : ∀ ys bs h' t', W β h₀ h' ((C, NsO bs) :: (D, ListO ys) :: l) → IntsAre ys (vs.map f) → R (.ok .next) (S s h' t')) :
    codeAny β.M A (.compLoop (.ListComp elt [⟨.Tuple [.Name "row" p₁, .Name "end" p₂] cc p₃, iter, [], 0⟩] scope pos) 0 (.ref I) (.ref D) cenv) R (S s h t) := by
  subst hC
  refine r_cloopL hA (fun i ys l' => ys.length ≤ i ∧ ∃ bs, l' = (cenv.locals, NsO bs) :: l ∧ IntsAre ys ((vs.take i).map f) ∧ (bs = ([] : B) ∨ ∃ x y, bs = ([("end", x), ("row", y)] : B))) hN (H.perm (perm3 _ _ _ _)) ⟨Nat.le_refl _, [], rfl, .nil, .inl rfl⟩ (fun i ys l j => j.1)
    (go_tup (games_ref (hg _ (H.sub (.cons _ (.cons _ (.cons _ (List.Sublist.refl _))))))))  (fun i ys l' h j H => by obtain ⟨_, _, rfl, _⟩ := j; exact hl _ (H.sub (.cons _ (.cons _ (.cons _ (List.Sublist.refl _)))))) ?_ ?_
  · rintro i v ys l' h' t' hv ⟨hy, bs, rfl, hys, hbs⟩ H
    have hvm := List.mem_of_getElem? hv
    refine gameStore hA H (hg _ (H.sub (.cons _ (.cons _ (.cons _ (List.Sublist.refl _))))) v hvm) hk1 hk2 hsk rfl hbs ?_
    clear H
    intro te tr h₂ t₂ H
    refine TestsP.nil ?_
    rw [if_pos rfl]
    refine turn v _ h₂ t₂ te tr _ (fun u h'' t'' H₃ => ?_) hvm (H.sub (.cons _ (.cons _ (.cons _ (List.Sublist.refl _))))) H
    exact .mk (H₃.perm (perm3l _ _ _ _)) ⟨by simp; exact hy, _, rfl, by rw [map_take_succ _ _ hv]; exact ints_snoc hys _ _, .inr ⟨_, _, rfl⟩⟩
  · rintro ys l' h' t' ⟨hy, bs, rfl, hys, hbs⟩ H
    rw [List.take_length] at hys
    exact done ys bs h' t' H.swap hys
/-- the games of a kind, counted -/
theorem loopGF {c iter : Expr} {p₀ p₁ p₂ p₃ : Pos} {cc : Nat} {scope : Scope} {pos : Pos} {gm : Value → Str × Int} {p : Value → Bool} {vs : List Value} {lst C D I : Addr} {R : Result → Shared → Prop} (hA : AOk A n) (hN : vs.length ≤ 1000)
    (hl : ∀ h', W β h₀ h' l → Has h' lst (ListO vs)) (hg : ∀ h', W β h₀ h' l → ∀ v ∈ vs, GameOk h' gm v)
    (hk1 : cenv.kindOf "row" = some .local) (hk2 : cenv.kindOf "end" = some .local) (hsk : cenv.scope.kind = .function) (hC : cenv.locals = C) (H : W β h₀ h ((C, NsO []) :: (D, ListO []) :: (I, LItO lst 0) :: l))
    (turn : ∀ v lc h' t' te tr (QQ : Bool → Shared → Prop), (∀ h'' t'', W β h₀ h'' ((C, NsO [("end", .int (gm v).2 te), ("row", .str (gm v).1 tr)]) :: lc) → QQ (p v) (S s h'' t'')) → v ∈ vs → W β h₀ h' l → W β h₀ h' ((C, NsO [("end", .int (gm v).2 te), ("row", .str (gm v).1 tr)]) :: lc) → wpAny β.M A (isTrue c cenv (eval c cenv)) QQ NoE (S s h' t'))
    (done : ∀ ys bs h' t', W β h₀ h' ((C, NsO bs) :: (D, ListO ys) :: l) → ys.length = (vs.filter p).length → R (.ok .next) (S s h' t')) :
    codeAny β.M A (.compLoop (.ListComp (.Name "row" p₀) [⟨.Tuple [.Name "row" p₁, .Name "end" p₂] cc p₃, iter, [c], 0⟩] scope pos) 0 (.ref I) (.ref D) cenv) R (S s h t) := by
  subst hC
  refine r_cloopL hA (fun i ys l' => ys.length = ((vs.take i).filter p).length ∧ ∃ bs, l' = (cenv.locals, NsO bs) :: l ∧ (bs = ([] : B) ∨ ∃ x y, bs = ([("end", x), ("row", y)] : B))) hN (H.perm (perm3 _ _ _ _)) ⟨rfl, [], rfl, .inl rfl⟩
    (fun i ys l j => by rw [j.1]; exact Nat.le_trans (List.length_filter_le _ _) (List.length_take_le _ _))
    (go_tup (games_ref (hg _ (H.sub (.cons _ (.cons _ (.cons _ (List.Sublist.refl _))))))))  (fun i ys l' h j H => by obtain ⟨_, _, rfl, _⟩ := j; exact hl _ (H.sub (.cons _ (.cons _ (.cons _ (List.Sublist.refl _)))))) ?_ ?_
  · rintro i v ys l' h' t' hv ⟨hy, bs, rfl, hbs⟩ H
    have hvm := List.mem_of_getElem? hv
    refine gameStore hA H (hg _ (H.sub (.cons _ (.cons _ (.cons _ (List.Sublist.refl _))))) v hvm) hk1 hk2 hsk rfl hbs ?_
    clear H
    intro te tr h₂ t₂ H
    refine TestsP.one (turn v _ h₂ t₂ te tr _ (fun h'' t'' H₃ => ?_) hvm (H.sub (.cons _ (.cons _ (.cons _ (List.Sublist.refl _))))) H)
    have e : (vs.take (i + 1)).filter p = (vs.take i).filter p ++ [v].filter p := by rw [List.take_add_one, hv, List.filter_append]; rfl
    cases hp : p v with
    | true =>
      rw [if_pos rfl]
      refine r_local H₃ hsk hk1 (.head _) rfl (by decide) ?_
      exact .mk (H₃.perm (perm3l _ _ _ _)) ⟨by rw [e]; simp [hp, hy], _, rfl, .inr ⟨_, _, rfl⟩⟩
    | false =>
      rw [if_neg (by simp)]
      exact .mk (H₃.perm (perm3l _ _ _ _)) ⟨by rw [e]; simp [hp, hy], _, rfl, .inr ⟨_, _, rfl⟩⟩
  · rintro ys l' h' t' ⟨hy, bs, rfl, hbs⟩ H
    rw [List.take_length] at hy
    exact done ys bs h' t' H.swap hy
/-- the games made -/
noncomputable def GamesAt (g : Str → Int) (ys : List Value) (gs : Led) (xs : List Str) : Prop := ys.length = xs.length ∧ ∀ (i : Nat) (x : Str), xs[i]? = some x → ∃ (b : Addr) (u u' : Tok), ys[i]? = some (Value.ref b) ∧ (b, TupO [.str x u, .int (g x) u']) ∈ gs
theorem loopGC {elt iter : Expr} {p₁ : Pos} {scope : Scope} {pos : Pos} {g : Str → Int} {vs : List Value} {xs : List Str} {lst C D I : Addr} {R : Result → Shared → Prop} (hA : AOk A n) (hN : vs.length ≤ 1000)
    (hl : ∀ h', W β h₀ h' l → Has h' lst (ListO vs)) (hx : StrsAre vs xs)
    (hk1 : cenv.kindOf "row" = some .local) (hsk : cenv.scope.kind = .function) (hC : cenv.locals = C) (H : W β h₀ h ((C, NsO []) :: (D, ListO []) :: (I, LItO lst 0) :: l))
    (turn : ∀ x lc h' t' tr (QQ : Value → Shared → Prop), (∀ b u u' h'' t'', W β h₀ h'' ((b, TupO [.str x u, .int (g x) u']) :: (C, NsO [("row", .str x tr)]) :: lc) → QQ (.ref b) (S s h'' t'')) → x ∈ xs → W β h₀ h' l → W β h₀ h' ((C, NsO [("row", .str x tr)]) :: lc) → wpAny β.M A (eval elt cenv) QQ NoE (S s h' t'))
    (done : ∀ ys bs gs h' t', W β h₀ h' ((C, NsO bs) :: (D, ListO ys) :: (gs ++ l)) → GamesAt g ys gs xs → R (.ok .next) (S s h' t')) :
    codeAny β.M A (.compLoop (.ListComp elt [⟨.Name "row" p₁, iter, [], 0⟩] scope pos) 0 (.ref I) (.ref D) cenv) R (S s h t) := by
  subst hC
  have hxl := strs_len hx
  refine r_cloopL hA (fun i ys l' => ys.length ≤ i ∧ ∃ bs gs, l' = (cenv.locals, NsO bs) :: (gs ++ l) ∧ GamesAt g ys gs (xs.take i) ∧ (bs = ([] : B) ∨ ∃ x, bs = ([("row", x)] : B))) hN (H.perm (perm3 _ _ _ _)) ⟨Nat.le_refl _, [], [], rfl, ⟨rfl, fun i x hx => by simp at hx⟩, .inl rfl⟩ (fun i ys l j => j.1)
    go_name (fun i ys l' h j H => by obtain ⟨_, _, gs, rfl, _⟩ := j; exact hl _ (H.sub (.cons _ (.cons _ (.cons _ (List.sublist_append_right _ _)))))) ?_ ?_
  · rintro i v ys l' h' t' hv ⟨hy, bs, gs, rfl, hys, hbs⟩ H
    obtain ⟨x, tr, rfl, hxi⟩ := strs_get hx hv
    refine wpAny_assign_Name (r_storeJ H hk1 hsk hbs (.tail (.tail .head)) ?_)
    clear H
    intro h₂ t₂ H
    refine TestsP.nil ?_
    rw [if_pos rfl]
    refine turn x _ h₂ t₂ tr _ (fun b u u' h'' t'' H₃ => ?_) (List.mem_of_getElem? hxi) (H.sub (.cons _ (.cons _ (.cons _ (List.sublist_append_right _ _))))) (H.perm (perm3r _ _ _ _))
    refine .mk (H₃.perm (l' := _ :: _ :: _ :: ((b, TupO [.str x u, .int (g x) u']) :: gs ++ l)) (((perm3l _ _ _ _).cons _).trans ((List.Perm.swap _ _ _).trans ((perm3l _ _ _ _).cons _)))) ⟨by simp; exact hy, _, _, rfl, ⟨?_, ?_⟩, .inr ⟨_, rfl⟩⟩
    · have := hys.1
      rw [List.take_add_one, hxi]
      simp [this]
    · intro j y hj
      have hlen := hys.1
      have hil : i < xs.length := (List.getElem?_eq_some_iff.mp hxi).1
      rw [List.length_take, Nat.min_eq_left (by omega)] at hlen
      rw [List.take_add_one, hxi] at hj
      by_cases hji : j < i
      · rw [List.getElem?_append_left (by simp; omega)] at hj
        obtain ⟨b', w, w', e1, e2⟩ := hys.2 j y hj
        exact ⟨b', w, w', by rw [List.getElem?_append_left (by omega)]; exact e1, .tail _ e2⟩
      · have hje : j = i := by
          have := (List.getElem?_eq_some_iff.mp hj).1
          simp at this; omega
        subst hje
        have : y = x := by
          rw [List.getElem?_append_right (by simp; omega)] at hj
          simp [Nat.min_eq_left (Nat.le_of_lt hil)] at hj
          exact hj.symm
        subst this
        exact ⟨b, u, u', by rw [List.getElem?_append_right (by omega)]; simp [hlen], .head _⟩
  · rintro ys l' h' t' ⟨hy, bs, gs, rfl, hys, hbs⟩ H
    rw [hxl, List.take_length] at hys
    exact done ys bs gs h' t' H.swap hys
end
section
variable {β : Base} {A : Around} {s : Shared} {h₀ h h' : Heap} {t n : Nat} {l l' : Led} {env cenv : Env} {E : Value → Shared → Prop} {a : Addr} {P : OP} {Q : Value → Shared → Prop}
theorem r_cellH {x : Str} {pos : Pos} {c : Addr} {v : Value} (hm : Has h c (CellO (some v))) (hk : env.scope.kind = .function) (hl : env.kindOf x = some .cell) (hc : env.cells.lookup x = some c)
    (hd : (x == ("__debug__" : Str)) = false) (k : Q v (S s h t)) : wpAny β.M A (eval (.Name x pos) env) Q E (S s h t) := by
  obtain ⟨⟨o, e, p⟩, _⟩ := hm
  exact wpAny_Name (wpAny_loadName_cell hk hl hc ⟨o, e, p⟩ k) hd
/-- a list, whatever else the object bears -/
noncomputable def ListI (vs : List Value) : OP := fun o => o.cls = .type "list" ∧ ∃ n, o.data = .seq vs.toArray n
theorem Has.isListI {vs : List Value} (x : Has h a (ListI vs)) : h.IsList a vs.toArray := let ⟨⟨o, e, c, n, d⟩, _⟩ := x; ⟨o, e, c, n, d⟩
theorem r_sliceI {value slice : Expr} {ls i : Addr} {vs : List Value} {vl vu vk : Value} {lo hi st : Option Int} {ops : List Value} (H : W β h₀ h ((i, SliceO vl vu vk) :: l)) (hl : Has h ls (ListI vs))
    (pl : IsPart vl lo) (pu : IsPart vu hi) (pk : IsPart vk st) (h0 : st ≠ some 0) (hn : vs.length < 1000)
    (hs : subscripted slice false (.ref ls) (.ref i) = operate ops (getItem (.ref ls) (.ref i)))
    (k : ∀ b h' t', W β h₀ h' ((b, ListO (slicePick vs.toArray lo hi st).toList) :: l) → Q (.ref b) (S s h' t')) : wpAny β.M A (subscriptTail value slice (.ref ls) (.ref i)) Q E (S s h t) := by
  have hz := sizeLine_eq
  obtain ⟨o, e, p, q⟩ := H.get (.head _)
  refine tail_any hl.isListI.typeIs slot_list_getitem.lookup (wpAny_getItem_list_slice hl.isListI ⟨o, e, p, q⟩ pl pu pk h0 (k _ _ _ ?_) (by simp; omega)) hs
  exact (H.sub (List.sublist_cons_self _ _)).push _ ⟨0, by simp⟩ rfl
theorem r_neL {a b : Addr} {vs ws : List Value} {ns ms : List Int} (hA : AOk A n) (ha : Has h a (ListO vs)) (hb : Has h b (ListO ws)) (hi : IntsAre vs ns) (hj : IntsAre ws ms) (k : Q (.bool (!decide (ns = ms))) (S s h t)) :
    wpAny β.M A (compareOp .NotEq (.ref a) (.ref b)) Q E (S s h t) :=
  ke_ne_ints ha.isList hb.isList hi hj (by have := hA.units; omega) k
end
local macro_rules | `(tactic| walk_at "name") => `(tactic| ((with_reducible refine' r_cellH ?n1 ?n2 ?n3 ?n4 ?n5 ?_); (case n2 => exact rfl); (case n3 => exact rfl); (case n4 => exact rfl); (case n5 => exact rfl); (case n1 => first | assumption | walk_at "has")))
noncomputable def signsOf (kinds : Nat) : Str := Txt.slice "abc" none (some (kinds : Int))
/-- the three menus -/
noncomputable def Conf (i : Int) (kinds size tosses : Nat) : Prop := (i = 0 ∧ kinds = 2 ∧ size = 3 ∧ tosses = 5) ∨ (i = 1 ∧ kinds = 3 ∧ size = 2 ∧ tosses = 4) ∨ (i = 2 ∧ kinds = 2 ∧ size = 4 ∧ tosses = 6)
noncomputable def rowsOkB (signs : Str) (size : Nat) : Bool := (List.range (size + 1)).all fun k => decide ((rowsF signs k).length ≤ 1000) && (rowsF signs k).all fun x => decide (x.length ≤ 100)
theorem rowsOk_of {signs : Str} {size : Nat} (h : rowsOkB signs size = true) : RowsOk signs size := by
  intro k hk
  unfold rowsOkB at h
  have := List.all_eq_true.mp h k (List.mem_range.mpr (by omega))
  simp only [Bool.and_eq_true, decide_eq_true_eq, List.all_eq_true] at this
  exact this
theorem conf_facts {i : Int} {kinds size tosses : Nat} (h : Conf i kinds size tosses) : (signsOf kinds).cps.all (· < 128) = true ∧ RowsOk (signsOf kinds) size ∧ RowsOk (signsOf kinds) tosses ∧ size ≤ 4 ∧ tosses ≤ 6 ∧ 2 ≤ size ∧
    8 ≤ (rowsF (signsOf kinds) size).length ∧ (rowsF (signsOf kinds) size).length ≤ 16 := by
  rcases h with ⟨_, rfl, rfl, rfl⟩ | ⟨_, rfl, rfl, rfl⟩ | ⟨_, rfl, rfl, rfl⟩ <;>
  exact ⟨by decide +kernel, rowsOk_of (by decide +kernel), rowsOk_of (by decide +kernel), by decide, by decide, by decide, by decide +kernel, by decide +kernel⟩
noncomputable def plainB (x : Str) : Bool := x.cps.toList.all fun c => decide (c < 256 ∧ c ≠ 35)
theorem plain_of {x : Str} (h : plainB x = true) : Plain x := fun c hc => of_decide_eq_true (List.all_eq_true.mp h c hc)
theorem conf_rows {i : Int} {kinds size tosses : Nat} (h : Conf i kinds size tosses) : (∀ x ∈ rowsF (signsOf kinds) size, x.length = size ∧ Plain x) ∧ ∀ x ∈ rowsF (signsOf kinds) tosses, x.length = tosses ∧ Plain x := by
  have key : ∀ {l : List Str} {n : Nat}, (l.all fun x => x.length == n && plainB x) = true → ∀ x ∈ l, x.length = n ∧ Plain x := fun h x hx => by
    have := List.all_eq_true.mp h x hx
    simp only [Bool.and_eq_true, beq_iff_eq] at this
    exact ⟨this.1, plain_of this.2⟩
  rcases h with ⟨_, rfl, rfl, rfl⟩ | ⟨_, rfl, rfl, rfl⟩ | ⟨_, rfl, rfl, rfl⟩ <;> exact ⟨key (by decide +kernel), key (by decide +kernel)⟩

-- the games in the heap
noncomputable def gmOf (h : Heap) (v : Value) : Str × Int := match v with
  | .ref b => match h.get? b with
    | some o => match o.data with
      | .seq vs _ => match vs.toList with
        | [.str x _, .int e _] => (x, e)
        | _ => ("", 0)
      | _ => ("", 0)
    | none => ("", 0)
  | _ => ("", 0)
section
variable {β : Base} {h₀ h h' : Heap} {l l' gs : Led}
theorem gm_of {b : Addr} {x : Str} {e : Int} {u u' : Tok} (hb : Has h b (TupO [.str x u, .int e u'])) : gmOf h (.ref b) = (x, e) := by
  obtain ⟨⟨o, eo, n, rfl⟩, _⟩ := hb
  simp only [gmOf, eo]
theorem games_gm {g : Str → Int} {ys : List Value} {xs : List Str} (H : W β h₀ h l) (hs : ∀ p ∈ gs, p ∈ l) (hg : GamesAt g ys gs xs) : ys.map (gmOf h) = xs.map fun x => (x, g x) := by
  obtain ⟨hlen, hg⟩ := hg
  apply List.ext_getElem?
  intro i
  rw [List.getElem?_map, List.getElem?_map]
  cases hx : xs[i]? with
  | none =>
    have : ys[i]? = none := by rw [List.getElem?_eq_none_iff] at hx ⊢; omega
    rw [this]; rfl
  | some x =>
    obtain ⟨b, u, u', e1, e2⟩ := hg i x hx
    rw [e1]
    show some _ = some _
    rw [gm_of (W.has H (hs _ e2))]
theorem games_ok {h₁ : Heap} {g : Str → Int} {ys : List Value} {xs : List Str} (H : W β h₀ h l) (hs : ∀ p ∈ gs, p ∈ l) (hg : GamesAt g ys gs xs) (H' : W β h₀ h' l') (hs' : ∀ p ∈ gs, p ∈ l') : ∀ v ∈ ys, GameOk h' (gmOf h) v := by
  intro v hv
  obtain ⟨i, hi⟩ := List.mem_iff_getElem?.mp hv
  obtain ⟨hlen, hg⟩ := hg
  have hlt : i < xs.length := by have := (List.getElem?_eq_some_iff.mp hi).1; omega
  obtain ⟨b, u, u', e1, e2⟩ := hg i xs[i] (List.getElem?_eq_getElem hlt)
  rw [e1] at hi
  cases hi
  refine ⟨b, u, u', rfl, ?_⟩
  rw [gm_of (W.has H (hs _ e2))]
  exact W.has H' (hs' _ e2)
theorem games_mem {h₁ : Heap} {g : Str → Int} {ys : List Value} {xs : List Str} (H : W β h₀ h l) (hs : ∀ p ∈ gs, p ∈ l) (hg : GamesAt g ys gs xs) : ∀ v ∈ ys, (gmOf h v).1 ∈ xs ∧ (gmOf h v).2 = g (gmOf h v).1 := by
  intro v hv
  have e := games_gm H hs hg
  have : gmOf h v ∈ xs.map fun x => (x, g x) := e ▸ List.mem_map_of_mem hv
  obtain ⟨x, hx, e2⟩ := List.mem_map.mp this
  rw [← e2]
  exact ⟨hx, rfl⟩
end
noncomputable def bodyOf (fd : FuncData) : List Stmt := match fd.body with | .stmts b => b | _ => []
theorem len_ints {vs : List Value} {ns : List Int} {f : Nat → Int} {N : Nat} (h : IntsAre vs ns) (e : ns = (List.range N).map f) : vs.length = N := by rw [h.length, e]; simp
theorem get_ints {vs : List Value} {f : Nat → Int} {N i : Nat} (h : IntsAre vs ((List.range N).map f)) (hi : i < N) : ∃ u, vs[i]? = some (.int (f i) u) := h.get i (f i) (by simp [hi])
/-- how many games pass -/
noncomputable def cntF (gm : Value → Str × Int) (ys : List Value) (p : Int → Bool) : Int := ((ys.filter fun v => p (gm v).2).length : Nat)
theorem countsF_len (a b w T : Nat) : T + 1 ≤ (countsF a b w T).length := by
  unfold countsF digF
  simp
  omega
theorem countsF_get {a b w T t : Nat} {cvs : List Value} (h : IntsAre cvs (countsF a b w T)) (ht : t ≤ T) : ∃ u, cvs[t]? = some (.int ((countsF a b w T).getD t 0) u) := by
  have hl := countsF_len a b w T
  refine h.get t _ ?_
  rw [List.getD_eq_getElem?_getD, List.getElem?_eq_getElem (by omega)]
  rfl
theorem follow_bits {kinds T t : Nat} (hk : kinds ≤ 3) (hT : T ≤ 6) : Builtin.Int.intBits ((kinds : Int) ^ (T - t)) ≤ 64 := by
  have h1 : kinds ^ (T - t) ≤ 3 ^ 6 := Nat.le_trans (Nat.pow_le_pow_left hk _) (Nat.pow_le_pow_right (by decide) (by omega))
  have e : (kinds : Int) ^ (T - t) = ((kinds ^ (T - t) : Nat) : Int) := by push_cast; rfl
  rw [e]
  refine intBits_lt (Int.natCast_nonneg _) ?_
  have : kinds ^ (T - t) < 2 ^ 64 := by omega
  exact_mod_cast this
theorem cnt_le (gm : Value → Str × Int) (ys : List Value) (p : Value → Bool) : (ys.filter p).length ≤ ys.length := List.length_filter_le _ _
theorem leadF_bits {one other : Str} {w : Nat} (h1 : one.length ≤ 4) (hw1 : 1 ≤ w) (hw : w ≤ 15) : Builtin.Int.intBits (leadF one other w) ≤ 60 := by
  have h2 : (1 : Int) < 2 ^ w := by
    have : 2 ^ 1 ≤ 2 ^ w := Nat.pow_le_pow_right (by decide) hw1
    have h3 : (1 : Nat) < 2 ^ w := by omega
    exact_mod_cast h3
  obtain ⟨b1, b2⟩ := valF_bound w ((List.range one.length).map (leadDig one other)) (fun d hd => by
    obtain ⟨j, _, rfl⟩ := List.mem_map.mp hd
    unfold leadDig
    split <;> omega)
  refine intBits_lt b1 ?_
  refine Int.lt_of_lt_of_le b2 ?_
  have h4 : w * ((List.range one.length).map (leadDig one other)).length ≤ 15 * 4 := by
    refine Nat.mul_le_mul hw ?_
    simpa using h1
  have h5 : 2 ^ (w * ((List.range one.length).map (leadDig one other)).length) ≤ 2 ^ 60 := Nat.pow_le_pow_right (by decide) h4
  exact_mod_cast h5
local macro_rules | `(tactic| walk_at "lit") => `(tactic| ((conv in (List.drop _ (bodyOf _)) => whnf); (conv in (occs := *) (FuncData.scope (fdAt _ 124)) => all_goals whnf)))
local macro_rules | `(tactic| walk_at "sub") => `(tactic| first | exact List.Sublist.refl _ | (refine List.Sublist.cons _ ?_; walk_at "sub"))
local macro_rules | `(tactic| walk_at "subB") => `(tactic| first | exact List.Sublist.refl _ | (refine List.Sublist.cons_cons _ ?_; walk_at "subB") | (refine List.Sublist.cons _ ?_; walk_at "subB"))
-- the plain law: no program in sight
noncomputable def wordOf (one : Str) (p : Str × Int) : Bool := Txt.slice p.1 (some (p.2 - one.length)) (some p.2) == one
noncomputable def P1 (one : Str) (T t : Nat) (p : Str × Int) : Bool := p.2 == (t : Int) && wordOf one p && decide (p.2 ≤ (T : Int))
noncomputable def P2 (one : Str) (T t : Nat) (p : Str × Int) : Bool := p.2 == (t : Int) && !wordOf one p && decide (p.2 ≤ (T : Int))
noncomputable def P3 (t : Nat) (p : Str × Int) : Bool := decide (p.2 > (t : Int))
noncomputable def cX (xs : List Str) (g : Str → Int) (P : Str × Int → Bool) : Nat := (xs.filter fun x => P (x, g x)).length
/-- what holds of two words and a width -/
noncomputable def Fine (xs : List Str) (one other : Str) (kinds T w : Nat) : Prop :=
  ∃ a a1 a2 b pr : Nat,
    leadF one one w * leadF other other w - leadF one other w * leadF other one w = ((pr : Nat) : Int) ∧
    ((2 : Int) ^ w - (kinds : Int)) * ((pr : Nat) : Int) + leadF one one w + leadF other other w - leadF one other w - leadF other one w = ((b : Nat) : Int) ∧
    Builtin.Int.intBits ((pr : Nat) : Int) ≤ 1000 ∧ a = 2 ^ w * pr ∧ CountsOk a b w T ∧
    leadF other other w - leadF other one w = ((a1 : Nat) : Int) ∧ leadF one one w - leadF one other w = ((a2 : Nat) : Int) ∧ CountsOk a1 b w T ∧ CountsOk a2 b w T ∧
    (∀ t, t ≤ T → (cX xs (fun x => walkedF x one other) (P1 one T t) : Int) = (countsF a1 b w T).getD t 0 * (kinds : Int) ^ (T - t)) ∧
    (∀ t, t ≤ T → (cX xs (fun x => walkedF x one other) (P2 one T t) : Int) = (countsF a2 b w T).getD t 0 * (kinds : Int) ^ (T - t)) ∧
    (∀ t, t ≤ T → (cX xs (fun x => walkedF x one other) (P3 t) : Int) = (countsF a b w T).getD t 0 * (kinds : Int) ^ (T - t))

theorem cnt_conv {ys : List Value} {gm : Value → Str × Int} {xs : List Str} {g : Str → Int} (hm : ys.map gm = xs.map fun x => (x, g x)) (P : Str × Int → Bool) : (ys.filter fun v => P (gm v)).length = cX xs g P := by
  have e1 : (ys.filter fun v => P (gm v)).length = ((ys.map gm).filter P).length := by rw [List.filter_map, List.length_map]; rfl
  have e2 : cX xs g P = ((xs.map fun x => (x, g x)).filter P).length := by rw [List.filter_map, List.length_map]; rfl
  rw [e1, e2, hm]
theorem conv1 {ys : List Value} {gm : Value → Str × Int} {xs : List Str} {g : Str → Int} (hm : ys.map gm = xs.map fun x => (x, g x)) (one : Str) (T t : Nat) :
    cntF gm ((ys.filter (byEnd gm T)).filter (byWord gm one)) (fun e => e == (t : Int)) = (cX xs g (P1 one T t) : Int) := by
  rw [← cnt_conv hm]
  unfold cntF
  rw [List.filter_filter, List.filter_filter]
  rfl
theorem conv2 {ys : List Value} {gm : Value → Str × Int} {xs : List Str} {g : Str → Int} (hm : ys.map gm = xs.map fun x => (x, g x)) (one : Str) (T t : Nat) :
    cntF gm ((ys.filter (byEnd gm T)).filter fun v => !byWord gm one v) (fun e => e == (t : Int)) = (cX xs g (P2 one T t) : Int) := by
  rw [← cnt_conv hm]
  unfold cntF
  rw [List.filter_filter, List.filter_filter]
  rfl
theorem conv3 {ys : List Value} {gm : Value → Str × Int} {xs : List Str} {g : Str → Int} (hm : ys.map gm = xs.map fun x => (x, g x)) (t : Nat) :
    cntF gm ys (fun e => decide (e > (t : Int))) = (cX xs g (P3 t) : Int) := by
  rw [← cnt_conv hm]
  rfl
theorem conv4 {ys : List Value} {gm : Value → Str × Int} {xs : List Str} {g : Str → Int} (hm : ys.map gm = xs.map fun x => (x, g x)) (T : Nat) :
    ((ys.filter fun v => !byEnd gm T v).length : Int) = (cX xs g (P3 T) : Int) := by
  rw [← cnt_conv hm]
  have : (fun v => !byEnd gm T v) = fun v => P3 T (gm v) := by
    funext v
    unfold byEnd P3
    by_cases h : (gm v).2 ≤ (T : Int)
    · simp [h]
    · simp [h]; lia
  rw [this]

-- the digits of a quotient
theorem places_le {q w N : Nat} (hw : 1 ≤ w) (hq : q < 2 ^ (w * N)) : places q w ≤ N := by
  have hb := intBits_lt (x := (q : Int)) (B := w * N) (Int.natCast_nonneg _) (by exact_mod_cast hq)
  unfold places
  have : (Builtin.Int.intBits (q : Int) + w - 1) / w < N + 1 := by
    refine Nat.div_lt_of_lt_mul ?_
    rw [Nat.mul_succ]
    lia
  lia
theorem countsF_digit {a b w T t : Nat} (hw : 1 ≤ w) (hq : a * 2 ^ (w * T) / b < 2 ^ (w * (T + 1))) (ht : t ≤ T) : (countsF a b w T).getD t 0 = ((a * 2 ^ (w * T) / b / 2 ^ (w * (T - t)) % 2 ^ w : Nat) : Int) := by
  have hN := places_le hw hq
  unfold countsF
  generalize a * 2 ^ (w * T) / b = q at hN hq
  have hbits := bits_digits (n := w) (N := places q w) (B := Builtin.Int.intBits (q : Int)) hw rfl
  have hqb := lt_intBits q
  generalize places q w = N at hN hbits
  have hlen : (digF w N q ++ List.replicate (T + 1 - N) (0 : Int)).length = T + 1 := by simp [digF]; lia
  rw [List.getD_eq_getElem?_getD, List.getElem?_reverse (by lia), hlen, show T + 1 - 1 - t = T - t by lia]
  by_cases hj : T - t < N
  · rw [List.getElem?_append_left (by simp [digF]; lia)]
    simp [digF, hj]
  · rw [List.getElem?_append_right (by simp [digF]; lia)]
    have h0 : q / 2 ^ (w * (T - t)) = 0 := by
      refine Nat.div_eq_of_lt (Nat.lt_of_lt_of_le hqb (Nat.pow_le_pow_right (by decide) (Nat.le_trans hbits ?_)))
      exact Nat.mul_le_mul_left _ (by lia)
    rw [h0]
    have : T - t - (digF w N q).length < T + 1 - N := by simp [digF]; lia
    rw [List.getElem?_replicate, if_pos this]
    simp
theorem countsOk_of {a b w T : Nat} (ha : 0 < a) (hw : 8 ≤ w) (hw2 : w ≤ 15) (hT : T ≤ 6) (hb : 2 ^ (2 * w) ≤ b) (hb2 : b < 2 ^ 250) (hab : a * 2 ^ (w * T) < 2 ^ (20 * w)) (hq : a * 2 ^ (w * T) / b < 2 ^ (w * (T + 1))) : CountsOk a b w T := by
  have hb0 : 0 < b := Nat.lt_of_lt_of_le (Nat.pow_pos (by decide)) hb
  have h1 := intBits_lt (x := (b : Int)) (B := 250) (Int.natCast_nonneg _) (by exact_mod_cast hb2)
  have h2 : a < 2 ^ (20 * w) := Nat.lt_of_le_of_lt (Nat.le_mul_of_pos_right _ (Nat.pow_pos (by decide))) hab
  have h3 := intBits_lt (x := (a : Int)) (B := 20 * w) (Int.natCast_nonneg _) (by exact_mod_cast h2)
  have h4 := intBits_lt (x := ((a * 2 ^ (w * T) : Nat) : Int)) (B := 20 * w) (Int.natCast_nonneg _) (by exact_mod_cast hab)
  have h5 : 2 * w < Builtin.Int.intBits (b : Int) := by
    refine Nat.lt_of_not_le fun h => ?_
    have := lt_intBits b
    have h6 : 2 ^ Builtin.Int.intBits (b : Int) ≤ 2 ^ (2 * w) := Nat.pow_le_pow_right (by decide) h
    lia
  have h7 := places_le (w := w) (by lia) hq
  refine ⟨ha, hb0, by lia, by lia, by lia, by lia, by lia, ?_, by lia⟩
  unfold places
  have : (Builtin.Int.intBits ((a * 2 ^ (w * T) : Nat) : Int) + Builtin.Int.intBits (b : Int) - 1) / Builtin.Int.intBits (b : Int) < 11 := by
    refine Nat.div_lt_of_lt_mul ?_
    lia
  lia
noncomputable def winT0 : List (List Nat) := [[0,0,0],[0,0,1],[0,1,2],[0,1,3],[1,2,4],[1,2,5],[1,3,6],[1,3,7],[2,4,0],[2,4,1],[2,5,2],[2,5,3],[3,6,4],[3,6,5],[3,7,6],[3,7,7],[4,0,0],[4,0,1],[4,1,2],[4,1,3],[5,2,4],[5,2,5],[5,3,6],[5,3,7],[6,4,0],[6,4,1],[6,5,2],[6,5,3],[7,6,4],[7,6,5],[7,7,6],[7,7,7]]
noncomputable def digT0 : List (List (List Nat)) := [[[1,1,1],[1,1,0],[1,0,0],[1,0,0],[0,0,0],[0,0,0],[0,0,0],[0,0,0]],[[0,0,0],[0,0,1],[0,1,0],[0,1,0],[1,0,0],[1,0,0],[1,0,0],[1,0,0]],[[1,0,0],[1,0,0],[1,0,1],[1,0,0],[0,1,0],[0,1,0],[0,0,0],[0,0,0]],[[0,0,0],[0,0,0],[0,0,0],[0,0,1],[1,0,0],[1,0,0],[1,1,0],[1,1,0]],[[1,1,0],[1,1,0],[1,0,0],[1,0,0],[0,0,1],[0,0,0],[0,0,0],[0,0,0]],[[0,0,0],[0,0,0],[0,1,0],[0,1,0],[1,0,0],[1,0,1],[1,0,0],[1,0,0]],[[1,0,0],[1,0,0],[1,0,0],[1,0,0],[0,1,0],[0,1,0],[0,0,1],[0,0,0]],[[0,0,0],[0,0,0],[0,0,0],[0,0,0],[1,0,0],[1,0,0],[1,1,0],[1,1,1]]]
noncomputable def winT1 : List (List Nat) := [[0,0,0],[0,0,1],[0,0,2],[0,1,3],[0,1,4],[0,1,5],[0,2,6],[0,2,7],[0,2,8],[1,3,0],[1,3,1],[1,3,2],[1,4,3],[1,4,4],[1,4,5],[1,5,6],[1,5,7],[1,5,8],[2,6,0],[2,6,1],[2,6,2],[2,7,3],[2,7,4],[2,7,5],[2,8,6],[2,8,7],[2,8,8],[3,0,0],[3,0,1],[3,0,2],[3,1,3],[3,1,4],[3,1,5],[3,2,6],[3,2,7],[3,2,8],[4,3,0],[4,3,1],[4,3,2],[4,4,3],[4,4,4],[4,4,5],[4,5,6],[4,5,7],[4,5,8],[5,6,0],[5,6,1],[5,6,2],[5,7,3],[5,7,4],[5,7,5],[5,8,6],[5,8,7],[5,8,8],[6,0,0],[6,0,1],[6,0,2],[6,1,3],[6,1,4],[6,1,5],[6,2,6],[6,2,7],[6,2,8],[7,3,0],[7,3,1],[7,3,2],[7,4,3],[7,4,4],[7,4,5],[7,5,6],[7,5,7],[7,5,8],[8,6,0],[8,6,1],[8,6,2],[8,7,3],[8,7,4],[8,7,5],[8,8,6],[8,8,7],[8,8,8]]
noncomputable def digT1 : List (List (List Nat)) := [[[1,1],[1,0],[1,0],[0,0],[0,0],[0,0],[0,0],[0,0],[0,0]],[[0,0],[0,1],[0,0],[1,0],[1,0],[1,0],[0,0],[0,0],[0,0]],[[0,0],[0,0],[0,1],[0,0],[0,0],[0,0],[1,0],[1,0],[1,0]],[[1,0],[1,0],[1,0],[0,1],[0,0],[0,0],[0,0],[0,0],[0,0]],[[0,0],[0,0],[0,0],[1,0],[1,1],[1,0],[0,0],[0,0],[0,0]],[[0,0],[0,0],[0,0],[0,0],[0,0],[0,1],[1,0],[1,0],[1,0]],[[1,0],[1,0],[1,0],[0,0],[0,0],[0,0],[0,1],[0,0],[0,0]],[[0,0],[0,0],[0,0],[1,0],[1,0],[1,0],[0,0],[0,1],[0,0]],[[0,0],[0,0],[0,0],[0,0],[0,0],[0,0],[1,0],[1,0],[1,1]]]
noncomputable def winT2 : List (List Nat) := [[0,0,0],[0,0,1],[0,1,2],[0,1,3],[1,2,4],[1,2,5],[1,3,6],[1,3,7],[2,4,8],[2,4,9],[2,5,10],[2,5,11],[3,6,12],[3,6,13],[3,7,14],[3,7,15],[4,8,0],[4,8,1],[4,9,2],[4,9,3],[5,10,4],[5,10,5],[5,11,6],[5,11,7],[6,12,8],[6,12,9],[6,13,10],[6,13,11],[7,14,12],[7,14,13],[7,15,14],[7,15,15],[8,0,0],[8,0,1],[8,1,2],[8,1,3],[9,2,4],[9,2,5],[9,3,6],[9,3,7],[10,4,8],[10,4,9],[10,5,10],[10,5,11],[11,6,12],[11,6,13],[11,7,14],[11,7,15],[12,8,0],[12,8,1],[12,9,2],[12,9,3],[13,10,4],[13,10,5],[13,11,6],[13,11,7],[14,12,8],[14,12,9],[14,13,10],[14,13,11],[15,14,12],[15,14,13],[15,15,14],[15,15,15]]
noncomputable def digT2 : List (List (List Nat)) := [[[1,1,1,1],[1,1,1,0],[1,1,0,0],[1,1,0,0],[1,0,0,0],[1,0,0,0],[1,0,0,0],[1,0,0,0],[0,0,0,0],[0,0,0,0],[0,0,0,0],[0,0,0,0],[0,0,0,0],[0,0,0,0],[0,0,0,0],[0,0,0,0]],[[0,0,0,0],[0,0,0,1],[0,0,1,0],[0,0,1,0],[0,1,0,0],[0,1,0,0],[0,1,0,0],[0,1,0,0],[1,0,0,0],[1,0,0,0],[1,0,0,0],[1,0,0,0],[1,0,0,0],[1,0,0,0],[1,0,0,0],[1,0,0,0]],[[1,0,0,0],[1,0,0,0],[1,0,0,1],[1,0,0,0],[1,0,1,0],[1,0,1,0],[1,0,0,0],[1,0,0,0],[0,1,0,0],[0,1,0,0],[0,1,0,0],[0,1,0,0],[0,0,0,0],[0,0,0,0],[0,0,0,0],[0,0,0,0]],[[0,0,0,0],[0,0,0,0],[0,0,0,0],[0,0,0,1],[0,0,0,0],[0,0,0,0],[0,0,1,0],[0,0,1,0],[1,0,0,0],[1,0,0,0],[1,0,0,0],[1,0,0,0],[1,1,0,0],[1,1,0,0],[1,1,0,0],[1,1,0,0]],[[1,1,0,0],[1,1,0,0],[1,1,0,0],[1,1,0,0],[1,0,0,1],[1,0,0,0],[1,0,0,0],[1,0,0,0],[0,0,1,0],[0,0,1,0],[0,0,0,0],[0,0,0,0],[0,0,0,0],[0,0,0,0],[0,0,0,0],[0,0,0,0]],[[0,0,0,0],[0,0,0,0],[0,0,0,0],[0,0,0,0],[0,1,0,0],[0,1,0,1],[0,1,0,0],[0,1,0,0],[1,0,0,0],[1,0,0,0],[1,0,1,0],[1,0,1,0],[1,0,0,0],[1,0,0,0],[1,0,0,0],[1,0,0,0]],[[1,0,0,0],[1,0,0,0],[1,0,0,0],[1,0,0,0],[1,0,0,0],[1,0,0,0],[1,0,0,1],[1,0,0,0],[0,1,0,0],[0,1,0,0],[0,1,0,0],[0,1,0,0],[0,0,1,0],[0,0,1,0],[0,0,0,0],[0,0,0,0]],[[0,0,0,0],[0,0,0,0],[0,0,0,0],[0,0,0,0],[0,0,0,0],[0,0,0,0],[0,0,0,0],[0,0,0,1],[1,0,0,0],[1,0,0,0],[1,0,0,0],[1,0,0,0],[1,1,0,0],[1,1,0,0],[1,1,1,0],[1,1,1,0]],[[1,1,1,0],[1,1,1,0],[1,1,0,0],[1,1,0,0],[1,0,0,0],[1,0,0,0],[1,0,0,0],[1,0,0,0],[0,0,0,1],[0,0,0,0],[0,0,0,0],[0,0,0,0],[0,0,0,0],[0,0,0,0],[0,0,0,0],[0,0,0,0]],[[0,0,0,0],[0,0,0,0],[0,0,1,0],[0,0,1,0],[0,1,0,0],[0,1,0,0],[0,1,0,0],[0,1,0,0],[1,0,0,0],[1,0,0,1],[1,0,0,0],[1,0,0,0],[1,0,0,0],[1,0,0,0],[1,0,0,0],[1,0,0,0]],[[1,0,0,0],[1,0,0,0],[1,0,0,0],[1,0,0,0],[1,0,1,0],[1,0,1,0],[1,0,0,0],[1,0,0,0],[0,1,0,0],[0,1,0,0],[0,1,0,1],[0,1,0,0],[0,0,0,0],[0,0,0,0],[0,0,0,0],[0,0,0,0]],[[0,0,0,0],[0,0,0,0],[0,0,0,0],[0,0,0,0],[0,0,0,0],[0,0,0,0],[0,0,1,0],[0,0,1,0],[1,0,0,0],[1,0,0,0],[1,0,0,0],[1,0,0,1],[1,1,0,0],[1,1,0,0],[1,1,0,0],[1,1,0,0]],[[1,1,0,0],[1,1,0,0],[1,1,0,0],[1,1,0,0],[1,0,0,0],[1,0,0,0],[1,0,0,0],[1,0,0,0],[0,0,1,0],[0,0,1,0],[0,0,0,0],[0,0,0,0],[0,0,0,1],[0,0,0,0],[0,0,0,0],[0,0,0,0]],[[0,0,0,0],[0,0,0,0],[0,0,0,0],[0,0,0,0],[0,1,0,0],[0,1,0,0],[0,1,0,0],[0,1,0,0],[1,0,0,0],[1,0,0,0],[1,0,1,0],[1,0,1,0],[1,0,0,0],[1,0,0,1],[1,0,0,0],[1,0,0,0]],[[1,0,0,0],[1,0,0,0],[1,0,0,0],[1,0,0,0],[1,0,0,0],[1,0,0,0],[1,0,0,0],[1,0,0,0],[0,1,0,0],[0,1,0,0],[0,1,0,0],[0,1,0,0],[0,0,1,0],[0,0,1,0],[0,0,0,1],[0,0,0,0]],[[0,0,0,0],[0,0,0,0],[0,0,0,0],[0,0,0,0],[0,0,0,0],[0,0,0,0],[0,0,0,0],[0,0,0,0],[1,0,0,0],[1,0,0,0],[1,0,0,0],[1,0,0,0],[1,1,0,0],[1,1,0,0],[1,1,1,0],[1,1,1,1]]]
noncomputable def scan (p q : Nat) : List Nat → Nat → Nat
  | [], k => 2 * k
  | j :: l, k => if Nat.beq j p then 2 * k + 1 else if Nat.beq j q then 2 * k else scan p q l (k + 1)
noncomputable def winOf (ws : List Str) (size T : Nat) (x : Str) : List Nat := (List.range (T + 1 - size)).map fun i => ws.idxOf (sub x i (i + size))
theorem scan_find (p q : Nat) (idx : Nat → Nat) : ∀ n s k, scan p q ((List.range' s n).map idx) (k + s) = match (List.range' s n).find? (fun i => idx i == p || idx i == q) with
    | some i => 2 * (k + i) + (if idx i == p then 1 else 0)
    | none => 2 * (k + s + n) := by
  intro n
  induction n with
  | zero => intro s k; simp [scan]
  | succ n ih =>
    intro s k
    rw [List.range'_succ, List.map_cons, List.find?_cons]
    unfold scan
    by_cases h1 : idx s = p
    · simp [h1]
    · by_cases h2 : idx s = q
      · have h3 : q ≠ p := fun e => h1 (h2.trans e)
        simp [h2, h3]
      · have e1 : Nat.beq (idx s) p = false := Bool.eq_false_iff.mpr fun h => h1 (Nat.eq_of_beq_eq_true h)
        have e2 : Nat.beq (idx s) q = false := Bool.eq_false_iff.mpr fun h => h2 (Nat.eq_of_beq_eq_true h)
        have e3 : (idx s == p) = false := by simpa using h1
        have e4 : (idx s == q) = false := by simpa using h2
        rw [e1, e2, e3, e4]
        simp only [Bool.false_eq_true, if_false, Bool.or_self]
        have := ih (s + 1) k
        rw [← Nat.add_assoc] at this
        rw [this]
        generalize (List.range' (s + 1) n).find? (fun i => idx i == p || idx i == q) = o
        cases o with
        | none => simp only; lia
        | some i => rfl
theorem idx_eq {ws : List Str} (nd : ws.Nodup) {p : Nat} {one : Str} (hp : ws[p]? = some one) (y : Str) : (y == one) = (ws.idxOf y == p) := by
  obtain ⟨hlt, rfl⟩ := List.getElem?_eq_some_iff.mp hp
  rw [Bool.eq_iff_iff]
  simp only [beq_iff_eq]
  constructor
  · rintro rfl
    exact List.Nodup.idxOf_getElem nd p hlt
  · intro h
    have h2 : ws.idxOf y < ws.length := by lia
    have h3 := List.getElem_idxOf h2
    subst h
    exact h3.symm
/-- the code of a row: twice its end, and one more where the one word ends it -/
theorem code_facts {ws : List Str} (nd : ws.Nodup) {p q size T : Nat} {one other x : Str} (hp : ws[p]? = some one) (hq : ws[q]? = some other) (h1 : one.length = size) (hx : x.length = T) (hT : size ≤ T) :
    walkedF x one other = ((scan p q (winOf ws size T x) size / 2 : Nat) : Int) ∧ (walkedF x one other ≤ (T : Int) → wordOf one (x, walkedF x one other) = (scan p q (winOf ws size T x) size % 2 == 1)) := by
  have hs := scan_find p q (fun i => ws.idxOf (sub x i (i + size))) (T + 1 - size) 0 size
  rw [← List.range_eq_range'] at hs
  have hhit : hit x one other = fun i => (ws.idxOf (sub x i (i + size)) == p || ws.idxOf (sub x i (i + size)) == q) := by
    funext i
    unfold hit
    rw [h1, idx_eq nd hp, idx_eq nd hq]
  unfold winOf
  simp only [Nat.add_zero] at hs
  rw [hs]
  unfold walkedF
  rw [hhit, hx, h1]
  cases hf : (List.range (T + 1 - size)).find? (fun i => ws.idxOf (sub x i (i + size)) == p || ws.idxOf (sub x i (i + size)) == q) with
  | none =>
    simp only
    refine ⟨by lia, fun h => by lia⟩
  | some i =>
    simp only
    have hi : i < T + 1 - size := List.mem_range.mp (List.mem_of_find?_eq_some hf)
    refine ⟨by split <;> lia, fun h => ?_⟩
    unfold wordOf
    simp only
    have e : (((size + i : Nat) : Int) - ((one.length : Nat) : Int)) = ((i : Nat) : Int) := by rw [h1]; lia
    rw [e, slice_sub x (a := i) (b := size + i) (by lia) (by lia), Nat.add_comm size i, idx_eq nd hp]
    split <;> simp_all <;> lia
noncomputable def cntEq (k : Nat) : List Nat → Nat
  | [] => 0
  | c :: r => bif Nat.beq c k then Nat.succ (cntEq k r) else cntEq k r
noncomputable def cntGe (k : Nat) : List Nat → Nat
  | [] => 0
  | c :: r => bif Nat.ble k c then Nat.succ (cntGe k r) else cntGe k r
theorem cntEq_filter {xs : List Str} {P : Str → Bool} {c : Str → Nat} {k : Nat} (h : ∀ x ∈ xs, P x = Nat.beq (c x) k) : (xs.filter P).length = cntEq k (xs.map c) := by
  induction xs with
  | nil => rfl
  | cons x r ih =>
    rw [List.filter_cons, h x (.head _), List.map_cons]
    unfold cntEq
    cases Nat.beq (c x) k <;> simp [ih fun y hy => h y (.tail _ hy)]
theorem cntGe_filter {xs : List Str} {P : Str → Bool} {c : Str → Nat} {k : Nat} (h : ∀ x ∈ xs, P x = Nat.ble k (c x)) : (xs.filter P).length = cntGe k (xs.map c) := by
  induction xs with
  | nil => rfl
  | cons x r ih =>
    rw [List.filter_cons, h x (.head _), List.map_cons]
    unfold cntGe
    cases Nat.ble k (c x) <;> simp [ih fun y hy => h y (.tail _ hy)]
noncomputable def chkD (X kinds : Nat) : Nat → Nat → List Nat → Bool
  | q, _, [] => Nat.beq q 0
  | q, f, n :: r => Nat.beq (Nat.mul (Nat.mod q X) f) n && chkD X kinds (Nat.div q X) (Nat.mul f kinds) r
theorem chkD_facts (X kinds : Nat) : ∀ (ns : List Nat) (q f : Nat), chkD X kinds q f ns = true → (∀ j n, ns[j]? = some n → (q / X ^ j % X) * (f * kinds ^ j) = n) ∧ q / X ^ ns.length = 0
  | [], q, f, h => by
    have := Nat.eq_of_beq_eq_true h
    subst this
    exact ⟨fun j n e => by simp at e, by simp⟩
  | n :: r, q, f, h => by
    simp only [chkD, Bool.and_eq_true] at h
    have h1 : q % X * f = n := Nat.eq_of_beq_eq_true h.1
    have h2 : chkD X kinds (q / X) (f * kinds) r = true := h.2
    obtain ⟨k1, k2⟩ := chkD_facts X kinds r (q / X) (f * kinds) h2
    refine ⟨fun j m e => ?_, ?_⟩
    · cases j with
      | zero => simp at e; subst e; simpa using h1
      | succ j =>
        rw [List.getElem?_cons_succ] at e
        rw [← k1 j m e, Nat.pow_succ, Nat.mul_comm (X ^ j) X, ← Nat.div_div_eq_div_mul, Nat.pow_succ, Nat.mul_assoc f kinds, Nat.mul_comm kinds]
    · rw [List.length_cons, Nat.pow_succ, Nat.mul_comm (X ^ r.length) X, ← Nat.div_div_eq_div_mul]; exact k2
noncomputable def valN (X : Nat) : List Nat → Nat
  | [] => 0
  | d :: r => Nat.add d (Nat.mul X (valN X r))
theorem valF_cast (w : Nat) : ∀ l : List Nat, valF w (l.map fun d : Nat => (d : Int)) = ((valN (2 ^ w) l : Nat) : Int)
  | [] => rfl
  | d :: r => by
    simp only [List.map_cons, valF, valF_cast w r]
    show (d : Int) + 2 ^ w * _ = ((d + 2 ^ w * valN (2 ^ w) r : Nat) : Int)
    push_cast
    rfl
noncomputable def forceN (n : Nat) (k : Nat → Bool) : Bool := match n with
  | 0 => k 0
  | m + 1 => k (Nat.succ m)
theorem forceN_eq (n : Nat) (k : Nat → Bool) : forceN n k = k n := by cases n <;> rfl
noncomputable def forceL : List Nat → (List Nat → Bool) → Bool
  | [], k => k []
  | c :: r, k => forceN c fun c' => forceL r fun r' => k (c' :: r')
theorem forceL_eq : ∀ (l : List Nat) (k : List Nat → Bool), forceL l k = k l
  | [], k => rfl
  | c :: r, k => by unfold forceL; rw [forceN_eq, forceL_eq r]
noncomputable def okA (X kinds T a b : Nat) (ns : List Nat) : Bool :=
  Nat.ble 1 a && Nat.ble (Nat.succ (Nat.mul a (Nat.pow X T))) (Nat.pow X 20) && chkD X kinds (Nat.div (Nat.mul a (Nat.pow X T)) b) 1 ns
noncomputable def okW (kinds T w : Nat) (n1 n2 n3 d11 d12 d21 d22 : List Nat) : Bool :=
  forceN (Nat.pow 2 w) fun X => forceN (valN X d11) fun L11 => forceN (valN X d12) fun L12 => forceN (valN X d21) fun L21 => forceN (valN X d22) fun L22 =>
  Nat.ble (Nat.mul L12 L21) (Nat.mul L11 L22) && Nat.ble kinds X && Nat.ble L21 L22 && Nat.ble L12 L11 &&
  forceN (Nat.sub (Nat.mul L11 L22) (Nat.mul L12 L21)) fun pr => Nat.ble (Nat.add L12 L21) (Nat.add (Nat.add (Nat.mul (Nat.sub X kinds) pr) L11) L22) && Nat.ble (Nat.succ pr) (Nat.pow 2 250) &&
  forceN (Nat.sub (Nat.add (Nat.add (Nat.mul (Nat.sub X kinds) pr) L11) L22) (Nat.add L12 L21)) fun b => Nat.ble (Nat.mul X X) b && Nat.ble (Nat.succ b) (Nat.pow 2 250) &&
  okA X kinds T (Nat.sub L22 L21) b n1 && okA X kinds T (Nat.sub L11 L12) b n2 && okA X kinds T (Nat.mul X pr) b n3
noncomputable def revs (T : Nat) : List Nat := (List.range (T + 1)).map fun j => T - j
theorem cntEq_cons (k c : Nat) (r : List Nat) : cntEq k (c :: r) = bif Nat.beq c k then Nat.succ (cntEq k r) else cntEq k r := rfl
theorem cntGe_cons (k c : Nat) (r : List Nat) : cntGe k (c :: r) = bif Nat.ble k c then Nat.succ (cntGe k r) else cntGe k r := rfl
/-- how often each code stands, one figure to the base 128 a code -/
noncomputable def hist (f : List Nat → Nat) : List (List Nat) → Nat
  | [] => 0
  | l :: r => Nat.add (Nat.pow 128 (f l)) (hist f r)
theorem hist_eq (f : List Nat → Nat) (k : Nat) : ∀ E : List (List Nat), ∃ lo hi, hist f E = lo + 128 ^ k * (cntEq k (E.map f) + 128 * hi) ∧ lo * 128 ≤ E.length * 128 ^ k
  | [] => ⟨0, 0, by simp [hist, cntEq], by simp⟩
  | l :: r => by
    obtain ⟨lo, hi, e1, e2⟩ := hist_eq f k r
    have e3 : hist f (l :: r) = 128 ^ f l + hist f r := rfl
    rw [e3, e1, List.map_cons, cntEq_cons]
    rcases Nat.lt_trichotomy (f l) k with h | h | h
    · have hb : Nat.beq (f l) k = false := Bool.eq_false_iff.mpr fun e => Nat.ne_of_lt h (Nat.eq_of_beq_eq_true e)
      refine ⟨128 ^ f l + lo, hi, by rw [hb]; simp only [cond_false]; lia, ?_⟩
      have : 128 ^ (f l + 1) ≤ 128 ^ k := Nat.pow_le_pow_right (by decide) h
      rw [Nat.pow_succ] at this
      rw [List.length_cons, Nat.add_mul, Nat.add_mul]
      lia
    · subst h
      have e5 : 128 ^ f l * (cntEq (f l) (r.map f) + 1 + 128 * hi) = 128 ^ f l * (cntEq (f l) (r.map f) + 128 * hi) + 128 ^ f l := by
        rw [show cntEq (f l) (r.map f) + 1 + 128 * hi = (cntEq (f l) (r.map f) + 128 * hi) + 1 by lia, Nat.mul_succ]
      refine ⟨lo, hi, by rw [Nat.beq_refl]; simp only [cond_true, Nat.succ_eq_add_one]; rw [e5]; generalize 128 ^ f l * (cntEq (f l) (r.map f) + 128 * hi) = Y; lia, ?_⟩
      rw [List.length_cons, Nat.add_mul]
      lia
    · have hb : Nat.beq (f l) k = false := Bool.eq_false_iff.mpr fun e => Nat.ne_of_gt h (Nat.eq_of_beq_eq_true e)
      obtain ⟨d, hd⟩ : ∃ d, f l = k + (d + 1) := ⟨f l - k - 1, by lia⟩
      refine ⟨lo, hi + 128 ^ d, ?_, ?_⟩
      · have e5 : 128 ^ k * (cntEq k (r.map f) + 128 * (hi + 128 ^ d)) = 128 ^ k * (cntEq k (r.map f) + 128 * hi) + 128 ^ k * (128 ^ d * 128) := by
          rw [← Nat.mul_add, show cntEq k (r.map f) + 128 * (hi + 128 ^ d) = cntEq k (r.map f) + 128 * hi + 128 ^ d * 128 by lia]
        rw [hb, hd]
        simp only [cond_false]
        rw [Nat.pow_add, Nat.pow_succ, e5]
        generalize 128 ^ k * (cntEq k (r.map f) + 128 * hi) = Y
        generalize 128 ^ k * (128 ^ d * 128) = Z
        lia
      · rw [List.length_cons, Nat.add_mul]
        lia
theorem hist_ge (f : List Nat → Nat) (k : Nat) : ∀ E : List (List Nat), ∃ lo hi, hist f E = lo + 128 ^ k * hi ∧ lo * 128 ≤ E.length * 128 ^ k ∧ hi % 127 = cntGe k (E.map f) % 127
  | [] => ⟨0, 0, by simp [hist], by simp, by simp [cntGe]⟩
  | l :: r => by
    obtain ⟨lo, hi, e1, e2, e4⟩ := hist_ge f k r
    have e3 : hist f (l :: r) = 128 ^ f l + hist f r := rfl
    rw [e3, e1, List.map_cons, cntGe_cons]
    by_cases h : k ≤ f l
    · obtain ⟨d, hd⟩ : ∃ d, f l = k + d := ⟨f l - k, by lia⟩
      have hp : 128 ^ d % 127 = 1 := by
        rw [Nat.pow_mod]
        simp
      refine ⟨lo, hi + 128 ^ d, ?_, ?_, ?_⟩
      · rw [hd, Nat.pow_add, Nat.mul_add (128 ^ k)]
        lia
      · rw [List.length_cons, Nat.add_mul]
        lia
      · rw [Nat.ble_eq_true_of_le h]
        simp only [cond_true, Nat.succ_eq_add_one]
        lia
    · have hb : Nat.ble k (f l) = false := Bool.eq_false_iff.mpr fun e => h (Nat.le_of_ble_eq_true e)
      refine ⟨128 ^ f l + lo, hi, by lia, ?_, by rw [hb]; simpa using e4⟩
      have : 128 ^ (f l + 1) ≤ 128 ^ k := Nat.pow_le_pow_right (by decide) (by lia)
      rw [Nat.pow_succ] at this
      rw [List.length_cons, Nat.add_mul, Nat.add_mul]
      lia
theorem cntEq_le (k : Nat) : ∀ E : List Nat, cntEq k E ≤ E.length
  | [] => Nat.le_refl _
  | c :: r => by
    have := cntEq_le k r
    rw [cntEq_cons]
    cases Nat.beq c k <;> simp <;> lia
theorem cntGe_le (k : Nat) : ∀ E : List Nat, cntGe k E ≤ E.length
  | [] => Nat.le_refl _
  | c :: r => by
    have := cntGe_le k r
    rw [cntGe_cons]
    cases Nat.ble k c <;> simp <;> lia
theorem lo_lt {lo n k : Nat} (h : lo * 128 ≤ n * 128 ^ k) (hn : n < 127) : lo < 128 ^ k := by
  have hp : 0 < 128 ^ k := Nat.pow_pos (by decide)
  have : n * 128 ^ k ≤ 127 * 128 ^ k := Nat.mul_le_mul_right _ (by lia)
  lia
theorem hist_digit {f : List Nat → Nat} {k : Nat} {E : List (List Nat)} (hE : E.length < 127) : Nat.mod (Nat.div (hist f E) (Nat.pow 128 k)) 128 = cntEq k (E.map f) := by
  obtain ⟨lo, hi, e1, e2⟩ := hist_eq f k E
  have h1 := lo_lt e2 hE
  have h2 := cntEq_le k (E.map f)
  rw [List.length_map] at h2
  show hist f E / 128 ^ k % 128 = _
  rw [e1, Nat.add_mul_div_left _ _ (Nat.pow_pos (by decide)), Nat.div_eq_of_lt h1]
  lia
theorem hist_sum {f : List Nat → Nat} {k : Nat} {E : List (List Nat)} (hE : E.length < 127) : Nat.mod (Nat.div (hist f E) (Nat.pow 128 k)) 127 = cntGe k (E.map f) := by
  obtain ⟨lo, hi, e1, e2, e3⟩ := hist_ge f k E
  have h1 := lo_lt e2 hE
  have h2 := cntGe_le k (E.map f)
  rw [List.length_map] at h2
  show hist f E / 128 ^ k % 127 = _
  rw [e1, Nat.add_mul_div_left _ _ (Nat.pow_pos (by decide)), Nat.div_eq_of_lt h1, Nat.zero_add, e3]
  lia
noncomputable def okPair (Wn : List (List Nat)) (kinds size T p q : Nat) (d11 d12 d21 d22 : List Nat) : Bool :=
  Nat.ble Wn.length 126 &&
  forceN (hist (fun l => scan p q l size) Wn) fun H =>
  forceL ((revs T).map fun t => Nat.mod (Nat.div H (Nat.pow 128 (2 * t + 1))) 128) fun n1 =>
  forceL ((revs T).map fun t => Nat.mod (Nat.div H (Nat.pow 128 (2 * t))) 128) fun n2 =>
  forceL ((revs T).map fun t => Nat.mod (Nat.div H (Nat.pow 128 (2 * t + 2))) 127) fun n3 =>
  [8, 9, 10, 11, 12, 13, 14, 15].all fun w => okW kinds T w n1 n2 n3 d11 d12 d21 d22

theorem okA_facts {w kinds T a b : Nat} {ns : List Nat} (h : okA (2 ^ w) kinds T a b ns = true) (hn : ns.length = T + 1) (hw : 8 ≤ w) (hw2 : w ≤ 15) (hT : T ≤ 6) (hb : 2 ^ (2 * w) ≤ b) (hb2 : b < 2 ^ 250) :
    CountsOk a b w T ∧ ∀ t n, t ≤ T → ns[T - t]? = some n → ((n : Nat) : Int) = (countsF a b w T).getD t 0 * (kinds : Int) ^ (T - t) := by
  simp only [okA, Bool.and_eq_true] at h
  obtain ⟨⟨h1, h2⟩, h3⟩ := h
  have h1 : 0 < a := Nat.le_of_ble_eq_true h1
  have h2 : a * (2 ^ w) ^ T < (2 ^ w) ^ 20 := Nat.le_of_ble_eq_true h2
  have h3 : chkD (2 ^ w) kinds (a * (2 ^ w) ^ T / b) 1 ns = true := h3
  rw [← Nat.pow_mul] at h2 h3
  rw [← Nat.pow_mul, Nat.mul_comm w 20] at h2
  obtain ⟨k1, k2⟩ := chkD_facts _ _ _ _ _ h3
  rw [hn, ← Nat.pow_mul] at k2
  have hq : a * 2 ^ (w * T) / b < 2 ^ (w * (T + 1)) := by
    rcases Nat.div_eq_zero_iff.mp k2 with e | e
    · exact absurd e (Nat.ne_of_gt (Nat.pow_pos (by decide)))
    · exact e
  refine ⟨countsOk_of h1 hw hw2 hT hb hb2 h2 hq, fun t n ht e => ?_⟩
  rw [countsF_digit (by lia) hq ht]
  have := k1 _ n e
  rw [Nat.one_mul, ← Nat.pow_mul] at this
  rw [← this]
  push_cast
  rfl
theorem revs_get {T t : Nat} (ht : t ≤ T) (f : Nat → Nat) : ((revs T).map f)[T - t]? = some (f t) := by
  unfold revs
  rw [List.map_map, List.getElem?_map, List.getElem?_range (by lia)]
  simp only [Option.map_some, Function.comp]
  rw [show T - (T - t) = t by lia]
theorem revs_len {T : Nat} (f : Nat → Nat) : ((revs T).map f).length = T + 1 := by simp [revs]

theorem code1 {g : Int} {c t T : Nat} {wd : Bool} (ht : t ≤ T) (h1 : g = ((c / 2 : Nat) : Int)) (h2 : g ≤ (T : Int) → wd = (c % 2 == 1)) : (g == (t : Int) && wd && decide (g ≤ (T : Int))) = Nat.beq c (2 * t + 1) := by
  subst h1
  rw [Bool.eq_iff_iff, Nat.beq_eq]
  simp only [Bool.and_eq_true, beq_iff_eq, decide_eq_true_eq]
  constructor
  · rintro ⟨⟨k1, k2⟩, k3⟩
    rw [h2 k3] at k2
    simp at k2
    clear h2
    lia
  · intro k
    have k3 : ((c / 2 : Nat) : Int) ≤ (T : Int) := by clear h2; lia
    rw [h2 k3]
    clear h2
    simp
    lia
theorem code2 {g : Int} {c t T : Nat} {wd : Bool} (ht : t ≤ T) (h1 : g = ((c / 2 : Nat) : Int)) (h2 : g ≤ (T : Int) → wd = (c % 2 == 1)) : (g == (t : Int) && !wd && decide (g ≤ (T : Int))) = Nat.beq c (2 * t) := by
  subst h1
  rw [Bool.eq_iff_iff, Nat.beq_eq]
  simp only [Bool.and_eq_true, beq_iff_eq, decide_eq_true_eq, Bool.not_eq_true']
  constructor
  · rintro ⟨⟨k1, k2⟩, k3⟩
    rw [h2 k3] at k2
    simp at k2
    clear h2
    lia
  · intro k
    have k3 : ((c / 2 : Nat) : Int) ≤ (T : Int) := by clear h2; lia
    rw [h2 k3]
    clear h2
    simp
    lia
theorem code3 {g : Int} {c t : Nat} (h1 : g = ((c / 2 : Nat) : Int)) : decide (g > (t : Int)) = Nat.ble (2 * t + 2) c := by
  subst h1
  rw [Bool.eq_iff_iff, Nat.ble_eq]
  simp only [decide_eq_true_eq]
  lia
theorem sub_mul {a b c d : Nat} (h : b * c ≤ a * d) : (a : Int) * (d : Int) - (b : Int) * (c : Int) = ((a * d - b * c : Nat) : Int) := by
  rw [Int.natCast_sub h]; push_cast; rfl
theorem below_eq {X k pr a b c d : Nat} (h : k ≤ X) (h2 : b + c ≤ (X - k) * pr + a + d) : ((X : Int) - (k : Int)) * (pr : Int) + (a : Int) + (d : Int) - (b : Int) - (c : Int) = (((X - k) * pr + a + d - (b + c) : Nat) : Int) := by
  rw [← Int.natCast_sub h, Int.natCast_sub h2]
  push_cast
  generalize ((X - k : Nat) : Int) * (pr : Int) = Y
  lia
theorem widths {w : Nat} (hw : 8 ≤ w) (hw2 : w < 16) : w ∈ [8, 9, 10, 11, 12, 13, 14, 15] := by
  obtain ⟨j, rfl⟩ : ∃ j, w = 8 + j := ⟨w - 8, by lia⟩
  have : ∀ j, j < 8 → 8 + j ∈ [8, 9, 10, 11, 12, 13, 14, 15] := by decide
  exact this j (by lia)
theorem fine_of {ws xs : List Str} {Wn : List (List Nat)} {kinds size T p q w : Nat} {one other : Str} {d11 d12 d21 d22 : List Nat} (nd : ws.Nodup) (hp : ws[p]? = some one) (hq : ws[q]? = some other)
    (h1 : one.length = size) (h2 : other.length = size) (hxs : ∀ x ∈ xs, x.length = T) (hsT : size ≤ T) (hT : T ≤ 6) (hW : xs.map (winOf ws size T) = Wn)
    (e11 : (List.range size).map (leadDig one one) = d11.map fun d : Nat => (d : Int)) (e12 : (List.range size).map (leadDig one other) = d12.map fun d : Nat => (d : Int))
    (e21 : (List.range size).map (leadDig other one) = d21.map fun d : Nat => (d : Int)) (e22 : (List.range size).map (leadDig other other) = d22.map fun d : Nat => (d : Int))
    (hok : okPair Wn kinds size T p q d11 d12 d21 d22 = true) (hw : 8 ≤ w) (hw2 : w < 16) : Fine xs one other kinds T w := by
  simp only [okPair, forceL_eq, forceN_eq, Bool.and_eq_true] at hok
  obtain ⟨hlen, hok⟩ := hok
  have hlen : Wn.length < 127 := Nat.lt_succ_of_le (Nat.le_of_ble_eq_true hlen)
  simp only [hist_digit hlen, hist_sum hlen] at hok
  have hok := List.all_eq_true.mp hok w (widths hw hw2)
  have l11 : leadF one one w = ((valN (2 ^ w) d11 : Nat) : Int) := by unfold leadF; rw [h1, e11, valF_cast]
  have l12 : leadF one other w = ((valN (2 ^ w) d12 : Nat) : Int) := by unfold leadF; rw [h1, e12, valF_cast]
  have l21 : leadF other one w = ((valN (2 ^ w) d21 : Nat) : Int) := by unfold leadF; rw [h2, e21, valF_cast]
  have l22 : leadF other other w = ((valN (2 ^ w) d22 : Nat) : Int) := by unfold leadF; rw [h2, e22, valF_cast]
  simp only [okW, forceN_eq] at hok
  have hX : Nat.pow 2 w = 2 ^ w := rfl
  rw [hX] at hok
  rw [Fine, l11, l12, l21, l22]
  generalize valN (2 ^ w) d11 = L11 at hok
  generalize valN (2 ^ w) d12 = L12 at hok
  generalize valN (2 ^ w) d21 = L21 at hok
  generalize valN (2 ^ w) d22 = L22 at hok
  simp only [Bool.and_eq_true] at hok
  obtain ⟨⟨⟨⟨g1, g2⟩, g3⟩, g4⟩, ⟨g5, g6⟩, ⟨⟨⟨g7, g8⟩, g9⟩, g10⟩, g11⟩ := hok
  have g1 : L12 * L21 ≤ L11 * L22 := Nat.le_of_ble_eq_true g1
  have g2 : kinds ≤ 2 ^ w := Nat.le_of_ble_eq_true g2
  have g3 : L21 ≤ L22 := Nat.le_of_ble_eq_true g3
  have g4 : L12 ≤ L11 := Nat.le_of_ble_eq_true g4
  obtain ⟨pr, hpr⟩ : ∃ pr, pr = L11 * L22 - L12 * L21 := ⟨_, rfl⟩
  have hpr' : Nat.sub (Nat.mul L11 L22) (Nat.mul L12 L21) = pr := hpr.symm
  rw [hpr'] at g5 g6 g7 g8 g9 g10 g11
  have g5 : L12 + L21 ≤ (2 ^ w - kinds) * pr + L11 + L22 := Nat.le_of_ble_eq_true g5
  have g6 : pr < 2 ^ 250 := Nat.le_of_ble_eq_true g6
  obtain ⟨b, hb⟩ : ∃ b, b = (2 ^ w - kinds) * pr + L11 + L22 - (L12 + L21) := ⟨_, rfl⟩
  have hb' : Nat.sub (Nat.add (Nat.add (Nat.mul (Nat.sub (2 ^ w) kinds) pr) L11) L22) (Nat.add L12 L21) = b := hb.symm
  rw [hb'] at g7 g8 g9 g10 g11
  have g7 : 2 ^ w * 2 ^ w ≤ b := Nat.le_of_ble_eq_true g7
  have g8 : b < 2 ^ 250 := Nat.le_of_ble_eq_true g8
  rw [← Nat.pow_add, ← Nat.two_mul] at g7
  obtain ⟨o1, f1⟩ := okA_facts g9 (revs_len _) hw (Nat.le_of_lt_succ hw2) hT g7 g8
  obtain ⟨o2, f2⟩ := okA_facts g10 (revs_len _) hw (Nat.le_of_lt_succ hw2) hT g7 g8
  obtain ⟨o3, f3⟩ := okA_facts g11 (revs_len _) hw (Nat.le_of_lt_succ hw2) hT g7 g8
  have hE : (Wn.map fun l => scan p q l size) = xs.map fun x => scan p q (winOf ws size T x) size := by rw [← hW, List.map_map]; rfl
  have hcode := fun x (hx : x ∈ xs) => code_facts (p := p) (q := q) nd hp hq h1 (hxs x hx) hsT
  have hw3 : w ≤ 15 := Nat.le_of_lt_succ hw2
  refine ⟨2 ^ w * pr, L22 - L21, L11 - L12, b, pr, ?_, ?_, ?_, rfl, o3, (Int.natCast_sub g3).symm, (Int.natCast_sub g4).symm, o1, o2, fun t ht => ?_, fun t ht => ?_, fun t ht => ?_⟩
  · rw [hpr]; exact sub_mul g1
  · rw [hb, ← below_eq g2 g5]; push_cast; rfl
  · exact Nat.le_trans (intBits_lt (x := (pr : Int)) (B := 250) (Int.natCast_nonneg _) (by exact_mod_cast g6)) (by decide)
  · refine Eq.trans ?_ (f1 t _ ht (revs_get ht _))
    rw [hE]
    exact congrArg Nat.cast (cntEq_filter fun x hx => code1 ht (hcode x hx).1 (hcode x hx).2)
  · refine Eq.trans ?_ (f2 t _ ht (revs_get ht _))
    rw [hE]
    exact congrArg Nat.cast (cntEq_filter fun x hx => code2 ht (hcode x hx).1 (hcode x hx).2)
  · refine Eq.trans ?_ (f3 t _ ht (revs_get ht _))
    rw [hE]
    exact congrArg Nat.cast (cntGe_filter fun x hx => code3 (hcode x hx).1)

/-- all pairs of words -/
noncomputable def digAt (Dn : List (List (List Nat))) (p q : Nat) : List Nat := (Dn.getD p []).getD q []
noncomputable def okFrom (Wn : List (List Nat)) (Dn : List (List (List Nat))) (kinds size T n p : Nat) : Bool := (List.range n).all fun q => Nat.beq p q || okPair Wn kinds size T p q (digAt Dn p p) (digAt Dn p q) (digAt Dn q p) (digAt Dn q q)
noncomputable def okAll (Wn : List (List Nat)) (Dn : List (List (List Nat))) (kinds size T n : Nat) : Bool := (List.range n).all fun p => okFrom Wn Dn kinds size T n p
theorem ok0_0 : okFrom winT0 digT0 2 3 5 8 0 = true := by decide +kernel
theorem ok0_1 : okFrom winT0 digT0 2 3 5 8 1 = true := by decide +kernel
theorem ok0_2 : okFrom winT0 digT0 2 3 5 8 2 = true := by decide +kernel
theorem ok0_3 : okFrom winT0 digT0 2 3 5 8 3 = true := by decide +kernel
theorem ok0_4 : okFrom winT0 digT0 2 3 5 8 4 = true := by decide +kernel
theorem ok0_5 : okFrom winT0 digT0 2 3 5 8 5 = true := by decide +kernel
theorem ok0_6 : okFrom winT0 digT0 2 3 5 8 6 = true := by decide +kernel
theorem ok0_7 : okFrom winT0 digT0 2 3 5 8 7 = true := by decide +kernel
theorem ok0 : ∀ p, p < 8 → okFrom winT0 digT0 2 3 5 8 p = true
  | 0, _ => ok0_0
  | 1, _ => ok0_1
  | 2, _ => ok0_2
  | 3, _ => ok0_3
  | 4, _ => ok0_4
  | 5, _ => ok0_5
  | 6, _ => ok0_6
  | 7, _ => ok0_7
  | p + 8, h => absurd h (by omega)
theorem ok1_0 : okFrom winT1 digT1 3 2 4 9 0 = true := by decide +kernel
theorem ok1_1 : okFrom winT1 digT1 3 2 4 9 1 = true := by decide +kernel
theorem ok1_2 : okFrom winT1 digT1 3 2 4 9 2 = true := by decide +kernel
theorem ok1_3 : okFrom winT1 digT1 3 2 4 9 3 = true := by decide +kernel
theorem ok1_4 : okFrom winT1 digT1 3 2 4 9 4 = true := by decide +kernel
theorem ok1_5 : okFrom winT1 digT1 3 2 4 9 5 = true := by decide +kernel
theorem ok1_6 : okFrom winT1 digT1 3 2 4 9 6 = true := by decide +kernel
theorem ok1_7 : okFrom winT1 digT1 3 2 4 9 7 = true := by decide +kernel
theorem ok1_8 : okFrom winT1 digT1 3 2 4 9 8 = true := by decide +kernel
theorem ok1 : ∀ p, p < 9 → okFrom winT1 digT1 3 2 4 9 p = true
  | 0, _ => ok1_0
  | 1, _ => ok1_1
  | 2, _ => ok1_2
  | 3, _ => ok1_3
  | 4, _ => ok1_4
  | 5, _ => ok1_5
  | 6, _ => ok1_6
  | 7, _ => ok1_7
  | 8, _ => ok1_8
  | p + 9, h => absurd h (by omega)
theorem ok2_0 : okFrom winT2 digT2 2 4 6 16 0 = true := by decide +kernel
theorem ok2_1 : okFrom winT2 digT2 2 4 6 16 1 = true := by decide +kernel
theorem ok2_2 : okFrom winT2 digT2 2 4 6 16 2 = true := by decide +kernel
theorem ok2_3 : okFrom winT2 digT2 2 4 6 16 3 = true := by decide +kernel
theorem ok2_4 : okFrom winT2 digT2 2 4 6 16 4 = true := by decide +kernel
theorem ok2_5 : okFrom winT2 digT2 2 4 6 16 5 = true := by decide +kernel
theorem ok2_6 : okFrom winT2 digT2 2 4 6 16 6 = true := by decide +kernel
theorem ok2_7 : okFrom winT2 digT2 2 4 6 16 7 = true := by decide +kernel
theorem ok2_8 : okFrom winT2 digT2 2 4 6 16 8 = true := by decide +kernel
theorem ok2_9 : okFrom winT2 digT2 2 4 6 16 9 = true := by decide +kernel
theorem ok2_10 : okFrom winT2 digT2 2 4 6 16 10 = true := by decide +kernel
theorem ok2_11 : okFrom winT2 digT2 2 4 6 16 11 = true := by decide +kernel
theorem ok2_12 : okFrom winT2 digT2 2 4 6 16 12 = true := by decide +kernel
theorem ok2_13 : okFrom winT2 digT2 2 4 6 16 13 = true := by decide +kernel
theorem ok2_14 : okFrom winT2 digT2 2 4 6 16 14 = true := by decide +kernel
theorem ok2_15 : okFrom winT2 digT2 2 4 6 16 15 = true := by decide +kernel
theorem ok2 : ∀ p, p < 16 → okFrom winT2 digT2 2 4 6 16 p = true
  | 0, _ => ok2_0
  | 1, _ => ok2_1
  | 2, _ => ok2_2
  | 3, _ => ok2_3
  | 4, _ => ok2_4
  | 5, _ => ok2_5
  | 6, _ => ok2_6
  | 7, _ => ok2_7
  | 8, _ => ok2_8
  | 9, _ => ok2_9
  | 10, _ => ok2_10
  | 11, _ => ok2_11
  | 12, _ => ok2_12
  | 13, _ => ok2_13
  | 14, _ => ok2_14
  | 15, _ => ok2_15
  | p + 16, h => absurd h (by omega)
theorem dig_at {ws : List Str} {Dn : List (List (List Nat))} {size p q : Nat} {one other : Str} (hD : (ws.map fun a => ws.map fun b => (List.range size).map (leadDig a b)) = Dn.map fun r => r.map fun d => d.map fun k : Nat => (k : Int))
    (hp : ws[p]? = some one) (hq : ws[q]? = some other) : (List.range size).map (leadDig one other) = (digAt Dn p q).map fun k : Nat => (k : Int) := by
  have h1 := congrArg (fun l => l[p]?) hD
  simp only [List.getElem?_map, hp, Option.map_some] at h1
  cases hr : Dn[p]? with
  | none => rw [hr] at h1; cases h1
  | some r =>
    rw [hr] at h1
    have h1 := Option.some.inj h1
    have h2 := congrArg (fun l => l[q]?) h1
    simp only [List.getElem?_map, hq, Option.map_some] at h2
    cases hd : r[q]? with
    | none => rw [hd] at h2; cases h2
    | some d =>
      rw [hd] at h2
      have h2 := Option.some.inj h2
      rw [h2]
      unfold digAt
      rw [show Dn.getD p [] = r by rw [List.getD_eq_getElem?_getD, hr]; rfl, List.getD_eq_getElem?_getD, hd]
      rfl
theorem fine_conf {ws xs : List Str} {Wn : List (List Nat)} {Dn : List (List (List Nat))} {kinds size T n p q w : Nat} {one other : Str} (nd : ws.Nodup) (hn : ws.length = n) (hws : ∀ x ∈ ws, x.length = size) (hxs : ∀ x ∈ xs, x.length = T) (hsT : size ≤ T) (hT : T ≤ 6)
    (hW : xs.map (winOf ws size T) = Wn) (hD : (ws.map fun a => ws.map fun b => (List.range size).map (leadDig a b)) = Dn.map fun r => r.map fun d => d.map fun k : Nat => (k : Int))
    (hok : ∀ p, p < n → okFrom Wn Dn kinds size T n p = true) (hp : ws[p]? = some one) (hq : ws[q]? = some other) (hpq : p ≠ q) (hw : 8 ≤ w) (hw2 : w < 16) : Fine xs one other kinds T w := by
  have hpn : p < n := by have := (List.getElem?_eq_some_iff.mp hp).1; omega
  have hqn : q < n := by have := (List.getElem?_eq_some_iff.mp hq).1; omega
  have h1 := List.all_eq_true.mp (hok p hpn) q (List.mem_range.mpr hqn)
  rw [Bool.or_eq_true] at h1
  have h2 := h1.resolve_left fun e => hpq (Nat.eq_of_beq_eq_true e)
  exact fine_of nd hp hq (hws _ (List.mem_of_getElem? hp)) (hws _ (List.mem_of_getElem? hq)) hxs hsT hT hW (dig_at hD hp hp) (dig_at hD hp hq) (dig_at hD hq hp) (dig_at hD hq hq) h2 hw hw2
theorem nd0 : (rowsF (signsOf 2) 3).Nodup := by decide +kernel
theorem nd1 : (rowsF (signsOf 3) 2).Nodup := by decide +kernel
theorem nd2 : (rowsF (signsOf 2) 4).Nodup := by decide +kernel
theorem win0 : (rowsF (signsOf 2) 5).map (winOf (rowsF (signsOf 2) 3) 3 5) = winT0 := by decide +kernel
theorem win1 : (rowsF (signsOf 3) 4).map (winOf (rowsF (signsOf 3) 2) 2 4) = winT1 := by decide +kernel
theorem win2 : (rowsF (signsOf 2) 6).map (winOf (rowsF (signsOf 2) 4) 4 6) = winT2 := by decide +kernel
theorem dig0 : ((rowsF (signsOf 2) 3).map fun a => (rowsF (signsOf 2) 3).map fun b => (List.range 3).map (leadDig a b)) = digT0.map fun r => r.map fun d => d.map fun k : Nat => (k : Int) := by decide +kernel
theorem dig1 : ((rowsF (signsOf 3) 2).map fun a => (rowsF (signsOf 3) 2).map fun b => (List.range 2).map (leadDig a b)) = digT1.map fun r => r.map fun d => d.map fun k : Nat => (k : Int) := by decide +kernel
theorem dig2 : ((rowsF (signsOf 2) 4).map fun a => (rowsF (signsOf 2) 4).map fun b => (List.range 4).map (leadDig a b)) = digT2.map fun r => r.map fun d => d.map fun k : Nat => (k : Int) := by decide +kernel
theorem fine_all {i : Int} {kinds size T p q w : Nat} {one other : Str} (h : Conf i kinds size T) (hp : (rowsF (signsOf kinds) size)[p]? = some one) (hq : (rowsF (signsOf kinds) size)[q]? = some other) (hpq : p ≠ q) (hw : 8 ≤ w) (hw2 : w < 16) :
    Fine (rowsF (signsOf kinds) T) one other kinds T w := by
  obtain ⟨r1, r2⟩ := conf_rows h
  rcases h with ⟨_, rfl, rfl, rfl⟩ | ⟨_, rfl, rfl, rfl⟩ | ⟨_, rfl, rfl, rfl⟩
  · exact fine_conf nd0 (by decide +kernel) (fun x hx => (r1 x hx).1) (fun x hx => (r2 x hx).1) (by decide) (by decide) win0 dig0 ok0 hp hq hpq hw hw2
  · exact fine_conf nd1 (by decide +kernel) (fun x hx => (r1 x hx).1) (fun x hx => (r2 x hx).1) (by decide) (by decide) win1 dig1 ok1 hp hq hpq hw hw2
  · exact fine_conf nd2 (by decide +kernel) (fun x hx => (r1 x hx).1) (fun x hx => (r2 x hx).1) (by decide) (by decide) win2 dig2 ok2 hp hq hpq hw hw2
theorem conf_small {i : Int} {kinds size T : Nat} (h : Conf i kinds size T) : kinds ≤ 3 ∧ (rowsF (signsOf kinds) T).length ≤ 100 := by
  rcases h with ⟨_, rfl, rfl, rfl⟩ | ⟨_, rfl, rfl, rfl⟩ | ⟨_, rfl, rfl, rfl⟩ <;> exact ⟨by decide, by decide +kernel⟩
set_option maxHeartbeats 4000000 in
theorem c_law4 {β : Base} {A : Around} {s : Shared} {h h₁ : Heap} {t₁ : Nat} {L Gd Fd f1 f2 f3 : Addr} {gs : Led} {kinds T w a b pr : Nat} {ys fvs lvs : List Value} {gm : Value → Str × Int}
    {bs₀ : List (Str × Value)} {va v1 v2 v3 v4 : Value} {u3 uw ub up : Tok} {QQ : Flow → Shared → Prop}
    (hA : AOk A 19) (hQ : ∀ h' t', W β h h' [] → QQ (.ret (.bool true)) (S s h' t'))
    (H : W β h h₁ ((Fd, ListO fvs) :: (f3, ListO lvs) :: (Gd, ListO ys) :: (L, NsO (("above", va) :: ("lasting", .ref f3) :: ("seconds", .ref f2) :: ("firsts", .ref f1) :: ("below", .int (b : Nat) ub) :: ("product", .int (pr : Nat) up) :: ("other_other", v4) :: ("other_one", v3) :: ("one_other", v2) :: ("one_one", v1) :: ("width", .int (w : Nat) uw) :: bs₀)) ::
      (L + 1 + 1 + 1 + 1 + 1 + 1 + 1 + 1 + 1 + 1, CellO none) ::   (L + 1 + 1 + 1 + 1 + 1 + 1 + 1, CellO (some (.ref Fd))) ::
      (L + 1 + 1 + 1 + 1 + 1 + 1, CellO (some (.ref Gd))) ::   (L + 1 + 1 + 1, CellO (some (.int (T : Nat) u3))) ::
        gs))
    (hg : ∀ h', W β h h' gs → ∀ v ∈ ys, GameOk h' gm v) (hy : ys.length ≤ 1000) (hlv : lvs.length ≤ 1000) (hT : T ≤ 6) (hk : kinds ≤ 3) (hw : w ≤ 15)
    (hf : IntsAre fvs ((List.range (T + 1)).map fun i => (kinds : Int) ^ (T - i)))
    (hpr : Builtin.Int.intBits ((pr : Nat) : Int) ≤ 1000) (ha : a = 2 ^ w * pr) (hok : CountsOk a b w T)
    (hF : ∀ t, t ≤ T → cntF gm ys (fun e => decide (e > (t : Int))) = (countsF a b w T).getD t 0 * (kinds : Int) ^ (T - t))
    (hL : (lvs.length : Int) = (countsF a b w T).getD T 0) :
    wpAny β.M A (execs ((bodyOf (fdAt β 124)).drop 19) (envX "law" (fdAt β 124).scope L 124 (.ref 123) (cellsFrom (L + 1) (fdAt β 124).scope.names []))) QQ NoE (S s h₁ t₁) := by
  walk_at "lit"
  repeat (walk_at "st")
  refine r_pow (by walk_at "om") (by rw [show Builtin.Int.intBits (2 : Int) = 2 by decide]; (first | lia | omega)) ?_
  intro _ _
  have e2 : ((2 : Int) ^ ((w : Nat) : Int).toNat) = ((2 ^ w : Nat) : Int) := by rw [Int.toNat_natCast]; push_cast; rfl
  rw [e2]
  have hp := intBits_lt (x := ((2 ^ w : Nat) : Int)) (B := w + 1) (Int.natCast_nonneg _) (by
    have : 2 ^ w < 2 ^ (w + 1) := Nat.pow_lt_pow_right (by decide) (by walk_at "om")
    exact_mod_cast this)
  repeat (walk_at "st")
  refine r_mul (mulOk (by walk_at "om") (by walk_at "om")) ?_
  intro _ _
  have e3 : ((2 ^ w : Nat) : Int) * ((pr : Nat) : Int) = ((a : Nat) : Int) := by rw [ha]; push_cast; rfl
  rw [e3]
  repeat (walk_at "st")
  refine c_counts (hA.mono (by walk_at "om")) H hok ?_
  clear H
  intro Cd cvs h₂ t₂ H hcv
  repeat (walk_at "st")
  have hcl : T + 1 ≤ cvs.length := by rw [hcv.length]; exact countsF_len _ _ _ _
  have hcl2 : cvs.length ≤ 1000 := by
    rw [hcv.length]
    have := hok.2.2.2.2.2.2.2.2
    unfold countsF digF
    simp
    (first | lia | omega)
  have hfl : fvs.length = T + 1 := by rw [hf.length]; simp
  refine r_comp (fun _ => rfl) rfl rfl (by decide) ?_
  repeat (walk_at "st")
  refine r_iterR H (by walk_at "mem") (by walk_at "om") (by walk_at "om") ?_
  clear H
  intro I h₃ t₃ H
  refine ⟨_, _, _, _, I, _, rfl, rfl, H, self_range _ _, ?_⟩
  clear H
  intro D C h₄ t₄ H
  have e4 : ((T : Int) + 1 - 0).toNat = T + 1 := by (first | lia | omega)
  rw [e4] at H
  have H₁ : W β h h₄ ((C, NsO []) :: (C + 1, CellO none) :: (D, ListO []) :: (I, RItO 0 (T + 1 : Nat)) :: _) := H
  clear H
  refine loopRC (N := T + 1) (f := fun t => cntF gm ys (fun e => decide (e > (t : Int)))) hA (by walk_at "om") rfl rfl rfl H₁ ?_ ?_
  · clear H₁
    intro i p q r h₅ t₅ t₆ Q₁ hQ₁ hi H
    repeat (walk_at "st")
    refine r_comp (fun _ => rfl) rfl rfl (by decide) ?_
    repeat (walk_at "st")
    refine r_iterL H (by walk_at "has") ?_
    clear H
    intro J h₆ t₆ H
    refine ⟨_, _, _, _, J, _, rfl, rfl, H, self_list _ _, ?_⟩
    clear H
    intro D' C' h₇ t₇ H
    refine loopGF (gm := gm) (p := fun v => decide ((gm v).2 > (i : Int))) hA (by walk_at "om") (fun h' H => W.has H (by walk_at "mem")) (fun h' H => hg h' (H.sub (by walk_at "sub"))) rfl rfl rfl rfl H ?_ ?_
    · clear H
      intro v lc h₈ t₈ te tr Q₂ hQ₂ hv Hl H
      have hct : Has h₈ (C + 1) (CellO (some (.int i _))) := W.has Hl (by walk_at "mem")
      repeat (walk_at "st")
      exact hQ₂ _ _ H
    · clear H
      intro zs bs h₈ t₈ H hz
      have hz2 := cnt_le gm ys (fun v => decide ((gm v).2 > (i : Int)))
      refine .mk H ?_
      clear H
      intro h₈ t₈ H
      repeat (walk_at "st")
      have hz' : (zs.length : Int) = cntF gm ys (fun e => decide (e > (i : Int))) := congrArg Nat.cast hz
      rw [hz']
      exact hQ₁ _ _ _ (H.sub (.cons _ (List.Sublist.refl _)))
  · clear H₁
    intro zs bs h₅ t₅ H hz
    refine .mk H ?_
    clear H
    intro h₅ t₅ H
    repeat (walk_at "st")
    refine r_comp (fun _ => rfl) rfl rfl (by decide) ?_
    repeat (walk_at "st")
    refine r_iterR H (by walk_at "mem") (by walk_at "om") (by walk_at "om") ?_
    clear H
    intro I' h₆ t₆ H
    refine ⟨_, _, _, _, I', _, rfl, rfl, H, self_range _ _, ?_⟩
    clear H
    intro D' C' h₇ t₇ H
    rw [e4] at H
    refine loopRL (N := T + 1) (f := fun t => (countsF a b w T).getD t 0 * (kinds : Int) ^ (T - t)) hA (by walk_at "om") rfl rfl rfl H ?_ ?_
    · clear H
      intro i lc h₈ t₈ t₉ Q₁ hQ₁ hi Hl H
      have hc1 : Has h₈ (L + 1 + 1 + 1 + 1 + 1 + 1 + 1 + 1 + 1 + 1) (CellO (some (.ref Cd))) := W.has Hl (by walk_at "mem")
      have hc2 : Has h₈ (L + 1 + 1 + 1 + 1 + 1 + 1 + 1) (CellO (some (.ref Fd))) := W.has Hl (by walk_at "mem")
      have hc3 : Has h₈ Cd (ListO cvs) := W.has Hl (by walk_at "mem")
      have hc4 : Has h₈ Fd (ListO fvs) := W.has Hl (by walk_at "mem")
      obtain ⟨y1, hy1⟩ := countsF_get hcv (t := i) (by walk_at "om")
      obtain ⟨y2, hy2⟩ := get_ints hf hi
      repeat (walk_at "st")
      refine r_item hc3 (by walk_at "om") (by walk_at "om") (by rw [Int.toNat_natCast]; exact hy1) rfl ?_
      repeat (walk_at "st")
      refine r_item hc4 (by walk_at "om") (by walk_at "om") (by rw [Int.toNat_natCast]; exact hy2) rfl ?_
      refine r_mul (.of_right (follow_bits hk hT)) ?_
      intro _ _
      exact hQ₁ _ _ _ H
    · clear H
      intro zs' bs' h₈ t₈ H hz'
      refine .mk H ?_
      clear H
      intro h₈ t₈ H
      refine r_neL hA (by walk_at "has") (by walk_at "has") hz hz' ?_
      have he : ((List.range (T + 1)).map fun t : Nat => cntF gm ys (fun e => decide (e > (t : Int)))) = (List.range (T + 1)).map fun t : Nat => (countsF a b w T).getD t 0 * (kinds : Int) ^ (T - t) :=
        List.map_congr_left fun t ht => hF t (by have := List.mem_range.mp ht; (first | lia | omega))
      rw [he]
      refine r_truth ?_
      refine i_not (by simp) ?_
      repeat (walk_at "st")
      obtain ⟨y3, hy3⟩ := countsF_get hcv (t := T) (Nat.le_refl _)
      refine r_item (by walk_at "has") (by walk_at "om") (by walk_at "om") (by rw [Int.toNat_natCast]; exact hy3) rfl ?_
      repeat (walk_at "st")
      rw [hL, show ((countsF a b w T).getD T 0 == (countsF a b w T).getD T 0) = true from beq_self_eq_true _]
      exact hQ _ _ H.drop
set_option maxHeartbeats 4000000 in
theorem c_law3 {β : Base} {A : Around} {s : Shared} {h h₁ : Heap} {t₁ : Nat} {L Gd Fd f1 f2 f3 : Addr} {gs : Led} {kinds T w a a1 a2 b pr : Nat} {oo ot to' tt : Int} {ys fvs lvs wv1 wv2 : List Value} {gm : Value → Str × Int}
    {bs₀ : List (Str × Value)} {c8 c9 : Option Value} {u3 uw ub up v1 v2 v3 v4 : Tok} {QQ : Flow → Shared → Prop}
    (hA : AOk A 19) (hQ : ∀ h' t', W β h h' [] → QQ (.ret (.bool true)) (S s h' t'))
    (H : W β h h₁ ((Fd, ListO fvs) :: (f2, ListO wv2) :: (f1, ListO wv1) :: (f3, ListO lvs) :: (Gd, ListO ys) :: (L, NsO (("lasting", .ref f3) :: ("seconds", .ref f2) :: ("firsts", .ref f1) :: ("below", .int (b : Nat) ub) :: ("product", .int (pr : Nat) up) :: ("other_other", .int oo v4) :: ("other_one", .int ot v3) :: ("one_other", .int to' v2) :: ("one_one", .int tt v1) :: ("width", .int (w : Nat) uw) :: bs₀)) ::
      (L + 1 + 1 + 1 + 1 + 1 + 1 + 1 + 1 + 1 + 1, CellO none) :: (L + 1 + 1 + 1 + 1 + 1 + 1 + 1 + 1 + 1, CellO c9) :: (L + 1 + 1 + 1 + 1 + 1 + 1 + 1 + 1, CellO c8) :: (L + 1 + 1 + 1 + 1 + 1 + 1 + 1, CellO (some (.ref Fd))) ::
      (L + 1 + 1 + 1 + 1 + 1 + 1, CellO (some (.ref Gd))) ::   (L + 1 + 1 + 1, CellO (some (.int (T : Nat) u3))) ::
        gs))
    (hg : ∀ h', W β h h' gs → ∀ v ∈ ys, GameOk h' gm v) (hy : ys.length ≤ 1000) (hlv : lvs.length ≤ 1000) (hT : T ≤ 6) (hk : kinds ≤ 3) (hw : w ≤ 15)
    (hs1 : wv1.Sublist ys) (hs2 : wv2.Sublist ys)
    (hf : IntsAre fvs ((List.range (T + 1)).map fun i => (kinds : Int) ^ (T - i)))
    (hpr : Builtin.Int.intBits ((pr : Nat) : Int) ≤ 1000) (ha : a = 2 ^ w * pr) (hok : CountsOk a b w T) (ha1 : oo - ot = ((a1 : Nat) : Int)) (ha2 : tt - to' = ((a2 : Nat) : Int)) (hok1 : CountsOk a1 b w T) (hok2 : CountsOk a2 b w T)
    (hF1 : ∀ t, t ≤ T → cntF gm wv1 (fun e => e == (t : Int)) = (countsF a1 b w T).getD t 0 * (kinds : Int) ^ (T - t))
    (hF2 : ∀ t, t ≤ T → cntF gm wv2 (fun e => e == (t : Int)) = (countsF a2 b w T).getD t 0 * (kinds : Int) ^ (T - t))
    (hF : ∀ t, t ≤ T → cntF gm ys (fun e => decide (e > (t : Int))) = (countsF a b w T).getD t 0 * (kinds : Int) ^ (T - t))
    (hL : (lvs.length : Int) = (countsF a b w T).getD T 0) :
    wpAny β.M A (execs ((bodyOf (fdAt β 124)).drop 18) (envX "law" (fdAt β 124).scope L 124 (.ref 123) (cellsFrom (L + 1) (fdAt β 124).scope.names []))) QQ NoE (S s h₁ t₁) := by
  walk_at "lit"
  refine r_cons ?_
  refine r_forR (fun _ => rfl) ?_
  repeat (walk_at "st")
  rename_i x1 _ p1 _ _ x2 _ p2 _ _ Ti _ _
  rw [ha1, ha2] at H
  have hfl : fvs.length = T + 1 := by rw [hf.length]; simp
  refine r_iterL H (by walk_at "has") ?_
  clear H
  intro I h₂ t₂ H
  refine r_loopLT (vs := [.ref p1, .ref p2]) hA (fun i l => ∃ c8 c9 bs, l = (Ti, ListO [.ref p1, .ref p2]) :: (p2, TupO [.ref f2, .int (a2 : Nat) x2]) :: (p1, TupO [.ref f1, .int (a1 : Nat) x1]) :: (Fd, ListO fvs) :: (f2, ListO wv2) :: (f1, ListO wv1) :: (f3, ListO lvs) :: (Gd, ListO ys) :: (L, NsO bs) ::
      (L + 1 + 1 + 1 + 1 + 1 + 1 + 1 + 1 + 1 + 1, CellO none) :: (L + 1 + 1 + 1 + 1 + 1 + 1 + 1 + 1 + 1, CellO c9) :: (L + 1 + 1 + 1 + 1 + 1 + 1 + 1 + 1, CellO c8) :: (L + 1 + 1 + 1 + 1 + 1 + 1 + 1, CellO (some (.ref Fd))) ::
      (L + 1 + 1 + 1 + 1 + 1 + 1, CellO (some (.ref Gd))) ::   (L + 1 + 1 + 1, CellO (some (.int (T : Nat) u3))) ::
        gs ∧
      ((i = 0 ∧ bs = (("lasting", .ref f3) :: ("seconds", .ref f2) :: ("firsts", .ref f1) :: ("below", .int (b : Nat) ub) :: ("product", .int (pr : Nat) up) :: ("other_other", .int oo v4) :: ("other_one", .int ot v3) :: ("one_other", .int to' v2) :: ("one_one", .int tt v1) :: ("width", .int (w : Nat) uw) :: bs₀ : List (Str × Value))) ∨ ∃ va, bs = (("above" : Str), va) :: (("lasting", .ref f3) :: ("seconds", .ref f2) :: ("firsts", .ref f1) :: ("below", .int (b : Nat) ub) :: ("product", .int (pr : Nat) up) :: ("other_other", .int oo v4) :: ("other_one", .int ot v3) :: ("one_other", .int to' v2) :: ("one_one", .int tt v1) :: ("width", .int (w : Nat) uw) :: bs₀ : List (Str × Value)))) H ⟨_, _, _, rfl, .inl ⟨rfl, rfl⟩⟩ (go_tup (fun v hv => by simp at hv; rcases hv with rfl | rfl <;> exact ⟨_, rfl⟩)) (fun i l h ⟨_, _, _, e, _⟩ H => by subst e; exact W.has H (.tail _ (.head _))) ?_ ?_
  · clear H
    rintro i v l' h₃ t₃ JJ hJ hv ⟨c8, c9, bs, rfl, hbs⟩ H
    have hbs' : bs = (("lasting", .ref f3) :: ("seconds", .ref f2) :: ("firsts", .ref f1) :: ("below", .int (b : Nat) ub) :: ("product", .int (pr : Nat) up) :: ("other_other", .int oo v4) :: ("other_one", .int ot v3) :: ("one_other", .int to' v2) :: ("one_one", .int tt v1) :: ("width", .int (w : Nat) uw) :: bs₀ : List (Str × Value)) ∨ ∃ va, bs = (("above" : Str), va) :: (("lasting", .ref f3) :: ("seconds", .ref f2) :: ("firsts", .ref f1) :: ("below", .int (b : Nat) ub) :: ("product", .int (pr : Nat) up) :: ("other_other", .int oo v4) :: ("other_one", .int ot v3) :: ("one_other", .int to' v2) :: ("one_one", .int tt v1) :: ("width", .int (w : Nat) uw) :: bs₀ : List (Str × Value)) := hbs.imp (fun x => x.2) id
    clear hbs
    obtain ⟨p, f, wvs, xa, ai, rfl, hpm, hfm, hsub, hokk, hFF⟩ : ∃ (p f : Addr) (wvs : List Value) (xa : Tok) (ai : Nat), v = .ref p ∧ Has h₃ p (TupO [.ref f, .int (ai : Nat) xa]) ∧ (∀ rest, (f, ListO wvs) ∈ (f2, ListO wv2) :: (f1, ListO wv1) :: rest) ∧ wvs.Sublist ys ∧ CountsOk ai b w T ∧
        (∀ t, t ≤ T → cntF gm wvs (fun e => e == (t : Int)) = (countsF ai b w T).getD t 0 * (kinds : Int) ^ (T - t)) := by
      rcases i with _ | _ | i
      · cases hv
        exact ⟨p1, f1, wv1, x1, a1, rfl, W.has H (by walk_at "mem"), fun _ => .tail _ (.head _), hs1, hok1, hF1⟩
      · cases hv
        exact ⟨p2, f2, wv2, x2, a2, rfl, W.has H (by walk_at "mem"), fun _ => .head _, hs2, hok2, hF2⟩
      · simp at hv
    have hwl : wvs.length ≤ ys.length := hsub.length_le
    refine r_unpack2 hA H hpm rfl ?_
    clear H
    intro h₄ t₄ H
    refine wpAny_assign_Name ?_
    walk_at "st"
    refine wpAny_assign_Name (r_storeJ H rfl rfl hbs' (by walk_at "upd") ?_)
    clear H
    intro h₅ t₅ H
    repeat (walk_at "st")
    refine c_counts (hA.mono (by walk_at "om")) H hokk ?_
    clear H
    intro Cd cvs h₂ t₂ H hcv
    have hcl : T + 1 ≤ cvs.length := by rw [hcv.length]; exact countsF_len _ _ _ _
    have hcl2 : cvs.length ≤ 1000 := by
      rw [hcv.length]
      have := hokk.2.2.2.2.2.2.2.2
      unfold countsF digF
      simp
      (first | lia | omega)
    repeat (walk_at "st")
    refine r_comp (fun _ => rfl) rfl rfl (by decide) ?_
    repeat (walk_at "st")
    refine r_iterR H (by walk_at "mem") (by walk_at "om") (by walk_at "om") ?_
    clear H
    intro I₁ h₃ t₃ H
    refine ⟨_, _, _, _, I₁, _, rfl, rfl, H, self_range _ _, ?_⟩
    clear H
    intro D C h₄ t₄ H
    have e4 : ((T : Int) + 1 - 0).toNat = T + 1 := by (first | lia | omega)
    rw [e4] at H
    have H₁ : W β h h₄ ((C, NsO []) :: (C + 1, CellO none) :: (D, ListO []) :: (I₁, RItO 0 (T + 1 : Nat)) :: _) := H
    clear H
    refine loopRC (N := T + 1) (f := fun t => cntF gm wvs (fun e => e == (t : Int))) hA (by walk_at "om") rfl rfl rfl H₁ ?_ ?_
    · clear H₁
      intro i p q r h₅ t₅ t₆ Q₁ hQ₁ hi H
      repeat (walk_at "st")
      refine r_comp (fun _ => rfl) rfl rfl (by decide) ?_
      repeat (walk_at "st")
      refine r_iterL (vs := wvs) H (W.has H (by repeat (first | exact hfm _ | apply List.Mem.tail))) ?_
      clear H
      intro J h₆ t₆ H
      refine ⟨_, _, _, _, J, _, rfl, rfl, H, self_list _ _, ?_⟩
      clear H
      intro D' C' h₇ t₇ H
      refine loopGF (gm := gm) (p := fun v => (gm v).2 == (i : Int)) hA (by walk_at "om") (fun h' H => W.has H (by repeat (first | exact hfm _ | apply List.Mem.tail))) (fun h' H v hv => hg h' (H.sub (by walk_at "sub")) v (hsub.subset hv)) rfl rfl rfl rfl H ?_ ?_
      · clear H
        intro v lc h₈ t₈ te tr Q₂ hQ₂ hv Hl H
        have hct : Has h₈ (C + 1) (CellO (some (.int i _))) := W.has Hl (by walk_at "mem")
        repeat (walk_at "st")
        exact hQ₂ _ _ H
      · clear H
        intro zs bs h₈ t₈ H hz
        have hz2 := cnt_le gm wvs (fun v => (gm v).2 == (i : Int))
        refine .mk H ?_
        clear H
        intro h₈ t₈ H
        repeat (walk_at "st")
        have hz' : (zs.length : Int) = cntF gm wvs (fun e => e == (i : Int)) := congrArg Nat.cast hz
        rw [hz']
        exact hQ₁ _ _ _ (H.sub (.cons _ (List.Sublist.refl _)))
    · clear H₁
      intro zs bs h₅ t₅ H hz
      refine .mk H ?_
      clear H
      intro h₅ t₅ H
      repeat (walk_at "st")
      refine r_comp (fun _ => rfl) rfl rfl (by decide) ?_
      repeat (walk_at "st")
      refine r_iterR H (by walk_at "mem") (by walk_at "om") (by walk_at "om") ?_
      clear H
      intro I' h₆ t₆ H
      refine ⟨_, _, _, _, I', _, rfl, rfl, H, self_range _ _, ?_⟩
      clear H
      intro D' C' h₇ t₇ H
      rw [e4] at H
      refine loopRL (N := T + 1) (f := fun t => (countsF ai b w T).getD t 0 * (kinds : Int) ^ (T - t)) hA (by walk_at "om") rfl rfl rfl H ?_ ?_
      · clear H
        intro i lc h₈ t₈ t₉ Q₁ hQ₁ hi Hl H
        have hc1 : Has h₈ (L + 1 + 1 + 1 + 1 + 1 + 1 + 1 + 1 + 1) (CellO (some (.ref Cd))) := W.has Hl (by walk_at "mem")
        have hc2 : Has h₈ (L + 1 + 1 + 1 + 1 + 1 + 1 + 1) (CellO (some (.ref Fd))) := W.has Hl (by walk_at "mem")
        have hc3 : Has h₈ Cd (ListO cvs) := W.has Hl (by walk_at "mem")
        have hc4 : Has h₈ Fd (ListO fvs) := W.has Hl (by walk_at "mem")
        obtain ⟨y1, hy1⟩ := countsF_get hcv (t := i) (by walk_at "om")
        obtain ⟨y2, hy2⟩ := get_ints hf hi
        repeat (walk_at "st")
        refine r_item hc3 (by walk_at "om") (by walk_at "om") (by rw [Int.toNat_natCast]; exact hy1) rfl ?_
        repeat (walk_at "st")
        refine r_item hc4 (by walk_at "om") (by walk_at "om") (by rw [Int.toNat_natCast]; exact hy2) rfl ?_
        refine r_mul (.of_right (follow_bits hk hT)) ?_
        intro _ _
        exact hQ₁ _ _ _ H
      · clear H
        intro zs' bs' h₈ t₈ H hz'
        refine .mk H ?_
        clear H
        intro h₈ t₈ H
        refine r_neL hA (by walk_at "has") (by walk_at "has") hz hz' ?_
        have he : ((List.range (T + 1)).map fun t : Nat => cntF gm wvs (fun e => e == (t : Int))) = (List.range (T + 1)).map fun t : Nat => (countsF ai b w T).getD t 0 * (kinds : Int) ^ (T - t) :=
          List.map_congr_left fun t ht => hFF t (by have := List.mem_range.mp ht; (first | lia | omega))
        rw [he]
        refine r_truth ?_
        refine i_not (by simp) ?_
        repeat (walk_at "st")
        exact .next (H.sub (.cons _ (.cons _ (.cons _ (.cons _ (.cons _ (List.Sublist.refl _))))))) (hJ _ ⟨_, _, _, rfl, .inr ⟨_, rfl⟩⟩)
  · clear H
    rintro l' h₃ t₃ ⟨c8, c9, bs, rfl, hbs⟩ H
    obtain ⟨va, rfl⟩ : ∃ va, bs = (("above" : Str), va) :: (("lasting", .ref f3) :: ("seconds", .ref f2) :: ("firsts", .ref f1) :: ("below", .int (b : Nat) ub) :: ("product", .int (pr : Nat) up) :: ("other_other", .int oo v4) :: ("other_one", .int ot v3) :: ("one_other", .int to' v2) :: ("one_one", .int tt v1) :: ("width", .int (w : Nat) uw) :: bs₀ : List (Str × Value)) := hbs.resolve_left fun x => absurd x.1 (by simp)
    refine then_next ?_
    refine c_law4 (va := va) (f3 := f3) (gm := gm) (gs := gs) hA hQ (H.sub (by walk_at "subB")) hg hy hlv hT hk hw hf hpr ha hok hF hL
set_option maxHeartbeats 4000000 in
theorem c_law2 {β : Base} {A : Around} {s : Shared} {h h₁ : Heap} {t₁ : Nat} {L Gd : Addr} {gs : Led} {one other : Str} {kinds T w a a1 a2 b pr : Nat} {ys : List Value} {gm : Value → Str × Int}
    {bs₀ : List (Str × Value)} {u2 u3 u4 u5 uw : Tok} {QQ : Flow → Shared → Prop}
    (hA : AOk A 19) (hQ : ∀ h' t', W β h h' [] → QQ (.ret (.bool true)) (S s h' t'))
    (H : W β h h₁ ((Gd, ListO ys) :: (L, NsO (("width", .int (w : Nat) uw) :: bs₀)) :: (L + 1 + 1 + 1 + 1 + 1 + 1 + 1 + 1 + 1 + 1, CellO none) :: (L + 1 + 1 + 1 + 1 + 1 + 1 + 1 + 1 + 1, CellO none) :: (L + 1 + 1 + 1 + 1 + 1 + 1 + 1 + 1, CellO none) :: (L + 1 + 1 + 1 + 1 + 1 + 1 + 1, CellO none) ::
      (L + 1 + 1 + 1 + 1 + 1 + 1, CellO (some (.ref Gd))) :: (L + 1 + 1 + 1 + 1 + 1, CellO (some (.str other u5))) :: (L + 1 + 1 + 1 + 1, CellO (some (.str one u4))) :: (L + 1 + 1 + 1, CellO (some (.int (T : Nat) u3))) ::
      (L + 1 + 1, CellO (some (.int (kinds : Nat) u2))) ::  gs))
    (hg : ∀ h', W β h h' gs → ∀ v ∈ ys, GameOk h' gm v) (hgm : ∀ v ∈ ys, (gm v).1.length < 100 ∧ (gm v).2 = walkedF (gm v).1 one other) (hy : ys.length ≤ 900) (hT : T ≤ 6) (hk : kinds ≤ 3) (hw8 : 8 ≤ w) (hw : w ≤ 15)
    (h1 : 0 < one.length) (h2 : one.length ≤ 4) (ho : other.length = one.length)
    (hprE : leadF one one w * leadF other other w - leadF one other w * leadF other one w = ((pr : Nat) : Int))
    (hbE : ((2 : Int) ^ w - (kinds : Int)) * ((pr : Nat) : Int) + leadF one one w + leadF other other w - leadF one other w - leadF other one w = ((b : Nat) : Int))
    (hpr : Builtin.Int.intBits ((pr : Nat) : Int) ≤ 1000) (ha : a = 2 ^ w * pr) (hok : CountsOk a b w T)
    (ha1 : leadF other other w - leadF other one w = ((a1 : Nat) : Int)) (ha2 : leadF one one w - leadF one other w = ((a2 : Nat) : Int)) (hok1 : CountsOk a1 b w T) (hok2 : CountsOk a2 b w T)
    (hF1 : ∀ t, t ≤ T → cntF gm ((ys.filter (byEnd gm T)).filter (byWord gm one)) (fun e => e == (t : Int)) = (countsF a1 b w T).getD t 0 * (kinds : Int) ^ (T - t))
    (hF2 : ∀ t, t ≤ T → cntF gm ((ys.filter (byEnd gm T)).filter fun v => !byWord gm one v) (fun e => e == (t : Int)) = (countsF a2 b w T).getD t 0 * (kinds : Int) ^ (T - t))
    (hF : ∀ t, t ≤ T → cntF gm ys (fun e => decide (e > (t : Int))) = (countsF a b w T).getD t 0 * (kinds : Int) ^ (T - t))
    (hL : ((ys.filter fun v => !byEnd gm T v).length : Int) = (countsF a b w T).getD T 0) :
    wpAny β.M A (execs ((bodyOf (fdAt β 124)).drop 9) (envX "law" (fdAt β 124).scope L 124 (.ref 123) (cellsFrom (L + 1) (fdAt β 124).scope.names []))) QQ NoE (S s h₁ t₁) := by
  have hw1 : 1 ≤ w := by (first | lia | omega)
  walk_at "lit"
  repeat (walk_at "st")
  refine r_comp (fun _ => rfl) rfl rfl (by decide) ?_
  repeat (walk_at "st")
  refine r_iterL H (by walk_at "has") ?_
  clear H
  intro I h₂ t₂ H
  refine ⟨_, _, _, _, I, _, rfl, rfl, H, self_list _ _, ?_⟩
  clear H
  intro D C h₃ t₃ H
  refine loopGM (gm := gm) (f := fun v => (gm v).2) hA (by walk_at "om") (fun h' H => W.has H (by walk_at "mem")) (fun h' H => hg h' (H.sub (by walk_at "sub"))) rfl rfl rfl rfl H ?_ ?_
  · clear H
    intro v lc h₈ t₈ te tr Q₂ hQ₂ hv Hl H
    repeat (walk_at "st")
    exact hQ₂ _ _ _ H
  clear H
  intro zs bs h₃ t₃ H hz
  refine .mk H ?_
  clear H
  intro h₃ t₃ H
  repeat (walk_at "st")
  refine r_comp (fun _ => rfl) rfl rfl (by decide) ?_
  repeat (walk_at "st")
  refine r_iterL H (by walk_at "has") ?_
  clear H
  intro I' h₄ t₄ H
  refine ⟨_, _, _, _, I', _, rfl, rfl, H, self_list _ _, ?_⟩
  clear H
  intro D' C' h₅ t₅ H
  refine loopGM (gm := gm) (f := fun v => walkedF (gm v).1 one other) hA (by walk_at "om") (fun h' H => W.has H (by walk_at "mem")) (fun h' H => hg h' (H.sub (by walk_at "sub"))) rfl rfl rfl rfl H ?_ ?_
  · clear H
    intro v lc h₈ t₈ te tr Q₂ hQ₂ hv Hl H
    have hcS : Has h₈ (L + 1 + 1 + 1 + 1) (CellO (some (.str one u4))) := W.has Hl (by walk_at "mem")
    have hcT : Has h₈ (L + 1 + 1 + 1 + 1 + 1) (CellO (some (.str other u5))) := W.has Hl (by walk_at "mem")
    repeat (walk_at "st")
    refine c_walked (hA.mono (by walk_at "om")) H (hgm v hv).1 (by walk_at "om") (by walk_at "om") ?_
    clear H
    intro u h₉ t₉ H
    exact hQ₂ _ _ _ H
  clear H
  intro zs' bs' h₆ t₆ H hz'
  refine .mk H ?_
  clear H
  intro h₆ t₆ H
  refine r_neL hA (by walk_at "has") (by walk_at "has") hz hz' ?_
  rw [show (ys.map fun v => (gm v).2) = ys.map fun v => walkedF (gm v).1 one other from List.map_congr_left fun v hv => (hgm v hv).2]
  refine r_truth ?_
  refine i_not (by simp) ?_
  have H₁ := H.sub (.cons _ (.cons _ (List.Sublist.refl _)))
  clear H
  have H := H₁
  clear H₁
  repeat (walk_at "st")
  have hA13 : AOk A 13 := hA.mono (by walk_at "om")
  refine c_leading hA13 H h1 (by walk_at "om") rfl hw1 (by walk_at "om") ?_
  clear H
  intro v1 h₇ t₇ H
  repeat (walk_at "st")
  refine c_leading hA13 H h1 (by walk_at "om") ho hw1 (by walk_at "om") ?_
  clear H
  intro v2 h₇ t₇ H
  repeat (walk_at "st")
  refine c_leading hA13 H (by walk_at "om") (by walk_at "om") ho.symm hw1 (by walk_at "om") ?_
  clear H
  intro v3 h₇ t₇ H
  repeat (walk_at "st")
  refine c_leading hA13 H (by walk_at "om") (by walk_at "om") rfl hw1 (by walk_at "om") ?_
  clear H
  intro v4 h₇ t₇ H
  repeat (walk_at "st")
  have hb1 := leadF_bits (one := one) (other := one) h2 hw1 hw
  have hb2 := leadF_bits (one := one) (other := other) h2 hw1 hw
  have hb3 := leadF_bits (one := other) (other := one) (by walk_at "om") hw1 hw
  have hb4 := leadF_bits (one := other) (other := other) (by walk_at "om") hw1 hw
  refine r_mul (.of_left (by walk_at "om")) ?_
  intro _ _
  repeat (walk_at "st")
  refine r_mul (.of_left (by walk_at "om")) ?_
  intro _ _
  refine r_sub ?_
  intro _ _
  rw [hprE]
  repeat (walk_at "st")
  refine r_pow (by walk_at "om") (by rw [show Builtin.Int.intBits (2 : Int) = 2 by decide]; (first | lia | omega)) ?_
  intro _ _
  rw [Int.toNat_natCast]
  repeat (walk_at "st")
  have h2w : 2 ^ 8 ≤ 2 ^ w := Nat.pow_le_pow_right (by decide) hw8
  have h2w' : 2 ^ w ≤ 2 ^ 15 := Nat.pow_le_pow_right (by decide) hw
  have h2z : (2 : Int) ^ w = ((2 ^ w : Nat) : Int) := by push_cast; rfl
  refine r_mul (.of_left (Nat.le_trans (intBits_lt (B := 16) (by walk_at "om") (by walk_at "om")) (by decide))) ?_
  intro _ _
  repeat (walk_at "st")
  rw [hbE] at H
  refine c_parted (hA.mono (by walk_at "om")) H (by walk_at "has") (by walk_at "om") (fun v hv => ⟨hg _ (H.sub (by walk_at "sub")) v hv, (hgm v hv).1⟩) (by walk_at "om") ?_
  clear H
  intro tp f1 f2 f3 h₈ t₈ H
  repeat (walk_at "st")
  refine r_comp (fun _ => rfl) rfl rfl (by decide) ?_
  repeat (walk_at "st")
  refine r_iterR H (by walk_at "mem") (by walk_at "om") (by walk_at "om") ?_
  clear H
  intro I₉ h₉ t₉ H
  refine ⟨_, _, _, _, I₉, _, rfl, rfl, H, self_range _ _, ?_⟩
  clear H
  intro Fd C₉ h₁₀ t₁₀ H
  have e4 : ((T : Int) + 1 - 0).toNat = T + 1 := by (first | lia | omega)
  rw [e4] at H
  refine loopRL (N := T + 1) (f := fun i => (kinds : Int) ^ (T - i)) hA (by walk_at "om") rfl rfl rfl H ?_ ?_
  · clear H
    intro i lc h₁₁ t₁₁ t₁₂ Q₂ hQ₂ hi Hl H
    have hcK : Has h₁₁ (L + 1 + 1) (CellO (some (.int (kinds : Nat) u2))) := W.has Hl (by walk_at "mem")
    have hcT : Has h₁₁ (L + 1 + 1 + 1) (CellO (some (.int (T : Nat) u3))) := W.has Hl (by walk_at "mem")
    repeat (walk_at "st")
    refine r_pow (by walk_at "om") ?_ ?_
    · have := intBits_lt (x := (kinds : Int)) (B := 2) (by walk_at "om") (by walk_at "om")
      have h3 : (Builtin.Int.intBits (kinds : Int) : Int) * ((T : Int) - i) ≤ 2 * 6 := Int.mul_le_mul (by walk_at "om") (by walk_at "om") (by walk_at "om") (by walk_at "om")
      (first | lia | omega)
    · intro _ _
      have e5 : ((T : Int) - (i : Int)).toNat = T - i := by (first | lia | omega)
      rw [e5]
      exact hQ₂ _ _ _ H
  clear H
  intro fvs bs₉ h₁₁ t₁₁ H hf
  refine .mk H ?_
  clear H
  intro h₁₁ t₁₁ H
  walk_at "st"
  walk_at "st"
  exact c_law3 (f1 := f1) (f2 := f2) (f3 := f3) (gm := gm) (gs := gs) (Fd := Fd) (c8 := none) (c9 := none) hA hQ (H.sub (by walk_at "subB")) hg (by walk_at "om") (Nat.le_trans (List.length_filter_le _ _) (by walk_at "om")) hT hk hw ((List.filter_sublist).trans List.filter_sublist) ((List.filter_sublist).trans List.filter_sublist) hf hpr ha hok ha1 ha2 hok1 hok2 hF1 hF2 hF hL
noncomputable def sumF (ns : List Int) (k : Int) : Int := (pickNums ns (some k) (some 20) (some 3)).sum
theorem noPylong3 {x : Int} : Builtin.divisionGoesByPylong x 3 = false := noPylong_bits (b := 3) (by decide)

theorem sums3 {ys : List Value} {f : Nat → Int} (h : IntsAre ys ((List.range 3).map f)) : ∃ u0 u1 u2, ys = [.int (f 0) u0, .int (f 1) u1, .int (f 2) u2] := by
  have e : (List.range 3).map f = [f 0, f 1, f 2] := rfl
  rw [e] at h
  cases h with
  | cons n t h => cases h with
    | cons n t h => cases h with
      | cons n t h => cases h with
        | nil => exact ⟨_, _, _, rfl⟩
theorem confs (s2 : Int) {a0 a1 a2 : Addr} : ∃ i T kinds size tosses, s2.fmod 3 = ((i : Nat) : Int) ∧ i < 3 ∧ ([Value.ref a0, .ref a1, .ref a2] : List Value)[i]? = some (.ref T) ∧ Conf i kinds size tosses ∧
    ∀ (h : Heap) (u1 u2 u3 v1 v2 v3 w1 w2 w3 : Tok), Has h a2 (TupO [.int 2 u1, .int 4 u2, .int 6 u3]) → Has h a1 (TupO [.int 3 v1, .int 2 v2, .int 4 v3]) → Has h a0 (TupO [.int 2 w1, .int 3 w2, .int 5 w3]) → ∃ t1 t2 t3, Has h T (TupO [.int kinds t1, .int size t2, .int tosses t3]) := by
  have h1 := Int.fmod_nonneg_of_pos s2 (b := 3) (by decide)
  have h2 := Int.fmod_lt_of_pos s2 (b := 3) (by decide)
  have h3 : s2.fmod 3 = 0 ∨ s2.fmod 3 = 1 ∨ s2.fmod 3 = 2 := by (first | lia | omega)
  rcases h3 with e | e | e
  · exact ⟨0, a0, 2, 3, 5, e, by decide, rfl, .inl ⟨rfl, rfl, rfl, rfl⟩, fun l u1 u2 u3 v1 v2 v3 w1 w2 w3 h1 h2 h3 => ⟨_, _, _, h3⟩⟩
  · exact ⟨1, a1, 3, 2, 4, e, by decide, rfl, .inr (.inl ⟨rfl, rfl, rfl, rfl⟩), fun l u1 u2 u3 v1 v2 v3 w1 w2 w3 h1 h2 h3 => ⟨_, _, _, h2⟩⟩
  · exact ⟨2, a2, 2, 4, 6, e, by decide, rfl, .inr (.inr ⟨rfl, rfl, rfl, rfl⟩), fun l u1 u2 u3 v1 v2 v3 w1 w2 w3 h1 h2 h3 => ⟨_, _, _, h1⟩⟩

theorem fmod_nat {x : Int} {n : Nat} (hn : 0 < n) : ∃ p : Nat, x.fmod (n : Int) = (p : Int) ∧ p < n := by
  have h1 := Int.fmod_nonneg_of_pos x (b := (n : Int)) (by walk_at "om")
  have h2 := Int.fmod_lt_of_pos x (b := (n : Int)) (by walk_at "om")
  exact ⟨(x.fmod n).toNat, by (first | lia | omega), by (first | lia | omega)⟩
theorem behind_nat {x : Int} {n p : Nat} (hn : 2 ≤ n) (hp : p < n) : ∃ q : Nat, ((p : Int) + 1 + x.fmod ((n : Int) - 1)).fmod (n : Int) = (q : Int) ∧ q < n ∧ p ≠ q := by
  obtain ⟨r, hr, hrn⟩ := fmod_nat (x := x) (n := n - 1) (by walk_at "om")
  have e : ((n - 1 : Nat) : Int) = (n : Int) - 1 := by (first | lia | omega)
  rw [e] at hr
  rw [hr]
  obtain ⟨q, hq, hqn⟩ := fmod_nat (x := (p : Int) + 1 + r) (n := n) (by walk_at "om")
  refine ⟨q, hq, hqn, ?_⟩
  rw [Int.fmod_eq_emod_of_nonneg _ (by walk_at "om")] at hq
  intro e
  subst e
  by_cases hc : p + 1 + r < n
  · rw [Int.emod_eq_of_lt (by walk_at "om") (by walk_at "om")] at hq; (first | lia | omega)
  · have := Int.emod_eq_of_lt (a := (p : Int) + 1 + r - n) (b := n) (by walk_at "om") (by walk_at "om")
    rw [Int.sub_emod_right] at this
    (first | lia | omega)
theorem width_nat (x : Int) : ∃ w : Nat, (8 : Int) + x.fmod 8 = (w : Int) ∧ 8 ≤ w ∧ w < 16 := by
  obtain ⟨r, hr, hrn⟩ := fmod_nat (x := x) (n := 8) (by walk_at "om")
  have e : ((8 : Nat) : Int) = 8 := rfl
  rw [e] at hr
  exact ⟨8 + r, by (first | lia | omega), by (first | lia | omega), by (first | lia | omega)⟩

set_option maxHeartbeats 4000000 in
theorem c_law {β : Base} {A : Around} {s : Shared} {h₀ h : Heap} {t : Nat} {l : Led} {Q E : Value → Shared → Prop} {lst : Addr} {vs : List Value} {ns : List Int}
    (hA : AOk A 20) (H : W β h₀ h l) (hl : Has h lst (ListI vs)) (hi : IntsAre vs ns) (hn : ns.length ≤ 63)
    (k : ∀ h' t', W β h₀ h' l → Q (.bool true) (S s h' t')) :
    wpAny β.M A (call (.ref 124) [.ref lst]) Q E (S s h t) := by
  refine r_callC (R := fun v l' => v = .bool true ∧ l' = []) [("script", .ref lst)] [] hA H rfl rfl rfl (.of_eq rfl) rfl (by decide) (fun n => by rfl) rfl rfl rfl ?_ ?_
  · have hvl := hi.length
    clear H hA k
    intro A L h₁ t₁ hA H
    have H₁ : W β h h₁ [(L, NsO []), (L + 1 + 1 + 1 + 1 + 1 + 1 + 1 + 1 + 1 + 1, CellO none), (L + 1 + 1 + 1 + 1 + 1 + 1 + 1 + 1 + 1, CellO none), (L + 1 + 1 + 1 + 1 + 1 + 1 + 1 + 1, CellO none), (L + 1 + 1 + 1 + 1 + 1 + 1 + 1, CellO none), (L + 1 + 1 + 1 + 1 + 1 + 1, CellO none), (L + 1 + 1 + 1 + 1 + 1, CellO none), (L + 1 + 1 + 1 + 1, CellO none), (L + 1 + 1 + 1, CellO none), (L + 1 + 1, CellO none), (L + 1, CellO (some (.ref lst)))] := H
    clear H
    obtain ⟨QQ, hQQ⟩ : ∃ QQ : Flow → Shared → Prop, RetP β s h (fun v l' => v = .bool true ∧ l' = []) = QQ := ⟨_, rfl⟩
    have hQ : ∀ h' t', W β h h' [] → QQ (.ret (.bool true)) (S s h' t') := fun h' t' H => by rw [← hQQ]; exact .ret H (List.Sublist.refl _) ⟨rfl, rfl⟩
    rw [hQQ]
    clear hQQ
    obtain ⟨R, hR⟩ : ∃ R : Led, R = [(L + 1 + 1 + 1 + 1 + 1 + 1 + 1 + 1 + 1 + 1, CellO none), (L + 1 + 1 + 1 + 1 + 1 + 1 + 1 + 1 + 1, CellO none), (L + 1 + 1 + 1 + 1 + 1 + 1 + 1 + 1, CellO none), (L + 1 + 1 + 1 + 1 + 1 + 1 + 1, CellO none), (L + 1 + 1 + 1 + 1 + 1 + 1, CellO none)] := ⟨_, rfl⟩
    have H : W β h h₁ ((L, NsO []) :: (L + 1 + 1 + 1 + 1 + 1, CellO none) :: (L + 1 + 1 + 1 + 1, CellO none) :: (L + 1 + 1 + 1, CellO none) :: (L + 1 + 1, CellO none) :: (L + 1, CellO (some (.ref lst))) :: R) := by
      subst hR
      exact H₁.perm (List.Perm.cons _ (List.perm_append_comm (l₁ := [_, _, _, _, _]) (l₂ := [_, _, _, _, _])))
    clear H₁
    refine r_cons ?_
    refine r_compU (cl := [("script", L + 1)]) rfl (fun _ => rfl) rfl rfl (by decide) ?_
    repeat (walk_at "st")
    refine r_iterR H (by walk_at "mem") (by walk_at "om") (by walk_at "om") ?_
    clear H
    intro I h₂ t₂ H
    refine ⟨_, _, _, _, I, _, rfl, rfl, H, self_range _ _, ?_⟩
    clear H
    intro D C h₃ t₃ H
    refine loopRL (N := 3) (f := fun i => sumF ns i) hA (by walk_at "om") rfl rfl rfl H ?_ ?_
    · clear H
      intro i lc h₄ t₄ t₁ Q₁ hQ₁ hi3 Hl H
      have hcS : Has h₄ (L + 1) (CellO (some (.ref lst))) := W.has Hl (by walk_at "mem")
      repeat (walk_at "st")
      refine r_sliceI H (by walk_at "has") (st := some 3) (.int _ _) (.int _ _) (.int _ _) (by decide) (by walk_at "om") rfl ?_
      clear H
      intro Z h₅ t₅ H
      repeat (walk_at "st")
      refine r_sum hA H (by walk_at "has") (hi.pick _ _ _) ?_
      clear H
      intro u h₆ t₆ H
      exact hQ₁ u _ _ (H.sub (List.sublist_cons_self _ _))
    · clear H
      intro ys bs h₄ t₄ H hys
      refine CompU.mk ?_
      refine wpAny_assign_Name ?_
      repeat (walk_at "st")
      refine ⟨_, _, _, _, _, rfl, H, ?_⟩
      clear H
      intro h₅ t₅ H
      obtain ⟨u0, u1, u2, rfl⟩ := sums3 hys
      clear hys
      repeat (walk_at "st")
      obtain ⟨i3, T, kinds, size, tosses, hi3, hi3', hT, hconf, hmem⟩ := confs (sumF ns (2 : Nat)) (a0 := _) (a1 := _) (a2 := _)
      rw [hi3]
      refine r_item (v := .ref T) (by walk_at "has") (by walk_at "len") (by walk_at "om") (by rw [Int.toNat_natCast]; exact hT) rfl ?_
      obtain ⟨tt1, tt2, tt3, hTT⟩ := hmem _ _ _ _ _ _ _ _ _ _ (by walk_at "has") (by walk_at "has") (by walk_at "has")
      clear hmem hT
      repeat (walk_at "st")
      obtain ⟨hall, hr1, hr2, hs1, hs2, hs3, hn8, hn16⟩ := conf_facts hconf
      refine r_tail_ns H (by have hz := sizeLine_eq; have : ("abc" : Str).length = 3 := rfl; (first | lia | omega)) (by with_unfolding_all exact rfl) (fun _ => rfl) ?_
      clear H
      intro u5 t5 H
      have H₁ := H.sub (.cons _ (.cons _ (.cons _ (.cons _ (.cons_cons _ (.cons _ (.cons_cons _ (.cons_cons _ (.cons_cons _ (.cons_cons _ (.cons_cons _ (.cons _ (List.Sublist.refl R)))))))))))))
      clear H
      have H := H₁
      clear H₁
      repeat (walk_at "st")
      refine c_rows (hA.mono (by walk_at "om")) H hall (by walk_at "om") hr1 ?_
      clear H
      intro Wd wvs h₆ t₆ H hwv
      have hwl : wvs.length = (rowsF (signsOf kinds) size).length := strs_len hwv
      generalize sumF ns ((0 : Nat) : Int) = S0 at H ⊢
      generalize sumF ns ((1 : Nat) : Int) = S1 at H ⊢
      generalize sumF ns ((2 : Nat) : Int) = S2 at H ⊢
      repeat (walk_at "st")
      obtain ⟨p, hp, hpn⟩ : ∃ p : Nat, (S0 + 4).fmod (wvs.length : Int) = (p : Int) ∧ p < wvs.length := fmod_nat (by walk_at "om")
      rw [hp] at H ⊢
      obtain ⟨one, uo, hone, hone'⟩ := strs_get hwv (List.getElem?_eq_getElem hpn)
      refine r_item (v := .str one uo) (by walk_at "has") (by walk_at "len") (by walk_at "om") (by rw [Int.toNat_natCast, List.getElem?_eq_getElem hpn, hone]) rfl ?_
      repeat (walk_at "st")
      obtain ⟨q, hq, hqn, hpq⟩ : ∃ q : Nat, ((p : Int) + 1 + (S1 + 4).fmod ((wvs.length : Int) - 1)).fmod (wvs.length : Int) = (q : Int) ∧ q < wvs.length ∧ p ≠ q := behind_nat (by walk_at "om") hpn
      rw [hq]
      obtain ⟨other, ut, hoth, hoth'⟩ := strs_get hwv (List.getElem?_eq_getElem hqn)
      refine r_item (v := .str other ut) (by walk_at "has") (by walk_at "len") (by walk_at "om") (by rw [Int.toNat_natCast, List.getElem?_eq_getElem hqn, hoth]) rfl ?_
      repeat (walk_at "st")
      obtain ⟨w, hw, hw8, hw16⟩ : ∃ w : Nat, (8 : Int) + (S2.fdiv 3).fmod 8 = (w : Int) ∧ 8 ≤ w ∧ w < 16 := width_nat _
      rw [hw] at H
      have hone := List.mem_of_getElem? hone'
      have hoth := List.mem_of_getElem? hoth'
      obtain ⟨hrows1, hrows2⟩ := conf_rows hconf
      obtain ⟨hl1, hp1⟩ := hrows1 _ hone
      obtain ⟨hl2, hp2⟩ := hrows1 _ hoth
      refine r_comp (fun _ => rfl) rfl rfl (by decide) ?_
      repeat (walk_at "st")
      refine c_rows (hA.mono (by walk_at "om")) H hall (by walk_at "om") hr2 ?_
      clear H
      intro Rd rvs h₆ t₆ H hrv
      have hrl : rvs.length = (rowsF (signsOf kinds) tosses).length := strs_len hrv
      have hr1000 := (hr2 tosses (Nat.le_refl _)).1
      repeat (walk_at "st")
      refine r_iterL H (by walk_at "has") ?_
      clear H
      intro I h₇ t₇ H
      refine ⟨_, _, _, _, I, _, rfl, rfl, H, self_list _ _, ?_⟩
      clear H
      intro Gd C h₈ t₈ H
      refine loopGC (g := fun x => walkedF x one other) hA (by walk_at "om") (fun h' H => W.has H (by walk_at "mem")) hrv rfl rfl rfl H ?_ ?_
      · clear H
        intro x lc h₄ t₄ tr Q₁ hQ₁ hx Hl H
        have hcS : Has h₄ (L + 1 + 1 + 1 + 1) (CellO (some (.str one uo))) := W.has Hl (by walk_at "mem")
        have hcT : Has h₄ (L + 1 + 1 + 1 + 1 + 1) (CellO (some (.str other ut))) := W.has Hl (by walk_at "mem")
        obtain ⟨hxl, hxp⟩ := hrows2 _ hx
        repeat (walk_at "st")
        refine c_halved (hA.mono (by walk_at "om")) H (by walk_at "om") (by walk_at "om") (by walk_at "om") hxp hp1 hp2 ?_
        clear H
        intro u₅ h₅ t₅ H
        repeat (walk_at "st")
        exact hQ₁ _ _ _ _ _ H
      clear H
      intro ys bs gs h₉ t₉ H hgs
      refine .mk H ?_
      clear H
      intro h₉ t₉ H
      have H₁ := H.sub (List.Sublist.cons_cons _ (List.Sublist.append (List.Sublist.refl _) (.cons _ (.cons _ (.cons _ (List.Sublist.refl _))))))
      clear H
      have H₂ := H₁.perm (List.perm_append_comm.cons _)
      clear H₁
      subst hR
      simp only [List.cons_append, List.nil_append] at H₂
      have H := H₂.perm (.cons _ (.cons _ (List.Perm.append_right gs (List.perm_append_comm (l₁ := [_, _, _, _]) (l₂ := [_, _, _, _, _])))))
      clear H₂
      simp only [List.cons_append, List.nil_append] at H
      have Hg := H.sub (l' := gs) (by walk_at "sub")
      have hm := games_gm Hg (fun _ x => x) hgs
      obtain ⟨hk3, hx100⟩ := conf_small hconf
      have hyl : ys.length = (rowsF (signsOf kinds) tosses).length := hgs.1
      obtain ⟨a, a1, a2, b, pr, q1, q2, q3, q4, q5, q6, q7, q8, q9, F1, F2, F3⟩ := fine_all hconf hone' hoth' hpq hw8 hw16
      walk_at "st"
      walk_at "st"
      exact c_law2 (gs := gs) (ys := ys) (gm := gmOf _) hA hQ H (fun h' H' => games_ok (h₁ := h₁) Hg (fun _ x => x) hgs H' (fun _ x => x))
        (fun v hv => ⟨by have := (hrows2 _ (games_mem (h₁ := h₁) Hg (fun _ x => x) hgs v hv).1).1; (first | lia | omega), (games_mem (h₁ := h₁) Hg (fun _ x => x) hgs v hv).2⟩) (by walk_at "om") (by walk_at "om") hk3 hw8 (by walk_at "om") (by walk_at "om") (by walk_at "om") (by walk_at "om")
        q1 q2 q3 q4 q5 q6 q7 q8 q9 (fun t ht => (conv1 hm one tosses t).trans (F1 t ht)) (fun t ht => (conv2 hm one tosses t).trans (F2 t ht)) (fun t ht => (conv3 hm t).trans (F3 t ht))
        ((conv4 hm tosses).trans ((F3 tosses (Nat.le_refl _)).trans (by rw [Nat.sub_self]; simp)))
  · rintro v h' t' l' H ⟨rfl, rfl⟩
    exact k _ _ H
abbrev tabPairs : List (Addr × Addr) := [(34, 30), (41, 37), (104, 100), (118, 114)]
theorem tab_of_pair {P : Addr} (h : IsTab P) : P ∈ tabPairs.map (·.2) := by rcases h with h | h | h | h <;> subst h <;> simp [tabPairs]
theorem pair_tab {P : Addr} (h : P ∈ tabPairs.map (·.2)) : IsTab P := by
  simp only [tabPairs, List.map_cons, List.map_nil, List.mem_cons, List.not_mem_nil, or_false] at h
  exact h
theorem tabs_at {w : World} {h : Heap} (KX : (Mine.hd.heap_39 w.params).In h) (hT : ∀ P, IsTab P → h.get? P = some (tabObj #[])) : TabsAt tabPairs h :=
  List.forall_mem_cons.mpr ⟨⟨codeHd_of_K (c := 34) (P := 30) KX (by kernel_rfl), hT 30 (.inl rfl)⟩,
    List.forall_mem_cons.mpr ⟨⟨codeHd_of_K (c := 41) (P := 37) KX (by kernel_rfl), hT 37 (.inr (.inl rfl))⟩,
      List.forall_mem_cons.mpr ⟨⟨codeHd_of_K (c := 104) (P := 100) KX (by kernel_rfl), hT 100 (.inr (.inr (.inl rfl)))⟩,
        List.forall_mem_cons.mpr ⟨⟨codeHd_of_K (c := 118) (P := 114) KX (by kernel_rfl), hT 114 (.inr (.inr (.inr rfl)))⟩, fun _ h => nomatch h⟩⟩⟩⟩
theorem base_of {w : World} {h : Heap} {mg mb : Str → Option Value} {p : Program} {loose : List Str} {mean : ExcName → Option Value} (T : Top p loose mean mg mb h) (KX : (Mine.hd.heap_39 w.params).In h) (hT : TabsAt tabPairs h) :
    ∃ β : Base, β.w = w ∧ β.mg = mg ∧ W β h h [] := by
  obtain ⟨bm, ob, b1, b2, b3, b4, b5, b6⟩ := T.bmain
  have hnl : (ghostOf h tabPairs).NoLimit := let ⟨mc, a, r⟩ := T.nolimit; ⟨mc, ghost_ns hT a, r⟩
  refine ⟨⟨w, ghostOf h tabPairs, mg, mb, ghost_ns hT T.g, ghost_ns hT T.b, hnl, T.builtins, ghost_K hT KX (by kernel_rfl), fun P hP => hideAll_none _ (tab_of_pair hP), ⟨bm, ob, b1, b2, ghost_get hT b3 (fun q => by rw [q] at b4; cases b4), b4, b5, b6⟩⟩, rfl, rfl, ?_⟩
  refine ⟨fun b o e => of_hideAll _ e, fun P hP => ?_, fun q hq => ?_, .refl h, fun c x => .inl x, (fun _ hp => nomatch hp), .nil⟩
  · obtain ⟨r, hr, rfl⟩ := List.mem_map.mp (tab_of_pair hP)
    exact ⟨_, (hT r hr).2⟩
  · obtain ⟨r, hr, e⟩ := List.mem_map.mp (tab_of_pair (isTab_iff.mpr (List.mem_map_of_mem hq)))
    exact ⟨#[], e ▸ (hT r hr).2, trivial, fun pos => .inl rfl⟩
theorem old_of {β : Base} {h h' : Heap} {l : Led} (H : W β h h' l) (hT : TabsAt tabPairs h) : OldK h h' := by
  refine ⟨fun b o e => ?_, fun b o e => ?_⟩
  · by_cases hb : IsTab b
    · obtain ⟨r, hr, rfl⟩ := List.mem_map.mp (tab_of_pair hb)
      have e2 := (hT r hr).2
      rw [e] at e2
      cases e2
      obtain ⟨q, hq⟩ := tab_q hb
      obtain ⟨ps, e3, _⟩ := H.tabs _ hq
      exact .inr (.inl ⟨((hT r hr).1.tab (hT r hr).2).isCodeTable, rfl, #[], ps, rfl, by rw [Array.empty_append]; exact e3⟩)
    · exact .inl (H.grow b o e hb)
  · by_cases hb : IsTab b
    · exact H.tabs.there hb
    · exact ⟨o, H.grow b o e hb⟩
theorem caller_ok : AOk callerA 20 := ⟨rfl, by decide, by decide⟩
theorem law_addr {β : Base} {fa : Addr} (h : β.mg (Str.ofString "law") = some (.ref fa)) : fa = 124 := by
  have := mg_of (v := .ref 124) β.K β.g (n := Str.ofString "law") (by kernel_rfl)
  rw [h] at this
  cases this
  rfl
end
end Mine
set_option maxRecDepth 100000 in
set_option maxHeartbeats 8000000 in
theorem PySem.Challenge.cw_pe0160_01_holds : PySem.Challenge.rw_pe0160_01.Holds := by
  refine Mine.hd ?_
  k_fill
  intro w s₀ s₁ mg mb G Y fa o pm cd doc dV kV ho hd hcd hD hmg hg args vals as hpre hlay hrd hwl hlo
  have KX := km_in_of Y
  have hT8 := km_tabs_of Y
  refine Ground.open G ?_
  intro T B D TE TW
  clear hd hcd hD D TE TW B
  wrow_args hpre hlay hrd hwl hlo
  rename_i ns _ _ _ _ _ _ _ lst vs _ hL _ _ _ hI _ hn _
  have hT := Mine.tabs_at KX (fun P hP => hT8 P (by rcases hP with h | h | h | h <;> subst h <;> simp))
  obtain ⟨β, rfl, rfl, W0⟩ := Mine.base_of T KX hT
  have hfa := Mine.law_addr hmg
  subst hfa
  clear hmg Y G T KX
  have hlst : Mine.Has s₁.heap lst (Mine.ListI vs) := by
    obtain ⟨o', e, c, n, d⟩ := hL
    refine ⟨⟨o', e, c, n, d⟩, fun t => ?_⟩
    obtain ⟨r, hr, q⟩ := List.mem_map.mp (Mine.tab_of_pair t)
    have e2 := (hT r hr).2
    rw [q, e] at e2
    cases e2
    cases c
  refine Mine.c_law (β := β) (A := callerA) (s := s₁) (h₀ := s₁.heap) (h := s₁.heap) (t := s₁.toks) (l := []) (vs := vs) (ns := ns) Mine.caller_ok W0 hlst hI (by omega) ?_
  intro h' t' H'
  refine ⟨.inl ⟨.bool true, .bool true, [], rfl, fun cls => ?_, .bool true, ?_, fun _ => ⟨.nil, fun a ha => nomatch ha⟩⟩, Mine.old_of H' hT, rfl, .of_eq hg⟩
  · rfl
  · with_unfolding_all rfl
